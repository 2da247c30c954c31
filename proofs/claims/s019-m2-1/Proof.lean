import JvmDerived
import JvmDerived.Pilot.@@N@@Statement
import JvmDerived.Pilot.@@N@@Code
set_option linter.unusedVariables false
set_option linter.unusedSimpArgs false
namespace Jvm.RoadKit
open Sem ClassFile Op Lib Jvm.Stand Jvm.Free Jvm.LawKit
section New
variable {p : Program} {l : Launch} {e : Env} {R : Room} {s : State} {m : MethodId} {args : Array Value} {below : List Frame} {meth : Method} {c : Code} {T : State} {locs : List Loc} {cells slots : Nat}
theorem retI (X : Stand p l e R s m args below meth c T locs cells slots) (hx : p.tables.exec = Jvm.exec) {pc : Nat} {Ls : Array Slot} {z : Int32} {rest : List Value} (hret : meth.sig.returnType = some .int) (hd : decode c.code pc = .ok (.ireturn, 1)) {fs : List Frame}
    (hl : ∀ (f : JFrame) (acts : List Action), f.method = m → f.locked = none → f.entered = [] → (doReturn e (T.setTop f) acts (some (.int z))).1 = T.setFrames fs) : Steps p.tables e below (T.setTop (mkF m pc Ls (.int z :: rest))) (T.setFrames fs) := by
  have hm' : T.vm.method? m = some meth := X.method'
  have hn : narrow .int (.int z) = .int z := rfl
  show Steps p.tables e below (T.setTop { method := m, pc := pc, locals := Ls, stack := _ :: rest, locked := none }) _
  jvm_step X.here [X.here.top, hx, hd, hm', hret, hn]
  first | (intro acts; rw [hl _ acts rfl rfl rfl]) | rw [hl _ _ rfl rfl rfl]
  exact Steps.refl _
end New
end Jvm.RoadKit
namespace Jvm.Pilot.@@N@@
open Jvm Jvm.ClassFile Sem Op Lib Jvm.Free Jvm.Stand Jvm.LawKit Jvm.RoadKit Bundle Jvm.Pilot.@@N@@.Jvm.D
section OwnKit
variable {Z : State} {a0 : Array Value} {n0 : Nat} {p : Program} {l : Launch} {e : Env} {R : Room} {s : State} {m : MethodId} {args : Array Value} {below : List Frame} {meth : Method} {c : Code} {code : ByteArray} {ml : Nat} {ret : Option FieldType} {y : MethodName} {T : State} {h h' : Heap} {k j : Nat} {Q : Option Value → Heap → Prop} {pc nx tgt : Nat} {Ls : Array Slot} {S : List Value}
/-- Java's shifts -/
abbrev jshl (x q : Int32) : Int32 := x <<< (q &&& 31)
abbrev jshr (x q : Int32) : Int32 := x >>> (q &&& 31)
abbrev jushr (x q : Int32) : Int32 := (x.toUInt32 >>> (q &&& 31).toUInt32).toInt32
abbrev jshlL (x : Int64) (q : Int32) : Int64 := x <<< (q &&& 0x3f).toInt64
abbrev jshrL (x : Int64) (q : Int32) : Int64 := x >>> (q &&& 0x3f).toInt64
abbrev jushrL (x : Int64) (q : Int32) : Int64 := (x.toUInt64 >>> (q &&& 0x3f).toInt64.toUInt64).toInt64
abbrev jbyte (x : Int32) : Int32 := x.toInt8.toInt32
/-- the instruction at pc, and the pc behind it -/
def Dec (code : ByteArray) (pc : Nat) (i : Instr) (len nx : Nat) : Prop := decode code pc = .ok (i, len) ∧ nx = pc + len
/-- a jump at pc: the pc behind it, and where it goes -/
def Jmp (code : ByteArray) (pc : Nat) (i : Instr) (o : Int) (nx tgt : Nat) : Prop := decode code pc = .ok (i, 3) ∧ nx = pc + 3 ∧ 0 ≤ (pc : Int) + o ∧ ((pc : Int) + o).toNat = tgt
/-- where a body's run stands: the heap, the cells and slots made; nothing older than n0 was written -/
def Pos (Z : State) (a0 : Array Value) (n0 : Nat) (p : Program) (l : Launch) (e : Env) (R : Room) (s : State) (m : MethodId) (args : Array Value) (below : List Frame) (meth : Method) (c : Code) (code : ByteArray) (ml : Nat) (ret : Option FieldType) (y : MethodName) (T : State) (h : Heap) (k j : Nat) : Prop :=
  p.tables.exec = Jvm.exec ∧ Z.Warmed39 s.vm ∧ c.code = code ∧ c.maxLocals = ml ∧ meth.sig.returnType = ret ∧ s.vm.findClass y.cls = some m.cls ∧ meth.name = y.name ∧ meth.locks = false ∧ T.heap = h ∧ n0 ≤ h.size ∧ (∀ d ∈ tables_1, d.before a0 Z = true) ∧ ∃ locs, Fr n0 locs ∧ Stand p l e R s m args below meth c T locs k j
/-- from the frame f over T the body comes to its end, and Q says with what -/
def Wp (n0 : Nat) (p : Program) (e : Env) (R : Room) (s : State) (below : List Frame) (Q : Option Value → Heap → Prop) (T : State) (f : JFrame) : Prop :=
  ∃ t o, Steps p.tables e below (T.setTop f) t ∧ t.status = .running ∧ Ended t below o ∧ ∃ v L, o = .returned v ∧ (Fr n0 L ∧ n0 ≤ t.heap.size ∧ Q v t.heap) ∧ FrameEnd s o t L R.cells R.slots
/-- a body's contract at one array of arguments and one heap -/
def Ctr (l : Launch) (Z : State) (n0 : Nat) (y : MethodName) (code : ByteArray) (ml : Nat) (ret : Option FieldType) (R : Room) (ws : List Jvm.Cond) (as : Array Value) (h : Heap) (Q : Option Value → Heap → Prop) : Prop :=
  MetFree l y (head1 (Jvm.Cond.code y code ml ret :: ws) R) (fun a U => a = as ∧ Z.Warmed39 U.vm ∧ U.heap = h) (fun _ _ _ _ _ => True) (fun _ U o U' => ∃ v L, o = .returned v ∧ (Fr n0 L ∧ n0 ≤ U'.heap.size ∧ Q v U'.heap) ∧ FrameEnd U o U' L R.cells R.slots)
/-- an array of n places: place i holds g i; it is no older than n0 -/
def Ba (Z : State) (n0 : Nat) (h : Heap) (a : Addr) (ty : FieldType) (n : Nat) (g : Nat → Value) : Prop :=
  n0 ≤ a ∧ n < 2147483648 ∧ ∃ c : Cell, Arr Z h a c ty ∧ c.slots.size = n ∧ ∀ i, i < n → c.slots[i]? = some (g i)
def bI (b : Nat → Int32) : Nat → Value := fun i => .int (b i)
def bJ (b : Nat → Int64) : Nat → Value := fun i => .long (b i)
def upd {α : Type} (b : Nat → α) (i : Nat) (v : α) : Nat → α := fun q => if q = i then v else b q
theorem upd_at {α : Type} (b : Nat → α) (i : Nat) (v : α) : upd b i v i = v := if_pos rfl
theorem upd_ne {α : Type} (b : Nat → α) {i q : Nat} (v : α) (h : q ≠ i) : upd b i v q = b q := if_neg h
theorem Ba.lt {a : Addr} {ty : FieldType} {n : Nat} {g : Nat → Value} (B : Ba Z n0 h a ty n g) : a < h.size := by obtain ⟨-, -, c, A, -⟩ := B; exact A.lt
theorem Ba.ext {a : Addr} {ty : FieldType} {n : Nat} {g : Nat → Value} (B : Ba Z n0 h a ty n g) (E : Ext h h') : Ba Z n0 h' a ty n g := by obtain ⟨q1, q2, c, A, r⟩ := B; exact ⟨q1, q2, c, A.ext E, r⟩
theorem Ba.keep {a : Addr} {ty : FieldType} {n : Nat} {g : Nat → Value} {ws : List Addr} (B : Ba Z n0 h a ty n g) (K : Keep h h' ws) (q : a ∉ ws) : Ba Z n0 h' a ty n g := by obtain ⟨q1, q2, c, A, r⟩ := B; exact ⟨q1, q2, c, ⟨K.2.1 a c A.1 q, A.2⟩, r⟩
theorem Ba.congr {a : Addr} {ty : FieldType} {n : Nat} {g g' : Nat → Value} (B : Ba Z n0 h a ty n g) (q : ∀ i, i < n → g i = g' i) : Ba Z n0 h a ty n g' := by obtain ⟨q1, q2, c, A, r1, r2⟩ := B; exact ⟨q1, q2, c, A, r1, fun i hi => by rw [r2 i hi, q i hi]⟩
theorem ofNat_toInt {n : Nat} (h : n < 2147483648) : (Int32.ofNat n).toInt = n := Int32.toInt_ofNat_of_lt (by omega)
theorem ofNat_clamp {n : Nat} (h : n < 2147483648) : (Int32.ofNat n).toNatClampNeg = n := by rw [Int32.toNatClampNeg, ofNat_toInt h]; rfl
theorem ofNat_nn {n : Nat} (h : n < 2147483648) : ¬ Int32.ofNat n < 0 := by rw [Int32.lt_iff_toInt_lt, ofNat_toInt h, show (0 : Int32).toInt = 0 from rfl]; omega
theorem ofNat_lt {a b : Nat} (ha : a < 2147483648) (hb : b < 2147483648) : Int32.ofNat a < Int32.ofNat b ↔ a < b := by rw [Int32.lt_iff_toInt_lt, ofNat_toInt ha, ofNat_toInt hb]; omega
theorem eq_ofNat {x : Int32} {n : Nat} (hn : n < 2147483648) (h : x.toInt = n) : x = Int32.ofNat n := Int32.toInt_inj.mp (by rw [h, ofNat_toInt hn])
theorem inb {c : Cell} {n i : Nat} (hn : n < 2147483648) (hc : c.slots.size = n) (hi : i < n) : ¬ (Int32.ofNat i < 0 ∨ c.slots.size ≤ (Int32.ofNat i).toNatClampNeg) := by
  rw [hc, ofNat_clamp (by omega)]
  exact fun q => q.elim (ofNat_nn (by omega)) (fun q => by omega)
theorem Pos.sz (X : Pos Z a0 n0 p l e R s m args below meth c code ml ret y T h k j) : n0 ≤ h.size := X.2.2.2.2.2.2.2.2.2.1
theorem Wp.go {T' : State} {f f' : JFrame} (st : ∀ target, Steps p.tables e below (T'.setTop f') target → Steps p.tables e below (T.setTop f) target) (q : Wp n0 p e R s below Q T' f') : Wp n0 p e R s below Q T f := by
  obtain ⟨t, o, h1, r⟩ := q; exact ⟨t, o, st t h1, r⟩
theorem Wp.cast {f f' : JFrame} (q : f = f') (w : Wp n0 p e R s below Q T f') : Wp n0 p e R s below Q T f := q ▸ w
theorem ctr_of {ws : List Jvm.Cond} {as : Array Value} (hp : plainFor y = true) (hw : ∀ d ∈ tables_1, d.before a0 Z = true) (hn : n0 ≤ h.size)
    (body : ∀ p e s m below meth c T, Pos Z a0 n0 p l e R s m as below meth c code ml ret y T h 0 0 → Wp n0 p e R s below Q T (entryFrame m as ml)) : Ctr l Z n0 y code ml ret R ws as h Q := by
  refine MetFree.of_bodySF hp hisR ?_
  intro p e s m args below meth c s₁ Bd hml0 hP hK
  obtain ⟨rfl, hZ, hh⟩ := hP
  exact body p e s m below meth c s₁ ⟨Bd.exec, hZ, Bd.bytes, hml0, Bd.returns, findClass_of_methodNamed Bd.named, (name_of_methodNamed Bd.named Bd.method).1, Bd.notSynchronized, by rw [← hh, Bd.state]; rfl, hn, hw, [], Fr.nil _, Stand.of_body Bd⟩
theorem w_iadd (X : Pos Z a0 n0 p l e R s m args below meth c code ml ret y T h k j) {x z : Int32} (hd : Dec code pc .iadd 1 nx) (q : Wp n0 p e R s below Q T (mkF m nx Ls (.int (x + z) :: S))) : Wp n0 p e R s below Q T (mkF m pc Ls (.int z :: .int x :: S)) := by
  obtain ⟨hx, hZ, hby, hml, hret, hown, hnm, hlk, eT, hn0, hw, locs, N, Y⟩ := X
  obtain ⟨hd, rfl⟩ := hd
  exact Wp.go (fun _ q => XS.iadd Y.here hx rfl (hb hby hd) rfl q) q
theorem w_isub (X : Pos Z a0 n0 p l e R s m args below meth c code ml ret y T h k j) {x z : Int32} (hd : Dec code pc .isub 1 nx) (q : Wp n0 p e R s below Q T (mkF m nx Ls (.int (x - z) :: S))) : Wp n0 p e R s below Q T (mkF m pc Ls (.int z :: .int x :: S)) := by
  obtain ⟨hx, hZ, hby, hml, hret, hown, hnm, hlk, eT, hn0, hw, locs, N, Y⟩ := X
  obtain ⟨hd, rfl⟩ := hd
  exact Wp.go (fun _ q => XS.isub Y.here hx rfl (hb hby hd) rfl q) q
theorem w_imul (X : Pos Z a0 n0 p l e R s m args below meth c code ml ret y T h k j) {x z : Int32} (hd : Dec code pc .imul 1 nx) (q : Wp n0 p e R s below Q T (mkF m nx Ls (.int (x * z) :: S))) : Wp n0 p e R s below Q T (mkF m pc Ls (.int z :: .int x :: S)) := by
  obtain ⟨hx, hZ, hby, hml, hret, hown, hnm, hlk, eT, hn0, hw, locs, N, Y⟩ := X
  obtain ⟨hd, rfl⟩ := hd
  exact Wp.go (fun _ q => XS.imul Y.here hx rfl (hb hby hd) rfl q) q
theorem w_iand (X : Pos Z a0 n0 p l e R s m args below meth c code ml ret y T h k j) {x z : Int32} (hd : Dec code pc .iand 1 nx) (q : Wp n0 p e R s below Q T (mkF m nx Ls (.int (x &&& z) :: S))) : Wp n0 p e R s below Q T (mkF m pc Ls (.int z :: .int x :: S)) := by
  obtain ⟨hx, hZ, hby, hml, hret, hown, hnm, hlk, eT, hn0, hw, locs, N, Y⟩ := X
  obtain ⟨hd, rfl⟩ := hd
  exact Wp.go (fun _ q => XS.iand Y.here hx rfl (hb hby hd) rfl q) q
theorem w_ior (X : Pos Z a0 n0 p l e R s m args below meth c code ml ret y T h k j) {x z : Int32} (hd : Dec code pc .ior 1 nx) (q : Wp n0 p e R s below Q T (mkF m nx Ls (.int (x ||| z) :: S))) : Wp n0 p e R s below Q T (mkF m pc Ls (.int z :: .int x :: S)) := by
  obtain ⟨hx, hZ, hby, hml, hret, hown, hnm, hlk, eT, hn0, hw, locs, N, Y⟩ := X
  obtain ⟨hd, rfl⟩ := hd
  exact Wp.go (fun _ q => XS.ior Y.here hx rfl (hb hby hd) rfl q) q
theorem w_ixor (X : Pos Z a0 n0 p l e R s m args below meth c code ml ret y T h k j) {x z : Int32} (hd : Dec code pc .ixor 1 nx) (q : Wp n0 p e R s below Q T (mkF m nx Ls (.int (x ^^^ z) :: S))) : Wp n0 p e R s below Q T (mkF m pc Ls (.int z :: .int x :: S)) := by
  obtain ⟨hx, hZ, hby, hml, hret, hown, hnm, hlk, eT, hn0, hw, locs, N, Y⟩ := X
  obtain ⟨hd, rfl⟩ := hd
  exact Wp.go (fun _ q => XS.ixor Y.here hx rfl (hb hby hd) rfl q) q
theorem w_ishl (X : Pos Z a0 n0 p l e R s m args below meth c code ml ret y T h k j) {x z : Int32} (hd : Dec code pc .ishl 1 nx) (q : Wp n0 p e R s below Q T (mkF m nx Ls (.int (jshl x z) :: S))) : Wp n0 p e R s below Q T (mkF m pc Ls (.int z :: .int x :: S)) := by
  obtain ⟨hx, hZ, hby, hml, hret, hown, hnm, hlk, eT, hn0, hw, locs, N, Y⟩ := X
  obtain ⟨hd, rfl⟩ := hd
  exact Wp.go (fun _ q => XS.ishl Y.here hx rfl (hb hby hd) rfl q) q
theorem w_ishr (X : Pos Z a0 n0 p l e R s m args below meth c code ml ret y T h k j) {x z : Int32} (hd : Dec code pc .ishr 1 nx) (q : Wp n0 p e R s below Q T (mkF m nx Ls (.int (jshr x z) :: S))) : Wp n0 p e R s below Q T (mkF m pc Ls (.int z :: .int x :: S)) := by
  obtain ⟨hx, hZ, hby, hml, hret, hown, hnm, hlk, eT, hn0, hw, locs, N, Y⟩ := X
  obtain ⟨hd, rfl⟩ := hd
  exact Wp.go (fun _ q => XS.ishr Y.here hx rfl (hb hby hd) rfl q) q
theorem w_iushr (X : Pos Z a0 n0 p l e R s m args below meth c code ml ret y T h k j) {x z : Int32} (hd : Dec code pc .iushr 1 nx) (q : Wp n0 p e R s below Q T (mkF m nx Ls (.int (jushr x z) :: S))) : Wp n0 p e R s below Q T (mkF m pc Ls (.int z :: .int x :: S)) := by
  obtain ⟨hx, hZ, hby, hml, hret, hown, hnm, hlk, eT, hn0, hw, locs, N, Y⟩ := X
  obtain ⟨hd, rfl⟩ := hd
  exact Wp.go (fun _ q => XS.iushr Y.here hx rfl (hb hby hd) rfl q) q
theorem w_ladd (X : Pos Z a0 n0 p l e R s m args below meth c code ml ret y T h k j) {x z : Int64} (hd : Dec code pc .ladd 1 nx) (q : Wp n0 p e R s below Q T (mkF m nx Ls (.long (x + z) :: S))) : Wp n0 p e R s below Q T (mkF m pc Ls (.long z :: .long x :: S)) := by
  obtain ⟨hx, hZ, hby, hml, hret, hown, hnm, hlk, eT, hn0, hw, locs, N, Y⟩ := X
  obtain ⟨hd, rfl⟩ := hd
  exact Wp.go (fun _ q => XS.ladd Y.here hx rfl (hb hby hd) rfl q) q
theorem w_lsub (X : Pos Z a0 n0 p l e R s m args below meth c code ml ret y T h k j) {x z : Int64} (hd : Dec code pc .lsub 1 nx) (q : Wp n0 p e R s below Q T (mkF m nx Ls (.long (x - z) :: S))) : Wp n0 p e R s below Q T (mkF m pc Ls (.long z :: .long x :: S)) := by
  obtain ⟨hx, hZ, hby, hml, hret, hown, hnm, hlk, eT, hn0, hw, locs, N, Y⟩ := X
  obtain ⟨hd, rfl⟩ := hd
  exact Wp.go (fun _ q => XS.lsub Y.here hx rfl (hb hby hd) rfl q) q
theorem w_lmul (X : Pos Z a0 n0 p l e R s m args below meth c code ml ret y T h k j) {x z : Int64} (hd : Dec code pc .lmul 1 nx) (q : Wp n0 p e R s below Q T (mkF m nx Ls (.long (x * z) :: S))) : Wp n0 p e R s below Q T (mkF m pc Ls (.long z :: .long x :: S)) := by
  obtain ⟨hx, hZ, hby, hml, hret, hown, hnm, hlk, eT, hn0, hw, locs, N, Y⟩ := X
  obtain ⟨hd, rfl⟩ := hd
  exact Wp.go (fun _ q => XS.lmul Y.here hx rfl (hb hby hd) rfl q) q
theorem w_land (X : Pos Z a0 n0 p l e R s m args below meth c code ml ret y T h k j) {x z : Int64} (hd : Dec code pc .land 1 nx) (q : Wp n0 p e R s below Q T (mkF m nx Ls (.long (x &&& z) :: S))) : Wp n0 p e R s below Q T (mkF m pc Ls (.long z :: .long x :: S)) := by
  obtain ⟨hx, hZ, hby, hml, hret, hown, hnm, hlk, eT, hn0, hw, locs, N, Y⟩ := X
  obtain ⟨hd, rfl⟩ := hd
  exact Wp.go (fun _ q => XS.land Y.here hx rfl (hb hby hd) rfl q) q
theorem w_lor (X : Pos Z a0 n0 p l e R s m args below meth c code ml ret y T h k j) {x z : Int64} (hd : Dec code pc .lor 1 nx) (q : Wp n0 p e R s below Q T (mkF m nx Ls (.long (x ||| z) :: S))) : Wp n0 p e R s below Q T (mkF m pc Ls (.long z :: .long x :: S)) := by
  obtain ⟨hx, hZ, hby, hml, hret, hown, hnm, hlk, eT, hn0, hw, locs, N, Y⟩ := X
  obtain ⟨hd, rfl⟩ := hd
  exact Wp.go (fun _ q => XS.lor Y.here hx rfl (hb hby hd) rfl q) q
theorem w_lxor (X : Pos Z a0 n0 p l e R s m args below meth c code ml ret y T h k j) {x z : Int64} (hd : Dec code pc .lxor 1 nx) (q : Wp n0 p e R s below Q T (mkF m nx Ls (.long (x ^^^ z) :: S))) : Wp n0 p e R s below Q T (mkF m pc Ls (.long z :: .long x :: S)) := by
  obtain ⟨hx, hZ, hby, hml, hret, hown, hnm, hlk, eT, hn0, hw, locs, N, Y⟩ := X
  obtain ⟨hd, rfl⟩ := hd
  exact Wp.go (fun _ q => XS.lxor Y.here hx rfl (hb hby hd) rfl q) q
theorem w_lshl (X : Pos Z a0 n0 p l e R s m args below meth c code ml ret y T h k j) {x : Int64} {z : Int32} (hd : Dec code pc .lshl 1 nx) (q : Wp n0 p e R s below Q T (mkF m nx Ls (.long (jshlL x z) :: S))) : Wp n0 p e R s below Q T (mkF m pc Ls (.int z :: .long x :: S)) := by
  obtain ⟨hx, hZ, hby, hml, hret, hown, hnm, hlk, eT, hn0, hw, locs, N, Y⟩ := X
  obtain ⟨hd, rfl⟩ := hd
  exact Wp.go (fun _ q => XS.lshl Y.here hx rfl (hb hby hd) rfl q) q
theorem w_lshr (X : Pos Z a0 n0 p l e R s m args below meth c code ml ret y T h k j) {x : Int64} {z : Int32} (hd : Dec code pc .lshr 1 nx) (q : Wp n0 p e R s below Q T (mkF m nx Ls (.long (jshrL x z) :: S))) : Wp n0 p e R s below Q T (mkF m pc Ls (.int z :: .long x :: S)) := by
  obtain ⟨hx, hZ, hby, hml, hret, hown, hnm, hlk, eT, hn0, hw, locs, N, Y⟩ := X
  obtain ⟨hd, rfl⟩ := hd
  exact Wp.go (fun _ q => XS.lshr Y.here hx rfl (hb hby hd) rfl q) q
theorem w_lushr (X : Pos Z a0 n0 p l e R s m args below meth c code ml ret y T h k j) {x : Int64} {z : Int32} (hd : Dec code pc .lushr 1 nx) (q : Wp n0 p e R s below Q T (mkF m nx Ls (.long (jushrL x z) :: S))) : Wp n0 p e R s below Q T (mkF m pc Ls (.int z :: .long x :: S)) := by
  obtain ⟨hx, hZ, hby, hml, hret, hown, hnm, hlk, eT, hn0, hw, locs, N, Y⟩ := X
  obtain ⟨hd, rfl⟩ := hd
  exact Wp.go (fun _ q => XS.lushr Y.here hx rfl (hb hby hd) rfl q) q
theorem w_idiv (X : Pos Z a0 n0 p l e R s m args below meth c code ml ret y T h k j) {x z : Int32} (hd : Dec code pc .idiv 1 nx) (hz : z ≠ 0) (q : Wp n0 p e R s below Q T (mkF m nx Ls (.int (x / z) :: S))) : Wp n0 p e R s below Q T (mkF m pc Ls (.int z :: .int x :: S)) := by
  obtain ⟨hx, hZ, hby, hml, hret, hown, hnm, hlk, eT, hn0, hw, locs, N, Y⟩ := X
  obtain ⟨hd, rfl⟩ := hd
  exact Wp.go (fun _ q => XS.idiv Y.here hx rfl (hb hby hd) rfl hz q) q
theorem w_irem (X : Pos Z a0 n0 p l e R s m args below meth c code ml ret y T h k j) {x z : Int32} (hd : Dec code pc .irem 1 nx) (hz : z ≠ 0) (q : Wp n0 p e R s below Q T (mkF m nx Ls (.int (x % z) :: S))) : Wp n0 p e R s below Q T (mkF m pc Ls (.int z :: .int x :: S)) := by
  obtain ⟨hx, hZ, hby, hml, hret, hown, hnm, hlk, eT, hn0, hw, locs, N, Y⟩ := X
  obtain ⟨hd, rfl⟩ := hd
  exact Wp.go (fun _ q => iremM Y hx rfl (hb hby hd) rfl hz q) q
theorem w_ldiv (X : Pos Z a0 n0 p l e R s m args below meth c code ml ret y T h k j) {x z : Int64} (hd : Dec code pc .ldiv 1 nx) (hz : z ≠ 0) (q : Wp n0 p e R s below Q T (mkF m nx Ls (.long (x / z) :: S))) : Wp n0 p e R s below Q T (mkF m pc Ls (.long z :: .long x :: S)) := by
  obtain ⟨hx, hZ, hby, hml, hret, hown, hnm, hlk, eT, hn0, hw, locs, N, Y⟩ := X
  obtain ⟨hd, rfl⟩ := hd
  exact Wp.go (fun _ q => XS.ldiv Y.here hx rfl (hb hby hd) rfl hz q) q
theorem w_lrem (X : Pos Z a0 n0 p l e R s m args below meth c code ml ret y T h k j) {x z : Int64} (hd : Dec code pc .lrem 1 nx) (hz : z ≠ 0) (q : Wp n0 p e R s below Q T (mkF m nx Ls (.long (x - (x / z) * z) :: S))) : Wp n0 p e R s below Q T (mkF m pc Ls (.long z :: .long x :: S)) := by
  obtain ⟨hx, hZ, hby, hml, hret, hown, hnm, hlk, eT, hn0, hw, locs, N, Y⟩ := X
  obtain ⟨hd, rfl⟩ := hd
  exact Wp.go (fun _ q => XS.lrem Y.here hx rfl (hb hby hd) rfl hz q) q
theorem w_ineg (X : Pos Z a0 n0 p l e R s m args below meth c code ml ret y T h k j) {x : Int32} (hd : Dec code pc .ineg 1 nx) (q : Wp n0 p e R s below Q T (mkF m nx Ls (.int (-x) :: S))) : Wp n0 p e R s below Q T (mkF m pc Ls (.int x :: S)) := by
  obtain ⟨hx, hZ, hby, hml, hret, hown, hnm, hlk, eT, hn0, hw, locs, N, Y⟩ := X
  obtain ⟨hd, rfl⟩ := hd
  exact Wp.go (fun _ q => XS.ineg Y.here hx rfl (hb hby hd) rfl q) q
theorem w_lneg (X : Pos Z a0 n0 p l e R s m args below meth c code ml ret y T h k j) {x : Int64} (hd : Dec code pc .lneg 1 nx) (q : Wp n0 p e R s below Q T (mkF m nx Ls (.long (-x) :: S))) : Wp n0 p e R s below Q T (mkF m pc Ls (.long x :: S)) := by
  obtain ⟨hx, hZ, hby, hml, hret, hown, hnm, hlk, eT, hn0, hw, locs, N, Y⟩ := X
  obtain ⟨hd, rfl⟩ := hd
  exact Wp.go (fun _ q => XS.lneg Y.here hx rfl (hb hby hd) rfl q) q
theorem w_i2l (X : Pos Z a0 n0 p l e R s m args below meth c code ml ret y T h k j) {x : Int32} (hd : Dec code pc .i2l 1 nx) (q : Wp n0 p e R s below Q T (mkF m nx Ls (.long (x.toInt64) :: S))) : Wp n0 p e R s below Q T (mkF m pc Ls (.int x :: S)) := by
  obtain ⟨hx, hZ, hby, hml, hret, hown, hnm, hlk, eT, hn0, hw, locs, N, Y⟩ := X
  obtain ⟨hd, rfl⟩ := hd
  exact Wp.go (fun _ q => XS.i2l Y.here hx rfl (hb hby hd) rfl q) q
theorem w_l2i (X : Pos Z a0 n0 p l e R s m args below meth c code ml ret y T h k j) {x : Int64} (hd : Dec code pc .l2i 1 nx) (q : Wp n0 p e R s below Q T (mkF m nx Ls (.int (x.toInt32) :: S))) : Wp n0 p e R s below Q T (mkF m pc Ls (.long x :: S)) := by
  obtain ⟨hx, hZ, hby, hml, hret, hown, hnm, hlk, eT, hn0, hw, locs, N, Y⟩ := X
  obtain ⟨hd, rfl⟩ := hd
  exact Wp.go (fun _ q => XS.l2i Y.here hx rfl (hb hby hd) rfl q) q
theorem w_i2b (X : Pos Z a0 n0 p l e R s m args below meth c code ml ret y T h k j) {x : Int32} (hd : Dec code pc .i2b 1 nx) (q : Wp n0 p e R s below Q T (mkF m nx Ls (.int (jbyte x) :: S))) : Wp n0 p e R s below Q T (mkF m pc Ls (.int x :: S)) := by
  obtain ⟨hx, hZ, hby, hml, hret, hown, hnm, hlk, eT, hn0, hw, locs, N, Y⟩ := X
  obtain ⟨hd, rfl⟩ := hd
  exact Wp.go (fun _ q => XS.i2b Y.here hx rfl (hb hby hd) rfl q) q
theorem w_iconst (X : Pos Z a0 n0 p l e R s m args below meth c code ml ret y T h k j) {i : Int} {v : Int32} (hd : Dec code pc (.iconst i) 1 nx) (hv : Int32.ofInt i = v) (q : Wp n0 p e R s below Q T (mkF m nx Ls (.int v :: S))) : Wp n0 p e R s below Q T (mkF m pc Ls S) := by
  obtain ⟨hx, hZ, hby, hml, hret, hown, hnm, hlk, eT, hn0, hw, locs, N, Y⟩ := X
  obtain ⟨hd, rfl⟩ := hd
  subst hv
  exact Wp.go (fun _ q => XS.iconst Y.here hx rfl (hb hby hd) q) q
theorem w_bipush (X : Pos Z a0 n0 p l e R s m args below meth c code ml ret y T h k j) {i : Int} {v : Int32} (hd : Dec code pc (.bipush i) 2 nx) (hv : (Int8.ofInt i).toInt32 = v) (q : Wp n0 p e R s below Q T (mkF m nx Ls (.int v :: S))) : Wp n0 p e R s below Q T (mkF m pc Ls S) := by
  obtain ⟨hx, hZ, hby, hml, hret, hown, hnm, hlk, eT, hn0, hw, locs, N, Y⟩ := X
  obtain ⟨hd, rfl⟩ := hd
  subst hv
  exact Wp.go (fun _ q => XS.bipush Y.here hx rfl (hb hby hd) q) q
theorem w_sipush (X : Pos Z a0 n0 p l e R s m args below meth c code ml ret y T h k j) {i : Int} {v : Int32} (hd : Dec code pc (.sipush i) 3 nx) (hv : (Int16.ofInt i).toInt32 = v) (q : Wp n0 p e R s below Q T (mkF m nx Ls (.int v :: S))) : Wp n0 p e R s below Q T (mkF m pc Ls S) := by
  obtain ⟨hx, hZ, hby, hml, hret, hown, hnm, hlk, eT, hn0, hw, locs, N, Y⟩ := X
  obtain ⟨hd, rfl⟩ := hd
  subst hv
  exact Wp.go (fun _ q => XS.sipush Y.here hx rfl (hb hby hd) q) q
theorem w_lconst0 (X : Pos Z a0 n0 p l e R s m args below meth c code ml ret y T h k j) (hd : Dec code pc (.lconst 0) 1 nx) (q : Wp n0 p e R s below Q T (mkF m nx Ls (.long 0 :: S))) : Wp n0 p e R s below Q T (mkF m pc Ls S) := by
  obtain ⟨hx, hZ, hby, hml, hret, hown, hnm, hlk, eT, hn0, hw, locs, N, Y⟩ := X
  obtain ⟨hd, rfl⟩ := hd
  exact Wp.go (fun _ q => XS.lconst Y.here hx rfl (hb hby hd) q) q
theorem w_lconst1 (X : Pos Z a0 n0 p l e R s m args below meth c code ml ret y T h k j) (hd : Dec code pc (.lconst 1) 1 nx) (q : Wp n0 p e R s below Q T (mkF m nx Ls (.long 1 :: S))) : Wp n0 p e R s below Q T (mkF m pc Ls S) := by
  obtain ⟨hx, hZ, hby, hml, hret, hown, hnm, hlk, eT, hn0, hw, locs, N, Y⟩ := X
  obtain ⟨hd, rfl⟩ := hd
  exact Wp.go (fun _ q => XS.lconst Y.here hx rfl (hb hby hd) q) q
theorem w_null (X : Pos Z a0 n0 p l e R s m args below meth c code ml ret y T h k j) (hd : Dec code pc .aconst_null 1 nx) (q : Wp n0 p e R s below Q T (mkF m nx Ls (.null :: S))) : Wp n0 p e R s below Q T (mkF m pc Ls S) := by
  obtain ⟨hx, hZ, hby, hml, hret, hown, hnm, hlk, eT, hn0, hw, locs, N, Y⟩ := X
  obtain ⟨hd, rfl⟩ := hd
  exact Wp.go (fun _ q => XS.aconstNull Y.here hx rfl (hb hby hd) q) q
theorem w_iloadN (X : Pos Z a0 n0 p l e R s m args below meth c code ml ret y T h k j) {w : Fin 4} {v : Int32} (hd : Dec code pc (.iload_n w) 1 nx) (hl : Ls[w.val]? = some (.val (.int v))) (q : Wp n0 p e R s below Q T (mkF m nx Ls (.int v :: S))) : Wp n0 p e R s below Q T (mkF m pc Ls S) := by
  obtain ⟨hx, hZ, hby, hml, hret, hown, hnm, hlk, eT, hn0, hw, locs, N, Y⟩ := X
  obtain ⟨hd, rfl⟩ := hd
  exact Wp.go (fun _ q => XS.iloadN Y.here hx rfl (hb hby hd) hl q) q
theorem w_iload (X : Pos Z a0 n0 p l e R s m args below meth c code ml ret y T h k j) {w : Nat} {v : Int32} (hd : Dec code pc (.iload w) 2 nx) (hl : Ls[w]? = some (.val (.int v))) (q : Wp n0 p e R s below Q T (mkF m nx Ls (.int v :: S))) : Wp n0 p e R s below Q T (mkF m pc Ls S) := by
  obtain ⟨hx, hZ, hby, hml, hret, hown, hnm, hlk, eT, hn0, hw, locs, N, Y⟩ := X
  obtain ⟨hd, rfl⟩ := hd
  exact Wp.go (fun _ q => XS.iload Y.here hx rfl (hb hby hd) hl q) q
theorem w_lloadN (X : Pos Z a0 n0 p l e R s m args below meth c code ml ret y T h k j) {w : Fin 4} {v : Int64} (hd : Dec code pc (.lload_n w) 1 nx) (hl : Ls[w.val]? = some (.val (.long v))) (q : Wp n0 p e R s below Q T (mkF m nx Ls (.long v :: S))) : Wp n0 p e R s below Q T (mkF m pc Ls S) := by
  obtain ⟨hx, hZ, hby, hml, hret, hown, hnm, hlk, eT, hn0, hw, locs, N, Y⟩ := X
  obtain ⟨hd, rfl⟩ := hd
  exact Wp.go (fun _ q => XS.lloadN Y.here hx rfl (hb hby hd) hl q) q
theorem w_lload (X : Pos Z a0 n0 p l e R s m args below meth c code ml ret y T h k j) {w : Nat} {v : Int64} (hd : Dec code pc (.lload w) 2 nx) (hl : Ls[w]? = some (.val (.long v))) (q : Wp n0 p e R s below Q T (mkF m nx Ls (.long v :: S))) : Wp n0 p e R s below Q T (mkF m pc Ls S) := by
  obtain ⟨hx, hZ, hby, hml, hret, hown, hnm, hlk, eT, hn0, hw, locs, N, Y⟩ := X
  obtain ⟨hd, rfl⟩ := hd
  exact Wp.go (fun _ q => XS.lload Y.here hx rfl (hb hby hd) hl q) q
theorem w_aloadN (X : Pos Z a0 n0 p l e R s m args below meth c code ml ret y T h k j) {w : Fin 4} {v : Value} (hd : Dec code pc (.aload_n w) 1 nx) (hl : Ls[w.val]? = some (.val v)) (hv : v.isRef = true) (q : Wp n0 p e R s below Q T (mkF m nx Ls (v :: S))) : Wp n0 p e R s below Q T (mkF m pc Ls S) := by
  obtain ⟨hx, hZ, hby, hml, hret, hown, hnm, hlk, eT, hn0, hw, locs, N, Y⟩ := X
  obtain ⟨hd, rfl⟩ := hd
  exact Wp.go (fun _ q => XS.aloadN Y.here hx rfl (hb hby hd) hl hv q) q
theorem w_astoreN (X : Pos Z a0 n0 p l e R s m args below meth c code ml ret y T h k j) {w : Fin 4} {v : Value} {l' : Array Slot} (hd : Dec code pc (.astore_n w) 1 nx) (hv : v.isRef = true) (hl : storeLocals Ls w.val v = some l') (q : Wp n0 p e R s below Q T (mkF m nx l' S)) : Wp n0 p e R s below Q T (mkF m pc Ls (v :: S)) := by
  obtain ⟨hx, hZ, hby, hml, hret, hown, hnm, hlk, eT, hn0, hw, locs, N, Y⟩ := X
  obtain ⟨hd, rfl⟩ := hd
  exact Wp.go (fun _ q => XS.astoreN Y.here hx rfl (hb hby hd) rfl hv hl q) q
theorem w_istoreN (X : Pos Z a0 n0 p l e R s m args below meth c code ml ret y T h k j) {w : Fin 4} {v : Int32} {l' : Array Slot} (hd : Dec code pc (.istore_n w) 1 nx) (hl : storeLocals Ls w.val (.int v) = some l') (q : Wp n0 p e R s below Q T (mkF m nx l' S)) : Wp n0 p e R s below Q T (mkF m pc Ls (.int v :: S)) := by
  obtain ⟨hx, hZ, hby, hml, hret, hown, hnm, hlk, eT, hn0, hw, locs, N, Y⟩ := X
  obtain ⟨hd, rfl⟩ := hd
  exact Wp.go (fun _ q => XS.istoreN Y.here hx rfl (hb hby hd) rfl hl q) q
theorem w_istoreNE (X : Pos Z a0 n0 p l e R s m args below meth c code ml ret y T h k j) {w : Fin 4} {v : Int32} {l' : Int32 → Array Slot} (hd : Dec code pc (.istore_n w) 1 nx) (hl : ∀ z, storeLocals Ls w.val (.int z) = some (l' z)) (q : ∀ z, z = v → Wp n0 p e R s below Q T (mkF m nx (l' z) S)) : Wp n0 p e R s below Q T (mkF m pc Ls (.int v :: S)) := w_istoreN X hd (hl v) (q v rfl)
theorem w_lstoreN (X : Pos Z a0 n0 p l e R s m args below meth c code ml ret y T h k j) {w : Fin 4} {v : Int64} {l' : Array Slot} (hd : Dec code pc (.lstore_n w) 1 nx) (hl : storeLocals Ls w.val (.long v) = some l') (q : Wp n0 p e R s below Q T (mkF m nx l' S)) : Wp n0 p e R s below Q T (mkF m pc Ls (.long v :: S)) := by
  obtain ⟨hx, hZ, hby, hml, hret, hown, hnm, hlk, eT, hn0, hw, locs, N, Y⟩ := X
  obtain ⟨hd, rfl⟩ := hd
  exact Wp.go (fun _ q => XS.lstoreN Y.here hx rfl (hb hby hd) rfl hl q) q
theorem w_lstoreNE (X : Pos Z a0 n0 p l e R s m args below meth c code ml ret y T h k j) {w : Fin 4} {v : Int64} {l' : Int64 → Array Slot} (hd : Dec code pc (.lstore_n w) 1 nx) (hl : ∀ z, storeLocals Ls w.val (.long z) = some (l' z)) (q : ∀ z, z = v → Wp n0 p e R s below Q T (mkF m nx (l' z) S)) : Wp n0 p e R s below Q T (mkF m pc Ls (.long v :: S)) := w_lstoreN X hd (hl v) (q v rfl)
theorem w_aload (X : Pos Z a0 n0 p l e R s m args below meth c code ml ret y T h k j) {w : Nat} {v : Value} (hd : Dec code pc (.aload w) 2 nx) (hl : Ls[w]? = some (.val v)) (hv : v.isRef = true) (q : Wp n0 p e R s below Q T (mkF m nx Ls (v :: S))) : Wp n0 p e R s below Q T (mkF m pc Ls S) := by
  obtain ⟨hx, hZ, hby, hml, hret, hown, hnm, hlk, eT, hn0, hw, locs, N, Y⟩ := X
  obtain ⟨hd, rfl⟩ := hd
  exact Wp.go (fun _ q => XS.aload Y.here hx rfl (hb hby hd) hl hv q) q
theorem w_astore (X : Pos Z a0 n0 p l e R s m args below meth c code ml ret y T h k j) {w : Nat} {v : Value} {l' : Array Slot} (hd : Dec code pc (.astore w) 2 nx) (hv : v.isRef = true) (hl : storeLocals Ls w v = some l') (q : Wp n0 p e R s below Q T (mkF m nx l' S)) : Wp n0 p e R s below Q T (mkF m pc Ls (v :: S)) := by
  obtain ⟨hx, hZ, hby, hml, hret, hown, hnm, hlk, eT, hn0, hw, locs, N, Y⟩ := X
  obtain ⟨hd, rfl⟩ := hd
  exact Wp.go (fun _ q => XS.astore Y.here hx rfl (hb hby hd) rfl hv hl q) q
theorem w_istore (X : Pos Z a0 n0 p l e R s m args below meth c code ml ret y T h k j) {w : Nat} {v : Int32} {l' : Array Slot} (hd : Dec code pc (.istore w) 2 nx) (hl : storeLocals Ls w (.int v) = some l') (q : Wp n0 p e R s below Q T (mkF m nx l' S)) : Wp n0 p e R s below Q T (mkF m pc Ls (.int v :: S)) := by
  obtain ⟨hx, hZ, hby, hml, hret, hown, hnm, hlk, eT, hn0, hw, locs, N, Y⟩ := X
  obtain ⟨hd, rfl⟩ := hd
  exact Wp.go (fun _ q => XS.istore Y.here hx rfl (hb hby hd) rfl hl q) q
theorem w_istoreE (X : Pos Z a0 n0 p l e R s m args below meth c code ml ret y T h k j) {w : Nat} {v : Int32} {l' : Int32 → Array Slot} (hd : Dec code pc (.istore w) 2 nx) (hl : ∀ z, storeLocals Ls w (.int z) = some (l' z)) (q : ∀ z, z = v → Wp n0 p e R s below Q T (mkF m nx (l' z) S)) : Wp n0 p e R s below Q T (mkF m pc Ls (.int v :: S)) := w_istore X hd (hl v) (q v rfl)
theorem w_lstore (X : Pos Z a0 n0 p l e R s m args below meth c code ml ret y T h k j) {w : Nat} {v : Int64} {l' : Array Slot} (hd : Dec code pc (.lstore w) 2 nx) (hl : storeLocals Ls w (.long v) = some l') (q : Wp n0 p e R s below Q T (mkF m nx l' S)) : Wp n0 p e R s below Q T (mkF m pc Ls (.long v :: S)) := by
  obtain ⟨hx, hZ, hby, hml, hret, hown, hnm, hlk, eT, hn0, hw, locs, N, Y⟩ := X
  obtain ⟨hd, rfl⟩ := hd
  exact Wp.go (fun _ q => XS.lstore Y.here hx rfl (hb hby hd) rfl hl q) q
theorem w_lstoreE (X : Pos Z a0 n0 p l e R s m args below meth c code ml ret y T h k j) {w : Nat} {v : Int64} {l' : Int64 → Array Slot} (hd : Dec code pc (.lstore w) 2 nx) (hl : ∀ z, storeLocals Ls w (.long z) = some (l' z)) (q : ∀ z, z = v → Wp n0 p e R s below Q T (mkF m nx (l' z) S)) : Wp n0 p e R s below Q T (mkF m pc Ls (.long v :: S)) := w_lstore X hd (hl v) (q v rfl)
theorem w_istoreNS (X : Pos Z a0 n0 p l e R s m args below meth c code ml ret y T h k j) {w : Fin 4} {v : Int32} {l' : Array Slot} {o : Slot} (hd : Dec code pc (.istore_n w) 1 nx) (hold : Ls[w.val]? = some o) (ho : One o) (hl : Ls.setIfInBounds w.val (.val (.int v)) = l') (q : Wp n0 p e R s below Q T (mkF m nx l' S)) : Wp n0 p e R s below Q T (mkF m pc Ls (.int v :: S)) := w_istoreN X hd ((XS.store1 hold ho rfl).trans (congrArg some hl)) q
theorem w_istoreS (X : Pos Z a0 n0 p l e R s m args below meth c code ml ret y T h k j) {w : Nat} {v : Int32} {l' : Array Slot} {o : Slot} (hd : Dec code pc (.istore w) 2 nx) (hold : Ls[w]? = some o) (ho : One o) (hl : Ls.setIfInBounds w (.val (.int v)) = l') (q : Wp n0 p e R s below Q T (mkF m nx l' S)) : Wp n0 p e R s below Q T (mkF m pc Ls (.int v :: S)) := w_istore X hd ((XS.store1 hold ho rfl).trans (congrArg some hl)) q
theorem w_iinc (X : Pos Z a0 n0 p l e R s m args below meth c code ml ret y T h k j) {w : Nat} {i : Int} {d v r : Int32} {l' : Array Slot} (hd : Dec code pc (.iinc w i) 3 nx) (hl : Ls[w]? = some (.val (.int v))) (hi : Int32.ofInt i = d) (hr : v + d = r) (hl' : storeLocals Ls w (.int r) = some l') (q : Wp n0 p e R s below Q T (mkF m nx l' S)) : Wp n0 p e R s below Q T (mkF m pc Ls S) := by
  obtain ⟨hx, hZ, hby, hml, hret, hown, hnm, hlk, eT, hn0, hw, locs, N, Y⟩ := X
  obtain ⟨hd, rfl⟩ := hd
  subst hi hr
  exact Wp.go (fun _ q => XS.iinc Y.here hx rfl (hb hby hd) hl hl' q) q
theorem w_dup (X : Pos Z a0 n0 p l e R s m args below meth c code ml ret y T h k j) {v : Value} (hd : Dec code pc .dup 1 nx) (hv : v.category = 1) (q : Wp n0 p e R s below Q T (mkF m nx Ls (v :: v :: S))) : Wp n0 p e R s below Q T (mkF m pc Ls (v :: S)) := by
  obtain ⟨hx, hZ, hby, hml, hret, hown, hnm, hlk, eT, hn0, hw, locs, N, Y⟩ := X
  obtain ⟨hd, rfl⟩ := hd
  exact Wp.go (fun _ q => XS.dup Y.here hx rfl (hb hby hd) rfl hv q) q
theorem w_pop (X : Pos Z a0 n0 p l e R s m args below meth c code ml ret y T h k j) {v : Value} (hd : Dec code pc .pop 1 nx) (hv : v.category = 1) (q : Wp n0 p e R s below Q T (mkF m nx Ls S)) : Wp n0 p e R s below Q T (mkF m pc Ls (v :: S)) := by
  obtain ⟨hx, hZ, hby, hml, hret, hown, hnm, hlk, eT, hn0, hw, locs, N, Y⟩ := X
  obtain ⟨hd, rfl⟩ := hd
  exact Wp.go (fun _ q => XS.pop Y.here hx rfl (hb hby hd) rfl hv q) q
theorem w_dupX1 (X : Pos Z a0 n0 p l e R s m args below meth c code ml ret y T h k j) {v w : Value} (hd : Dec code pc .dup_x1 1 nx) (hv : v.category = 1) (hw' : w.category = 1) (q : Wp n0 p e R s below Q T (mkF m nx Ls (v :: w :: v :: S))) : Wp n0 p e R s below Q T (mkF m pc Ls (v :: w :: S)) := by
  obtain ⟨hx, hZ, hby, hml, hret, hown, hnm, hlk, eT, hn0, hw, locs, N, Y⟩ := X
  obtain ⟨hd, rfl⟩ := hd
  exact Wp.go (fun _ q => XS.dupX1 Y.here hx rfl (hb hby hd) rfl hv hw' q) q
theorem w_dup2 (X : Pos Z a0 n0 p l e R s m args below meth c code ml ret y T h k j) {v w : Value} (hd : Dec code pc .dup2 1 nx) (hv : v.category = 1) (hw' : w.category = 1) (q : Wp n0 p e R s below Q T (mkF m nx Ls (v :: w :: v :: w :: S))) : Wp n0 p e R s below Q T (mkF m pc Ls (v :: w :: S)) := by
  obtain ⟨hx, hZ, hby, hml, hret, hown, hnm, hlk, eT, hn0, hw, locs, N, Y⟩ := X
  obtain ⟨hd, rfl⟩ := hd
  exact Wp.go (fun _ q => Jvm.Free.XT.dup2 Y.here hx rfl (hb hby hd) rfl hv hw' q) q
theorem w_goto (X : Pos Z a0 n0 p l e R s m args below meth c code ml ret y T h k j) {o : Int} (hd : Jmp code pc (.goto o) o nx tgt) (q : Wp n0 p e R s below Q T (mkF m tgt Ls S)) : Wp n0 p e R s below Q T (mkF m pc Ls S) := by
  obtain ⟨hx, hZ, hby, hml, hret, hown, hnm, hlk, eT, hn0, hw, locs, N, Y⟩ := X
  obtain ⟨hd, -, ho, hp⟩ := hd
  exact Wp.go (fun _ q => XS.goto Y.here hx rfl (pc0 := pc) (pc' := tgt) rfl (hb hby hd) ho hp q) q
theorem w_icmpeq (X : Pos Z a0 n0 p l e R s m args below meth c code ml ret y T h k j) {x z : Int32} {o : Int} (hd : Jmp code pc (.if_icmp .eq o) o nx tgt) (qt : x = z → Wp n0 p e R s below Q T (mkF m tgt Ls S)) (qf : ¬ x = z → Wp n0 p e R s below Q T (mkF m nx Ls S)) : Wp n0 p e R s below Q T (mkF m pc Ls (.int z :: .int x :: S)) := by
  obtain ⟨hx, hZ, hby, hml, hret, hown, hnm, hlk, eT, hn0, hw, locs, N, Y⟩ := X
  obtain ⟨hd, rfl, ho, hp⟩ := hd
  by_cases hc : x = z
  · exact Wp.go (fun _ q => XS.icmpYes Y.here hx rfl (pc0 := pc) (pc' := tgt) rfl (hb hby hd) rfl (Jvm.Free.XT.ii_eq_t hc) ho hp q) (qt hc)
  · exact Wp.go (fun _ q => XS.icmpNo Y.here hx rfl (hb hby hd) rfl (Jvm.Free.XT.ii_eq_f hc) q) (qf hc)
theorem w_ifeq (X : Pos Z a0 n0 p l e R s m args below meth c code ml ret y T h k j) {x : Int32} {o : Int} (hd : Jmp code pc (.ifCond .eq o) o nx tgt) (qt : x = 0 → Wp n0 p e R s below Q T (mkF m tgt Ls S)) (qf : ¬ x = 0 → Wp n0 p e R s below Q T (mkF m nx Ls S)) : Wp n0 p e R s below Q T (mkF m pc Ls (.int x :: S)) := by
  obtain ⟨hx, hZ, hby, hml, hret, hown, hnm, hlk, eT, hn0, hw, locs, N, Y⟩ := X
  obtain ⟨hd, rfl, ho, hp⟩ := hd
  by_cases hc : x = 0
  · exact Wp.go (fun _ q => XS.ifYes Y.here hx rfl (pc0 := pc) (pc' := tgt) rfl (hb hby hd) rfl (Jvm.Free.XT.i0_eq_t hc) ho hp q) (qt hc)
  · exact Wp.go (fun _ q => XS.ifNo Y.here hx rfl (hb hby hd) rfl (Jvm.Free.XT.i0_eq_f hc) q) (qf hc)
theorem w_lcmpeq (X : Pos Z a0 n0 p l e R s m args below meth c code ml ret y T h k j) {x z : Int64} {o : Int} {mid : Nat} (hd0 : Dec code pc .lcmp 1 mid) (hd : Jmp code mid (.ifCond .eq o) o nx tgt) (qt : x = z → Wp n0 p e R s below Q T (mkF m tgt Ls S)) (qf : ¬ x = z → Wp n0 p e R s below Q T (mkF m nx Ls S)) : Wp n0 p e R s below Q T (mkF m pc Ls (.long z :: .long x :: S)) := by
  obtain ⟨hx, hZ, hby, hml, hret, hown, hnm, hlk, eT, hn0, hw, locs, N, Y⟩ := X
  obtain ⟨hd0, rfl⟩ := hd0
  obtain ⟨hd, rfl, ho, hp⟩ := hd
  refine Wp.go (fun _ q => Jvm.Free.XT.lcmp Y.here hx rfl (hb hby hd0) rfl q) ?_
  by_cases hc : x = z
  · exact Wp.go (fun _ q => XS.ifYes Y.here hx rfl (pc0 := pc + 1) (pc' := tgt) rfl (hb hby hd) rfl (Jvm.Free.XT.ll_eq_t hc) ho hp q) (qt hc)
  · exact Wp.go (fun _ q => XS.ifNo Y.here hx rfl (hb hby hd) rfl (Jvm.Free.XT.ll_eq_f hc) q) (qf hc)
theorem w_icmpne (X : Pos Z a0 n0 p l e R s m args below meth c code ml ret y T h k j) {x z : Int32} {o : Int} (hd : Jmp code pc (.if_icmp .ne o) o nx tgt) (qt : ¬ x = z → Wp n0 p e R s below Q T (mkF m tgt Ls S)) (qf : x = z → Wp n0 p e R s below Q T (mkF m nx Ls S)) : Wp n0 p e R s below Q T (mkF m pc Ls (.int z :: .int x :: S)) := by
  obtain ⟨hx, hZ, hby, hml, hret, hown, hnm, hlk, eT, hn0, hw, locs, N, Y⟩ := X
  obtain ⟨hd, rfl, ho, hp⟩ := hd
  by_cases hc : x = z
  · exact Wp.go (fun _ q => XS.icmpNo Y.here hx rfl (hb hby hd) rfl (Jvm.Free.XT.ii_ne_f hc) q) (qf hc)
  · exact Wp.go (fun _ q => XS.icmpYes Y.here hx rfl (pc0 := pc) (pc' := tgt) rfl (hb hby hd) rfl (Jvm.Free.XT.ii_ne_t hc) ho hp q) (qt hc)
theorem w_ifne (X : Pos Z a0 n0 p l e R s m args below meth c code ml ret y T h k j) {x : Int32} {o : Int} (hd : Jmp code pc (.ifCond .ne o) o nx tgt) (qt : ¬ x = 0 → Wp n0 p e R s below Q T (mkF m tgt Ls S)) (qf : x = 0 → Wp n0 p e R s below Q T (mkF m nx Ls S)) : Wp n0 p e R s below Q T (mkF m pc Ls (.int x :: S)) := by
  obtain ⟨hx, hZ, hby, hml, hret, hown, hnm, hlk, eT, hn0, hw, locs, N, Y⟩ := X
  obtain ⟨hd, rfl, ho, hp⟩ := hd
  by_cases hc : x = 0
  · exact Wp.go (fun _ q => XS.ifNo Y.here hx rfl (hb hby hd) rfl (Jvm.Free.XT.i0_ne_f hc) q) (qf hc)
  · exact Wp.go (fun _ q => XS.ifYes Y.here hx rfl (pc0 := pc) (pc' := tgt) rfl (hb hby hd) rfl (Jvm.Free.XT.i0_ne_t hc) ho hp q) (qt hc)
theorem w_lcmpne (X : Pos Z a0 n0 p l e R s m args below meth c code ml ret y T h k j) {x z : Int64} {o : Int} {mid : Nat} (hd0 : Dec code pc .lcmp 1 mid) (hd : Jmp code mid (.ifCond .ne o) o nx tgt) (qt : ¬ x = z → Wp n0 p e R s below Q T (mkF m tgt Ls S)) (qf : x = z → Wp n0 p e R s below Q T (mkF m nx Ls S)) : Wp n0 p e R s below Q T (mkF m pc Ls (.long z :: .long x :: S)) := by
  obtain ⟨hx, hZ, hby, hml, hret, hown, hnm, hlk, eT, hn0, hw, locs, N, Y⟩ := X
  obtain ⟨hd0, rfl⟩ := hd0
  obtain ⟨hd, rfl, ho, hp⟩ := hd
  refine Wp.go (fun _ q => Jvm.Free.XT.lcmp Y.here hx rfl (hb hby hd0) rfl q) ?_
  by_cases hc : x = z
  · exact Wp.go (fun _ q => XS.ifNo Y.here hx rfl (hb hby hd) rfl (Jvm.Free.XT.ll_ne_f hc) q) (qf hc)
  · exact Wp.go (fun _ q => XS.ifYes Y.here hx rfl (pc0 := pc + 1) (pc' := tgt) rfl (hb hby hd) rfl (Jvm.Free.XT.ll_ne_t hc) ho hp q) (qt hc)
theorem w_icmplt (X : Pos Z a0 n0 p l e R s m args below meth c code ml ret y T h k j) {x z : Int32} {o : Int} (hd : Jmp code pc (.if_icmp .lt o) o nx tgt) (qt : x < z → Wp n0 p e R s below Q T (mkF m tgt Ls S)) (qf : ¬ x < z → Wp n0 p e R s below Q T (mkF m nx Ls S)) : Wp n0 p e R s below Q T (mkF m pc Ls (.int z :: .int x :: S)) := by
  obtain ⟨hx, hZ, hby, hml, hret, hown, hnm, hlk, eT, hn0, hw, locs, N, Y⟩ := X
  obtain ⟨hd, rfl, ho, hp⟩ := hd
  by_cases hc : x < z
  · exact Wp.go (fun _ q => XS.icmpYes Y.here hx rfl (pc0 := pc) (pc' := tgt) rfl (hb hby hd) rfl (Jvm.Free.XT.ii_lt_t hc) ho hp q) (qt hc)
  · exact Wp.go (fun _ q => XS.icmpNo Y.here hx rfl (hb hby hd) rfl (Jvm.Free.XT.ii_lt_f hc) q) (qf hc)
theorem w_iflt (X : Pos Z a0 n0 p l e R s m args below meth c code ml ret y T h k j) {x : Int32} {o : Int} (hd : Jmp code pc (.ifCond .lt o) o nx tgt) (qt : x < 0 → Wp n0 p e R s below Q T (mkF m tgt Ls S)) (qf : ¬ x < 0 → Wp n0 p e R s below Q T (mkF m nx Ls S)) : Wp n0 p e R s below Q T (mkF m pc Ls (.int x :: S)) := by
  obtain ⟨hx, hZ, hby, hml, hret, hown, hnm, hlk, eT, hn0, hw, locs, N, Y⟩ := X
  obtain ⟨hd, rfl, ho, hp⟩ := hd
  by_cases hc : x < 0
  · exact Wp.go (fun _ q => XS.ifYes Y.here hx rfl (pc0 := pc) (pc' := tgt) rfl (hb hby hd) rfl (Jvm.Free.XT.i0_lt_t hc) ho hp q) (qt hc)
  · exact Wp.go (fun _ q => XS.ifNo Y.here hx rfl (hb hby hd) rfl (Jvm.Free.XT.i0_lt_f hc) q) (qf hc)
theorem w_lcmplt (X : Pos Z a0 n0 p l e R s m args below meth c code ml ret y T h k j) {x z : Int64} {o : Int} {mid : Nat} (hd0 : Dec code pc .lcmp 1 mid) (hd : Jmp code mid (.ifCond .lt o) o nx tgt) (qt : x < z → Wp n0 p e R s below Q T (mkF m tgt Ls S)) (qf : ¬ x < z → Wp n0 p e R s below Q T (mkF m nx Ls S)) : Wp n0 p e R s below Q T (mkF m pc Ls (.long z :: .long x :: S)) := by
  obtain ⟨hx, hZ, hby, hml, hret, hown, hnm, hlk, eT, hn0, hw, locs, N, Y⟩ := X
  obtain ⟨hd0, rfl⟩ := hd0
  obtain ⟨hd, rfl, ho, hp⟩ := hd
  refine Wp.go (fun _ q => Jvm.Free.XT.lcmp Y.here hx rfl (hb hby hd0) rfl q) ?_
  by_cases hc : x < z
  · exact Wp.go (fun _ q => XS.ifYes Y.here hx rfl (pc0 := pc + 1) (pc' := tgt) rfl (hb hby hd) rfl (Jvm.Free.XT.ll_lt_t hc) ho hp q) (qt hc)
  · exact Wp.go (fun _ q => XS.ifNo Y.here hx rfl (hb hby hd) rfl (Jvm.Free.XT.ll_lt_f hc) q) (qf hc)
theorem w_icmpge (X : Pos Z a0 n0 p l e R s m args below meth c code ml ret y T h k j) {x z : Int32} {o : Int} (hd : Jmp code pc (.if_icmp .ge o) o nx tgt) (qt : ¬ x < z → Wp n0 p e R s below Q T (mkF m tgt Ls S)) (qf : x < z → Wp n0 p e R s below Q T (mkF m nx Ls S)) : Wp n0 p e R s below Q T (mkF m pc Ls (.int z :: .int x :: S)) := by
  obtain ⟨hx, hZ, hby, hml, hret, hown, hnm, hlk, eT, hn0, hw, locs, N, Y⟩ := X
  obtain ⟨hd, rfl, ho, hp⟩ := hd
  by_cases hc : x < z
  · exact Wp.go (fun _ q => XS.icmpNo Y.here hx rfl (hb hby hd) rfl (Jvm.Free.XT.ii_ge_f hc) q) (qf hc)
  · exact Wp.go (fun _ q => XS.icmpYes Y.here hx rfl (pc0 := pc) (pc' := tgt) rfl (hb hby hd) rfl (Jvm.Free.XT.ii_ge_t hc) ho hp q) (qt hc)
theorem w_ifge (X : Pos Z a0 n0 p l e R s m args below meth c code ml ret y T h k j) {x : Int32} {o : Int} (hd : Jmp code pc (.ifCond .ge o) o nx tgt) (qt : ¬ x < 0 → Wp n0 p e R s below Q T (mkF m tgt Ls S)) (qf : x < 0 → Wp n0 p e R s below Q T (mkF m nx Ls S)) : Wp n0 p e R s below Q T (mkF m pc Ls (.int x :: S)) := by
  obtain ⟨hx, hZ, hby, hml, hret, hown, hnm, hlk, eT, hn0, hw, locs, N, Y⟩ := X
  obtain ⟨hd, rfl, ho, hp⟩ := hd
  by_cases hc : x < 0
  · exact Wp.go (fun _ q => XS.ifNo Y.here hx rfl (hb hby hd) rfl (Jvm.Free.XT.i0_ge_f hc) q) (qf hc)
  · exact Wp.go (fun _ q => XS.ifYes Y.here hx rfl (pc0 := pc) (pc' := tgt) rfl (hb hby hd) rfl (Jvm.Free.XT.i0_ge_t hc) ho hp q) (qt hc)
theorem w_lcmpge (X : Pos Z a0 n0 p l e R s m args below meth c code ml ret y T h k j) {x z : Int64} {o : Int} {mid : Nat} (hd0 : Dec code pc .lcmp 1 mid) (hd : Jmp code mid (.ifCond .ge o) o nx tgt) (qt : ¬ x < z → Wp n0 p e R s below Q T (mkF m tgt Ls S)) (qf : x < z → Wp n0 p e R s below Q T (mkF m nx Ls S)) : Wp n0 p e R s below Q T (mkF m pc Ls (.long z :: .long x :: S)) := by
  obtain ⟨hx, hZ, hby, hml, hret, hown, hnm, hlk, eT, hn0, hw, locs, N, Y⟩ := X
  obtain ⟨hd0, rfl⟩ := hd0
  obtain ⟨hd, rfl, ho, hp⟩ := hd
  refine Wp.go (fun _ q => Jvm.Free.XT.lcmp Y.here hx rfl (hb hby hd0) rfl q) ?_
  by_cases hc : x < z
  · exact Wp.go (fun _ q => XS.ifNo Y.here hx rfl (hb hby hd) rfl (Jvm.Free.XT.ll_ge_f hc) q) (qf hc)
  · exact Wp.go (fun _ q => XS.ifYes Y.here hx rfl (pc0 := pc + 1) (pc' := tgt) rfl (hb hby hd) rfl (Jvm.Free.XT.ll_ge_t hc) ho hp q) (qt hc)
theorem w_icmpgt (X : Pos Z a0 n0 p l e R s m args below meth c code ml ret y T h k j) {x z : Int32} {o : Int} (hd : Jmp code pc (.if_icmp .gt o) o nx tgt) (qt : z < x → Wp n0 p e R s below Q T (mkF m tgt Ls S)) (qf : ¬ z < x → Wp n0 p e R s below Q T (mkF m nx Ls S)) : Wp n0 p e R s below Q T (mkF m pc Ls (.int z :: .int x :: S)) := by
  obtain ⟨hx, hZ, hby, hml, hret, hown, hnm, hlk, eT, hn0, hw, locs, N, Y⟩ := X
  obtain ⟨hd, rfl, ho, hp⟩ := hd
  by_cases hc : z < x
  · exact Wp.go (fun _ q => XS.icmpYes Y.here hx rfl (pc0 := pc) (pc' := tgt) rfl (hb hby hd) rfl (Jvm.Free.XT.ii_gt_t hc) ho hp q) (qt hc)
  · exact Wp.go (fun _ q => XS.icmpNo Y.here hx rfl (hb hby hd) rfl (Jvm.Free.XT.ii_gt_f hc) q) (qf hc)
theorem w_ifgt (X : Pos Z a0 n0 p l e R s m args below meth c code ml ret y T h k j) {x : Int32} {o : Int} (hd : Jmp code pc (.ifCond .gt o) o nx tgt) (qt : 0 < x → Wp n0 p e R s below Q T (mkF m tgt Ls S)) (qf : ¬ 0 < x → Wp n0 p e R s below Q T (mkF m nx Ls S)) : Wp n0 p e R s below Q T (mkF m pc Ls (.int x :: S)) := by
  obtain ⟨hx, hZ, hby, hml, hret, hown, hnm, hlk, eT, hn0, hw, locs, N, Y⟩ := X
  obtain ⟨hd, rfl, ho, hp⟩ := hd
  by_cases hc : 0 < x
  · exact Wp.go (fun _ q => XS.ifYes Y.here hx rfl (pc0 := pc) (pc' := tgt) rfl (hb hby hd) rfl (Jvm.Free.XT.i0_gt_t hc) ho hp q) (qt hc)
  · exact Wp.go (fun _ q => XS.ifNo Y.here hx rfl (hb hby hd) rfl (Jvm.Free.XT.i0_gt_f hc) q) (qf hc)
theorem w_lcmpgt (X : Pos Z a0 n0 p l e R s m args below meth c code ml ret y T h k j) {x z : Int64} {o : Int} {mid : Nat} (hd0 : Dec code pc .lcmp 1 mid) (hd : Jmp code mid (.ifCond .gt o) o nx tgt) (qt : z < x → Wp n0 p e R s below Q T (mkF m tgt Ls S)) (qf : ¬ z < x → Wp n0 p e R s below Q T (mkF m nx Ls S)) : Wp n0 p e R s below Q T (mkF m pc Ls (.long z :: .long x :: S)) := by
  obtain ⟨hx, hZ, hby, hml, hret, hown, hnm, hlk, eT, hn0, hw, locs, N, Y⟩ := X
  obtain ⟨hd0, rfl⟩ := hd0
  obtain ⟨hd, rfl, ho, hp⟩ := hd
  refine Wp.go (fun _ q => Jvm.Free.XT.lcmp Y.here hx rfl (hb hby hd0) rfl q) ?_
  by_cases hc : z < x
  · exact Wp.go (fun _ q => XS.ifYes Y.here hx rfl (pc0 := pc + 1) (pc' := tgt) rfl (hb hby hd) rfl (Jvm.Free.XT.ll_gt_t hc) ho hp q) (qt hc)
  · exact Wp.go (fun _ q => XS.ifNo Y.here hx rfl (hb hby hd) rfl (Jvm.Free.XT.ll_gt_f hc) q) (qf hc)
theorem w_icmple (X : Pos Z a0 n0 p l e R s m args below meth c code ml ret y T h k j) {x z : Int32} {o : Int} (hd : Jmp code pc (.if_icmp .le o) o nx tgt) (qt : ¬ z < x → Wp n0 p e R s below Q T (mkF m tgt Ls S)) (qf : z < x → Wp n0 p e R s below Q T (mkF m nx Ls S)) : Wp n0 p e R s below Q T (mkF m pc Ls (.int z :: .int x :: S)) := by
  obtain ⟨hx, hZ, hby, hml, hret, hown, hnm, hlk, eT, hn0, hw, locs, N, Y⟩ := X
  obtain ⟨hd, rfl, ho, hp⟩ := hd
  by_cases hc : z < x
  · exact Wp.go (fun _ q => XS.icmpNo Y.here hx rfl (hb hby hd) rfl (Jvm.Free.XT.ii_le_f hc) q) (qf hc)
  · exact Wp.go (fun _ q => XS.icmpYes Y.here hx rfl (pc0 := pc) (pc' := tgt) rfl (hb hby hd) rfl (Jvm.Free.XT.ii_le_t hc) ho hp q) (qt hc)
theorem w_ifle (X : Pos Z a0 n0 p l e R s m args below meth c code ml ret y T h k j) {x : Int32} {o : Int} (hd : Jmp code pc (.ifCond .le o) o nx tgt) (qt : ¬ 0 < x → Wp n0 p e R s below Q T (mkF m tgt Ls S)) (qf : 0 < x → Wp n0 p e R s below Q T (mkF m nx Ls S)) : Wp n0 p e R s below Q T (mkF m pc Ls (.int x :: S)) := by
  obtain ⟨hx, hZ, hby, hml, hret, hown, hnm, hlk, eT, hn0, hw, locs, N, Y⟩ := X
  obtain ⟨hd, rfl, ho, hp⟩ := hd
  by_cases hc : 0 < x
  · exact Wp.go (fun _ q => XS.ifNo Y.here hx rfl (hb hby hd) rfl (Jvm.Free.XT.i0_le_f hc) q) (qf hc)
  · exact Wp.go (fun _ q => XS.ifYes Y.here hx rfl (pc0 := pc) (pc' := tgt) rfl (hb hby hd) rfl (Jvm.Free.XT.i0_le_t hc) ho hp q) (qt hc)
theorem w_lcmple (X : Pos Z a0 n0 p l e R s m args below meth c code ml ret y T h k j) {x z : Int64} {o : Int} {mid : Nat} (hd0 : Dec code pc .lcmp 1 mid) (hd : Jmp code mid (.ifCond .le o) o nx tgt) (qt : ¬ z < x → Wp n0 p e R s below Q T (mkF m tgt Ls S)) (qf : z < x → Wp n0 p e R s below Q T (mkF m nx Ls S)) : Wp n0 p e R s below Q T (mkF m pc Ls (.long z :: .long x :: S)) := by
  obtain ⟨hx, hZ, hby, hml, hret, hown, hnm, hlk, eT, hn0, hw, locs, N, Y⟩ := X
  obtain ⟨hd0, rfl⟩ := hd0
  obtain ⟨hd, rfl, ho, hp⟩ := hd
  refine Wp.go (fun _ q => Jvm.Free.XT.lcmp Y.here hx rfl (hb hby hd0) rfl q) ?_
  by_cases hc : z < x
  · exact Wp.go (fun _ q => XS.ifNo Y.here hx rfl (hb hby hd) rfl (Jvm.Free.XT.ll_le_f hc) q) (qf hc)
  · exact Wp.go (fun _ q => XS.ifYes Y.here hx rfl (pc0 := pc + 1) (pc' := tgt) rfl (hb hby hd) rfl (Jvm.Free.XT.ll_le_t hc) ho hp q) (qt hc)
theorem w_ldc (X : Pos Z a0 n0 p l e R s m args below meth c code ml ret y T h k j) {i : Nat} {v : Int32} (hd : Dec code pc (.ldc i) 2 nx) (wc : (Jvm.Cond.constant y.cls i v).before a0 Z = true) (q : Wp n0 p e R s below Q T (mkF m nx Ls (.int v :: S))) : Wp n0 p e R s below Q T (mkF m pc Ls S) := by
  obtain ⟨hx, hZ, hby, hml, hret, hown, hnm, hlk, eT, hn0, hw, locs, N, Y⟩ := X
  obtain ⟨hd, rfl⟩ := hd
  exact Wp.go (Y.ldcInt hx hown (mvT hZ wc) rfl (hb hby hd)) q
theorem w_ldc2 (X : Pos Z a0 n0 p l e R s m args below meth c code ml ret y T h k j) {i : Nat} {v : Int64} (hd : Dec code pc (.ldc2_w i) 3 nx) (wc : (Jvm.Cond.constantLong y.cls i v).before a0 Z = true) (q : Wp n0 p e R s below Q T (mkF m nx Ls (.long v :: S))) : Wp n0 p e R s below Q T (mkF m pc Ls S) := by
  obtain ⟨hx, hZ, hby, hml, hret, hown, hnm, hlk, eT, hn0, hw, locs, N, Y⟩ := X
  obtain ⟨hd, rfl⟩ := hd
  exact Wp.go (Y.ldc2Long hx hown (mvT hZ wc) rfl (hb hby hd)) q
theorem w_ldcw (X : Pos Z a0 n0 p l e R s m args below meth c code ml ret y T h k j) {i : Nat} {v : Int32} (hd : Dec code pc (.ldc_w i) 3 nx) (wc : (Jvm.Cond.constant y.cls i v).before a0 Z = true) (q : Wp n0 p e R s below Q T (mkF m nx Ls (.int v :: S))) : Wp n0 p e R s below Q T (mkF m pc Ls S) := by
  obtain ⟨hx, hZ, hby, hml, hret, hown, hnm, hlk, eT, hn0, hw, locs, N, Y⟩ := X
  obtain ⟨hd, rfl⟩ := hd
  exact Wp.go (Y.ldcwInt hx hown (mvT hZ wc) rfl (hb hby hd)) q
theorem w_wiinc (X : Pos Z a0 n0 p l e R s m args below meth c code ml ret y T h k j) {w : Nat} {i : Int} {d v r : Int32} {l' : Array Slot} (hd : Dec code pc (.iinc w i) 6 nx) (hl : Ls[w]? = some (.val (.int v))) (hi : Int32.ofInt i = d) (hr : v + d = r) (hl' : storeLocals Ls w (.int r) = some l') (q : Wp n0 p e R s below Q T (mkF m nx l' S)) : Wp n0 p e R s below Q T (mkF m pc Ls S) := by
  obtain ⟨hx, hZ, hby, hml, hret, hown, hnm, hlk, eT, hn0, hw, locs, N, Y⟩ := X
  obtain ⟨hd, rfl⟩ := hd
  subst hi hr
  refine Wp.go (fun _ q => ?_) q
  have hd' := hb hby hd
  have h := Y.here
  jvm_step h [h.top, hx, hd', hl, hl']
  exact q
theorem w_ireturn (X : Pos Z a0 n0 p l e R s m args below meth c code ml (some .int) y T h k j) {z : Int32} (hd : Dec code pc .ireturn 1 nx) (hk : k ≤ R.cells) (hj : j ≤ R.slots) (hq : Q (some (.int z)) h) : Wp n0 p e R s below Q T (mkF m pc Ls (.int z :: S)) := by
  obtain ⟨hx, hZ, hby, hml, hret, hown, hnm, hlk, eT, hn0, hw, locs, N, Y⟩ := X
  obtain ⟨hd, -⟩ := hd
  obtain ⟨fs, hr, hrun, hended, hW, hsame⟩ := Y.leave (v := (some (.int z))) (fun h => by rw [hret] at h; cases h) hlk
  exact ⟨_, _, retI Y hx hret (hb hby hd) hr, hrun, hended, _, _, rfl, ⟨N, by show n0 ≤ T.heap.size; rw [eT]; exact hn0, by show Q _ T.heap; rw [eT]; exact hq⟩, ⟨_, rfl⟩, hW, hsame.mono hk hj⟩
theorem w_breturn (X : Pos Z a0 n0 p l e R s m args below meth c code ml (some .byte) y T h k j) {z : Int32} (hd : Dec code pc .ireturn 1 nx) (hk : k ≤ R.cells) (hj : j ≤ R.slots) (hq : Q (some (.int (nar .byte z))) h) : Wp n0 p e R s below Q T (mkF m pc Ls (.int z :: S)) := by
  obtain ⟨hx, hZ, hby, hml, hret, hown, hnm, hlk, eT, hn0, hw, locs, N, Y⟩ := X
  obtain ⟨hd, -⟩ := hd
  obtain ⟨fs, hr, hrun, hended, hW, hsame⟩ := Y.leave (v := (some (.int (nar .byte z)))) (fun h => by rw [hret] at h; cases h) hlk
  exact ⟨_, _, retN Y hx (t := .byte) hret (by simp) (hb hby hd) hr, hrun, hended, _, _, rfl, ⟨N, by show n0 ≤ T.heap.size; rw [eT]; exact hn0, by show Q _ T.heap; rw [eT]; exact hq⟩, ⟨_, rfl⟩, hW, hsame.mono hk hj⟩
theorem w_zreturn (X : Pos Z a0 n0 p l e R s m args below meth c code ml (some .boolean) y T h k j) {z : Int32} (hd : Dec code pc .ireturn 1 nx) (hk : k ≤ R.cells) (hj : j ≤ R.slots) (hq : Q (some (.int (nar .boolean z))) h) : Wp n0 p e R s below Q T (mkF m pc Ls (.int z :: S)) := by
  obtain ⟨hx, hZ, hby, hml, hret, hown, hnm, hlk, eT, hn0, hw, locs, N, Y⟩ := X
  obtain ⟨hd, -⟩ := hd
  obtain ⟨fs, hr, hrun, hended, hW, hsame⟩ := Y.leave (v := (some (.int (nar .boolean z)))) (fun h => by rw [hret] at h; cases h) hlk
  exact ⟨_, _, retN Y hx (t := .boolean) hret (by simp) (hb hby hd) hr, hrun, hended, _, _, rfl, ⟨N, by show n0 ≤ T.heap.size; rw [eT]; exact hn0, by show Q _ T.heap; rw [eT]; exact hq⟩, ⟨_, rfl⟩, hW, hsame.mono hk hj⟩
theorem w_lreturn (X : Pos Z a0 n0 p l e R s m args below meth c code ml (some .long) y T h k j) {z : Int64} (hd : Dec code pc .lreturn 1 nx) (hk : k ≤ R.cells) (hj : j ≤ R.slots) (hq : Q (some (.long z)) h) : Wp n0 p e R s below Q T (mkF m pc Ls [.long z]) := by
  obtain ⟨hx, hZ, hby, hml, hret, hown, hnm, hlk, eT, hn0, hw, locs, N, Y⟩ := X
  obtain ⟨hd, -⟩ := hd
  obtain ⟨fs, hr, hrun, hended, hW, hsame⟩ := Y.leave (v := (some (.long z))) (fun h => by rw [hret] at h; cases h) hlk
  exact ⟨_, _, Y.lreturnOut hx hret (hb hby hd) hr, hrun, hended, _, _, rfl, ⟨N, by show n0 ≤ T.heap.size; rw [eT]; exact hn0, by show Q _ T.heap; rw [eT]; exact hq⟩, ⟨_, rfl⟩, hW, hsame.mono hk hj⟩
theorem w_return (X : Pos Z a0 n0 p l e R s m args below meth c code ml none y T h k j)  (hd : Dec code pc .return_ 1 nx) (hk : k ≤ R.cells) (hj : j ≤ R.slots) (hq : Q none h) : Wp n0 p e R s below Q T (mkF m pc Ls []) := by
  obtain ⟨hx, hZ, hby, hml, hret, hown, hnm, hlk, eT, hn0, hw, locs, N, Y⟩ := X
  obtain ⟨hd, -⟩ := hd
  obtain ⟨fs, hr, hrun, hended, hW, hsame⟩ := Y.leave (v := none) (fun _ => rfl) hlk
  exact ⟨_, _, Y.returnOut hx hret (hb hby hd) hr, hrun, hended, _, _, rfl, ⟨N, by show n0 ≤ T.heap.size; rw [eT]; exact hn0, by show Q _ T.heap; rw [eT]; exact hq⟩, ⟨_, rfl⟩, hW, hsame.mono hk hj⟩
theorem w_arraylength (X : Pos Z a0 n0 p l e R s m args below meth c code ml ret y T h k j) {a : Addr} {ty : FieldType} {n : Nat} {g : Nat → Value} (hd : Dec code pc .arraylength 1 nx) (B : Ba Z n0 h a ty n g) (q : Wp n0 p e R s below Q T (mkF m nx Ls (.int (Int32.ofNat n) :: S))) : Wp n0 p e R s below Q T (mkF m pc Ls (.ref a :: S)) := by
  obtain ⟨hx, hZ, hby, hml, hret, hown, hnm, hlk, eT, hn0, hw, locs, N, Y⟩ := X
  obtain ⟨hd, rfl⟩ := hd
  obtain ⟨-, hn, cl, A, hs, -⟩ := B
  subst hs
  exact Wp.go (fun _ q => Y.arraylength hx (g := mkF m pc Ls (.ref a :: S)) (cell := cl) (by rw [eT]; exact A.1) (State.isArrayOf_alike hZ.alike A.2.1) rfl rfl (hb hby hd) _ q) q
theorem w_baload (X : Pos Z a0 n0 p l e R s m args below meth c code ml ret y T h k j) {a : Addr} {n : Nat} {b : Nat → Int32} {x : Int32} (hd : Dec code pc .baload 1 nx) (B : Ba Z n0 h a .byte n (bI b)) (i : Nat) (hi : x = Int32.ofNat i) (hlt : i < n) (q : Wp n0 p e R s below Q T (mkF m nx Ls (.int (b i) :: S))) : Wp n0 p e R s below Q T (mkF m pc Ls (.int x :: .ref a :: S)) := by
  obtain ⟨hx, hZ, hby, hml, hret, hown, hnm, hlk, eT, hn0, hw, locs, N, Y⟩ := X
  obtain ⟨hd, rfl⟩ := hd
  obtain ⟨-, hn, cl, A, hs, hv⟩ := B
  subst hi
  exact Wp.go (fun _ q => Y.baloadBytes hx (g := mkF m pc Ls (.int (Int32.ofNat i) :: .ref a :: S)) (j := Int32.ofNat i) (v := .int (b i)) (by rw [eT]; exact A.1) (State.isArrayOf_alike hZ.alike A.2.1) A.2.2 (inb hn hs hlt) (by rw [ofNat_clamp (by omega)]; exact hv i hlt) rfl rfl (hb hby hd) _ q) q
theorem w_iaload (X : Pos Z a0 n0 p l e R s m args below meth c code ml ret y T h k j) {a : Addr} {n : Nat} {b : Nat → Int32} {x : Int32} (hd : Dec code pc .iaload 1 nx) (B : Ba Z n0 h a .int n (bI b)) (i : Nat) (hi : x = Int32.ofNat i) (hlt : i < n) (q : Wp n0 p e R s below Q T (mkF m nx Ls (.int (b i) :: S))) : Wp n0 p e R s below Q T (mkF m pc Ls (.int x :: .ref a :: S)) := by
  obtain ⟨hx, hZ, hby, hml, hret, hown, hnm, hlk, eT, hn0, hw, locs, N, Y⟩ := X
  obtain ⟨hd, rfl⟩ := hd
  obtain ⟨-, hn, cl, A, hs, hv⟩ := B
  subst hi
  exact Wp.go (fun _ q => Y.iaload hx (g := mkF m pc Ls (.int (Int32.ofNat i) :: .ref a :: S)) (j := Int32.ofNat i) (v := .int (b i)) (by rw [eT]; exact A.1) (State.isArrayOf_alike hZ.alike A.2.1) A.2.2 (inb hn hs hlt) (by rw [ofNat_clamp (by omega)]; exact hv i hlt) rfl rfl (hb hby hd) _ q) q
theorem w_laload (X : Pos Z a0 n0 p l e R s m args below meth c code ml ret y T h k j) {a : Addr} {n : Nat} {b : Nat → Int64} {x : Int32} (hd : Dec code pc .laload 1 nx) (B : Ba Z n0 h a .long n (bJ b)) (i : Nat) (hi : x = Int32.ofNat i) (hlt : i < n) (q : Wp n0 p e R s below Q T (mkF m nx Ls (.long (b i) :: S))) : Wp n0 p e R s below Q T (mkF m pc Ls (.int x :: .ref a :: S)) := by
  obtain ⟨hx, hZ, hby, hml, hret, hown, hnm, hlk, eT, hn0, hw, locs, N, Y⟩ := X
  obtain ⟨hd, rfl⟩ := hd
  obtain ⟨-, hn, cl, A, hs, hv⟩ := B
  subst hi
  exact Wp.go (fun _ q => Y.laload hx (g := mkF m pc Ls (.int (Int32.ofNat i) :: .ref a :: S)) (j := Int32.ofNat i) (v := .long (b i)) (by rw [eT]; exact A.1) (State.isArrayOf_alike hZ.alike A.2.1) A.2.2 (inb hn hs hlt) (by rw [ofNat_clamp (by omega)]; exact hv i hlt) rfl rfl (hb hby hd) _ q) q
theorem w_bastore (X : Pos Z a0 n0 p l e R s m args below meth c code ml ret y T h k j) {a : Addr} {n : Nat} {b : Nat → Int32} {x : Int32} {v : Int32} (hd : Dec code pc .bastore 1 nx) (B : Ba Z n0 h a .byte n (bI b)) (i : Nat) (hi : x = Int32.ofNat i) (hlt : i < n)
    (q : ∀ T' h', Pos Z a0 n0 p l e R s m args below meth c code ml ret y T' h' k j → Keep h h' [a] → Ba Z n0 h' a .byte n (bI (upd b i (jbyte v))) → Wp n0 p e R s below Q T' (mkF m nx Ls S)) : Wp n0 p e R s below Q T (mkF m pc Ls (.int v :: .int x :: .ref a :: S)) := by
  obtain ⟨hx, hZ, hby, hml, hret, hown, hnm, hlk, eT, hn0, hw, locs, N, Y⟩ := X
  obtain ⟨hd, rfl⟩ := hd
  obtain ⟨hna, hn, cl, A, hs, hv⟩ := B
  subst hi
  obtain ⟨T', h', Y', e', W', st⟩ := stB Y hx hZ eT A (j := Int32.ofNat i) (inb hn hs hlt) (g := mkF m pc Ls (.int v :: .int (Int32.ofNat i) :: .ref a :: S)) rfl rfl (hb hby hd)
  refine Wp.go st (q T' h' ⟨hx, hZ, hby, hml, hret, hown, hnm, hlk, e', by rw [W'.size]; exact hn0, hw, _, Fr.snoc Y' N hna, Y'⟩ (Keep.of_wr W') ⟨hna, hn, _, A.same W', (sz_set _ _ _).trans hs, fun q hq => ?_⟩)
  rw [ofNat_clamp (by omega)]
  by_cases hqi : q = i
  · subst hqi
    simp [Cell.setSlot, hs, hq, upd, bI, nar]
  · simp [Cell.setSlot, upd, hqi, bI, Array.getElem?_setIfInBounds_ne (Ne.symm hqi), hv q hq]
theorem w_iastore (X : Pos Z a0 n0 p l e R s m args below meth c code ml ret y T h k j) {a : Addr} {n : Nat} {b : Nat → Int32} {x : Int32} {v : Int32} (hd : Dec code pc .iastore 1 nx) (B : Ba Z n0 h a .int n (bI b)) (i : Nat) (hi : x = Int32.ofNat i) (hlt : i < n)
    (q : ∀ T' h', Pos Z a0 n0 p l e R s m args below meth c code ml ret y T' h' k j → Keep h h' [a] → Ba Z n0 h' a .int n (bI (upd b i (v))) → Wp n0 p e R s below Q T' (mkF m nx Ls S)) : Wp n0 p e R s below Q T (mkF m pc Ls (.int v :: .int x :: .ref a :: S)) := by
  obtain ⟨hx, hZ, hby, hml, hret, hown, hnm, hlk, eT, hn0, hw, locs, N, Y⟩ := X
  obtain ⟨hd, rfl⟩ := hd
  obtain ⟨hna, hn, cl, A, hs, hv⟩ := B
  subst hi
  obtain ⟨T', h', Y', e', W', st⟩ := stI Y hx hZ eT A (j := Int32.ofNat i) (inb hn hs hlt) (g := mkF m pc Ls (.int v :: .int (Int32.ofNat i) :: .ref a :: S)) rfl rfl (hb hby hd)
  refine Wp.go st (q T' h' ⟨hx, hZ, hby, hml, hret, hown, hnm, hlk, e', by rw [W'.size]; exact hn0, hw, _, Fr.snoc Y' N hna, Y'⟩ (Keep.of_wr W') ⟨hna, hn, _, A.same W', (sz_set _ _ _).trans hs, fun q hq => ?_⟩)
  rw [ofNat_clamp (by omega)]
  by_cases hqi : q = i
  · subst hqi
    simp [Cell.setSlot, hs, hq, upd, bI]
  · simp [Cell.setSlot, upd, hqi, bI, Array.getElem?_setIfInBounds_ne (Ne.symm hqi), hv q hq]
theorem w_lastore (X : Pos Z a0 n0 p l e R s m args below meth c code ml ret y T h k j) {a : Addr} {n : Nat} {b : Nat → Int64} {x : Int32} {v : Int64} (hd : Dec code pc .lastore 1 nx) (B : Ba Z n0 h a .long n (bJ b)) (i : Nat) (hi : x = Int32.ofNat i) (hlt : i < n)
    (q : ∀ T' h', Pos Z a0 n0 p l e R s m args below meth c code ml ret y T' h' k j → Keep h h' [a] → Ba Z n0 h' a .long n (bJ (upd b i (v))) → Wp n0 p e R s below Q T' (mkF m nx Ls S)) : Wp n0 p e R s below Q T (mkF m pc Ls (.long v :: .int x :: .ref a :: S)) := by
  obtain ⟨hx, hZ, hby, hml, hret, hown, hnm, hlk, eT, hn0, hw, locs, N, Y⟩ := X
  obtain ⟨hd, rfl⟩ := hd
  obtain ⟨hna, hn, cl, A, hs, hv⟩ := B
  subst hi
  obtain ⟨T', h', Y', e', W', st⟩ := stJ Y hx hZ eT A (j := Int32.ofNat i) (inb hn hs hlt) (g := mkF m pc Ls (.long v :: .int (Int32.ofNat i) :: .ref a :: S)) rfl rfl (hb hby hd)
  refine Wp.go st (q T' h' ⟨hx, hZ, hby, hml, hret, hown, hnm, hlk, e', by rw [W'.size]; exact hn0, hw, _, Fr.snoc Y' N hna, Y'⟩ (Keep.of_wr W') ⟨hna, hn, _, A.same W', (sz_set _ _ _).trans hs, fun q hq => ?_⟩)
  rw [ofNat_clamp (by omega)]
  by_cases hqi : q = i
  · subst hqi
    simp [Cell.setSlot, hs, hq, upd, bJ]
  · simp [Cell.setSlot, upd, hqi, bJ, Array.getElem?_setIfInBounds_ne (Ne.symm hqi), hv q hq]
theorem w_newB (X : Pos Z a0 n0 p l e R s m args below meth c code ml ret y T h k j) {x : Int32} (hd : Dec code pc (.newarray .byte) 2 nx) (wa : (Jvm.Cond.arrayClass .byte).before a0 Z = true) (n cap : Nat) (hx' : x = Int32.ofNat n) (hcap : n ≤ cap) (hb' : cap * 8 ≤ 536870912) (hk : k + 1 ≤ R.cells) (hj : j + cap ≤ R.slots)
    (q : ∀ T' h' a, Pos Z a0 n0 p l e R s m args below meth c code ml ret y T' h' (k + 1) (j + cap) → a = h.size → Ext h h' → Ba Z n0 h' a .byte n (bI fun _ => 0) → Wp n0 p e R s below Q T' (mkF m nx Ls (.ref a :: S))) : Wp n0 p e R s below Q T (mkF m pc Ls (.int x :: S)) := by
  obtain ⟨hx, hZ, hby, hml, hret, hown, hnm, hlk, eT, hn0, hw, locs, N, Y⟩ := X
  obtain ⟨hd, rfl⟩ := hd
  subst hx'
  obtain ⟨T', h', cA, Y', e', E', A', st⟩ := newP Y hx hZ (aty := .byte) wa eT (g := mkF m pc Ls (.int (Int32.ofNat n) :: S)) rfl (hb hby hd) rfl (ofNat_nn (by omega)) (cap := cap) (by rw [ofNat_clamp (by omega)]; exact hcap) hb' hk hj
  refine Wp.go st (q T' h' _ ⟨hx, hZ, hby, hml, hret, hown, hnm, hlk, e', Nat.le_trans hn0 E'.1, hw, _, N, Y'⟩ rfl E' ⟨hn0, by omega, _, A', by rw [sz_new, ofNat_clamp (by omega)], fun i hi => ?_⟩)
  have := get_new (cA := cA) (ty := .byte) (n := Int32.ofNat n) (k := Int32.ofNat i) (by rw [ofNat_clamp (by omega), ofNat_clamp (by omega)]; exact fun q => q.elim (ofNat_nn (by omega)) (fun q => by omega))
  rw [ofNat_clamp (by omega)] at this
  exact this
theorem w_newI (X : Pos Z a0 n0 p l e R s m args below meth c code ml ret y T h k j) {x : Int32} (hd : Dec code pc (.newarray .int) 2 nx) (wa : (Jvm.Cond.arrayClass .int).before a0 Z = true) (n cap : Nat) (hx' : x = Int32.ofNat n) (hcap : n ≤ cap) (hb' : cap * 8 ≤ 536870912) (hk : k + 1 ≤ R.cells) (hj : j + cap ≤ R.slots)
    (q : ∀ T' h' a, Pos Z a0 n0 p l e R s m args below meth c code ml ret y T' h' (k + 1) (j + cap) → a = h.size → Ext h h' → Ba Z n0 h' a .int n (bI fun _ => 0) → Wp n0 p e R s below Q T' (mkF m nx Ls (.ref a :: S))) : Wp n0 p e R s below Q T (mkF m pc Ls (.int x :: S)) := by
  obtain ⟨hx, hZ, hby, hml, hret, hown, hnm, hlk, eT, hn0, hw, locs, N, Y⟩ := X
  obtain ⟨hd, rfl⟩ := hd
  subst hx'
  obtain ⟨T', h', cA, Y', e', E', A', st⟩ := newP Y hx hZ (aty := .int) wa eT (g := mkF m pc Ls (.int (Int32.ofNat n) :: S)) rfl (hb hby hd) rfl (ofNat_nn (by omega)) (cap := cap) (by rw [ofNat_clamp (by omega)]; exact hcap) hb' hk hj
  refine Wp.go st (q T' h' _ ⟨hx, hZ, hby, hml, hret, hown, hnm, hlk, e', Nat.le_trans hn0 E'.1, hw, _, N, Y'⟩ rfl E' ⟨hn0, by omega, _, A', by rw [sz_new, ofNat_clamp (by omega)], fun i hi => ?_⟩)
  have := get_new (cA := cA) (ty := .int) (n := Int32.ofNat n) (k := Int32.ofNat i) (by rw [ofNat_clamp (by omega), ofNat_clamp (by omega)]; exact fun q => q.elim (ofNat_nn (by omega)) (fun q => by omega))
  rw [ofNat_clamp (by omega)] at this
  exact this
theorem w_newJ (X : Pos Z a0 n0 p l e R s m args below meth c code ml ret y T h k j) {x : Int32} (hd : Dec code pc (.newarray .long) 2 nx) (wa : (Jvm.Cond.arrayClass .long).before a0 Z = true) (n cap : Nat) (hx' : x = Int32.ofNat n) (hcap : n ≤ cap) (hb' : cap * 8 ≤ 536870912) (hk : k + 1 ≤ R.cells) (hj : j + cap ≤ R.slots)
    (q : ∀ T' h' a, Pos Z a0 n0 p l e R s m args below meth c code ml ret y T' h' (k + 1) (j + cap) → a = h.size → Ext h h' → Ba Z n0 h' a .long n (bJ fun _ => 0) → Wp n0 p e R s below Q T' (mkF m nx Ls (.ref a :: S))) : Wp n0 p e R s below Q T (mkF m pc Ls (.int x :: S)) := by
  obtain ⟨hx, hZ, hby, hml, hret, hown, hnm, hlk, eT, hn0, hw, locs, N, Y⟩ := X
  obtain ⟨hd, rfl⟩ := hd
  subst hx'
  obtain ⟨T', h', cA, Y', e', E', A', st⟩ := newP Y hx hZ (aty := .long) wa eT (g := mkF m pc Ls (.int (Int32.ofNat n) :: S)) rfl (hb hby hd) rfl (ofNat_nn (by omega)) (cap := cap) (by rw [ofNat_clamp (by omega)]; exact hcap) hb' hk hj
  refine Wp.go st (q T' h' _ ⟨hx, hZ, hby, hml, hret, hown, hnm, hlk, e', Nat.le_trans hn0 E'.1, hw, _, N, Y'⟩ rfl E' ⟨hn0, by omega, _, A', by rw [sz_new, ofNat_clamp (by omega)], fun i hi => ?_⟩)
  have := get_new (cA := cA) (ty := .long) (n := Int32.ofNat n) (k := Int32.ofNat i) (by rw [ofNat_clamp (by omega), ofNat_clamp (by omega)]; exact fun q => q.elim (ofNat_nn (by omega)) (fun q => by omega))
  rw [ofNat_clamp (by omega)] at this
  exact this
theorem w_static (X : Pos Z a0 n0 p l e R s m args below meth c code ml ret y T h k j) {z : MethodName} {cz : ByteArray} {mz : Nat} {rz : Option FieldType} {rm : Room} {Qz : Option Value → Heap → Prop} {ps : List FieldType} {rr : Option FieldType} {i : Nat} {argsL : List Value} (hd : Dec code pc (.invokestatic i) 3 nx) (C : Ctr l Z n0 z cz mz rz rm [] argsL.toArray h Qz) (wl : (Jvm.Cond.methodLink y.cls i z).before a0 Z = true) (ws : (Jvm.Cond.static z).before a0 Z = true) (wi : (Jvm.Cond.initialized z.cls).before a0 Z = true) (wc : (Jvm.Cond.code z cz mz rz).before a0 Z = true)
    (hz : z.cls ≠ "java/lang/invoke/MethodHandle" ∧ z.cls ≠ "java/lang/invoke/VarHandle") (hpd : parseMethodDescriptor z.desc = some ⟨ps, rr⟩) (hlen : argsL.length = ps.length) {S0 : List Value} (hS : S0 = argsL.reverse ++ S) (hsz : Ls.size = ml)
    (hf : rm.frames + 1 ≤ R.frames) (hlo : (S.map fun v => v.category).sum + (mz + 11) + rm.locals ≤ R.locals) (hk : k + rm.cells ≤ R.cells) (hj : j + rm.slots ≤ R.slots)
    (q : ∀ v T' h', Pos Z a0 n0 p l e R s m args below meth c code ml ret y T' h' (k + rm.cells) (j + rm.slots) → Qz v h' → Wp n0 p e R s below Q T' (mkF m nx Ls (v.toList ++ S))) : Wp n0 p e R s below Q T (mkF m pc Ls S0) := by
  obtain ⟨hx, hZ, hby, hml, hret, hown, hnm, hlk, eT, hn0, hw, locs, N, Y⟩ := X
  obtain ⟨hd, rfl⟩ := hd
  obtain ⟨v, _, ⟨T', L', k', j'⟩, -, Y', ⟨Lc, hQ, l1, l2, l3⟩, st⟩ := Jvm.LawKit.callS Y hx (y := z) hown (mvT hZ wl) (mvT hZ ws) (mvT hZ wi) (mvT hZ wc) hz (backOf (W := (S.map fun v => v.category).sum) (Q := fun v h L => Fr n0 L ∧ n0 ≤ h.size ∧ Qz v h) C hZ wc wi hf hlo) (g := mkF m pc Ls S0) rfl (by rw [hml]; exact hsz) (argsL := argsL) (rest := S) (lenOf hpd hlen) hS (by show 2 * 0 + _ ≤ _; omega) (hb hby hd) (fun _ _ => ⟨rfl, eT, hk, hj⟩)
  dsimp only [Pt.U, Pt.locs, Pt.cells, Pt.slots] at Y' l1 l2 l3 st hQ
  subst l1 l2 l3
  obtain ⟨N', hn', hQ⟩ := hQ
  exact Wp.go st (q v T' _ ⟨hx, hZ, hby, hml, hret, hown, hnm, hlk, rfl, hn', hw, _, Fr.app N N', Y'⟩ hQ)
theorem w_virtual (X : Pos Z a0 n0 p l e R s m args below meth c code ml ret y T h k j) {z : MethodName} {cz : ByteArray} {mz : Nat} {rz : Option FieldType} {rm : Room} {Qz : Option Value → Heap → Prop} {ps : List FieldType} {rr : Option FieldType} {i : Nat} {argsL : List Value} {a : Addr} (hd : Dec code pc (.invokevirtual i) 3 nx) (C : Ctr l Z n0 z cz mz rz rm [] (.ref a :: argsL).toArray h Qz) (E : Exa Z h a z.cls) (wl : (Jvm.Cond.methodLink y.cls i z).before a0 Z = true) (wdc : (Jvm.Cond.declares z).before a0 Z = true) (wse : (Jvm.Cond.selects z.cls z z).before a0 Z = true) (wim : (Jvm.Cond.instanceMethod z).before a0 Z = true) (wi : (Jvm.Cond.initialized z.cls).before a0 Z = true) (wc : (Jvm.Cond.code z cz mz rz).before a0 Z = true)
    (hz : z.cls ≠ "java/lang/invoke/MethodHandle" ∧ z.cls ≠ "java/lang/invoke/VarHandle") (hpd : parseMethodDescriptor z.desc = some ⟨ps, rr⟩) (hlen : argsL.length = ps.length) {S0 : List Value} (hS : S0 = argsL.reverse ++ .ref a :: S) (hsz : Ls.size = ml)
    (hf : rm.frames + 1 ≤ R.frames) (hlo : (S.map fun v => v.category).sum + (mz + 11) + rm.locals ≤ R.locals) (hk : k + rm.cells ≤ R.cells) (hj : j + rm.slots ≤ R.slots)
    (q : ∀ v T' h', Pos Z a0 n0 p l e R s m args below meth c code ml ret y T' h' (k + rm.cells) (j + rm.slots) → Qz v h' → Wp n0 p e R s below Q T' (mkF m nx Ls (v.toList ++ S))) : Wp n0 p e R s below Q T (mkF m pc Ls S0) := by
  obtain ⟨hx, hZ, hby, hml, hret, hown, hnm, hlk, eT, hn0, hw, locs, N, Y⟩ := X
  obtain ⟨hd, rfl⟩ := hd
  obtain ⟨cq, kq, qa, qb, qc⟩ := isOf hZ eT E
  have Ctr' := backOf (l := l) (R := R) (p := p) (e := e) (below := below) (s := s) (args := args) (len := 3) (W := (S.map fun v => v.category).sum) (Q := fun v h L => Fr n0 L ∧ n0 ≤ h.size ∧ Qz v h) C hZ wc wi hf hlo
  obtain ⟨v, _, ⟨T', L', k', j'⟩, -, Y', ⟨Lc, hQ, l1, l2, l3⟩, st⟩ := Y.virtualBack hx (y := z) (z := z) hown (mvT hZ wl) (mvT hZ wdc) (notFace_of_selects (args := #[]) (mvT hZ wse)) (mvT hZ wse) (mvT hZ wim) hz Ctr' qa qc (g := mkF m pc Ls S0) rfl (by rw [hml]; exact hsz) (Steps.refl _) (argsL := argsL) (rest := S) (lenOf hpd hlen) hS (by show 2 * 0 + _ ≤ _; omega) (hb hby hd) (fun _ _ => ⟨rfl, eT, hk, hj⟩)
  dsimp only [Pt.U, Pt.locs, Pt.cells, Pt.slots] at Y' l1 l2 l3 st hQ
  subst l1 l2 l3
  obtain ⟨N', hn', hQ⟩ := hQ
  exact Wp.go (fun _ t => st.trans t) (q v T' _ ⟨hx, hZ, hby, hml, hret, hown, hnm, hlk, rfl, hn', hw, _, Fr.app N N', Y'⟩ hQ)
theorem w_special (X : Pos Z a0 n0 p l e R s m args below meth c code ml ret y T h k j) {z : MethodName} {cz : ByteArray} {mz : Nat} {rm : Room} {Qz : Option Value → Heap → Prop} {ps : List FieldType} {rr : Option FieldType} {i : Nat} {argsL : List Value} {a : Addr} (hd : Dec code pc (.invokespecial i) 3 nx) (C : Ctr l Z n0 z cz mz none rm [] (.ref a :: argsL).toArray h Qz) (hz1 : z.name = "<init>") (wl : (Jvm.Cond.methodLink y.cls i z).before a0 Z = true) (wim : (Jvm.Cond.instanceMethod z).before a0 Z = true) (wi : (Jvm.Cond.initialized z.cls).before a0 Z = true) (wc : (Jvm.Cond.code z cz mz none).before a0 Z = true)
    (hz : z.cls ≠ "java/lang/invoke/MethodHandle" ∧ z.cls ≠ "java/lang/invoke/VarHandle") (hpd : parseMethodDescriptor z.desc = some ⟨ps, rr⟩) (hlen : argsL.length = ps.length) {S0 : List Value} (hS : S0 = argsL.reverse ++ .ref a :: S) (hsz : Ls.size = ml)
    (hf : rm.frames + 1 ≤ R.frames) (hlo : (S.map fun v => v.category).sum + (mz + 11) + rm.locals ≤ R.locals) (hk : k + rm.cells ≤ R.cells) (hj : j + rm.slots ≤ R.slots)
    (q : ∀ v T' h', Pos Z a0 n0 p l e R s m args below meth c code ml ret y T' h' (k + rm.cells) (j + rm.slots) → Qz v h' → Wp n0 p e R s below Q T' (mkF m nx Ls (v.toList ++ S))) : Wp n0 p e R s below Q T (mkF m pc Ls S0) := by
  obtain ⟨hx, hZ, hby, hml, hret, hown, hnm, hlk, eT, hn0, hw, locs, N, Y⟩ := X
  obtain ⟨hd, rfl⟩ := hd
  have Ctr' := backOf (l := l) (R := R) (p := p) (e := e) (below := below) (s := s) (args := args) (len := 3) (W := (S.map fun v => v.category).sum) (Q := fun v h L => Fr n0 L ∧ n0 ≤ h.size ∧ Qz v h) C hZ wc wi hf hlo
  obtain ⟨v, _, ⟨T', L', k', j'⟩, -, Y', ⟨Lc, hQ, l1, l2, l3⟩, st⟩ := Y.specialBack hx (y := z) hz1 hown (mvT hZ wl) (mvT hZ wim) (mvT hZ wc) hz Ctr' (g := mkF m pc Ls S0) rfl (by rw [hml]; exact hsz) (Steps.refl _) (a := a) (argsL := argsL) (rest := S) (lenOf hpd hlen) hS (by show 2 * 0 + _ ≤ _; omega) (hb hby hd) (fun _ _ => ⟨rfl, eT, hk, hj⟩)
  dsimp only [Pt.U, Pt.locs, Pt.cells, Pt.slots] at Y' l1 l2 l3 st hQ
  subst l1 l2 l3
  obtain ⟨N', hn', hQ⟩ := hQ
  exact Wp.go (fun _ t => st.trans t) (q v T' _ ⟨hx, hZ, hby, hml, hret, hown, hnm, hlk, rfl, hn', hw, _, Fr.app N N', Y'⟩ hQ)
theorem w_new (X : Pos Z a0 n0 p l e R s m args below meth c code ml ret y T h k j) {i n : Nat} {C : String} (hd : Dec code pc (.new i) 3 nx) (w : (Jvm.Cond.classLink y.cls i C).before a0 Z = true) (wi : (Jvm.Cond.instantiable C n).before a0 Z = true) (wz : (Jvm.Cond.initialized C).before a0 Z = true) (hk : k + 1 ≤ R.cells) (hj : j + n ≤ R.slots)
    (q : ∀ T' h' a, Pos Z a0 n0 p l e R s m args below meth c code ml ret y T' h' (k + 1) (j + n) → a = h.size → n0 ≤ a → Ext h h' → Exa Z h' a C → (∀ {O nm d : String} {ty : FieldType}, Laid Z a0 C O nm d → parseFieldDescriptor d = some ty → Fld Z h' a O nm d (defaultValue ty)) → Wp n0 p e R s below Q T' (mkF m nx Ls (.ref a :: S))) : Wp n0 p e R s below Q T (mkF m pc Ls S) := by
  obtain ⟨hx, hZ, hby, hml, hret, hown, hnm, hlk, eT, hn0, hw, locs, N, Y⟩ := X
  obtain ⟨hd, rfl⟩ := hd
  obtain ⟨T', h', Y', e', E', A', D', -, st⟩ := newO Y hx hZ hown w wi wz eT (g := mkF m pc Ls S) rfl (hb hby hd) hk hj
  exact Wp.go st (q T' h' _ ⟨hx, hZ, hby, hml, hret, hown, hnm, hlk, e', Nat.le_trans hn0 E'.1, hw, _, N, Y'⟩ rfl hn0 E' A' D')
theorem w_getF (X : Pos Z a0 n0 p l e R s m args below meth c code ml ret y T h k j) {i : Nat} {O nm d : String} {a : Addr} {v : Value} (hd : Dec code pc (.getfield i) 3 nx) (w : (Jvm.Cond.fieldLink y.cls i O nm d).before a0 Z = true) (F : Fld Z h a O nm d v)
    (q : ∀ T', Pos Z a0 n0 p l e R s m args below meth c code ml ret y T' h k j → Wp n0 p e R s below Q T' (mkF m nx Ls (v :: S))) : Wp n0 p e R s below Q T (mkF m pc Ls (.ref a :: S)) := by
  obtain ⟨hx, hZ, hby, hml, hret, hown, hnm, hlk, eT, hn0, hw, locs, N, Y⟩ := X
  obtain ⟨hd, rfl⟩ := hd
  obtain ⟨T', Y', e', st⟩ := getF Y hx hZ hown (host := "") (Or.inl w) Via.refl eT F (g := mkF m pc Ls (.ref a :: S)) rfl rfl (hb hby hd)
  exact Wp.go st (q T' ⟨hx, hZ, hby, hml, hret, hown, hnm, hlk, e', hn0, hw, _, N, Y'⟩)
theorem w_putF (X : Pos Z a0 n0 p l e R s m args below meth c code ml ret y T h k j) {i kk : Nat} {C O nm d : String} {ty : FieldType} {a : Addr} {v old : Value} (hd : Dec code pc (.putfield i) 3 nx) (w : (Jvm.Cond.fieldLink y.cls i O nm d).before a0 Z = true) (F : Fld Z h a O nm d old) (E : Exa Z h a C) (hna : n0 ≤ a) (L : (Jvm.Cond.lays C O nm d).before a0 Z = true ∨ ((Jvm.Cond.laysFinal C O nm d).before a0 Z = true ∧ y.cls = O ∧ y.name = "<init>")) (wi : (Jvm.Cond.instantiable C kk).before a0 Z = true) (hty : parseFieldDescriptor d = some ty) (hn : narrow ty v = v) (hf : fits ty v = true)
    (q : ∀ T' h', Pos Z a0 n0 p l e R s m args below meth c code ml ret y T' h' k j → Wr h h' a (Jvm.RoadKit.slotOf Z O nm d) v → Wp n0 p e R s below Q T' (mkF m nx Ls S)) : Wp n0 p e R s below Q T (mkF m pc Ls (v :: .ref a :: S)) := by
  obtain ⟨hx, hZ, hby, hml, hret, hown, hnm, hlk, eT, hn0, hw, locs, N, Y⟩ := X
  obtain ⟨hd, rfl⟩ := hd
  obtain ⟨T', h', Y', e', W', st⟩ := putF Y hx hZ hown (host := "") (Or.inl w) Via.refl eT F E (L.imp id fun q => ⟨q.1, q.2.1, hnm.trans q.2.2⟩) wi hty hn hf (g := mkF m pc Ls (v :: .ref a :: S)) rfl rfl (hb hby hd)
  exact Wp.go st (q T' h' ⟨hx, hZ, hby, hml, hret, hown, hnm, hlk, e', by rw [W'.size]; exact hn0, hw, _, Fr.snoc Y' N hna, Y'⟩ W')
end OwnKit
section OwnInit
variable {Z : State} {a0 : Array Value} {n0 : Nat} {p : Program} {l : Launch} {e : Env} {R : Room} {s : State} {m : MethodId} {args : Array Value} {below : List Frame} {meth : Method} {c : Code} {code : ByteArray} {ml : Nat} {ret : Option FieldType} {y : MethodName} {T : State} {h h' : Heap} {k j : Nat} {Q : Option Value → Heap → Prop} {pc nx tgt : Nat} {Ls : Array Slot} {S : List Value}
theorem w_initO (X : Pos Z a0 n0 p l e R s m args below meth c code ml ret y T h k j) {i : Nat} {a : Addr} (hd : Dec code pc (.invokespecial i) 3 nx) (w1 : (Jvm.Cond.methodLink y.cls i Lib.objectInit).before a0 Z = true) (w2 : (Jvm.Cond.instanceMethod Lib.objectInit).before a0 Z = true) (w3 : (Jvm.Cond.code Lib.objectInit object_method_1_code 1 none).before a0 Z = true) (hsz : Ls.size = ml) (hf : 1 ≤ R.frames) (hlo : (S.map fun v => v.category).sum + 12 ≤ R.locals)
    (q : ∀ T', Pos Z a0 n0 p l e R s m args below meth c code ml ret y T' h k j → Wp n0 p e R s below Q T' (mkF m nx Ls S)) : Wp n0 p e R s below Q T (mkF m pc Ls (.ref a :: S)) := by
  obtain ⟨hx, hZ, hby, hml, hret, hown, hnm, hlk, eT, hn0, hw, locs, N, Y⟩ := X
  obtain ⟨hd, rfl⟩ := hd
  obtain ⟨T', Y', e', st⟩ := initO Y hx hZ hown w1 w2 w3 eT (g := mkF m pc Ls (.ref a :: S)) rfl (by rw [hml]; exact hsz) rfl (hb hby hd) hf (W := (S.map fun v => v.category).sum) (by show 2 * 0 + _ ≤ _; omega) hlo
  exact Wp.go st (q T' ⟨hx, hZ, hby, hml, hret, hown, hnm, hlk, e', hn0, hw, _, N, Y'⟩)
end OwnInit
theorem D0_0 : Dec code 0 (.iload_n 0) 1 1 := ⟨at_0, rfl⟩
theorem D0_1 : Dec code 1 (.ldc 7) 2 3 := ⟨at_1, rfl⟩
theorem D0_3 : Dec code 3 .iand 1 4 := ⟨at_3, rfl⟩
theorem D0_4 : Dec code 4 (.istore 7) 2 6 := ⟨at_4, rfl⟩
theorem D0_6 : Dec code 6 (.iload_n 1) 1 7 := ⟨at_6, rfl⟩
theorem D0_7 : Dec code 7 (.ldc 7) 2 9 := ⟨at_7, rfl⟩
theorem D0_9 : Dec code 9 .iand 1 10 := ⟨at_9, rfl⟩
theorem D0_10 : Dec code 10 (.istore 8) 2 12 := ⟨at_10, rfl⟩
theorem D0_12 : Dec code 12 (.iload_n 2) 1 13 := ⟨at_12, rfl⟩
theorem D0_13 : Dec code 13 (.ldc 7) 2 15 := ⟨at_13, rfl⟩
theorem D0_15 : Dec code 15 .iand 1 16 := ⟨at_15, rfl⟩
theorem D0_16 : Dec code 16 (.istore 9) 2 18 := ⟨at_16, rfl⟩
theorem D0_18 : Dec code 18 (.iconst 3) 1 19 := ⟨at_18, rfl⟩
theorem D0_19 : Dec code 19 (.newarray .int) 2 21 := ⟨at_19, rfl⟩
theorem D0_21 : Dec code 21 .dup 1 22 := ⟨at_21, rfl⟩
theorem D0_22 : Dec code 22 (.iconst 0) 1 23 := ⟨at_22, rfl⟩
theorem D0_23 : Dec code 23 (.iload 7) 2 25 := ⟨at_23, rfl⟩
theorem D0_25 : Dec code 25 (.iload_n 3) 1 26 := ⟨at_25, rfl⟩
theorem D0_26 : Dec code 26 (.bipush 31) 2 28 := ⟨at_26, rfl⟩
theorem D0_28 : Dec code 28 .iand 1 29 := ⟨at_28, rfl⟩
theorem D0_29 : Dec code 29 .iushr 1 30 := ⟨at_29, rfl⟩
theorem D0_30 : Dec code 30 .iastore 1 31 := ⟨at_30, rfl⟩
theorem D0_31 : Dec code 31 .dup 1 32 := ⟨at_31, rfl⟩
theorem D0_32 : Dec code 32 (.iconst 1) 1 33 := ⟨at_32, rfl⟩
theorem D0_33 : Dec code 33 (.iload 8) 2 35 := ⟨at_33, rfl⟩
theorem D0_35 : Dec code 35 (.iload_n 3) 1 36 := ⟨at_35, rfl⟩
theorem D0_36 : Dec code 36 (.iconst 5) 1 37 := ⟨at_36, rfl⟩
theorem D0_37 : Dec code 37 .iushr 1 38 := ⟨at_37, rfl⟩
theorem D0_38 : Dec code 38 (.bipush 31) 2 40 := ⟨at_38, rfl⟩
theorem D0_40 : Dec code 40 .iand 1 41 := ⟨at_40, rfl⟩
theorem D0_41 : Dec code 41 .iushr 1 42 := ⟨at_41, rfl⟩
theorem D0_42 : Dec code 42 .iastore 1 43 := ⟨at_42, rfl⟩
theorem D0_43 : Dec code 43 .dup 1 44 := ⟨at_43, rfl⟩
theorem D0_44 : Dec code 44 (.iconst 2) 1 45 := ⟨at_44, rfl⟩
theorem D0_45 : Dec code 45 (.iload 9) 2 47 := ⟨at_45, rfl⟩
theorem D0_47 : Dec code 47 (.iload_n 3) 1 48 := ⟨at_47, rfl⟩
theorem D0_48 : Dec code 48 (.bipush 10) 2 50 := ⟨at_48, rfl⟩
theorem D0_50 : Dec code 50 .iushr 1 51 := ⟨at_50, rfl⟩
theorem D0_51 : Dec code 51 (.bipush 31) 2 53 := ⟨at_51, rfl⟩
theorem D0_53 : Dec code 53 .iand 1 54 := ⟨at_53, rfl⟩
theorem D0_54 : Dec code 54 .iushr 1 55 := ⟨at_54, rfl⟩
theorem D0_55 : Dec code 55 .iastore 1 56 := ⟨at_55, rfl⟩
theorem D0_56 : Dec code 56 (.astore 10) 2 58 := ⟨at_56, rfl⟩
theorem D0_58 : Dec code 58 (.iconst 3) 1 59 := ⟨at_58, rfl⟩
theorem D0_59 : Dec code 59 (.newarray .int) 2 61 := ⟨at_59, rfl⟩
theorem D0_61 : Dec code 61 .dup 1 62 := ⟨at_61, rfl⟩
theorem D0_62 : Dec code 62 (.iconst 0) 1 63 := ⟨at_62, rfl⟩
theorem D0_63 : Dec code 63 (.iload 7) 2 65 := ⟨at_63, rfl⟩
theorem D0_65 : Dec code 65 (.iload_n 3) 1 66 := ⟨at_65, rfl⟩
theorem D0_66 : Dec code 66 (.bipush 15) 2 68 := ⟨at_66, rfl⟩
theorem D0_68 : Dec code 68 .iushr 1 69 := ⟨at_68, rfl⟩
theorem D0_69 : Dec code 69 (.bipush 31) 2 71 := ⟨at_69, rfl⟩
theorem D0_71 : Dec code 71 .iand 1 72 := ⟨at_71, rfl⟩
theorem D0_72 : Dec code 72 .iushr 1 73 := ⟨at_72, rfl⟩
theorem D0_73 : Dec code 73 .iastore 1 74 := ⟨at_73, rfl⟩
theorem D0_74 : Dec code 74 .dup 1 75 := ⟨at_74, rfl⟩
theorem D0_75 : Dec code 75 (.iconst 1) 1 76 := ⟨at_75, rfl⟩
theorem D0_76 : Dec code 76 (.iload 8) 2 78 := ⟨at_76, rfl⟩
theorem D0_78 : Dec code 78 (.iload_n 3) 1 79 := ⟨at_78, rfl⟩
theorem D0_79 : Dec code 79 (.bipush 20) 2 81 := ⟨at_79, rfl⟩
theorem D0_81 : Dec code 81 .iushr 1 82 := ⟨at_81, rfl⟩
theorem D0_82 : Dec code 82 (.bipush 31) 2 84 := ⟨at_82, rfl⟩
theorem D0_84 : Dec code 84 .iand 1 85 := ⟨at_84, rfl⟩
theorem D0_85 : Dec code 85 .iushr 1 86 := ⟨at_85, rfl⟩
theorem D0_86 : Dec code 86 .iastore 1 87 := ⟨at_86, rfl⟩
theorem D0_87 : Dec code 87 .dup 1 88 := ⟨at_87, rfl⟩
theorem D0_88 : Dec code 88 (.iconst 2) 1 89 := ⟨at_88, rfl⟩
theorem D0_89 : Dec code 89 (.iload 9) 2 91 := ⟨at_89, rfl⟩
theorem D0_91 : Dec code 91 (.iload_n 3) 1 92 := ⟨at_91, rfl⟩
theorem D0_92 : Dec code 92 (.bipush 25) 2 94 := ⟨at_92, rfl⟩
theorem D0_94 : Dec code 94 .iushr 1 95 := ⟨at_94, rfl⟩
theorem D0_95 : Dec code 95 (.bipush 31) 2 97 := ⟨at_95, rfl⟩
theorem D0_97 : Dec code 97 .iand 1 98 := ⟨at_97, rfl⟩
theorem D0_98 : Dec code 98 .iushr 1 99 := ⟨at_98, rfl⟩
theorem D0_99 : Dec code 99 .iastore 1 100 := ⟨at_99, rfl⟩
theorem D0_100 : Dec code 100 (.astore 11) 2 102 := ⟨at_100, rfl⟩
theorem D0_102 : Dec code 102 (.iconst 3) 1 103 := ⟨at_102, rfl⟩
theorem D0_103 : Dec code 103 (.newarray .int) 2 105 := ⟨at_103, rfl⟩
theorem D0_105 : Dec code 105 .dup 1 106 := ⟨at_105, rfl⟩
theorem D0_106 : Dec code 106 (.iconst 0) 1 107 := ⟨at_106, rfl⟩
theorem D0_107 : Dec code 107 (.iload 7) 2 109 := ⟨at_107, rfl⟩
theorem D0_109 : Dec code 109 .iastore 1 110 := ⟨at_109, rfl⟩
theorem D0_110 : Dec code 110 .dup 1 111 := ⟨at_110, rfl⟩
theorem D0_111 : Dec code 111 (.iconst 1) 1 112 := ⟨at_111, rfl⟩
theorem D0_112 : Dec code 112 (.iload 8) 2 114 := ⟨at_112, rfl⟩
theorem D0_114 : Dec code 114 .iastore 1 115 := ⟨at_114, rfl⟩
theorem D0_115 : Dec code 115 .dup 1 116 := ⟨at_115, rfl⟩
theorem D0_116 : Dec code 116 (.iconst 2) 1 117 := ⟨at_116, rfl⟩
theorem D0_117 : Dec code 117 (.iload 9) 2 119 := ⟨at_117, rfl⟩
theorem D0_119 : Dec code 119 .iastore 1 120 := ⟨at_119, rfl⟩
theorem D0_120 : Dec code 120 (.astore 12) 2 122 := ⟨at_120, rfl⟩
theorem D0_122 : Dec code 122 (.bipush 16) 2 124 := ⟨at_122, rfl⟩
theorem D0_124 : Dec code 124 (.newarray .long) 2 126 := ⟨at_124, rfl⟩
theorem D0_126 : Dec code 126 (.astore 13) 2 128 := ⟨at_126, rfl⟩
theorem D0_128 : Dec code 128 (.bipush 19) 2 130 := ⟨at_128, rfl⟩
theorem D0_130 : Dec code 130 (.newarray .long) 2 132 := ⟨at_130, rfl⟩
theorem D0_132 : Dec code 132 (.astore 14) 2 134 := ⟨at_132, rfl⟩
theorem D0_134 : Dec code 134 (.iconst 3) 1 135 := ⟨at_134, rfl⟩
theorem D0_135 : Dec code 135 (.newarray .int) 2 137 := ⟨at_135, rfl⟩
theorem D0_137 : Dec code 137 .dup 1 138 := ⟨at_137, rfl⟩
theorem D0_138 : Dec code 138 (.iconst 0) 1 139 := ⟨at_138, rfl⟩
theorem D0_139 : Dec code 139 (.lload 5) 2 141 := ⟨at_139, rfl⟩
theorem D0_141 : Dec code 141 .l2i 1 142 := ⟨at_141, rfl⟩
theorem D0_142 : Dec code 142 .iastore 1 143 := ⟨at_142, rfl⟩
theorem D0_143 : Dec code 143 .dup 1 144 := ⟨at_143, rfl⟩
theorem D0_144 : Dec code 144 (.iconst 1) 1 145 := ⟨at_144, rfl⟩
theorem D0_145 : Dec code 145 (.lload 5) 2 147 := ⟨at_145, rfl⟩
theorem D0_147 : Dec code 147 (.bipush 21) 2 149 := ⟨at_147, rfl⟩
theorem D0_149 : Dec code 149 .lushr 1 150 := ⟨at_149, rfl⟩
theorem D0_150 : Dec code 150 .l2i 1 151 := ⟨at_150, rfl⟩
theorem D0_151 : Dec code 151 .iastore 1 152 := ⟨at_151, rfl⟩
theorem D0_152 : Dec code 152 .dup 1 153 := ⟨at_152, rfl⟩
theorem D0_153 : Dec code 153 (.iconst 2) 1 154 := ⟨at_153, rfl⟩
theorem D0_154 : Dec code 154 (.lload 5) 2 156 := ⟨at_154, rfl⟩
theorem D0_156 : Dec code 156 (.bipush 42) 2 158 := ⟨at_156, rfl⟩
theorem D0_158 : Dec code 158 .lushr 1 159 := ⟨at_158, rfl⟩
theorem D0_159 : Dec code 159 .l2i 1 160 := ⟨at_159, rfl⟩
theorem D0_160 : Dec code 160 .iastore 1 161 := ⟨at_160, rfl⟩
theorem D0_161 : Dec code 161 (.astore 15) 2 163 := ⟨at_161, rfl⟩
theorem D0_163 : Dec code 163 (.iload 4) 2 165 := ⟨at_163, rfl⟩
theorem D0_165 : Dec code 165 (.iconst 3) 1 166 := ⟨at_165, rfl⟩
theorem D0_166 : Dec code 166 .iand 1 167 := ⟨at_166, rfl⟩
theorem D0_167 : Dec code 167 (.istore 16) 2 169 := ⟨at_167, rfl⟩
theorem D0_169 : Dec code 169 (.new 8) 3 172 := ⟨at_169, rfl⟩
theorem D0_172 : Dec code 172 .dup 1 173 := ⟨at_172, rfl⟩
theorem D0_173 : Dec code 173 (.aload 10) 2 175 := ⟨at_173, rfl⟩
theorem D0_175 : Dec code 175 (.invokespecial 10) 3 178 := ⟨at_175, rfl⟩
theorem D0_178 : Dec code 178 (.astore 17) 2 180 := ⟨at_178, rfl⟩
theorem D0_180 : Dec code 180 (.aload 17) 2 182 := ⟨at_180, rfl⟩
theorem D0_182 : Dec code 182 (.aload 11) 2 184 := ⟨at_182, rfl⟩
theorem D0_184 : Dec code 184 (.invokevirtual 13) 3 187 := ⟨at_184, rfl⟩
theorem D0_187 : Dec code 187 (.aload 17) 2 189 := ⟨at_187, rfl⟩
theorem D0_189 : Dec code 189 (.aload 12) 2 191 := ⟨at_189, rfl⟩
theorem D0_191 : Dec code 191 (.invokevirtual 13) 3 194 := ⟨at_191, rfl⟩
theorem D0_194 : Dec code 194 (.aload 17) 2 196 := ⟨at_194, rfl⟩
theorem D0_196 : Dec code 196 (.aload 12) 2 198 := ⟨at_196, rfl⟩
theorem D0_198 : Dec code 198 (.aload 13) 2 200 := ⟨at_198, rfl⟩
theorem D0_200 : Dec code 200 (.invokevirtual 16) 3 203 := ⟨at_200, rfl⟩
theorem D0_203 : Dec code 203 (.istore 18) 2 205 := ⟨at_203, rfl⟩
theorem D0_205 : Dec code 205 (.aload 14) 2 207 := ⟨at_205, rfl⟩
theorem D0_207 : Dec code 207 (.iconst 0) 1 208 := ⟨at_207, rfl⟩
theorem D0_208 : Dec code 208 (.lload 5) 2 210 := ⟨at_208, rfl⟩
theorem D0_210 : Dec code 210 .lastore 1 211 := ⟨at_210, rfl⟩
theorem D0_211 : Dec code 211 (.aload 14) 2 213 := ⟨at_211, rfl⟩
theorem D0_213 : Dec code 213 (.iconst 1) 1 214 := ⟨at_213, rfl⟩
theorem D0_214 : Dec code 214 (.lload 5) 2 216 := ⟨at_214, rfl⟩
theorem D0_216 : Dec code 216 .lastore 1 217 := ⟨at_216, rfl⟩
theorem D0_217 : Dec code 217 (.aload 14) 2 219 := ⟨at_217, rfl⟩
theorem D0_219 : Dec code 219 (.iconst 2) 1 220 := ⟨at_219, rfl⟩
theorem D0_220 : Dec code 220 (.lload 5) 2 222 := ⟨at_220, rfl⟩
theorem D0_222 : Dec code 222 .lastore 1 223 := ⟨at_222, rfl⟩
theorem D0_223 : Dec code 223 (.aload 13) 2 225 := ⟨at_223, rfl⟩
theorem D0_225 : Dec code 225 (.aload 14) 2 227 := ⟨at_225, rfl⟩
theorem D0_227 : Dec code 227 (.iload 16) 2 229 := ⟨at_227, rfl⟩
theorem D0_229 : Dec code 229 (.invokestatic 20) 3 232 := ⟨at_229, rfl⟩
theorem D0_232 : Dec code 232 (.aload 17) 2 234 := ⟨at_232, rfl⟩
theorem D0_234 : Dec code 234 (.aload 14) 2 236 := ⟨at_234, rfl⟩
theorem D0_236 : Dec code 236 (.iload 16) 2 238 := ⟨at_236, rfl⟩
theorem D0_238 : Dec code 238 (.aload 15) 2 240 := ⟨at_238, rfl⟩
theorem D0_240 : Dec code 240 (.invokevirtual 26) 3 243 := ⟨at_240, rfl⟩
theorem D0_243 : Dec code 243 (.iload 18) 2 245 := ⟨at_243, rfl⟩
theorem D0_245 : Jmp code 245 (.ifCond .eq 34) 34 248 279 := ⟨at_245, rfl, by decide, by decide⟩
theorem D0_248 : Dec code 248 (.aload 15) 2 250 := ⟨at_248, rfl⟩
theorem D0_250 : Dec code 250 (.iconst 0) 1 251 := ⟨at_250, rfl⟩
theorem D0_251 : Dec code 251 .iaload 1 252 := ⟨at_251, rfl⟩
theorem D0_252 : Dec code 252 (.iload 7) 2 254 := ⟨at_252, rfl⟩
theorem D0_254 : Jmp code 254 (.if_icmp .ne 25) 25 257 279 := ⟨at_254, rfl, by decide, by decide⟩
theorem D0_257 : Dec code 257 (.aload 15) 2 259 := ⟨at_257, rfl⟩
theorem D0_259 : Dec code 259 (.iconst 1) 1 260 := ⟨at_259, rfl⟩
theorem D0_260 : Dec code 260 .iaload 1 261 := ⟨at_260, rfl⟩
theorem D0_261 : Dec code 261 (.iload 8) 2 263 := ⟨at_261, rfl⟩
theorem D0_263 : Jmp code 263 (.if_icmp .ne 16) 16 266 279 := ⟨at_263, rfl, by decide, by decide⟩
theorem D0_266 : Dec code 266 (.aload 15) 2 268 := ⟨at_266, rfl⟩
theorem D0_268 : Dec code 268 (.iconst 2) 1 269 := ⟨at_268, rfl⟩
theorem D0_269 : Dec code 269 .iaload 1 270 := ⟨at_269, rfl⟩
theorem D0_270 : Dec code 270 (.iload 9) 2 272 := ⟨at_270, rfl⟩
theorem D0_272 : Jmp code 272 (.if_icmp .ne 7) 7 275 279 := ⟨at_272, rfl, by decide, by decide⟩
theorem D0_275 : Dec code 275 (.iconst 1) 1 276 := ⟨at_275, rfl⟩
theorem D0_276 : Jmp code 276 (.goto 4) 4 279 280 := ⟨at_276, rfl, by decide, by decide⟩
theorem D0_280 : Dec code 280 .ireturn 1 281 := ⟨at_280, rfl⟩
theorem D1_0 : Dec prog_60_method_1_code 0 (.aload_n 0) 1 1 := ⟨by decide +kernel, rfl⟩
theorem D1_1 : Dec prog_60_method_1_code 1 (.invokespecial 1) 3 4 := ⟨by decide +kernel, rfl⟩
theorem D1_4 : Dec prog_60_method_1_code 4 (.aload_n 0) 1 5 := ⟨by decide +kernel, rfl⟩
theorem D1_5 : Dec prog_60_method_1_code 5 (.iconst 0) 1 6 := ⟨by decide +kernel, rfl⟩
theorem D1_6 : Dec prog_60_method_1_code 6 (.newarray .int) 2 8 := ⟨by decide +kernel, rfl⟩
theorem D1_8 : Dec prog_60_method_1_code 8 (.putfield 7) 3 11 := ⟨by decide +kernel, rfl⟩
theorem D1_11 : Dec prog_60_method_1_code 11 (.aload_n 0) 1 12 := ⟨by decide +kernel, rfl⟩
theorem D1_12 : Dec prog_60_method_1_code 12 (.iconst 0) 1 13 := ⟨by decide +kernel, rfl⟩
theorem D1_13 : Dec prog_60_method_1_code 13 (.newarray .int) 2 15 := ⟨by decide +kernel, rfl⟩
theorem D1_15 : Dec prog_60_method_1_code 15 (.putfield 13) 3 18 := ⟨by decide +kernel, rfl⟩
theorem D1_18 : Dec prog_60_method_1_code 18 (.aload_n 0) 1 19 := ⟨by decide +kernel, rfl⟩
theorem D1_19 : Dec prog_60_method_1_code 19 (.iconst 0) 1 20 := ⟨by decide +kernel, rfl⟩
theorem D1_20 : Dec prog_60_method_1_code 20 (.newarray .int) 2 22 := ⟨by decide +kernel, rfl⟩
theorem D1_22 : Dec prog_60_method_1_code 22 (.putfield 16) 3 25 := ⟨by decide +kernel, rfl⟩
theorem D1_25 : Dec prog_60_method_1_code 25 (.aload_n 0) 1 26 := ⟨by decide +kernel, rfl⟩
theorem D1_26 : Dec prog_60_method_1_code 26 (.iconst 0) 1 27 := ⟨by decide +kernel, rfl⟩
theorem D1_27 : Dec prog_60_method_1_code 27 (.newarray .int) 2 29 := ⟨by decide +kernel, rfl⟩
theorem D1_29 : Dec prog_60_method_1_code 29 (.putfield 19) 3 32 := ⟨by decide +kernel, rfl⟩
theorem D1_32 : Dec prog_60_method_1_code 32 (.aload_n 0) 1 33 := ⟨by decide +kernel, rfl⟩
theorem D1_33 : Dec prog_60_method_1_code 33 (.iconst 0) 1 34 := ⟨by decide +kernel, rfl⟩
theorem D1_34 : Dec prog_60_method_1_code 34 (.newarray .long) 2 36 := ⟨by decide +kernel, rfl⟩
theorem D1_36 : Dec prog_60_method_1_code 36 (.putfield 22) 3 39 := ⟨by decide +kernel, rfl⟩
theorem D1_39 : Dec prog_60_method_1_code 39 (.aload_n 0) 1 40 := ⟨by decide +kernel, rfl⟩
theorem D1_40 : Dec prog_60_method_1_code 40 (.iconst 0) 1 41 := ⟨by decide +kernel, rfl⟩
theorem D1_41 : Dec prog_60_method_1_code 41 (.newarray .int) 2 43 := ⟨by decide +kernel, rfl⟩
theorem D1_43 : Dec prog_60_method_1_code 43 (.putfield 26) 3 46 := ⟨by decide +kernel, rfl⟩
theorem D1_46 : Dec prog_60_method_1_code 46 (.aload_n 1) 1 47 := ⟨by decide +kernel, rfl⟩
theorem D1_47 : Dec prog_60_method_1_code 47 .arraylength 1 48 := ⟨by decide +kernel, rfl⟩
theorem D1_48 : Dec prog_60_method_1_code 48 (.istore_n 2) 1 49 := ⟨by decide +kernel, rfl⟩
theorem D1_49 : Dec prog_60_method_1_code 49 (.aload_n 0) 1 50 := ⟨by decide +kernel, rfl⟩
theorem D1_50 : Dec prog_60_method_1_code 50 (.iload_n 2) 1 51 := ⟨by decide +kernel, rfl⟩
theorem D1_51 : Dec prog_60_method_1_code 51 (.newarray .int) 2 53 := ⟨by decide +kernel, rfl⟩
theorem D1_53 : Dec prog_60_method_1_code 53 (.putfield 29) 3 56 := ⟨by decide +kernel, rfl⟩
theorem D1_56 : Dec prog_60_method_1_code 56 (.aload_n 0) 1 57 := ⟨by decide +kernel, rfl⟩
theorem D1_57 : Dec prog_60_method_1_code 57 (.iload_n 2) 1 58 := ⟨by decide +kernel, rfl⟩
theorem D1_58 : Dec prog_60_method_1_code 58 (.newarray .int) 2 60 := ⟨by decide +kernel, rfl⟩
theorem D1_60 : Dec prog_60_method_1_code 60 (.putfield 32) 3 63 := ⟨by decide +kernel, rfl⟩
theorem D1_63 : Dec prog_60_method_1_code 63 (.aload_n 0) 1 64 := ⟨by decide +kernel, rfl⟩
theorem D1_64 : Dec prog_60_method_1_code 64 (.iload_n 2) 1 65 := ⟨by decide +kernel, rfl⟩
theorem D1_65 : Dec prog_60_method_1_code 65 (.newarray .long) 2 67 := ⟨by decide +kernel, rfl⟩
theorem D1_67 : Dec prog_60_method_1_code 67 (.putfield 35) 3 70 := ⟨by decide +kernel, rfl⟩
theorem D1_70 : Dec prog_60_method_1_code 70 (.aload_n 0) 1 71 := ⟨by decide +kernel, rfl⟩
theorem D1_71 : Dec prog_60_method_1_code 71 (.iload_n 2) 1 72 := ⟨by decide +kernel, rfl⟩
theorem D1_72 : Dec prog_60_method_1_code 72 (.newarray .int) 2 74 := ⟨by decide +kernel, rfl⟩
theorem D1_74 : Dec prog_60_method_1_code 74 (.putfield 38) 3 77 := ⟨by decide +kernel, rfl⟩
theorem D1_77 : Dec prog_60_method_1_code 77 (.aload_n 0) 1 78 := ⟨by decide +kernel, rfl⟩
theorem D1_78 : Dec prog_60_method_1_code 78 (.iload_n 2) 1 79 := ⟨by decide +kernel, rfl⟩
theorem D1_79 : Dec prog_60_method_1_code 79 (.newarray .int) 2 81 := ⟨by decide +kernel, rfl⟩
theorem D1_81 : Dec prog_60_method_1_code 81 (.putfield 41) 3 84 := ⟨by decide +kernel, rfl⟩
theorem D1_84 : Dec prog_60_method_1_code 84 (.aload_n 0) 1 85 := ⟨by decide +kernel, rfl⟩
theorem D1_85 : Dec prog_60_method_1_code 85 (.iload_n 2) 1 86 := ⟨by decide +kernel, rfl⟩
theorem D1_86 : Dec prog_60_method_1_code 86 (.newarray .int) 2 88 := ⟨by decide +kernel, rfl⟩
theorem D1_88 : Dec prog_60_method_1_code 88 (.putfield 44) 3 91 := ⟨by decide +kernel, rfl⟩
theorem D1_91 : Dec prog_60_method_1_code 91 (.aload_n 0) 1 92 := ⟨by decide +kernel, rfl⟩
theorem D1_92 : Dec prog_60_method_1_code 92 (.getfield 41) 3 95 := ⟨by decide +kernel, rfl⟩
theorem D1_95 : Dec prog_60_method_1_code 95 (.iconst (-1)) 1 96 := ⟨by decide +kernel, rfl⟩
theorem D1_96 : Dec prog_60_method_1_code 96 (.invokestatic 47) 3 99 := ⟨by decide +kernel, rfl⟩
theorem D1_99 : Dec prog_60_method_1_code 99 (.aload_n 0) 1 100 := ⟨by decide +kernel, rfl⟩
theorem D1_100 : Dec prog_60_method_1_code 100 (.getfield 44) 3 103 := ⟨by decide +kernel, rfl⟩
theorem D1_103 : Dec prog_60_method_1_code 103 (.iconst (-1)) 1 104 := ⟨by decide +kernel, rfl⟩
theorem D1_104 : Dec prog_60_method_1_code 104 (.invokestatic 47) 3 107 := ⟨by decide +kernel, rfl⟩
theorem D1_107 : Dec prog_60_method_1_code 107 (.iconst 0) 1 108 := ⟨by decide +kernel, rfl⟩
theorem D1_108 : Dec prog_60_method_1_code 108 (.istore_n 3) 1 109 := ⟨by decide +kernel, rfl⟩
theorem D1_109 : Dec prog_60_method_1_code 109 (.iload_n 3) 1 110 := ⟨by decide +kernel, rfl⟩
theorem D1_110 : Dec prog_60_method_1_code 110 (.iload_n 2) 1 111 := ⟨by decide +kernel, rfl⟩
theorem D1_111 : Jmp prog_60_method_1_code 111 (.if_icmp .ge 85) 85 114 196 := ⟨by decide +kernel, rfl, by decide, by decide⟩
theorem D1_114 : Dec prog_60_method_1_code 114 (.aload_n 1) 1 115 := ⟨by decide +kernel, rfl⟩
theorem D1_115 : Dec prog_60_method_1_code 115 (.iload_n 3) 1 116 := ⟨by decide +kernel, rfl⟩
theorem D1_116 : Dec prog_60_method_1_code 116 .iaload 1 117 := ⟨by decide +kernel, rfl⟩
theorem D1_117 : Dec prog_60_method_1_code 117 (.invokestatic 53) 3 120 := ⟨by decide +kernel, rfl⟩
theorem D1_120 : Dec prog_60_method_1_code 120 (.istore 4) 2 122 := ⟨by decide +kernel, rfl⟩
theorem D1_122 : Dec prog_60_method_1_code 122 (.aload_n 0) 1 123 := ⟨by decide +kernel, rfl⟩
theorem D1_123 : Dec prog_60_method_1_code 123 (.iload 4) 2 125 := ⟨by decide +kernel, rfl⟩
theorem D1_125 : Dec prog_60_method_1_code 125 (.invokevirtual 57) 3 128 := ⟨by decide +kernel, rfl⟩
theorem D1_128 : Dec prog_60_method_1_code 128 (.aload_n 0) 1 129 := ⟨by decide +kernel, rfl⟩
theorem D1_129 : Dec prog_60_method_1_code 129 (.getfield 29) 3 132 := ⟨by decide +kernel, rfl⟩
theorem D1_132 : Dec prog_60_method_1_code 132 (.iload_n 3) 1 133 := ⟨by decide +kernel, rfl⟩
theorem D1_133 : Dec prog_60_method_1_code 133 (.aload_n 0) 1 134 := ⟨by decide +kernel, rfl⟩
theorem D1_134 : Dec prog_60_method_1_code 134 (.getfield 61) 3 137 := ⟨by decide +kernel, rfl⟩
theorem D1_137 : Dec prog_60_method_1_code 137 (.ldc2_w 67) 3 140 := ⟨by decide +kernel, rfl⟩
theorem D1_140 : Dec prog_60_method_1_code 140 .ldiv 1 141 := ⟨by decide +kernel, rfl⟩
theorem D1_141 : Dec prog_60_method_1_code 141 .l2i 1 142 := ⟨by decide +kernel, rfl⟩
theorem D1_142 : Dec prog_60_method_1_code 142 .iastore 1 143 := ⟨by decide +kernel, rfl⟩
theorem D1_143 : Dec prog_60_method_1_code 143 (.aload_n 0) 1 144 := ⟨by decide +kernel, rfl⟩
theorem D1_144 : Dec prog_60_method_1_code 144 (.getfield 32) 3 147 := ⟨by decide +kernel, rfl⟩
theorem D1_147 : Dec prog_60_method_1_code 147 (.iload_n 3) 1 148 := ⟨by decide +kernel, rfl⟩
theorem D1_148 : Dec prog_60_method_1_code 148 (.aload_n 0) 1 149 := ⟨by decide +kernel, rfl⟩
theorem D1_149 : Dec prog_60_method_1_code 149 (.getfield 61) 3 152 := ⟨by decide +kernel, rfl⟩
theorem D1_152 : Dec prog_60_method_1_code 152 (.ldc2_w 67) 3 155 := ⟨by decide +kernel, rfl⟩
theorem D1_155 : Dec prog_60_method_1_code 155 .lrem 1 156 := ⟨by decide +kernel, rfl⟩
theorem D1_156 : Dec prog_60_method_1_code 156 .l2i 1 157 := ⟨by decide +kernel, rfl⟩
theorem D1_157 : Dec prog_60_method_1_code 157 .iastore 1 158 := ⟨by decide +kernel, rfl⟩
theorem D1_158 : Dec prog_60_method_1_code 158 (.aload_n 0) 1 159 := ⟨by decide +kernel, rfl⟩
theorem D1_159 : Dec prog_60_method_1_code 159 (.getfield 35) 3 162 := ⟨by decide +kernel, rfl⟩
theorem D1_162 : Dec prog_60_method_1_code 162 (.iload_n 3) 1 163 := ⟨by decide +kernel, rfl⟩
theorem D1_163 : Dec prog_60_method_1_code 163 (.lconst 1) 1 164 := ⟨by decide +kernel, rfl⟩
theorem D1_164 : Dec prog_60_method_1_code 164 (.iload 4) 2 166 := ⟨by decide +kernel, rfl⟩
theorem D1_166 : Dec prog_60_method_1_code 166 .lshl 1 167 := ⟨by decide +kernel, rfl⟩
theorem D1_167 : Dec prog_60_method_1_code 167 (.lconst 1) 1 168 := ⟨by decide +kernel, rfl⟩
theorem D1_168 : Dec prog_60_method_1_code 168 .lsub 1 169 := ⟨by decide +kernel, rfl⟩
theorem D1_169 : Dec prog_60_method_1_code 169 .lastore 1 170 := ⟨by decide +kernel, rfl⟩
theorem D1_170 : Dec prog_60_method_1_code 170 (.aload_n 0) 1 171 := ⟨by decide +kernel, rfl⟩
theorem D1_171 : Dec prog_60_method_1_code 171 (.getfield 38) 3 174 := ⟨by decide +kernel, rfl⟩
theorem D1_174 : Dec prog_60_method_1_code 174 (.iload_n 3) 1 175 := ⟨by decide +kernel, rfl⟩
theorem D1_175 : Dec prog_60_method_1_code 175 (.iload 4) 2 177 := ⟨by decide +kernel, rfl⟩
theorem D1_177 : Dec prog_60_method_1_code 177 .iastore 1 178 := ⟨by decide +kernel, rfl⟩
theorem D1_178 : Dec prog_60_method_1_code 178 (.aload_n 0) 1 179 := ⟨by decide +kernel, rfl⟩
theorem D1_179 : Dec prog_60_method_1_code 179 .dup 1 180 := ⟨by decide +kernel, rfl⟩
theorem D1_180 : Dec prog_60_method_1_code 180 (.getfield 61) 3 183 := ⟨by decide +kernel, rfl⟩
theorem D1_183 : Dec prog_60_method_1_code 183 (.iload 4) 2 185 := ⟨by decide +kernel, rfl⟩
theorem D1_185 : Dec prog_60_method_1_code 185 .i2l 1 186 := ⟨by decide +kernel, rfl⟩
theorem D1_186 : Dec prog_60_method_1_code 186 .ladd 1 187 := ⟨by decide +kernel, rfl⟩
theorem D1_187 : Dec prog_60_method_1_code 187 (.putfield 61) 3 190 := ⟨by decide +kernel, rfl⟩
theorem D1_190 : Dec prog_60_method_1_code 190 (.iinc 3 1) 3 193 := ⟨by decide +kernel, rfl⟩
theorem D1_193 : Jmp prog_60_method_1_code 193 (.goto (-84)) (-84) 196 109 := ⟨by decide +kernel, rfl, by decide, by decide⟩
theorem D1_196 : Dec prog_60_method_1_code 196 (.aload_n 0) 1 197 := ⟨by decide +kernel, rfl⟩
theorem D1_197 : Dec prog_60_method_1_code 197 (.iconst 1) 1 198 := ⟨by decide +kernel, rfl⟩
theorem D1_198 : Dec prog_60_method_1_code 198 (.aload_n 0) 1 199 := ⟨by decide +kernel, rfl⟩
theorem D1_199 : Dec prog_60_method_1_code 199 (.getfield 61) 3 202 := ⟨by decide +kernel, rfl⟩
theorem D1_202 : Dec prog_60_method_1_code 202 (.ldc2_w 67) 3 205 := ⟨by decide +kernel, rfl⟩
theorem D1_205 : Dec prog_60_method_1_code 205 .ladd 1 206 := ⟨by decide +kernel, rfl⟩
theorem D1_206 : Dec prog_60_method_1_code 206 (.lconst 1) 1 207 := ⟨by decide +kernel, rfl⟩
theorem D1_207 : Dec prog_60_method_1_code 207 .lsub 1 208 := ⟨by decide +kernel, rfl⟩
theorem D1_208 : Dec prog_60_method_1_code 208 (.ldc2_w 67) 3 211 := ⟨by decide +kernel, rfl⟩
theorem D1_211 : Dec prog_60_method_1_code 211 .ldiv 1 212 := ⟨by decide +kernel, rfl⟩
theorem D1_212 : Dec prog_60_method_1_code 212 .l2i 1 213 := ⟨by decide +kernel, rfl⟩
theorem D1_213 : Dec prog_60_method_1_code 213 (.invokestatic 69) 3 216 := ⟨by decide +kernel, rfl⟩
theorem D1_216 : Dec prog_60_method_1_code 216 (.putfield 75) 3 219 := ⟨by decide +kernel, rfl⟩
theorem D1_219 : Dec prog_60_method_1_code 219 .return_ 1 220 := ⟨by decide +kernel, rfl⟩
theorem D3_0 : Dec jdk_65_method_103_code 0 (.iconst 0) 1 1 := ⟨by decide +kernel, rfl⟩
theorem D3_1 : Dec jdk_65_method_103_code 1 (.istore_n 2) 1 2 := ⟨by decide +kernel, rfl⟩
theorem D3_2 : Dec jdk_65_method_103_code 2 (.aload_n 0) 1 3 := ⟨by decide +kernel, rfl⟩
theorem D3_3 : Dec jdk_65_method_103_code 3 .arraylength 1 4 := ⟨by decide +kernel, rfl⟩
theorem D3_4 : Dec jdk_65_method_103_code 4 (.istore_n 3) 1 5 := ⟨by decide +kernel, rfl⟩
theorem D3_5 : Dec jdk_65_method_103_code 5 (.iload_n 2) 1 6 := ⟨by decide +kernel, rfl⟩
theorem D3_6 : Dec jdk_65_method_103_code 6 (.iload_n 3) 1 7 := ⟨by decide +kernel, rfl⟩
theorem D3_7 : Jmp jdk_65_method_103_code 7 (.if_icmp .ge 13) 13 10 20 := ⟨by decide +kernel, rfl, by decide, by decide⟩
theorem D3_10 : Dec jdk_65_method_103_code 10 (.aload_n 0) 1 11 := ⟨by decide +kernel, rfl⟩
theorem D3_11 : Dec jdk_65_method_103_code 11 (.iload_n 2) 1 12 := ⟨by decide +kernel, rfl⟩
theorem D3_12 : Dec jdk_65_method_103_code 12 (.iload_n 1) 1 13 := ⟨by decide +kernel, rfl⟩
theorem D3_13 : Dec jdk_65_method_103_code 13 .iastore 1 14 := ⟨by decide +kernel, rfl⟩
theorem D3_14 : Dec jdk_65_method_103_code 14 (.iinc 2 1) 3 17 := ⟨by decide +kernel, rfl⟩
theorem D3_17 : Jmp jdk_65_method_103_code 17 (.goto (-12)) (-12) 20 5 := ⟨by decide +kernel, rfl, by decide, by decide⟩
theorem D3_20 : Dec jdk_65_method_103_code 20 .return_ 1 21 := ⟨by decide +kernel, rfl⟩
theorem D4_0 : Dec prog_60_method_9_code 0 (.iconst 1) 1 1 := ⟨by decide +kernel, rfl⟩
theorem D4_1 : Dec prog_60_method_9_code 1 (.bipush 32) 2 3 := ⟨by decide +kernel, rfl⟩
theorem D4_3 : Dec prog_60_method_9_code 3 (.iload_n 0) 1 4 := ⟨by decide +kernel, rfl⟩
theorem D4_4 : Dec prog_60_method_9_code 4 (.invokestatic 110) 3 7 := ⟨by decide +kernel, rfl⟩
theorem D4_7 : Dec prog_60_method_9_code 7 .isub 1 8 := ⟨by decide +kernel, rfl⟩
theorem D4_8 : Dec prog_60_method_9_code 8 (.invokestatic 69) 3 11 := ⟨by decide +kernel, rfl⟩
theorem D4_11 : Dec prog_60_method_9_code 11 .ireturn 1 12 := ⟨by decide +kernel, rfl⟩
theorem D5_0 : Dec jdk_33_method_47_code 0 (.iload_n 0) 1 1 := ⟨by decide +kernel, rfl⟩
theorem D5_1 : Jmp jdk_33_method_47_code 1 (.ifCond .gt 14) 14 4 15 := ⟨by decide +kernel, rfl, by decide, by decide⟩
theorem D5_4 : Dec jdk_33_method_47_code 4 (.iload_n 0) 1 5 := ⟨by decide +kernel, rfl⟩
theorem D5_5 : Jmp jdk_33_method_47_code 5 (.ifCond .ne 8) 8 8 13 := ⟨by decide +kernel, rfl, by decide, by decide⟩
theorem D5_8 : Dec jdk_33_method_47_code 8 (.bipush 32) 2 10 := ⟨by decide +kernel, rfl⟩
theorem D5_10 : Jmp jdk_33_method_47_code 10 (.goto 4) 4 13 14 := ⟨by decide +kernel, rfl, by decide, by decide⟩
theorem D5_14 : Dec jdk_33_method_47_code 14 .ireturn 1 15 := ⟨by decide +kernel, rfl⟩
theorem D5_15 : Dec jdk_33_method_47_code 15 (.bipush 31) 2 17 := ⟨by decide +kernel, rfl⟩
theorem D5_17 : Dec jdk_33_method_47_code 17 (.istore_n 1) 1 18 := ⟨by decide +kernel, rfl⟩
theorem D5_18 : Dec jdk_33_method_47_code 18 (.iload_n 0) 1 19 := ⟨by decide +kernel, rfl⟩
theorem D5_19 : Dec jdk_33_method_47_code 19 (.ldc_w 264) 3 22 := ⟨by decide +kernel, rfl⟩
theorem D5_22 : Jmp jdk_33_method_47_code 22 (.if_icmp .lt 11) 11 25 33 := ⟨by decide +kernel, rfl, by decide, by decide⟩
theorem D5_25 : Dec jdk_33_method_47_code 25 (.iinc 1 (-16)) 3 28 := ⟨by decide +kernel, rfl⟩
theorem D5_28 : Dec jdk_33_method_47_code 28 (.iload_n 0) 1 29 := ⟨by decide +kernel, rfl⟩
theorem D5_29 : Dec jdk_33_method_47_code 29 (.bipush 16) 2 31 := ⟨by decide +kernel, rfl⟩
theorem D5_31 : Dec jdk_33_method_47_code 31 .iushr 1 32 := ⟨by decide +kernel, rfl⟩
theorem D5_32 : Dec jdk_33_method_47_code 32 (.istore_n 0) 1 33 := ⟨by decide +kernel, rfl⟩
theorem D5_33 : Dec jdk_33_method_47_code 33 (.iload_n 0) 1 34 := ⟨by decide +kernel, rfl⟩
theorem D5_34 : Dec jdk_33_method_47_code 34 (.sipush 256) 3 37 := ⟨by decide +kernel, rfl⟩
theorem D5_37 : Jmp jdk_33_method_47_code 37 (.if_icmp .lt 11) 11 40 48 := ⟨by decide +kernel, rfl, by decide, by decide⟩
theorem D5_40 : Dec jdk_33_method_47_code 40 (.iinc 1 (-8)) 3 43 := ⟨by decide +kernel, rfl⟩
theorem D5_43 : Dec jdk_33_method_47_code 43 (.iload_n 0) 1 44 := ⟨by decide +kernel, rfl⟩
theorem D5_44 : Dec jdk_33_method_47_code 44 (.bipush 8) 2 46 := ⟨by decide +kernel, rfl⟩
theorem D5_46 : Dec jdk_33_method_47_code 46 .iushr 1 47 := ⟨by decide +kernel, rfl⟩
theorem D5_47 : Dec jdk_33_method_47_code 47 (.istore_n 0) 1 48 := ⟨by decide +kernel, rfl⟩
theorem D5_48 : Dec jdk_33_method_47_code 48 (.iload_n 0) 1 49 := ⟨by decide +kernel, rfl⟩
theorem D5_49 : Dec jdk_33_method_47_code 49 (.bipush 16) 2 51 := ⟨by decide +kernel, rfl⟩
theorem D5_51 : Jmp jdk_33_method_47_code 51 (.if_icmp .lt 10) 10 54 61 := ⟨by decide +kernel, rfl, by decide, by decide⟩
theorem D5_54 : Dec jdk_33_method_47_code 54 (.iinc 1 (-4)) 3 57 := ⟨by decide +kernel, rfl⟩
theorem D5_57 : Dec jdk_33_method_47_code 57 (.iload_n 0) 1 58 := ⟨by decide +kernel, rfl⟩
theorem D5_58 : Dec jdk_33_method_47_code 58 (.iconst 4) 1 59 := ⟨by decide +kernel, rfl⟩
theorem D5_59 : Dec jdk_33_method_47_code 59 .iushr 1 60 := ⟨by decide +kernel, rfl⟩
theorem D5_60 : Dec jdk_33_method_47_code 60 (.istore_n 0) 1 61 := ⟨by decide +kernel, rfl⟩
theorem D5_61 : Dec jdk_33_method_47_code 61 (.iload_n 0) 1 62 := ⟨by decide +kernel, rfl⟩
theorem D5_62 : Dec jdk_33_method_47_code 62 (.iconst 4) 1 63 := ⟨by decide +kernel, rfl⟩
theorem D5_63 : Jmp jdk_33_method_47_code 63 (.if_icmp .lt 10) 10 66 73 := ⟨by decide +kernel, rfl, by decide, by decide⟩
theorem D5_66 : Dec jdk_33_method_47_code 66 (.iinc 1 (-2)) 3 69 := ⟨by decide +kernel, rfl⟩
theorem D5_69 : Dec jdk_33_method_47_code 69 (.iload_n 0) 1 70 := ⟨by decide +kernel, rfl⟩
theorem D5_70 : Dec jdk_33_method_47_code 70 (.iconst 2) 1 71 := ⟨by decide +kernel, rfl⟩
theorem D5_71 : Dec jdk_33_method_47_code 71 .iushr 1 72 := ⟨by decide +kernel, rfl⟩
theorem D5_72 : Dec jdk_33_method_47_code 72 (.istore_n 0) 1 73 := ⟨by decide +kernel, rfl⟩
theorem D5_73 : Dec jdk_33_method_47_code 73 (.iload_n 1) 1 74 := ⟨by decide +kernel, rfl⟩
theorem D5_74 : Dec jdk_33_method_47_code 74 (.iload_n 0) 1 75 := ⟨by decide +kernel, rfl⟩
theorem D5_75 : Dec jdk_33_method_47_code 75 (.iconst 1) 1 76 := ⟨by decide +kernel, rfl⟩
theorem D5_76 : Dec jdk_33_method_47_code 76 .iushr 1 77 := ⟨by decide +kernel, rfl⟩
theorem D5_77 : Dec jdk_33_method_47_code 77 .isub 1 78 := ⟨by decide +kernel, rfl⟩
theorem D5_78 : Dec jdk_33_method_47_code 78 .ireturn 1 79 := ⟨by decide +kernel, rfl⟩
theorem D6_0 : Dec jdk_29_method_65_code 0 (.iload_n 0) 1 1 := ⟨by decide +kernel, rfl⟩
theorem D6_1 : Dec jdk_29_method_65_code 1 (.iload_n 1) 1 2 := ⟨by decide +kernel, rfl⟩
theorem D6_2 : Jmp jdk_29_method_65_code 2 (.if_icmp .lt 7) 7 5 9 := ⟨by decide +kernel, rfl, by decide, by decide⟩
theorem D6_5 : Dec jdk_29_method_65_code 5 (.iload_n 0) 1 6 := ⟨by decide +kernel, rfl⟩
theorem D6_6 : Jmp jdk_29_method_65_code 6 (.goto 4) 4 9 10 := ⟨by decide +kernel, rfl, by decide, by decide⟩
theorem D6_9 : Dec jdk_29_method_65_code 9 (.iload_n 1) 1 10 := ⟨by decide +kernel, rfl⟩
theorem D6_10 : Dec jdk_29_method_65_code 10 .ireturn 1 11 := ⟨by decide +kernel, rfl⟩
theorem D7_0 : Dec prog_60_method_8_code 0 (.aload_n 0) 1 1 := ⟨by decide +kernel, rfl⟩
theorem D7_1 : Dec prog_60_method_8_code 1 (.getfield 61) 3 4 := ⟨by decide +kernel, rfl⟩
theorem D7_4 : Dec prog_60_method_8_code 4 (.ldc2_w 67) 3 7 := ⟨by decide +kernel, rfl⟩
theorem D7_7 : Dec prog_60_method_8_code 7 .lrem 1 8 := ⟨by decide +kernel, rfl⟩
theorem D7_8 : Dec prog_60_method_8_code 8 (.iload_n 1) 1 9 := ⟨by decide +kernel, rfl⟩
theorem D7_9 : Dec prog_60_method_8_code 9 .i2l 1 10 := ⟨by decide +kernel, rfl⟩
theorem D7_10 : Dec prog_60_method_8_code 10 .ladd 1 11 := ⟨by decide +kernel, rfl⟩
theorem D7_11 : Dec prog_60_method_8_code 11 (.ldc2_w 67) 3 14 := ⟨by decide +kernel, rfl⟩
theorem D7_14 : Dec prog_60_method_8_code 14 .lcmp 1 15 := ⟨by decide +kernel, rfl⟩
theorem D7_15 : Jmp prog_60_method_8_code 15 (.ifCond .le 24) 24 18 39 := ⟨by decide +kernel, rfl, by decide, by decide⟩
theorem D7_18 : Dec prog_60_method_8_code 18 (.aload_n 0) 1 19 := ⟨by decide +kernel, rfl⟩
theorem D7_19 : Dec prog_60_method_8_code 19 .dup 1 20 := ⟨by decide +kernel, rfl⟩
theorem D7_20 : Dec prog_60_method_8_code 20 (.getfield 61) 3 23 := ⟨by decide +kernel, rfl⟩
theorem D7_23 : Dec prog_60_method_8_code 23 (.ldc2_w 67) 3 26 := ⟨by decide +kernel, rfl⟩
theorem D7_26 : Dec prog_60_method_8_code 26 (.aload_n 0) 1 27 := ⟨by decide +kernel, rfl⟩
theorem D7_27 : Dec prog_60_method_8_code 27 (.getfield 61) 3 30 := ⟨by decide +kernel, rfl⟩
theorem D7_30 : Dec prog_60_method_8_code 30 (.ldc2_w 67) 3 33 := ⟨by decide +kernel, rfl⟩
theorem D7_33 : Dec prog_60_method_8_code 33 .lrem 1 34 := ⟨by decide +kernel, rfl⟩
theorem D7_34 : Dec prog_60_method_8_code 34 .lsub 1 35 := ⟨by decide +kernel, rfl⟩
theorem D7_35 : Dec prog_60_method_8_code 35 .ladd 1 36 := ⟨by decide +kernel, rfl⟩
theorem D7_36 : Dec prog_60_method_8_code 36 (.putfield 61) 3 39 := ⟨by decide +kernel, rfl⟩
theorem D7_39 : Dec prog_60_method_8_code 39 .return_ 1 40 := ⟨by decide +kernel, rfl⟩
theorem D8_0 : Dec prog_60_method_6_code 0 (.iconst 0) 1 1 := ⟨by decide +kernel, rfl⟩
theorem D8_1 : Dec prog_60_method_6_code 1 (.istore_n 2) 1 2 := ⟨by decide +kernel, rfl⟩
theorem D8_2 : Dec prog_60_method_6_code 2 (.iload_n 2) 1 3 := ⟨by decide +kernel, rfl⟩
theorem D8_3 : Dec prog_60_method_6_code 3 (.aload_n 1) 1 4 := ⟨by decide +kernel, rfl⟩
theorem D8_4 : Dec prog_60_method_6_code 4 .arraylength 1 5 := ⟨by decide +kernel, rfl⟩
theorem D8_5 : Jmp prog_60_method_6_code 5 (.if_icmp .ge 48) 48 8 53 := ⟨by decide +kernel, rfl, by decide, by decide⟩
theorem D8_8 : Dec prog_60_method_6_code 8 (.aload_n 0) 1 9 := ⟨by decide +kernel, rfl⟩
theorem D8_9 : Dec prog_60_method_6_code 9 (.getfield 38) 3 12 := ⟨by decide +kernel, rfl⟩
theorem D8_12 : Dec prog_60_method_6_code 12 (.iload_n 2) 1 13 := ⟨by decide +kernel, rfl⟩
theorem D8_13 : Dec prog_60_method_6_code 13 .iaload 1 14 := ⟨by decide +kernel, rfl⟩
theorem D8_14 : Dec prog_60_method_6_code 14 (.istore_n 3) 1 15 := ⟨by decide +kernel, rfl⟩
theorem D8_15 : Dec prog_60_method_6_code 15 (.aload_n 1) 1 16 := ⟨by decide +kernel, rfl⟩
theorem D8_16 : Dec prog_60_method_6_code 16 (.iload_n 2) 1 17 := ⟨by decide +kernel, rfl⟩
theorem D8_17 : Dec prog_60_method_6_code 17 .iaload 1 18 := ⟨by decide +kernel, rfl⟩
theorem D8_18 : Dec prog_60_method_6_code 18 (.iload_n 3) 1 19 := ⟨by decide +kernel, rfl⟩
theorem D8_19 : Dec prog_60_method_6_code 19 .iushr 1 20 := ⟨by decide +kernel, rfl⟩
theorem D8_20 : Jmp prog_60_method_6_code 20 (.ifCond .eq 27) 27 23 47 := ⟨by decide +kernel, rfl, by decide, by decide⟩
theorem D8_23 : Dec prog_60_method_6_code 23 (.aload_n 0) 1 24 := ⟨by decide +kernel, rfl⟩
theorem D8_24 : Dec prog_60_method_6_code 24 (.iload_n 2) 1 25 := ⟨by decide +kernel, rfl⟩
theorem D8_25 : Dec prog_60_method_6_code 25 (.aload_n 1) 1 26 := ⟨by decide +kernel, rfl⟩
theorem D8_26 : Dec prog_60_method_6_code 26 (.iload_n 2) 1 27 := ⟨by decide +kernel, rfl⟩
theorem D8_27 : Dec prog_60_method_6_code 27 .iaload 1 28 := ⟨by decide +kernel, rfl⟩
theorem D8_28 : Dec prog_60_method_6_code 28 (.invokestatic 53) 3 31 := ⟨by decide +kernel, rfl⟩
theorem D8_31 : Dec prog_60_method_6_code 31 (.bipush 31) 2 33 := ⟨by decide +kernel, rfl⟩
theorem D8_33 : Dec prog_60_method_6_code 33 (.iconst 2) 1 34 := ⟨by decide +kernel, rfl⟩
theorem D8_34 : Dec prog_60_method_6_code 34 (.iload_n 3) 1 35 := ⟨by decide +kernel, rfl⟩
theorem D8_35 : Dec prog_60_method_6_code 35 .imul 1 36 := ⟨by decide +kernel, rfl⟩
theorem D8_36 : Dec prog_60_method_6_code 36 (.invokestatic 87) 3 39 := ⟨by decide +kernel, rfl⟩
theorem D8_39 : Dec prog_60_method_6_code 39 (.invokestatic 69) 3 42 := ⟨by decide +kernel, rfl⟩
theorem D8_42 : Dec prog_60_method_6_code 42 (.iload_n 3) 1 43 := ⟨by decide +kernel, rfl⟩
theorem D8_43 : Dec prog_60_method_6_code 43 .isub 1 44 := ⟨by decide +kernel, rfl⟩
theorem D8_44 : Dec prog_60_method_6_code 44 (.invokevirtual 90) 3 47 := ⟨by decide +kernel, rfl⟩
theorem D8_47 : Dec prog_60_method_6_code 47 (.iinc 2 1) 3 50 := ⟨by decide +kernel, rfl⟩
theorem D8_50 : Jmp prog_60_method_6_code 50 (.goto (-48)) (-48) 53 2 := ⟨by decide +kernel, rfl, by decide, by decide⟩
theorem D8_53 : Dec prog_60_method_6_code 53 (.aload_n 0) 1 54 := ⟨by decide +kernel, rfl⟩
theorem D8_54 : Dec prog_60_method_6_code 54 (.getfield 61) 3 57 := ⟨by decide +kernel, rfl⟩
theorem D8_57 : Dec prog_60_method_6_code 57 (.ldc2_w 67) 3 60 := ⟨by decide +kernel, rfl⟩
theorem D8_60 : Dec prog_60_method_6_code 60 .ladd 1 61 := ⟨by decide +kernel, rfl⟩
theorem D8_61 : Dec prog_60_method_6_code 61 (.lconst 1) 1 62 := ⟨by decide +kernel, rfl⟩
theorem D8_62 : Dec prog_60_method_6_code 62 .lsub 1 63 := ⟨by decide +kernel, rfl⟩
theorem D8_63 : Dec prog_60_method_6_code 63 (.ldc2_w 67) 3 66 := ⟨by decide +kernel, rfl⟩
theorem D8_66 : Dec prog_60_method_6_code 66 .ldiv 1 67 := ⟨by decide +kernel, rfl⟩
theorem D8_67 : Dec prog_60_method_6_code 67 (.lstore_n 2) 1 68 := ⟨by decide +kernel, rfl⟩
theorem D8_68 : Dec prog_60_method_6_code 68 (.lload_n 2) 1 69 := ⟨by decide +kernel, rfl⟩
theorem D8_69 : Dec prog_60_method_6_code 69 (.aload_n 0) 1 70 := ⟨by decide +kernel, rfl⟩
theorem D8_70 : Dec prog_60_method_6_code 70 (.getfield 75) 3 73 := ⟨by decide +kernel, rfl⟩
theorem D8_73 : Dec prog_60_method_6_code 73 .i2l 1 74 := ⟨by decide +kernel, rfl⟩
theorem D8_74 : Dec prog_60_method_6_code 74 .lcmp 1 75 := ⟨by decide +kernel, rfl⟩
theorem D8_75 : Jmp prog_60_method_6_code 75 (.ifCond .le 31) 31 78 106 := ⟨by decide +kernel, rfl, by decide, by decide⟩
theorem D8_78 : Dec prog_60_method_6_code 78 (.aload_n 0) 1 79 := ⟨by decide +kernel, rfl⟩
theorem D8_79 : Dec prog_60_method_6_code 79 (.lload_n 2) 1 80 := ⟨by decide +kernel, rfl⟩
theorem D8_80 : Dec prog_60_method_6_code 80 (.aload_n 0) 1 81 := ⟨by decide +kernel, rfl⟩
theorem D8_81 : Dec prog_60_method_6_code 81 (.getfield 75) 3 84 := ⟨by decide +kernel, rfl⟩
theorem D8_84 : Dec prog_60_method_6_code 84 (.iconst 1) 1 85 := ⟨by decide +kernel, rfl⟩
theorem D8_85 : Dec prog_60_method_6_code 85 (.aload_n 0) 1 86 := ⟨by decide +kernel, rfl⟩
theorem D8_86 : Dec prog_60_method_6_code 86 (.getfield 75) 3 89 := ⟨by decide +kernel, rfl⟩
theorem D8_89 : Dec prog_60_method_6_code 89 (.bipush 8) 2 91 := ⟨by decide +kernel, rfl⟩
theorem D8_91 : Dec prog_60_method_6_code 91 .idiv 1 92 := ⟨by decide +kernel, rfl⟩
theorem D8_92 : Dec prog_60_method_6_code 92 (.invokestatic 69) 3 95 := ⟨by decide +kernel, rfl⟩
theorem D8_95 : Dec prog_60_method_6_code 95 .iadd 1 96 := ⟨by decide +kernel, rfl⟩
theorem D8_96 : Dec prog_60_method_6_code 96 .i2l 1 97 := ⟨by decide +kernel, rfl⟩
theorem D8_97 : Dec prog_60_method_6_code 97 (.invokestatic 94) 3 100 := ⟨by decide +kernel, rfl⟩
theorem D8_100 : Dec prog_60_method_6_code 100 (.invokestatic 97) 3 103 := ⟨by decide +kernel, rfl⟩
theorem D8_103 : Dec prog_60_method_6_code 103 (.putfield 75) 3 106 := ⟨by decide +kernel, rfl⟩
theorem D8_106 : Dec prog_60_method_6_code 106 .return_ 1 107 := ⟨by decide +kernel, rfl⟩
theorem D9_0 : Dec prog_60_method_3_code 0 (.aload_n 2) 1 1 := ⟨by decide +kernel, rfl⟩
theorem D9_1 : Dec prog_60_method_3_code 1 (.iconst 0) 1 2 := ⟨by decide +kernel, rfl⟩
theorem D9_2 : Dec prog_60_method_3_code 2 (.aload_n 0) 1 3 := ⟨by decide +kernel, rfl⟩
theorem D9_3 : Dec prog_60_method_3_code 3 (.getfield 75) 3 6 := ⟨by decide +kernel, rfl⟩
theorem D9_6 : Dec prog_60_method_3_code 6 (.lconst 0) 1 7 := ⟨by decide +kernel, rfl⟩
theorem D9_7 : Dec prog_60_method_3_code 7 (.invokestatic 79) 3 10 := ⟨by decide +kernel, rfl⟩
theorem D9_10 : Dec prog_60_method_3_code 10 (.iconst 1) 1 11 := ⟨by decide +kernel, rfl⟩
theorem D9_11 : Dec prog_60_method_3_code 11 (.istore_n 3) 1 12 := ⟨by decide +kernel, rfl⟩
theorem D9_12 : Dec prog_60_method_3_code 12 (.iconst 0) 1 13 := ⟨by decide +kernel, rfl⟩
theorem D9_13 : Dec prog_60_method_3_code 13 (.istore 4) 2 15 := ⟨by decide +kernel, rfl⟩
theorem D9_15 : Dec prog_60_method_3_code 15 (.iload 4) 2 17 := ⟨by decide +kernel, rfl⟩
theorem D9_17 : Dec prog_60_method_3_code 17 (.aload_n 1) 1 18 := ⟨by decide +kernel, rfl⟩
theorem D9_18 : Dec prog_60_method_3_code 18 .arraylength 1 19 := ⟨by decide +kernel, rfl⟩
theorem D9_19 : Jmp prog_60_method_3_code 19 (.if_icmp .ge 67) 67 22 86 := ⟨by decide +kernel, rfl, by decide, by decide⟩
theorem D9_22 : Dec prog_60_method_3_code 22 (.aload_n 1) 1 23 := ⟨by decide +kernel, rfl⟩
theorem D9_23 : Dec prog_60_method_3_code 23 (.iload 4) 2 25 := ⟨by decide +kernel, rfl⟩
theorem D9_25 : Dec prog_60_method_3_code 25 .iaload 1 26 := ⟨by decide +kernel, rfl⟩
theorem D9_26 : Dec prog_60_method_3_code 26 (.istore 5) 2 28 := ⟨by decide +kernel, rfl⟩
theorem D9_28 : Dec prog_60_method_3_code 28 (.iload_n 3) 1 29 := ⟨by decide +kernel, rfl⟩
theorem D9_29 : Dec prog_60_method_3_code 29 (.iload 5) 2 31 := ⟨by decide +kernel, rfl⟩
theorem D9_31 : Dec prog_60_method_3_code 31 (.aload_n 0) 1 32 := ⟨by decide +kernel, rfl⟩
theorem D9_32 : Dec prog_60_method_3_code 32 (.getfield 38) 3 35 := ⟨by decide +kernel, rfl⟩
theorem D9_35 : Dec prog_60_method_3_code 35 (.iload 4) 2 37 := ⟨by decide +kernel, rfl⟩
theorem D9_37 : Dec prog_60_method_3_code 37 .iaload 1 38 := ⟨by decide +kernel, rfl⟩
theorem D9_38 : Dec prog_60_method_3_code 38 .iushr 1 39 := ⟨by decide +kernel, rfl⟩
theorem D9_39 : Jmp prog_60_method_3_code 39 (.ifCond .ne 7) 7 42 46 := ⟨by decide +kernel, rfl, by decide, by decide⟩
theorem D9_42 : Dec prog_60_method_3_code 42 (.iconst 1) 1 43 := ⟨by decide +kernel, rfl⟩
theorem D9_43 : Jmp prog_60_method_3_code 43 (.goto 4) 4 46 47 := ⟨by decide +kernel, rfl, by decide, by decide⟩
theorem D9_46 : Dec prog_60_method_3_code 46 (.iconst 0) 1 47 := ⟨by decide +kernel, rfl⟩
theorem D9_47 : Dec prog_60_method_3_code 47 .iand 1 48 := ⟨by decide +kernel, rfl⟩
theorem D9_48 : Dec prog_60_method_3_code 48 (.istore_n 3) 1 49 := ⟨by decide +kernel, rfl⟩
theorem D9_49 : Dec prog_60_method_3_code 49 (.aload_n 2) 1 50 := ⟨by decide +kernel, rfl⟩
theorem D9_50 : Dec prog_60_method_3_code 50 (.aload_n 0) 1 51 := ⟨by decide +kernel, rfl⟩
theorem D9_51 : Dec prog_60_method_3_code 51 (.getfield 29) 3 54 := ⟨by decide +kernel, rfl⟩
theorem D9_54 : Dec prog_60_method_3_code 54 (.iload 4) 2 56 := ⟨by decide +kernel, rfl⟩
theorem D9_56 : Dec prog_60_method_3_code 56 .iaload 1 57 := ⟨by decide +kernel, rfl⟩
theorem D9_57 : Dec prog_60_method_3_code 57 .dup2 1 58 := ⟨by decide +kernel, rfl⟩
theorem D9_58 : Dec prog_60_method_3_code 58 .laload 1 59 := ⟨by decide +kernel, rfl⟩
theorem D9_59 : Dec prog_60_method_3_code 59 (.iload 5) 2 61 := ⟨by decide +kernel, rfl⟩
theorem D9_61 : Dec prog_60_method_3_code 61 .i2l 1 62 := ⟨by decide +kernel, rfl⟩
theorem D9_62 : Dec prog_60_method_3_code 62 (.aload_n 0) 1 63 := ⟨by decide +kernel, rfl⟩
theorem D9_63 : Dec prog_60_method_3_code 63 (.getfield 35) 3 66 := ⟨by decide +kernel, rfl⟩
theorem D9_66 : Dec prog_60_method_3_code 66 (.iload 4) 2 68 := ⟨by decide +kernel, rfl⟩
theorem D9_68 : Dec prog_60_method_3_code 68 .laload 1 69 := ⟨by decide +kernel, rfl⟩
theorem D9_69 : Dec prog_60_method_3_code 69 .land 1 70 := ⟨by decide +kernel, rfl⟩
theorem D9_70 : Dec prog_60_method_3_code 70 (.aload_n 0) 1 71 := ⟨by decide +kernel, rfl⟩
theorem D9_71 : Dec prog_60_method_3_code 71 (.getfield 32) 3 74 := ⟨by decide +kernel, rfl⟩
theorem D9_74 : Dec prog_60_method_3_code 74 (.iload 4) 2 76 := ⟨by decide +kernel, rfl⟩
theorem D9_76 : Dec prog_60_method_3_code 76 .iaload 1 77 := ⟨by decide +kernel, rfl⟩
theorem D9_77 : Dec prog_60_method_3_code 77 .lshl 1 78 := ⟨by decide +kernel, rfl⟩
theorem D9_78 : Dec prog_60_method_3_code 78 .lor 1 79 := ⟨by decide +kernel, rfl⟩
theorem D9_79 : Dec prog_60_method_3_code 79 .lastore 1 80 := ⟨by decide +kernel, rfl⟩
theorem D9_80 : Dec prog_60_method_3_code 80 (.iinc 4 1) 3 83 := ⟨by decide +kernel, rfl⟩
theorem D9_83 : Jmp prog_60_method_3_code 83 (.goto (-68)) (-68) 86 15 := ⟨by decide +kernel, rfl, by decide, by decide⟩
theorem D9_86 : Dec prog_60_method_3_code 86 (.iconst 0) 1 87 := ⟨by decide +kernel, rfl⟩
theorem D9_87 : Dec prog_60_method_3_code 87 (.istore 4) 2 89 := ⟨by decide +kernel, rfl⟩
theorem D9_89 : Dec prog_60_method_3_code 89 (.iload 4) 2 91 := ⟨by decide +kernel, rfl⟩
theorem D9_91 : Dec prog_60_method_3_code 91 (.aload_n 0) 1 92 := ⟨by decide +kernel, rfl⟩
theorem D9_92 : Dec prog_60_method_3_code 92 (.getfield 82) 3 95 := ⟨by decide +kernel, rfl⟩
theorem D9_95 : Jmp prog_60_method_3_code 95 (.if_icmp .ge 55) 55 98 150 := ⟨by decide +kernel, rfl, by decide, by decide⟩
theorem D9_98 : Dec prog_60_method_3_code 98 (.aload_n 2) 1 99 := ⟨by decide +kernel, rfl⟩
theorem D9_99 : Dec prog_60_method_3_code 99 (.aload_n 0) 1 100 := ⟨by decide +kernel, rfl⟩
theorem D9_100 : Dec prog_60_method_3_code 100 (.getfield 13) 3 103 := ⟨by decide +kernel, rfl⟩
theorem D9_103 : Dec prog_60_method_3_code 103 (.iload 4) 2 105 := ⟨by decide +kernel, rfl⟩
theorem D9_105 : Dec prog_60_method_3_code 105 .iaload 1 106 := ⟨by decide +kernel, rfl⟩
theorem D9_106 : Dec prog_60_method_3_code 106 .dup2 1 107 := ⟨by decide +kernel, rfl⟩
theorem D9_107 : Dec prog_60_method_3_code 107 .laload 1 108 := ⟨by decide +kernel, rfl⟩
theorem D9_108 : Dec prog_60_method_3_code 108 (.aload_n 1) 1 109 := ⟨by decide +kernel, rfl⟩
theorem D9_109 : Dec prog_60_method_3_code 109 (.aload_n 0) 1 110 := ⟨by decide +kernel, rfl⟩
theorem D9_110 : Dec prog_60_method_3_code 110 (.getfield 7) 3 113 := ⟨by decide +kernel, rfl⟩
theorem D9_113 : Dec prog_60_method_3_code 113 (.iload 4) 2 115 := ⟨by decide +kernel, rfl⟩
theorem D9_115 : Dec prog_60_method_3_code 115 .iaload 1 116 := ⟨by decide +kernel, rfl⟩
theorem D9_116 : Dec prog_60_method_3_code 116 .iaload 1 117 := ⟨by decide +kernel, rfl⟩
theorem D9_117 : Dec prog_60_method_3_code 117 (.aload_n 0) 1 118 := ⟨by decide +kernel, rfl⟩
theorem D9_118 : Dec prog_60_method_3_code 118 (.getfield 19) 3 121 := ⟨by decide +kernel, rfl⟩
theorem D9_121 : Dec prog_60_method_3_code 121 (.iload 4) 2 123 := ⟨by decide +kernel, rfl⟩
theorem D9_123 : Dec prog_60_method_3_code 123 .iaload 1 124 := ⟨by decide +kernel, rfl⟩
theorem D9_124 : Dec prog_60_method_3_code 124 .iushr 1 125 := ⟨by decide +kernel, rfl⟩
theorem D9_125 : Dec prog_60_method_3_code 125 .i2l 1 126 := ⟨by decide +kernel, rfl⟩
theorem D9_126 : Dec prog_60_method_3_code 126 (.aload_n 0) 1 127 := ⟨by decide +kernel, rfl⟩
theorem D9_127 : Dec prog_60_method_3_code 127 (.getfield 22) 3 130 := ⟨by decide +kernel, rfl⟩
theorem D9_130 : Dec prog_60_method_3_code 130 (.iload 4) 2 132 := ⟨by decide +kernel, rfl⟩
theorem D9_132 : Dec prog_60_method_3_code 132 .laload 1 133 := ⟨by decide +kernel, rfl⟩
theorem D9_133 : Dec prog_60_method_3_code 133 .land 1 134 := ⟨by decide +kernel, rfl⟩
theorem D9_134 : Dec prog_60_method_3_code 134 (.aload_n 0) 1 135 := ⟨by decide +kernel, rfl⟩
theorem D9_135 : Dec prog_60_method_3_code 135 (.getfield 16) 3 138 := ⟨by decide +kernel, rfl⟩
theorem D9_138 : Dec prog_60_method_3_code 138 (.iload 4) 2 140 := ⟨by decide +kernel, rfl⟩
theorem D9_140 : Dec prog_60_method_3_code 140 .iaload 1 141 := ⟨by decide +kernel, rfl⟩
theorem D9_141 : Dec prog_60_method_3_code 141 .lshl 1 142 := ⟨by decide +kernel, rfl⟩
theorem D9_142 : Dec prog_60_method_3_code 142 .lor 1 143 := ⟨by decide +kernel, rfl⟩
theorem D9_143 : Dec prog_60_method_3_code 143 .lastore 1 144 := ⟨by decide +kernel, rfl⟩
theorem D9_144 : Dec prog_60_method_3_code 144 (.iinc 4 1) 3 147 := ⟨by decide +kernel, rfl⟩
theorem D9_147 : Jmp prog_60_method_3_code 147 (.goto (-58)) (-58) 150 89 := ⟨by decide +kernel, rfl, by decide, by decide⟩
theorem D9_150 : Dec prog_60_method_3_code 150 (.iload_n 3) 1 151 := ⟨by decide +kernel, rfl⟩
theorem D9_151 : Dec prog_60_method_3_code 151 .ireturn 1 152 := ⟨by decide +kernel, rfl⟩
theorem D10_0 : Dec jdk_65_method_102_code 0 (.aload_n 0) 1 1 := ⟨by decide +kernel, rfl⟩
theorem D10_1 : Dec jdk_65_method_102_code 1 .arraylength 1 2 := ⟨by decide +kernel, rfl⟩
theorem D10_2 : Dec jdk_65_method_102_code 2 (.iload_n 1) 1 3 := ⟨by decide +kernel, rfl⟩
theorem D10_3 : Dec jdk_65_method_102_code 3 (.iload_n 2) 1 4 := ⟨by decide +kernel, rfl⟩
theorem D10_4 : Dec jdk_65_method_102_code 4 (.invokestatic 13) 3 7 := ⟨by decide +kernel, rfl⟩
theorem D10_7 : Dec jdk_65_method_102_code 7 (.iload_n 1) 1 8 := ⟨by decide +kernel, rfl⟩
theorem D10_8 : Dec jdk_65_method_102_code 8 (.istore 5) 2 10 := ⟨by decide +kernel, rfl⟩
theorem D10_10 : Dec jdk_65_method_102_code 10 (.iload 5) 2 12 := ⟨by decide +kernel, rfl⟩
theorem D10_12 : Dec jdk_65_method_102_code 12 (.iload_n 2) 1 13 := ⟨by decide +kernel, rfl⟩
theorem D10_13 : Jmp jdk_65_method_102_code 13 (.if_icmp .ge 14) 14 16 27 := ⟨by decide +kernel, rfl, by decide, by decide⟩
theorem D10_16 : Dec jdk_65_method_102_code 16 (.aload_n 0) 1 17 := ⟨by decide +kernel, rfl⟩
theorem D10_17 : Dec jdk_65_method_102_code 17 (.iload 5) 2 19 := ⟨by decide +kernel, rfl⟩
theorem D10_19 : Dec jdk_65_method_102_code 19 (.lload_n 3) 1 20 := ⟨by decide +kernel, rfl⟩
theorem D10_20 : Dec jdk_65_method_102_code 20 .lastore 1 21 := ⟨by decide +kernel, rfl⟩
theorem D10_21 : Dec jdk_65_method_102_code 21 (.iinc 5 1) 3 24 := ⟨by decide +kernel, rfl⟩
theorem D10_24 : Jmp jdk_65_method_102_code 24 (.goto (-14)) (-14) 27 10 := ⟨by decide +kernel, rfl, by decide, by decide⟩
theorem D10_27 : Dec jdk_65_method_102_code 27 .return_ 1 28 := ⟨by decide +kernel, rfl⟩
theorem D11_0 : Dec jdk_65_method_30_code 0 (.iload_n 1) 1 1 := ⟨by decide +kernel, rfl⟩
theorem D11_1 : Dec jdk_65_method_30_code 1 (.iload_n 2) 1 2 := ⟨by decide +kernel, rfl⟩
theorem D11_2 : Jmp jdk_65_method_30_code 2 (.if_icmp .le 44) 44 5 46 := ⟨by decide +kernel, rfl, by decide, by decide⟩
theorem D11_46 : Dec jdk_65_method_30_code 46 (.iload_n 1) 1 47 := ⟨by decide +kernel, rfl⟩
theorem D11_47 : Jmp jdk_65_method_30_code 47 (.ifCond .ge 12) 12 50 59 := ⟨by decide +kernel, rfl, by decide, by decide⟩
theorem D11_59 : Dec jdk_65_method_30_code 59 (.iload_n 2) 1 60 := ⟨by decide +kernel, rfl⟩
theorem D11_60 : Dec jdk_65_method_30_code 60 (.iload_n 0) 1 61 := ⟨by decide +kernel, rfl⟩
theorem D11_61 : Jmp jdk_65_method_30_code 61 (.if_icmp .le 12) 12 64 73 := ⟨by decide +kernel, rfl, by decide, by decide⟩
theorem D11_73 : Dec jdk_65_method_30_code 73 .return_ 1 74 := ⟨by decide +kernel, rfl⟩
theorem D12_0 : Dec method_3_code 0 (.aload_n 1) 1 1 := ⟨by decide +kernel, rfl⟩
theorem D12_1 : Dec method_3_code 1 (.iload_n 2) 1 2 := ⟨by decide +kernel, rfl⟩
theorem D12_2 : Dec method_3_code 2 (.aload_n 0) 1 3 := ⟨by decide +kernel, rfl⟩
theorem D12_3 : Dec method_3_code 3 (.iconst 0) 1 4 := ⟨by decide +kernel, rfl⟩
theorem D12_4 : Dec method_3_code 4 .laload 1 5 := ⟨by decide +kernel, rfl⟩
theorem D12_5 : Dec method_3_code 5 .lastore 1 6 := ⟨by decide +kernel, rfl⟩
theorem D12_6 : Dec method_3_code 6 (.aload_n 1) 1 7 := ⟨by decide +kernel, rfl⟩
theorem D12_7 : Dec method_3_code 7 (.iload_n 2) 1 8 := ⟨by decide +kernel, rfl⟩
theorem D12_8 : Dec method_3_code 8 (.iconst 1) 1 9 := ⟨by decide +kernel, rfl⟩
theorem D12_9 : Dec method_3_code 9 .iadd 1 10 := ⟨by decide +kernel, rfl⟩
theorem D12_10 : Dec method_3_code 10 (.aload_n 0) 1 11 := ⟨by decide +kernel, rfl⟩
theorem D12_11 : Dec method_3_code 11 (.iconst 1) 1 12 := ⟨by decide +kernel, rfl⟩
theorem D12_12 : Dec method_3_code 12 .laload 1 13 := ⟨by decide +kernel, rfl⟩
theorem D12_13 : Dec method_3_code 13 .lastore 1 14 := ⟨by decide +kernel, rfl⟩
theorem D12_14 : Dec method_3_code 14 (.aload_n 1) 1 15 := ⟨by decide +kernel, rfl⟩
theorem D12_15 : Dec method_3_code 15 (.iload_n 2) 1 16 := ⟨by decide +kernel, rfl⟩
theorem D12_16 : Dec method_3_code 16 (.iconst 2) 1 17 := ⟨by decide +kernel, rfl⟩
theorem D12_17 : Dec method_3_code 17 .iadd 1 18 := ⟨by decide +kernel, rfl⟩
theorem D12_18 : Dec method_3_code 18 (.aload_n 0) 1 19 := ⟨by decide +kernel, rfl⟩
theorem D12_19 : Dec method_3_code 19 (.iconst 2) 1 20 := ⟨by decide +kernel, rfl⟩
theorem D12_20 : Dec method_3_code 20 .laload 1 21 := ⟨by decide +kernel, rfl⟩
theorem D12_21 : Dec method_3_code 21 .lastore 1 22 := ⟨by decide +kernel, rfl⟩
theorem D12_22 : Dec method_3_code 22 (.aload_n 1) 1 23 := ⟨by decide +kernel, rfl⟩
theorem D12_23 : Dec method_3_code 23 (.iload_n 2) 1 24 := ⟨by decide +kernel, rfl⟩
theorem D12_24 : Dec method_3_code 24 (.iconst 3) 1 25 := ⟨by decide +kernel, rfl⟩
theorem D12_25 : Dec method_3_code 25 .iadd 1 26 := ⟨by decide +kernel, rfl⟩
theorem D12_26 : Dec method_3_code 26 (.aload_n 0) 1 27 := ⟨by decide +kernel, rfl⟩
theorem D12_27 : Dec method_3_code 27 (.iconst 3) 1 28 := ⟨by decide +kernel, rfl⟩
theorem D12_28 : Dec method_3_code 28 .laload 1 29 := ⟨by decide +kernel, rfl⟩
theorem D12_29 : Dec method_3_code 29 .lastore 1 30 := ⟨by decide +kernel, rfl⟩
theorem D12_30 : Dec method_3_code 30 (.aload_n 1) 1 31 := ⟨by decide +kernel, rfl⟩
theorem D12_31 : Dec method_3_code 31 (.iload_n 2) 1 32 := ⟨by decide +kernel, rfl⟩
theorem D12_32 : Dec method_3_code 32 (.iconst 4) 1 33 := ⟨by decide +kernel, rfl⟩
theorem D12_33 : Dec method_3_code 33 .iadd 1 34 := ⟨by decide +kernel, rfl⟩
theorem D12_34 : Dec method_3_code 34 (.aload_n 0) 1 35 := ⟨by decide +kernel, rfl⟩
theorem D12_35 : Dec method_3_code 35 (.iconst 4) 1 36 := ⟨by decide +kernel, rfl⟩
theorem D12_36 : Dec method_3_code 36 .laload 1 37 := ⟨by decide +kernel, rfl⟩
theorem D12_37 : Dec method_3_code 37 .lastore 1 38 := ⟨by decide +kernel, rfl⟩
theorem D12_38 : Dec method_3_code 38 (.aload_n 1) 1 39 := ⟨by decide +kernel, rfl⟩
theorem D12_39 : Dec method_3_code 39 (.iload_n 2) 1 40 := ⟨by decide +kernel, rfl⟩
theorem D12_40 : Dec method_3_code 40 (.iconst 5) 1 41 := ⟨by decide +kernel, rfl⟩
theorem D12_41 : Dec method_3_code 41 .iadd 1 42 := ⟨by decide +kernel, rfl⟩
theorem D12_42 : Dec method_3_code 42 (.aload_n 0) 1 43 := ⟨by decide +kernel, rfl⟩
theorem D12_43 : Dec method_3_code 43 (.iconst 5) 1 44 := ⟨by decide +kernel, rfl⟩
theorem D12_44 : Dec method_3_code 44 .laload 1 45 := ⟨by decide +kernel, rfl⟩
theorem D12_45 : Dec method_3_code 45 .lastore 1 46 := ⟨by decide +kernel, rfl⟩
theorem D12_46 : Dec method_3_code 46 (.aload_n 1) 1 47 := ⟨by decide +kernel, rfl⟩
theorem D12_47 : Dec method_3_code 47 (.iload_n 2) 1 48 := ⟨by decide +kernel, rfl⟩
theorem D12_48 : Dec method_3_code 48 (.bipush 6) 2 50 := ⟨by decide +kernel, rfl⟩
theorem D12_50 : Dec method_3_code 50 .iadd 1 51 := ⟨by decide +kernel, rfl⟩
theorem D12_51 : Dec method_3_code 51 (.aload_n 0) 1 52 := ⟨by decide +kernel, rfl⟩
theorem D12_52 : Dec method_3_code 52 (.bipush 6) 2 54 := ⟨by decide +kernel, rfl⟩
theorem D12_54 : Dec method_3_code 54 .laload 1 55 := ⟨by decide +kernel, rfl⟩
theorem D12_55 : Dec method_3_code 55 .lastore 1 56 := ⟨by decide +kernel, rfl⟩
theorem D12_56 : Dec method_3_code 56 (.aload_n 1) 1 57 := ⟨by decide +kernel, rfl⟩
theorem D12_57 : Dec method_3_code 57 (.iload_n 2) 1 58 := ⟨by decide +kernel, rfl⟩
theorem D12_58 : Dec method_3_code 58 (.bipush 7) 2 60 := ⟨by decide +kernel, rfl⟩
theorem D12_60 : Dec method_3_code 60 .iadd 1 61 := ⟨by decide +kernel, rfl⟩
theorem D12_61 : Dec method_3_code 61 (.aload_n 0) 1 62 := ⟨by decide +kernel, rfl⟩
theorem D12_62 : Dec method_3_code 62 (.bipush 7) 2 64 := ⟨by decide +kernel, rfl⟩
theorem D12_64 : Dec method_3_code 64 .laload 1 65 := ⟨by decide +kernel, rfl⟩
theorem D12_65 : Dec method_3_code 65 .lastore 1 66 := ⟨by decide +kernel, rfl⟩
theorem D12_66 : Dec method_3_code 66 (.aload_n 1) 1 67 := ⟨by decide +kernel, rfl⟩
theorem D12_67 : Dec method_3_code 67 (.iload_n 2) 1 68 := ⟨by decide +kernel, rfl⟩
theorem D12_68 : Dec method_3_code 68 (.bipush 8) 2 70 := ⟨by decide +kernel, rfl⟩
theorem D12_70 : Dec method_3_code 70 .iadd 1 71 := ⟨by decide +kernel, rfl⟩
theorem D12_71 : Dec method_3_code 71 (.aload_n 0) 1 72 := ⟨by decide +kernel, rfl⟩
theorem D12_72 : Dec method_3_code 72 (.bipush 8) 2 74 := ⟨by decide +kernel, rfl⟩
theorem D12_74 : Dec method_3_code 74 .laload 1 75 := ⟨by decide +kernel, rfl⟩
theorem D12_75 : Dec method_3_code 75 .lastore 1 76 := ⟨by decide +kernel, rfl⟩
theorem D12_76 : Dec method_3_code 76 (.aload_n 1) 1 77 := ⟨by decide +kernel, rfl⟩
theorem D12_77 : Dec method_3_code 77 (.iload_n 2) 1 78 := ⟨by decide +kernel, rfl⟩
theorem D12_78 : Dec method_3_code 78 (.bipush 9) 2 80 := ⟨by decide +kernel, rfl⟩
theorem D12_80 : Dec method_3_code 80 .iadd 1 81 := ⟨by decide +kernel, rfl⟩
theorem D12_81 : Dec method_3_code 81 (.aload_n 0) 1 82 := ⟨by decide +kernel, rfl⟩
theorem D12_82 : Dec method_3_code 82 (.bipush 9) 2 84 := ⟨by decide +kernel, rfl⟩
theorem D12_84 : Dec method_3_code 84 .laload 1 85 := ⟨by decide +kernel, rfl⟩
theorem D12_85 : Dec method_3_code 85 .lastore 1 86 := ⟨by decide +kernel, rfl⟩
theorem D12_86 : Dec method_3_code 86 (.aload_n 1) 1 87 := ⟨by decide +kernel, rfl⟩
theorem D12_87 : Dec method_3_code 87 (.iload_n 2) 1 88 := ⟨by decide +kernel, rfl⟩
theorem D12_88 : Dec method_3_code 88 (.bipush 10) 2 90 := ⟨by decide +kernel, rfl⟩
theorem D12_90 : Dec method_3_code 90 .iadd 1 91 := ⟨by decide +kernel, rfl⟩
theorem D12_91 : Dec method_3_code 91 (.aload_n 0) 1 92 := ⟨by decide +kernel, rfl⟩
theorem D12_92 : Dec method_3_code 92 (.bipush 10) 2 94 := ⟨by decide +kernel, rfl⟩
theorem D12_94 : Dec method_3_code 94 .laload 1 95 := ⟨by decide +kernel, rfl⟩
theorem D12_95 : Dec method_3_code 95 .lastore 1 96 := ⟨by decide +kernel, rfl⟩
theorem D12_96 : Dec method_3_code 96 (.aload_n 1) 1 97 := ⟨by decide +kernel, rfl⟩
theorem D12_97 : Dec method_3_code 97 (.iload_n 2) 1 98 := ⟨by decide +kernel, rfl⟩
theorem D12_98 : Dec method_3_code 98 (.bipush 11) 2 100 := ⟨by decide +kernel, rfl⟩
theorem D12_100 : Dec method_3_code 100 .iadd 1 101 := ⟨by decide +kernel, rfl⟩
theorem D12_101 : Dec method_3_code 101 (.aload_n 0) 1 102 := ⟨by decide +kernel, rfl⟩
theorem D12_102 : Dec method_3_code 102 (.bipush 11) 2 104 := ⟨by decide +kernel, rfl⟩
theorem D12_104 : Dec method_3_code 104 .laload 1 105 := ⟨by decide +kernel, rfl⟩
theorem D12_105 : Dec method_3_code 105 .lastore 1 106 := ⟨by decide +kernel, rfl⟩
theorem D12_106 : Dec method_3_code 106 (.aload_n 1) 1 107 := ⟨by decide +kernel, rfl⟩
theorem D12_107 : Dec method_3_code 107 (.iload_n 2) 1 108 := ⟨by decide +kernel, rfl⟩
theorem D12_108 : Dec method_3_code 108 (.bipush 12) 2 110 := ⟨by decide +kernel, rfl⟩
theorem D12_110 : Dec method_3_code 110 .iadd 1 111 := ⟨by decide +kernel, rfl⟩
theorem D12_111 : Dec method_3_code 111 (.aload_n 0) 1 112 := ⟨by decide +kernel, rfl⟩
theorem D12_112 : Dec method_3_code 112 (.bipush 12) 2 114 := ⟨by decide +kernel, rfl⟩
theorem D12_114 : Dec method_3_code 114 .laload 1 115 := ⟨by decide +kernel, rfl⟩
theorem D12_115 : Dec method_3_code 115 .lastore 1 116 := ⟨by decide +kernel, rfl⟩
theorem D12_116 : Dec method_3_code 116 (.aload_n 1) 1 117 := ⟨by decide +kernel, rfl⟩
theorem D12_117 : Dec method_3_code 117 (.iload_n 2) 1 118 := ⟨by decide +kernel, rfl⟩
theorem D12_118 : Dec method_3_code 118 (.bipush 13) 2 120 := ⟨by decide +kernel, rfl⟩
theorem D12_120 : Dec method_3_code 120 .iadd 1 121 := ⟨by decide +kernel, rfl⟩
theorem D12_121 : Dec method_3_code 121 (.aload_n 0) 1 122 := ⟨by decide +kernel, rfl⟩
theorem D12_122 : Dec method_3_code 122 (.bipush 13) 2 124 := ⟨by decide +kernel, rfl⟩
theorem D12_124 : Dec method_3_code 124 .laload 1 125 := ⟨by decide +kernel, rfl⟩
theorem D12_125 : Dec method_3_code 125 .lastore 1 126 := ⟨by decide +kernel, rfl⟩
theorem D12_126 : Dec method_3_code 126 (.aload_n 1) 1 127 := ⟨by decide +kernel, rfl⟩
theorem D12_127 : Dec method_3_code 127 (.iload_n 2) 1 128 := ⟨by decide +kernel, rfl⟩
theorem D12_128 : Dec method_3_code 128 (.bipush 14) 2 130 := ⟨by decide +kernel, rfl⟩
theorem D12_130 : Dec method_3_code 130 .iadd 1 131 := ⟨by decide +kernel, rfl⟩
theorem D12_131 : Dec method_3_code 131 (.aload_n 0) 1 132 := ⟨by decide +kernel, rfl⟩
theorem D12_132 : Dec method_3_code 132 (.bipush 14) 2 134 := ⟨by decide +kernel, rfl⟩
theorem D12_134 : Dec method_3_code 134 .laload 1 135 := ⟨by decide +kernel, rfl⟩
theorem D12_135 : Dec method_3_code 135 .lastore 1 136 := ⟨by decide +kernel, rfl⟩
theorem D12_136 : Dec method_3_code 136 (.aload_n 1) 1 137 := ⟨by decide +kernel, rfl⟩
theorem D12_137 : Dec method_3_code 137 (.iload_n 2) 1 138 := ⟨by decide +kernel, rfl⟩
theorem D12_138 : Dec method_3_code 138 (.bipush 15) 2 140 := ⟨by decide +kernel, rfl⟩
theorem D12_140 : Dec method_3_code 140 .iadd 1 141 := ⟨by decide +kernel, rfl⟩
theorem D12_141 : Dec method_3_code 141 (.aload_n 0) 1 142 := ⟨by decide +kernel, rfl⟩
theorem D12_142 : Dec method_3_code 142 (.bipush 15) 2 144 := ⟨by decide +kernel, rfl⟩
theorem D12_144 : Dec method_3_code 144 .laload 1 145 := ⟨by decide +kernel, rfl⟩
theorem D12_145 : Dec method_3_code 145 .lastore 1 146 := ⟨by decide +kernel, rfl⟩
theorem D12_146 : Dec method_3_code 146 .return_ 1 147 := ⟨by decide +kernel, rfl⟩
theorem D13_0 : Dec prog_60_method_5_code 0 (.iconst 0) 1 1 := ⟨by decide +kernel, rfl⟩
theorem D13_1 : Dec prog_60_method_5_code 1 (.istore 4) 2 3 := ⟨by decide +kernel, rfl⟩
theorem D13_3 : Dec prog_60_method_5_code 3 (.iload 4) 2 5 := ⟨by decide +kernel, rfl⟩
theorem D13_5 : Dec prog_60_method_5_code 5 (.aload_n 3) 1 6 := ⟨by decide +kernel, rfl⟩
theorem D13_6 : Dec prog_60_method_5_code 6 .arraylength 1 7 := ⟨by decide +kernel, rfl⟩
theorem D13_7 : Jmp prog_60_method_5_code 7 (.if_icmp .ge 41) 41 10 48 := ⟨by decide +kernel, rfl, by decide, by decide⟩
theorem D13_10 : Dec prog_60_method_5_code 10 (.aload_n 3) 1 11 := ⟨by decide +kernel, rfl⟩
theorem D13_11 : Dec prog_60_method_5_code 11 (.iload 4) 2 13 := ⟨by decide +kernel, rfl⟩
theorem D13_13 : Dec prog_60_method_5_code 13 (.aload_n 1) 1 14 := ⟨by decide +kernel, rfl⟩
theorem D13_14 : Dec prog_60_method_5_code 14 (.iload_n 2) 1 15 := ⟨by decide +kernel, rfl⟩
theorem D13_15 : Dec prog_60_method_5_code 15 (.aload_n 0) 1 16 := ⟨by decide +kernel, rfl⟩
theorem D13_16 : Dec prog_60_method_5_code 16 (.getfield 29) 3 19 := ⟨by decide +kernel, rfl⟩
theorem D13_19 : Dec prog_60_method_5_code 19 (.iload 4) 2 21 := ⟨by decide +kernel, rfl⟩
theorem D13_21 : Dec prog_60_method_5_code 21 .iaload 1 22 := ⟨by decide +kernel, rfl⟩
theorem D13_22 : Dec prog_60_method_5_code 22 .iadd 1 23 := ⟨by decide +kernel, rfl⟩
theorem D13_23 : Dec prog_60_method_5_code 23 .laload 1 24 := ⟨by decide +kernel, rfl⟩
theorem D13_24 : Dec prog_60_method_5_code 24 (.aload_n 0) 1 25 := ⟨by decide +kernel, rfl⟩
theorem D13_25 : Dec prog_60_method_5_code 25 (.getfield 32) 3 28 := ⟨by decide +kernel, rfl⟩
theorem D13_28 : Dec prog_60_method_5_code 28 (.iload 4) 2 30 := ⟨by decide +kernel, rfl⟩
theorem D13_30 : Dec prog_60_method_5_code 30 .iaload 1 31 := ⟨by decide +kernel, rfl⟩
theorem D13_31 : Dec prog_60_method_5_code 31 .lushr 1 32 := ⟨by decide +kernel, rfl⟩
theorem D13_32 : Dec prog_60_method_5_code 32 (.aload_n 0) 1 33 := ⟨by decide +kernel, rfl⟩
theorem D13_33 : Dec prog_60_method_5_code 33 (.getfield 35) 3 36 := ⟨by decide +kernel, rfl⟩
theorem D13_36 : Dec prog_60_method_5_code 36 (.iload 4) 2 38 := ⟨by decide +kernel, rfl⟩
theorem D13_38 : Dec prog_60_method_5_code 38 .laload 1 39 := ⟨by decide +kernel, rfl⟩
theorem D13_39 : Dec prog_60_method_5_code 39 .land 1 40 := ⟨by decide +kernel, rfl⟩
theorem D13_40 : Dec prog_60_method_5_code 40 .l2i 1 41 := ⟨by decide +kernel, rfl⟩
theorem D13_41 : Dec prog_60_method_5_code 41 .iastore 1 42 := ⟨by decide +kernel, rfl⟩
theorem D13_42 : Dec prog_60_method_5_code 42 (.iinc 4 1) 3 45 := ⟨by decide +kernel, rfl⟩
theorem D13_45 : Jmp prog_60_method_5_code 45 (.goto (-42)) (-42) 48 3 := ⟨by decide +kernel, rfl, by decide, by decide⟩
theorem D13_48 : Dec prog_60_method_5_code 48 (.iconst 0) 1 49 := ⟨by decide +kernel, rfl⟩
theorem D13_49 : Dec prog_60_method_5_code 49 (.istore 4) 2 51 := ⟨by decide +kernel, rfl⟩
theorem D13_51 : Dec prog_60_method_5_code 51 (.iload 4) 2 53 := ⟨by decide +kernel, rfl⟩
theorem D13_53 : Dec prog_60_method_5_code 53 (.aload_n 0) 1 54 := ⟨by decide +kernel, rfl⟩
theorem D13_54 : Dec prog_60_method_5_code 54 (.getfield 82) 3 57 := ⟨by decide +kernel, rfl⟩
theorem D13_57 : Jmp prog_60_method_5_code 57 (.if_icmp .ge 61) 61 60 118 := ⟨by decide +kernel, rfl, by decide, by decide⟩
theorem D13_60 : Dec prog_60_method_5_code 60 (.aload_n 1) 1 61 := ⟨by decide +kernel, rfl⟩
theorem D13_61 : Dec prog_60_method_5_code 61 (.iload_n 2) 1 62 := ⟨by decide +kernel, rfl⟩
theorem D13_62 : Dec prog_60_method_5_code 62 (.aload_n 0) 1 63 := ⟨by decide +kernel, rfl⟩
theorem D13_63 : Dec prog_60_method_5_code 63 (.getfield 13) 3 66 := ⟨by decide +kernel, rfl⟩
theorem D13_66 : Dec prog_60_method_5_code 66 (.iload 4) 2 68 := ⟨by decide +kernel, rfl⟩
theorem D13_68 : Dec prog_60_method_5_code 68 .iaload 1 69 := ⟨by decide +kernel, rfl⟩
theorem D13_69 : Dec prog_60_method_5_code 69 .iadd 1 70 := ⟨by decide +kernel, rfl⟩
theorem D13_70 : Dec prog_60_method_5_code 70 .laload 1 71 := ⟨by decide +kernel, rfl⟩
theorem D13_71 : Dec prog_60_method_5_code 71 (.lstore 5) 2 73 := ⟨by decide +kernel, rfl⟩
theorem D13_73 : Dec prog_60_method_5_code 73 (.aload_n 3) 1 74 := ⟨by decide +kernel, rfl⟩
theorem D13_74 : Dec prog_60_method_5_code 74 (.aload_n 0) 1 75 := ⟨by decide +kernel, rfl⟩
theorem D13_75 : Dec prog_60_method_5_code 75 (.getfield 7) 3 78 := ⟨by decide +kernel, rfl⟩
theorem D13_78 : Dec prog_60_method_5_code 78 (.iload 4) 2 80 := ⟨by decide +kernel, rfl⟩
theorem D13_80 : Dec prog_60_method_5_code 80 .iaload 1 81 := ⟨by decide +kernel, rfl⟩
theorem D13_81 : Dec prog_60_method_5_code 81 .dup2 1 82 := ⟨by decide +kernel, rfl⟩
theorem D13_82 : Dec prog_60_method_5_code 82 .iaload 1 83 := ⟨by decide +kernel, rfl⟩
theorem D13_83 : Dec prog_60_method_5_code 83 (.lload 5) 2 85 := ⟨by decide +kernel, rfl⟩
theorem D13_85 : Dec prog_60_method_5_code 85 (.aload_n 0) 1 86 := ⟨by decide +kernel, rfl⟩
theorem D13_86 : Dec prog_60_method_5_code 86 (.getfield 16) 3 89 := ⟨by decide +kernel, rfl⟩
theorem D13_89 : Dec prog_60_method_5_code 89 (.iload 4) 2 91 := ⟨by decide +kernel, rfl⟩
theorem D13_91 : Dec prog_60_method_5_code 91 .iaload 1 92 := ⟨by decide +kernel, rfl⟩
theorem D13_92 : Dec prog_60_method_5_code 92 .lushr 1 93 := ⟨by decide +kernel, rfl⟩
theorem D13_93 : Dec prog_60_method_5_code 93 (.aload_n 0) 1 94 := ⟨by decide +kernel, rfl⟩
theorem D13_94 : Dec prog_60_method_5_code 94 (.getfield 22) 3 97 := ⟨by decide +kernel, rfl⟩
theorem D13_97 : Dec prog_60_method_5_code 97 (.iload 4) 2 99 := ⟨by decide +kernel, rfl⟩
theorem D13_99 : Dec prog_60_method_5_code 99 .laload 1 100 := ⟨by decide +kernel, rfl⟩
theorem D13_100 : Dec prog_60_method_5_code 100 .land 1 101 := ⟨by decide +kernel, rfl⟩
theorem D13_101 : Dec prog_60_method_5_code 101 .l2i 1 102 := ⟨by decide +kernel, rfl⟩
theorem D13_102 : Dec prog_60_method_5_code 102 (.aload_n 0) 1 103 := ⟨by decide +kernel, rfl⟩
theorem D13_103 : Dec prog_60_method_5_code 103 (.getfield 19) 3 106 := ⟨by decide +kernel, rfl⟩
theorem D13_106 : Dec prog_60_method_5_code 106 (.iload 4) 2 108 := ⟨by decide +kernel, rfl⟩
theorem D13_108 : Dec prog_60_method_5_code 108 .iaload 1 109 := ⟨by decide +kernel, rfl⟩
theorem D13_109 : Dec prog_60_method_5_code 109 .ishl 1 110 := ⟨by decide +kernel, rfl⟩
theorem D13_110 : Dec prog_60_method_5_code 110 .ior 1 111 := ⟨by decide +kernel, rfl⟩
theorem D13_111 : Dec prog_60_method_5_code 111 .iastore 1 112 := ⟨by decide +kernel, rfl⟩
theorem D13_112 : Dec prog_60_method_5_code 112 (.iinc 4 1) 3 115 := ⟨by decide +kernel, rfl⟩
theorem D13_115 : Jmp prog_60_method_5_code 115 (.goto (-64)) (-64) 118 51 := ⟨by decide +kernel, rfl, by decide, by decide⟩
theorem D13_118 : Dec prog_60_method_5_code 118 .return_ 1 119 := ⟨by decide +kernel, rfl⟩
theorem D14_0 : Dec jdk_29_method_69_code 0 (.iload_n 0) 1 1 := ⟨by decide +kernel, rfl⟩
theorem D14_1 : Dec jdk_29_method_69_code 1 (.iload_n 1) 1 2 := ⟨by decide +kernel, rfl⟩
theorem D14_2 : Jmp jdk_29_method_69_code 2 (.if_icmp .gt 7) 7 5 9 := ⟨by decide +kernel, rfl, by decide, by decide⟩
theorem D14_5 : Dec jdk_29_method_69_code 5 (.iload_n 0) 1 6 := ⟨by decide +kernel, rfl⟩
theorem D14_6 : Jmp jdk_29_method_69_code 6 (.goto 4) 4 9 10 := ⟨by decide +kernel, rfl, by decide, by decide⟩
theorem D14_9 : Dec jdk_29_method_69_code 9 (.iload_n 1) 1 10 := ⟨by decide +kernel, rfl⟩
theorem D14_10 : Dec jdk_29_method_69_code 10 .ireturn 1 11 := ⟨by decide +kernel, rfl⟩
theorem D15_0 : Dec prog_60_method_7_code 0 (.aload_n 0) 1 1 := ⟨by decide +kernel, rfl⟩
theorem D15_1 : Dec prog_60_method_7_code 1 (.getfield 82) 3 4 := ⟨by decide +kernel, rfl⟩
theorem D15_4 : Dec prog_60_method_7_code 4 (.aload_n 0) 1 5 := ⟨by decide +kernel, rfl⟩
theorem D15_5 : Dec prog_60_method_7_code 5 (.getfield 7) 3 8 := ⟨by decide +kernel, rfl⟩
theorem D15_8 : Dec prog_60_method_7_code 8 .arraylength 1 9 := ⟨by decide +kernel, rfl⟩
theorem D15_9 : Jmp prog_60_method_7_code 9 (.if_icmp .ne 86) 86 12 95 := ⟨by decide +kernel, rfl, by decide, by decide⟩
theorem D15_12 : Dec prog_60_method_7_code 12 (.iconst 4) 1 13 := ⟨by decide +kernel, rfl⟩
theorem D15_13 : Dec prog_60_method_7_code 13 (.aload_n 0) 1 14 := ⟨by decide +kernel, rfl⟩
theorem D15_14 : Dec prog_60_method_7_code 14 (.getfield 82) 3 17 := ⟨by decide +kernel, rfl⟩
theorem D15_17 : Dec prog_60_method_7_code 17 (.iconst 2) 1 18 := ⟨by decide +kernel, rfl⟩
theorem D15_18 : Dec prog_60_method_7_code 18 .imul 1 19 := ⟨by decide +kernel, rfl⟩
theorem D15_19 : Dec prog_60_method_7_code 19 (.invokestatic 69) 3 22 := ⟨by decide +kernel, rfl⟩
theorem D15_22 : Dec prog_60_method_7_code 22 (.istore_n 3) 1 23 := ⟨by decide +kernel, rfl⟩
theorem D15_23 : Dec prog_60_method_7_code 23 (.aload_n 0) 1 24 := ⟨by decide +kernel, rfl⟩
theorem D15_24 : Dec prog_60_method_7_code 24 (.aload_n 0) 1 25 := ⟨by decide +kernel, rfl⟩
theorem D15_25 : Dec prog_60_method_7_code 25 (.getfield 7) 3 28 := ⟨by decide +kernel, rfl⟩
theorem D15_28 : Dec prog_60_method_7_code 28 (.iload_n 3) 1 29 := ⟨by decide +kernel, rfl⟩
theorem D15_29 : Dec prog_60_method_7_code 29 (.invokestatic 101) 3 32 := ⟨by decide +kernel, rfl⟩
theorem D15_32 : Dec prog_60_method_7_code 32 (.putfield 7) 3 35 := ⟨by decide +kernel, rfl⟩
theorem D15_35 : Dec prog_60_method_7_code 35 (.aload_n 0) 1 36 := ⟨by decide +kernel, rfl⟩
theorem D15_36 : Dec prog_60_method_7_code 36 (.aload_n 0) 1 37 := ⟨by decide +kernel, rfl⟩
theorem D15_37 : Dec prog_60_method_7_code 37 (.getfield 13) 3 40 := ⟨by decide +kernel, rfl⟩
theorem D15_40 : Dec prog_60_method_7_code 40 (.iload_n 3) 1 41 := ⟨by decide +kernel, rfl⟩
theorem D15_41 : Dec prog_60_method_7_code 41 (.invokestatic 101) 3 44 := ⟨by decide +kernel, rfl⟩
theorem D15_44 : Dec prog_60_method_7_code 44 (.putfield 13) 3 47 := ⟨by decide +kernel, rfl⟩
theorem D15_47 : Dec prog_60_method_7_code 47 (.aload_n 0) 1 48 := ⟨by decide +kernel, rfl⟩
theorem D15_48 : Dec prog_60_method_7_code 48 (.aload_n 0) 1 49 := ⟨by decide +kernel, rfl⟩
theorem D15_49 : Dec prog_60_method_7_code 49 (.getfield 16) 3 52 := ⟨by decide +kernel, rfl⟩
theorem D15_52 : Dec prog_60_method_7_code 52 (.iload_n 3) 1 53 := ⟨by decide +kernel, rfl⟩
theorem D15_53 : Dec prog_60_method_7_code 53 (.invokestatic 101) 3 56 := ⟨by decide +kernel, rfl⟩
theorem D15_56 : Dec prog_60_method_7_code 56 (.putfield 16) 3 59 := ⟨by decide +kernel, rfl⟩
theorem D15_59 : Dec prog_60_method_7_code 59 (.aload_n 0) 1 60 := ⟨by decide +kernel, rfl⟩
theorem D15_60 : Dec prog_60_method_7_code 60 (.aload_n 0) 1 61 := ⟨by decide +kernel, rfl⟩
theorem D15_61 : Dec prog_60_method_7_code 61 (.getfield 19) 3 64 := ⟨by decide +kernel, rfl⟩
theorem D15_64 : Dec prog_60_method_7_code 64 (.iload_n 3) 1 65 := ⟨by decide +kernel, rfl⟩
theorem D15_65 : Dec prog_60_method_7_code 65 (.invokestatic 101) 3 68 := ⟨by decide +kernel, rfl⟩
theorem D15_68 : Dec prog_60_method_7_code 68 (.putfield 19) 3 71 := ⟨by decide +kernel, rfl⟩
theorem D15_71 : Dec prog_60_method_7_code 71 (.aload_n 0) 1 72 := ⟨by decide +kernel, rfl⟩
theorem D15_72 : Dec prog_60_method_7_code 72 (.aload_n 0) 1 73 := ⟨by decide +kernel, rfl⟩
theorem D15_73 : Dec prog_60_method_7_code 73 (.getfield 22) 3 76 := ⟨by decide +kernel, rfl⟩
theorem D15_76 : Dec prog_60_method_7_code 76 (.iload_n 3) 1 77 := ⟨by decide +kernel, rfl⟩
theorem D15_77 : Dec prog_60_method_7_code 77 (.invokestatic 105) 3 80 := ⟨by decide +kernel, rfl⟩
theorem D15_80 : Dec prog_60_method_7_code 80 (.putfield 22) 3 83 := ⟨by decide +kernel, rfl⟩
theorem D15_83 : Dec prog_60_method_7_code 83 (.aload_n 0) 1 84 := ⟨by decide +kernel, rfl⟩
theorem D15_84 : Dec prog_60_method_7_code 84 (.aload_n 0) 1 85 := ⟨by decide +kernel, rfl⟩
theorem D15_85 : Dec prog_60_method_7_code 85 (.getfield 26) 3 88 := ⟨by decide +kernel, rfl⟩
theorem D15_88 : Dec prog_60_method_7_code 88 (.iload_n 3) 1 89 := ⟨by decide +kernel, rfl⟩
theorem D15_89 : Dec prog_60_method_7_code 89 (.invokestatic 101) 3 92 := ⟨by decide +kernel, rfl⟩
theorem D15_92 : Dec prog_60_method_7_code 92 (.putfield 26) 3 95 := ⟨by decide +kernel, rfl⟩
theorem D15_95 : Dec prog_60_method_7_code 95 (.aload_n 0) 1 96 := ⟨by decide +kernel, rfl⟩
theorem D15_96 : Dec prog_60_method_7_code 96 (.getfield 44) 3 99 := ⟨by decide +kernel, rfl⟩
theorem D15_99 : Dec prog_60_method_7_code 99 (.iload_n 1) 1 100 := ⟨by decide +kernel, rfl⟩
theorem D15_100 : Dec prog_60_method_7_code 100 .iaload 1 101 := ⟨by decide +kernel, rfl⟩
theorem D15_101 : Jmp prog_60_method_7_code 101 (.ifCond .ge 16) 16 104 117 := ⟨by decide +kernel, rfl, by decide, by decide⟩
theorem D15_104 : Dec prog_60_method_7_code 104 (.aload_n 0) 1 105 := ⟨by decide +kernel, rfl⟩
theorem D15_105 : Dec prog_60_method_7_code 105 (.getfield 41) 3 108 := ⟨by decide +kernel, rfl⟩
theorem D15_108 : Dec prog_60_method_7_code 108 (.iload_n 1) 1 109 := ⟨by decide +kernel, rfl⟩
theorem D15_109 : Dec prog_60_method_7_code 109 (.aload_n 0) 1 110 := ⟨by decide +kernel, rfl⟩
theorem D15_110 : Dec prog_60_method_7_code 110 (.getfield 82) 3 113 := ⟨by decide +kernel, rfl⟩
theorem D15_113 : Dec prog_60_method_7_code 113 .iastore 1 114 := ⟨by decide +kernel, rfl⟩
theorem D15_114 : Jmp prog_60_method_7_code 114 (.goto 18) 18 117 132 := ⟨by decide +kernel, rfl, by decide, by decide⟩
theorem D15_117 : Dec prog_60_method_7_code 117 (.aload_n 0) 1 118 := ⟨by decide +kernel, rfl⟩
theorem D15_118 : Dec prog_60_method_7_code 118 (.getfield 26) 3 121 := ⟨by decide +kernel, rfl⟩
theorem D15_121 : Dec prog_60_method_7_code 121 (.aload_n 0) 1 122 := ⟨by decide +kernel, rfl⟩
theorem D15_122 : Dec prog_60_method_7_code 122 (.getfield 44) 3 125 := ⟨by decide +kernel, rfl⟩
theorem D15_125 : Dec prog_60_method_7_code 125 (.iload_n 1) 1 126 := ⟨by decide +kernel, rfl⟩
theorem D15_126 : Dec prog_60_method_7_code 126 .iaload 1 127 := ⟨by decide +kernel, rfl⟩
theorem D15_127 : Dec prog_60_method_7_code 127 (.aload_n 0) 1 128 := ⟨by decide +kernel, rfl⟩
theorem D15_128 : Dec prog_60_method_7_code 128 (.getfield 82) 3 131 := ⟨by decide +kernel, rfl⟩
theorem D15_131 : Dec prog_60_method_7_code 131 .iastore 1 132 := ⟨by decide +kernel, rfl⟩
theorem D15_132 : Dec prog_60_method_7_code 132 (.aload_n 0) 1 133 := ⟨by decide +kernel, rfl⟩
theorem D15_133 : Dec prog_60_method_7_code 133 (.iload_n 2) 1 134 := ⟨by decide +kernel, rfl⟩
theorem D15_134 : Dec prog_60_method_7_code 134 (.invokevirtual 57) 3 137 := ⟨by decide +kernel, rfl⟩
theorem D15_137 : Dec prog_60_method_7_code 137 (.aload_n 0) 1 138 := ⟨by decide +kernel, rfl⟩
theorem D15_138 : Dec prog_60_method_7_code 138 (.getfield 7) 3 141 := ⟨by decide +kernel, rfl⟩
theorem D15_141 : Dec prog_60_method_7_code 141 (.aload_n 0) 1 142 := ⟨by decide +kernel, rfl⟩
theorem D15_142 : Dec prog_60_method_7_code 142 (.getfield 82) 3 145 := ⟨by decide +kernel, rfl⟩
theorem D15_145 : Dec prog_60_method_7_code 145 (.iload_n 1) 1 146 := ⟨by decide +kernel, rfl⟩
theorem D15_146 : Dec prog_60_method_7_code 146 .iastore 1 147 := ⟨by decide +kernel, rfl⟩
theorem D15_147 : Dec prog_60_method_7_code 147 (.aload_n 0) 1 148 := ⟨by decide +kernel, rfl⟩
theorem D15_148 : Dec prog_60_method_7_code 148 (.getfield 13) 3 151 := ⟨by decide +kernel, rfl⟩
theorem D15_151 : Dec prog_60_method_7_code 151 (.aload_n 0) 1 152 := ⟨by decide +kernel, rfl⟩
theorem D15_152 : Dec prog_60_method_7_code 152 (.getfield 82) 3 155 := ⟨by decide +kernel, rfl⟩
theorem D15_155 : Dec prog_60_method_7_code 155 (.aload_n 0) 1 156 := ⟨by decide +kernel, rfl⟩
theorem D15_156 : Dec prog_60_method_7_code 156 (.getfield 61) 3 159 := ⟨by decide +kernel, rfl⟩
theorem D15_159 : Dec prog_60_method_7_code 159 (.ldc2_w 67) 3 162 := ⟨by decide +kernel, rfl⟩
theorem D15_162 : Dec prog_60_method_7_code 162 .ldiv 1 163 := ⟨by decide +kernel, rfl⟩
theorem D15_163 : Dec prog_60_method_7_code 163 .l2i 1 164 := ⟨by decide +kernel, rfl⟩
theorem D15_164 : Dec prog_60_method_7_code 164 .iastore 1 165 := ⟨by decide +kernel, rfl⟩
theorem D15_165 : Dec prog_60_method_7_code 165 (.aload_n 0) 1 166 := ⟨by decide +kernel, rfl⟩
theorem D15_166 : Dec prog_60_method_7_code 166 (.getfield 16) 3 169 := ⟨by decide +kernel, rfl⟩
theorem D15_169 : Dec prog_60_method_7_code 169 (.aload_n 0) 1 170 := ⟨by decide +kernel, rfl⟩
theorem D15_170 : Dec prog_60_method_7_code 170 (.getfield 82) 3 173 := ⟨by decide +kernel, rfl⟩
theorem D15_173 : Dec prog_60_method_7_code 173 (.aload_n 0) 1 174 := ⟨by decide +kernel, rfl⟩
theorem D15_174 : Dec prog_60_method_7_code 174 (.getfield 61) 3 177 := ⟨by decide +kernel, rfl⟩
theorem D15_177 : Dec prog_60_method_7_code 177 (.ldc2_w 67) 3 180 := ⟨by decide +kernel, rfl⟩
theorem D15_180 : Dec prog_60_method_7_code 180 .lrem 1 181 := ⟨by decide +kernel, rfl⟩
theorem D15_181 : Dec prog_60_method_7_code 181 .l2i 1 182 := ⟨by decide +kernel, rfl⟩
theorem D15_182 : Dec prog_60_method_7_code 182 .iastore 1 183 := ⟨by decide +kernel, rfl⟩
theorem D15_183 : Dec prog_60_method_7_code 183 (.aload_n 0) 1 184 := ⟨by decide +kernel, rfl⟩
theorem D15_184 : Dec prog_60_method_7_code 184 (.getfield 19) 3 187 := ⟨by decide +kernel, rfl⟩
theorem D15_187 : Dec prog_60_method_7_code 187 (.aload_n 0) 1 188 := ⟨by decide +kernel, rfl⟩
theorem D15_188 : Dec prog_60_method_7_code 188 (.getfield 82) 3 191 := ⟨by decide +kernel, rfl⟩
theorem D15_191 : Dec prog_60_method_7_code 191 (.aload_n 0) 1 192 := ⟨by decide +kernel, rfl⟩
theorem D15_192 : Dec prog_60_method_7_code 192 (.getfield 38) 3 195 := ⟨by decide +kernel, rfl⟩
theorem D15_195 : Dec prog_60_method_7_code 195 (.iload_n 1) 1 196 := ⟨by decide +kernel, rfl⟩
theorem D15_196 : Dec prog_60_method_7_code 196 .iaload 1 197 := ⟨by decide +kernel, rfl⟩
theorem D15_197 : Dec prog_60_method_7_code 197 .iastore 1 198 := ⟨by decide +kernel, rfl⟩
theorem D15_198 : Dec prog_60_method_7_code 198 (.aload_n 0) 1 199 := ⟨by decide +kernel, rfl⟩
theorem D15_199 : Dec prog_60_method_7_code 199 (.getfield 22) 3 202 := ⟨by decide +kernel, rfl⟩
theorem D15_202 : Dec prog_60_method_7_code 202 (.aload_n 0) 1 203 := ⟨by decide +kernel, rfl⟩
theorem D15_203 : Dec prog_60_method_7_code 203 (.getfield 82) 3 206 := ⟨by decide +kernel, rfl⟩
theorem D15_206 : Dec prog_60_method_7_code 206 (.lconst 1) 1 207 := ⟨by decide +kernel, rfl⟩
theorem D15_207 : Dec prog_60_method_7_code 207 (.iload_n 2) 1 208 := ⟨by decide +kernel, rfl⟩
theorem D15_208 : Dec prog_60_method_7_code 208 .lshl 1 209 := ⟨by decide +kernel, rfl⟩
theorem D15_209 : Dec prog_60_method_7_code 209 (.lconst 1) 1 210 := ⟨by decide +kernel, rfl⟩
theorem D15_210 : Dec prog_60_method_7_code 210 .lsub 1 211 := ⟨by decide +kernel, rfl⟩
theorem D15_211 : Dec prog_60_method_7_code 211 .lastore 1 212 := ⟨by decide +kernel, rfl⟩
theorem D15_212 : Dec prog_60_method_7_code 212 (.aload_n 0) 1 213 := ⟨by decide +kernel, rfl⟩
theorem D15_213 : Dec prog_60_method_7_code 213 (.getfield 26) 3 216 := ⟨by decide +kernel, rfl⟩
theorem D15_216 : Dec prog_60_method_7_code 216 (.aload_n 0) 1 217 := ⟨by decide +kernel, rfl⟩
theorem D15_217 : Dec prog_60_method_7_code 217 (.getfield 82) 3 220 := ⟨by decide +kernel, rfl⟩
theorem D15_220 : Dec prog_60_method_7_code 220 (.iconst (-1)) 1 221 := ⟨by decide +kernel, rfl⟩
theorem D15_221 : Dec prog_60_method_7_code 221 .iastore 1 222 := ⟨by decide +kernel, rfl⟩
theorem D15_222 : Dec prog_60_method_7_code 222 (.aload_n 0) 1 223 := ⟨by decide +kernel, rfl⟩
theorem D15_223 : Dec prog_60_method_7_code 223 (.getfield 44) 3 226 := ⟨by decide +kernel, rfl⟩
theorem D15_226 : Dec prog_60_method_7_code 226 (.iload_n 1) 1 227 := ⟨by decide +kernel, rfl⟩
theorem D15_227 : Dec prog_60_method_7_code 227 (.aload_n 0) 1 228 := ⟨by decide +kernel, rfl⟩
theorem D15_228 : Dec prog_60_method_7_code 228 (.getfield 82) 3 231 := ⟨by decide +kernel, rfl⟩
theorem D15_231 : Dec prog_60_method_7_code 231 .iastore 1 232 := ⟨by decide +kernel, rfl⟩
theorem D15_232 : Dec prog_60_method_7_code 232 (.aload_n 0) 1 233 := ⟨by decide +kernel, rfl⟩
theorem D15_233 : Dec prog_60_method_7_code 233 (.getfield 38) 3 236 := ⟨by decide +kernel, rfl⟩
theorem D15_236 : Dec prog_60_method_7_code 236 (.iload_n 1) 1 237 := ⟨by decide +kernel, rfl⟩
theorem D15_237 : Dec prog_60_method_7_code 237 .dup2 1 238 := ⟨by decide +kernel, rfl⟩
theorem D15_238 : Dec prog_60_method_7_code 238 .iaload 1 239 := ⟨by decide +kernel, rfl⟩
theorem D15_239 : Dec prog_60_method_7_code 239 (.iload_n 2) 1 240 := ⟨by decide +kernel, rfl⟩
theorem D15_240 : Dec prog_60_method_7_code 240 .iadd 1 241 := ⟨by decide +kernel, rfl⟩
theorem D15_241 : Dec prog_60_method_7_code 241 .iastore 1 242 := ⟨by decide +kernel, rfl⟩
theorem D15_242 : Dec prog_60_method_7_code 242 (.aload_n 0) 1 243 := ⟨by decide +kernel, rfl⟩
theorem D15_243 : Dec prog_60_method_7_code 243 .dup 1 244 := ⟨by decide +kernel, rfl⟩
theorem D15_244 : Dec prog_60_method_7_code 244 (.getfield 61) 3 247 := ⟨by decide +kernel, rfl⟩
theorem D15_247 : Dec prog_60_method_7_code 247 (.iload_n 2) 1 248 := ⟨by decide +kernel, rfl⟩
theorem D15_248 : Dec prog_60_method_7_code 248 .i2l 1 249 := ⟨by decide +kernel, rfl⟩
theorem D15_249 : Dec prog_60_method_7_code 249 .ladd 1 250 := ⟨by decide +kernel, rfl⟩
theorem D15_250 : Dec prog_60_method_7_code 250 (.putfield 61) 3 253 := ⟨by decide +kernel, rfl⟩
theorem D15_253 : Dec prog_60_method_7_code 253 (.aload_n 0) 1 254 := ⟨by decide +kernel, rfl⟩
theorem D15_254 : Dec prog_60_method_7_code 254 .dup 1 255 := ⟨by decide +kernel, rfl⟩
theorem D15_255 : Dec prog_60_method_7_code 255 (.getfield 82) 3 258 := ⟨by decide +kernel, rfl⟩
theorem D15_258 : Dec prog_60_method_7_code 258 (.iconst 1) 1 259 := ⟨by decide +kernel, rfl⟩
theorem D15_259 : Dec prog_60_method_7_code 259 .iadd 1 260 := ⟨by decide +kernel, rfl⟩
theorem D15_260 : Dec prog_60_method_7_code 260 (.putfield 82) 3 263 := ⟨by decide +kernel, rfl⟩
theorem D15_263 : Dec prog_60_method_7_code 263 .return_ 1 264 := ⟨by decide +kernel, rfl⟩
theorem D16_0 : Dec jdk_65_method_123_code 0 (.iload_n 1) 1 1 := ⟨by decide +kernel, rfl⟩
theorem D16_1 : Dec jdk_65_method_123_code 1 (.aload_n 0) 1 2 := ⟨by decide +kernel, rfl⟩
theorem D16_2 : Dec jdk_65_method_123_code 2 .arraylength 1 3 := ⟨by decide +kernel, rfl⟩
theorem D16_3 : Jmp jdk_65_method_123_code 3 (.if_icmp .ne 11) 11 6 14 := ⟨by decide +kernel, rfl, by decide, by decide⟩
theorem D16_14 : Dec jdk_65_method_123_code 14 (.iload_n 1) 1 15 := ⟨by decide +kernel, rfl⟩
theorem D16_15 : Dec jdk_65_method_123_code 15 (.newarray .int) 2 17 := ⟨by decide +kernel, rfl⟩
theorem D16_17 : Dec jdk_65_method_123_code 17 (.astore_n 2) 1 18 := ⟨by decide +kernel, rfl⟩
theorem D16_18 : Dec jdk_65_method_123_code 18 (.aload_n 0) 1 19 := ⟨by decide +kernel, rfl⟩
theorem D16_19 : Dec jdk_65_method_123_code 19 (.iconst 0) 1 20 := ⟨by decide +kernel, rfl⟩
theorem D16_20 : Dec jdk_65_method_123_code 20 (.aload_n 2) 1 21 := ⟨by decide +kernel, rfl⟩
theorem D16_21 : Dec jdk_65_method_123_code 21 (.iconst 0) 1 22 := ⟨by decide +kernel, rfl⟩
theorem D16_22 : Dec jdk_65_method_123_code 22 (.aload_n 0) 1 23 := ⟨by decide +kernel, rfl⟩
theorem D16_23 : Dec jdk_65_method_123_code 23 .arraylength 1 24 := ⟨by decide +kernel, rfl⟩
theorem D16_24 : Dec jdk_65_method_123_code 24 (.iload_n 1) 1 25 := ⟨by decide +kernel, rfl⟩
theorem D16_25 : Dec jdk_65_method_123_code 25 (.invokestatic 304) 3 28 := ⟨by decide +kernel, rfl⟩
theorem D16_28 : Dec jdk_65_method_123_code 28 (.invokestatic 150) 3 31 := ⟨by decide +kernel, rfl⟩
theorem D16_31 : Dec jdk_65_method_123_code 31 (.aload_n 2) 1 32 := ⟨by decide +kernel, rfl⟩
theorem D16_32 : Dec jdk_65_method_123_code 32 .areturn 1 33 := ⟨by decide +kernel, rfl⟩
theorem D17_0 : Dec jdk_65_method_124_code 0 (.iload_n 1) 1 1 := ⟨by decide +kernel, rfl⟩
theorem D17_1 : Dec jdk_65_method_124_code 1 (.aload_n 0) 1 2 := ⟨by decide +kernel, rfl⟩
theorem D17_2 : Dec jdk_65_method_124_code 2 .arraylength 1 3 := ⟨by decide +kernel, rfl⟩
theorem D17_3 : Jmp jdk_65_method_124_code 3 (.if_icmp .ne 11) 11 6 14 := ⟨by decide +kernel, rfl, by decide, by decide⟩
theorem D17_14 : Dec jdk_65_method_124_code 14 (.iload_n 1) 1 15 := ⟨by decide +kernel, rfl⟩
theorem D17_15 : Dec jdk_65_method_124_code 15 (.newarray .long) 2 17 := ⟨by decide +kernel, rfl⟩
theorem D17_17 : Dec jdk_65_method_124_code 17 (.astore_n 2) 1 18 := ⟨by decide +kernel, rfl⟩
theorem D17_18 : Dec jdk_65_method_124_code 18 (.aload_n 0) 1 19 := ⟨by decide +kernel, rfl⟩
theorem D17_19 : Dec jdk_65_method_124_code 19 (.iconst 0) 1 20 := ⟨by decide +kernel, rfl⟩
theorem D17_20 : Dec jdk_65_method_124_code 20 (.aload_n 2) 1 21 := ⟨by decide +kernel, rfl⟩
theorem D17_21 : Dec jdk_65_method_124_code 21 (.iconst 0) 1 22 := ⟨by decide +kernel, rfl⟩
theorem D17_22 : Dec jdk_65_method_124_code 22 (.aload_n 0) 1 23 := ⟨by decide +kernel, rfl⟩
theorem D17_23 : Dec jdk_65_method_124_code 23 .arraylength 1 24 := ⟨by decide +kernel, rfl⟩
theorem D17_24 : Dec jdk_65_method_124_code 24 (.iload_n 1) 1 25 := ⟨by decide +kernel, rfl⟩
theorem D17_25 : Dec jdk_65_method_124_code 25 (.invokestatic 304) 3 28 := ⟨by decide +kernel, rfl⟩
theorem D17_28 : Dec jdk_65_method_124_code 28 (.invokestatic 150) 3 31 := ⟨by decide +kernel, rfl⟩
theorem D17_31 : Dec jdk_65_method_124_code 31 (.aload_n 2) 1 32 := ⟨by decide +kernel, rfl⟩
theorem D17_32 : Dec jdk_65_method_124_code 32 .areturn 1 33 := ⟨by decide +kernel, rfl⟩
theorem D18_0 : Dec jdk_29_method_66_code 0 (.lload_n 0) 1 1 := ⟨by decide +kernel, rfl⟩
theorem D18_1 : Dec jdk_29_method_66_code 1 (.lload_n 2) 1 2 := ⟨by decide +kernel, rfl⟩
theorem D18_2 : Dec jdk_29_method_66_code 2 .lcmp 1 3 := ⟨by decide +kernel, rfl⟩
theorem D18_3 : Jmp jdk_29_method_66_code 3 (.ifCond .lt 7) 7 6 10 := ⟨by decide +kernel, rfl, by decide, by decide⟩
theorem D18_6 : Dec jdk_29_method_66_code 6 (.lload_n 0) 1 7 := ⟨by decide +kernel, rfl⟩
theorem D18_7 : Jmp jdk_29_method_66_code 7 (.goto 4) 4 10 11 := ⟨by decide +kernel, rfl, by decide, by decide⟩
theorem D18_10 : Dec jdk_29_method_66_code 10 (.lload_n 2) 1 11 := ⟨by decide +kernel, rfl⟩
theorem D18_11 : Dec jdk_29_method_66_code 11 .lreturn 1 12 := ⟨by decide +kernel, rfl⟩
theorem D19_0 : Dec jdk_29_method_43_code 0 (.lload_n 0) 1 1 := ⟨by decide +kernel, rfl⟩
theorem D19_1 : Dec jdk_29_method_43_code 1 .l2i 1 2 := ⟨by decide +kernel, rfl⟩
theorem D19_2 : Dec jdk_29_method_43_code 2 .i2l 1 3 := ⟨by decide +kernel, rfl⟩
theorem D19_3 : Dec jdk_29_method_43_code 3 (.lload_n 0) 1 4 := ⟨by decide +kernel, rfl⟩
theorem D19_4 : Dec jdk_29_method_43_code 4 .lcmp 1 5 := ⟨by decide +kernel, rfl⟩
theorem D19_5 : Jmp jdk_29_method_43_code 5 (.ifCond .eq 13) 13 8 18 := ⟨by decide +kernel, rfl, by decide, by decide⟩
theorem D19_18 : Dec jdk_29_method_43_code 18 (.lload_n 0) 1 19 := ⟨by decide +kernel, rfl⟩
theorem D19_19 : Dec jdk_29_method_43_code 19 .l2i 1 20 := ⟨by decide +kernel, rfl⟩
theorem D19_20 : Dec jdk_29_method_43_code 20 .ireturn 1 21 := ⟨by decide +kernel, rfl⟩
theorem pd_0 : parseMethodDescriptor "(I)I" = some ⟨[.int], some .int⟩ := by decide +kernel
theorem pd_1 : parseMethodDescriptor "(II)I" = some ⟨[.int, .int], some .int⟩ := by decide +kernel
theorem pd_2 : parseMethodDescriptor "(I)V" = some ⟨[.int], none⟩ := by decide +kernel
theorem pd_3 : parseMethodDescriptor "([II)[I" = some ⟨[(.array .int), .int], some (.array .int)⟩ := by decide +kernel
theorem pd_4 : parseMethodDescriptor "([JI)[J" = some ⟨[(.array .long), .int], some (.array .long)⟩ := by decide +kernel
theorem pd_5 : parseMethodDescriptor "(II)V" = some ⟨[.int, .int], none⟩ := by decide +kernel
theorem pd_6 : parseMethodDescriptor "(JJ)J" = some ⟨[.long, .long], some .long⟩ := by decide +kernel
theorem pd_7 : parseMethodDescriptor "(J)I" = some ⟨[.long], some .int⟩ := by decide +kernel
theorem pd_8 : parseMethodDescriptor "([II)V" = some ⟨[(.array .int), .int], none⟩ := by decide +kernel
theorem pd_9 : parseMethodDescriptor "(III)V" = some ⟨[.int, .int, .int], none⟩ := by decide +kernel
theorem pd_10 : parseMethodDescriptor "([JIIJ)V" = some ⟨[(.array .long), .int, .int, .long], none⟩ := by decide +kernel
theorem pd_11 : parseMethodDescriptor "([I)V" = some ⟨[(.array .int)], none⟩ := by decide +kernel
theorem pd_12 : parseMethodDescriptor "([I[J)Z" = some ⟨[(.array .int), (.array .long)], some .boolean⟩ := by decide +kernel
theorem pd_13 : parseMethodDescriptor "([J[JI)V" = some ⟨[(.array .long), (.array .long), .int], none⟩ := by decide +kernel
theorem pd_14 : parseMethodDescriptor "([JI[I)V" = some ⟨[(.array .long), .int, (.array .int)], none⟩ := by decide +kernel
section OwnNums
theorem n_bv (a : Nat) : (Int32.ofNat a).toBitVec = BitVec.ofNat 32 a := rfl
theorem eq_mod {x y : Int32} (h : (x.toInt - y.toInt) % 4294967296 = 0) : x = y := Int32.toInt_inj.mp (by have := rng32 x; have := rng32 y; omega)
theorem eq_modL {x y : Int64} (h : (x.toInt - y.toInt) % 18446744073709551616 = 0) : x = y := Int64.toInt_inj.mp (by have := rng64 x; have := rng64 y; omega)
theorem n_add (a b : Nat) : Int32.ofNat a + Int32.ofNat b = Int32.ofNat (a + b) := (Int32.ofNat_add a b).symm
theorem n_mul (a b : Nat) : Int32.ofNat a * Int32.ofNat b = Int32.ofNat (a * b) := (Int32.ofNat_mul a b).symm
theorem n_sub {a b : Nat} (h : b ≤ a) : Int32.ofNat a - Int32.ofNat b = Int32.ofNat (a - b) := by
  have := n_add (a - b) b
  rw [Nat.sub_add_cancel h] at this
  rw [← this, Int32.add_sub_cancel]
theorem n_and (a b : Nat) : Int32.ofNat a &&& Int32.ofNat b = Int32.ofNat (a &&& b) := by
  apply Int32.toBitVec_inj.mp
  rw [Int32.toBitVec_and, n_bv, n_bv, n_bv]
  exact BitVec.ofNat_and.symm
theorem n_or (a b : Nat) : Int32.ofNat a ||| Int32.ofNat b = Int32.ofNat (a ||| b) := by
  apply Int32.toBitVec_inj.mp
  rw [Int32.toBitVec_or, n_bv, n_bv, n_bv]
  exact BitVec.ofNat_or.symm
theorem n_q {k : Nat} (hk : k < 32) : (Int32.ofNat k).toBitVec.toNat % 32 = k := by
  rw [n_bv, BitVec.toNat_ofNat]; omega
theorem n_q64 {k : Nat} (hk : k < 64) : (Int32.ofNat k).toBitVec.toNat % 64 = k := by
  rw [n_bv, BitVec.toNat_ofNat]; omega
theorem toInt_mod (a : Nat) : ((Int32.ofNat a).toInt - a) % 4294967296 = 0 := by
  have h := bm32 (((BitVec.ofNat 32 a).toNat : Nat) : Int)
  rw [show (Int32.ofNat a).toInt = (BitVec.ofNat 32 a).toInt from rfl, BitVec.toInt_eq_toNat_bmod]
  rw [BitVec.toNat_ofNat] at *
  generalize Int.bmod ((a % 2 ^ 32 : Nat) : Int) (2 ^ 32) = w1 at *
  omega
theorem n_inj {a b : Nat} (ha : a < 2147483648) (hb : b < 2147483648) : Int32.ofNat a = Int32.ofNat b ↔ a = b := ⟨fun h => by have := congrArg Int32.toInt h; rw [ofNat_toInt ha, ofNat_toInt hb] at this; omega, fun h => by rw [h]⟩
theorem n_shl (a : Nat) {k : Nat} (hk : k < 32) : jshl (Int32.ofNat a) (Int32.ofNat k) = Int32.ofNat (a * 2 ^ k) := by
  apply eq_mod
  have h1 : ((jshl (Int32.ofNat a) (Int32.ofNat k)).toInt - (Int32.ofNat a).toInt * ((2 ^ k : Nat) : Int)) % 4294967296 = 0 := c_ishl (Int32.ofNat a) (Int32.ofNat k) k (n_q hk)
  generalize (jshl (Int32.ofNat a) (Int32.ofNat k)).toInt = w1 at *
  have h2 := toInt_mod (a * 2 ^ k)
  have h3 := toInt_mod a
  obtain ⟨q, hq⟩ := Int.dvd_of_emod_eq_zero h3
  have h4 : (Int32.ofNat a).toInt * ((2 ^ k : Nat) : Int) - ((a * 2 ^ k : Nat) : Int) = 4294967296 * (q * ((2 ^ k : Nat) : Int)) := by
    rw [Int.natCast_mul, ← Int.sub_mul, hq, Int.mul_assoc]
  omega
theorem n_ushr0 (x : Int32) : jushr x 0 = x := by
  apply Int32.toBitVec_inj.mp
  simp [jushr]
theorem n_ushr {a k : Nat} (ha : a < 2147483648) (hk : k < 32) : jushr (Int32.ofNat a) (Int32.ofNat k) = Int32.ofNat (a / 2 ^ k) := by
  rcases Nat.eq_zero_or_pos k with rfl | h0
  · rw [Nat.pow_zero, Nat.div_one]; exact n_ushr0 _
  · have hd : a / 2 ^ k ≤ a := Nat.div_le_self _ _
    refine eq_ofNat (by omega) ?_
    rw [c_iushr (Int32.ofNat a) (Int32.ofNat k) k (n_q hk) h0, ofNat_toInt ha, show ((a : Int) % 4294967296) = a by omega]
    exact (Int.natCast_ediv _ _).symm
theorem n_shr {a k : Nat} (ha : a < 2147483648) (hk : k < 32) : jshr (Int32.ofNat a) (Int32.ofNat k) = Int32.ofNat (a / 2 ^ k) := by
  have hd : a / 2 ^ k ≤ a := Nat.div_le_self _ _
  refine eq_ofNat (by omega) ?_
  rw [c_ishr (Int32.ofNat a) (Int32.ofNat k) k (n_q hk), ofNat_toInt ha]
  exact (Int.natCast_ediv _ _).symm
theorem n_low (a k : Nat) : Int32.ofNat a &&& Int32.ofNat (2 ^ k - 1) = Int32.ofNat (a % 2 ^ k) := by rw [n_and, Nat.and_two_pow_sub_one_eq_mod]
theorem n_orlow (a : Nat) {i t : Nat} (ht : t < 2 ^ i) : Int32.ofNat (2 ^ i * a) ||| Int32.ofNat t = Int32.ofNat (2 ^ i * a + t) := by rw [n_or, Nat.two_pow_add_eq_or_of_lt ht]
theorem n_rem {a k : Nat} (ha : a < 2147483648) (h1 : 0 < k) (hk : k < 2147483648) : Int32.ofNat a % Int32.ofNat k = Int32.ofNat (a % k) := by
  have hm := Nat.mod_lt a h1
  refine eq_ofNat (by omega) ?_
  rw [(c_irem (Int32.ofNat a) (Int32.ofNat k) k (ofNat_toInt hk)).1 (by rw [ofNat_toInt ha]; omega), ofNat_toInt ha]
  exact (Int.natCast_emod _ _).symm
theorem n_nn (x : Int32) (h : 0 ≤ x.toInt) : ∃ u : Nat, u < 2147483648 ∧ x = Int32.ofNat u := by
  have := rng32 x
  exact ⟨x.toInt.toNat, by omega, eq_ofNat (by omega) (by omega)⟩
theorem n_mask31 (x : Int32) : ∃ u : Nat, u < 2147483648 ∧ x &&& 2147483647 = Int32.ofNat u := n_nn _ (c_and x 2147483647 (by decide)).1
theorem n_mask (x : Int32) (k : Nat) (hk : k ≤ 31) {m : Int32} (hm : m.toBitVec.toNat = 2 ^ k - 1) : x &&& m = Int32.ofNat ((x.toInt % (2 ^ k : Nat)).toNat) := by
  have h1 : (0 : Int) < ((2 ^ k : Nat) : Int) := by
    have := Nat.two_pow_pos k
    omega
  have h2 : ((2 ^ k : Nat) : Int) ≤ 2147483648 := by
    have : 2 ^ k ≤ 2147483648 := Nat.pow_le_pow_right (n := 2) (by decide) hk
    omega
  have h3 := Int.emod_nonneg x.toInt (Int.ne_of_gt h1)
  have h4 := Int.emod_lt_of_pos x.toInt h1
  exact eq_ofNat (by omega) (by rw [c_mask x m k hk hm]; omega)
theorem jbyte_idem (x : Int32) : jbyte (jbyte x) = jbyte x := by
  have h1 := c_i2b x
  have h2 := c_i2b (jbyte x)
  exact Int32.toInt_inj.mp (by simp only [jbyte] at *; omega)
theorem jbyte_and (x : Int32) (k : Nat) (hk : k ≤ 8) {m : Int32} (hm : m.toBitVec.toNat = 2 ^ k - 1) : jbyte x &&& m = x &&& m := by
  have h1 := (c_i2b x).1
  apply Int32.toInt_inj.mp
  rw [c_mask _ m k (by omega) hm, c_mask _ m k (by omega) hm]
  have : ∃ c : Nat, 256 = 2 ^ k * c := ⟨2 ^ (8 - k), by rw [← Nat.pow_add, show k + (8 - k) = 8 by omega]⟩
  obtain ⟨c, hc⟩ := this
  obtain ⟨q, hq⟩ := Int.dvd_of_emod_eq_zero h1
  have h2 : (jbyte x).toInt = x.toInt + ((2 ^ k : Nat) : Int) * ((c : Int) * q) := by
    have h3 : (256 : Int) = ((2 ^ k : Nat) : Int) * (c : Int) := by rw [← Int.natCast_mul, ← hc]; rfl
    rw [h3, Int.mul_assoc] at hq
    simp only [jbyte]; omega
  rw [h2, Int.add_mul_emod_self_left]
end OwnNums
section OwnNumsL
theorem nl_bv (a : Nat) : (Int64.ofNat a).toBitVec = BitVec.ofNat 64 a := rfl
theorem ofNatL_toInt {n : Nat} (h : n < 9223372036854775808) : (Int64.ofNat n).toInt = n := Int64.toInt_ofNat_of_lt (by omega)
theorem eq_ofNatL {x : Int64} {n : Nat} (hn : n < 9223372036854775808) (h : x.toInt = n) : x = Int64.ofNat n := Int64.toInt_inj.mp (by rw [h, ofNatL_toInt hn])
theorem nL_add (a b : Nat) : Int64.ofNat a + Int64.ofNat b = Int64.ofNat (a + b) := (Int64.ofNat_add a b).symm
theorem nL_mul (a b : Nat) : Int64.ofNat a * Int64.ofNat b = Int64.ofNat (a * b) := (Int64.ofNat_mul a b).symm
theorem nL_sub {a b : Nat} (h : b ≤ a) : Int64.ofNat a - Int64.ofNat b = Int64.ofNat (a - b) := by
  have := nL_add (a - b) b
  rw [Nat.sub_add_cancel h] at this
  rw [← this, Int64.add_sub_cancel]
theorem nL_and (a b : Nat) : Int64.ofNat a &&& Int64.ofNat b = Int64.ofNat (a &&& b) := by
  apply Int64.toBitVec_inj.mp
  rw [Int64.toBitVec_and, nl_bv, nl_bv, nl_bv]
  exact BitVec.ofNat_and.symm
theorem nL_or (a b : Nat) : Int64.ofNat a ||| Int64.ofNat b = Int64.ofNat (a ||| b) := by
  apply Int64.toBitVec_inj.mp
  rw [Int64.toBitVec_or, nl_bv, nl_bv, nl_bv]
  exact BitVec.ofNat_or.symm
theorem nL_inj {a b : Nat} (ha : a < 9223372036854775808) (hb : b < 9223372036854775808) : Int64.ofNat a = Int64.ofNat b ↔ a = b := ⟨fun h => by have := congrArg Int64.toInt h; rw [ofNatL_toInt ha, ofNatL_toInt hb] at this; omega, fun h => by rw [h]⟩
theorem nL_lt {a b : Nat} (ha : a < 9223372036854775808) (hb : b < 9223372036854775808) : Int64.ofNat a < Int64.ofNat b ↔ a < b := by rw [Int64.lt_iff_toInt_lt, ofNatL_toInt ha, ofNatL_toInt hb]; omega
theorem toInt_modL (a : Nat) : ((Int64.ofNat a).toInt - a) % 18446744073709551616 = 0 := by
  have h := bm64 (((BitVec.ofNat 64 a).toNat : Nat) : Int)
  rw [show (Int64.ofNat a).toInt = (BitVec.ofNat 64 a).toInt from rfl, BitVec.toInt_eq_toNat_bmod]
  rw [BitVec.toNat_ofNat] at *
  generalize Int.bmod ((a % 2 ^ 64 : Nat) : Int) (2 ^ 64) = w1 at *
  omega
theorem nL_shl (a : Nat) {k : Nat} (hk : k < 64) : jshlL (Int64.ofNat a) (Int32.ofNat k) = Int64.ofNat (a * 2 ^ k) := by
  apply eq_modL
  have h1 : ((jshlL (Int64.ofNat a) (Int32.ofNat k)).toInt - (Int64.ofNat a).toInt * ((2 ^ k : Nat) : Int)) % 18446744073709551616 = 0 := c_lshl (Int64.ofNat a) (Int32.ofNat k) k (n_q64 hk)
  generalize (jshlL (Int64.ofNat a) (Int32.ofNat k)).toInt = w1 at *
  have h2 := toInt_modL (a * 2 ^ k)
  have h3 := toInt_modL a
  obtain ⟨q, hq⟩ := Int.dvd_of_emod_eq_zero h3
  have h4 : (Int64.ofNat a).toInt * ((2 ^ k : Nat) : Int) - ((a * 2 ^ k : Nat) : Int) = 18446744073709551616 * (q * ((2 ^ k : Nat) : Int)) := by
    rw [Int.natCast_mul, ← Int.sub_mul, hq, Int.mul_assoc]
  omega
theorem nL_ushr0 (x : Int64) : jushrL x 0 = x := by
  apply Int64.toBitVec_inj.mp
  simp [jushrL]
theorem nL_ushr {a k : Nat} (ha : a < 9223372036854775808) (hk : k < 64) : jushrL (Int64.ofNat a) (Int32.ofNat k) = Int64.ofNat (a / 2 ^ k) := by
  rcases Nat.eq_zero_or_pos k with rfl | h0
  · rw [Nat.pow_zero, Nat.div_one]; exact nL_ushr0 _
  · have hd : a / 2 ^ k ≤ a := Nat.div_le_self _ _
    refine eq_ofNatL (by omega) ?_
    rw [c_lushr (Int64.ofNat a) (Int32.ofNat k) k (n_q64 hk) h0, ofNatL_toInt ha, show ((a : Int) % 18446744073709551616) = a by omega]
    exact (Int.natCast_ediv _ _).symm
theorem nL_low (a k : Nat) : Int64.ofNat a &&& Int64.ofNat (2 ^ k - 1) = Int64.ofNat (a % 2 ^ k) := by rw [nL_and, Nat.and_two_pow_sub_one_eq_mod]
theorem nL_orlow (a : Nat) {i t : Nat} (ht : t < 2 ^ i) : Int64.ofNat (2 ^ i * a) ||| Int64.ofNat t = Int64.ofNat (2 ^ i * a + t) := by rw [nL_or, Nat.two_pow_add_eq_or_of_lt ht]
theorem n_i2l {a : Nat} (h : a < 2147483648) : (Int32.ofNat a).toInt64 = Int64.ofNat a := eq_ofNatL (by omega) (by rw [c_i2l, ofNat_toInt h])
theorem n_l2i (a : Nat) : (Int64.ofNat a).toInt32 = Int32.ofNat a := by
  apply eq_mod
  have h1 := c_l2i (Int64.ofNat a)
  have h2 := toInt_modL a
  have h3 := toInt_mod a
  omega
theorem nL_nn (x : Int64) (h : 0 ≤ x.toInt) : ∃ u : Nat, u < 9223372036854775808 ∧ x = Int64.ofNat u := by
  have := rng64 x
  exact ⟨x.toInt.toNat, by omega, eq_ofNatL (by omega) (by omega)⟩
end OwnNumsL
section OwnTwo
variable {Z : State} {a0 : Array Value} {n0 : Nat} {p : Program} {l : Launch} {e : Env} {R : Room} {s : State} {m : MethodId} {args : Array Value} {below : List Frame} {meth : Method} {c : Code} {code : ByteArray} {ml : Nat} {ret : Option FieldType} {y : MethodName} {T : State} {h h' : Heap} {k j : Nat} {Q : Option Value → Heap → Prop} {pc nx tgt : Nat} {Ls : Array Slot} {S : List Value} {t0 : FieldType}
/-- an array: its address, its kind, its length, its values -/
abbrev Ent := Addr × FieldType × Nat × (Nat → Value)
/-- a list of arrays, no two of them at one address -/
def Mem (Z : State) (n0 : Nat) (h : Heap) (L : List Ent) : Prop :=
  (∀ (i : Nat) (a : Addr) (ty : FieldType) (n : Nat) (g : Nat → Value), L[i]? = some (a, ty, n, g) → Ba Z n0 h a ty n g) ∧ ∀ (i q : Nat) (x z : Ent), L[i]? = some x → L[q]? = some z → i ≠ q → x.1 ≠ z.1
theorem Mem.at {L : List Ent} (M : Mem Z n0 h L) (i : Nat) {a : Addr} {ty : FieldType} {n : Nat} {g : Nat → Value} (e : L[i]? = some (a, ty, n, g)) : Ba Z n0 h a ty n g := M.1 i a ty n g e
theorem Mem.ne {L : List Ent} (M : Mem Z n0 h L) (i q : Nat) {a b : Addr} {ty ty' : FieldType} {n n' : Nat} {g g' : Nat → Value} (e : L[i]? = some (a, ty, n, g)) (e' : L[q]? = some (b, ty', n', g')) (hne : i ≠ q) : a ≠ b := M.2 i q _ _ e e' hne
theorem Mem.ext {L : List Ent} (M : Mem Z n0 h L) (E : Ext h h') : Mem Z n0 h' L := ⟨fun i a ty n g e => (M.1 i a ty n g e).ext E, M.2⟩
theorem set_some {α : Type} {L : List α} {k i : Nat} {x z : α} (e : (L.set k x)[i]? = some z) : (i = k ∧ z = x ∧ k < L.length) ∨ (i ≠ k ∧ L[i]? = some z) := by
  by_cases hik : i = k
  · subst hik
    rw [List.getElem?_set_self'] at e
    cases hq : L[i]? with
    | none => rw [hq] at e; cases e
    | some w =>
      rw [hq] at e
      have := (List.getElem?_eq_some_iff.mp hq).1
      cases e
      exact Or.inl ⟨rfl, rfl, this⟩
  · rw [List.getElem?_set_ne (Ne.symm hik)] at e
    exact Or.inr ⟨hik, e⟩
theorem Mem.st {L : List Ent} (M : Mem Z n0 h L) (k : Nat) {a : Addr} {ty : FieldType} {n : Nat} {g g' : Nat → Value} (e : L[k]? = some (a, ty, n, g)) (K : Keep h h' [a]) (B : Ba Z n0 h' a ty n g') : Mem Z n0 h' (L.set k (a, ty, n, g')) := by
  refine ⟨fun i a' ty' n' g'' q => ?_, fun i q x z hx hz hne => ?_⟩
  · rcases set_some q with ⟨rfl, q2, -⟩ | ⟨q1, q2⟩
    · cases q2; exact B
    · exact (M.1 i _ _ _ _ q2).keep K (ninS (M.2 i k _ _ q2 e q1) nin0)
  · rcases set_some hx with ⟨rfl, hx', -⟩ | ⟨q1, hx'⟩ <;> rcases set_some hz with ⟨rfl, hz', -⟩ | ⟨q2, hz'⟩
    · exact absurd rfl hne
    · subst hx'; have w := M.2 i q _ _ e hz' hne; exact w
    · subst hz'; have w := M.2 i q _ _ hx' e hne; exact w
    · exact M.2 i q _ _ hx' hz' hne
/-- a new array in the place of an elder one -/
theorem Mem.rep {L : List Ent} (M : Mem Z n0 h L) (k : Nat) {a : Addr} {ty : FieldType} {n : Nat} {g : Nat → Value} (E : Ext h h') (ha : h.size ≤ a) (B : Ba Z n0 h' a ty n g) : Mem Z n0 h' (L.set k (a, ty, n, g)) := by
  have old : ∀ i (x : Ent), L[i]? = some x → x.1 ≠ a := fun i x hx => by
    obtain ⟨b, tb, nb, gb⟩ := x
    exact Nat.ne_of_lt (Nat.lt_of_lt_of_le (M.1 i _ _ _ _ hx).lt ha)
  refine ⟨fun i a' ty' n' g'' q => ?_, fun i q x z hx hz hne => ?_⟩
  · rcases set_some q with ⟨rfl, q2, -⟩ | ⟨q1, q2⟩
    · cases q2; exact B
    · exact (M.1 i _ _ _ _ q2).ext E
  · rcases set_some hx with ⟨rfl, hx', -⟩ | ⟨q1, hx'⟩ <;> rcases set_some hz with ⟨rfl, hz', -⟩ | ⟨q2, hz'⟩
    · exact absurd rfl hne
    · subst hx'; exact Ne.symm (old q _ hz')
    · subst hz'; exact old i _ hx'
    · exact M.2 i q _ _ hx' hz' hne
theorem Mem.cons {L : List Ent} (M : Mem Z n0 h L) {a : Addr} {ty : FieldType} {n : Nat} {g : Nat → Value} (E : Ext h h') (ha : h.size ≤ a) (B : Ba Z n0 h' a ty n g) : Mem Z n0 h' ((a, ty, n, g) :: L) := by
  have old : ∀ i (x : Ent), L[i]? = some x → x.1 ≠ a := fun i x hx => by
    obtain ⟨b, tb, nb, gb⟩ := x
    exact Nat.ne_of_lt (Nat.lt_of_lt_of_le (M.1 i _ _ _ _ hx).lt ha)
  refine ⟨fun i a' ty' n' g'' q => ?_, fun i q x z hx hz hne => ?_⟩
  · cases i with
    | zero => cases q; exact B
    | succ i => exact (M.1 i _ _ _ _ q).ext E
  · cases i with
    | zero =>
      cases q with
      | zero => exact absurd rfl hne
      | succ q => cases hx; exact Ne.symm (old q _ hz)
    | succ i =>
      cases q with
      | zero => cases hz; exact old i _ hx
      | succ q => exact M.2 i q _ _ hx hz (fun z => hne (by rw [z]))
theorem Mem.nil : Mem Z n0 h [] := ⟨fun i a ty n g e => by simp at e, fun i q x z e => by simp at e⟩
theorem Mem.keep0 {L : List Ent} (M : Mem Z n0 h L) (K : Keep h h' []) : Mem Z n0 h' L := ⟨fun i a ty n g e => (M.1 i a ty n g e).keep K nin0, M.2⟩
theorem Ext.keep1 {h1 : Heap} {a : Addr} (E : Ext h h1) (K : Keep h1 h' [a]) (ha : h.size ≤ a) : Ext h h' := ⟨Nat.le_trans E.1 K.1, fun x c q => K.2.1 x c (E.2 x c q) (ninS (Nat.ne_of_lt (Nat.lt_of_lt_of_le (Array.getElem?_eq_some_iff.mp q).1 ha)) nin0)⟩
/-- naturals in an array of ints | one less | masks -/
def nI (f : Nat → Nat) : Nat → Int32 := fun i => Int32.ofNat (f i)
def xI (f : Nat → Nat) : Nat → Int32 := fun i => Int32.ofNat (f i) - 1
def mJ (f : Nat → Nat) : Nat → Int64 := fun i => Int64.ofNat (2 ^ f i - 1)
def nJ (f : Nat → Nat) : Nat → Int64 := fun i => Int64.ofNat (f i)
theorem upd_nI (f : Nat → Nat) (i x : Nat) : upd (nI f) i (Int32.ofNat x) = nI (upd f i x) := funext fun q => by simp only [upd, nI]; split <;> rfl
theorem upd_xI (f : Nat → Nat) (i x : Nat) : upd (xI f) i (Int32.ofNat x - 1) = xI (upd f i x) := funext fun q => by simp only [upd, xI]; split <;> rfl
theorem upd_mJ (f : Nat → Nat) (i x : Nat) : upd (mJ f) i (Int64.ofNat (2 ^ x - 1)) = mJ (upd f i x) := funext fun q => by simp only [upd, mJ]; split <;> rfl
theorem upd_nJ (f : Nat → Nat) (i x : Nat) : upd (nJ f) i (Int64.ofNat x) = nJ (upd f i x) := funext fun q => by simp only [upd, nJ]; split <;> rfl
theorem w_areturn (X : Pos Z a0 n0 p l e R s m args below meth c code ml (some (.array t0)) y T h k j) {v : Value} (hv : v.isRef = true) (hd : Dec code pc .areturn 1 nx) (hk : k ≤ R.cells) (hj : j ≤ R.slots) (hq : Q (some v) h) : Wp n0 p e R s below Q T (mkF m pc Ls [v]) := by
  obtain ⟨hx, hZ, hby, hml, hret, hown, hnm, hlk, eT, hn0, hw, locs, N, Y⟩ := X
  obtain ⟨hd, -⟩ := hd
  obtain ⟨fs, hr, hrun, hended, hW, hsame⟩ := Y.leave (v := some v) (fun h => by rw [hret] at h; cases h) hlk
  exact ⟨_, _, Y.areturnOut hx hv hret rfl (hb hby hd) hr, hrun, hended, _, _, rfl, ⟨N, by show n0 ≤ T.heap.size; rw [eT]; exact hn0, by show Q _ T.heap; rw [eT]; exact hq⟩, ⟨_, rfl⟩, hW, hsame.mono hk hj⟩
theorem w_private (X : Pos Z a0 n0 p l e R s m args below meth c code ml ret y T h k j) {z z0 : MethodName} {cz : ByteArray} {mz : Nat} {rz : Option FieldType} {rm : Room} {Qz : Option Value → Heap → Prop} {ps : List FieldType} {rr : Option FieldType} {i : Nat} {argsL : List Value} {a : Addr} (hd : Dec code pc (.invokevirtual i) 3 nx) (C : Ctr l Z n0 z cz mz rz rm [] (.ref a :: argsL).toArray h Qz) {K : String} (E : Exa Z h a K) (wl : (Jvm.Cond.methodLink y.cls i z).before a0 Z = true) (wim : (Jvm.Cond.instanceMethod z).before a0 Z = true) (wpr : (Jvm.Cond.privateMethod z).before a0 Z = true) (wse : (Jvm.Cond.selects z0.cls z0 z0).before a0 Z = true) (h0 : z0.cls = z.cls) (wi : (Jvm.Cond.initialized z.cls).before a0 Z = true) (wc : (Jvm.Cond.code z cz mz rz).before a0 Z = true)
    (hz : z.cls ≠ "java/lang/invoke/MethodHandle" ∧ z.cls ≠ "java/lang/invoke/VarHandle") (hpd : parseMethodDescriptor z.desc = some ⟨ps, rr⟩) (hlen : argsL.length = ps.length) {S0 : List Value} (hS : S0 = argsL.reverse ++ .ref a :: S) (hsz : Ls.size = ml)
    (hf : rm.frames + 1 ≤ R.frames) (hlo : (S.map fun v => v.category).sum + (mz + 11) + rm.locals ≤ R.locals) (hk : k + rm.cells ≤ R.cells) (hj : j + rm.slots ≤ R.slots)
    (q : ∀ v T' h', Pos Z a0 n0 p l e R s m args below meth c code ml ret y T' h' (k + rm.cells) (j + rm.slots) → Qz v h' → Wp n0 p e R s below Q T' (mkF m nx Ls (v.toList ++ S))) : Wp n0 p e R s below Q T (mkF m pc Ls S0) := by
  obtain ⟨hx, hZ, hby, hml, hret, hown, hnm, hlk, eT, hn0, hw, locs, N, Y⟩ := X
  obtain ⟨hd, rfl⟩ := hd
  have Ctr' := backOf (l := l) (R := R) (p := p) (e := e) (below := below) (s := s) (args := args) (len := 3) (W := (S.map fun v => v.category).sum) (Q := fun v h L => Fr n0 L ∧ n0 ≤ h.size ∧ Qz v h) C hZ wc wi hf hlo
  obtain ⟨c2, r2, m2, -, -, q3, -, kP, hkP, hkPi⟩ := Cond.selects_spec (mvT (args := args) hZ wse)
  have hfc := findClass_of_methodNamed q3
  rw [h0] at hfc
  have hpr : s.PrivateAt z := Cond.privateMethod_at (mvP (args := args) hZ wpr)
  have hse := selects_self_of_private hfc hkP hkPi hpr (mvT (args := args) hZ wim) hz
  obtain ⟨cell, hcell, hobj⟩ := Exa.cell E
  obtain ⟨v, _, ⟨T', L', k', j'⟩, -, Y', ⟨Lc, hQ, l1, l2, l3⟩, st⟩ := Y.privateBack hx (y := z) hown (mvT hZ wl) (mvT hZ wim) hse hpr (mvT hZ wc) hz Ctr' (g := mkF m pc Ls S0) rfl (by rw [hml]; exact hsz) (Steps.refl _) (a := a) (by rw [eT]; exact hcell) hobj (argsL := argsL) (rest := S) (lenOf hpd hlen) hS (by show 2 * 0 + _ ≤ _; omega) (hb hby hd) (fun _ _ => ⟨rfl, eT, hk, hj⟩)
  dsimp only [Pt.U, Pt.locs, Pt.cells, Pt.slots] at Y' l1 l2 l3 st hQ
  subst l1 l2 l3
  obtain ⟨N', hn', hQ⟩ := hQ
  exact Wp.go (fun _ t => st.trans t) (q v T' _ ⟨hx, hZ, hby, hml, hret, hown, hnm, hlk, rfl, hn', hw, _, Fr.app N N', Y'⟩ hQ)
theorem arv_of {a : Addr} {ty : FieldType} {n : Nat} {g : Nat → Value} (B : Ba Z n0 h a ty n g) (hf : ∀ i, i < n → fits ty (g i) = true) (d : Value) : ∃ kc, Arv Z h a kc ty (Int32.ofNat n) ((List.range n).map g) d := by
  obtain ⟨h1, h2, cl, A, hs, hv⟩ := B
  have hg : ∀ i, i < n → ((List.range n).map g).getD i d = g i := fun i hi => by simp [List.getD_eq_getElem?_getD, hi]
  refine ⟨cl.cls, cl, A, rfl, by rw [hs, ofNat_clamp h2], ofNat_nn h2, fun i hi => ?_, fun i hi => ?_⟩
  · rw [hs] at hi; rw [hv i hi, hg i hi]
  · rw [hs] at hi; rw [hg i hi]; exact hf i hi
theorem w_arraycopy (X : Pos Z a0 n0 p l e R s m args below meth c code ml ret y T h k j) {i : Nat} {a b : Addr} {ty : FieldType} {n n' cnt : Nat} {g g' : Nat → Value} (hd : Dec code pc (.invokestatic i) 3 nx) (w1 : (Jvm.Cond.methodLink y.cls i Jvm.Stand.acN).before a0 Z = true) (w2 : (Jvm.Cond.native Jvm.Stand.acN).before a0 Z = true) (w3 : (Jvm.Cond.static Jvm.Stand.acN).before a0 Z = true) (w4 : (Jvm.Cond.initialized "java/lang/System").before a0 Z = true)
    (A : Ba Z n0 h a ty n g) (B : Ba Z n0 h b ty n' g') (hty : refKind ty = false) (hfa : ∀ i, i < n → fits ty (g i) = true) (hfb : ∀ i, i < n' → fits ty (g' i) = true) (hc1 : cnt ≤ n) (hc2 : cnt ≤ n') (hsz : Ls.size = ml) (hf : 1 ≤ R.frames) (hlo : (S.map fun v => v.category).sum + (nativeFrameWords "java/lang/System" "arraycopy" 5 + 11) ≤ R.locals)
    (q : ∀ T' h', Pos Z a0 n0 p l e R s m args below meth c code ml ret y T' h' k j → Keep h h' [b] → Ba Z n0 h' b ty n' (fun i => if i < cnt then g i else g' i) → Wp n0 p e R s below Q T' (mkF m nx Ls S)) : Wp n0 p e R s below Q T (mkF m pc Ls (.int (Int32.ofNat cnt) :: .int 0 :: .ref b :: .int 0 :: .ref a :: S)) := by
  obtain ⟨hx, hZ, hby, hml, hret, hown, hnm, hlk, eT, hn0, hw, locs, N, Y⟩ := X
  obtain ⟨hd, rfl⟩ := hd
  have hn1 := A.2.1
  have hn2 := B.2.1
  have hb0 := B.1
  obtain ⟨ka, VA⟩ := arv_of A hfa (.int 0)
  obtain ⟨kb, VB⟩ := arv_of B hfb (.int 0)
  have z0 : (0 : Int32).toNatClampNeg = 0 := rfl
  obtain ⟨T', h', L', Y', e', N', K', V', st⟩ := cpA Y hx hZ hown w1 w2 w3 w4 eT VA VB (sp := 0) (dp := 0) (nn := Int32.ofNat cnt) (Or.inl ⟨rfl, hty⟩) (by decide) (by decide) (ofNat_nn (by omega)) (by rw [z0, ofNat_clamp (by omega), ofNat_clamp (by omega)]; omega) (by rw [z0, ofNat_clamp (by omega), ofNat_clamp (by omega)]; omega) rfl (by rw [z0, ofNat_clamp (by omega), List.length_map, List.length_range]; omega) N hb0 (g := mkF m pc Ls (.int (Int32.ofNat cnt) :: .int 0 :: .ref b :: .int 0 :: .ref a :: S)) rfl (by rw [hml]; exact hsz) rfl (hb hby hd) hf (W := (S.map fun v => v.category).sum) (by show 2 * 0 + _ ≤ _; omega) hlo
  refine Wp.go st (q T' h' ⟨hx, hZ, hby, hml, hret, hown, hnm, hlk, e', Nat.le_trans hn0 K'.1, hw, _, N', Y'⟩ K' ?_)
  obtain ⟨cl, Ar, -, S', -, H, -⟩ := V'
  rw [ofNat_clamp (by omega)] at S'
  refine ⟨hb0, hn2, cl, Ar, S', fun q hq => ?_⟩
  have := H q (by rw [S']; exact hq)
  rw [this, z0, ofNat_clamp (by omega)]
  congr 1
  simp only [List.take_zero, List.nil_append, Nat.zero_add]
  by_cases hqc : q < cnt
  · rw [if_pos hqc]
    simp [List.getD_eq_getElem?_getD, List.getElem?_append, hqc, show q < n by omega]
  · rw [if_neg hqc]
    simp [List.getD_eq_getElem?_getD, List.getElem?_append, hqc, show cnt + (q - cnt) = q by omega, hq]
end OwnTwo
-- CUT
/-- the bits that a count needs, one at least -/
def bt (u : Nat) : Nat := max 1 (if u = 0 then 0 else u.log2 + 1)
theorem bt_spec (u : Nat) (hu : u < 2147483648) : 1 ≤ bt u ∧ bt u ≤ 31 ∧ u < 2 ^ bt u ∧ (bt u = 1 ∨ 2 ^ (bt u - 1) ≤ u) := by
  unfold bt
  by_cases h : u = 0
  · rw [if_pos h, h]; decide
  · rw [if_neg h]
    have h1 := (Nat.log2_lt h (k := 31)).mpr hu
    rw [Nat.max_eq_right (by omega)]
    exact ⟨by omega, by omega, Nat.lt_log2_self, Or.inr (by rw [Nat.add_sub_cancel]; exact Nat.log2_self_le h)⟩
theorem own_uniq {u bl t : Nat} (h1 : u < 2 ^ bl) (h2 : bl = 0 ∨ 2 ^ (bl - 1) ≤ u) (h3 : 2 ^ t ≤ u) (h4 : u < 2 ^ (t + 1)) : bl = t + 1 := by
  have a1 : t < bl := (Nat.pow_lt_pow_iff_right (a := 2) (by decide)).mp (Nat.lt_of_le_of_lt h3 h1)
  rcases h2 with h2 | h2
  · omega
  · have a2 : bl - 1 < t + 1 := (Nat.pow_lt_pow_iff_right (a := 2) (by decide)).mp (Nat.lt_of_le_of_lt h2 h4)
    omega
/-- where a field of b bits is put -/
def plc (en b : Nat) : Nat := if 64 < en % 64 + b then en + (64 - en % 64) else en
theorem plc_spec (en b : Nat) (h0 : 1 ≤ b) (hb : b ≤ 31) : en ≤ plc en b ∧ plc en b % 64 + b ≤ 64 ∧ plc en b + b ≤ en + 2 * b := by
  unfold plc; split <;> omega
theorem nL_div {a k : Nat} (ha : a < 9223372036854775808) (h1 : 1 < k) (hk : k < 9223372036854775808) : Int64.ofNat a / Int64.ofNat k = Int64.ofNat (a / k) := by
  have hd : a / k ≤ a := Nat.div_le_self _ _
  refine eq_ofNatL (by omega) ?_
  rw [(c_ldiv (Int64.ofNat a) (Int64.ofNat k) k (ofNatL_toInt hk) (fun q => by have := congrArg Int64.toInt q; rw [ofNatL_toInt hk, show (-1 : Int64).toInt = -1 from rfl] at this; omega)).1 (by rw [ofNatL_toInt ha]; omega), ofNatL_toInt ha]
  exact (Int.natCast_ediv _ _).symm
theorem nL_rem {a k : Nat} (ha : a < 9223372036854775808) (h1 : 0 < k) (hk : k < 9223372036854775808) : Int64.ofNat a - (Int64.ofNat a / Int64.ofNat k) * Int64.ofNat k = Int64.ofNat (a % k) := by
  have hm := Nat.mod_lt a h1
  refine eq_ofNatL (by omega) ?_
  rw [(c_lrem (Int64.ofNat a) (Int64.ofNat k) k (ofNatL_toInt hk)).1 (by rw [ofNatL_toInt ha]; omega), ofNatL_toInt ha]
  exact (Int.natCast_emod _ _).symm
theorem n_div {a k : Nat} (ha : a < 2147483648) (h1 : 1 < k) (hk : k < 2147483648) : Int32.ofNat a / Int32.ofNat k = Int32.ofNat (a / k) := by
  have hd : a / k ≤ a := Nat.div_le_self _ _
  refine eq_ofNat (by omega) ?_
  rw [(c_idiv (Int32.ofNat a) (Int32.ofNat k) k (ofNat_toInt hk) (fun q => by have := congrArg Int32.toInt q; rw [ofNat_toInt hk, show (-1 : Int32).toInt = -1 from rfl] at this; omega)).1 (by rw [ofNat_toInt ha]; omega), ofNat_toInt ha]
  exact (Int.natCast_ediv _ _).symm
theorem own_mask {b : Nat} (hb : b < 63) : jshlL 1 (Int32.ofNat b) - 1 = Int64.ofNat (2 ^ b - 1) := by
  rw [show jshlL 1 (Int32.ofNat b) = Int64.ofNat (1 * 2 ^ b) from nL_shl 1 (by omega), Nat.one_mul]
  exact nL_sub (b := 1) (Nat.two_pow_pos b)
theorem set_self {α : Type} {L : List α} {i : Nat} {x z : α} (e : L[i]? = some x) : (L.set i z)[i]? = some z := by
  rw [List.getElem?_set_self']; rw [e]; rfl
theorem set_ne {α : Type} {L : List α} {i q : Nat} {x z : α} (h : q ≠ i) (e : L[q]? = some x) : (L.set i z)[q]? = some x := by
  rw [List.getElem?_set_ne (Ne.symm h)]; exact e
def Pak (Z : State) (n0 : Nat) (h : Heap) (o : Addr) (v_0 v_1 v_2 v_3 v_4 v_5 v_6 v_7 v_8 v_9 v_10 v_11 v_12 v_13 v_14 : Value) : Prop := n0 ≤ o ∧ Exa Z h o "com/example/tokenfold/tokenfold/statespace/Packing" ∧ Fld Z h o "com/example/tokenfold/tokenfold/statespace/Packing" "extraSlots" "[I" v_0 ∧ Fld Z h o "com/example/tokenfold/tokenfold/statespace/Packing" "extraWords" "[I" v_1 ∧ Fld Z h o "com/example/tokenfold/tokenfold/statespace/Packing" "extraShifts" "[I" v_2 ∧ Fld Z h o "com/example/tokenfold/tokenfold/statespace/Packing" "extraLows" "[I" v_3 ∧ Fld Z h o "com/example/tokenfold/tokenfold/statespace/Packing" "extraMasks" "[J" v_4 ∧ Fld Z h o "com/example/tokenfold/tokenfold/statespace/Packing" "nextExtras" "[I" v_5 ∧ Fld Z h o "com/example/tokenfold/tokenfold/statespace/Packing" "words" "[I" v_6 ∧ Fld Z h o "com/example/tokenfold/tokenfold/statespace/Packing" "shifts" "[I" v_7 ∧ Fld Z h o "com/example/tokenfold/tokenfold/statespace/Packing" "masks" "[J" v_8 ∧ Fld Z h o "com/example/tokenfold/tokenfold/statespace/Packing" "widths" "[I" v_9 ∧ Fld Z h o "com/example/tokenfold/tokenfold/statespace/Packing" "firstExtras" "[I" v_10 ∧ Fld Z h o "com/example/tokenfold/tokenfold/statespace/Packing" "lastExtras" "[I" v_11 ∧ Fld Z h o "com/example/tokenfold/tokenfold/statespace/Packing" "extras" "I" v_12 ∧ Fld Z h o "com/example/tokenfold/tokenfold/statespace/Packing" "end" "J" v_13 ∧ Fld Z h o "com/example/tokenfold/tokenfold/statespace/Packing" "recordWords" "I" v_14
theorem Pak.ext {Z : State} {n0 : Nat} {h h' : Heap} {o : Addr} {v_0 v_1 v_2 v_3 v_4 v_5 v_6 v_7 v_8 v_9 v_10 v_11 v_12 v_13 v_14 : Value} (O : Pak Z n0 h o v_0 v_1 v_2 v_3 v_4 v_5 v_6 v_7 v_8 v_9 v_10 v_11 v_12 v_13 v_14) (X : Ext h h') : Pak Z n0 h' o v_0 v_1 v_2 v_3 v_4 v_5 v_6 v_7 v_8 v_9 v_10 v_11 v_12 v_13 v_14 := by
  obtain ⟨q0, E, F0, F1, F2, F3, F4, F5, F6, F7, F8, F9, F10, F11, F12, F13, F14⟩ := O
  exact ⟨q0, E.ext X, F0.ext X, F1.ext X, F2.ext X, F3.ext X, F4.ext X, F5.ext X, F6.ext X, F7.ext X, F8.ext X, F9.ext X, F10.ext X, F11.ext X, F12.ext X, F13.ext X, F14.ext X⟩
theorem Pak.keep {Z : State} {n0 : Nat} {h h' : Heap} {o : Addr} {v_0 v_1 v_2 v_3 v_4 v_5 v_6 v_7 v_8 v_9 v_10 v_11 v_12 v_13 v_14 : Value} {ws : List Addr} (O : Pak Z n0 h o v_0 v_1 v_2 v_3 v_4 v_5 v_6 v_7 v_8 v_9 v_10 v_11 v_12 v_13 v_14) (K : Keep h h' ws) (q : o ∉ ws) : Pak Z n0 h' o v_0 v_1 v_2 v_3 v_4 v_5 v_6 v_7 v_8 v_9 v_10 v_11 v_12 v_13 v_14 := by
  obtain ⟨q0, E, F0, F1, F2, F3, F4, F5, F6, F7, F8, F9, F10, F11, F12, F13, F14⟩ := O
  exact ⟨q0, E.keep K, F0.keep K q, F1.keep K q, F2.keep K q, F3.keep K q, F4.keep K q, F5.keep K q, F6.keep K q, F7.keep K q, F8.keep K q, F9.keep K q, F10.keep K q, F11.keep K q, F12.keep K q, F13.keep K q, F14.keep K q⟩
theorem Pak.neB {Z : State} {n0 : Nat} {h : Heap} {o : Addr} {v_0 v_1 v_2 v_3 v_4 v_5 v_6 v_7 v_8 v_9 v_10 v_11 v_12 v_13 v_14 : Value} {a0 : Array Value} {a : Addr} {ty : FieldType} {n : Nat} {g : Nat → Value} (hw : ∀ d ∈ tables_1, d.before a0 Z = true) (O : Pak Z n0 h o v_0 v_1 v_2 v_3 v_4 v_5 v_6 v_7 v_8 v_9 v_10 v_11 v_12 v_13 v_14) (B : Ba Z n0 h a ty n g) : o ≠ a := by
  obtain ⟨-, -, c, A, -⟩ := B
  exact ne_arr O.2.1 (hw _ (List.mem_of_getElem? (i := 4) rfl)) A
theorem Pak.keepB {Z : State} {n0 : Nat} {h h' : Heap} {o : Addr} {v_0 v_1 v_2 v_3 v_4 v_5 v_6 v_7 v_8 v_9 v_10 v_11 v_12 v_13 v_14 : Value} {a0 : Array Value} {a : Addr} {ty : FieldType} {n : Nat} {g : Nat → Value} (hw : ∀ d ∈ tables_1, d.before a0 Z = true) (O : Pak Z n0 h o v_0 v_1 v_2 v_3 v_4 v_5 v_6 v_7 v_8 v_9 v_10 v_11 v_12 v_13 v_14) (B : Ba Z n0 h a ty n g) (K : Keep h h' [a]) : Pak Z n0 h' o v_0 v_1 v_2 v_3 v_4 v_5 v_6 v_7 v_8 v_9 v_10 v_11 v_12 v_13 v_14 := O.keep K (ninS (O.neB hw B) nin0)
theorem Pak.baW {Z : State} {n0 : Nat} {h h' : Heap} {o : Addr} {v_0 v_1 v_2 v_3 v_4 v_5 v_6 v_7 v_8 v_9 v_10 v_11 v_12 v_13 v_14 : Value} {a0 : Array Value} {a : Addr} {ty : FieldType} {n sl : Nat} {v : Value} {g : Nat → Value} (hw : ∀ d ∈ tables_1, d.before a0 Z = true) (O : Pak Z n0 h o v_0 v_1 v_2 v_3 v_4 v_5 v_6 v_7 v_8 v_9 v_10 v_11 v_12 v_13 v_14) (B : Ba Z n0 h a ty n g) (W : Wr h h' o sl v) : Ba Z n0 h' a ty n g := B.keep (Keep.of_wr W) (ninS (Ne.symm (O.neB hw B)) nin0)
theorem Pak.baK {Z : State} {n0 : Nat} {h h' : Heap} {o : Addr} {v_0 v_1 v_2 v_3 v_4 v_5 v_6 v_7 v_8 v_9 v_10 v_11 v_12 v_13 v_14 : Value} {a0 : Array Value} {a : Addr} {ty : FieldType} {n : Nat} {g : Nat → Value} (hw : ∀ d ∈ tables_1, d.before a0 Z = true) (O : Pak Z n0 h o v_0 v_1 v_2 v_3 v_4 v_5 v_6 v_7 v_8 v_9 v_10 v_11 v_12 v_13 v_14) (B : Ba Z n0 h a ty n g) (K : Keep h h' [o]) : Ba Z n0 h' a ty n g := B.keep K (ninS (Ne.symm (O.neB hw B)) nin0)
theorem Pak.put_extraSlots {Z : State} {n0 : Nat} {h h' : Heap} {o : Addr} {v_0 v_1 v_2 v_3 v_4 v_5 v_6 v_7 v_8 v_9 v_10 v_11 v_12 v_13 v_14 : Value} {a0 : Array Value} {v : Value} (hw : ∀ d ∈ tables_1, d.before a0 Z = true) (O : Pak Z n0 h o v_0 v_1 v_2 v_3 v_4 v_5 v_6 v_7 v_8 v_9 v_10 v_11 v_12 v_13 v_14) (W : Wr h h' o (Jvm.RoadKit.slotOf Z "com/example/tokenfold/tokenfold/statespace/Packing" "extraSlots" "[I") v) : Pak Z n0 h' o v v_1 v_2 v_3 v_4 v_5 v_6 v_7 v_8 v_9 v_10 v_11 v_12 v_13 v_14 := by
  obtain ⟨q0, E, F0, F1, F2, F3, F4, F5, F6, F7, F8, F9, F10, F11, F12, F13, F14⟩ := O
  exact ⟨q0, E.wr W, (F0.same W), (F1.other W (Or.inr (slot_ne (Or.inl (hw _ (List.mem_of_getElem? (i := 15) rfl))) (Or.inl (hw _ (List.mem_of_getElem? (i := 13) rfl))) (by decide) (t := (.array .int)) (t' := (.array .int)) (by decide) (by decide)))), (F2.other W (Or.inr (slot_ne (Or.inl (hw _ (List.mem_of_getElem? (i := 17) rfl))) (Or.inl (hw _ (List.mem_of_getElem? (i := 13) rfl))) (by decide) (t := (.array .int)) (t' := (.array .int)) (by decide) (by decide)))), (F3.other W (Or.inr (slot_ne (Or.inl (hw _ (List.mem_of_getElem? (i := 19) rfl))) (Or.inl (hw _ (List.mem_of_getElem? (i := 13) rfl))) (by decide) (t := (.array .int)) (t' := (.array .int)) (by decide) (by decide)))), (F4.other W (Or.inr (slot_ne (Or.inl (hw _ (List.mem_of_getElem? (i := 21) rfl))) (Or.inl (hw _ (List.mem_of_getElem? (i := 13) rfl))) (by decide) (t := (.array .long)) (t' := (.array .int)) (by decide) (by decide)))), (F5.other W (Or.inr (slot_ne (Or.inl (hw _ (List.mem_of_getElem? (i := 23) rfl))) (Or.inl (hw _ (List.mem_of_getElem? (i := 13) rfl))) (by decide) (t := (.array .int)) (t' := (.array .int)) (by decide) (by decide)))), (F6.other W (Or.inr (slot_ne (Or.inr (hw _ (List.mem_of_getElem? (i := 25) rfl))) (Or.inl (hw _ (List.mem_of_getElem? (i := 13) rfl))) (by decide) (t := (.array .int)) (t' := (.array .int)) (by decide) (by decide)))), (F7.other W (Or.inr (slot_ne (Or.inr (hw _ (List.mem_of_getElem? (i := 27) rfl))) (Or.inl (hw _ (List.mem_of_getElem? (i := 13) rfl))) (by decide) (t := (.array .int)) (t' := (.array .int)) (by decide) (by decide)))), (F8.other W (Or.inr (slot_ne (Or.inr (hw _ (List.mem_of_getElem? (i := 29) rfl))) (Or.inl (hw _ (List.mem_of_getElem? (i := 13) rfl))) (by decide) (t := (.array .long)) (t' := (.array .int)) (by decide) (by decide)))), (F9.other W (Or.inr (slot_ne (Or.inr (hw _ (List.mem_of_getElem? (i := 31) rfl))) (Or.inl (hw _ (List.mem_of_getElem? (i := 13) rfl))) (by decide) (t := (.array .int)) (t' := (.array .int)) (by decide) (by decide)))), (F10.other W (Or.inr (slot_ne (Or.inr (hw _ (List.mem_of_getElem? (i := 33) rfl))) (Or.inl (hw _ (List.mem_of_getElem? (i := 13) rfl))) (by decide) (t := (.array .int)) (t' := (.array .int)) (by decide) (by decide)))), (F11.other W (Or.inr (slot_ne (Or.inr (hw _ (List.mem_of_getElem? (i := 35) rfl))) (Or.inl (hw _ (List.mem_of_getElem? (i := 13) rfl))) (by decide) (t := (.array .int)) (t' := (.array .int)) (by decide) (by decide)))), (F12.other W (Or.inr (slot_ne (Or.inl (hw _ (List.mem_of_getElem? (i := 78) rfl))) (Or.inl (hw _ (List.mem_of_getElem? (i := 13) rfl))) (by decide) (t := .int) (t' := (.array .int)) (by decide) (by decide)))), (F13.other W (Or.inr (slot_ne (Or.inl (hw _ (List.mem_of_getElem? (i := 56) rfl))) (Or.inl (hw _ (List.mem_of_getElem? (i := 13) rfl))) (by decide) (t := .long) (t' := (.array .int)) (by decide) (by decide)))), (F14.other W (Or.inr (slot_ne (Or.inl (hw _ (List.mem_of_getElem? (i := 60) rfl))) (Or.inl (hw _ (List.mem_of_getElem? (i := 13) rfl))) (by decide) (t := .int) (t' := (.array .int)) (by decide) (by decide))))⟩
theorem Pak.put_extraWords {Z : State} {n0 : Nat} {h h' : Heap} {o : Addr} {v_0 v_1 v_2 v_3 v_4 v_5 v_6 v_7 v_8 v_9 v_10 v_11 v_12 v_13 v_14 : Value} {a0 : Array Value} {v : Value} (hw : ∀ d ∈ tables_1, d.before a0 Z = true) (O : Pak Z n0 h o v_0 v_1 v_2 v_3 v_4 v_5 v_6 v_7 v_8 v_9 v_10 v_11 v_12 v_13 v_14) (W : Wr h h' o (Jvm.RoadKit.slotOf Z "com/example/tokenfold/tokenfold/statespace/Packing" "extraWords" "[I") v) : Pak Z n0 h' o v_0 v v_2 v_3 v_4 v_5 v_6 v_7 v_8 v_9 v_10 v_11 v_12 v_13 v_14 := by
  obtain ⟨q0, E, F0, F1, F2, F3, F4, F5, F6, F7, F8, F9, F10, F11, F12, F13, F14⟩ := O
  exact ⟨q0, E.wr W, (F0.other W (Or.inr (slot_ne (Or.inl (hw _ (List.mem_of_getElem? (i := 13) rfl))) (Or.inl (hw _ (List.mem_of_getElem? (i := 15) rfl))) (by decide) (t := (.array .int)) (t' := (.array .int)) (by decide) (by decide)))), (F1.same W), (F2.other W (Or.inr (slot_ne (Or.inl (hw _ (List.mem_of_getElem? (i := 17) rfl))) (Or.inl (hw _ (List.mem_of_getElem? (i := 15) rfl))) (by decide) (t := (.array .int)) (t' := (.array .int)) (by decide) (by decide)))), (F3.other W (Or.inr (slot_ne (Or.inl (hw _ (List.mem_of_getElem? (i := 19) rfl))) (Or.inl (hw _ (List.mem_of_getElem? (i := 15) rfl))) (by decide) (t := (.array .int)) (t' := (.array .int)) (by decide) (by decide)))), (F4.other W (Or.inr (slot_ne (Or.inl (hw _ (List.mem_of_getElem? (i := 21) rfl))) (Or.inl (hw _ (List.mem_of_getElem? (i := 15) rfl))) (by decide) (t := (.array .long)) (t' := (.array .int)) (by decide) (by decide)))), (F5.other W (Or.inr (slot_ne (Or.inl (hw _ (List.mem_of_getElem? (i := 23) rfl))) (Or.inl (hw _ (List.mem_of_getElem? (i := 15) rfl))) (by decide) (t := (.array .int)) (t' := (.array .int)) (by decide) (by decide)))), (F6.other W (Or.inr (slot_ne (Or.inr (hw _ (List.mem_of_getElem? (i := 25) rfl))) (Or.inl (hw _ (List.mem_of_getElem? (i := 15) rfl))) (by decide) (t := (.array .int)) (t' := (.array .int)) (by decide) (by decide)))), (F7.other W (Or.inr (slot_ne (Or.inr (hw _ (List.mem_of_getElem? (i := 27) rfl))) (Or.inl (hw _ (List.mem_of_getElem? (i := 15) rfl))) (by decide) (t := (.array .int)) (t' := (.array .int)) (by decide) (by decide)))), (F8.other W (Or.inr (slot_ne (Or.inr (hw _ (List.mem_of_getElem? (i := 29) rfl))) (Or.inl (hw _ (List.mem_of_getElem? (i := 15) rfl))) (by decide) (t := (.array .long)) (t' := (.array .int)) (by decide) (by decide)))), (F9.other W (Or.inr (slot_ne (Or.inr (hw _ (List.mem_of_getElem? (i := 31) rfl))) (Or.inl (hw _ (List.mem_of_getElem? (i := 15) rfl))) (by decide) (t := (.array .int)) (t' := (.array .int)) (by decide) (by decide)))), (F10.other W (Or.inr (slot_ne (Or.inr (hw _ (List.mem_of_getElem? (i := 33) rfl))) (Or.inl (hw _ (List.mem_of_getElem? (i := 15) rfl))) (by decide) (t := (.array .int)) (t' := (.array .int)) (by decide) (by decide)))), (F11.other W (Or.inr (slot_ne (Or.inr (hw _ (List.mem_of_getElem? (i := 35) rfl))) (Or.inl (hw _ (List.mem_of_getElem? (i := 15) rfl))) (by decide) (t := (.array .int)) (t' := (.array .int)) (by decide) (by decide)))), (F12.other W (Or.inr (slot_ne (Or.inl (hw _ (List.mem_of_getElem? (i := 78) rfl))) (Or.inl (hw _ (List.mem_of_getElem? (i := 15) rfl))) (by decide) (t := .int) (t' := (.array .int)) (by decide) (by decide)))), (F13.other W (Or.inr (slot_ne (Or.inl (hw _ (List.mem_of_getElem? (i := 56) rfl))) (Or.inl (hw _ (List.mem_of_getElem? (i := 15) rfl))) (by decide) (t := .long) (t' := (.array .int)) (by decide) (by decide)))), (F14.other W (Or.inr (slot_ne (Or.inl (hw _ (List.mem_of_getElem? (i := 60) rfl))) (Or.inl (hw _ (List.mem_of_getElem? (i := 15) rfl))) (by decide) (t := .int) (t' := (.array .int)) (by decide) (by decide))))⟩
theorem Pak.put_extraShifts {Z : State} {n0 : Nat} {h h' : Heap} {o : Addr} {v_0 v_1 v_2 v_3 v_4 v_5 v_6 v_7 v_8 v_9 v_10 v_11 v_12 v_13 v_14 : Value} {a0 : Array Value} {v : Value} (hw : ∀ d ∈ tables_1, d.before a0 Z = true) (O : Pak Z n0 h o v_0 v_1 v_2 v_3 v_4 v_5 v_6 v_7 v_8 v_9 v_10 v_11 v_12 v_13 v_14) (W : Wr h h' o (Jvm.RoadKit.slotOf Z "com/example/tokenfold/tokenfold/statespace/Packing" "extraShifts" "[I") v) : Pak Z n0 h' o v_0 v_1 v v_3 v_4 v_5 v_6 v_7 v_8 v_9 v_10 v_11 v_12 v_13 v_14 := by
  obtain ⟨q0, E, F0, F1, F2, F3, F4, F5, F6, F7, F8, F9, F10, F11, F12, F13, F14⟩ := O
  exact ⟨q0, E.wr W, (F0.other W (Or.inr (slot_ne (Or.inl (hw _ (List.mem_of_getElem? (i := 13) rfl))) (Or.inl (hw _ (List.mem_of_getElem? (i := 17) rfl))) (by decide) (t := (.array .int)) (t' := (.array .int)) (by decide) (by decide)))), (F1.other W (Or.inr (slot_ne (Or.inl (hw _ (List.mem_of_getElem? (i := 15) rfl))) (Or.inl (hw _ (List.mem_of_getElem? (i := 17) rfl))) (by decide) (t := (.array .int)) (t' := (.array .int)) (by decide) (by decide)))), (F2.same W), (F3.other W (Or.inr (slot_ne (Or.inl (hw _ (List.mem_of_getElem? (i := 19) rfl))) (Or.inl (hw _ (List.mem_of_getElem? (i := 17) rfl))) (by decide) (t := (.array .int)) (t' := (.array .int)) (by decide) (by decide)))), (F4.other W (Or.inr (slot_ne (Or.inl (hw _ (List.mem_of_getElem? (i := 21) rfl))) (Or.inl (hw _ (List.mem_of_getElem? (i := 17) rfl))) (by decide) (t := (.array .long)) (t' := (.array .int)) (by decide) (by decide)))), (F5.other W (Or.inr (slot_ne (Or.inl (hw _ (List.mem_of_getElem? (i := 23) rfl))) (Or.inl (hw _ (List.mem_of_getElem? (i := 17) rfl))) (by decide) (t := (.array .int)) (t' := (.array .int)) (by decide) (by decide)))), (F6.other W (Or.inr (slot_ne (Or.inr (hw _ (List.mem_of_getElem? (i := 25) rfl))) (Or.inl (hw _ (List.mem_of_getElem? (i := 17) rfl))) (by decide) (t := (.array .int)) (t' := (.array .int)) (by decide) (by decide)))), (F7.other W (Or.inr (slot_ne (Or.inr (hw _ (List.mem_of_getElem? (i := 27) rfl))) (Or.inl (hw _ (List.mem_of_getElem? (i := 17) rfl))) (by decide) (t := (.array .int)) (t' := (.array .int)) (by decide) (by decide)))), (F8.other W (Or.inr (slot_ne (Or.inr (hw _ (List.mem_of_getElem? (i := 29) rfl))) (Or.inl (hw _ (List.mem_of_getElem? (i := 17) rfl))) (by decide) (t := (.array .long)) (t' := (.array .int)) (by decide) (by decide)))), (F9.other W (Or.inr (slot_ne (Or.inr (hw _ (List.mem_of_getElem? (i := 31) rfl))) (Or.inl (hw _ (List.mem_of_getElem? (i := 17) rfl))) (by decide) (t := (.array .int)) (t' := (.array .int)) (by decide) (by decide)))), (F10.other W (Or.inr (slot_ne (Or.inr (hw _ (List.mem_of_getElem? (i := 33) rfl))) (Or.inl (hw _ (List.mem_of_getElem? (i := 17) rfl))) (by decide) (t := (.array .int)) (t' := (.array .int)) (by decide) (by decide)))), (F11.other W (Or.inr (slot_ne (Or.inr (hw _ (List.mem_of_getElem? (i := 35) rfl))) (Or.inl (hw _ (List.mem_of_getElem? (i := 17) rfl))) (by decide) (t := (.array .int)) (t' := (.array .int)) (by decide) (by decide)))), (F12.other W (Or.inr (slot_ne (Or.inl (hw _ (List.mem_of_getElem? (i := 78) rfl))) (Or.inl (hw _ (List.mem_of_getElem? (i := 17) rfl))) (by decide) (t := .int) (t' := (.array .int)) (by decide) (by decide)))), (F13.other W (Or.inr (slot_ne (Or.inl (hw _ (List.mem_of_getElem? (i := 56) rfl))) (Or.inl (hw _ (List.mem_of_getElem? (i := 17) rfl))) (by decide) (t := .long) (t' := (.array .int)) (by decide) (by decide)))), (F14.other W (Or.inr (slot_ne (Or.inl (hw _ (List.mem_of_getElem? (i := 60) rfl))) (Or.inl (hw _ (List.mem_of_getElem? (i := 17) rfl))) (by decide) (t := .int) (t' := (.array .int)) (by decide) (by decide))))⟩
theorem Pak.put_extraLows {Z : State} {n0 : Nat} {h h' : Heap} {o : Addr} {v_0 v_1 v_2 v_3 v_4 v_5 v_6 v_7 v_8 v_9 v_10 v_11 v_12 v_13 v_14 : Value} {a0 : Array Value} {v : Value} (hw : ∀ d ∈ tables_1, d.before a0 Z = true) (O : Pak Z n0 h o v_0 v_1 v_2 v_3 v_4 v_5 v_6 v_7 v_8 v_9 v_10 v_11 v_12 v_13 v_14) (W : Wr h h' o (Jvm.RoadKit.slotOf Z "com/example/tokenfold/tokenfold/statespace/Packing" "extraLows" "[I") v) : Pak Z n0 h' o v_0 v_1 v_2 v v_4 v_5 v_6 v_7 v_8 v_9 v_10 v_11 v_12 v_13 v_14 := by
  obtain ⟨q0, E, F0, F1, F2, F3, F4, F5, F6, F7, F8, F9, F10, F11, F12, F13, F14⟩ := O
  exact ⟨q0, E.wr W, (F0.other W (Or.inr (slot_ne (Or.inl (hw _ (List.mem_of_getElem? (i := 13) rfl))) (Or.inl (hw _ (List.mem_of_getElem? (i := 19) rfl))) (by decide) (t := (.array .int)) (t' := (.array .int)) (by decide) (by decide)))), (F1.other W (Or.inr (slot_ne (Or.inl (hw _ (List.mem_of_getElem? (i := 15) rfl))) (Or.inl (hw _ (List.mem_of_getElem? (i := 19) rfl))) (by decide) (t := (.array .int)) (t' := (.array .int)) (by decide) (by decide)))), (F2.other W (Or.inr (slot_ne (Or.inl (hw _ (List.mem_of_getElem? (i := 17) rfl))) (Or.inl (hw _ (List.mem_of_getElem? (i := 19) rfl))) (by decide) (t := (.array .int)) (t' := (.array .int)) (by decide) (by decide)))), (F3.same W), (F4.other W (Or.inr (slot_ne (Or.inl (hw _ (List.mem_of_getElem? (i := 21) rfl))) (Or.inl (hw _ (List.mem_of_getElem? (i := 19) rfl))) (by decide) (t := (.array .long)) (t' := (.array .int)) (by decide) (by decide)))), (F5.other W (Or.inr (slot_ne (Or.inl (hw _ (List.mem_of_getElem? (i := 23) rfl))) (Or.inl (hw _ (List.mem_of_getElem? (i := 19) rfl))) (by decide) (t := (.array .int)) (t' := (.array .int)) (by decide) (by decide)))), (F6.other W (Or.inr (slot_ne (Or.inr (hw _ (List.mem_of_getElem? (i := 25) rfl))) (Or.inl (hw _ (List.mem_of_getElem? (i := 19) rfl))) (by decide) (t := (.array .int)) (t' := (.array .int)) (by decide) (by decide)))), (F7.other W (Or.inr (slot_ne (Or.inr (hw _ (List.mem_of_getElem? (i := 27) rfl))) (Or.inl (hw _ (List.mem_of_getElem? (i := 19) rfl))) (by decide) (t := (.array .int)) (t' := (.array .int)) (by decide) (by decide)))), (F8.other W (Or.inr (slot_ne (Or.inr (hw _ (List.mem_of_getElem? (i := 29) rfl))) (Or.inl (hw _ (List.mem_of_getElem? (i := 19) rfl))) (by decide) (t := (.array .long)) (t' := (.array .int)) (by decide) (by decide)))), (F9.other W (Or.inr (slot_ne (Or.inr (hw _ (List.mem_of_getElem? (i := 31) rfl))) (Or.inl (hw _ (List.mem_of_getElem? (i := 19) rfl))) (by decide) (t := (.array .int)) (t' := (.array .int)) (by decide) (by decide)))), (F10.other W (Or.inr (slot_ne (Or.inr (hw _ (List.mem_of_getElem? (i := 33) rfl))) (Or.inl (hw _ (List.mem_of_getElem? (i := 19) rfl))) (by decide) (t := (.array .int)) (t' := (.array .int)) (by decide) (by decide)))), (F11.other W (Or.inr (slot_ne (Or.inr (hw _ (List.mem_of_getElem? (i := 35) rfl))) (Or.inl (hw _ (List.mem_of_getElem? (i := 19) rfl))) (by decide) (t := (.array .int)) (t' := (.array .int)) (by decide) (by decide)))), (F12.other W (Or.inr (slot_ne (Or.inl (hw _ (List.mem_of_getElem? (i := 78) rfl))) (Or.inl (hw _ (List.mem_of_getElem? (i := 19) rfl))) (by decide) (t := .int) (t' := (.array .int)) (by decide) (by decide)))), (F13.other W (Or.inr (slot_ne (Or.inl (hw _ (List.mem_of_getElem? (i := 56) rfl))) (Or.inl (hw _ (List.mem_of_getElem? (i := 19) rfl))) (by decide) (t := .long) (t' := (.array .int)) (by decide) (by decide)))), (F14.other W (Or.inr (slot_ne (Or.inl (hw _ (List.mem_of_getElem? (i := 60) rfl))) (Or.inl (hw _ (List.mem_of_getElem? (i := 19) rfl))) (by decide) (t := .int) (t' := (.array .int)) (by decide) (by decide))))⟩
theorem Pak.put_extraMasks {Z : State} {n0 : Nat} {h h' : Heap} {o : Addr} {v_0 v_1 v_2 v_3 v_4 v_5 v_6 v_7 v_8 v_9 v_10 v_11 v_12 v_13 v_14 : Value} {a0 : Array Value} {v : Value} (hw : ∀ d ∈ tables_1, d.before a0 Z = true) (O : Pak Z n0 h o v_0 v_1 v_2 v_3 v_4 v_5 v_6 v_7 v_8 v_9 v_10 v_11 v_12 v_13 v_14) (W : Wr h h' o (Jvm.RoadKit.slotOf Z "com/example/tokenfold/tokenfold/statespace/Packing" "extraMasks" "[J") v) : Pak Z n0 h' o v_0 v_1 v_2 v_3 v v_5 v_6 v_7 v_8 v_9 v_10 v_11 v_12 v_13 v_14 := by
  obtain ⟨q0, E, F0, F1, F2, F3, F4, F5, F6, F7, F8, F9, F10, F11, F12, F13, F14⟩ := O
  exact ⟨q0, E.wr W, (F0.other W (Or.inr (slot_ne (Or.inl (hw _ (List.mem_of_getElem? (i := 13) rfl))) (Or.inl (hw _ (List.mem_of_getElem? (i := 21) rfl))) (by decide) (t := (.array .int)) (t' := (.array .long)) (by decide) (by decide)))), (F1.other W (Or.inr (slot_ne (Or.inl (hw _ (List.mem_of_getElem? (i := 15) rfl))) (Or.inl (hw _ (List.mem_of_getElem? (i := 21) rfl))) (by decide) (t := (.array .int)) (t' := (.array .long)) (by decide) (by decide)))), (F2.other W (Or.inr (slot_ne (Or.inl (hw _ (List.mem_of_getElem? (i := 17) rfl))) (Or.inl (hw _ (List.mem_of_getElem? (i := 21) rfl))) (by decide) (t := (.array .int)) (t' := (.array .long)) (by decide) (by decide)))), (F3.other W (Or.inr (slot_ne (Or.inl (hw _ (List.mem_of_getElem? (i := 19) rfl))) (Or.inl (hw _ (List.mem_of_getElem? (i := 21) rfl))) (by decide) (t := (.array .int)) (t' := (.array .long)) (by decide) (by decide)))), (F4.same W), (F5.other W (Or.inr (slot_ne (Or.inl (hw _ (List.mem_of_getElem? (i := 23) rfl))) (Or.inl (hw _ (List.mem_of_getElem? (i := 21) rfl))) (by decide) (t := (.array .int)) (t' := (.array .long)) (by decide) (by decide)))), (F6.other W (Or.inr (slot_ne (Or.inr (hw _ (List.mem_of_getElem? (i := 25) rfl))) (Or.inl (hw _ (List.mem_of_getElem? (i := 21) rfl))) (by decide) (t := (.array .int)) (t' := (.array .long)) (by decide) (by decide)))), (F7.other W (Or.inr (slot_ne (Or.inr (hw _ (List.mem_of_getElem? (i := 27) rfl))) (Or.inl (hw _ (List.mem_of_getElem? (i := 21) rfl))) (by decide) (t := (.array .int)) (t' := (.array .long)) (by decide) (by decide)))), (F8.other W (Or.inr (slot_ne (Or.inr (hw _ (List.mem_of_getElem? (i := 29) rfl))) (Or.inl (hw _ (List.mem_of_getElem? (i := 21) rfl))) (by decide) (t := (.array .long)) (t' := (.array .long)) (by decide) (by decide)))), (F9.other W (Or.inr (slot_ne (Or.inr (hw _ (List.mem_of_getElem? (i := 31) rfl))) (Or.inl (hw _ (List.mem_of_getElem? (i := 21) rfl))) (by decide) (t := (.array .int)) (t' := (.array .long)) (by decide) (by decide)))), (F10.other W (Or.inr (slot_ne (Or.inr (hw _ (List.mem_of_getElem? (i := 33) rfl))) (Or.inl (hw _ (List.mem_of_getElem? (i := 21) rfl))) (by decide) (t := (.array .int)) (t' := (.array .long)) (by decide) (by decide)))), (F11.other W (Or.inr (slot_ne (Or.inr (hw _ (List.mem_of_getElem? (i := 35) rfl))) (Or.inl (hw _ (List.mem_of_getElem? (i := 21) rfl))) (by decide) (t := (.array .int)) (t' := (.array .long)) (by decide) (by decide)))), (F12.other W (Or.inr (slot_ne (Or.inl (hw _ (List.mem_of_getElem? (i := 78) rfl))) (Or.inl (hw _ (List.mem_of_getElem? (i := 21) rfl))) (by decide) (t := .int) (t' := (.array .long)) (by decide) (by decide)))), (F13.other W (Or.inr (slot_ne (Or.inl (hw _ (List.mem_of_getElem? (i := 56) rfl))) (Or.inl (hw _ (List.mem_of_getElem? (i := 21) rfl))) (by decide) (t := .long) (t' := (.array .long)) (by decide) (by decide)))), (F14.other W (Or.inr (slot_ne (Or.inl (hw _ (List.mem_of_getElem? (i := 60) rfl))) (Or.inl (hw _ (List.mem_of_getElem? (i := 21) rfl))) (by decide) (t := .int) (t' := (.array .long)) (by decide) (by decide))))⟩
theorem Pak.put_nextExtras {Z : State} {n0 : Nat} {h h' : Heap} {o : Addr} {v_0 v_1 v_2 v_3 v_4 v_5 v_6 v_7 v_8 v_9 v_10 v_11 v_12 v_13 v_14 : Value} {a0 : Array Value} {v : Value} (hw : ∀ d ∈ tables_1, d.before a0 Z = true) (O : Pak Z n0 h o v_0 v_1 v_2 v_3 v_4 v_5 v_6 v_7 v_8 v_9 v_10 v_11 v_12 v_13 v_14) (W : Wr h h' o (Jvm.RoadKit.slotOf Z "com/example/tokenfold/tokenfold/statespace/Packing" "nextExtras" "[I") v) : Pak Z n0 h' o v_0 v_1 v_2 v_3 v_4 v v_6 v_7 v_8 v_9 v_10 v_11 v_12 v_13 v_14 := by
  obtain ⟨q0, E, F0, F1, F2, F3, F4, F5, F6, F7, F8, F9, F10, F11, F12, F13, F14⟩ := O
  exact ⟨q0, E.wr W, (F0.other W (Or.inr (slot_ne (Or.inl (hw _ (List.mem_of_getElem? (i := 13) rfl))) (Or.inl (hw _ (List.mem_of_getElem? (i := 23) rfl))) (by decide) (t := (.array .int)) (t' := (.array .int)) (by decide) (by decide)))), (F1.other W (Or.inr (slot_ne (Or.inl (hw _ (List.mem_of_getElem? (i := 15) rfl))) (Or.inl (hw _ (List.mem_of_getElem? (i := 23) rfl))) (by decide) (t := (.array .int)) (t' := (.array .int)) (by decide) (by decide)))), (F2.other W (Or.inr (slot_ne (Or.inl (hw _ (List.mem_of_getElem? (i := 17) rfl))) (Or.inl (hw _ (List.mem_of_getElem? (i := 23) rfl))) (by decide) (t := (.array .int)) (t' := (.array .int)) (by decide) (by decide)))), (F3.other W (Or.inr (slot_ne (Or.inl (hw _ (List.mem_of_getElem? (i := 19) rfl))) (Or.inl (hw _ (List.mem_of_getElem? (i := 23) rfl))) (by decide) (t := (.array .int)) (t' := (.array .int)) (by decide) (by decide)))), (F4.other W (Or.inr (slot_ne (Or.inl (hw _ (List.mem_of_getElem? (i := 21) rfl))) (Or.inl (hw _ (List.mem_of_getElem? (i := 23) rfl))) (by decide) (t := (.array .long)) (t' := (.array .int)) (by decide) (by decide)))), (F5.same W), (F6.other W (Or.inr (slot_ne (Or.inr (hw _ (List.mem_of_getElem? (i := 25) rfl))) (Or.inl (hw _ (List.mem_of_getElem? (i := 23) rfl))) (by decide) (t := (.array .int)) (t' := (.array .int)) (by decide) (by decide)))), (F7.other W (Or.inr (slot_ne (Or.inr (hw _ (List.mem_of_getElem? (i := 27) rfl))) (Or.inl (hw _ (List.mem_of_getElem? (i := 23) rfl))) (by decide) (t := (.array .int)) (t' := (.array .int)) (by decide) (by decide)))), (F8.other W (Or.inr (slot_ne (Or.inr (hw _ (List.mem_of_getElem? (i := 29) rfl))) (Or.inl (hw _ (List.mem_of_getElem? (i := 23) rfl))) (by decide) (t := (.array .long)) (t' := (.array .int)) (by decide) (by decide)))), (F9.other W (Or.inr (slot_ne (Or.inr (hw _ (List.mem_of_getElem? (i := 31) rfl))) (Or.inl (hw _ (List.mem_of_getElem? (i := 23) rfl))) (by decide) (t := (.array .int)) (t' := (.array .int)) (by decide) (by decide)))), (F10.other W (Or.inr (slot_ne (Or.inr (hw _ (List.mem_of_getElem? (i := 33) rfl))) (Or.inl (hw _ (List.mem_of_getElem? (i := 23) rfl))) (by decide) (t := (.array .int)) (t' := (.array .int)) (by decide) (by decide)))), (F11.other W (Or.inr (slot_ne (Or.inr (hw _ (List.mem_of_getElem? (i := 35) rfl))) (Or.inl (hw _ (List.mem_of_getElem? (i := 23) rfl))) (by decide) (t := (.array .int)) (t' := (.array .int)) (by decide) (by decide)))), (F12.other W (Or.inr (slot_ne (Or.inl (hw _ (List.mem_of_getElem? (i := 78) rfl))) (Or.inl (hw _ (List.mem_of_getElem? (i := 23) rfl))) (by decide) (t := .int) (t' := (.array .int)) (by decide) (by decide)))), (F13.other W (Or.inr (slot_ne (Or.inl (hw _ (List.mem_of_getElem? (i := 56) rfl))) (Or.inl (hw _ (List.mem_of_getElem? (i := 23) rfl))) (by decide) (t := .long) (t' := (.array .int)) (by decide) (by decide)))), (F14.other W (Or.inr (slot_ne (Or.inl (hw _ (List.mem_of_getElem? (i := 60) rfl))) (Or.inl (hw _ (List.mem_of_getElem? (i := 23) rfl))) (by decide) (t := .int) (t' := (.array .int)) (by decide) (by decide))))⟩
theorem Pak.put_words {Z : State} {n0 : Nat} {h h' : Heap} {o : Addr} {v_0 v_1 v_2 v_3 v_4 v_5 v_6 v_7 v_8 v_9 v_10 v_11 v_12 v_13 v_14 : Value} {a0 : Array Value} {v : Value} (hw : ∀ d ∈ tables_1, d.before a0 Z = true) (O : Pak Z n0 h o v_0 v_1 v_2 v_3 v_4 v_5 v_6 v_7 v_8 v_9 v_10 v_11 v_12 v_13 v_14) (W : Wr h h' o (Jvm.RoadKit.slotOf Z "com/example/tokenfold/tokenfold/statespace/Packing" "words" "[I") v) : Pak Z n0 h' o v_0 v_1 v_2 v_3 v_4 v_5 v v_7 v_8 v_9 v_10 v_11 v_12 v_13 v_14 := by
  obtain ⟨q0, E, F0, F1, F2, F3, F4, F5, F6, F7, F8, F9, F10, F11, F12, F13, F14⟩ := O
  exact ⟨q0, E.wr W, (F0.other W (Or.inr (slot_ne (Or.inl (hw _ (List.mem_of_getElem? (i := 13) rfl))) (Or.inr (hw _ (List.mem_of_getElem? (i := 25) rfl))) (by decide) (t := (.array .int)) (t' := (.array .int)) (by decide) (by decide)))), (F1.other W (Or.inr (slot_ne (Or.inl (hw _ (List.mem_of_getElem? (i := 15) rfl))) (Or.inr (hw _ (List.mem_of_getElem? (i := 25) rfl))) (by decide) (t := (.array .int)) (t' := (.array .int)) (by decide) (by decide)))), (F2.other W (Or.inr (slot_ne (Or.inl (hw _ (List.mem_of_getElem? (i := 17) rfl))) (Or.inr (hw _ (List.mem_of_getElem? (i := 25) rfl))) (by decide) (t := (.array .int)) (t' := (.array .int)) (by decide) (by decide)))), (F3.other W (Or.inr (slot_ne (Or.inl (hw _ (List.mem_of_getElem? (i := 19) rfl))) (Or.inr (hw _ (List.mem_of_getElem? (i := 25) rfl))) (by decide) (t := (.array .int)) (t' := (.array .int)) (by decide) (by decide)))), (F4.other W (Or.inr (slot_ne (Or.inl (hw _ (List.mem_of_getElem? (i := 21) rfl))) (Or.inr (hw _ (List.mem_of_getElem? (i := 25) rfl))) (by decide) (t := (.array .long)) (t' := (.array .int)) (by decide) (by decide)))), (F5.other W (Or.inr (slot_ne (Or.inl (hw _ (List.mem_of_getElem? (i := 23) rfl))) (Or.inr (hw _ (List.mem_of_getElem? (i := 25) rfl))) (by decide) (t := (.array .int)) (t' := (.array .int)) (by decide) (by decide)))), (F6.same W), (F7.other W (Or.inr (slot_ne (Or.inr (hw _ (List.mem_of_getElem? (i := 27) rfl))) (Or.inr (hw _ (List.mem_of_getElem? (i := 25) rfl))) (by decide) (t := (.array .int)) (t' := (.array .int)) (by decide) (by decide)))), (F8.other W (Or.inr (slot_ne (Or.inr (hw _ (List.mem_of_getElem? (i := 29) rfl))) (Or.inr (hw _ (List.mem_of_getElem? (i := 25) rfl))) (by decide) (t := (.array .long)) (t' := (.array .int)) (by decide) (by decide)))), (F9.other W (Or.inr (slot_ne (Or.inr (hw _ (List.mem_of_getElem? (i := 31) rfl))) (Or.inr (hw _ (List.mem_of_getElem? (i := 25) rfl))) (by decide) (t := (.array .int)) (t' := (.array .int)) (by decide) (by decide)))), (F10.other W (Or.inr (slot_ne (Or.inr (hw _ (List.mem_of_getElem? (i := 33) rfl))) (Or.inr (hw _ (List.mem_of_getElem? (i := 25) rfl))) (by decide) (t := (.array .int)) (t' := (.array .int)) (by decide) (by decide)))), (F11.other W (Or.inr (slot_ne (Or.inr (hw _ (List.mem_of_getElem? (i := 35) rfl))) (Or.inr (hw _ (List.mem_of_getElem? (i := 25) rfl))) (by decide) (t := (.array .int)) (t' := (.array .int)) (by decide) (by decide)))), (F12.other W (Or.inr (slot_ne (Or.inl (hw _ (List.mem_of_getElem? (i := 78) rfl))) (Or.inr (hw _ (List.mem_of_getElem? (i := 25) rfl))) (by decide) (t := .int) (t' := (.array .int)) (by decide) (by decide)))), (F13.other W (Or.inr (slot_ne (Or.inl (hw _ (List.mem_of_getElem? (i := 56) rfl))) (Or.inr (hw _ (List.mem_of_getElem? (i := 25) rfl))) (by decide) (t := .long) (t' := (.array .int)) (by decide) (by decide)))), (F14.other W (Or.inr (slot_ne (Or.inl (hw _ (List.mem_of_getElem? (i := 60) rfl))) (Or.inr (hw _ (List.mem_of_getElem? (i := 25) rfl))) (by decide) (t := .int) (t' := (.array .int)) (by decide) (by decide))))⟩
theorem Pak.put_shifts {Z : State} {n0 : Nat} {h h' : Heap} {o : Addr} {v_0 v_1 v_2 v_3 v_4 v_5 v_6 v_7 v_8 v_9 v_10 v_11 v_12 v_13 v_14 : Value} {a0 : Array Value} {v : Value} (hw : ∀ d ∈ tables_1, d.before a0 Z = true) (O : Pak Z n0 h o v_0 v_1 v_2 v_3 v_4 v_5 v_6 v_7 v_8 v_9 v_10 v_11 v_12 v_13 v_14) (W : Wr h h' o (Jvm.RoadKit.slotOf Z "com/example/tokenfold/tokenfold/statespace/Packing" "shifts" "[I") v) : Pak Z n0 h' o v_0 v_1 v_2 v_3 v_4 v_5 v_6 v v_8 v_9 v_10 v_11 v_12 v_13 v_14 := by
  obtain ⟨q0, E, F0, F1, F2, F3, F4, F5, F6, F7, F8, F9, F10, F11, F12, F13, F14⟩ := O
  exact ⟨q0, E.wr W, (F0.other W (Or.inr (slot_ne (Or.inl (hw _ (List.mem_of_getElem? (i := 13) rfl))) (Or.inr (hw _ (List.mem_of_getElem? (i := 27) rfl))) (by decide) (t := (.array .int)) (t' := (.array .int)) (by decide) (by decide)))), (F1.other W (Or.inr (slot_ne (Or.inl (hw _ (List.mem_of_getElem? (i := 15) rfl))) (Or.inr (hw _ (List.mem_of_getElem? (i := 27) rfl))) (by decide) (t := (.array .int)) (t' := (.array .int)) (by decide) (by decide)))), (F2.other W (Or.inr (slot_ne (Or.inl (hw _ (List.mem_of_getElem? (i := 17) rfl))) (Or.inr (hw _ (List.mem_of_getElem? (i := 27) rfl))) (by decide) (t := (.array .int)) (t' := (.array .int)) (by decide) (by decide)))), (F3.other W (Or.inr (slot_ne (Or.inl (hw _ (List.mem_of_getElem? (i := 19) rfl))) (Or.inr (hw _ (List.mem_of_getElem? (i := 27) rfl))) (by decide) (t := (.array .int)) (t' := (.array .int)) (by decide) (by decide)))), (F4.other W (Or.inr (slot_ne (Or.inl (hw _ (List.mem_of_getElem? (i := 21) rfl))) (Or.inr (hw _ (List.mem_of_getElem? (i := 27) rfl))) (by decide) (t := (.array .long)) (t' := (.array .int)) (by decide) (by decide)))), (F5.other W (Or.inr (slot_ne (Or.inl (hw _ (List.mem_of_getElem? (i := 23) rfl))) (Or.inr (hw _ (List.mem_of_getElem? (i := 27) rfl))) (by decide) (t := (.array .int)) (t' := (.array .int)) (by decide) (by decide)))), (F6.other W (Or.inr (slot_ne (Or.inr (hw _ (List.mem_of_getElem? (i := 25) rfl))) (Or.inr (hw _ (List.mem_of_getElem? (i := 27) rfl))) (by decide) (t := (.array .int)) (t' := (.array .int)) (by decide) (by decide)))), (F7.same W), (F8.other W (Or.inr (slot_ne (Or.inr (hw _ (List.mem_of_getElem? (i := 29) rfl))) (Or.inr (hw _ (List.mem_of_getElem? (i := 27) rfl))) (by decide) (t := (.array .long)) (t' := (.array .int)) (by decide) (by decide)))), (F9.other W (Or.inr (slot_ne (Or.inr (hw _ (List.mem_of_getElem? (i := 31) rfl))) (Or.inr (hw _ (List.mem_of_getElem? (i := 27) rfl))) (by decide) (t := (.array .int)) (t' := (.array .int)) (by decide) (by decide)))), (F10.other W (Or.inr (slot_ne (Or.inr (hw _ (List.mem_of_getElem? (i := 33) rfl))) (Or.inr (hw _ (List.mem_of_getElem? (i := 27) rfl))) (by decide) (t := (.array .int)) (t' := (.array .int)) (by decide) (by decide)))), (F11.other W (Or.inr (slot_ne (Or.inr (hw _ (List.mem_of_getElem? (i := 35) rfl))) (Or.inr (hw _ (List.mem_of_getElem? (i := 27) rfl))) (by decide) (t := (.array .int)) (t' := (.array .int)) (by decide) (by decide)))), (F12.other W (Or.inr (slot_ne (Or.inl (hw _ (List.mem_of_getElem? (i := 78) rfl))) (Or.inr (hw _ (List.mem_of_getElem? (i := 27) rfl))) (by decide) (t := .int) (t' := (.array .int)) (by decide) (by decide)))), (F13.other W (Or.inr (slot_ne (Or.inl (hw _ (List.mem_of_getElem? (i := 56) rfl))) (Or.inr (hw _ (List.mem_of_getElem? (i := 27) rfl))) (by decide) (t := .long) (t' := (.array .int)) (by decide) (by decide)))), (F14.other W (Or.inr (slot_ne (Or.inl (hw _ (List.mem_of_getElem? (i := 60) rfl))) (Or.inr (hw _ (List.mem_of_getElem? (i := 27) rfl))) (by decide) (t := .int) (t' := (.array .int)) (by decide) (by decide))))⟩
theorem Pak.put_masks {Z : State} {n0 : Nat} {h h' : Heap} {o : Addr} {v_0 v_1 v_2 v_3 v_4 v_5 v_6 v_7 v_8 v_9 v_10 v_11 v_12 v_13 v_14 : Value} {a0 : Array Value} {v : Value} (hw : ∀ d ∈ tables_1, d.before a0 Z = true) (O : Pak Z n0 h o v_0 v_1 v_2 v_3 v_4 v_5 v_6 v_7 v_8 v_9 v_10 v_11 v_12 v_13 v_14) (W : Wr h h' o (Jvm.RoadKit.slotOf Z "com/example/tokenfold/tokenfold/statespace/Packing" "masks" "[J") v) : Pak Z n0 h' o v_0 v_1 v_2 v_3 v_4 v_5 v_6 v_7 v v_9 v_10 v_11 v_12 v_13 v_14 := by
  obtain ⟨q0, E, F0, F1, F2, F3, F4, F5, F6, F7, F8, F9, F10, F11, F12, F13, F14⟩ := O
  exact ⟨q0, E.wr W, (F0.other W (Or.inr (slot_ne (Or.inl (hw _ (List.mem_of_getElem? (i := 13) rfl))) (Or.inr (hw _ (List.mem_of_getElem? (i := 29) rfl))) (by decide) (t := (.array .int)) (t' := (.array .long)) (by decide) (by decide)))), (F1.other W (Or.inr (slot_ne (Or.inl (hw _ (List.mem_of_getElem? (i := 15) rfl))) (Or.inr (hw _ (List.mem_of_getElem? (i := 29) rfl))) (by decide) (t := (.array .int)) (t' := (.array .long)) (by decide) (by decide)))), (F2.other W (Or.inr (slot_ne (Or.inl (hw _ (List.mem_of_getElem? (i := 17) rfl))) (Or.inr (hw _ (List.mem_of_getElem? (i := 29) rfl))) (by decide) (t := (.array .int)) (t' := (.array .long)) (by decide) (by decide)))), (F3.other W (Or.inr (slot_ne (Or.inl (hw _ (List.mem_of_getElem? (i := 19) rfl))) (Or.inr (hw _ (List.mem_of_getElem? (i := 29) rfl))) (by decide) (t := (.array .int)) (t' := (.array .long)) (by decide) (by decide)))), (F4.other W (Or.inr (slot_ne (Or.inl (hw _ (List.mem_of_getElem? (i := 21) rfl))) (Or.inr (hw _ (List.mem_of_getElem? (i := 29) rfl))) (by decide) (t := (.array .long)) (t' := (.array .long)) (by decide) (by decide)))), (F5.other W (Or.inr (slot_ne (Or.inl (hw _ (List.mem_of_getElem? (i := 23) rfl))) (Or.inr (hw _ (List.mem_of_getElem? (i := 29) rfl))) (by decide) (t := (.array .int)) (t' := (.array .long)) (by decide) (by decide)))), (F6.other W (Or.inr (slot_ne (Or.inr (hw _ (List.mem_of_getElem? (i := 25) rfl))) (Or.inr (hw _ (List.mem_of_getElem? (i := 29) rfl))) (by decide) (t := (.array .int)) (t' := (.array .long)) (by decide) (by decide)))), (F7.other W (Or.inr (slot_ne (Or.inr (hw _ (List.mem_of_getElem? (i := 27) rfl))) (Or.inr (hw _ (List.mem_of_getElem? (i := 29) rfl))) (by decide) (t := (.array .int)) (t' := (.array .long)) (by decide) (by decide)))), (F8.same W), (F9.other W (Or.inr (slot_ne (Or.inr (hw _ (List.mem_of_getElem? (i := 31) rfl))) (Or.inr (hw _ (List.mem_of_getElem? (i := 29) rfl))) (by decide) (t := (.array .int)) (t' := (.array .long)) (by decide) (by decide)))), (F10.other W (Or.inr (slot_ne (Or.inr (hw _ (List.mem_of_getElem? (i := 33) rfl))) (Or.inr (hw _ (List.mem_of_getElem? (i := 29) rfl))) (by decide) (t := (.array .int)) (t' := (.array .long)) (by decide) (by decide)))), (F11.other W (Or.inr (slot_ne (Or.inr (hw _ (List.mem_of_getElem? (i := 35) rfl))) (Or.inr (hw _ (List.mem_of_getElem? (i := 29) rfl))) (by decide) (t := (.array .int)) (t' := (.array .long)) (by decide) (by decide)))), (F12.other W (Or.inr (slot_ne (Or.inl (hw _ (List.mem_of_getElem? (i := 78) rfl))) (Or.inr (hw _ (List.mem_of_getElem? (i := 29) rfl))) (by decide) (t := .int) (t' := (.array .long)) (by decide) (by decide)))), (F13.other W (Or.inr (slot_ne (Or.inl (hw _ (List.mem_of_getElem? (i := 56) rfl))) (Or.inr (hw _ (List.mem_of_getElem? (i := 29) rfl))) (by decide) (t := .long) (t' := (.array .long)) (by decide) (by decide)))), (F14.other W (Or.inr (slot_ne (Or.inl (hw _ (List.mem_of_getElem? (i := 60) rfl))) (Or.inr (hw _ (List.mem_of_getElem? (i := 29) rfl))) (by decide) (t := .int) (t' := (.array .long)) (by decide) (by decide))))⟩
theorem Pak.put_widths {Z : State} {n0 : Nat} {h h' : Heap} {o : Addr} {v_0 v_1 v_2 v_3 v_4 v_5 v_6 v_7 v_8 v_9 v_10 v_11 v_12 v_13 v_14 : Value} {a0 : Array Value} {v : Value} (hw : ∀ d ∈ tables_1, d.before a0 Z = true) (O : Pak Z n0 h o v_0 v_1 v_2 v_3 v_4 v_5 v_6 v_7 v_8 v_9 v_10 v_11 v_12 v_13 v_14) (W : Wr h h' o (Jvm.RoadKit.slotOf Z "com/example/tokenfold/tokenfold/statespace/Packing" "widths" "[I") v) : Pak Z n0 h' o v_0 v_1 v_2 v_3 v_4 v_5 v_6 v_7 v_8 v v_10 v_11 v_12 v_13 v_14 := by
  obtain ⟨q0, E, F0, F1, F2, F3, F4, F5, F6, F7, F8, F9, F10, F11, F12, F13, F14⟩ := O
  exact ⟨q0, E.wr W, (F0.other W (Or.inr (slot_ne (Or.inl (hw _ (List.mem_of_getElem? (i := 13) rfl))) (Or.inr (hw _ (List.mem_of_getElem? (i := 31) rfl))) (by decide) (t := (.array .int)) (t' := (.array .int)) (by decide) (by decide)))), (F1.other W (Or.inr (slot_ne (Or.inl (hw _ (List.mem_of_getElem? (i := 15) rfl))) (Or.inr (hw _ (List.mem_of_getElem? (i := 31) rfl))) (by decide) (t := (.array .int)) (t' := (.array .int)) (by decide) (by decide)))), (F2.other W (Or.inr (slot_ne (Or.inl (hw _ (List.mem_of_getElem? (i := 17) rfl))) (Or.inr (hw _ (List.mem_of_getElem? (i := 31) rfl))) (by decide) (t := (.array .int)) (t' := (.array .int)) (by decide) (by decide)))), (F3.other W (Or.inr (slot_ne (Or.inl (hw _ (List.mem_of_getElem? (i := 19) rfl))) (Or.inr (hw _ (List.mem_of_getElem? (i := 31) rfl))) (by decide) (t := (.array .int)) (t' := (.array .int)) (by decide) (by decide)))), (F4.other W (Or.inr (slot_ne (Or.inl (hw _ (List.mem_of_getElem? (i := 21) rfl))) (Or.inr (hw _ (List.mem_of_getElem? (i := 31) rfl))) (by decide) (t := (.array .long)) (t' := (.array .int)) (by decide) (by decide)))), (F5.other W (Or.inr (slot_ne (Or.inl (hw _ (List.mem_of_getElem? (i := 23) rfl))) (Or.inr (hw _ (List.mem_of_getElem? (i := 31) rfl))) (by decide) (t := (.array .int)) (t' := (.array .int)) (by decide) (by decide)))), (F6.other W (Or.inr (slot_ne (Or.inr (hw _ (List.mem_of_getElem? (i := 25) rfl))) (Or.inr (hw _ (List.mem_of_getElem? (i := 31) rfl))) (by decide) (t := (.array .int)) (t' := (.array .int)) (by decide) (by decide)))), (F7.other W (Or.inr (slot_ne (Or.inr (hw _ (List.mem_of_getElem? (i := 27) rfl))) (Or.inr (hw _ (List.mem_of_getElem? (i := 31) rfl))) (by decide) (t := (.array .int)) (t' := (.array .int)) (by decide) (by decide)))), (F8.other W (Or.inr (slot_ne (Or.inr (hw _ (List.mem_of_getElem? (i := 29) rfl))) (Or.inr (hw _ (List.mem_of_getElem? (i := 31) rfl))) (by decide) (t := (.array .long)) (t' := (.array .int)) (by decide) (by decide)))), (F9.same W), (F10.other W (Or.inr (slot_ne (Or.inr (hw _ (List.mem_of_getElem? (i := 33) rfl))) (Or.inr (hw _ (List.mem_of_getElem? (i := 31) rfl))) (by decide) (t := (.array .int)) (t' := (.array .int)) (by decide) (by decide)))), (F11.other W (Or.inr (slot_ne (Or.inr (hw _ (List.mem_of_getElem? (i := 35) rfl))) (Or.inr (hw _ (List.mem_of_getElem? (i := 31) rfl))) (by decide) (t := (.array .int)) (t' := (.array .int)) (by decide) (by decide)))), (F12.other W (Or.inr (slot_ne (Or.inl (hw _ (List.mem_of_getElem? (i := 78) rfl))) (Or.inr (hw _ (List.mem_of_getElem? (i := 31) rfl))) (by decide) (t := .int) (t' := (.array .int)) (by decide) (by decide)))), (F13.other W (Or.inr (slot_ne (Or.inl (hw _ (List.mem_of_getElem? (i := 56) rfl))) (Or.inr (hw _ (List.mem_of_getElem? (i := 31) rfl))) (by decide) (t := .long) (t' := (.array .int)) (by decide) (by decide)))), (F14.other W (Or.inr (slot_ne (Or.inl (hw _ (List.mem_of_getElem? (i := 60) rfl))) (Or.inr (hw _ (List.mem_of_getElem? (i := 31) rfl))) (by decide) (t := .int) (t' := (.array .int)) (by decide) (by decide))))⟩
theorem Pak.put_firstExtras {Z : State} {n0 : Nat} {h h' : Heap} {o : Addr} {v_0 v_1 v_2 v_3 v_4 v_5 v_6 v_7 v_8 v_9 v_10 v_11 v_12 v_13 v_14 : Value} {a0 : Array Value} {v : Value} (hw : ∀ d ∈ tables_1, d.before a0 Z = true) (O : Pak Z n0 h o v_0 v_1 v_2 v_3 v_4 v_5 v_6 v_7 v_8 v_9 v_10 v_11 v_12 v_13 v_14) (W : Wr h h' o (Jvm.RoadKit.slotOf Z "com/example/tokenfold/tokenfold/statespace/Packing" "firstExtras" "[I") v) : Pak Z n0 h' o v_0 v_1 v_2 v_3 v_4 v_5 v_6 v_7 v_8 v_9 v v_11 v_12 v_13 v_14 := by
  obtain ⟨q0, E, F0, F1, F2, F3, F4, F5, F6, F7, F8, F9, F10, F11, F12, F13, F14⟩ := O
  exact ⟨q0, E.wr W, (F0.other W (Or.inr (slot_ne (Or.inl (hw _ (List.mem_of_getElem? (i := 13) rfl))) (Or.inr (hw _ (List.mem_of_getElem? (i := 33) rfl))) (by decide) (t := (.array .int)) (t' := (.array .int)) (by decide) (by decide)))), (F1.other W (Or.inr (slot_ne (Or.inl (hw _ (List.mem_of_getElem? (i := 15) rfl))) (Or.inr (hw _ (List.mem_of_getElem? (i := 33) rfl))) (by decide) (t := (.array .int)) (t' := (.array .int)) (by decide) (by decide)))), (F2.other W (Or.inr (slot_ne (Or.inl (hw _ (List.mem_of_getElem? (i := 17) rfl))) (Or.inr (hw _ (List.mem_of_getElem? (i := 33) rfl))) (by decide) (t := (.array .int)) (t' := (.array .int)) (by decide) (by decide)))), (F3.other W (Or.inr (slot_ne (Or.inl (hw _ (List.mem_of_getElem? (i := 19) rfl))) (Or.inr (hw _ (List.mem_of_getElem? (i := 33) rfl))) (by decide) (t := (.array .int)) (t' := (.array .int)) (by decide) (by decide)))), (F4.other W (Or.inr (slot_ne (Or.inl (hw _ (List.mem_of_getElem? (i := 21) rfl))) (Or.inr (hw _ (List.mem_of_getElem? (i := 33) rfl))) (by decide) (t := (.array .long)) (t' := (.array .int)) (by decide) (by decide)))), (F5.other W (Or.inr (slot_ne (Or.inl (hw _ (List.mem_of_getElem? (i := 23) rfl))) (Or.inr (hw _ (List.mem_of_getElem? (i := 33) rfl))) (by decide) (t := (.array .int)) (t' := (.array .int)) (by decide) (by decide)))), (F6.other W (Or.inr (slot_ne (Or.inr (hw _ (List.mem_of_getElem? (i := 25) rfl))) (Or.inr (hw _ (List.mem_of_getElem? (i := 33) rfl))) (by decide) (t := (.array .int)) (t' := (.array .int)) (by decide) (by decide)))), (F7.other W (Or.inr (slot_ne (Or.inr (hw _ (List.mem_of_getElem? (i := 27) rfl))) (Or.inr (hw _ (List.mem_of_getElem? (i := 33) rfl))) (by decide) (t := (.array .int)) (t' := (.array .int)) (by decide) (by decide)))), (F8.other W (Or.inr (slot_ne (Or.inr (hw _ (List.mem_of_getElem? (i := 29) rfl))) (Or.inr (hw _ (List.mem_of_getElem? (i := 33) rfl))) (by decide) (t := (.array .long)) (t' := (.array .int)) (by decide) (by decide)))), (F9.other W (Or.inr (slot_ne (Or.inr (hw _ (List.mem_of_getElem? (i := 31) rfl))) (Or.inr (hw _ (List.mem_of_getElem? (i := 33) rfl))) (by decide) (t := (.array .int)) (t' := (.array .int)) (by decide) (by decide)))), (F10.same W), (F11.other W (Or.inr (slot_ne (Or.inr (hw _ (List.mem_of_getElem? (i := 35) rfl))) (Or.inr (hw _ (List.mem_of_getElem? (i := 33) rfl))) (by decide) (t := (.array .int)) (t' := (.array .int)) (by decide) (by decide)))), (F12.other W (Or.inr (slot_ne (Or.inl (hw _ (List.mem_of_getElem? (i := 78) rfl))) (Or.inr (hw _ (List.mem_of_getElem? (i := 33) rfl))) (by decide) (t := .int) (t' := (.array .int)) (by decide) (by decide)))), (F13.other W (Or.inr (slot_ne (Or.inl (hw _ (List.mem_of_getElem? (i := 56) rfl))) (Or.inr (hw _ (List.mem_of_getElem? (i := 33) rfl))) (by decide) (t := .long) (t' := (.array .int)) (by decide) (by decide)))), (F14.other W (Or.inr (slot_ne (Or.inl (hw _ (List.mem_of_getElem? (i := 60) rfl))) (Or.inr (hw _ (List.mem_of_getElem? (i := 33) rfl))) (by decide) (t := .int) (t' := (.array .int)) (by decide) (by decide))))⟩
theorem Pak.put_lastExtras {Z : State} {n0 : Nat} {h h' : Heap} {o : Addr} {v_0 v_1 v_2 v_3 v_4 v_5 v_6 v_7 v_8 v_9 v_10 v_11 v_12 v_13 v_14 : Value} {a0 : Array Value} {v : Value} (hw : ∀ d ∈ tables_1, d.before a0 Z = true) (O : Pak Z n0 h o v_0 v_1 v_2 v_3 v_4 v_5 v_6 v_7 v_8 v_9 v_10 v_11 v_12 v_13 v_14) (W : Wr h h' o (Jvm.RoadKit.slotOf Z "com/example/tokenfold/tokenfold/statespace/Packing" "lastExtras" "[I") v) : Pak Z n0 h' o v_0 v_1 v_2 v_3 v_4 v_5 v_6 v_7 v_8 v_9 v_10 v v_12 v_13 v_14 := by
  obtain ⟨q0, E, F0, F1, F2, F3, F4, F5, F6, F7, F8, F9, F10, F11, F12, F13, F14⟩ := O
  exact ⟨q0, E.wr W, (F0.other W (Or.inr (slot_ne (Or.inl (hw _ (List.mem_of_getElem? (i := 13) rfl))) (Or.inr (hw _ (List.mem_of_getElem? (i := 35) rfl))) (by decide) (t := (.array .int)) (t' := (.array .int)) (by decide) (by decide)))), (F1.other W (Or.inr (slot_ne (Or.inl (hw _ (List.mem_of_getElem? (i := 15) rfl))) (Or.inr (hw _ (List.mem_of_getElem? (i := 35) rfl))) (by decide) (t := (.array .int)) (t' := (.array .int)) (by decide) (by decide)))), (F2.other W (Or.inr (slot_ne (Or.inl (hw _ (List.mem_of_getElem? (i := 17) rfl))) (Or.inr (hw _ (List.mem_of_getElem? (i := 35) rfl))) (by decide) (t := (.array .int)) (t' := (.array .int)) (by decide) (by decide)))), (F3.other W (Or.inr (slot_ne (Or.inl (hw _ (List.mem_of_getElem? (i := 19) rfl))) (Or.inr (hw _ (List.mem_of_getElem? (i := 35) rfl))) (by decide) (t := (.array .int)) (t' := (.array .int)) (by decide) (by decide)))), (F4.other W (Or.inr (slot_ne (Or.inl (hw _ (List.mem_of_getElem? (i := 21) rfl))) (Or.inr (hw _ (List.mem_of_getElem? (i := 35) rfl))) (by decide) (t := (.array .long)) (t' := (.array .int)) (by decide) (by decide)))), (F5.other W (Or.inr (slot_ne (Or.inl (hw _ (List.mem_of_getElem? (i := 23) rfl))) (Or.inr (hw _ (List.mem_of_getElem? (i := 35) rfl))) (by decide) (t := (.array .int)) (t' := (.array .int)) (by decide) (by decide)))), (F6.other W (Or.inr (slot_ne (Or.inr (hw _ (List.mem_of_getElem? (i := 25) rfl))) (Or.inr (hw _ (List.mem_of_getElem? (i := 35) rfl))) (by decide) (t := (.array .int)) (t' := (.array .int)) (by decide) (by decide)))), (F7.other W (Or.inr (slot_ne (Or.inr (hw _ (List.mem_of_getElem? (i := 27) rfl))) (Or.inr (hw _ (List.mem_of_getElem? (i := 35) rfl))) (by decide) (t := (.array .int)) (t' := (.array .int)) (by decide) (by decide)))), (F8.other W (Or.inr (slot_ne (Or.inr (hw _ (List.mem_of_getElem? (i := 29) rfl))) (Or.inr (hw _ (List.mem_of_getElem? (i := 35) rfl))) (by decide) (t := (.array .long)) (t' := (.array .int)) (by decide) (by decide)))), (F9.other W (Or.inr (slot_ne (Or.inr (hw _ (List.mem_of_getElem? (i := 31) rfl))) (Or.inr (hw _ (List.mem_of_getElem? (i := 35) rfl))) (by decide) (t := (.array .int)) (t' := (.array .int)) (by decide) (by decide)))), (F10.other W (Or.inr (slot_ne (Or.inr (hw _ (List.mem_of_getElem? (i := 33) rfl))) (Or.inr (hw _ (List.mem_of_getElem? (i := 35) rfl))) (by decide) (t := (.array .int)) (t' := (.array .int)) (by decide) (by decide)))), (F11.same W), (F12.other W (Or.inr (slot_ne (Or.inl (hw _ (List.mem_of_getElem? (i := 78) rfl))) (Or.inr (hw _ (List.mem_of_getElem? (i := 35) rfl))) (by decide) (t := .int) (t' := (.array .int)) (by decide) (by decide)))), (F13.other W (Or.inr (slot_ne (Or.inl (hw _ (List.mem_of_getElem? (i := 56) rfl))) (Or.inr (hw _ (List.mem_of_getElem? (i := 35) rfl))) (by decide) (t := .long) (t' := (.array .int)) (by decide) (by decide)))), (F14.other W (Or.inr (slot_ne (Or.inl (hw _ (List.mem_of_getElem? (i := 60) rfl))) (Or.inr (hw _ (List.mem_of_getElem? (i := 35) rfl))) (by decide) (t := .int) (t' := (.array .int)) (by decide) (by decide))))⟩
theorem Pak.put_extras {Z : State} {n0 : Nat} {h h' : Heap} {o : Addr} {v_0 v_1 v_2 v_3 v_4 v_5 v_6 v_7 v_8 v_9 v_10 v_11 v_12 v_13 v_14 : Value} {a0 : Array Value} {v : Value} (hw : ∀ d ∈ tables_1, d.before a0 Z = true) (O : Pak Z n0 h o v_0 v_1 v_2 v_3 v_4 v_5 v_6 v_7 v_8 v_9 v_10 v_11 v_12 v_13 v_14) (W : Wr h h' o (Jvm.RoadKit.slotOf Z "com/example/tokenfold/tokenfold/statespace/Packing" "extras" "I") v) : Pak Z n0 h' o v_0 v_1 v_2 v_3 v_4 v_5 v_6 v_7 v_8 v_9 v_10 v_11 v v_13 v_14 := by
  obtain ⟨q0, E, F0, F1, F2, F3, F4, F5, F6, F7, F8, F9, F10, F11, F12, F13, F14⟩ := O
  exact ⟨q0, E.wr W, (F0.other W (Or.inr (slot_ne (Or.inl (hw _ (List.mem_of_getElem? (i := 13) rfl))) (Or.inl (hw _ (List.mem_of_getElem? (i := 78) rfl))) (by decide) (t := (.array .int)) (t' := .int) (by decide) (by decide)))), (F1.other W (Or.inr (slot_ne (Or.inl (hw _ (List.mem_of_getElem? (i := 15) rfl))) (Or.inl (hw _ (List.mem_of_getElem? (i := 78) rfl))) (by decide) (t := (.array .int)) (t' := .int) (by decide) (by decide)))), (F2.other W (Or.inr (slot_ne (Or.inl (hw _ (List.mem_of_getElem? (i := 17) rfl))) (Or.inl (hw _ (List.mem_of_getElem? (i := 78) rfl))) (by decide) (t := (.array .int)) (t' := .int) (by decide) (by decide)))), (F3.other W (Or.inr (slot_ne (Or.inl (hw _ (List.mem_of_getElem? (i := 19) rfl))) (Or.inl (hw _ (List.mem_of_getElem? (i := 78) rfl))) (by decide) (t := (.array .int)) (t' := .int) (by decide) (by decide)))), (F4.other W (Or.inr (slot_ne (Or.inl (hw _ (List.mem_of_getElem? (i := 21) rfl))) (Or.inl (hw _ (List.mem_of_getElem? (i := 78) rfl))) (by decide) (t := (.array .long)) (t' := .int) (by decide) (by decide)))), (F5.other W (Or.inr (slot_ne (Or.inl (hw _ (List.mem_of_getElem? (i := 23) rfl))) (Or.inl (hw _ (List.mem_of_getElem? (i := 78) rfl))) (by decide) (t := (.array .int)) (t' := .int) (by decide) (by decide)))), (F6.other W (Or.inr (slot_ne (Or.inr (hw _ (List.mem_of_getElem? (i := 25) rfl))) (Or.inl (hw _ (List.mem_of_getElem? (i := 78) rfl))) (by decide) (t := (.array .int)) (t' := .int) (by decide) (by decide)))), (F7.other W (Or.inr (slot_ne (Or.inr (hw _ (List.mem_of_getElem? (i := 27) rfl))) (Or.inl (hw _ (List.mem_of_getElem? (i := 78) rfl))) (by decide) (t := (.array .int)) (t' := .int) (by decide) (by decide)))), (F8.other W (Or.inr (slot_ne (Or.inr (hw _ (List.mem_of_getElem? (i := 29) rfl))) (Or.inl (hw _ (List.mem_of_getElem? (i := 78) rfl))) (by decide) (t := (.array .long)) (t' := .int) (by decide) (by decide)))), (F9.other W (Or.inr (slot_ne (Or.inr (hw _ (List.mem_of_getElem? (i := 31) rfl))) (Or.inl (hw _ (List.mem_of_getElem? (i := 78) rfl))) (by decide) (t := (.array .int)) (t' := .int) (by decide) (by decide)))), (F10.other W (Or.inr (slot_ne (Or.inr (hw _ (List.mem_of_getElem? (i := 33) rfl))) (Or.inl (hw _ (List.mem_of_getElem? (i := 78) rfl))) (by decide) (t := (.array .int)) (t' := .int) (by decide) (by decide)))), (F11.other W (Or.inr (slot_ne (Or.inr (hw _ (List.mem_of_getElem? (i := 35) rfl))) (Or.inl (hw _ (List.mem_of_getElem? (i := 78) rfl))) (by decide) (t := (.array .int)) (t' := .int) (by decide) (by decide)))), (F12.same W), (F13.other W (Or.inr (slot_ne (Or.inl (hw _ (List.mem_of_getElem? (i := 56) rfl))) (Or.inl (hw _ (List.mem_of_getElem? (i := 78) rfl))) (by decide) (t := .long) (t' := .int) (by decide) (by decide)))), (F14.other W (Or.inr (slot_ne (Or.inl (hw _ (List.mem_of_getElem? (i := 60) rfl))) (Or.inl (hw _ (List.mem_of_getElem? (i := 78) rfl))) (by decide) (t := .int) (t' := .int) (by decide) (by decide))))⟩
theorem Pak.put_end {Z : State} {n0 : Nat} {h h' : Heap} {o : Addr} {v_0 v_1 v_2 v_3 v_4 v_5 v_6 v_7 v_8 v_9 v_10 v_11 v_12 v_13 v_14 : Value} {a0 : Array Value} {v : Value} (hw : ∀ d ∈ tables_1, d.before a0 Z = true) (O : Pak Z n0 h o v_0 v_1 v_2 v_3 v_4 v_5 v_6 v_7 v_8 v_9 v_10 v_11 v_12 v_13 v_14) (W : Wr h h' o (Jvm.RoadKit.slotOf Z "com/example/tokenfold/tokenfold/statespace/Packing" "end" "J") v) : Pak Z n0 h' o v_0 v_1 v_2 v_3 v_4 v_5 v_6 v_7 v_8 v_9 v_10 v_11 v_12 v v_14 := by
  obtain ⟨q0, E, F0, F1, F2, F3, F4, F5, F6, F7, F8, F9, F10, F11, F12, F13, F14⟩ := O
  exact ⟨q0, E.wr W, (F0.other W (Or.inr (slot_ne (Or.inl (hw _ (List.mem_of_getElem? (i := 13) rfl))) (Or.inl (hw _ (List.mem_of_getElem? (i := 56) rfl))) (by decide) (t := (.array .int)) (t' := .long) (by decide) (by decide)))), (F1.other W (Or.inr (slot_ne (Or.inl (hw _ (List.mem_of_getElem? (i := 15) rfl))) (Or.inl (hw _ (List.mem_of_getElem? (i := 56) rfl))) (by decide) (t := (.array .int)) (t' := .long) (by decide) (by decide)))), (F2.other W (Or.inr (slot_ne (Or.inl (hw _ (List.mem_of_getElem? (i := 17) rfl))) (Or.inl (hw _ (List.mem_of_getElem? (i := 56) rfl))) (by decide) (t := (.array .int)) (t' := .long) (by decide) (by decide)))), (F3.other W (Or.inr (slot_ne (Or.inl (hw _ (List.mem_of_getElem? (i := 19) rfl))) (Or.inl (hw _ (List.mem_of_getElem? (i := 56) rfl))) (by decide) (t := (.array .int)) (t' := .long) (by decide) (by decide)))), (F4.other W (Or.inr (slot_ne (Or.inl (hw _ (List.mem_of_getElem? (i := 21) rfl))) (Or.inl (hw _ (List.mem_of_getElem? (i := 56) rfl))) (by decide) (t := (.array .long)) (t' := .long) (by decide) (by decide)))), (F5.other W (Or.inr (slot_ne (Or.inl (hw _ (List.mem_of_getElem? (i := 23) rfl))) (Or.inl (hw _ (List.mem_of_getElem? (i := 56) rfl))) (by decide) (t := (.array .int)) (t' := .long) (by decide) (by decide)))), (F6.other W (Or.inr (slot_ne (Or.inr (hw _ (List.mem_of_getElem? (i := 25) rfl))) (Or.inl (hw _ (List.mem_of_getElem? (i := 56) rfl))) (by decide) (t := (.array .int)) (t' := .long) (by decide) (by decide)))), (F7.other W (Or.inr (slot_ne (Or.inr (hw _ (List.mem_of_getElem? (i := 27) rfl))) (Or.inl (hw _ (List.mem_of_getElem? (i := 56) rfl))) (by decide) (t := (.array .int)) (t' := .long) (by decide) (by decide)))), (F8.other W (Or.inr (slot_ne (Or.inr (hw _ (List.mem_of_getElem? (i := 29) rfl))) (Or.inl (hw _ (List.mem_of_getElem? (i := 56) rfl))) (by decide) (t := (.array .long)) (t' := .long) (by decide) (by decide)))), (F9.other W (Or.inr (slot_ne (Or.inr (hw _ (List.mem_of_getElem? (i := 31) rfl))) (Or.inl (hw _ (List.mem_of_getElem? (i := 56) rfl))) (by decide) (t := (.array .int)) (t' := .long) (by decide) (by decide)))), (F10.other W (Or.inr (slot_ne (Or.inr (hw _ (List.mem_of_getElem? (i := 33) rfl))) (Or.inl (hw _ (List.mem_of_getElem? (i := 56) rfl))) (by decide) (t := (.array .int)) (t' := .long) (by decide) (by decide)))), (F11.other W (Or.inr (slot_ne (Or.inr (hw _ (List.mem_of_getElem? (i := 35) rfl))) (Or.inl (hw _ (List.mem_of_getElem? (i := 56) rfl))) (by decide) (t := (.array .int)) (t' := .long) (by decide) (by decide)))), (F12.other W (Or.inr (slot_ne (Or.inl (hw _ (List.mem_of_getElem? (i := 78) rfl))) (Or.inl (hw _ (List.mem_of_getElem? (i := 56) rfl))) (by decide) (t := .int) (t' := .long) (by decide) (by decide)))), (F13.same W), (F14.other W (Or.inr (slot_ne (Or.inl (hw _ (List.mem_of_getElem? (i := 60) rfl))) (Or.inl (hw _ (List.mem_of_getElem? (i := 56) rfl))) (by decide) (t := .int) (t' := .long) (by decide) (by decide))))⟩
theorem Pak.put_recordWords {Z : State} {n0 : Nat} {h h' : Heap} {o : Addr} {v_0 v_1 v_2 v_3 v_4 v_5 v_6 v_7 v_8 v_9 v_10 v_11 v_12 v_13 v_14 : Value} {a0 : Array Value} {v : Value} (hw : ∀ d ∈ tables_1, d.before a0 Z = true) (O : Pak Z n0 h o v_0 v_1 v_2 v_3 v_4 v_5 v_6 v_7 v_8 v_9 v_10 v_11 v_12 v_13 v_14) (W : Wr h h' o (Jvm.RoadKit.slotOf Z "com/example/tokenfold/tokenfold/statespace/Packing" "recordWords" "I") v) : Pak Z n0 h' o v_0 v_1 v_2 v_3 v_4 v_5 v_6 v_7 v_8 v_9 v_10 v_11 v_12 v_13 v := by
  obtain ⟨q0, E, F0, F1, F2, F3, F4, F5, F6, F7, F8, F9, F10, F11, F12, F13, F14⟩ := O
  exact ⟨q0, E.wr W, (F0.other W (Or.inr (slot_ne (Or.inl (hw _ (List.mem_of_getElem? (i := 13) rfl))) (Or.inl (hw _ (List.mem_of_getElem? (i := 60) rfl))) (by decide) (t := (.array .int)) (t' := .int) (by decide) (by decide)))), (F1.other W (Or.inr (slot_ne (Or.inl (hw _ (List.mem_of_getElem? (i := 15) rfl))) (Or.inl (hw _ (List.mem_of_getElem? (i := 60) rfl))) (by decide) (t := (.array .int)) (t' := .int) (by decide) (by decide)))), (F2.other W (Or.inr (slot_ne (Or.inl (hw _ (List.mem_of_getElem? (i := 17) rfl))) (Or.inl (hw _ (List.mem_of_getElem? (i := 60) rfl))) (by decide) (t := (.array .int)) (t' := .int) (by decide) (by decide)))), (F3.other W (Or.inr (slot_ne (Or.inl (hw _ (List.mem_of_getElem? (i := 19) rfl))) (Or.inl (hw _ (List.mem_of_getElem? (i := 60) rfl))) (by decide) (t := (.array .int)) (t' := .int) (by decide) (by decide)))), (F4.other W (Or.inr (slot_ne (Or.inl (hw _ (List.mem_of_getElem? (i := 21) rfl))) (Or.inl (hw _ (List.mem_of_getElem? (i := 60) rfl))) (by decide) (t := (.array .long)) (t' := .int) (by decide) (by decide)))), (F5.other W (Or.inr (slot_ne (Or.inl (hw _ (List.mem_of_getElem? (i := 23) rfl))) (Or.inl (hw _ (List.mem_of_getElem? (i := 60) rfl))) (by decide) (t := (.array .int)) (t' := .int) (by decide) (by decide)))), (F6.other W (Or.inr (slot_ne (Or.inr (hw _ (List.mem_of_getElem? (i := 25) rfl))) (Or.inl (hw _ (List.mem_of_getElem? (i := 60) rfl))) (by decide) (t := (.array .int)) (t' := .int) (by decide) (by decide)))), (F7.other W (Or.inr (slot_ne (Or.inr (hw _ (List.mem_of_getElem? (i := 27) rfl))) (Or.inl (hw _ (List.mem_of_getElem? (i := 60) rfl))) (by decide) (t := (.array .int)) (t' := .int) (by decide) (by decide)))), (F8.other W (Or.inr (slot_ne (Or.inr (hw _ (List.mem_of_getElem? (i := 29) rfl))) (Or.inl (hw _ (List.mem_of_getElem? (i := 60) rfl))) (by decide) (t := (.array .long)) (t' := .int) (by decide) (by decide)))), (F9.other W (Or.inr (slot_ne (Or.inr (hw _ (List.mem_of_getElem? (i := 31) rfl))) (Or.inl (hw _ (List.mem_of_getElem? (i := 60) rfl))) (by decide) (t := (.array .int)) (t' := .int) (by decide) (by decide)))), (F10.other W (Or.inr (slot_ne (Or.inr (hw _ (List.mem_of_getElem? (i := 33) rfl))) (Or.inl (hw _ (List.mem_of_getElem? (i := 60) rfl))) (by decide) (t := (.array .int)) (t' := .int) (by decide) (by decide)))), (F11.other W (Or.inr (slot_ne (Or.inr (hw _ (List.mem_of_getElem? (i := 35) rfl))) (Or.inl (hw _ (List.mem_of_getElem? (i := 60) rfl))) (by decide) (t := (.array .int)) (t' := .int) (by decide) (by decide)))), (F12.other W (Or.inr (slot_ne (Or.inl (hw _ (List.mem_of_getElem? (i := 78) rfl))) (Or.inl (hw _ (List.mem_of_getElem? (i := 60) rfl))) (by decide) (t := .int) (t' := .int) (by decide) (by decide)))), (F13.other W (Or.inr (slot_ne (Or.inl (hw _ (List.mem_of_getElem? (i := 56) rfl))) (Or.inl (hw _ (List.mem_of_getElem? (i := 60) rfl))) (by decide) (t := .long) (t' := .int) (by decide) (by decide)))), (F14.same W)⟩
theorem Pak.new {Z : State} {n0 : Nat} {h : Heap} {o : Addr} {a0 : Array Value} (hw : ∀ d ∈ tables_1, d.before a0 Z = true) (q0 : n0 ≤ o) (E : Exa Z h o "com/example/tokenfold/tokenfold/statespace/Packing") (D : ∀ {O nm d : String} {ty : FieldType}, Laid Z a0 "com/example/tokenfold/tokenfold/statespace/Packing" O nm d → parseFieldDescriptor d = some ty → Fld Z h o O nm d (defaultValue ty)) : Pak Z n0 h o .null .null .null .null .null .null .null .null .null .null .null .null (.int 0) (.long 0) (.int 0) := ⟨q0, E, D (Or.inl (hw _ (List.mem_of_getElem? (i := 13) rfl))) (ty := (.array .int)) (by decide), D (Or.inl (hw _ (List.mem_of_getElem? (i := 15) rfl))) (ty := (.array .int)) (by decide), D (Or.inl (hw _ (List.mem_of_getElem? (i := 17) rfl))) (ty := (.array .int)) (by decide), D (Or.inl (hw _ (List.mem_of_getElem? (i := 19) rfl))) (ty := (.array .int)) (by decide), D (Or.inl (hw _ (List.mem_of_getElem? (i := 21) rfl))) (ty := (.array .long)) (by decide), D (Or.inl (hw _ (List.mem_of_getElem? (i := 23) rfl))) (ty := (.array .int)) (by decide), D (Or.inr (hw _ (List.mem_of_getElem? (i := 25) rfl))) (ty := (.array .int)) (by decide), D (Or.inr (hw _ (List.mem_of_getElem? (i := 27) rfl))) (ty := (.array .int)) (by decide), D (Or.inr (hw _ (List.mem_of_getElem? (i := 29) rfl))) (ty := (.array .long)) (by decide), D (Or.inr (hw _ (List.mem_of_getElem? (i := 31) rfl))) (ty := (.array .int)) (by decide), D (Or.inr (hw _ (List.mem_of_getElem? (i := 33) rfl))) (ty := (.array .int)) (by decide), D (Or.inr (hw _ (List.mem_of_getElem? (i := 35) rfl))) (ty := (.array .int)) (by decide), D (Or.inl (hw _ (List.mem_of_getElem? (i := 78) rfl))) (ty := .int) (by decide), D (Or.inl (hw _ (List.mem_of_getElem? (i := 56) rfl))) (ty := .long) (by decide), D (Or.inl (hw _ (List.mem_of_getElem? (i := 60) rfl))) (ty := .int) (by decide)⟩
theorem Pak_memW {Z : State} {n0 : Nat} {h h' : Heap} {o : Addr} {v_0 v_1 v_2 v_3 v_4 v_5 v_6 v_7 v_8 v_9 v_10 v_11 v_12 v_13 v_14 : Value} {a0 : Array Value} {sl : Nat} {v : Value} {L : List Ent} (hw : ∀ d ∈ tables_1, d.before a0 Z = true) (O : Pak Z n0 h o v_0 v_1 v_2 v_3 v_4 v_5 v_6 v_7 v_8 v_9 v_10 v_11 v_12 v_13 v_14) (M : Mem Z n0 h L) (W : Wr h h' o sl v) : Mem Z n0 h' L := ⟨fun i a ty n g e => O.baW hw (M.1 i a ty n g e) W, M.2⟩
theorem Pak_memK {Z : State} {n0 : Nat} {h h' : Heap} {o : Addr} {v_0 v_1 v_2 v_3 v_4 v_5 v_6 v_7 v_8 v_9 v_10 v_11 v_12 v_13 v_14 : Value} {a0 : Array Value} {L : List Ent} (hw : ∀ d ∈ tables_1, d.before a0 Z = true) (O : Pak Z n0 h o v_0 v_1 v_2 v_3 v_4 v_5 v_6 v_7 v_8 v_9 v_10 v_11 v_12 v_13 v_14) (M : Mem Z n0 h L) (K : Keep h h' [o]) : Mem Z n0 h' L := ⟨fun i a ty n g e => O.baK hw (M.1 i a ty n g e) K, M.2⟩
theorem ef_6 (m : MethodId) (x1 : Int32) (x2 : Int32) : entryFrame m #[(.int x1), (.int x2)] 2 = mkF m 0 #[.val (.int x1), .val (.int x2)] [] := by first | (simp [entryFrame, mkF, argsToLocals, Value.category]; done) | rfl
set_option maxRecDepth 65536 in
set_option maxHeartbeats 40000000 in
theorem rmMax {l : Launch} {Z : State} {a0 : Array Value} {n0 : Nat} {h : Heap} (hw : ∀ d ∈ tables_1, d.before a0 Z = true) (hn : n0 ≤ h.size) (x1 : Int32) (x2 : Int32) (u1 u2 : Nat) (h1 : u1 < 2147483648) (h2 : u2 < 2147483648) (e1 : x1 = Int32.ofNat u1) (e2 : x2 = Int32.ofNat u2) :
    Ctr l Z n0 (⟨"java/lang/Math", "max", "(II)I"⟩ : MethodName) jdk_29_method_65_code 2 (some .int) ({ frames := 0, cells := 0, slots := 0, locals := 0 } : Room) [] #[(.int x1), (.int x2)] h (fun v h' => v = some (.int (Int32.ofNat (max u1 u2))) ∧ h = h') := by
  refine ctr_of (Jvm.Free.JP.mathPlain rfl (by decide +kernel)) hw hn ?_
  intro p e s m below meth c T X
  refine Wp.cast (ef_6 m x1 x2) ?_
  subst e1 e2
  refine w_iloadN X D6_0 rfl ?_
  refine w_iloadN X D6_1 rfl ?_
  refine w_icmplt X D6_2 (fun hc2 => ?_) (fun hc2 => ?_)
  · refine w_iloadN X D6_9 rfl ?_
    exact w_ireturn X D6_10 (by decide) (by decide) (⟨by
            have f := (ofNat_lt h1 h2).mp hc2
            rw [Nat.max_eq_right (by omega)], rfl⟩)
  · refine w_iloadN X D6_5 rfl ?_
    refine w_goto X D6_6 ?_
    exact w_ireturn X D6_10 (by decide) (by decide) (⟨by
            have f : ¬ u1 < u2 := fun z => hc2 ((ofNat_lt h1 h2).mpr z)
            rw [Nat.max_eq_left (by omega)], rfl⟩)
theorem ef_14 (m : MethodId) (x1 : Int32) (x2 : Int32) : entryFrame m #[(.int x1), (.int x2)] 2 = mkF m 0 #[.val (.int x1), .val (.int x2)] [] := by first | (simp [entryFrame, mkF, argsToLocals, Value.category]; done) | rfl
set_option maxRecDepth 65536 in
set_option maxHeartbeats 40000000 in
theorem rmMin {l : Launch} {Z : State} {a0 : Array Value} {n0 : Nat} {h : Heap} (hw : ∀ d ∈ tables_1, d.before a0 Z = true) (hn : n0 ≤ h.size) (x1 : Int32) (x2 : Int32) (u1 u2 : Nat) (h1 : u1 < 2147483648) (h2 : u2 < 2147483648) (e1 : x1 = Int32.ofNat u1) (e2 : x2 = Int32.ofNat u2) :
    Ctr l Z n0 (⟨"java/lang/Math", "min", "(II)I"⟩ : MethodName) jdk_29_method_69_code 2 (some .int) ({ frames := 0, cells := 0, slots := 0, locals := 0 } : Room) [] #[(.int x1), (.int x2)] h (fun v h' => v = some (.int (Int32.ofNat (min u1 u2))) ∧ h = h') := by
  refine ctr_of (Jvm.Free.JP.mathPlain rfl (by decide +kernel)) hw hn ?_
  intro p e s m below meth c T X
  refine Wp.cast (ef_14 m x1 x2) ?_
  subst e1 e2
  refine w_iloadN X D14_0 rfl ?_
  refine w_iloadN X D14_1 rfl ?_
  refine w_icmpgt X D14_2 (fun hc2 => ?_) (fun hc2 => ?_)
  · refine w_iloadN X D14_9 rfl ?_
    exact w_ireturn X D14_10 (by decide) (by decide) (⟨by
            have f := (ofNat_lt h2 h1).mp hc2
            rw [Nat.min_eq_right (by omega)], rfl⟩)
  · refine w_iloadN X D14_5 rfl ?_
    refine w_goto X D14_6 ?_
    exact w_ireturn X D14_10 (by decide) (by decide) (⟨by
            have f : ¬ u2 < u1 := fun z => hc2 ((ofNat_lt h2 h1).mpr z)
            rw [Nat.min_eq_left (by omega)], rfl⟩)
theorem ef_18 (m : MethodId) (x1 : Int64) (x2 : Int64) : entryFrame m #[(.long x1), (.long x2)] 4 = mkF m 0 #[.val (.long x1), .second, .val (.long x2), .second] [] := by first | (simp [entryFrame, mkF, argsToLocals, Value.category]; done) | rfl
set_option maxRecDepth 65536 in
set_option maxHeartbeats 40000000 in
theorem rmMaxL {l : Launch} {Z : State} {a0 : Array Value} {n0 : Nat} {h : Heap} (hw : ∀ d ∈ tables_1, d.before a0 Z = true) (hn : n0 ≤ h.size) (x1 : Int64) (x2 : Int64) (u1 u2 : Nat) (h1 : u1 < 9223372036854775808) (h2 : u2 < 9223372036854775808) (e1 : x1 = Int64.ofNat u1) (e2 : x2 = Int64.ofNat u2) :
    Ctr l Z n0 (⟨"java/lang/Math", "max", "(JJ)J"⟩ : MethodName) jdk_29_method_66_code 4 (some .long) ({ frames := 0, cells := 0, slots := 0, locals := 0 } : Room) [] #[(.long x1), (.long x2)] h (fun v h' => v = some (.long (Int64.ofNat (max u1 u2))) ∧ h = h') := by
  refine ctr_of (Jvm.Free.JP.mathPlain rfl (by decide +kernel)) hw hn ?_
  intro p e s m below meth c T X
  refine Wp.cast (ef_18 m x1 x2) ?_
  subst e1 e2
  refine w_lloadN X D18_0 rfl ?_
  refine w_lloadN X D18_1 rfl ?_
  refine w_lcmplt X D18_2 D18_3 (fun hc3 => ?_) (fun hc3 => ?_)
  · refine w_lloadN X D18_10 rfl ?_
    exact w_lreturn X D18_11 (by decide) (by decide) (⟨by
            have f := (nL_lt h1 h2).mp hc3
            rw [Nat.max_eq_right (by omega)], rfl⟩)
  · refine w_lloadN X D18_6 rfl ?_
    refine w_goto X D18_7 ?_
    exact w_lreturn X D18_11 (by decide) (by decide) (⟨by
            have f : ¬ u1 < u2 := fun z => hc3 ((nL_lt h1 h2).mpr z)
            rw [Nat.max_eq_left (by omega)], rfl⟩)
theorem ef_19 (m : MethodId) (x1 : Int64) : entryFrame m #[(.long x1)] 2 = mkF m 0 #[.val (.long x1), .second] [] := by first | (simp [entryFrame, mkF, argsToLocals, Value.category]; done) | rfl
set_option maxRecDepth 65536 in
set_option maxHeartbeats 40000000 in
theorem rmTI {l : Launch} {Z : State} {a0 : Array Value} {n0 : Nat} {h : Heap} (hw : ∀ d ∈ tables_1, d.before a0 Z = true) (hn : n0 ≤ h.size) (x1 : Int64) (u : Nat) (hu : u < 2147483648) (e1 : x1 = Int64.ofNat u) :
    Ctr l Z n0 (⟨"java/lang/Math", "toIntExact", "(J)I"⟩ : MethodName) jdk_29_method_43_code 2 (some .int) ({ frames := 0, cells := 0, slots := 0, locals := 0 } : Room) [] #[(.long x1)] h (fun v h' => v = some (.int (Int32.ofNat u)) ∧ h = h') := by
  refine ctr_of (Jvm.Free.JP.mathPlain rfl (by decide +kernel)) hw hn ?_
  intro p e s m below meth c T X
  refine Wp.cast (ef_19 m x1) ?_
  subst e1
  refine w_lloadN X D19_0 rfl ?_
  refine w_l2i X D19_1 ?_
  refine w_i2l X D19_2 ?_
  refine w_lloadN X D19_3 rfl ?_
  refine w_lcmpeq X D19_4 D19_5 (fun hc5 => ?_) (fun hc5 => by exact absurd (by rw [n_l2i, n_i2l hu]) hc5)
  refine w_lloadN X D19_18 rfl ?_
  refine w_l2i X D19_19 ?_
  rw [n_l2i]
  exact w_ireturn X D19_20 (by decide) (by decide) (⟨rfl, rfl⟩)
theorem ef_5 (m : MethodId) (x1 : Int32) : entryFrame m #[(.int x1)] 2 = mkF m 0 #[.val (.int x1), .unset] [] := by first | (simp [entryFrame, mkF, argsToLocals, Value.category]; done) | rfl
theorem pn_5 : plainName "java/lang/Integer" = true := by first | (simp [plainName, overriddenIn]; done) | decide +kernel
set_option maxRecDepth 65536 in
set_option maxHeartbeats 40000000 in
theorem rmZ {l : Launch} {Z : State} {a0 : Array Value} {n0 : Nat} {h : Heap} (hw : ∀ d ∈ tables_1, d.before a0 Z = true) (hn : n0 ≤ h.size) (x1 : Int32) (u bl : Nat) (e1 : x1 = Int32.ofNat u) (hp : u < 2147483648) (h1 : u < 2 ^ bl) (h2 : bl = 0 ∨ 2 ^ (bl - 1) ≤ u) :
    Ctr l Z n0 (⟨"java/lang/Integer", "numberOfLeadingZeros", "(I)I"⟩ : MethodName) jdk_33_method_47_code 2 (some .int) ({ frames := 0, cells := 0, slots := 0, locals := 0 } : Room) [] #[(.int x1)] h (fun v h' => v = some (.int (Int32.ofNat (32 - bl))) ∧ h = h') := by
  refine ctr_of (plainFor_of_name pn_5) hw hn ?_
  intro p e s m below meth c T X
  refine Wp.cast (ef_5 m x1) ?_
  subst e1
  refine w_iloadN X D5_0 rfl ?_
  refine w_ifgt X D5_1 (fun hc1 => ?_) (fun hc1 => ?_)
  · refine w_bipush X D5_15 (v := (31 : Int32)) rfl ?_
    refine w_istoreN X D5_17 (l' := #[.val (.int (Int32.ofNat u)), .val (.int (31 : Int32))]) rfl ?_
    have Fp : 0 < u := by have z := Int32.lt_iff_toInt_lt.mp hc1; rw [ofNat_toInt hp, show (0 : Int32).toInt = 0 from rfl] at z; omega
    refine w_iloadN X D5_18 rfl ?_
    refine w_ldcw X D5_19 (hw _ (List.mem_of_getElem? (i := 58) rfl)) ?_
    refine w_icmplt X D5_22 (fun hc22 => ?_) (fun hc22 => ?_)
    · have F22 : u < 65536 := (ofNat_lt (b := 65536) (by omega) (by decide)).mp hc22
      refine w_iloadN X D5_33 rfl ?_
      refine w_sipush X D5_34 (v := (256 : Int32)) rfl ?_
      refine w_icmplt X D5_37 (fun hc37 => ?_) (fun hc37 => ?_)
      · have F37 : u < 256 := (ofNat_lt (b := 256) (by omega) (by decide)).mp hc37
        refine w_iloadN X D5_48 rfl ?_
        refine w_bipush X D5_49 (v := (16 : Int32)) rfl ?_
        refine w_icmplt X D5_51 (fun hc51 => ?_) (fun hc51 => ?_)
        · have F51 : u < 16 := (ofNat_lt (b := 16) (by omega) (by decide)).mp hc51
          refine w_iloadN X D5_61 rfl ?_
          refine w_iconst X D5_62 (v := (4 : Int32)) rfl ?_
          refine w_icmplt X D5_63 (fun hc63 => ?_) (fun hc63 => ?_)
          · have F63 : u < 4 := (ofNat_lt (b := 4) (by omega) (by decide)).mp hc63
            refine w_iloadN X D5_73 rfl ?_
            refine w_iloadN X D5_74 rfl ?_
            refine w_iconst X D5_75 (v := (1 : Int32)) rfl ?_
            refine w_iushr X D5_76 ?_
            rw [show jushr (Int32.ofNat u) 1 = Int32.ofNat (u / 2) from n_ushr (k := 1) (by omega) (by decide)]
            refine w_isub X D5_77 ?_
            exact w_ireturn X D5_78 (by decide) (by decide) (⟨by
                            by_cases hy : (u / 2) = 0
                            · rw [hy, own_uniq h1 h2 (t := 0) (by omega) (by omega)]; rfl
                            · rw [show (u / 2) = 1 by omega, own_uniq h1 h2 (t := 1) (by omega) (by omega)]; rfl, rfl⟩)
          · have F63 : ¬ u < 4 := fun z => hc63 ((ofNat_lt (b := 4) (by omega) (by decide)).mpr z)
            refine w_iinc X D5_66 (d := (-2 : Int32)) (r := (29 : Int32)) (l' := #[.val (.int (Int32.ofNat u)), .val (.int (29 : Int32))]) rfl rfl (by decide) rfl ?_
            refine w_iloadN X D5_69 rfl ?_
            refine w_iconst X D5_70 (v := (2 : Int32)) rfl ?_
            refine w_iushr X D5_71 ?_
            rw [show jushr (Int32.ofNat u) 2 = Int32.ofNat (u / 4) from n_ushr (k := 2) (by omega) (by decide)]
            refine w_istoreN X D5_72 (l' := #[.val (.int (Int32.ofNat (u / 4))), .val (.int (29 : Int32))]) rfl ?_
            refine w_iloadN X D5_73 rfl ?_
            refine w_iloadN X D5_74 rfl ?_
            refine w_iconst X D5_75 (v := (1 : Int32)) rfl ?_
            refine w_iushr X D5_76 ?_
            rw [show jushr (Int32.ofNat (u / 4)) 1 = Int32.ofNat ((u / 4) / 2) from n_ushr (k := 1) (by omega) (by decide)]
            refine w_isub X D5_77 ?_
            exact w_ireturn X D5_78 (by decide) (by decide) (⟨by
                            by_cases hy : ((u / 4) / 2) = 0
                            · rw [hy, own_uniq h1 h2 (t := 2) (by omega) (by omega)]; rfl
                            · rw [show ((u / 4) / 2) = 1 by omega, own_uniq h1 h2 (t := 3) (by omega) (by omega)]; rfl, rfl⟩)
        · have F51 : ¬ u < 16 := fun z => hc51 ((ofNat_lt (b := 16) (by omega) (by decide)).mpr z)
          refine w_iinc X D5_54 (d := (-4 : Int32)) (r := (27 : Int32)) (l' := #[.val (.int (Int32.ofNat u)), .val (.int (27 : Int32))]) rfl rfl (by decide) rfl ?_
          refine w_iloadN X D5_57 rfl ?_
          refine w_iconst X D5_58 (v := (4 : Int32)) rfl ?_
          refine w_iushr X D5_59 ?_
          rw [show jushr (Int32.ofNat u) 4 = Int32.ofNat (u / 16) from n_ushr (k := 4) (by omega) (by decide)]
          refine w_istoreN X D5_60 (l' := #[.val (.int (Int32.ofNat (u / 16))), .val (.int (27 : Int32))]) rfl ?_
          refine w_iloadN X D5_61 rfl ?_
          refine w_iconst X D5_62 (v := (4 : Int32)) rfl ?_
          refine w_icmplt X D5_63 (fun hc63 => ?_) (fun hc63 => ?_)
          · have F63 : (u / 16) < 4 := (ofNat_lt (b := 4) (by omega) (by decide)).mp hc63
            refine w_iloadN X D5_73 rfl ?_
            refine w_iloadN X D5_74 rfl ?_
            refine w_iconst X D5_75 (v := (1 : Int32)) rfl ?_
            refine w_iushr X D5_76 ?_
            rw [show jushr (Int32.ofNat (u / 16)) 1 = Int32.ofNat ((u / 16) / 2) from n_ushr (k := 1) (by omega) (by decide)]
            refine w_isub X D5_77 ?_
            exact w_ireturn X D5_78 (by decide) (by decide) (⟨by
                            by_cases hy : ((u / 16) / 2) = 0
                            · rw [hy, own_uniq h1 h2 (t := 4) (by omega) (by omega)]; rfl
                            · rw [show ((u / 16) / 2) = 1 by omega, own_uniq h1 h2 (t := 5) (by omega) (by omega)]; rfl, rfl⟩)
          · have F63 : ¬ (u / 16) < 4 := fun z => hc63 ((ofNat_lt (b := 4) (by omega) (by decide)).mpr z)
            refine w_iinc X D5_66 (d := (-2 : Int32)) (r := (25 : Int32)) (l' := #[.val (.int (Int32.ofNat (u / 16))), .val (.int (25 : Int32))]) rfl rfl (by decide) rfl ?_
            refine w_iloadN X D5_69 rfl ?_
            refine w_iconst X D5_70 (v := (2 : Int32)) rfl ?_
            refine w_iushr X D5_71 ?_
            rw [show jushr (Int32.ofNat (u / 16)) 2 = Int32.ofNat ((u / 16) / 4) from n_ushr (k := 2) (by omega) (by decide)]
            refine w_istoreN X D5_72 (l' := #[.val (.int (Int32.ofNat ((u / 16) / 4))), .val (.int (25 : Int32))]) rfl ?_
            refine w_iloadN X D5_73 rfl ?_
            refine w_iloadN X D5_74 rfl ?_
            refine w_iconst X D5_75 (v := (1 : Int32)) rfl ?_
            refine w_iushr X D5_76 ?_
            rw [show jushr (Int32.ofNat ((u / 16) / 4)) 1 = Int32.ofNat (((u / 16) / 4) / 2) from n_ushr (k := 1) (by omega) (by decide)]
            refine w_isub X D5_77 ?_
            exact w_ireturn X D5_78 (by decide) (by decide) (⟨by
                            by_cases hy : (((u / 16) / 4) / 2) = 0
                            · rw [hy, own_uniq h1 h2 (t := 6) (by omega) (by omega)]; rfl
                            · rw [show (((u / 16) / 4) / 2) = 1 by omega, own_uniq h1 h2 (t := 7) (by omega) (by omega)]; rfl, rfl⟩)
      · have F37 : ¬ u < 256 := fun z => hc37 ((ofNat_lt (b := 256) (by omega) (by decide)).mpr z)
        refine w_iinc X D5_40 (d := (-8 : Int32)) (r := (23 : Int32)) (l' := #[.val (.int (Int32.ofNat u)), .val (.int (23 : Int32))]) rfl rfl (by decide) rfl ?_
        refine w_iloadN X D5_43 rfl ?_
        refine w_bipush X D5_44 (v := (8 : Int32)) rfl ?_
        refine w_iushr X D5_46 ?_
        rw [show jushr (Int32.ofNat u) 8 = Int32.ofNat (u / 256) from n_ushr (k := 8) (by omega) (by decide)]
        refine w_istoreN X D5_47 (l' := #[.val (.int (Int32.ofNat (u / 256))), .val (.int (23 : Int32))]) rfl ?_
        refine w_iloadN X D5_48 rfl ?_
        refine w_bipush X D5_49 (v := (16 : Int32)) rfl ?_
        refine w_icmplt X D5_51 (fun hc51 => ?_) (fun hc51 => ?_)
        · have F51 : (u / 256) < 16 := (ofNat_lt (b := 16) (by omega) (by decide)).mp hc51
          refine w_iloadN X D5_61 rfl ?_
          refine w_iconst X D5_62 (v := (4 : Int32)) rfl ?_
          refine w_icmplt X D5_63 (fun hc63 => ?_) (fun hc63 => ?_)
          · have F63 : (u / 256) < 4 := (ofNat_lt (b := 4) (by omega) (by decide)).mp hc63
            refine w_iloadN X D5_73 rfl ?_
            refine w_iloadN X D5_74 rfl ?_
            refine w_iconst X D5_75 (v := (1 : Int32)) rfl ?_
            refine w_iushr X D5_76 ?_
            rw [show jushr (Int32.ofNat (u / 256)) 1 = Int32.ofNat ((u / 256) / 2) from n_ushr (k := 1) (by omega) (by decide)]
            refine w_isub X D5_77 ?_
            exact w_ireturn X D5_78 (by decide) (by decide) (⟨by
                            by_cases hy : ((u / 256) / 2) = 0
                            · rw [hy, own_uniq h1 h2 (t := 8) (by omega) (by omega)]; rfl
                            · rw [show ((u / 256) / 2) = 1 by omega, own_uniq h1 h2 (t := 9) (by omega) (by omega)]; rfl, rfl⟩)
          · have F63 : ¬ (u / 256) < 4 := fun z => hc63 ((ofNat_lt (b := 4) (by omega) (by decide)).mpr z)
            refine w_iinc X D5_66 (d := (-2 : Int32)) (r := (21 : Int32)) (l' := #[.val (.int (Int32.ofNat (u / 256))), .val (.int (21 : Int32))]) rfl rfl (by decide) rfl ?_
            refine w_iloadN X D5_69 rfl ?_
            refine w_iconst X D5_70 (v := (2 : Int32)) rfl ?_
            refine w_iushr X D5_71 ?_
            rw [show jushr (Int32.ofNat (u / 256)) 2 = Int32.ofNat ((u / 256) / 4) from n_ushr (k := 2) (by omega) (by decide)]
            refine w_istoreN X D5_72 (l' := #[.val (.int (Int32.ofNat ((u / 256) / 4))), .val (.int (21 : Int32))]) rfl ?_
            refine w_iloadN X D5_73 rfl ?_
            refine w_iloadN X D5_74 rfl ?_
            refine w_iconst X D5_75 (v := (1 : Int32)) rfl ?_
            refine w_iushr X D5_76 ?_
            rw [show jushr (Int32.ofNat ((u / 256) / 4)) 1 = Int32.ofNat (((u / 256) / 4) / 2) from n_ushr (k := 1) (by omega) (by decide)]
            refine w_isub X D5_77 ?_
            exact w_ireturn X D5_78 (by decide) (by decide) (⟨by
                            by_cases hy : (((u / 256) / 4) / 2) = 0
                            · rw [hy, own_uniq h1 h2 (t := 10) (by omega) (by omega)]; rfl
                            · rw [show (((u / 256) / 4) / 2) = 1 by omega, own_uniq h1 h2 (t := 11) (by omega) (by omega)]; rfl, rfl⟩)
        · have F51 : ¬ (u / 256) < 16 := fun z => hc51 ((ofNat_lt (b := 16) (by omega) (by decide)).mpr z)
          refine w_iinc X D5_54 (d := (-4 : Int32)) (r := (19 : Int32)) (l' := #[.val (.int (Int32.ofNat (u / 256))), .val (.int (19 : Int32))]) rfl rfl (by decide) rfl ?_
          refine w_iloadN X D5_57 rfl ?_
          refine w_iconst X D5_58 (v := (4 : Int32)) rfl ?_
          refine w_iushr X D5_59 ?_
          rw [show jushr (Int32.ofNat (u / 256)) 4 = Int32.ofNat ((u / 256) / 16) from n_ushr (k := 4) (by omega) (by decide)]
          refine w_istoreN X D5_60 (l' := #[.val (.int (Int32.ofNat ((u / 256) / 16))), .val (.int (19 : Int32))]) rfl ?_
          refine w_iloadN X D5_61 rfl ?_
          refine w_iconst X D5_62 (v := (4 : Int32)) rfl ?_
          refine w_icmplt X D5_63 (fun hc63 => ?_) (fun hc63 => ?_)
          · have F63 : ((u / 256) / 16) < 4 := (ofNat_lt (b := 4) (by omega) (by decide)).mp hc63
            refine w_iloadN X D5_73 rfl ?_
            refine w_iloadN X D5_74 rfl ?_
            refine w_iconst X D5_75 (v := (1 : Int32)) rfl ?_
            refine w_iushr X D5_76 ?_
            rw [show jushr (Int32.ofNat ((u / 256) / 16)) 1 = Int32.ofNat (((u / 256) / 16) / 2) from n_ushr (k := 1) (by omega) (by decide)]
            refine w_isub X D5_77 ?_
            exact w_ireturn X D5_78 (by decide) (by decide) (⟨by
                            by_cases hy : (((u / 256) / 16) / 2) = 0
                            · rw [hy, own_uniq h1 h2 (t := 12) (by omega) (by omega)]; rfl
                            · rw [show (((u / 256) / 16) / 2) = 1 by omega, own_uniq h1 h2 (t := 13) (by omega) (by omega)]; rfl, rfl⟩)
          · have F63 : ¬ ((u / 256) / 16) < 4 := fun z => hc63 ((ofNat_lt (b := 4) (by omega) (by decide)).mpr z)
            refine w_iinc X D5_66 (d := (-2 : Int32)) (r := (17 : Int32)) (l' := #[.val (.int (Int32.ofNat ((u / 256) / 16))), .val (.int (17 : Int32))]) rfl rfl (by decide) rfl ?_
            refine w_iloadN X D5_69 rfl ?_
            refine w_iconst X D5_70 (v := (2 : Int32)) rfl ?_
            refine w_iushr X D5_71 ?_
            rw [show jushr (Int32.ofNat ((u / 256) / 16)) 2 = Int32.ofNat (((u / 256) / 16) / 4) from n_ushr (k := 2) (by omega) (by decide)]
            refine w_istoreN X D5_72 (l' := #[.val (.int (Int32.ofNat (((u / 256) / 16) / 4))), .val (.int (17 : Int32))]) rfl ?_
            refine w_iloadN X D5_73 rfl ?_
            refine w_iloadN X D5_74 rfl ?_
            refine w_iconst X D5_75 (v := (1 : Int32)) rfl ?_
            refine w_iushr X D5_76 ?_
            rw [show jushr (Int32.ofNat (((u / 256) / 16) / 4)) 1 = Int32.ofNat ((((u / 256) / 16) / 4) / 2) from n_ushr (k := 1) (by omega) (by decide)]
            refine w_isub X D5_77 ?_
            exact w_ireturn X D5_78 (by decide) (by decide) (⟨by
                            by_cases hy : ((((u / 256) / 16) / 4) / 2) = 0
                            · rw [hy, own_uniq h1 h2 (t := 14) (by omega) (by omega)]; rfl
                            · rw [show ((((u / 256) / 16) / 4) / 2) = 1 by omega, own_uniq h1 h2 (t := 15) (by omega) (by omega)]; rfl, rfl⟩)
    · have F22 : ¬ u < 65536 := fun z => hc22 ((ofNat_lt (b := 65536) (by omega) (by decide)).mpr z)
      refine w_iinc X D5_25 (d := (-16 : Int32)) (r := (15 : Int32)) (l' := #[.val (.int (Int32.ofNat u)), .val (.int (15 : Int32))]) rfl rfl (by decide) rfl ?_
      refine w_iloadN X D5_28 rfl ?_
      refine w_bipush X D5_29 (v := (16 : Int32)) rfl ?_
      refine w_iushr X D5_31 ?_
      rw [show jushr (Int32.ofNat u) 16 = Int32.ofNat (u / 65536) from n_ushr (k := 16) (by omega) (by decide)]
      refine w_istoreN X D5_32 (l' := #[.val (.int (Int32.ofNat (u / 65536))), .val (.int (15 : Int32))]) rfl ?_
      refine w_iloadN X D5_33 rfl ?_
      refine w_sipush X D5_34 (v := (256 : Int32)) rfl ?_
      refine w_icmplt X D5_37 (fun hc37 => ?_) (fun hc37 => ?_)
      · have F37 : (u / 65536) < 256 := (ofNat_lt (b := 256) (by omega) (by decide)).mp hc37
        refine w_iloadN X D5_48 rfl ?_
        refine w_bipush X D5_49 (v := (16 : Int32)) rfl ?_
        refine w_icmplt X D5_51 (fun hc51 => ?_) (fun hc51 => ?_)
        · have F51 : (u / 65536) < 16 := (ofNat_lt (b := 16) (by omega) (by decide)).mp hc51
          refine w_iloadN X D5_61 rfl ?_
          refine w_iconst X D5_62 (v := (4 : Int32)) rfl ?_
          refine w_icmplt X D5_63 (fun hc63 => ?_) (fun hc63 => ?_)
          · have F63 : (u / 65536) < 4 := (ofNat_lt (b := 4) (by omega) (by decide)).mp hc63
            refine w_iloadN X D5_73 rfl ?_
            refine w_iloadN X D5_74 rfl ?_
            refine w_iconst X D5_75 (v := (1 : Int32)) rfl ?_
            refine w_iushr X D5_76 ?_
            rw [show jushr (Int32.ofNat (u / 65536)) 1 = Int32.ofNat ((u / 65536) / 2) from n_ushr (k := 1) (by omega) (by decide)]
            refine w_isub X D5_77 ?_
            exact w_ireturn X D5_78 (by decide) (by decide) (⟨by
                            by_cases hy : ((u / 65536) / 2) = 0
                            · rw [hy, own_uniq h1 h2 (t := 16) (by omega) (by omega)]; rfl
                            · rw [show ((u / 65536) / 2) = 1 by omega, own_uniq h1 h2 (t := 17) (by omega) (by omega)]; rfl, rfl⟩)
          · have F63 : ¬ (u / 65536) < 4 := fun z => hc63 ((ofNat_lt (b := 4) (by omega) (by decide)).mpr z)
            refine w_iinc X D5_66 (d := (-2 : Int32)) (r := (13 : Int32)) (l' := #[.val (.int (Int32.ofNat (u / 65536))), .val (.int (13 : Int32))]) rfl rfl (by decide) rfl ?_
            refine w_iloadN X D5_69 rfl ?_
            refine w_iconst X D5_70 (v := (2 : Int32)) rfl ?_
            refine w_iushr X D5_71 ?_
            rw [show jushr (Int32.ofNat (u / 65536)) 2 = Int32.ofNat ((u / 65536) / 4) from n_ushr (k := 2) (by omega) (by decide)]
            refine w_istoreN X D5_72 (l' := #[.val (.int (Int32.ofNat ((u / 65536) / 4))), .val (.int (13 : Int32))]) rfl ?_
            refine w_iloadN X D5_73 rfl ?_
            refine w_iloadN X D5_74 rfl ?_
            refine w_iconst X D5_75 (v := (1 : Int32)) rfl ?_
            refine w_iushr X D5_76 ?_
            rw [show jushr (Int32.ofNat ((u / 65536) / 4)) 1 = Int32.ofNat (((u / 65536) / 4) / 2) from n_ushr (k := 1) (by omega) (by decide)]
            refine w_isub X D5_77 ?_
            exact w_ireturn X D5_78 (by decide) (by decide) (⟨by
                            by_cases hy : (((u / 65536) / 4) / 2) = 0
                            · rw [hy, own_uniq h1 h2 (t := 18) (by omega) (by omega)]; rfl
                            · rw [show (((u / 65536) / 4) / 2) = 1 by omega, own_uniq h1 h2 (t := 19) (by omega) (by omega)]; rfl, rfl⟩)
        · have F51 : ¬ (u / 65536) < 16 := fun z => hc51 ((ofNat_lt (b := 16) (by omega) (by decide)).mpr z)
          refine w_iinc X D5_54 (d := (-4 : Int32)) (r := (11 : Int32)) (l' := #[.val (.int (Int32.ofNat (u / 65536))), .val (.int (11 : Int32))]) rfl rfl (by decide) rfl ?_
          refine w_iloadN X D5_57 rfl ?_
          refine w_iconst X D5_58 (v := (4 : Int32)) rfl ?_
          refine w_iushr X D5_59 ?_
          rw [show jushr (Int32.ofNat (u / 65536)) 4 = Int32.ofNat ((u / 65536) / 16) from n_ushr (k := 4) (by omega) (by decide)]
          refine w_istoreN X D5_60 (l' := #[.val (.int (Int32.ofNat ((u / 65536) / 16))), .val (.int (11 : Int32))]) rfl ?_
          refine w_iloadN X D5_61 rfl ?_
          refine w_iconst X D5_62 (v := (4 : Int32)) rfl ?_
          refine w_icmplt X D5_63 (fun hc63 => ?_) (fun hc63 => ?_)
          · have F63 : ((u / 65536) / 16) < 4 := (ofNat_lt (b := 4) (by omega) (by decide)).mp hc63
            refine w_iloadN X D5_73 rfl ?_
            refine w_iloadN X D5_74 rfl ?_
            refine w_iconst X D5_75 (v := (1 : Int32)) rfl ?_
            refine w_iushr X D5_76 ?_
            rw [show jushr (Int32.ofNat ((u / 65536) / 16)) 1 = Int32.ofNat (((u / 65536) / 16) / 2) from n_ushr (k := 1) (by omega) (by decide)]
            refine w_isub X D5_77 ?_
            exact w_ireturn X D5_78 (by decide) (by decide) (⟨by
                            by_cases hy : (((u / 65536) / 16) / 2) = 0
                            · rw [hy, own_uniq h1 h2 (t := 20) (by omega) (by omega)]; rfl
                            · rw [show (((u / 65536) / 16) / 2) = 1 by omega, own_uniq h1 h2 (t := 21) (by omega) (by omega)]; rfl, rfl⟩)
          · have F63 : ¬ ((u / 65536) / 16) < 4 := fun z => hc63 ((ofNat_lt (b := 4) (by omega) (by decide)).mpr z)
            refine w_iinc X D5_66 (d := (-2 : Int32)) (r := (9 : Int32)) (l' := #[.val (.int (Int32.ofNat ((u / 65536) / 16))), .val (.int (9 : Int32))]) rfl rfl (by decide) rfl ?_
            refine w_iloadN X D5_69 rfl ?_
            refine w_iconst X D5_70 (v := (2 : Int32)) rfl ?_
            refine w_iushr X D5_71 ?_
            rw [show jushr (Int32.ofNat ((u / 65536) / 16)) 2 = Int32.ofNat (((u / 65536) / 16) / 4) from n_ushr (k := 2) (by omega) (by decide)]
            refine w_istoreN X D5_72 (l' := #[.val (.int (Int32.ofNat (((u / 65536) / 16) / 4))), .val (.int (9 : Int32))]) rfl ?_
            refine w_iloadN X D5_73 rfl ?_
            refine w_iloadN X D5_74 rfl ?_
            refine w_iconst X D5_75 (v := (1 : Int32)) rfl ?_
            refine w_iushr X D5_76 ?_
            rw [show jushr (Int32.ofNat (((u / 65536) / 16) / 4)) 1 = Int32.ofNat ((((u / 65536) / 16) / 4) / 2) from n_ushr (k := 1) (by omega) (by decide)]
            refine w_isub X D5_77 ?_
            exact w_ireturn X D5_78 (by decide) (by decide) (⟨by
                            by_cases hy : ((((u / 65536) / 16) / 4) / 2) = 0
                            · rw [hy, own_uniq h1 h2 (t := 22) (by omega) (by omega)]; rfl
                            · rw [show ((((u / 65536) / 16) / 4) / 2) = 1 by omega, own_uniq h1 h2 (t := 23) (by omega) (by omega)]; rfl, rfl⟩)
      · have F37 : ¬ (u / 65536) < 256 := fun z => hc37 ((ofNat_lt (b := 256) (by omega) (by decide)).mpr z)
        refine w_iinc X D5_40 (d := (-8 : Int32)) (r := (7 : Int32)) (l' := #[.val (.int (Int32.ofNat (u / 65536))), .val (.int (7 : Int32))]) rfl rfl (by decide) rfl ?_
        refine w_iloadN X D5_43 rfl ?_
        refine w_bipush X D5_44 (v := (8 : Int32)) rfl ?_
        refine w_iushr X D5_46 ?_
        rw [show jushr (Int32.ofNat (u / 65536)) 8 = Int32.ofNat ((u / 65536) / 256) from n_ushr (k := 8) (by omega) (by decide)]
        refine w_istoreN X D5_47 (l' := #[.val (.int (Int32.ofNat ((u / 65536) / 256))), .val (.int (7 : Int32))]) rfl ?_
        refine w_iloadN X D5_48 rfl ?_
        refine w_bipush X D5_49 (v := (16 : Int32)) rfl ?_
        refine w_icmplt X D5_51 (fun hc51 => ?_) (fun hc51 => ?_)
        · have F51 : ((u / 65536) / 256) < 16 := (ofNat_lt (b := 16) (by omega) (by decide)).mp hc51
          refine w_iloadN X D5_61 rfl ?_
          refine w_iconst X D5_62 (v := (4 : Int32)) rfl ?_
          refine w_icmplt X D5_63 (fun hc63 => ?_) (fun hc63 => ?_)
          · have F63 : ((u / 65536) / 256) < 4 := (ofNat_lt (b := 4) (by omega) (by decide)).mp hc63
            refine w_iloadN X D5_73 rfl ?_
            refine w_iloadN X D5_74 rfl ?_
            refine w_iconst X D5_75 (v := (1 : Int32)) rfl ?_
            refine w_iushr X D5_76 ?_
            rw [show jushr (Int32.ofNat ((u / 65536) / 256)) 1 = Int32.ofNat (((u / 65536) / 256) / 2) from n_ushr (k := 1) (by omega) (by decide)]
            refine w_isub X D5_77 ?_
            exact w_ireturn X D5_78 (by decide) (by decide) (⟨by
                            by_cases hy : (((u / 65536) / 256) / 2) = 0
                            · rw [hy, own_uniq h1 h2 (t := 24) (by omega) (by omega)]; rfl
                            · rw [show (((u / 65536) / 256) / 2) = 1 by omega, own_uniq h1 h2 (t := 25) (by omega) (by omega)]; rfl, rfl⟩)
          · have F63 : ¬ ((u / 65536) / 256) < 4 := fun z => hc63 ((ofNat_lt (b := 4) (by omega) (by decide)).mpr z)
            refine w_iinc X D5_66 (d := (-2 : Int32)) (r := (5 : Int32)) (l' := #[.val (.int (Int32.ofNat ((u / 65536) / 256))), .val (.int (5 : Int32))]) rfl rfl (by decide) rfl ?_
            refine w_iloadN X D5_69 rfl ?_
            refine w_iconst X D5_70 (v := (2 : Int32)) rfl ?_
            refine w_iushr X D5_71 ?_
            rw [show jushr (Int32.ofNat ((u / 65536) / 256)) 2 = Int32.ofNat (((u / 65536) / 256) / 4) from n_ushr (k := 2) (by omega) (by decide)]
            refine w_istoreN X D5_72 (l' := #[.val (.int (Int32.ofNat (((u / 65536) / 256) / 4))), .val (.int (5 : Int32))]) rfl ?_
            refine w_iloadN X D5_73 rfl ?_
            refine w_iloadN X D5_74 rfl ?_
            refine w_iconst X D5_75 (v := (1 : Int32)) rfl ?_
            refine w_iushr X D5_76 ?_
            rw [show jushr (Int32.ofNat (((u / 65536) / 256) / 4)) 1 = Int32.ofNat ((((u / 65536) / 256) / 4) / 2) from n_ushr (k := 1) (by omega) (by decide)]
            refine w_isub X D5_77 ?_
            exact w_ireturn X D5_78 (by decide) (by decide) (⟨by
                            by_cases hy : ((((u / 65536) / 256) / 4) / 2) = 0
                            · rw [hy, own_uniq h1 h2 (t := 26) (by omega) (by omega)]; rfl
                            · rw [show ((((u / 65536) / 256) / 4) / 2) = 1 by omega, own_uniq h1 h2 (t := 27) (by omega) (by omega)]; rfl, rfl⟩)
        · have F51 : ¬ ((u / 65536) / 256) < 16 := fun z => hc51 ((ofNat_lt (b := 16) (by omega) (by decide)).mpr z)
          refine w_iinc X D5_54 (d := (-4 : Int32)) (r := (3 : Int32)) (l' := #[.val (.int (Int32.ofNat ((u / 65536) / 256))), .val (.int (3 : Int32))]) rfl rfl (by decide) rfl ?_
          refine w_iloadN X D5_57 rfl ?_
          refine w_iconst X D5_58 (v := (4 : Int32)) rfl ?_
          refine w_iushr X D5_59 ?_
          rw [show jushr (Int32.ofNat ((u / 65536) / 256)) 4 = Int32.ofNat (((u / 65536) / 256) / 16) from n_ushr (k := 4) (by omega) (by decide)]
          refine w_istoreN X D5_60 (l' := #[.val (.int (Int32.ofNat (((u / 65536) / 256) / 16))), .val (.int (3 : Int32))]) rfl ?_
          refine w_iloadN X D5_61 rfl ?_
          refine w_iconst X D5_62 (v := (4 : Int32)) rfl ?_
          refine w_icmplt X D5_63 (fun hc63 => ?_) (fun hc63 => ?_)
          · have F63 : (((u / 65536) / 256) / 16) < 4 := (ofNat_lt (b := 4) (by omega) (by decide)).mp hc63
            refine w_iloadN X D5_73 rfl ?_
            refine w_iloadN X D5_74 rfl ?_
            refine w_iconst X D5_75 (v := (1 : Int32)) rfl ?_
            refine w_iushr X D5_76 ?_
            rw [show jushr (Int32.ofNat (((u / 65536) / 256) / 16)) 1 = Int32.ofNat ((((u / 65536) / 256) / 16) / 2) from n_ushr (k := 1) (by omega) (by decide)]
            refine w_isub X D5_77 ?_
            exact w_ireturn X D5_78 (by decide) (by decide) (⟨by
                            by_cases hy : ((((u / 65536) / 256) / 16) / 2) = 0
                            · rw [hy, own_uniq h1 h2 (t := 28) (by omega) (by omega)]; rfl
                            · rw [show ((((u / 65536) / 256) / 16) / 2) = 1 by omega, own_uniq h1 h2 (t := 29) (by omega) (by omega)]; rfl, rfl⟩)
          · have F63 : ¬ (((u / 65536) / 256) / 16) < 4 := fun z => hc63 ((ofNat_lt (b := 4) (by omega) (by decide)).mpr z)
            refine w_iinc X D5_66 (d := (-2 : Int32)) (r := (1 : Int32)) (l' := #[.val (.int (Int32.ofNat (((u / 65536) / 256) / 16))), .val (.int (1 : Int32))]) rfl rfl (by decide) rfl ?_
            refine w_iloadN X D5_69 rfl ?_
            refine w_iconst X D5_70 (v := (2 : Int32)) rfl ?_
            refine w_iushr X D5_71 ?_
            rw [show jushr (Int32.ofNat (((u / 65536) / 256) / 16)) 2 = Int32.ofNat ((((u / 65536) / 256) / 16) / 4) from n_ushr (k := 2) (by omega) (by decide)]
            refine w_istoreN X D5_72 (l' := #[.val (.int (Int32.ofNat ((((u / 65536) / 256) / 16) / 4))), .val (.int (1 : Int32))]) rfl ?_
            refine w_iloadN X D5_73 rfl ?_
            refine w_iloadN X D5_74 rfl ?_
            refine w_iconst X D5_75 (v := (1 : Int32)) rfl ?_
            refine w_iushr X D5_76 ?_
            rw [show jushr (Int32.ofNat ((((u / 65536) / 256) / 16) / 4)) 1 = Int32.ofNat (((((u / 65536) / 256) / 16) / 4) / 2) from n_ushr (k := 1) (by omega) (by decide)]
            refine w_isub X D5_77 ?_
            exact w_ireturn X D5_78 (by decide) (by decide) (⟨by
                            by_cases hy : (((((u / 65536) / 256) / 16) / 4) / 2) = 0
                            · rw [hy, own_uniq h1 h2 (t := 30) (by omega) (by omega)]; rfl
                            · rw [show (((((u / 65536) / 256) / 16) / 4) / 2) = 1 by omega, own_uniq h1 h2 (t := 31) (by omega) (by omega)]; rfl, rfl⟩)
  · refine w_iloadN X D5_4 rfl ?_
    refine w_ifne X D5_5 (fun hc5 => by exact absurd (Int32.lt_iff_toInt_lt.mpr (by rw [ofNat_toInt hp, show (0 : Int32).toInt = 0 from rfl]; have : ¬ u = 0 := (fun z => hc5 (by rw [z]; rfl)); omega)) hc1) (fun hc5 => ?_)
    refine w_bipush X D5_8 (v := (32 : Int32)) rfl ?_
    refine w_goto X D5_10 ?_
    exact w_ireturn X D5_14 (by decide) (by decide) (⟨by
            have z : u = 0 := (n_inj (b := 0) hp (by decide)).mp hc5
            rcases h2 with h2 | h2
            · rw [h2]; rfl
            · have := Nat.two_pow_pos (bl - 1); omega, rfl⟩)
theorem ef_4 (m : MethodId) (x1 : Int32) : entryFrame m #[(.int x1)] 1 = mkF m 0 #[.val (.int x1)] [] := by first | (simp [entryFrame, mkF, argsToLocals, Value.category]; done) | rfl
theorem pn_4 : plainName "com/example/tokenfold/tokenfold/statespace/Packing" = true := by first | (simp [plainName, overriddenIn]; done) | decide +kernel
set_option maxRecDepth 65536 in
set_option maxHeartbeats 40000000 in
theorem rmB {l : Launch} {Z : State} {a0 : Array Value} {n0 : Nat} {h : Heap} (hw : ∀ d ∈ tables_1, d.before a0 Z = true) (hn : n0 ≤ h.size) (x1 : Int32) (u : Nat) (hu : u < 2147483648) (e1 : x1 = Int32.ofNat u) :
    Ctr l Z n0 (⟨"com/example/tokenfold/tokenfold/statespace/Packing", "bits", "(I)I"⟩ : MethodName) prog_60_method_9_code 1 (some .int) ({ frames := 1, cells := 0, slots := 0, locals := 15 } : Room) [] #[(.int x1)] h (fun v h' => v = some (.int (Int32.ofNat (bt u))) ∧ h = h') := by
  refine ctr_of (plainFor_of_name pn_4) hw hn ?_
  intro p e s m below meth c T X
  refine Wp.cast (ef_4 m x1) ?_
  subst e1
  obtain ⟨bl, ebl⟩ : ∃ bl, bl = (if u = 0 then 0 else u.log2 + 1) := ⟨_, rfl⟩
  have b1 : u < 2 ^ bl := by
    rw [ebl]; split
    · rename_i z; rw [z]; decide
    · exact Nat.lt_log2_self
  have b2 : bl = 0 ∨ 2 ^ (bl - 1) ≤ u := by
    rw [ebl]; split
    · exact Or.inl rfl
    · rename_i z; exact Or.inr (by rw [Nat.add_sub_cancel]; exact Nat.log2_self_le z)
  have b3 : bl ≤ 31 := by
    rw [ebl]; split
    · omega
    · rename_i z; have := (Nat.log2_lt z (k := 31)).mpr hu; omega
  refine w_iconst X D4_0 (v := (1 : Int32)) rfl ?_
  refine w_bipush X D4_1 (v := (32 : Int32)) rfl ?_
  refine w_iloadN X D4_3 rfl ?_
  refine w_static X D4_4 (rmZ hw X.sz _ u bl rfl hu b1 b2) (hw _ (List.mem_of_getElem? (i := 43) rfl)) (hw _ (List.mem_of_getElem? (i := 44) rfl)) (hw _ (List.mem_of_getElem? (i := 45) rfl)) (hw _ (List.mem_of_getElem? (i := 46) rfl)) (by decide) pd_0 rfl (S := [(.int (32 : Int32)), (.int (1 : Int32))]) rfl rfl (Nat.le_of_ble_eq_true rfl) (Nat.le_of_ble_eq_true rfl) (Nat.le_of_ble_eq_true rfl) (Nat.le_of_ble_eq_true rfl) (fun v1 T1 h1 X1 q1 => ?_)
  obtain ⟨rfl, rfl⟩ := q1
  show Wp _ _ _ _ _ _ _ _ (mkF m 7 #[.val (.int (Int32.ofNat u))] [(.int (Int32.ofNat (32 - bl))), (.int (32 : Int32)), (.int (1 : Int32))])
  refine w_isub X1 D4_7 ?_
  rw [show (32 : Int32) - Int32.ofNat (32 - bl) = Int32.ofNat bl from (n_sub (a := 32) (by omega)).trans (by congr 1; omega)]
  refine w_static X1 D4_8 (rmMax hw X1.sz _ _ 1 bl (by decide) (by omega) rfl rfl) (hw _ (List.mem_of_getElem? (i := 47) rfl)) (hw _ (List.mem_of_getElem? (i := 48) rfl)) (hw _ (List.mem_of_getElem? (i := 49) rfl)) (hw _ (List.mem_of_getElem? (i := 50) rfl)) (by decide) pd_1 rfl (S := []) rfl rfl (Nat.le_of_ble_eq_true rfl) (Nat.le_of_ble_eq_true rfl) (Nat.le_of_ble_eq_true rfl) (Nat.le_of_ble_eq_true rfl) (fun v2 T2 h2 X2 q2 => ?_)
  obtain ⟨rfl, rfl⟩ := q2
  show Wp _ _ _ _ _ _ _ _ (mkF m 11 #[.val (.int (Int32.ofNat u))] [(.int (Int32.ofNat (max 1 bl)))])
  exact w_ireturn X2 D4_11 (by decide) (by decide) (⟨by rw [bt, ← ebl], rfl⟩)
theorem ef_3 (m : MethodId) (a : Addr) (x1 : Int32) : entryFrame m #[(.ref a), (.int x1)] 4 = mkF m 0 #[.val (.ref a), .val (.int x1), .unset, .unset] [] := by first | (simp [entryFrame, mkF, argsToLocals, Value.category]; done) | rfl
theorem pn_3 : plainName "java/util/Arrays" = true := by first | (simp [plainName, overriddenIn]; done) | decide +kernel
set_option maxRecDepth 65536 in
set_option maxHeartbeats 40000000 in
theorem rmF {l : Launch} {Z : State} {a0 : Array Value} {n0 : Nat} {h : Heap} (hw : ∀ d ∈ tables_1, d.before a0 Z = true) (hn : n0 ≤ h.size) (a : Addr) (x1 : Int32) (g : Nat → Int32) (B : Ba Z n0 h a .int 3 (bI g)) :
    Ctr l Z n0 (⟨"java/util/Arrays", "fill", "([II)V"⟩ : MethodName) jdk_65_method_103_code 4 none ({ frames := 0, cells := 0, slots := 0, locals := 0 } : Room) [] #[(.ref a), (.int x1)] h (fun v h' => v = none ∧ Keep h h' [a] ∧ Ba Z n0 h' a .int 3 (bI (fun _ => x1))) := by
  refine ctr_of (plainFor_of_name pn_3) hw hn ?_
  intro p e s m below meth c T X
  refine Wp.cast (ef_3 m a x1) ?_
  refine w_iconst X D3_0 (v := (0 : Int32)) rfl ?_
  refine w_istoreN X D3_1 (l' := #[.val (.ref a), .val (.int x1), .val (.int (0 : Int32)), .unset]) rfl ?_
  refine w_aloadN X D3_2 rfl rfl ?_
  refine w_arraylength X D3_3 B ?_
  refine w_istoreN X D3_4 (l' := #[.val (.ref a), .val (.int x1), .val (.int (0 : Int32)), .val (.int (Int32.ofNat 3))]) rfl ?_
  refine w_iloadN X D3_5 rfl ?_
  refine w_iloadN X D3_6 rfl ?_
  refine w_icmpge X D3_7 (fun hc7 => by exact absurd (by decide) hc7) (fun hc7 => ?_)
  refine w_aloadN X D3_10 rfl rfl ?_
  refine w_iloadN X D3_11 rfl ?_
  refine w_iloadN X D3_12 rfl ?_
  refine w_iastore X D3_13 B 0 rfl (by decide) (fun T1 h1 X1 K1 B1 => ?_)
  refine w_iinc X1 D3_14 (d := (1 : Int32)) (r := (1 : Int32)) (l' := #[.val (.ref a), .val (.int x1), .val (.int (1 : Int32)), .val (.int (Int32.ofNat 3))]) rfl rfl (by decide) rfl ?_
  refine w_goto X1 D3_17 ?_
  refine w_iloadN X1 D3_5 rfl ?_
  refine w_iloadN X1 D3_6 rfl ?_
  refine w_icmpge X1 D3_7 (fun hc7 => by exact absurd (by decide) hc7) (fun hc7 => ?_)
  refine w_aloadN X1 D3_10 rfl rfl ?_
  refine w_iloadN X1 D3_11 rfl ?_
  refine w_iloadN X1 D3_12 rfl ?_
  refine w_iastore X1 D3_13 B1 1 rfl (by decide) (fun T2 h2 X2 K2 B2 => ?_)
  refine w_iinc X2 D3_14 (d := (1 : Int32)) (r := (2 : Int32)) (l' := #[.val (.ref a), .val (.int x1), .val (.int (2 : Int32)), .val (.int (Int32.ofNat 3))]) rfl rfl (by decide) rfl ?_
  refine w_goto X2 D3_17 ?_
  refine w_iloadN X2 D3_5 rfl ?_
  refine w_iloadN X2 D3_6 rfl ?_
  refine w_icmpge X2 D3_7 (fun hc7 => by exact absurd (by decide) hc7) (fun hc7 => ?_)
  refine w_aloadN X2 D3_10 rfl rfl ?_
  refine w_iloadN X2 D3_11 rfl ?_
  refine w_iloadN X2 D3_12 rfl ?_
  refine w_iastore X2 D3_13 B2 2 rfl (by decide) (fun T3 h3 X3 K3 B3 => ?_)
  refine w_iinc X3 D3_14 (d := (1 : Int32)) (r := (3 : Int32)) (l' := #[.val (.ref a), .val (.int x1), .val (.int (3 : Int32)), .val (.int (Int32.ofNat 3))]) rfl rfl (by decide) rfl ?_
  refine w_goto X3 D3_17 ?_
  refine w_iloadN X3 D3_5 rfl ?_
  refine w_iloadN X3 D3_6 rfl ?_
  refine w_icmpge X3 D3_7 (fun hc7 => ?_) (fun hc7 => by exact absurd hc7 (by decide))
  exact w_return X3 D3_20 (by decide) (by decide) (⟨rfl, ((K1.trans K2 (fun x hx => Or.inl hx)).trans K3 (fun x hx => Or.inl hx)), B3.congr (fun i hi => by
        have hc : i = 0 ∨ i = 1 ∨ i = 2 := by omega
        rcases hc with rfl | rfl | rfl <;> rfl)⟩)
theorem ef_7 (m : MethodId) (l0 : Addr) (x1 : Int32) : entryFrame m #[(.ref l0), (.int x1)] 2 = mkF m 0 #[.val (.ref l0), .val (.int x1)] [] := by first | (simp [entryFrame, mkF, argsToLocals, Value.category]; done) | rfl
theorem pn_7 : plainName "com/example/tokenfold/tokenfold/statespace/Packing" = true := by first | (simp [plainName, overriddenIn]; done) | decide +kernel
set_option maxRecDepth 65536 in
set_option maxHeartbeats 40000000 in
theorem rmP {l : Launch} {Z : State} {a0 : Array Value} {n0 : Nat} {h : Heap} (hw : ∀ d ∈ tables_1, d.before a0 Z = true) (hn : n0 ≤ h.size) (l0 : Addr) (x1 : Int32) (v_0 v_1 v_2 v_3 v_4 v_5 v_6 v_7 v_8 v_9 v_10 v_11 : Value) (E0 r0 : Int32) (en b : Nat) (e1 : x1 = Int32.ofNat b) (hen : en < 100000) (hb : b ≤ 31) (O : Pak Z n0 h l0 v_0 v_1 v_2 v_3 v_4 v_5 v_6 v_7 v_8 v_9 v_10 v_11 (.int E0) (.long (Int64.ofNat en)) (.int r0)) :
    Ctr l Z n0 (⟨"com/example/tokenfold/tokenfold/statespace/Packing", "place", "(I)V"⟩ : MethodName) prog_60_method_8_code 2 none ({ frames := 0, cells := 0, slots := 0, locals := 0 } : Room) [] #[(.ref l0), (.int x1)] h (fun v h' => v = none ∧ Keep h h' [l0] ∧ Pak Z n0 h' l0 v_0 v_1 v_2 v_3 v_4 v_5 v_6 v_7 v_8 v_9 v_10 v_11 (.int E0) (.long (Int64.ofNat (plc en b))) (.int r0)) := by
  refine ctr_of (plainFor_of_name pn_7) hw hn ?_
  intro p e s m below meth c T X
  refine Wp.cast (ef_7 m l0 x1) ?_
  subst e1
  refine w_aloadN X D7_0 rfl rfl ?_
  refine w_getF X D7_1 (hw _ (List.mem_of_getElem? (i := 55) rfl)) O.2.2.2.2.2.2.2.2.2.2.2.2.2.2.2.1 (fun T1 X1 => ?_)
  refine w_ldc2 X1 D7_4 (hw _ (List.mem_of_getElem? (i := 57) rfl)) ?_
  refine w_lrem X1 D7_7 (by decide) ?_
  rw [show Int64.ofNat en - (Int64.ofNat en / 64) * 64 = Int64.ofNat (en % 64) from nL_rem (k := 64) (by omega) (by decide) (by decide)]
  refine w_iloadN X1 D7_8 rfl ?_
  refine w_i2l X1 D7_9 ?_
  rw [n_i2l (show b < 2147483648 by omega)]
  refine w_ladd X1 D7_10 ?_
  rw [nL_add]
  refine w_ldc2 X1 D7_11 (hw _ (List.mem_of_getElem? (i := 57) rfl)) ?_
  refine w_lcmple X1 D7_14 D7_15 (fun hc15 => ?_) (fun hc15 => ?_)
  · exact w_return X1 D7_39 (by decide) (by decide) (⟨rfl, Keep.refl _ _, by
          rw [plc, if_neg (fun z => hc15 ((nL_lt (a := 64) (by decide) (by omega)).mpr z))]; exact O⟩)
  · refine w_aloadN X1 D7_18 rfl rfl ?_
    refine w_dup X1 D7_19 rfl ?_
    refine w_getF X1 D7_20 (hw _ (List.mem_of_getElem? (i := 55) rfl)) O.2.2.2.2.2.2.2.2.2.2.2.2.2.2.2.1 (fun T2 X2 => ?_)
    refine w_ldc2 X2 D7_23 (hw _ (List.mem_of_getElem? (i := 57) rfl)) ?_
    refine w_aloadN X2 D7_26 rfl rfl ?_
    refine w_getF X2 D7_27 (hw _ (List.mem_of_getElem? (i := 55) rfl)) O.2.2.2.2.2.2.2.2.2.2.2.2.2.2.2.1 (fun T3 X3 => ?_)
    refine w_ldc2 X3 D7_30 (hw _ (List.mem_of_getElem? (i := 57) rfl)) ?_
    refine w_lrem X3 D7_33 (by decide) ?_
    rw [show Int64.ofNat en - (Int64.ofNat en / 64) * 64 = Int64.ofNat (en % 64) from nL_rem (k := 64) (by omega) (by decide) (by decide)]
    refine w_lsub X3 D7_34 ?_
    rw [show (64 : Int64) - Int64.ofNat (en % 64) = Int64.ofNat (64 - en % 64) from nL_sub (a := 64) (by omega)]
    refine w_ladd X3 D7_35 ?_
    rw [nL_add]
    refine w_putF X3 D7_36 (hw _ (List.mem_of_getElem? (i := 55) rfl)) O.2.2.2.2.2.2.2.2.2.2.2.2.2.2.2.1 O.2.1 O.1 (Or.inl (hw _ (List.mem_of_getElem? (i := 56) rfl))) (hw _ (List.mem_of_getElem? (i := 4) rfl)) (ty := .long) (by decide) rfl rfl (fun T4 h4 X4 W4 => ?_)
    have O4 := O.put_end hw W4
    exact w_return X4 D7_39 (by decide) (by decide) (⟨rfl, (Keep.of_wr W4), by
            rw [plc, if_pos ((nL_lt (a := 64) (by decide) (by omega)).mp hc15)]; exact O4⟩)
theorem ef_16 (m : MethodId) (a : Addr) (x1 : Int32) : entryFrame m #[(.ref a), (.int x1)] 3 = mkF m 0 #[.val (.ref a), .val (.int x1), .unset] [] := by first | (simp [entryFrame, mkF, argsToLocals, Value.category]; done) | rfl
theorem pn_16 : plainName "java/util/Arrays" = true := by first | (simp [plainName, overriddenIn]; done) | decide +kernel
set_option maxRecDepth 65536 in
set_option maxHeartbeats 40000000 in
theorem rmCI {l : Launch} {Z : State} {a0 : Array Value} {n0 : Nat} {h : Heap} (hw : ∀ d ∈ tables_1, d.before a0 Z = true) (hn : n0 ≤ h.size) (a : Addr) (x1 : Int32) (n n' : Nat) (g : Nat → Int32) (e1 : x1 = Int32.ofNat n') (h1 : n < n') (h2 : n' ≤ 8) (B : Ba Z n0 h a .int n (bI g)) :
    Ctr l Z n0 (⟨"java/util/Arrays", "copyOf", "([II)[I"⟩ : MethodName) jdk_65_method_123_code 3 (some (.array .int)) ({ frames := 1, cells := 1, slots := 8, locals := 18 } : Room) [] #[(.ref a), (.int x1)] h (fun v h' => ∃ a', v = some (.ref a') ∧ h.size ≤ a' ∧ Ext h h' ∧ Ba Z n0 h' a' .int n' (bI (fun i => if i < n then g i else 0))) := by
  refine ctr_of (plainFor_of_name pn_16) hw hn ?_
  intro p e s m below meth c T X
  refine Wp.cast (ef_16 m a x1) ?_
  subst e1
  refine w_iloadN X D16_0 rfl ?_
  refine w_aloadN X D16_1 rfl rfl ?_
  refine w_arraylength X D16_2 B ?_
  refine w_icmpne X D16_3 (fun hc3 => ?_) (fun hc3 => by have z := (n_inj (a := n') (b := n) (by omega) (by omega)).mp hc3; omega)
  refine w_iloadN X D16_14 rfl ?_
  refine w_newI X D16_15 (hw _ (List.mem_of_getElem? (i := 1) rfl)) n' 8 rfl (by omega) (by decide) (Nat.le_of_ble_eq_true rfl) (Nat.le_of_ble_eq_true rfl) (fun T1 h1 a1 X1 g1 E1 B1 => ?_)
  have B_E1 := B.ext E1
  refine w_astoreN X1 D16_17 (l' := #[.val (.ref a), .val (.int (Int32.ofNat n')), .val (.ref a1)]) rfl rfl ?_
  refine w_aloadN X1 D16_18 rfl rfl ?_
  refine w_iconst X1 D16_19 (v := (0 : Int32)) rfl ?_
  refine w_aloadN X1 D16_20 rfl rfl ?_
  refine w_iconst X1 D16_21 (v := (0 : Int32)) rfl ?_
  refine w_aloadN X1 D16_22 rfl rfl ?_
  refine w_arraylength X1 D16_23 B_E1 ?_
  refine w_iloadN X1 D16_24 rfl ?_
  refine w_static X1 D16_25 (rmMin hw X1.sz _ _ n n' (by omega) (by omega) rfl rfl) (hw _ (List.mem_of_getElem? (i := 98) rfl)) (hw _ (List.mem_of_getElem? (i := 89) rfl)) (hw _ (List.mem_of_getElem? (i := 49) rfl)) (hw _ (List.mem_of_getElem? (i := 90) rfl)) (by decide) pd_1 rfl (S := [(.int (0 : Int32)), (.ref a1), (.int (0 : Int32)), (.ref a)]) rfl rfl (Nat.le_of_ble_eq_true rfl) (Nat.le_of_ble_eq_true rfl) (Nat.le_of_ble_eq_true rfl) (Nat.le_of_ble_eq_true rfl) (fun v2 T2 h2 X2 q2 => ?_)
  obtain ⟨rfl, rfl⟩ := q2
  show Wp _ _ _ _ _ _ _ _ (mkF m 28 #[.val (.ref a), .val (.int (Int32.ofNat n')), .val (.ref a1)] [(.int (Int32.ofNat (min n n'))), (.int (0 : Int32)), (.ref a1), (.int (0 : Int32)), (.ref a)])
  rw [Nat.min_eq_left (show n ≤ n' by omega)]
  refine w_arraycopy X2 D16_28 (hw _ (List.mem_of_getElem? (i := 99) rfl)) (hw _ (List.mem_of_getElem? (i := 102) rfl)) (hw _ (List.mem_of_getElem? (i := 100) rfl)) (hw _ (List.mem_of_getElem? (i := 101) rfl)) (cnt := n) B_E1 B1 rfl (fun _ _ => rfl) (fun _ _ => rfl) (Nat.le_refl _) (by omega) rfl (Nat.le_of_ble_eq_true rfl) (Nat.le_of_ble_eq_true rfl) (fun T3 h3 X3 K3 B3 => ?_)
  refine w_aloadN X3 D16_31 rfl rfl ?_
  refine w_areturn X3 rfl D16_32 (by decide) (by decide) ⟨a1, rfl, Nat.le_of_eq g1.symm, Ext.keep1 E1 K3 (Nat.le_of_eq g1.symm), B3.congr (fun i hi => ?_)⟩
  show (if i < n then bI g i else bI (fun _ => 0) i) = bI (fun i => if i < n then g i else 0) i
  simp only [bI]
  split <;> rfl
theorem ef_17 (m : MethodId) (a : Addr) (x1 : Int32) : entryFrame m #[(.ref a), (.int x1)] 3 = mkF m 0 #[.val (.ref a), .val (.int x1), .unset] [] := by first | (simp [entryFrame, mkF, argsToLocals, Value.category]; done) | rfl
theorem pn_17 : plainName "java/util/Arrays" = true := by first | (simp [plainName, overriddenIn]; done) | decide +kernel
set_option maxRecDepth 65536 in
set_option maxHeartbeats 40000000 in
theorem rmCJ {l : Launch} {Z : State} {a0 : Array Value} {n0 : Nat} {h : Heap} (hw : ∀ d ∈ tables_1, d.before a0 Z = true) (hn : n0 ≤ h.size) (a : Addr) (x1 : Int32) (n n' : Nat) (g : Nat → Int64) (e1 : x1 = Int32.ofNat n') (h1 : n < n') (h2 : n' ≤ 8) (B : Ba Z n0 h a .long n (bJ g)) :
    Ctr l Z n0 (⟨"java/util/Arrays", "copyOf", "([JI)[J"⟩ : MethodName) jdk_65_method_124_code 3 (some (.array .long)) ({ frames := 1, cells := 1, slots := 8, locals := 18 } : Room) [] #[(.ref a), (.int x1)] h (fun v h' => ∃ a', v = some (.ref a') ∧ h.size ≤ a' ∧ Ext h h' ∧ Ba Z n0 h' a' .long n' (bJ (fun i => if i < n then g i else 0))) := by
  refine ctr_of (plainFor_of_name pn_17) hw hn ?_
  intro p e s m below meth c T X
  refine Wp.cast (ef_17 m a x1) ?_
  subst e1
  refine w_iloadN X D17_0 rfl ?_
  refine w_aloadN X D17_1 rfl rfl ?_
  refine w_arraylength X D17_2 B ?_
  refine w_icmpne X D17_3 (fun hc3 => ?_) (fun hc3 => by have z := (n_inj (a := n') (b := n) (by omega) (by omega)).mp hc3; omega)
  refine w_iloadN X D17_14 rfl ?_
  refine w_newJ X D17_15 (hw _ (List.mem_of_getElem? (i := 2) rfl)) n' 8 rfl (by omega) (by decide) (Nat.le_of_ble_eq_true rfl) (Nat.le_of_ble_eq_true rfl) (fun T1 h1 a1 X1 g1 E1 B1 => ?_)
  have B_E1 := B.ext E1
  refine w_astoreN X1 D17_17 (l' := #[.val (.ref a), .val (.int (Int32.ofNat n')), .val (.ref a1)]) rfl rfl ?_
  refine w_aloadN X1 D17_18 rfl rfl ?_
  refine w_iconst X1 D17_19 (v := (0 : Int32)) rfl ?_
  refine w_aloadN X1 D17_20 rfl rfl ?_
  refine w_iconst X1 D17_21 (v := (0 : Int32)) rfl ?_
  refine w_aloadN X1 D17_22 rfl rfl ?_
  refine w_arraylength X1 D17_23 B_E1 ?_
  refine w_iloadN X1 D17_24 rfl ?_
  refine w_static X1 D17_25 (rmMin hw X1.sz _ _ n n' (by omega) (by omega) rfl rfl) (hw _ (List.mem_of_getElem? (i := 98) rfl)) (hw _ (List.mem_of_getElem? (i := 89) rfl)) (hw _ (List.mem_of_getElem? (i := 49) rfl)) (hw _ (List.mem_of_getElem? (i := 90) rfl)) (by decide) pd_1 rfl (S := [(.int (0 : Int32)), (.ref a1), (.int (0 : Int32)), (.ref a)]) rfl rfl (Nat.le_of_ble_eq_true rfl) (Nat.le_of_ble_eq_true rfl) (Nat.le_of_ble_eq_true rfl) (Nat.le_of_ble_eq_true rfl) (fun v2 T2 h2 X2 q2 => ?_)
  obtain ⟨rfl, rfl⟩ := q2
  show Wp _ _ _ _ _ _ _ _ (mkF m 28 #[.val (.ref a), .val (.int (Int32.ofNat n')), .val (.ref a1)] [(.int (Int32.ofNat (min n n'))), (.int (0 : Int32)), (.ref a1), (.int (0 : Int32)), (.ref a)])
  rw [Nat.min_eq_left (show n ≤ n' by omega)]
  refine w_arraycopy X2 D17_28 (hw _ (List.mem_of_getElem? (i := 99) rfl)) (hw _ (List.mem_of_getElem? (i := 102) rfl)) (hw _ (List.mem_of_getElem? (i := 100) rfl)) (hw _ (List.mem_of_getElem? (i := 101) rfl)) (cnt := n) B_E1 B1 rfl (fun _ _ => rfl) (fun _ _ => rfl) (Nat.le_refl _) (by omega) rfl (Nat.le_of_ble_eq_true rfl) (Nat.le_of_ble_eq_true rfl) (fun T3 h3 X3 K3 B3 => ?_)
  refine w_aloadN X3 D17_31 rfl rfl ?_
  refine w_areturn X3 rfl D17_32 (by decide) (by decide) ⟨a1, rfl, Nat.le_of_eq g1.symm, Ext.keep1 E1 K3 (Nat.le_of_eq g1.symm), B3.congr (fun i hi => ?_)⟩
  show (if i < n then bJ g i else bJ (fun _ => 0) i) = bJ (fun i => if i < n then g i else 0) i
  simp only [bJ]
  split <;> rfl
-- CUT
/-- the twelve arrays of a Packing, the last one first, ahead of the others -/
abbrev live (ad : Nat → Addr) (S : Nat → Nat → Nat) (cap : Nat) (Lt : List Ent) : List Ent := (ad 11, .int, 3, bI (xI (S 11))) :: (ad 10, .int, 3, bI (xI (S 10))) :: (ad 9, .int, 3, bI (nI (S 9))) :: (ad 8, .long, 3, bJ (mJ (S 8))) :: (ad 7, .int, 3, bI (nI (S 7))) :: (ad 6, .int, 3, bI (nI (S 6))) :: (ad 5, .int, cap, bI (xI (S 5))) :: (ad 4, .long, cap, bJ (mJ (S 4))) :: (ad 3, .int, cap, bI (nI (S 3))) :: (ad 2, .int, cap, bI (nI (S 2))) :: (ad 1, .int, cap, bI (nI (S 1))) :: (ad 0, .int, cap, bI (nI (S 0))) :: Lt
def PK (Z : State) (n0 : Nat) (h : Heap) (o : Addr) (ad : Nat → Addr) (S : Nat → Nat → Nat) (E cap en rw : Nat) (Lt : List Ent) : Prop :=
  Pak Z n0 h o (.ref (ad 0)) (.ref (ad 1)) (.ref (ad 2)) (.ref (ad 3)) (.ref (ad 4)) (.ref (ad 5)) (.ref (ad 6)) (.ref (ad 7)) (.ref (ad 8)) (.ref (ad 9)) (.ref (ad 10)) (.ref (ad 11)) (.int (Int32.ofNat E)) (.long (Int64.ofNat en)) (.int (Int32.ofNat rw)) ∧ Mem Z n0 h (live ad S cap Lt)
/-- the last extra's link to the new one -/
def lnk (S : Nat → Nat → Nat) (E sl : Nat) : Nat → Nat → Nat :=
  if S 11 sl = 0 then (fun k => match k with | 10 => upd (S 10) sl (E + 1) | k => S k) else (fun k => match k with | 5 => upd (S 5) (S 11 sl - 1) (E + 1) | k => S k)
/-- a further field of b bits -/
def adT (S : Nat → Nat → Nat) (E sl b q : Nat) : Nat → Nat → Nat := fun k => match k with
  | 0 => upd (S 0) E sl | 1 => upd (S 1) E (q / 64) | 2 => upd (S 2) E (q % 64) | 3 => upd (S 3) E (S 9 sl) | 4 => upd (S 4) E b | 5 => upd (S 5) E 0 | 9 => upd (S 9) sl (S 9 sl + b) | 11 => upd (S 11) sl (E + 1) | k => S k
def adS (S : Nat → Nat → Nat) (E sl b en : Nat) : Nat → Nat → Nat := adT (lnk S E sl) E sl b (plc en b)
theorem grow_nI (f : Nat → Nat) (n : Nat) (hz : ∀ i, n ≤ i → f i = 0) : (fun i => if i < n then nI f i else 0) = nI f := funext fun i => by
  by_cases hi : i < n
  · rw [if_pos hi]
  · rw [if_neg hi, nI, hz i (by omega)]; rfl
theorem grow_xI (f : Nat → Nat) (n : Nat) (hz : ∀ i, n ≤ i → f i = 1) : (fun i => if i < n then xI f i else 0) = xI f := funext fun i => by
  by_cases hi : i < n
  · rw [if_pos hi]
  · rw [if_neg hi, xI, hz i (by omega)]; rfl
theorem grow_mJ (f : Nat → Nat) (n : Nat) (hz : ∀ i, n ≤ i → f i = 0) : (fun i => if i < n then mJ f i else 0) = mJ f := funext fun i => by
  by_cases hi : i < n
  · rw [if_pos hi]
  · rw [if_neg hi, mJ, hz i (by omega)]; rfl
theorem own_up (E : Nat) : Int32.ofNat E = Int32.ofNat (E + 1) - 1 := (n_sub (a := E + 1) (b := 1) (by omega)).symm
theorem x_neg {u : Nat} (hu : u < 1000) : Int32.ofNat u - 1 < 0 ↔ u = 0 := by
  have z := c_isub (Int32.ofNat u) 1
  have z1 := rng32 (Int32.ofNat u - 1)
  rw [ofNat_toInt (by omega), show (1 : Int32).toInt = 1 from rfl] at z
  rw [Int32.lt_iff_toInt_lt, show (0 : Int32).toInt = 0 from rfl]
  omega
set_option maxRecDepth 65536 in
set_option maxHeartbeats 40000000 in
theorem ae2 {Z : State} {a0 : Array Value} {n0 : Nat} {p : Program} {l : Launch} {e : Env} {R : Room} {s : State} {m : MethodId} {args : Array Value} {below : List Frame} {meth : Method} {c : Code} {T : State} {h : Heap} {k j : Nat} {Q : Option Value → Heap → Prop} (hw : ∀ d ∈ tables_1, d.before a0 Z = true) (X : Pos Z a0 n0 p l e R s m args below meth c prog_60_method_7_code 4 none (⟨"com/example/tokenfold/tokenfold/statespace/Packing", "addExtra", "(II)V"⟩ : MethodName) T h k j) (l0 : Addr) (ad : Nat → Addr) (S : Nat → Nat → Nat) (E cap en rw sl b : Nat) (Lt : List Ent) (s3 : Slot) (hsl : sl < 3) (hb0 : b ≤ 31) (hE : E < cap) (hcap : cap ≤ 8) (hen : en < 100000) (hla : S 11 sl ≤ E) (hRf : 1 ≤ R.frames) (hRl : 13 ≤ R.locals) (hk : k ≤ R.cells) (hj : j ≤ R.slots) (P : PK Z n0 h l0 ad S E cap en rw Lt) (q : ∀ h', PK Z n0 h' l0 ad (adT S E sl b (plc en b)) (E + 1) cap (plc en b + b) rw Lt → Q none h') : Wp n0 p e R s below Q T (mkF m 132 #[.val (.ref l0), .val (.int (Int32.ofNat sl)), .val (.int (Int32.ofNat b)), s3] []) := by
  obtain ⟨O, M⟩ := P
  have hpl : plc en b < 100100 := by unfold plc; split <;> omega
  refine w_aloadN X D15_132 rfl rfl ?_
  refine w_iloadN X D15_133 rfl ?_
  refine w_private (z0 := ({ cls := "com/example/tokenfold/tokenfold/statespace/Packing", name := "widen", desc := "([I)V" } : Jvm.MethodName)) X D15_134 (rmP hw X.sz l0 _ _ _ _ _ _ _ _ _ _ _ _ _ _ _ en b rfl (by omega) (by omega) O) O.2.1 (hw _ (List.mem_of_getElem? (i := 51) rfl)) (hw _ (List.mem_of_getElem? (i := 52) rfl)) (hw _ (List.mem_of_getElem? (i := 53) rfl)) (hw _ (List.mem_of_getElem? (i := 64) rfl)) rfl (hw _ (List.mem_of_getElem? (i := 5) rfl)) (hw _ (List.mem_of_getElem? (i := 54) rfl)) (by decide) pd_2 rfl (S := []) rfl rfl hRf hRl hk hj (fun v1 T1 h1 X1 q1 => ?_)
  obtain ⟨rfl, K1, O1⟩ := q1
  have M1 := Pak_memK hw O M K1
  show Wp _ _ _ _ _ _ _ _ (mkF m 137 #[.val (.ref l0), .val (.int (Int32.ofNat sl)), .val (.int (Int32.ofNat b)), s3] [])
  refine w_aloadN X1 D15_137 rfl rfl ?_
  refine w_getF X1 D15_138 (hw _ (List.mem_of_getElem? (i := 12) rfl)) O1.2.2.1 (fun T2 X2 => ?_)
  refine w_aloadN X2 D15_141 rfl rfl ?_
  refine w_getF X2 D15_142 (hw _ (List.mem_of_getElem? (i := 77) rfl)) O1.2.2.2.2.2.2.2.2.2.2.2.2.2.2.1 (fun T3 X3 => ?_)
  refine w_iloadN X3 D15_145 rfl ?_
  refine w_iastore X3 D15_146 (M1.at 11 rfl) E rfl (by omega) (fun T4 h4 X4 K4 B4 => ?_)
  rw [upd_nI] at B4
  have O1_K4 := O1.keepB hw (M1.at 11 rfl) K4
  have M4 := M1.st 11 rfl K4 B4
  refine w_aloadN X4 D15_147 rfl rfl ?_
  refine w_getF X4 D15_148 (hw _ (List.mem_of_getElem? (i := 14) rfl)) O1_K4.2.2.2.1 (fun T5 X5 => ?_)
  refine w_aloadN X5 D15_151 rfl rfl ?_
  refine w_getF X5 D15_152 (hw _ (List.mem_of_getElem? (i := 77) rfl)) O1_K4.2.2.2.2.2.2.2.2.2.2.2.2.2.2.1 (fun T6 X6 => ?_)
  refine w_aloadN X6 D15_155 rfl rfl ?_
  refine w_getF X6 D15_156 (hw _ (List.mem_of_getElem? (i := 55) rfl)) O1_K4.2.2.2.2.2.2.2.2.2.2.2.2.2.2.2.1 (fun T7 X7 => ?_)
  refine w_ldc2 X7 D15_159 (hw _ (List.mem_of_getElem? (i := 57) rfl)) ?_
  refine w_ldiv X7 D15_162 (by decide) ?_
  rw [show Int64.ofNat (plc en b) / 64 = Int64.ofNat ((plc en b) / 64) from nL_div (k := 64) (by omega) (by decide) (by decide)]
  refine w_l2i X7 D15_163 ?_
  rw [n_l2i]
  refine w_iastore X7 D15_164 (M4.at 10 rfl) E rfl (by omega) (fun T8 h8 X8 K8 B8 => ?_)
  rw [upd_nI] at B8
  have O1_K8 := O1_K4.keepB hw (M4.at 10 rfl) K8
  have M8 := M4.st 10 rfl K8 B8
  refine w_aloadN X8 D15_165 rfl rfl ?_
  refine w_getF X8 D15_166 (hw _ (List.mem_of_getElem? (i := 16) rfl)) O1_K8.2.2.2.2.1 (fun T9 X9 => ?_)
  refine w_aloadN X9 D15_169 rfl rfl ?_
  refine w_getF X9 D15_170 (hw _ (List.mem_of_getElem? (i := 77) rfl)) O1_K8.2.2.2.2.2.2.2.2.2.2.2.2.2.2.1 (fun T10 X10 => ?_)
  refine w_aloadN X10 D15_173 rfl rfl ?_
  refine w_getF X10 D15_174 (hw _ (List.mem_of_getElem? (i := 55) rfl)) O1_K8.2.2.2.2.2.2.2.2.2.2.2.2.2.2.2.1 (fun T11 X11 => ?_)
  refine w_ldc2 X11 D15_177 (hw _ (List.mem_of_getElem? (i := 57) rfl)) ?_
  refine w_lrem X11 D15_180 (by decide) ?_
  rw [show Int64.ofNat (plc en b) - (Int64.ofNat (plc en b) / 64) * 64 = Int64.ofNat ((plc en b) % 64) from nL_rem (k := 64) (by omega) (by decide) (by decide)]
  refine w_l2i X11 D15_181 ?_
  rw [n_l2i]
  refine w_iastore X11 D15_182 (M8.at 9 rfl) E rfl (by omega) (fun T12 h12 X12 K12 B12 => ?_)
  rw [upd_nI] at B12
  have O1_K12 := O1_K8.keepB hw (M8.at 9 rfl) K12
  have M12 := M8.st 9 rfl K12 B12
  refine w_aloadN X12 D15_183 rfl rfl ?_
  refine w_getF X12 D15_184 (hw _ (List.mem_of_getElem? (i := 18) rfl)) O1_K12.2.2.2.2.2.1 (fun T13 X13 => ?_)
  refine w_aloadN X13 D15_187 rfl rfl ?_
  refine w_getF X13 D15_188 (hw _ (List.mem_of_getElem? (i := 77) rfl)) O1_K12.2.2.2.2.2.2.2.2.2.2.2.2.2.2.1 (fun T14 X14 => ?_)
  refine w_aloadN X14 D15_191 rfl rfl ?_
  refine w_getF X14 D15_192 (hw _ (List.mem_of_getElem? (i := 30) rfl)) O1_K12.2.2.2.2.2.2.2.2.2.2.2.1 (fun T15 X15 => ?_)
  refine w_iloadN X15 D15_195 rfl ?_
  refine w_iaload X15 D15_196 (M12.at 2 rfl) sl rfl (by omega) ?_
  show Wp _ _ _ _ _ _ _ _ (mkF m 197 #[.val (.ref l0), .val (.int (Int32.ofNat sl)), .val (.int (Int32.ofNat b)), s3] [(.int (Int32.ofNat ((S 9) sl))), (.int (Int32.ofNat E)), (.ref (ad 3))])
  refine w_iastore X15 D15_197 (M12.at 8 rfl) E rfl (by omega) (fun T16 h16 X16 K16 B16 => ?_)
  rw [upd_nI] at B16
  have O1_K16 := O1_K12.keepB hw (M12.at 8 rfl) K16
  have M16 := M12.st 8 rfl K16 B16
  refine w_aloadN X16 D15_198 rfl rfl ?_
  refine w_getF X16 D15_199 (hw _ (List.mem_of_getElem? (i := 20) rfl)) O1_K16.2.2.2.2.2.2.1 (fun T17 X17 => ?_)
  refine w_aloadN X17 D15_202 rfl rfl ?_
  refine w_getF X17 D15_203 (hw _ (List.mem_of_getElem? (i := 77) rfl)) O1_K16.2.2.2.2.2.2.2.2.2.2.2.2.2.2.1 (fun T18 X18 => ?_)
  refine w_lconst1 X18 D15_206 ?_
  refine w_iloadN X18 D15_207 rfl ?_
  refine w_lshl X18 D15_208 ?_
  refine w_lconst1 X18 D15_209 ?_
  refine w_lsub X18 D15_210 ?_
  rw [own_mask (b := b) (by omega)]
  refine w_lastore X18 D15_211 (M16.at 7 rfl) E rfl (by omega) (fun T19 h19 X19 K19 B19 => ?_)
  rw [upd_mJ] at B19
  have O1_K19 := O1_K16.keepB hw (M16.at 7 rfl) K19
  have M19 := M16.st 7 rfl K19 B19
  refine w_aloadN X19 D15_212 rfl rfl ?_
  refine w_getF X19 D15_213 (hw _ (List.mem_of_getElem? (i := 22) rfl)) O1_K19.2.2.2.2.2.2.2.1 (fun T20 X20 => ?_)
  refine w_aloadN X20 D15_216 rfl rfl ?_
  refine w_getF X20 D15_217 (hw _ (List.mem_of_getElem? (i := 77) rfl)) O1_K19.2.2.2.2.2.2.2.2.2.2.2.2.2.2.1 (fun T21 X21 => ?_)
  refine w_iconst X21 D15_220 (v := (-1 : Int32)) rfl ?_
  rw [show (-1 : Int32) = Int32.ofNat 0 - 1 from rfl]
  refine w_iastore X21 D15_221 (M19.at 6 rfl) E rfl (by omega) (fun T22 h22 X22 K22 B22 => ?_)
  rw [upd_xI] at B22
  have O1_K22 := O1_K19.keepB hw (M19.at 6 rfl) K22
  have M22 := M19.st 6 rfl K22 B22
  refine w_aloadN X22 D15_222 rfl rfl ?_
  refine w_getF X22 D15_223 (hw _ (List.mem_of_getElem? (i := 34) rfl)) O1_K22.2.2.2.2.2.2.2.2.2.2.2.2.2.1 (fun T23 X23 => ?_)
  refine w_iloadN X23 D15_226 rfl ?_
  refine w_aloadN X23 D15_227 rfl rfl ?_
  refine w_getF X23 D15_228 (hw _ (List.mem_of_getElem? (i := 77) rfl)) O1_K22.2.2.2.2.2.2.2.2.2.2.2.2.2.2.1 (fun T24 X24 => ?_)
  rw [own_up E]
  refine w_iastore X24 D15_231 (M22.at 0 rfl) sl rfl (by omega) (fun T25 h25 X25 K25 B25 => ?_)
  rw [upd_xI] at B25
  have O1_K25 := O1_K22.keepB hw (M22.at 0 rfl) K25
  have M25 := M22.st 0 rfl K25 B25
  refine w_aloadN X25 D15_232 rfl rfl ?_
  refine w_getF X25 D15_233 (hw _ (List.mem_of_getElem? (i := 30) rfl)) O1_K25.2.2.2.2.2.2.2.2.2.2.2.1 (fun T26 X26 => ?_)
  refine w_iloadN X26 D15_236 rfl ?_
  refine w_dup2 X26 D15_237 rfl rfl ?_
  refine w_iaload X26 D15_238 (M25.at 2 rfl) sl rfl (by omega) ?_
  show Wp _ _ _ _ _ _ _ _ (mkF m 239 #[.val (.ref l0), .val (.int (Int32.ofNat sl)), .val (.int (Int32.ofNat b)), s3] [(.int (Int32.ofNat ((S 9) sl))), (.int (Int32.ofNat sl)), (.ref (ad 9))])
  refine w_iloadN X26 D15_239 rfl ?_
  refine w_iadd X26 D15_240 ?_
  rw [n_add]
  refine w_iastore X26 D15_241 (M25.at 2 rfl) sl rfl (by omega) (fun T27 h27 X27 K27 B27 => ?_)
  rw [upd_nI] at B27
  have O1_K27 := O1_K25.keepB hw (M25.at 2 rfl) K27
  have M27 := M25.st 2 rfl K27 B27
  refine w_aloadN X27 D15_242 rfl rfl ?_
  refine w_dup X27 D15_243 rfl ?_
  refine w_getF X27 D15_244 (hw _ (List.mem_of_getElem? (i := 55) rfl)) O1_K27.2.2.2.2.2.2.2.2.2.2.2.2.2.2.2.1 (fun T28 X28 => ?_)
  refine w_iloadN X28 D15_247 rfl ?_
  refine w_i2l X28 D15_248 ?_
  rw [n_i2l (show b < 2147483648 by omega)]
  refine w_ladd X28 D15_249 ?_
  rw [nL_add]
  refine w_putF X28 D15_250 (hw _ (List.mem_of_getElem? (i := 55) rfl)) O1_K27.2.2.2.2.2.2.2.2.2.2.2.2.2.2.2.1 O1_K27.2.1 O1_K27.1 (Or.inl (hw _ (List.mem_of_getElem? (i := 56) rfl))) (hw _ (List.mem_of_getElem? (i := 4) rfl)) (ty := .long) (by decide) rfl rfl (fun T29 h29 X29 W29 => ?_)
  have O29 := O1_K27.put_end hw W29
  have M29 := Pak_memW hw O1_K27 M27 W29
  refine w_aloadN X29 D15_253 rfl rfl ?_
  refine w_dup X29 D15_254 rfl ?_
  refine w_getF X29 D15_255 (hw _ (List.mem_of_getElem? (i := 77) rfl)) O29.2.2.2.2.2.2.2.2.2.2.2.2.2.2.1 (fun T30 X30 => ?_)
  refine w_iconst X30 D15_258 (v := (1 : Int32)) rfl ?_
  refine w_iadd X30 D15_259 ?_
  rw [show Int32.ofNat E + 1 = Int32.ofNat (E + 1) from n_add _ 1]
  refine w_putF X30 D15_260 (hw _ (List.mem_of_getElem? (i := 77) rfl)) O29.2.2.2.2.2.2.2.2.2.2.2.2.2.2.1 O29.2.1 O29.1 (Or.inl (hw _ (List.mem_of_getElem? (i := 78) rfl))) (hw _ (List.mem_of_getElem? (i := 4) rfl)) (ty := .int) (by decide) rfl rfl (fun T31 h31 X31 W31 => ?_)
  have O31 := O29.put_extras hw W31
  have M31 := Pak_memW hw O29 M29 W31
  exact w_return X31 D15_263 hk hj (q _ ⟨O31, M31⟩)
set_option maxRecDepth 65536 in
set_option maxHeartbeats 40000000 in
theorem ae1 {Z : State} {a0 : Array Value} {n0 : Nat} {p : Program} {l : Launch} {e : Env} {R : Room} {s : State} {m : MethodId} {args : Array Value} {below : List Frame} {meth : Method} {c : Code} {T : State} {h : Heap} {k j : Nat} {Q : Option Value → Heap → Prop} (hw : ∀ d ∈ tables_1, d.before a0 Z = true) (X : Pos Z a0 n0 p l e R s m args below meth c prog_60_method_7_code 4 none (⟨"com/example/tokenfold/tokenfold/statespace/Packing", "addExtra", "(II)V"⟩ : MethodName) T h k j) (l0 : Addr) (ad : Nat → Addr) (S : Nat → Nat → Nat) (E cap en rw sl b : Nat) (Lt : List Ent) (s3 : Slot) (hsl : sl < 3) (hb0 : b ≤ 31) (hE : E < cap) (hcap : cap ≤ 8) (hen : en < 100000) (hla : S 11 sl ≤ E) (hRf : 1 ≤ R.frames) (hRl : 13 ≤ R.locals) (hk : k ≤ R.cells) (hj : j ≤ R.slots) (P : PK Z n0 h l0 ad S E cap en rw Lt) (q : ∀ h', PK Z n0 h' l0 ad (adS S E sl b en) (E + 1) cap (plc en b + b) rw Lt → Q none h') : Wp n0 p e R s below Q T (mkF m 95 #[.val (.ref l0), .val (.int (Int32.ofNat sl)), .val (.int (Int32.ofNat b)), s3] []) := by
  obtain ⟨O, M⟩ := P
  refine w_aloadN X D15_95 rfl rfl ?_
  refine w_getF X D15_96 (hw _ (List.mem_of_getElem? (i := 34) rfl)) O.2.2.2.2.2.2.2.2.2.2.2.2.2.1 (fun T1 X1 => ?_)
  refine w_iloadN X1 D15_99 rfl ?_
  refine w_iaload X1 D15_100 (M.at 0 rfl) sl rfl (by omega) ?_
  show Wp _ _ _ _ _ _ _ _ (mkF m 101 #[.val (.ref l0), .val (.int (Int32.ofNat sl)), .val (.int (Int32.ofNat b)), s3] [(.int (Int32.ofNat ((S 11) sl) - (1 : Int32)))])
  refine w_ifge X1 D15_101 (fun hc101 => ?_) (fun hc101 => ?_)
  · have hS : ¬ S 11 sl = 0 := fun z => hc101 ((x_neg (by omega)).mpr z)
    refine w_aloadN X1 D15_117 rfl rfl ?_
    refine w_getF X1 D15_118 (hw _ (List.mem_of_getElem? (i := 22) rfl)) O.2.2.2.2.2.2.2.1 (fun T2 X2 => ?_)
    refine w_aloadN X2 D15_121 rfl rfl ?_
    refine w_getF X2 D15_122 (hw _ (List.mem_of_getElem? (i := 34) rfl)) O.2.2.2.2.2.2.2.2.2.2.2.2.2.1 (fun T3 X3 => ?_)
    refine w_iloadN X3 D15_125 rfl ?_
    refine w_iaload X3 D15_126 (M.at 0 rfl) sl rfl (by omega) ?_
    show Wp _ _ _ _ _ _ _ _ (mkF m 127 #[.val (.ref l0), .val (.int (Int32.ofNat sl)), .val (.int (Int32.ofNat b)), s3] [(.int (Int32.ofNat ((S 11) sl) - (1 : Int32))), (.ref (ad 5))])
    refine w_aloadN X3 D15_127 rfl rfl ?_
    refine w_getF X3 D15_128 (hw _ (List.mem_of_getElem? (i := 77) rfl)) O.2.2.2.2.2.2.2.2.2.2.2.2.2.2.1 (fun T4 X4 => ?_)
    rw [own_up E]
    refine w_iastore X4 D15_131 (M.at 6 rfl) (S 11 sl - 1) (n_sub (b := 1) (by omega)) (by omega) (fun T5 h5 X5 K5 B5 => ?_)
    rw [upd_xI] at B5
    have O_K5 := O.keepB hw (M.at 6 rfl) K5
    have M5 := M.st 6 rfl K5 B5
    exact ae2 hw X5 l0 ad (fun k => match k with | 5 => upd (S 5) (S 11 sl - 1) (E + 1) | k => S k) E cap en rw sl b Lt s3 hsl hb0 hE hcap hen hla hRf hRl hk hj ⟨O_K5, M5⟩ (fun h' P => q h' (by
      rw [adS, lnk, if_neg hS]; exact P))
  · refine w_aloadN X1 D15_104 rfl rfl ?_
    refine w_getF X1 D15_105 (hw _ (List.mem_of_getElem? (i := 32) rfl)) O.2.2.2.2.2.2.2.2.2.2.2.2.1 (fun T6 X6 => ?_)
    refine w_iloadN X6 D15_108 rfl ?_
    refine w_aloadN X6 D15_109 rfl rfl ?_
    refine w_getF X6 D15_110 (hw _ (List.mem_of_getElem? (i := 77) rfl)) O.2.2.2.2.2.2.2.2.2.2.2.2.2.2.1 (fun T7 X7 => ?_)
    rw [own_up E]
    refine w_iastore X7 D15_113 (M.at 1 rfl) sl rfl (by omega) (fun T8 h8 X8 K8 B8 => ?_)
    rw [upd_xI] at B8
    have O_K8 := O.keepB hw (M.at 1 rfl) K8
    have M8 := M.st 1 rfl K8 B8
    refine w_goto X8 D15_114 ?_
    exact ae2 hw X8 l0 ad (fun k => match k with | 10 => upd (S 10) sl (E + 1) | k => S k) E cap en rw sl b Lt s3 hsl hb0 hE hcap hen hla hRf hRl hk hj ⟨O_K8, M8⟩ (fun h' P => q h' (by
      rw [adS, lnk, if_pos ((x_neg (by omega)).mp hc101)]; exact P))
theorem ef_15 (m : MethodId) (l0 : Addr) (x1 : Int32) (x2 : Int32) : entryFrame m #[(.ref l0), (.int x1), (.int x2)] 4 = mkF m 0 #[.val (.ref l0), .val (.int x1), .val (.int x2), .unset] [] := by first | (simp [entryFrame, mkF, argsToLocals, Value.category]; done) | rfl
theorem pn_15 : plainName "com/example/tokenfold/tokenfold/statespace/Packing" = true := by first | (simp [plainName, overriddenIn]; done) | decide +kernel
set_option maxRecDepth 65536 in
set_option maxHeartbeats 40000000 in
theorem rmA {l : Launch} {Z : State} {a0 : Array Value} {n0 : Nat} {h : Heap} (hw : ∀ d ∈ tables_1, d.before a0 Z = true) (hn : n0 ≤ h.size) (l0 : Addr) (x1 : Int32) (x2 : Int32) (ad : Nat → Addr) (S : Nat → Nat → Nat) (E cap en rw sl b : Nat) (Lt : List Ent) (e1 : x1 = Int32.ofNat sl) (e2 : x2 = Int32.ofNat b) (hsl : sl < 3) (hb0 : b ≤ 31) (hcE : E = cap) (hcap : cap = 0 ∨ cap = 4) (c2 : Nat) (hc2 : max 4 (E * 2) = c2) (hen : en < 100000) (hla : S 11 sl ≤ E) (hz : ∀ k, k < 5 → ∀ i, E ≤ i → S k i = 0) (hz5 : ∀ i, E ≤ i → S 5 i = 1) (P : PK Z n0 h l0 ad S E cap en rw Lt) :
    Ctr l Z n0 (⟨"com/example/tokenfold/tokenfold/statespace/Packing", "addExtra", "(II)V"⟩ : MethodName) prog_60_method_7_code 4 none ({ frames := 2, cells := 6, slots := 48, locals := 40 } : Room) [] #[(.ref l0), (.int x1), (.int x2)] h (fun v h' => v = none ∧ ∃ ad', PK Z n0 h' l0 ad' (adS S E sl b en) (E + 1) c2 (plc en b + b) rw Lt) := by
  refine ctr_of (plainFor_of_name pn_15) hw hn ?_
  intro p e s m below meth c T X
  refine Wp.cast (ef_15 m l0 x1 x2) ?_
  subst e1 e2
  obtain ⟨O, M⟩ := P
  refine w_aloadN X D15_0 rfl rfl ?_
  refine w_getF X D15_1 (hw _ (List.mem_of_getElem? (i := 77) rfl)) O.2.2.2.2.2.2.2.2.2.2.2.2.2.2.1 (fun T1 X1 => ?_)
  refine w_aloadN X1 D15_4 rfl rfl ?_
  refine w_getF X1 D15_5 (hw _ (List.mem_of_getElem? (i := 12) rfl)) O.2.2.1 (fun T2 X2 => ?_)
  refine w_arraylength X2 D15_8 (M.at 11 rfl) ?_
  refine w_icmpne X2 D15_9 (fun hc9 => by exact absurd (by rw [hcE]) hc9) (fun hc9 => ?_)
  have hc3 : (c2 = 4 ∨ c2 = 8) ∧ cap < c2 := by omega
  refine w_iconst X2 D15_12 (v := (4 : Int32)) rfl ?_
  refine w_aloadN X2 D15_13 rfl rfl ?_
  refine w_getF X2 D15_14 (hw _ (List.mem_of_getElem? (i := 77) rfl)) O.2.2.2.2.2.2.2.2.2.2.2.2.2.2.1 (fun T3 X3 => ?_)
  refine w_iconst X3 D15_17 (v := (2 : Int32)) rfl ?_
  refine w_imul X3 D15_18 ?_
  rw [show Int32.ofNat E * 2 = Int32.ofNat (E * 2) from n_mul _ 2]
  refine w_static X3 D15_19 (rmMax hw X3.sz _ _ 4 (E * 2) (by decide) (by omega) rfl rfl) (hw _ (List.mem_of_getElem? (i := 47) rfl)) (hw _ (List.mem_of_getElem? (i := 48) rfl)) (hw _ (List.mem_of_getElem? (i := 49) rfl)) (hw _ (List.mem_of_getElem? (i := 50) rfl)) (by decide) pd_1 rfl (S := []) rfl rfl (Nat.le_of_ble_eq_true rfl) (Nat.le_of_ble_eq_true rfl) (Nat.le_of_ble_eq_true rfl) (Nat.le_of_ble_eq_true rfl) (fun v4 T4 h4 X4 q4 => ?_)
  obtain ⟨rfl, rfl⟩ := q4
  show Wp _ _ _ _ _ _ _ _ (mkF m 22 #[.val (.ref l0), .val (.int (Int32.ofNat sl)), .val (.int (Int32.ofNat b)), .unset] [(.int (Int32.ofNat (max 4 (E * 2))))])
  rw [hc2]
  refine w_istoreN X4 D15_22 (l' := #[.val (.ref l0), .val (.int (Int32.ofNat sl)), .val (.int (Int32.ofNat b)), .val (.int (Int32.ofNat c2))]) rfl ?_
  refine w_aloadN X4 D15_23 rfl rfl ?_
  refine w_aloadN X4 D15_24 rfl rfl ?_
  refine w_getF X4 D15_25 (hw _ (List.mem_of_getElem? (i := 12) rfl)) O.2.2.1 (fun T5 X5 => ?_)
  refine w_iloadN X5 D15_28 rfl ?_
  refine w_static X5 D15_29 (rmCI hw X5.sz (ad 0) _ cap c2 (nI (S 0)) rfl (by omega) (by omega) (M.at 11 rfl)) (hw _ (List.mem_of_getElem? (i := 95) rfl)) (hw _ (List.mem_of_getElem? (i := 96) rfl)) (hw _ (List.mem_of_getElem? (i := 38) rfl)) (hw _ (List.mem_of_getElem? (i := 97) rfl)) (by decide) pd_3 rfl (S := [(.ref l0)]) rfl rfl (Nat.le_of_ble_eq_true rfl) (Nat.le_of_ble_eq_true rfl) (Nat.le_of_ble_eq_true rfl) (Nat.le_of_ble_eq_true rfl) (fun v6 T6 h6 X6 q6 => ?_)
  obtain ⟨b6, rfl, g6, E6, B6⟩ := q6
  rw [grow_nI _ _ (fun i hi => hz 0 (by decide) i (by omega))] at B6
  have M6 := M.rep 11 E6 g6 B6
  have O6 := O.ext E6
  show Wp _ _ _ _ _ _ _ _ (mkF m 32 #[.val (.ref l0), .val (.int (Int32.ofNat sl)), .val (.int (Int32.ofNat b)), .val (.int (Int32.ofNat c2))] [(.ref b6), (.ref l0)])
  refine w_putF X6 D15_32 (hw _ (List.mem_of_getElem? (i := 12) rfl)) O6.2.2.1 O6.2.1 O6.1 (Or.inl (hw _ (List.mem_of_getElem? (i := 13) rfl))) (hw _ (List.mem_of_getElem? (i := 4) rfl)) (ty := (.array .int)) (by decide) rfl rfl (fun T7 h7 X7 W7 => ?_)
  have O7 := O6.put_extraSlots hw W7
  have M7 := Pak_memW hw O6 M6 W7
  refine w_aloadN X7 D15_35 rfl rfl ?_
  refine w_aloadN X7 D15_36 rfl rfl ?_
  refine w_getF X7 D15_37 (hw _ (List.mem_of_getElem? (i := 14) rfl)) O7.2.2.2.1 (fun T8 X8 => ?_)
  refine w_iloadN X8 D15_40 rfl ?_
  refine w_static X8 D15_41 (rmCI hw X8.sz (ad 1) _ cap c2 (nI (S 1)) rfl (by omega) (by omega) (M7.at 10 rfl)) (hw _ (List.mem_of_getElem? (i := 95) rfl)) (hw _ (List.mem_of_getElem? (i := 96) rfl)) (hw _ (List.mem_of_getElem? (i := 38) rfl)) (hw _ (List.mem_of_getElem? (i := 97) rfl)) (by decide) pd_3 rfl (S := [(.ref l0)]) rfl rfl (Nat.le_of_ble_eq_true rfl) (Nat.le_of_ble_eq_true rfl) (Nat.le_of_ble_eq_true rfl) (Nat.le_of_ble_eq_true rfl) (fun v9 T9 h9 X9 q9 => ?_)
  obtain ⟨b9, rfl, g9, E9, B9⟩ := q9
  rw [grow_nI _ _ (fun i hi => hz 1 (by decide) i (by omega))] at B9
  have M9 := M7.rep 10 E9 g9 B9
  have O9 := O7.ext E9
  show Wp _ _ _ _ _ _ _ _ (mkF m 44 #[.val (.ref l0), .val (.int (Int32.ofNat sl)), .val (.int (Int32.ofNat b)), .val (.int (Int32.ofNat c2))] [(.ref b9), (.ref l0)])
  refine w_putF X9 D15_44 (hw _ (List.mem_of_getElem? (i := 14) rfl)) O9.2.2.2.1 O9.2.1 O9.1 (Or.inl (hw _ (List.mem_of_getElem? (i := 15) rfl))) (hw _ (List.mem_of_getElem? (i := 4) rfl)) (ty := (.array .int)) (by decide) rfl rfl (fun T10 h10 X10 W10 => ?_)
  have O10 := O9.put_extraWords hw W10
  have M10 := Pak_memW hw O9 M9 W10
  refine w_aloadN X10 D15_47 rfl rfl ?_
  refine w_aloadN X10 D15_48 rfl rfl ?_
  refine w_getF X10 D15_49 (hw _ (List.mem_of_getElem? (i := 16) rfl)) O10.2.2.2.2.1 (fun T11 X11 => ?_)
  refine w_iloadN X11 D15_52 rfl ?_
  refine w_static X11 D15_53 (rmCI hw X11.sz (ad 2) _ cap c2 (nI (S 2)) rfl (by omega) (by omega) (M10.at 9 rfl)) (hw _ (List.mem_of_getElem? (i := 95) rfl)) (hw _ (List.mem_of_getElem? (i := 96) rfl)) (hw _ (List.mem_of_getElem? (i := 38) rfl)) (hw _ (List.mem_of_getElem? (i := 97) rfl)) (by decide) pd_3 rfl (S := [(.ref l0)]) rfl rfl (Nat.le_of_ble_eq_true rfl) (Nat.le_of_ble_eq_true rfl) (Nat.le_of_ble_eq_true rfl) (Nat.le_of_ble_eq_true rfl) (fun v12 T12 h12 X12 q12 => ?_)
  obtain ⟨b12, rfl, g12, E12, B12⟩ := q12
  rw [grow_nI _ _ (fun i hi => hz 2 (by decide) i (by omega))] at B12
  have M12 := M10.rep 9 E12 g12 B12
  have O12 := O10.ext E12
  show Wp _ _ _ _ _ _ _ _ (mkF m 56 #[.val (.ref l0), .val (.int (Int32.ofNat sl)), .val (.int (Int32.ofNat b)), .val (.int (Int32.ofNat c2))] [(.ref b12), (.ref l0)])
  refine w_putF X12 D15_56 (hw _ (List.mem_of_getElem? (i := 16) rfl)) O12.2.2.2.2.1 O12.2.1 O12.1 (Or.inl (hw _ (List.mem_of_getElem? (i := 17) rfl))) (hw _ (List.mem_of_getElem? (i := 4) rfl)) (ty := (.array .int)) (by decide) rfl rfl (fun T13 h13 X13 W13 => ?_)
  have O13 := O12.put_extraShifts hw W13
  have M13 := Pak_memW hw O12 M12 W13
  refine w_aloadN X13 D15_59 rfl rfl ?_
  refine w_aloadN X13 D15_60 rfl rfl ?_
  refine w_getF X13 D15_61 (hw _ (List.mem_of_getElem? (i := 18) rfl)) O13.2.2.2.2.2.1 (fun T14 X14 => ?_)
  refine w_iloadN X14 D15_64 rfl ?_
  refine w_static X14 D15_65 (rmCI hw X14.sz (ad 3) _ cap c2 (nI (S 3)) rfl (by omega) (by omega) (M13.at 8 rfl)) (hw _ (List.mem_of_getElem? (i := 95) rfl)) (hw _ (List.mem_of_getElem? (i := 96) rfl)) (hw _ (List.mem_of_getElem? (i := 38) rfl)) (hw _ (List.mem_of_getElem? (i := 97) rfl)) (by decide) pd_3 rfl (S := [(.ref l0)]) rfl rfl (Nat.le_of_ble_eq_true rfl) (Nat.le_of_ble_eq_true rfl) (Nat.le_of_ble_eq_true rfl) (Nat.le_of_ble_eq_true rfl) (fun v15 T15 h15 X15 q15 => ?_)
  obtain ⟨b15, rfl, g15, E15, B15⟩ := q15
  rw [grow_nI _ _ (fun i hi => hz 3 (by decide) i (by omega))] at B15
  have M15 := M13.rep 8 E15 g15 B15
  have O15 := O13.ext E15
  show Wp _ _ _ _ _ _ _ _ (mkF m 68 #[.val (.ref l0), .val (.int (Int32.ofNat sl)), .val (.int (Int32.ofNat b)), .val (.int (Int32.ofNat c2))] [(.ref b15), (.ref l0)])
  refine w_putF X15 D15_68 (hw _ (List.mem_of_getElem? (i := 18) rfl)) O15.2.2.2.2.2.1 O15.2.1 O15.1 (Or.inl (hw _ (List.mem_of_getElem? (i := 19) rfl))) (hw _ (List.mem_of_getElem? (i := 4) rfl)) (ty := (.array .int)) (by decide) rfl rfl (fun T16 h16 X16 W16 => ?_)
  have O16 := O15.put_extraLows hw W16
  have M16 := Pak_memW hw O15 M15 W16
  refine w_aloadN X16 D15_71 rfl rfl ?_
  refine w_aloadN X16 D15_72 rfl rfl ?_
  refine w_getF X16 D15_73 (hw _ (List.mem_of_getElem? (i := 20) rfl)) O16.2.2.2.2.2.2.1 (fun T17 X17 => ?_)
  refine w_iloadN X17 D15_76 rfl ?_
  refine w_static X17 D15_77 (rmCJ hw X17.sz (ad 4) _ cap c2 (mJ (S 4)) rfl (by omega) (by omega) (M16.at 7 rfl)) (hw _ (List.mem_of_getElem? (i := 103) rfl)) (hw _ (List.mem_of_getElem? (i := 104) rfl)) (hw _ (List.mem_of_getElem? (i := 38) rfl)) (hw _ (List.mem_of_getElem? (i := 105) rfl)) (by decide) pd_4 rfl (S := [(.ref l0)]) rfl rfl (Nat.le_of_ble_eq_true rfl) (Nat.le_of_ble_eq_true rfl) (Nat.le_of_ble_eq_true rfl) (Nat.le_of_ble_eq_true rfl) (fun v18 T18 h18 X18 q18 => ?_)
  obtain ⟨b18, rfl, g18, E18, B18⟩ := q18
  rw [grow_mJ _ _ (fun i hi => hz 4 (by decide) i (by omega))] at B18
  have M18 := M16.rep 7 E18 g18 B18
  have O18 := O16.ext E18
  show Wp _ _ _ _ _ _ _ _ (mkF m 80 #[.val (.ref l0), .val (.int (Int32.ofNat sl)), .val (.int (Int32.ofNat b)), .val (.int (Int32.ofNat c2))] [(.ref b18), (.ref l0)])
  refine w_putF X18 D15_80 (hw _ (List.mem_of_getElem? (i := 20) rfl)) O18.2.2.2.2.2.2.1 O18.2.1 O18.1 (Or.inl (hw _ (List.mem_of_getElem? (i := 21) rfl))) (hw _ (List.mem_of_getElem? (i := 4) rfl)) (ty := (.array .long)) (by decide) rfl rfl (fun T19 h19 X19 W19 => ?_)
  have O19 := O18.put_extraMasks hw W19
  have M19 := Pak_memW hw O18 M18 W19
  refine w_aloadN X19 D15_83 rfl rfl ?_
  refine w_aloadN X19 D15_84 rfl rfl ?_
  refine w_getF X19 D15_85 (hw _ (List.mem_of_getElem? (i := 22) rfl)) O19.2.2.2.2.2.2.2.1 (fun T20 X20 => ?_)
  refine w_iloadN X20 D15_88 rfl ?_
  refine w_static X20 D15_89 (rmCI hw X20.sz (ad 5) _ cap c2 (xI (S 5)) rfl (by omega) (by omega) (M19.at 6 rfl)) (hw _ (List.mem_of_getElem? (i := 95) rfl)) (hw _ (List.mem_of_getElem? (i := 96) rfl)) (hw _ (List.mem_of_getElem? (i := 38) rfl)) (hw _ (List.mem_of_getElem? (i := 97) rfl)) (by decide) pd_3 rfl (S := [(.ref l0)]) rfl rfl (Nat.le_of_ble_eq_true rfl) (Nat.le_of_ble_eq_true rfl) (Nat.le_of_ble_eq_true rfl) (Nat.le_of_ble_eq_true rfl) (fun v21 T21 h21 X21 q21 => ?_)
  obtain ⟨b21, rfl, g21, E21, B21⟩ := q21
  rw [grow_xI _ _ (fun i hi => hz5 i (by omega))] at B21
  have M21 := M19.rep 6 E21 g21 B21
  have O21 := O19.ext E21
  show Wp _ _ _ _ _ _ _ _ (mkF m 92 #[.val (.ref l0), .val (.int (Int32.ofNat sl)), .val (.int (Int32.ofNat b)), .val (.int (Int32.ofNat c2))] [(.ref b21), (.ref l0)])
  refine w_putF X21 D15_92 (hw _ (List.mem_of_getElem? (i := 22) rfl)) O21.2.2.2.2.2.2.2.1 O21.2.1 O21.1 (Or.inl (hw _ (List.mem_of_getElem? (i := 23) rfl))) (hw _ (List.mem_of_getElem? (i := 4) rfl)) (ty := (.array .int)) (by decide) rfl rfl (fun T22 h22 X22 W22 => ?_)
  have O22 := O21.put_nextExtras hw W22
  have M22 := Pak_memW hw O21 M21 W22
  exact ae1 hw X22 l0 (fun k => match k with | 0 => b6 | 1 => b9 | 2 => b12 | 3 => b15 | 4 => b18 | 5 => b21 | k => ad k) S E c2 en rw sl b Lt _ hsl hb0 (by omega) (by omega) hen hla (Nat.le_of_ble_eq_true rfl) (Nat.le_of_ble_eq_true rfl) (Nat.le_of_ble_eq_true rfl) (Nat.le_of_ble_eq_true rfl) ⟨O22, M22⟩ (fun h' P => ⟨rfl, _, P⟩)
theorem ef_15b (m : MethodId) (l0 : Addr) (x1 : Int32) (x2 : Int32) : entryFrame m #[(.ref l0), (.int x1), (.int x2)] 4 = mkF m 0 #[.val (.ref l0), .val (.int x1), .val (.int x2), .unset] [] := by first | (simp [entryFrame, mkF, argsToLocals, Value.category]; done) | rfl
theorem pn_15b : plainName "com/example/tokenfold/tokenfold/statespace/Packing" = true := by first | (simp [plainName, overriddenIn]; done) | decide +kernel
set_option maxRecDepth 65536 in
set_option maxHeartbeats 40000000 in
theorem rmA0 {l : Launch} {Z : State} {a0 : Array Value} {n0 : Nat} {h : Heap} (hw : ∀ d ∈ tables_1, d.before a0 Z = true) (hn : n0 ≤ h.size) (l0 : Addr) (x1 : Int32) (x2 : Int32) (ad : Nat → Addr) (S : Nat → Nat → Nat) (E cap en rw sl b : Nat) (Lt : List Ent) (e1 : x1 = Int32.ofNat sl) (e2 : x2 = Int32.ofNat b) (hsl : sl < 3) (hb0 : b ≤ 31) (hE : E < cap) (hcap : cap ≤ 8) (hen : en < 100000) (hla : S 11 sl ≤ E) (hz : ∀ k, k < 5 → ∀ i, E ≤ i → S k i = 0) (hz5 : ∀ i, E ≤ i → S 5 i = 1) (P : PK Z n0 h l0 ad S E cap en rw Lt) :
    Ctr l Z n0 (⟨"com/example/tokenfold/tokenfold/statespace/Packing", "addExtra", "(II)V"⟩ : MethodName) prog_60_method_7_code 4 none ({ frames := 2, cells := 0, slots := 0, locals := 40 } : Room) [] #[(.ref l0), (.int x1), (.int x2)] h (fun v h' => v = none ∧ ∃ ad', PK Z n0 h' l0 ad' (adS S E sl b en) (E + 1) cap (plc en b + b) rw Lt) := by
  refine ctr_of (plainFor_of_name pn_15b) hw hn ?_
  intro p e s m below meth c T X
  refine Wp.cast (ef_15b m l0 x1 x2) ?_
  subst e1 e2
  obtain ⟨O, M⟩ := P
  refine w_aloadN X D15_0 rfl rfl ?_
  refine w_getF X D15_1 (hw _ (List.mem_of_getElem? (i := 77) rfl)) O.2.2.2.2.2.2.2.2.2.2.2.2.2.2.1 (fun T1 X1 => ?_)
  refine w_aloadN X1 D15_4 rfl rfl ?_
  refine w_getF X1 D15_5 (hw _ (List.mem_of_getElem? (i := 12) rfl)) O.2.2.1 (fun T2 X2 => ?_)
  refine w_arraylength X2 D15_8 (M.at 11 rfl) ?_
  refine w_icmpne X2 D15_9 (fun hc9 => ?_) (fun hc9 => by have z := (n_inj (a := E) (b := cap) (by omega) (by omega)).mp hc9; omega)
  exact ae1 hw X2 l0 ad S E cap en rw sl b Lt _ hsl hb0 (by omega) (by omega) hen hla (Nat.le_of_ble_eq_true rfl) (Nat.le_of_ble_eq_true rfl) (Nat.le_of_ble_eq_true rfl) (Nat.le_of_ble_eq_true rfl) ⟨O, M⟩ (fun h' P => ⟨rfl, ad, P⟩)
-- CUT
/-- field i: the three slots' own fields first, then the extras -/
def fs (S : Nat → Nat → Nat) (i : Nat) : Nat := if i < 3 then i else S 0 (i - 3)
def fW (S : Nat → Nat → Nat) (i : Nat) : Nat := if i < 3 then S 6 i else S 1 (i - 3)
def fH (S : Nat → Nat → Nat) (i : Nat) : Nat := if i < 3 then S 7 i else S 2 (i - 3)
def fl (S : Nat → Nat → Nat) (i : Nat) : Nat := if i < 3 then 0 else S 3 (i - 3)
def fD (S : Nat → Nat → Nat) (i : Nat) : Nat := if i < 3 then S 8 i else S 4 (i - 3)
theorem ad_at (S : Nat → Nat → Nat) (E sl b en : Nat) : adS S E sl b en 0 = upd (S 0) E sl ∧ adS S E sl b en 1 = upd (S 1) E (plc en b / 64) ∧ adS S E sl b en 2 = upd (S 2) E (plc en b % 64) ∧ adS S E sl b en 3 = upd (S 3) E (S 9 sl) ∧ adS S E sl b en 4 = upd (S 4) E b ∧ adS S E sl b en 6 = S 6 ∧ adS S E sl b en 7 = S 7 ∧ adS S E sl b en 8 = S 8 ∧ adS S E sl b en 9 = upd (S 9) sl (S 9 sl + b) ∧ adS S E sl b en 11 = upd (S 11) sl (E + 1) := by
  have l : ∀ k, k ≠ 5 → k ≠ 10 → lnk S E sl k = S k := fun k h5 h10 => by
    unfold lnk
    by_cases h : S 11 sl = 0
    · rw [if_pos h]; split
      · exact absurd rfl h10
      · rfl
    · rw [if_neg h]; split
      · exact absurd rfl h5
      · rfl
  refine ⟨?_, ?_, ?_, ?_, ?_, ?_, ?_, ?_, ?_, ?_⟩
  · show upd (lnk S E sl 0) E sl = _; rw [l 0 (by decide) (by decide)]
  · show upd (lnk S E sl 1) E _ = _; rw [l 1 (by decide) (by decide)]
  · show upd (lnk S E sl 2) E _ = _; rw [l 2 (by decide) (by decide)]
  · show upd (lnk S E sl 3) E (lnk S E sl 9 sl) = _; rw [l 3 (by decide) (by decide), l 9 (by decide) (by decide)]
  · show upd (lnk S E sl 4) E b = _; rw [l 4 (by decide) (by decide)]
  · exact l 6 (by decide) (by decide)
  · exact l 7 (by decide) (by decide)
  · exact l 8 (by decide) (by decide)
  · show upd (lnk S E sl 9) sl (lnk S E sl 9 sl + b) = _; rw [l 9 (by decide) (by decide)]
  · show upd (lnk S E sl 11) sl (E + 1) = _; rw [l 11 (by decide) (by decide)]
theorem ad_five (S : Nat → Nat → Nat) (E sl b en : Nat) (h5 : ∀ i, E ≤ i → S 5 i = 1) (h11 : S 11 sl ≤ E) (i : Nat) (hi : E + 1 ≤ i) : adS S E sl b en 5 i = 1 := by
  show upd (lnk S E sl 5) E 0 i = 1
  rw [upd_ne _ _ (by omega)]
  unfold lnk
  by_cases h : S 11 sl = 0
  · rw [if_pos h]; exact h5 i (by omega)
  · rw [if_neg h]; show upd (S 5) (S 11 sl - 1) (E + 1) i = 1; rw [upd_ne _ _ (by omega)]; exact h5 i (by omega)
theorem ad_old (S : Nat → Nat → Nat) (E sl b en : Nat) {i : Nat} (hi : i < 3 + E) : fs (adS S E sl b en) i = fs S i ∧ fW (adS S E sl b en) i = fW S i ∧ fH (adS S E sl b en) i = fH S i ∧ fl (adS S E sl b en) i = fl S i ∧ fD (adS S E sl b en) i = fD S i := by
  obtain ⟨a0, a1, a2, a3, a4, a6, a7, a8, a9, a11⟩ := ad_at S E sl b en
  unfold fs fW fH fl fD
  by_cases h : i < 3
  · simp only [if_pos h, a6, a7, a8, and_self]
  · simp only [if_neg h, a0, a1, a2, a3, a4, upd_ne _ _ (show i - 3 ≠ E by omega), and_self]
theorem ad_new (S : Nat → Nat → Nat) (E sl b en : Nat) : fs (adS S E sl b en) (3 + E) = sl ∧ fW (adS S E sl b en) (3 + E) = plc en b / 64 ∧ fH (adS S E sl b en) (3 + E) = plc en b % 64 ∧ fl (adS S E sl b en) (3 + E) = S 9 sl ∧ fD (adS S E sl b en) (3 + E) = b := by
  obtain ⟨a0, a1, a2, a3, a4, a6, a7, a8, a9, a11⟩ := ad_at S E sl b en
  unfold fs fW fH fl fD
  simp only [if_neg (show ¬ 3 + E < 3 by omega), Nat.add_sub_cancel_left, a0, a1, a2, a3, a4, upd_at, and_self]
def Inv (S : Nat → Nat → Nat) (E en : Nat) : Prop :=
  (∀ i, i < 3 + E → fs S i < 3 ∧ 1 ≤ fD S i ∧ fD S i ≤ 31 ∧ fH S i + fD S i ≤ 64 ∧ fl S i + fD S i ≤ S 9 (fs S i) ∧ 64 * fW S i + fH S i + fD S i ≤ en) ∧
  (∀ i j, i < j → j < 3 + E → 64 * fW S i + fH S i + fD S i ≤ 64 * fW S j + fH S j) ∧
  (∀ s, s < 3 → 1 ≤ S 9 s ∧ S 9 s ≤ 31 ∧ ∀ t, t < S 9 s → ∃ i, i < 3 + E ∧ fs S i = s ∧ fl S i ≤ t ∧ t < fl S i + fD S i) ∧
  en ≤ 2 * (S 9 0 + S 9 1 + S 9 2) ∧ (∀ s, s < 3 → S 11 s ≤ E) ∧ (∀ k, k < 5 → ∀ i, E ≤ i → S k i = 0) ∧ (∀ i, E ≤ i → S 5 i = 1)
theorem Inv.add {S : Nat → Nat → Nat} {E en sl b : Nat} (I : Inv S E en) (hsl : sl < 3) (hb : 1 ≤ b) (hw : S 9 sl + b ≤ 31) : Inv (adS S E sl b en) (E + 1) (plc en b + b) := by
  obtain ⟨i1, i2, i3, i4, i5, i6, i7⟩ := I
  obtain ⟨p1, p2, p3⟩ := plc_spec en b hb (by omega)
  obtain ⟨a0, a1, a2, a3, a4, a6, a7, a8, a9, a11⟩ := ad_at S E sl b en
  have o := fun i (hi : i < 3 + E) => ad_old S E sl b en hi
  obtain ⟨n0, n1, n2, n3, n4⟩ := ad_new S E sl b en
  have c9 : ∀ s, S 9 s ≤ adS S E sl b en 9 s := fun s => by
    rw [a9]; by_cases h : s = sl
    · rw [h, upd_at]; omega
    · rw [upd_ne _ _ h]; exact Nat.le_refl _
  have hq : 64 * (plc en b / 64) + plc en b % 64 = plc en b := Nat.div_add_mod _ _
  refine ⟨fun i hi => ?_, fun i j hij hj => ?_, fun s hs => ?_, ?_, fun s hs => ?_, fun k hk i hi => ?_, ad_five S E sl b en i7 (i5 sl hsl)⟩
  · by_cases h : i < 3 + E
    · obtain ⟨o0, o1, o2, o3, o4⟩ := o i h
      rw [o0, o1, o2, o3, o4]
      obtain ⟨q1, q2, q3, q4, q5, q6⟩ := i1 i h
      exact ⟨q1, q2, q3, q4, Nat.le_trans q5 (c9 _), by omega⟩
    · obtain rfl : i = 3 + E := by omega
      rw [n0, n1, n2, n3, n4]
      exact ⟨hsl, hb, by omega, p2, by rw [a9, upd_at]; exact Nat.le_refl _, by omega⟩
  · obtain ⟨o0, o1, o2, o3, o4⟩ := o i (by omega)
    rw [o1, o2, o4]
    by_cases h : j < 3 + E
    · obtain ⟨r0, r1, r2, r3, r4⟩ := o j h
      rw [r1, r2]; exact i2 i j hij h
    · obtain rfl : j = 3 + E := by omega
      rw [n1, n2, hq]
      have := (i1 i (by omega)).2.2.2.2.2
      omega
  · obtain ⟨s1, s2, s3⟩ := i3 s hs
    have old : ∀ t, t < S 9 s → ∃ i, i < 3 + (E + 1) ∧ fs (adS S E sl b en) i = s ∧ fl (adS S E sl b en) i ≤ t ∧ t < fl (adS S E sl b en) i + fD (adS S E sl b en) i := fun t ht => by
      obtain ⟨i, hi, r⟩ := s3 t ht
      obtain ⟨o0, o1, o2, o3, o4⟩ := o i hi
      exact ⟨i, by omega, by rw [o0, o3, o4]; exact r⟩
    rw [a9]
    by_cases h : s = sl
    · subst h
      rw [upd_at]
      refine ⟨by omega, hw, fun t ht => ?_⟩
      by_cases h2 : t < S 9 s
      · exact old t h2
      · exact ⟨3 + E, by omega, n0, by rw [n3]; omega, by rw [n3, n4]; exact ht⟩
    · rw [upd_ne _ _ h]; exact ⟨s1, s2, old⟩
  · rw [a9]
    have hc : sl = 0 ∨ sl = 1 ∨ sl = 2 := by omega
    rcases hc with rfl | rfl | rfl
    · rw [upd_at, upd_ne _ _ (by decide), upd_ne _ _ (by decide)]; omega
    · rw [upd_at, upd_ne _ _ (by decide), upd_ne _ _ (by decide)]; omega
    · rw [upd_at, upd_ne _ _ (by decide), upd_ne _ _ (by decide)]; omega
  · rw [a11]; by_cases h : s = sl
    · rw [h, upd_at]; exact Nat.le_refl _
    · rw [upd_ne _ _ h]; have := i5 s hs; omega
  · have hc : k = 0 ∨ k = 1 ∨ k = 2 ∨ k = 3 ∨ k = 4 := by omega
    have z := i6 k hk i (by omega)
    rcases hc with rfl | rfl | rfl | rfl | rfl
    · rw [a0, upd_ne _ _ (by omega)]; exact z
    · rw [a1, upd_ne _ _ (by omega)]; exact z
    · rw [a2, upd_ne _ _ (by omega)]; exact z
    · rw [a3, upd_ne _ _ (by omega)]; exact z
    · rw [a4, upd_ne _ _ (by omega)]; exact z
theorem Inv.en {S : Nat → Nat → Nat} {E en : Nat} (I : Inv S E en) : en ≤ 186 := by
  obtain ⟨i1, i2, i3, i4, i5, i6, i7⟩ := I
  have := (i3 0 (by decide)).2.1
  have := (i3 1 (by decide)).2.1
  have := (i3 2 (by decide)).2.1
  omega
/-- the extra arrays' length | what was made for them -/
def cp (E : Nat) : Nat := if E = 0 then 0 else if E ≤ 4 then 4 else 8
def ce (E : Nat) : Nat := if E = 0 then 0 else if E ≤ 4 then 6 else 12
/-- what widen adds to a field -/
theorem own_more {u w : Nat} (hu : u < 2147483648) (hw : 1 ≤ w) (hw2 : w ≤ 31) (h : ¬ u / 2 ^ w = 0) : w < max (bt u) (min 31 (2 * w)) ∧ max (bt u) (min 31 (2 * w)) ≤ 31 ∧ u < 2 ^ max (bt u) (min 31 (2 * w)) := by
  obtain ⟨b1, b2, b3, b4⟩ := bt_spec u hu
  have h2 : 2 ^ w ≤ u := Nat.le_of_not_lt fun z => h (Nat.div_eq_of_lt z)
  have h3 : w < bt u := (Nat.pow_lt_pow_iff_right (a := 2) (by decide)).mp (Nat.lt_of_le_of_lt h2 b3)
  refine ⟨by omega, by omega, Nat.lt_of_lt_of_le b3 (Nat.pow_le_pow_right (by decide) (by omega))⟩
-- CUT
theorem cp_spec (E : Nat) : (E = 0 → cp E = 0 ∧ ce E = 0) ∧ (1 ≤ E → E ≤ 4 → cp E = 4 ∧ ce E = 6) ∧ (5 ≤ E → cp E = 8 ∧ ce E = 12) := by
  unfold cp ce
  refine ⟨fun h => by simp [h], fun h h2 => ?_, fun h => ?_⟩
  · rw [if_neg (by omega), if_pos h2, if_neg (by omega), if_pos h2]; exact ⟨rfl, rfl⟩
  · rw [if_neg (by omega), if_neg (by omega), if_neg (by omega), if_neg (by omega)]; exact ⟨rfl, rfl⟩
set_option maxRecDepth 65536 in
set_option maxHeartbeats 40000000 in
theorem wdT {Z : State} {a0 : Array Value} {n0 : Nat} {p : Program} {l : Launch} {e : Env} {s : State} {m : MethodId} {args : Array Value} {below : List Frame} {meth : Method} {c : Code} {T : State} {h : Heap} {k j : Nat} {Q : Option Value → Heap → Prop} (hw : ∀ d ∈ tables_1, d.before a0 Z = true) (X : Pos Z a0 n0 p l e ({ frames := 3, cells := 6, slots := 48, locals := 60 } : Room) s m args below meth c prog_60_method_6_code 4 none (⟨"com/example/tokenfold/tokenfold/statespace/Packing", "widen", "([I)V"⟩ : MethodName) T h k j) (l0 a1 : Addr) (ad : Nat → Addr) (S : Nat → Nat → Nat) (E E0 en rw i : Nat) (cn : Nat → Nat) (Lt : List Ent) (ix : Nat) (s3 : Slot) (h_s3 : Jvm.RoadKit.One s3) (hLt : Lt[ix]? = some (a1, .int, 3, bI (nI cn))) (hi : i < 3) (hc : ∀ s, s < 3 → cn s < 2147483648) (I : Inv S E en) (hE : E ≤ E0 + i) (hE0 : E0 ≤ E) (hE3 : E0 ≤ 3) (hk : k + ce E0 ≤ ce E) (hj : j + 8 * ce E0 ≤ 8 * ce E) (P : PK Z n0 h l0 ad S E (cp E) en rw Lt) (q : ∀ T' h' k' j' z' ad' S' E' en', Pos Z a0 n0 p l e ({ frames := 3, cells := 6, slots := 48, locals := 60 } : Room) s m args below meth c prog_60_method_6_code 4 none (⟨"com/example/tokenfold/tokenfold/statespace/Packing", "widen", "([I)V"⟩ : MethodName) T' h' k' j' → Inv S' E' en' → E ≤ E' → E' ≤ E0 + (i + 1) → k' + ce E0 ≤ ce E' → j' + 8 * ce E0 ≤ 8 * ce E' → cn i < 2 ^ S' 9 i → (∀ s, S 9 s ≤ S' 9 s) → PK Z n0 h' l0 ad' S' E' (cp E') en' rw Lt → Wp n0 p e ({ frames := 3, cells := 6, slots := 48, locals := 60 } : Room) s below Q T' (mkF m 2 #[.val (.ref l0), .val (.ref a1), .val (.int (Int32.ofNat (i + 1))), .val (.int z')] [])) : Wp n0 p e ({ frames := 3, cells := 6, slots := 48, locals := 60 } : Room) s below Q T (mkF m 2 #[.val (.ref l0), .val (.ref a1), .val (.int (Int32.ofNat i)), s3] []) := by
  obtain ⟨O, M⟩ := P
  have s0 := cp_spec E0
  have s1 := cp_spec E
  have s2 := cp_spec (E + 1)
  have hw9 := I.2.2.1 i hi
  have hci := hc i hi
  have hen := I.en
  have h11 := I.2.2.2.2.1 i hi
  have hk6 : k ≤ 6 := by omega
  have hj6 : j ≤ 48 := by omega
  refine w_iloadN X D8_2 rfl ?_
  refine w_aloadN X D8_3 rfl rfl ?_
  refine w_arraylength X D8_4 (M.at (ix + 12) hLt) ?_
  refine w_icmpge X D8_5 (fun hc5 => by exact absurd ((ofNat_lt (by omega) (by decide)).mpr hi) hc5) (fun hc5 => ?_)
  refine w_aloadN X D8_8 rfl rfl ?_
  refine w_getF X D8_9 (hw _ (List.mem_of_getElem? (i := 30) rfl)) O.2.2.2.2.2.2.2.2.2.2.2.1 (fun T1 X1 => ?_)
  refine w_iloadN X1 D8_12 rfl ?_
  refine w_iaload X1 D8_13 (M.at 2 rfl) i rfl (by omega) ?_
  show Wp _ _ _ _ _ _ _ _ (mkF m 14 #[.val (.ref l0), .val (.ref a1), .val (.int (Int32.ofNat i)), s3] [(.int (Int32.ofNat ((S 9) i)))])
  refine w_istoreNS X1 D8_14 (l' := #[.val (.ref l0), .val (.ref a1), .val (.int (Int32.ofNat i)), .val (.int (Int32.ofNat ((S 9) i)))]) rfl h_s3 rfl ?_
  refine w_aloadN X1 D8_15 rfl rfl ?_
  refine w_iloadN X1 D8_16 rfl ?_
  refine w_iaload X1 D8_17 (M.at (ix + 12) hLt) i rfl (by omega) ?_
  show Wp _ _ _ _ _ _ _ _ (mkF m 18 #[.val (.ref l0), .val (.ref a1), .val (.int (Int32.ofNat i)), .val (.int (Int32.ofNat ((S 9) i)))] [(.int (Int32.ofNat (cn i)))])
  refine w_iloadN X1 D8_18 rfl ?_
  refine w_iushr X1 D8_19 ?_
  rw [n_ushr hci (show S 9 i < 32 by omega)]
  refine w_ifeq X1 D8_20 (fun hc20 => ?_) (fun hc20 => ?_)
  · refine w_iinc X1 D8_47 (d := (1 : Int32)) (r := (Int32.ofNat (i + 1))) (l' := #[.val (.ref l0), .val (.ref a1), .val (.int (Int32.ofNat (i + 1))), .val (.int (Int32.ofNat ((S 9) i)))]) rfl rfl (n_add _ _) rfl ?_
    refine w_goto X1 D8_50 ?_
    have hz0 : cn i / 2 ^ S 9 i = 0 := (n_inj (b := 0) (Nat.lt_of_le_of_lt (Nat.div_le_self _ _) hci) (by decide)).mp hc20
    exact q _ _ _ _ _ ad _ _ _ X1 I (Nat.le_refl _) (by omega) hk hj (Nat.lt_of_div_eq_zero (Nat.two_pow_pos _) hz0) (fun s => Nat.le_refl _) ⟨O, M⟩
  · have hn0 : ¬ cn i / 2 ^ S 9 i = 0 := fun z => hc20 (by rw [z]; rfl)
    obtain ⟨m1, m2, m3⟩ := own_more hci hw9.1 hw9.2.1 hn0
    obtain ⟨bb, hbb⟩ : ∃ bb, max (bt (cn i)) (min 31 (2 * S 9 i)) - S 9 i = bb := ⟨_, rfl⟩
    obtain ⟨u1, u2, u3, u4⟩ := bt_spec (cn i) hci
    refine w_aloadN X1 D8_23 rfl rfl ?_
    refine w_iloadN X1 D8_24 rfl ?_
    refine w_aloadN X1 D8_25 rfl rfl ?_
    refine w_iloadN X1 D8_26 rfl ?_
    refine w_iaload X1 D8_27 (M.at (ix + 12) hLt) i rfl (by omega) ?_
    show Wp _ _ _ _ _ _ _ _ (mkF m 28 #[.val (.ref l0), .val (.ref a1), .val (.int (Int32.ofNat i)), .val (.int (Int32.ofNat ((S 9) i)))] [(.int (Int32.ofNat (cn i))), (.int (Int32.ofNat i)), (.ref l0)])
    refine w_static X1 D8_28 (rmB hw X1.sz _ (cn i) hci rfl) (hw _ (List.mem_of_getElem? (i := 40) rfl)) (hw _ (List.mem_of_getElem? (i := 41) rfl)) (hw _ (List.mem_of_getElem? (i := 5) rfl)) (hw _ (List.mem_of_getElem? (i := 42) rfl)) (by decide) pd_0 rfl (S := [(.int (Int32.ofNat i)), (.ref l0)]) rfl rfl (Nat.le_of_ble_eq_true rfl) (Nat.le_of_ble_eq_true rfl) hk6 hj6 (fun v2 T2 h2 X2 q2 => ?_)
    obtain ⟨rfl, rfl⟩ := q2
    show Wp _ _ _ _ _ _ _ _ (mkF m 31 #[.val (.ref l0), .val (.ref a1), .val (.int (Int32.ofNat i)), .val (.int (Int32.ofNat ((S 9) i)))] [(.int (Int32.ofNat (bt (cn i)))), (.int (Int32.ofNat i)), (.ref l0)])
    refine w_bipush X2 D8_31 (v := (31 : Int32)) rfl ?_
    refine w_iconst X2 D8_33 (v := (2 : Int32)) rfl ?_
    refine w_iloadN X2 D8_34 rfl ?_
    refine w_imul X2 D8_35 ?_
    rw [show (2 : Int32) * Int32.ofNat (S 9 i) = Int32.ofNat (2 * S 9 i) from n_mul 2 _]
    refine w_static X2 D8_36 (rmMin hw X2.sz _ _ 31 (2 * S 9 i) (by decide) (by omega) rfl rfl) (hw _ (List.mem_of_getElem? (i := 88) rfl)) (hw _ (List.mem_of_getElem? (i := 89) rfl)) (hw _ (List.mem_of_getElem? (i := 49) rfl)) (hw _ (List.mem_of_getElem? (i := 90) rfl)) (by decide) pd_1 rfl (S := [(.int (Int32.ofNat (bt (cn i)))), (.int (Int32.ofNat i)), (.ref l0)]) rfl rfl (Nat.le_of_ble_eq_true rfl) (Nat.le_of_ble_eq_true rfl) hk6 hj6 (fun v3 T3 h3 X3 q3 => ?_)
    obtain ⟨rfl, rfl⟩ := q3
    show Wp _ _ _ _ _ _ _ _ (mkF m 39 #[.val (.ref l0), .val (.ref a1), .val (.int (Int32.ofNat i)), .val (.int (Int32.ofNat ((S 9) i)))] [(.int (Int32.ofNat (min 31 (2 * S 9 i)))), (.int (Int32.ofNat (bt (cn i)))), (.int (Int32.ofNat i)), (.ref l0)])
    refine w_static X3 D8_39 (rmMax hw X3.sz _ _ (bt (cn i)) (min 31 (2 * S 9 i)) (by omega) (by omega) rfl rfl) (hw _ (List.mem_of_getElem? (i := 47) rfl)) (hw _ (List.mem_of_getElem? (i := 48) rfl)) (hw _ (List.mem_of_getElem? (i := 49) rfl)) (hw _ (List.mem_of_getElem? (i := 50) rfl)) (by decide) pd_1 rfl (S := [(.int (Int32.ofNat i)), (.ref l0)]) rfl rfl (Nat.le_of_ble_eq_true rfl) (Nat.le_of_ble_eq_true rfl) hk6 hj6 (fun v4 T4 h4 X4 q4 => ?_)
    obtain ⟨rfl, rfl⟩ := q4
    show Wp _ _ _ _ _ _ _ _ (mkF m 42 #[.val (.ref l0), .val (.ref a1), .val (.int (Int32.ofNat i)), .val (.int (Int32.ofNat ((S 9) i)))] [(.int (Int32.ofNat (max (bt (cn i)) (min 31 (2 * S 9 i))))), (.int (Int32.ofNat i)), (.ref l0)])
    refine w_iloadN X4 D8_42 rfl ?_
    refine w_isub X4 D8_43 ?_
    rw [n_sub (show S 9 i ≤ max (bt (cn i)) (min 31 (2 * S 9 i)) by omega), hbb]
    have hmx : S 9 i + bb = max (bt (cn i)) (min 31 (2 * S 9 i)) := by omega
    have IA := I.add hi (b := bb) (by omega) (by omega)
    by_cases hg : E = cp E
    · refine w_private (z0 := ({ cls := "com/example/tokenfold/tokenfold/statespace/Packing", name := "widen", desc := "([I)V" } : Jvm.MethodName)) X4 D8_44 (rmA hw X4.sz l0 _ _ ad S E (cp E) en rw i bb Lt rfl rfl hi (by omega) hg (by omega) (cp (E + 1)) (by omega) (by omega) h11 I.2.2.2.2.2.1 I.2.2.2.2.2.2 ⟨O, M⟩) O.2.1 (hw _ (List.mem_of_getElem? (i := 91) rfl)) (hw _ (List.mem_of_getElem? (i := 92) rfl)) (hw _ (List.mem_of_getElem? (i := 93) rfl)) (hw _ (List.mem_of_getElem? (i := 64) rfl)) rfl (hw _ (List.mem_of_getElem? (i := 5) rfl)) (hw _ (List.mem_of_getElem? (i := 94) rfl)) (by decide) pd_5 rfl (S := []) rfl rfl (Nat.le_of_ble_eq_true rfl) (Nat.le_of_ble_eq_true rfl) (by show k + 6 ≤ 6; omega) (by show j + 48 ≤ 48; omega) (fun v5 T5 h5 X5 q5 => ?_)
      obtain ⟨rfl, ad9, P9⟩ := q5
      show Wp _ _ _ _ _ _ _ _ (mkF m 47 #[.val (.ref l0), .val (.ref a1), .val (.int (Int32.ofNat i)), .val (.int (Int32.ofNat ((S 9) i)))] [])
      have c9 : ∀ s, S 9 s ≤ adS S E i bb en 9 s := fun s => by
        rw [(ad_at S E i bb en).2.2.2.2.2.2.2.2.1]; by_cases h : s = i
        · rw [h, upd_at]; omega
        · rw [upd_ne _ _ h]; exact Nat.le_refl _
      refine w_iinc X5 D8_47 (d := (1 : Int32)) (r := (Int32.ofNat (i + 1))) (l' := #[.val (.ref l0), .val (.ref a1), .val (.int (Int32.ofNat (i + 1))), .val (.int (Int32.ofNat ((S 9) i)))]) rfl rfl (n_add _ _) rfl ?_
      refine w_goto X5 D8_50 ?_
      exact q _ _ _ _ _ ad9 _ _ _ X5 IA (by omega) (by omega) (by show k + 6 + ce E0 ≤ _; omega) (by show j + 48 + 8 * ce E0 ≤ _; omega) (by rw [(ad_at S E i bb en).2.2.2.2.2.2.2.2.1, upd_at, hmx]; exact m3) c9 P9
    · refine w_private (z0 := ({ cls := "com/example/tokenfold/tokenfold/statespace/Packing", name := "widen", desc := "([I)V" } : Jvm.MethodName)) X4 D8_44 (rmA0 hw X4.sz l0 _ _ ad S E (cp E) en rw i bb Lt rfl rfl hi (by omega) (by omega) (by omega) (by omega) h11 I.2.2.2.2.2.1 I.2.2.2.2.2.2 ⟨O, M⟩) O.2.1 (hw _ (List.mem_of_getElem? (i := 91) rfl)) (hw _ (List.mem_of_getElem? (i := 92) rfl)) (hw _ (List.mem_of_getElem? (i := 93) rfl)) (hw _ (List.mem_of_getElem? (i := 64) rfl)) rfl (hw _ (List.mem_of_getElem? (i := 5) rfl)) (hw _ (List.mem_of_getElem? (i := 94) rfl)) (by decide) pd_5 rfl (S := []) rfl rfl (Nat.le_of_ble_eq_true rfl) (Nat.le_of_ble_eq_true rfl) (by show k + 0 ≤ 6; omega) (by show j + 0 ≤ 48; omega) (fun v6 T6 h6 X6 q6 => ?_)
      obtain ⟨rfl, ad9, P9⟩ := q6
      show Wp _ _ _ _ _ _ _ _ (mkF m 47 #[.val (.ref l0), .val (.ref a1), .val (.int (Int32.ofNat i)), .val (.int (Int32.ofNat ((S 9) i)))] [])
      have ecp : cp (E + 1) = cp E := by omega
      rw [← ecp] at P9
      have c9 : ∀ s, S 9 s ≤ adS S E i bb en 9 s := fun s => by
        rw [(ad_at S E i bb en).2.2.2.2.2.2.2.2.1]; by_cases h : s = i
        · rw [h, upd_at]; omega
        · rw [upd_ne _ _ h]; exact Nat.le_refl _
      refine w_iinc X6 D8_47 (d := (1 : Int32)) (r := (Int32.ofNat (i + 1))) (l' := #[.val (.ref l0), .val (.ref a1), .val (.int (Int32.ofNat (i + 1))), .val (.int (Int32.ofNat ((S 9) i)))]) rfl rfl (n_add _ _) rfl ?_
      refine w_goto X6 D8_50 ?_
      exact q _ _ _ _ _ ad9 _ _ _ X6 IA (by omega) (by omega) (by show k + 0 + ce E0 ≤ _; omega) (by show j + 0 + 8 * ce E0 ≤ _; omega) (by rw [(ad_at S E i bb en).2.2.2.2.2.2.2.2.1, upd_at, hmx]; exact m3) c9 P9
theorem ef_8 (m : MethodId) (l0 : Addr) (a1 : Addr) : entryFrame m #[(.ref l0), (.ref a1)] 4 = mkF m 0 #[.val (.ref l0), .val (.ref a1), .unset, .unset] [] := by first | (simp [entryFrame, mkF, argsToLocals, Value.category]; done) | rfl
theorem pn_8 : plainName "com/example/tokenfold/tokenfold/statespace/Packing" = true := by first | (simp [plainName, overriddenIn]; done) | decide +kernel
set_option maxRecDepth 65536 in
set_option maxHeartbeats 40000000 in
theorem rmWd {l : Launch} {Z : State} {a0 : Array Value} {n0 : Nat} {h : Heap} (hw : ∀ d ∈ tables_1, d.before a0 Z = true) (hn : n0 ≤ h.size) (l0 : Addr) (a1 : Addr) (ad : Nat → Addr) (S : Nat → Nat → Nat) (E en rw : Nat) (cn : Nat → Nat) (Lt : List Ent) (ix : Nat) (hLt : Lt[ix]? = some (a1, .int, 3, bI (nI cn))) (hc : ∀ s, s < 3 → cn s < 2147483648) (I : Inv S E en) (hE3 : E ≤ 3) (hr : 1 ≤ rw ∧ rw ≤ 3 ∧ en ≤ 64 * rw) (P : PK Z n0 h l0 ad S E (cp E) en rw Lt) :
    Ctr l Z n0 (⟨"com/example/tokenfold/tokenfold/statespace/Packing", "widen", "([I)V"⟩ : MethodName) prog_60_method_6_code 4 none ({ frames := 3, cells := 6, slots := 48, locals := 60 } : Room) [] #[(.ref l0), (.ref a1)] h (fun v h' => v = none ∧ ∃ ad' S' E' en' rw', Inv S' E' en' ∧ E ≤ E' ∧ E' ≤ E + 3 ∧ (1 ≤ rw' ∧ rw' ≤ 3 ∧ en' ≤ 64 * rw') ∧ (∀ s, s < 3 → cn s < 2 ^ S' 9 s) ∧ PK Z n0 h' l0 ad' S' E' (cp E') en' rw' Lt) := by
  refine ctr_of (plainFor_of_name pn_8) hw hn ?_
  intro p e s m below meth c T X
  refine Wp.cast (ef_8 m l0 a1) ?_
  refine w_iconst X D8_0 (v := (0 : Int32)) rfl ?_
  show Wp _ _ _ _ _ _ _ _ (mkF m 1 #[.val (.ref l0), .val (.ref a1), .unset, .unset] [.int (Int32.ofNat 0)])
  refine w_istoreN X D8_1 (l' := #[.val (.ref l0), .val (.ref a1), .val (.int (Int32.ofNat 0)), .unset]) rfl ?_
  refine wdT hw X l0 a1 ad S E E en rw 0 cn Lt ix _ One.u hLt (by decide) hc I (by omega) (Nat.le_refl _) hE3 (by show 0 + ce E ≤ ce E; omega) (by show 0 + 8 * ce E ≤ 8 * ce E; omega) P (fun T101 h101 kk101 jj101 z101 ad101 S101 E101 en101 X101 I101 le101 lf101 hk101 hj101 hc101 hm101 P101 => ?_)
  refine wdT hw X101 l0 a1 ad101 S101 E101 E en101 rw 1 cn Lt ix _ (One.val rfl) hLt (by decide) hc I101 lf101 (by omega) hE3 hk101 hj101 P101 (fun T102 h102 kk102 jj102 z102 ad102 S102 E102 en102 X102 I102 le102 lf102 hk102 hj102 hc102 hm102 P102 => ?_)
  refine wdT hw X102 l0 a1 ad102 S102 E102 E en102 rw 2 cn Lt ix _ (One.val rfl) hLt (by decide) hc I102 lf102 (by omega) hE3 hk102 hj102 P102 (fun T103 h103 kk103 jj103 z103 ad103 S103 E103 en103 X103 I103 le103 lf103 hk103 hj103 hc103 hm103 P103 => ?_)
  obtain ⟨O, M⟩ := P103
  have s0 := cp_spec E
  have s1 := cp_spec E103
  have hen := I103.en
  have hk6 : kk103 ≤ 6 := by omega
  have hj6 : jj103 ≤ 48 := by omega
  have hcc : ∀ s, s < 3 → cn s < 2 ^ S103 9 s := fun s hs => by
    have h : s = 0 ∨ s = 1 ∨ s = 2 := by omega
    rcases h with rfl | rfl | rfl
    · exact Nat.lt_of_lt_of_le hc101 (Nat.pow_le_pow_right (by decide) (Nat.le_trans (hm102 0) (hm103 0)))
    · exact Nat.lt_of_lt_of_le hc102 (Nat.pow_le_pow_right (by decide) (hm103 1))
    · exact hc103
  obtain ⟨r1, r2, r3⟩ := hr
  refine w_iloadN X103 D8_2 rfl ?_
  refine w_aloadN X103 D8_3 rfl rfl ?_
  refine w_arraylength X103 D8_4 (M.at (ix + 12) hLt) ?_
  refine w_icmpge X103 D8_5 (fun hc5 => ?_) (fun hc5 => by exact absurd hc5 (by decide))
  refine w_aloadN X103 D8_53 rfl rfl ?_
  refine w_getF X103 D8_54 (hw _ (List.mem_of_getElem? (i := 55) rfl)) O.2.2.2.2.2.2.2.2.2.2.2.2.2.2.2.1 (fun T21 X21 => ?_)
  refine w_ldc2 X21 D8_57 (hw _ (List.mem_of_getElem? (i := 57) rfl)) ?_
  refine w_ladd X21 D8_60 ?_
  rw [show Int64.ofNat en103 + 64 = Int64.ofNat (en103 + 64) from nL_add _ 64]
  refine w_lconst1 X21 D8_61 ?_
  refine w_lsub X21 D8_62 ?_
  rw [show Int64.ofNat (en103 + 64) - 1 = Int64.ofNat (en103 + 64 - 1) from nL_sub (b := 1) (by omega)]
  refine w_ldc2 X21 D8_63 (hw _ (List.mem_of_getElem? (i := 57) rfl)) ?_
  refine w_ldiv X21 D8_66 (by decide) ?_
  rw [show Int64.ofNat (en103 + 64 - 1) / 64 = Int64.ofNat ((en103 + 64 - 1) / 64) from nL_div (k := 64) (by omega) (by decide) (by decide)]
  refine w_lstoreN X21 D8_67 (l' := #[.val (.ref l0), .val (.ref a1), .val (.long (Int64.ofNat ((en103 + 64 - 1) / 64))), .second]) rfl ?_
  refine w_lloadN X21 D8_68 rfl ?_
  refine w_aloadN X21 D8_69 rfl rfl ?_
  refine w_getF X21 D8_70 (hw _ (List.mem_of_getElem? (i := 59) rfl)) O.2.2.2.2.2.2.2.2.2.2.2.2.2.2.2.2 (fun T22 X22 => ?_)
  refine w_i2l X22 D8_73 ?_
  rw [n_i2l (show rw < 2147483648 by omega)]
  refine w_lcmple X22 D8_74 D8_75 (fun hc75 => ?_) (fun hc75 => ?_)
  · exact w_return X22 D8_106 hk6 hj6 (⟨rfl, ad103, S103, E103, en103, rw, I103, by omega, by omega, ⟨r1, r2, by
          have z : ¬ rw < ((en103 + 64 - 1) / 64) := (fun z => hc75 ((nL_lt (by omega) (by omega)).mpr z))
          omega⟩, hcc, ⟨O, M⟩⟩)
  · have hlt : rw < ((en103 + 64 - 1) / 64) := (nL_lt (by omega) (by omega)).mp hc75
    have emx : max ((en103 + 64 - 1) / 64) (rw + max 1 (rw / 8)) = ((en103 + 64 - 1) / 64) := by omega
    refine w_aloadN X22 D8_78 rfl rfl ?_
    refine w_lloadN X22 D8_79 rfl ?_
    refine w_aloadN X22 D8_80 rfl rfl ?_
    refine w_getF X22 D8_81 (hw _ (List.mem_of_getElem? (i := 59) rfl)) O.2.2.2.2.2.2.2.2.2.2.2.2.2.2.2.2 (fun T23 X23 => ?_)
    refine w_iconst X23 D8_84 (v := (1 : Int32)) rfl ?_
    refine w_aloadN X23 D8_85 rfl rfl ?_
    refine w_getF X23 D8_86 (hw _ (List.mem_of_getElem? (i := 59) rfl)) O.2.2.2.2.2.2.2.2.2.2.2.2.2.2.2.2 (fun T24 X24 => ?_)
    refine w_bipush X24 D8_89 (v := (8 : Int32)) rfl ?_
    refine w_idiv X24 D8_91 (by decide) ?_
    rw [show Int32.ofNat rw / 8 = Int32.ofNat (rw / 8) from n_div (k := 8) (by omega) (by decide) (by decide)]
    refine w_static X24 D8_92 (rmMax hw X24.sz _ _ 1 (rw / 8) (by decide) (by omega) rfl rfl) (hw _ (List.mem_of_getElem? (i := 47) rfl)) (hw _ (List.mem_of_getElem? (i := 48) rfl)) (hw _ (List.mem_of_getElem? (i := 49) rfl)) (hw _ (List.mem_of_getElem? (i := 50) rfl)) (by decide) pd_1 rfl (S := [(.int (Int32.ofNat rw)), (.long (Int64.ofNat ((en103 + 64 - 1) / 64))), (.ref l0)]) rfl rfl (Nat.le_of_ble_eq_true rfl) (Nat.le_of_ble_eq_true rfl) hk6 hj6 (fun v25 T25 h25 X25 q25 => ?_)
    obtain ⟨rfl, rfl⟩ := q25
    show Wp _ _ _ _ _ _ _ _ (mkF m 95 #[.val (.ref l0), .val (.ref a1), .val (.long (Int64.ofNat ((en103 + 64 - 1) / 64))), .second] [(.int (Int32.ofNat (max 1 (rw / 8)))), (.int (Int32.ofNat rw)), (.long (Int64.ofNat ((en103 + 64 - 1) / 64))), (.ref l0)])
    refine w_iadd X25 D8_95 ?_
    rw [n_add]
    refine w_i2l X25 D8_96 ?_
    rw [n_i2l (show (rw + max 1 (rw / 8)) < 2147483648 by omega)]
    refine w_static X25 D8_97 (rmMaxL hw X25.sz _ _ ((en103 + 64 - 1) / 64) (rw + max 1 (rw / 8)) (by omega) (by omega) rfl rfl) (hw _ (List.mem_of_getElem? (i := 106) rfl)) (hw _ (List.mem_of_getElem? (i := 107) rfl)) (hw _ (List.mem_of_getElem? (i := 49) rfl)) (hw _ (List.mem_of_getElem? (i := 108) rfl)) (by decide) pd_6 rfl (S := [(.ref l0)]) rfl rfl (Nat.le_of_ble_eq_true rfl) (Nat.le_of_ble_eq_true rfl) hk6 hj6 (fun v26 T26 h26 X26 q26 => ?_)
    obtain ⟨rfl, rfl⟩ := q26
    show Wp _ _ _ _ _ _ _ _ (mkF m 100 #[.val (.ref l0), .val (.ref a1), .val (.long (Int64.ofNat ((en103 + 64 - 1) / 64))), .second] [(.long (Int64.ofNat (max ((en103 + 64 - 1) / 64) (rw + max 1 (rw / 8))))), (.ref l0)])
    rw [emx]
    refine w_static X26 D8_100 (rmTI hw X26.sz _ ((en103 + 64 - 1) / 64) (by omega) rfl) (hw _ (List.mem_of_getElem? (i := 109) rfl)) (hw _ (List.mem_of_getElem? (i := 110) rfl)) (hw _ (List.mem_of_getElem? (i := 49) rfl)) (hw _ (List.mem_of_getElem? (i := 111) rfl)) (by decide) pd_7 rfl (S := [(.ref l0)]) rfl rfl (Nat.le_of_ble_eq_true rfl) (Nat.le_of_ble_eq_true rfl) hk6 hj6 (fun v27 T27 h27 X27 q27 => ?_)
    obtain ⟨rfl, rfl⟩ := q27
    show Wp _ _ _ _ _ _ _ _ (mkF m 103 #[.val (.ref l0), .val (.ref a1), .val (.long (Int64.ofNat ((en103 + 64 - 1) / 64))), .second] [(.int (Int32.ofNat ((en103 + 64 - 1) / 64))), (.ref l0)])
    refine w_putF X27 D8_103 (hw _ (List.mem_of_getElem? (i := 59) rfl)) O.2.2.2.2.2.2.2.2.2.2.2.2.2.2.2.2 O.2.1 O.1 (Or.inl (hw _ (List.mem_of_getElem? (i := 60) rfl))) (hw _ (List.mem_of_getElem? (i := 4) rfl)) (ty := .int) (by decide) rfl rfl (fun T28 h28 X28 W28 => ?_)
    have O28 := O.put_recordWords hw W28
    have M28 := Pak_memW hw O M W28
    exact w_return X28 D8_106 hk6 hj6 (⟨rfl, ad103, S103, E103, en103, ((en103 + 64 - 1) / 64), I103, by omega, by omega, ⟨by omega, by omega, by omega⟩, hcc, ⟨O28, M28⟩⟩)
-- CUT
theorem z_x1 : (fun _ : Nat => (0 : Int32)) = xI (fun _ => 1) := funext fun _ => (by decide : (0 : Int32) = Int32.ofNat 1 - 1)
theorem z_x0 : (fun _ : Nat => (-1 : Int32)) = xI (fun _ => 0) := funext fun _ => (by decide : (-1 : Int32) = Int32.ofNat 0 - 1)
def iniS (q0 q1 q2 b0 b1 b2 : Nat) : Nat → Nat → Nat := fun k => match k with | 5 => fun _ => 1 | 6 => upd (upd (upd (fun _ => 0) 0 (q0 / 64)) 1 (q1 / 64)) 2 (q2 / 64) | 7 => upd (upd (upd (fun _ => 0) 0 (q0 % 64)) 1 (q1 % 64)) 2 (q2 % 64) | 8 => upd (upd (upd (fun _ => 0) 0 b0) 1 b1) 2 b2 | 9 => upd (upd (upd (fun _ => 0) 0 b0) 1 b1) 2 b2 | _ => fun _ => 0
theorem iniS_at (q0 q1 q2 b0 b1 b2 : Nat) : (∀ k, k = 6 ∨ k = 7 ∨ k = 8 ∨ k = 9 → iniS q0 q1 q2 b0 b1 b2 k 0 = (if k = 6 then q0 / 64 else if k = 7 then q0 % 64 else b0) ∧ iniS q0 q1 q2 b0 b1 b2 k 1 = (if k = 6 then q1 / 64 else if k = 7 then q1 % 64 else b1) ∧ iniS q0 q1 q2 b0 b1 b2 k 2 = (if k = 6 then q2 / 64 else if k = 7 then q2 % 64 else b2)) := by
  intro k hk
  rcases hk with rfl | rfl | rfl | rfl <;> exact ⟨rfl, rfl, rfl⟩
theorem iniInv {q0 q1 q2 b0 b1 b2 : Nat} (h0 : 1 ≤ b0 ∧ b0 ≤ 31) (h1 : 1 ≤ b1 ∧ b1 ≤ 31) (h2 : 1 ≤ b2 ∧ b2 ≤ 31) (e0 : plc 0 b0 = q0) (e1 : plc (q0 + b0) b1 = q1) (e2 : plc (q1 + b1) b2 = q2) : Inv (iniS q0 q1 q2 b0 b1 b2) 0 (q2 + b2) := by
  have p0 := plc_spec 0 b0 h0.1 h0.2
  have p1 := plc_spec (q0 + b0) b1 h1.1 h1.2
  have p2 := plc_spec (q1 + b1) b2 h2.1 h2.2
  rw [e0] at p0; rw [e1] at p1; rw [e2] at p2
  have d0 := Nat.div_add_mod q0 64
  have d1 := Nat.div_add_mod q1 64
  have d2 := Nat.div_add_mod q2 64
  have F : ∀ i, i < 3 → fs (iniS q0 q1 q2 b0 b1 b2) i = i ∧ fl (iniS q0 q1 q2 b0 b1 b2) i = 0 ∧ fW (iniS q0 q1 q2 b0 b1 b2) i = iniS q0 q1 q2 b0 b1 b2 6 i ∧ fH (iniS q0 q1 q2 b0 b1 b2) i = iniS q0 q1 q2 b0 b1 b2 7 i ∧ fD (iniS q0 q1 q2 b0 b1 b2) i = iniS q0 q1 q2 b0 b1 b2 8 i := fun i hi => by
    unfold fs fl fW fH fD; simp only [if_pos hi, and_self]
  have V0 : iniS q0 q1 q2 b0 b1 b2 6 0 = q0 / 64 ∧ iniS q0 q1 q2 b0 b1 b2 7 0 = q0 % 64 ∧ iniS q0 q1 q2 b0 b1 b2 8 0 = b0 ∧ iniS q0 q1 q2 b0 b1 b2 9 0 = b0 := ⟨rfl, rfl, rfl, rfl⟩
  have V1 : iniS q0 q1 q2 b0 b1 b2 6 1 = q1 / 64 ∧ iniS q0 q1 q2 b0 b1 b2 7 1 = q1 % 64 ∧ iniS q0 q1 q2 b0 b1 b2 8 1 = b1 ∧ iniS q0 q1 q2 b0 b1 b2 9 1 = b1 := ⟨rfl, rfl, rfl, rfl⟩
  have V2 : iniS q0 q1 q2 b0 b1 b2 6 2 = q2 / 64 ∧ iniS q0 q1 q2 b0 b1 b2 7 2 = q2 % 64 ∧ iniS q0 q1 q2 b0 b1 b2 8 2 = b2 ∧ iniS q0 q1 q2 b0 b1 b2 9 2 = b2 := ⟨rfl, rfl, rfl, rfl⟩
  refine ⟨fun i hi => ?_, fun i j hij hj => ?_, fun s hs => ?_, ?_, fun s hs => Nat.zero_le _, fun k hk i hi => ?_, fun i hi => rfl⟩
  · obtain ⟨f0, f1, f2, f3, f4⟩ := F i hi
    rw [f0, f1, f2, f3, f4]
    have hc : i = 0 ∨ i = 1 ∨ i = 2 := by omega
    rcases hc with rfl | rfl | rfl <;> refine ⟨by decide, by omega, by omega, by omega, by omega, by omega⟩
  · obtain ⟨f0, f1, f2, f3, f4⟩ := F i (by omega)
    obtain ⟨g0, g1, g2, g3, g4⟩ := F j hj
    rw [f2, f3, f4, g2, g3]
    have hc : (i = 0 ∧ j = 1) ∨ (i = 0 ∧ j = 2) ∨ (i = 1 ∧ j = 2) := by omega
    rcases hc with ⟨rfl, rfl⟩ | ⟨rfl, rfl⟩ | ⟨rfl, rfl⟩ <;> omega
  · have hc : s = 0 ∨ s = 1 ∨ s = 2 := by omega
    obtain ⟨f0, f1, f2, f3, f4⟩ := F s hs
    refine ⟨?_, ?_, fun t ht => ⟨s, hs, f0, by rw [f1]; exact Nat.zero_le _, ?_⟩⟩
    · rcases hc with rfl | rfl | rfl <;> omega
    · rcases hc with rfl | rfl | rfl <;> omega
    · rw [f1, f4]; rcases hc with rfl | rfl | rfl <;> omega
  · omega
  · have hc : k = 0 ∨ k = 1 ∨ k = 2 ∨ k = 3 ∨ k = 4 := by omega
    rcases hc with rfl | rfl | rfl | rfl | rfl <;> rfl
theorem ef_1 (m : MethodId) (l0 : Addr) (a1 : Addr) : entryFrame m #[(.ref l0), (.ref a1)] 5 = mkF m 0 #[.val (.ref l0), .val (.ref a1), .unset, .unset, .unset] [] := by first | (simp [entryFrame, mkF, argsToLocals, Value.category]; done) | rfl
theorem pn_1 : plainName "com/example/tokenfold/tokenfold/statespace/Packing" = true := by first | (simp [plainName, overriddenIn]; done) | decide +kernel
set_option maxRecDepth 65536 in
set_option maxHeartbeats 40000000 in
theorem rmI {l : Launch} {Z : State} {a0 : Array Value} {n0 : Nat} {h : Heap} (hw : ∀ d ∈ tables_1, d.before a0 Z = true) (hn : n0 ≤ h.size) (l0 : Addr) (a1 : Addr) (cn : Nat → Nat) (Lt : List Ent) (ix : Nat) (hLt : Lt[ix]? = some (a1, .int, 3, bI (nI cn))) (hc : ∀ s, s < 3 → cn s < 2147483648) (O : Pak Z n0 h l0 .null .null .null .null .null .null .null .null .null .null .null .null (.int (Int32.ofNat 0)) (.long (Int64.ofNat 0)) (.int (Int32.ofNat 0))) (M : Mem Z n0 h Lt) :
    Ctr l Z n0 (⟨"com/example/tokenfold/tokenfold/statespace/Packing", "<init>", "([I)V"⟩ : MethodName) prog_60_method_1_code 5 none ({ frames := 2, cells := 12, slots := 18, locals := 30 } : Room) [] #[(.ref l0), (.ref a1)] h (fun v h' => v = none ∧ ∃ ad S en rw, Inv S 0 en ∧ (1 ≤ rw ∧ rw ≤ 3 ∧ en ≤ 64 * rw) ∧ PK Z n0 h' l0 ad S 0 (cp 0) en rw Lt) := by
  refine ctr_of (plainFor_of_name pn_1) hw hn ?_
  intro p e s m below meth c T X
  refine Wp.cast (ef_1 m l0 a1) ?_
  have hu0 := hc 0 (by decide)
  obtain ⟨u0, y0, -, -⟩ := bt_spec (cn 0) hu0
  have hu1 := hc 1 (by decide)
  obtain ⟨u1, y1, -, -⟩ := bt_spec (cn 1) hu1
  have hu2 := hc 2 (by decide)
  obtain ⟨u2, y2, -, -⟩ := bt_spec (cn 2) hu2
  refine w_aloadN X D1_0 rfl rfl ?_
  refine w_initO X D1_1 (hw _ (List.mem_of_getElem? (i := 9) rfl)) (hw _ (List.mem_of_getElem? (i := 10) rfl)) (hw _ (List.mem_of_getElem? (i := 11) rfl)) rfl (Nat.le_of_ble_eq_true rfl) (Nat.le_of_ble_eq_true rfl) (fun T201 X201 => ?_)
  refine w_aloadN X201 D1_4 rfl rfl ?_
  refine w_iconst X201 D1_5 (v := (0 : Int32)) rfl ?_
  refine w_newI X201 D1_6 (hw _ (List.mem_of_getElem? (i := 1) rfl)) 0 0 rfl (Nat.le_of_ble_eq_true rfl) (by decide) (Nat.le_of_ble_eq_true rfl) (Nat.le_of_ble_eq_true rfl) (fun T202 h202 a202 X202 g202 E202 B202 => ?_)
  have O_E202 := O.ext E202
  have M202 := M.cons (g := bI (nI (fun _ => 0))) E202 (Nat.le_of_eq g202.symm) B202
  refine w_putF X202 D1_8 (hw _ (List.mem_of_getElem? (i := 12) rfl)) O_E202.2.2.1 O_E202.2.1 O_E202.1 (Or.inl (hw _ (List.mem_of_getElem? (i := 13) rfl))) (hw _ (List.mem_of_getElem? (i := 4) rfl)) (ty := (.array .int)) (by decide) rfl rfl (fun T203 h203 X203 W203 => ?_)
  have O203 := O_E202.put_extraSlots hw W203
  have M203 := Pak_memW hw O_E202 M202 W203
  refine w_aloadN X203 D1_11 rfl rfl ?_
  refine w_iconst X203 D1_12 (v := (0 : Int32)) rfl ?_
  refine w_newI X203 D1_13 (hw _ (List.mem_of_getElem? (i := 1) rfl)) 0 0 rfl (Nat.le_of_ble_eq_true rfl) (by decide) (Nat.le_of_ble_eq_true rfl) (Nat.le_of_ble_eq_true rfl) (fun T204 h204 a204 X204 g204 E204 B204 => ?_)
  have O203_E204 := O203.ext E204
  have M204 := M203.cons (g := bI (nI (fun _ => 0))) E204 (Nat.le_of_eq g204.symm) B204
  refine w_putF X204 D1_15 (hw _ (List.mem_of_getElem? (i := 14) rfl)) O203_E204.2.2.2.1 O203_E204.2.1 O203_E204.1 (Or.inl (hw _ (List.mem_of_getElem? (i := 15) rfl))) (hw _ (List.mem_of_getElem? (i := 4) rfl)) (ty := (.array .int)) (by decide) rfl rfl (fun T205 h205 X205 W205 => ?_)
  have O205 := O203_E204.put_extraWords hw W205
  have M205 := Pak_memW hw O203_E204 M204 W205
  refine w_aloadN X205 D1_18 rfl rfl ?_
  refine w_iconst X205 D1_19 (v := (0 : Int32)) rfl ?_
  refine w_newI X205 D1_20 (hw _ (List.mem_of_getElem? (i := 1) rfl)) 0 0 rfl (Nat.le_of_ble_eq_true rfl) (by decide) (Nat.le_of_ble_eq_true rfl) (Nat.le_of_ble_eq_true rfl) (fun T206 h206 a206 X206 g206 E206 B206 => ?_)
  have O205_E206 := O205.ext E206
  have M206 := M205.cons (g := bI (nI (fun _ => 0))) E206 (Nat.le_of_eq g206.symm) B206
  refine w_putF X206 D1_22 (hw _ (List.mem_of_getElem? (i := 16) rfl)) O205_E206.2.2.2.2.1 O205_E206.2.1 O205_E206.1 (Or.inl (hw _ (List.mem_of_getElem? (i := 17) rfl))) (hw _ (List.mem_of_getElem? (i := 4) rfl)) (ty := (.array .int)) (by decide) rfl rfl (fun T207 h207 X207 W207 => ?_)
  have O207 := O205_E206.put_extraShifts hw W207
  have M207 := Pak_memW hw O205_E206 M206 W207
  refine w_aloadN X207 D1_25 rfl rfl ?_
  refine w_iconst X207 D1_26 (v := (0 : Int32)) rfl ?_
  refine w_newI X207 D1_27 (hw _ (List.mem_of_getElem? (i := 1) rfl)) 0 0 rfl (Nat.le_of_ble_eq_true rfl) (by decide) (Nat.le_of_ble_eq_true rfl) (Nat.le_of_ble_eq_true rfl) (fun T208 h208 a208 X208 g208 E208 B208 => ?_)
  have O207_E208 := O207.ext E208
  have M208 := M207.cons (g := bI (nI (fun _ => 0))) E208 (Nat.le_of_eq g208.symm) B208
  refine w_putF X208 D1_29 (hw _ (List.mem_of_getElem? (i := 18) rfl)) O207_E208.2.2.2.2.2.1 O207_E208.2.1 O207_E208.1 (Or.inl (hw _ (List.mem_of_getElem? (i := 19) rfl))) (hw _ (List.mem_of_getElem? (i := 4) rfl)) (ty := (.array .int)) (by decide) rfl rfl (fun T209 h209 X209 W209 => ?_)
  have O209 := O207_E208.put_extraLows hw W209
  have M209 := Pak_memW hw O207_E208 M208 W209
  refine w_aloadN X209 D1_32 rfl rfl ?_
  refine w_iconst X209 D1_33 (v := (0 : Int32)) rfl ?_
  refine w_newJ X209 D1_34 (hw _ (List.mem_of_getElem? (i := 2) rfl)) 0 0 rfl (Nat.le_of_ble_eq_true rfl) (by decide) (Nat.le_of_ble_eq_true rfl) (Nat.le_of_ble_eq_true rfl) (fun T210 h210 a210 X210 g210 E210 B210 => ?_)
  have O209_E210 := O209.ext E210
  have M210 := M209.cons (g := bJ (mJ (fun _ => 0))) E210 (Nat.le_of_eq g210.symm) B210
  refine w_putF X210 D1_36 (hw _ (List.mem_of_getElem? (i := 20) rfl)) O209_E210.2.2.2.2.2.2.1 O209_E210.2.1 O209_E210.1 (Or.inl (hw _ (List.mem_of_getElem? (i := 21) rfl))) (hw _ (List.mem_of_getElem? (i := 4) rfl)) (ty := (.array .long)) (by decide) rfl rfl (fun T211 h211 X211 W211 => ?_)
  have O211 := O209_E210.put_extraMasks hw W211
  have M211 := Pak_memW hw O209_E210 M210 W211
  refine w_aloadN X211 D1_39 rfl rfl ?_
  refine w_iconst X211 D1_40 (v := (0 : Int32)) rfl ?_
  refine w_newI X211 D1_41 (hw _ (List.mem_of_getElem? (i := 1) rfl)) 0 0 rfl (Nat.le_of_ble_eq_true rfl) (by decide) (Nat.le_of_ble_eq_true rfl) (Nat.le_of_ble_eq_true rfl) (fun T212 h212 a212 X212 g212 E212 B212 => ?_)
  have O211_E212 := O211.ext E212
  rw [z_x1] at B212
  have M212 := M211.cons (g := bI (xI (fun _ => 1))) E212 (Nat.le_of_eq g212.symm) B212
  refine w_putF X212 D1_43 (hw _ (List.mem_of_getElem? (i := 22) rfl)) O211_E212.2.2.2.2.2.2.2.1 O211_E212.2.1 O211_E212.1 (Or.inl (hw _ (List.mem_of_getElem? (i := 23) rfl))) (hw _ (List.mem_of_getElem? (i := 4) rfl)) (ty := (.array .int)) (by decide) rfl rfl (fun T213 h213 X213 W213 => ?_)
  have O213 := O211_E212.put_nextExtras hw W213
  have M213 := Pak_memW hw O211_E212 M212 W213
  refine w_aloadN X213 D1_46 rfl rfl ?_
  refine w_arraylength X213 D1_47 (M213.at (ix + 6) hLt) ?_
  refine w_istoreN X213 D1_48 (l' := #[.val (.ref l0), .val (.ref a1), .val (.int (Int32.ofNat 3)), .unset, .unset]) rfl ?_
  refine w_aloadN X213 D1_49 rfl rfl ?_
  refine w_iloadN X213 D1_50 rfl ?_
  refine w_newI X213 D1_51 (hw _ (List.mem_of_getElem? (i := 1) rfl)) 3 3 rfl (Nat.le_of_ble_eq_true rfl) (by decide) (Nat.le_of_ble_eq_true rfl) (Nat.le_of_ble_eq_true rfl) (fun T214 h214 a214 X214 g214 E214 B214 => ?_)
  have O213_E214 := O213.ext E214
  have M214 := M213.cons (g := bI (nI (fun _ => 0))) E214 (Nat.le_of_eq g214.symm) B214
  refine w_putF X214 D1_53 (hw _ (List.mem_of_getElem? (i := 24) rfl)) O213_E214.2.2.2.2.2.2.2.2.1 O213_E214.2.1 O213_E214.1 (Or.inr ⟨(hw _ (List.mem_of_getElem? (i := 25) rfl)), rfl, rfl⟩) (hw _ (List.mem_of_getElem? (i := 4) rfl)) (ty := (.array .int)) (by decide) rfl rfl (fun T215 h215 X215 W215 => ?_)
  have O215 := O213_E214.put_words hw W215
  have M215 := Pak_memW hw O213_E214 M214 W215
  refine w_aloadN X215 D1_56 rfl rfl ?_
  refine w_iloadN X215 D1_57 rfl ?_
  refine w_newI X215 D1_58 (hw _ (List.mem_of_getElem? (i := 1) rfl)) 3 3 rfl (Nat.le_of_ble_eq_true rfl) (by decide) (Nat.le_of_ble_eq_true rfl) (Nat.le_of_ble_eq_true rfl) (fun T216 h216 a216 X216 g216 E216 B216 => ?_)
  have O215_E216 := O215.ext E216
  have M216 := M215.cons (g := bI (nI (fun _ => 0))) E216 (Nat.le_of_eq g216.symm) B216
  refine w_putF X216 D1_60 (hw _ (List.mem_of_getElem? (i := 26) rfl)) O215_E216.2.2.2.2.2.2.2.2.2.1 O215_E216.2.1 O215_E216.1 (Or.inr ⟨(hw _ (List.mem_of_getElem? (i := 27) rfl)), rfl, rfl⟩) (hw _ (List.mem_of_getElem? (i := 4) rfl)) (ty := (.array .int)) (by decide) rfl rfl (fun T217 h217 X217 W217 => ?_)
  have O217 := O215_E216.put_shifts hw W217
  have M217 := Pak_memW hw O215_E216 M216 W217
  refine w_aloadN X217 D1_63 rfl rfl ?_
  refine w_iloadN X217 D1_64 rfl ?_
  refine w_newJ X217 D1_65 (hw _ (List.mem_of_getElem? (i := 2) rfl)) 3 3 rfl (Nat.le_of_ble_eq_true rfl) (by decide) (Nat.le_of_ble_eq_true rfl) (Nat.le_of_ble_eq_true rfl) (fun T218 h218 a218 X218 g218 E218 B218 => ?_)
  have O217_E218 := O217.ext E218
  have M218 := M217.cons (g := bJ (mJ (fun _ => 0))) E218 (Nat.le_of_eq g218.symm) B218
  refine w_putF X218 D1_67 (hw _ (List.mem_of_getElem? (i := 28) rfl)) O217_E218.2.2.2.2.2.2.2.2.2.2.1 O217_E218.2.1 O217_E218.1 (Or.inr ⟨(hw _ (List.mem_of_getElem? (i := 29) rfl)), rfl, rfl⟩) (hw _ (List.mem_of_getElem? (i := 4) rfl)) (ty := (.array .long)) (by decide) rfl rfl (fun T219 h219 X219 W219 => ?_)
  have O219 := O217_E218.put_masks hw W219
  have M219 := Pak_memW hw O217_E218 M218 W219
  refine w_aloadN X219 D1_70 rfl rfl ?_
  refine w_iloadN X219 D1_71 rfl ?_
  refine w_newI X219 D1_72 (hw _ (List.mem_of_getElem? (i := 1) rfl)) 3 3 rfl (Nat.le_of_ble_eq_true rfl) (by decide) (Nat.le_of_ble_eq_true rfl) (Nat.le_of_ble_eq_true rfl) (fun T220 h220 a220 X220 g220 E220 B220 => ?_)
  have O219_E220 := O219.ext E220
  have M220 := M219.cons (g := bI (nI (fun _ => 0))) E220 (Nat.le_of_eq g220.symm) B220
  refine w_putF X220 D1_74 (hw _ (List.mem_of_getElem? (i := 30) rfl)) O219_E220.2.2.2.2.2.2.2.2.2.2.2.1 O219_E220.2.1 O219_E220.1 (Or.inr ⟨(hw _ (List.mem_of_getElem? (i := 31) rfl)), rfl, rfl⟩) (hw _ (List.mem_of_getElem? (i := 4) rfl)) (ty := (.array .int)) (by decide) rfl rfl (fun T221 h221 X221 W221 => ?_)
  have O221 := O219_E220.put_widths hw W221
  have M221 := Pak_memW hw O219_E220 M220 W221
  refine w_aloadN X221 D1_77 rfl rfl ?_
  refine w_iloadN X221 D1_78 rfl ?_
  refine w_newI X221 D1_79 (hw _ (List.mem_of_getElem? (i := 1) rfl)) 3 3 rfl (Nat.le_of_ble_eq_true rfl) (by decide) (Nat.le_of_ble_eq_true rfl) (Nat.le_of_ble_eq_true rfl) (fun T222 h222 a222 X222 g222 E222 B222 => ?_)
  have O221_E222 := O221.ext E222
  rw [z_x1] at B222
  have M222 := M221.cons (g := bI (xI (fun _ => 1))) E222 (Nat.le_of_eq g222.symm) B222
  refine w_putF X222 D1_81 (hw _ (List.mem_of_getElem? (i := 32) rfl)) O221_E222.2.2.2.2.2.2.2.2.2.2.2.2.1 O221_E222.2.1 O221_E222.1 (Or.inr ⟨(hw _ (List.mem_of_getElem? (i := 33) rfl)), rfl, rfl⟩) (hw _ (List.mem_of_getElem? (i := 4) rfl)) (ty := (.array .int)) (by decide) rfl rfl (fun T223 h223 X223 W223 => ?_)
  have O223 := O221_E222.put_firstExtras hw W223
  have M223 := Pak_memW hw O221_E222 M222 W223
  refine w_aloadN X223 D1_84 rfl rfl ?_
  refine w_iloadN X223 D1_85 rfl ?_
  refine w_newI X223 D1_86 (hw _ (List.mem_of_getElem? (i := 1) rfl)) 3 3 rfl (Nat.le_of_ble_eq_true rfl) (by decide) (Nat.le_of_ble_eq_true rfl) (Nat.le_of_ble_eq_true rfl) (fun T224 h224 a224 X224 g224 E224 B224 => ?_)
  have O223_E224 := O223.ext E224
  rw [z_x1] at B224
  have M224 := M223.cons (g := bI (xI (fun _ => 1))) E224 (Nat.le_of_eq g224.symm) B224
  refine w_putF X224 D1_88 (hw _ (List.mem_of_getElem? (i := 34) rfl)) O223_E224.2.2.2.2.2.2.2.2.2.2.2.2.2.1 O223_E224.2.1 O223_E224.1 (Or.inr ⟨(hw _ (List.mem_of_getElem? (i := 35) rfl)), rfl, rfl⟩) (hw _ (List.mem_of_getElem? (i := 4) rfl)) (ty := (.array .int)) (by decide) rfl rfl (fun T225 h225 X225 W225 => ?_)
  have O225 := O223_E224.put_lastExtras hw W225
  have M225 := Pak_memW hw O223_E224 M224 W225
  refine w_aloadN X225 D1_91 rfl rfl ?_
  refine w_getF X225 D1_92 (hw _ (List.mem_of_getElem? (i := 32) rfl)) O225.2.2.2.2.2.2.2.2.2.2.2.2.1 (fun T226 X226 => ?_)
  refine w_iconst X226 D1_95 (v := (-1 : Int32)) rfl ?_
  refine w_static X226 D1_96 (rmF hw X226.sz a222 _ (xI (fun _ => 1)) (M225.at 1 rfl)) (hw _ (List.mem_of_getElem? (i := 36) rfl)) (hw _ (List.mem_of_getElem? (i := 37) rfl)) (hw _ (List.mem_of_getElem? (i := 38) rfl)) (hw _ (List.mem_of_getElem? (i := 39) rfl)) (by decide) pd_8 rfl (S := []) rfl rfl (Nat.le_of_ble_eq_true rfl) (Nat.le_of_ble_eq_true rfl) (Nat.le_of_ble_eq_true rfl) (Nat.le_of_ble_eq_true rfl) (fun v227 T227 h227 X227 q227 => ?_)
  obtain ⟨rfl, K227, B227⟩ := q227
  rw [z_x0] at B227
  have O227 := O225.keepB hw (M225.at 1 rfl) K227
  have M227 := M225.st (g' := bI (xI (fun _ => 0))) 1 rfl K227 B227
  show Wp _ _ _ _ _ _ _ _ (mkF m 99 #[.val (.ref l0), .val (.ref a1), .val (.int (Int32.ofNat 3)), .unset, .unset] [])
  refine w_aloadN X227 D1_99 rfl rfl ?_
  refine w_getF X227 D1_100 (hw _ (List.mem_of_getElem? (i := 34) rfl)) O227.2.2.2.2.2.2.2.2.2.2.2.2.2.1 (fun T228 X228 => ?_)
  refine w_iconst X228 D1_103 (v := (-1 : Int32)) rfl ?_
  refine w_static X228 D1_104 (rmF hw X228.sz a224 _ (xI (fun _ => 1)) (M227.at 0 rfl)) (hw _ (List.mem_of_getElem? (i := 36) rfl)) (hw _ (List.mem_of_getElem? (i := 37) rfl)) (hw _ (List.mem_of_getElem? (i := 38) rfl)) (hw _ (List.mem_of_getElem? (i := 39) rfl)) (by decide) pd_8 rfl (S := []) rfl rfl (Nat.le_of_ble_eq_true rfl) (Nat.le_of_ble_eq_true rfl) (Nat.le_of_ble_eq_true rfl) (Nat.le_of_ble_eq_true rfl) (fun v229 T229 h229 X229 q229 => ?_)
  obtain ⟨rfl, K229, B229⟩ := q229
  rw [z_x0] at B229
  have O229 := O227.keepB hw (M227.at 0 rfl) K229
  have M229 := M227.st (g' := bI (xI (fun _ => 0))) 0 rfl K229 B229
  show Wp _ _ _ _ _ _ _ _ (mkF m 107 #[.val (.ref l0), .val (.ref a1), .val (.int (Int32.ofNat 3)), .unset, .unset] [])
  refine w_iconst X229 D1_107 (v := (0 : Int32)) rfl ?_
  refine w_istoreN X229 D1_108 (l' := #[.val (.ref l0), .val (.ref a1), .val (.int (Int32.ofNat 3)), .val (.int (0 : Int32)), .unset]) rfl ?_
  refine w_iloadN X229 D1_109 rfl ?_
  refine w_iloadN X229 D1_110 rfl ?_
  refine w_icmpge X229 D1_111 (fun hc111 => by exact absurd (by decide) hc111) (fun hc111 => ?_)
  refine w_aloadN X229 D1_114 rfl rfl ?_
  refine w_iloadN X229 D1_115 rfl ?_
  refine w_iaload X229 D1_116 (M229.at (ix + 12) hLt) 0 rfl (by decide) ?_
  show Wp _ _ _ _ _ _ _ _ (mkF m 117 #[.val (.ref l0), .val (.ref a1), .val (.int (Int32.ofNat 3)), .val (.int (0 : Int32)), .unset] [(.int (Int32.ofNat (cn 0)))])
  refine w_static X229 D1_117 (rmB hw X229.sz _ (cn 0) hu0 rfl) (hw _ (List.mem_of_getElem? (i := 40) rfl)) (hw _ (List.mem_of_getElem? (i := 41) rfl)) (hw _ (List.mem_of_getElem? (i := 5) rfl)) (hw _ (List.mem_of_getElem? (i := 42) rfl)) (by decide) pd_0 rfl (S := []) rfl rfl (Nat.le_of_ble_eq_true rfl) (Nat.le_of_ble_eq_true rfl) (Nat.le_of_ble_eq_true rfl) (Nat.le_of_ble_eq_true rfl) (fun v230 T230 h230 X230 q230 => ?_)
  obtain ⟨rfl, rfl⟩ := q230
  show Wp _ _ _ _ _ _ _ _ (mkF m 120 #[.val (.ref l0), .val (.ref a1), .val (.int (Int32.ofNat 3)), .val (.int (0 : Int32)), .unset] [(.int (Int32.ofNat (bt (cn 0))))])
  refine w_istore X230 D1_120 (l' := #[.val (.ref l0), .val (.ref a1), .val (.int (Int32.ofNat 3)), .val (.int (0 : Int32)), .val (.int (Int32.ofNat (bt (cn 0))))]) rfl ?_
  refine w_aloadN X230 D1_122 rfl rfl ?_
  refine w_iload X230 D1_123 rfl ?_
  refine w_private (z0 := ({ cls := "com/example/tokenfold/tokenfold/statespace/Packing", name := "widen", desc := "([I)V" } : Jvm.MethodName)) X230 D1_125 (rmP hw X230.sz l0 _ _ _ _ _ _ _ _ _ _ _ _ _ _ _ 0 (bt (cn 0)) rfl (by omega) (by omega) O229) O229.2.1 (hw _ (List.mem_of_getElem? (i := 51) rfl)) (hw _ (List.mem_of_getElem? (i := 52) rfl)) (hw _ (List.mem_of_getElem? (i := 53) rfl)) (hw _ (List.mem_of_getElem? (i := 64) rfl)) rfl (hw _ (List.mem_of_getElem? (i := 5) rfl)) (hw _ (List.mem_of_getElem? (i := 54) rfl)) (by decide) pd_2 rfl (S := []) rfl rfl (Nat.le_of_ble_eq_true rfl) (Nat.le_of_ble_eq_true rfl) (Nat.le_of_ble_eq_true rfl) (Nat.le_of_ble_eq_true rfl) (fun v231 T231 h231 X231 q231 => ?_)
  obtain ⟨rfl, K231, O231⟩ := q231
  have M231 := Pak_memK hw O229 M229 K231
  show Wp _ _ _ _ _ _ _ _ (mkF m 128 #[.val (.ref l0), .val (.ref a1), .val (.int (Int32.ofNat 3)), .val (.int (0 : Int32)), .val (.int (Int32.ofNat (bt (cn 0))))] [])
  obtain ⟨qq0, hq0⟩ : ∃ q, plc 0 (bt (cn 0)) = q := ⟨_, rfl⟩
  have pp0 := plc_spec 0 (bt (cn 0)) u0 y0
  rw [hq0] at O231 pp0
  refine w_aloadN X231 D1_128 rfl rfl ?_
  refine w_getF X231 D1_129 (hw _ (List.mem_of_getElem? (i := 24) rfl)) O231.2.2.2.2.2.2.2.2.1 (fun T232 X232 => ?_)
  refine w_iloadN X232 D1_132 rfl ?_
  refine w_aloadN X232 D1_133 rfl rfl ?_
  refine w_getF X232 D1_134 (hw _ (List.mem_of_getElem? (i := 55) rfl)) O231.2.2.2.2.2.2.2.2.2.2.2.2.2.2.2.1 (fun T233 X233 => ?_)
  refine w_ldc2 X233 D1_137 (hw _ (List.mem_of_getElem? (i := 57) rfl)) ?_
  refine w_ldiv X233 D1_140 (by decide) ?_
  rw [show Int64.ofNat (qq0) / 64 = Int64.ofNat ((qq0) / 64) from nL_div (k := 64) (by omega) (by decide) (by decide)]
  refine w_l2i X233 D1_141 ?_
  rw [n_l2i]
  refine w_iastore X233 D1_142 (M231.at 5 rfl) 0 rfl (by decide) (fun T234 h234 X234 K234 B234 => ?_)
  rw [upd_nI] at B234
  have O231_K234 := O231.keepB hw (M231.at 5 rfl) K234
  have M234 := M231.st 5 rfl K234 B234
  refine w_aloadN X234 D1_143 rfl rfl ?_
  refine w_getF X234 D1_144 (hw _ (List.mem_of_getElem? (i := 26) rfl)) O231_K234.2.2.2.2.2.2.2.2.2.1 (fun T235 X235 => ?_)
  refine w_iloadN X235 D1_147 rfl ?_
  refine w_aloadN X235 D1_148 rfl rfl ?_
  refine w_getF X235 D1_149 (hw _ (List.mem_of_getElem? (i := 55) rfl)) O231_K234.2.2.2.2.2.2.2.2.2.2.2.2.2.2.2.1 (fun T236 X236 => ?_)
  refine w_ldc2 X236 D1_152 (hw _ (List.mem_of_getElem? (i := 57) rfl)) ?_
  refine w_lrem X236 D1_155 (by decide) ?_
  rw [show Int64.ofNat (qq0) - (Int64.ofNat (qq0) / 64) * 64 = Int64.ofNat ((qq0) % 64) from nL_rem (k := 64) (by omega) (by decide) (by decide)]
  refine w_l2i X236 D1_156 ?_
  rw [n_l2i]
  refine w_iastore X236 D1_157 (M234.at 4 rfl) 0 rfl (by decide) (fun T237 h237 X237 K237 B237 => ?_)
  rw [upd_nI] at B237
  have O231_K237 := O231_K234.keepB hw (M234.at 4 rfl) K237
  have M237 := M234.st 4 rfl K237 B237
  refine w_aloadN X237 D1_158 rfl rfl ?_
  refine w_getF X237 D1_159 (hw _ (List.mem_of_getElem? (i := 28) rfl)) O231_K237.2.2.2.2.2.2.2.2.2.2.1 (fun T238 X238 => ?_)
  refine w_iloadN X238 D1_162 rfl ?_
  refine w_lconst1 X238 D1_163 ?_
  refine w_iload X238 D1_164 rfl ?_
  refine w_lshl X238 D1_166 ?_
  refine w_lconst1 X238 D1_167 ?_
  refine w_lsub X238 D1_168 ?_
  rw [own_mask (b := bt (cn 0)) (by omega)]
  refine w_lastore X238 D1_169 (M237.at 3 rfl) 0 rfl (by decide) (fun T239 h239 X239 K239 B239 => ?_)
  rw [upd_mJ] at B239
  have O231_K239 := O231_K237.keepB hw (M237.at 3 rfl) K239
  have M239 := M237.st 3 rfl K239 B239
  refine w_aloadN X239 D1_170 rfl rfl ?_
  refine w_getF X239 D1_171 (hw _ (List.mem_of_getElem? (i := 30) rfl)) O231_K239.2.2.2.2.2.2.2.2.2.2.2.1 (fun T240 X240 => ?_)
  refine w_iloadN X240 D1_174 rfl ?_
  refine w_iload X240 D1_175 rfl ?_
  refine w_iastore X240 D1_177 (M239.at 2 rfl) 0 rfl (by decide) (fun T241 h241 X241 K241 B241 => ?_)
  rw [upd_nI] at B241
  have O231_K241 := O231_K239.keepB hw (M239.at 2 rfl) K241
  have M241 := M239.st 2 rfl K241 B241
  refine w_aloadN X241 D1_178 rfl rfl ?_
  refine w_dup X241 D1_179 rfl ?_
  refine w_getF X241 D1_180 (hw _ (List.mem_of_getElem? (i := 55) rfl)) O231_K241.2.2.2.2.2.2.2.2.2.2.2.2.2.2.2.1 (fun T242 X242 => ?_)
  refine w_iload X242 D1_183 rfl ?_
  refine w_i2l X242 D1_185 ?_
  rw [n_i2l (show bt (cn 0) < 2147483648 by omega)]
  refine w_ladd X242 D1_186 ?_
  rw [nL_add]
  refine w_putF X242 D1_187 (hw _ (List.mem_of_getElem? (i := 55) rfl)) O231_K241.2.2.2.2.2.2.2.2.2.2.2.2.2.2.2.1 O231_K241.2.1 O231_K241.1 (Or.inl (hw _ (List.mem_of_getElem? (i := 56) rfl))) (hw _ (List.mem_of_getElem? (i := 4) rfl)) (ty := .long) (by decide) rfl rfl (fun T243 h243 X243 W243 => ?_)
  have O243 := O231_K241.put_end hw W243
  have M243 := Pak_memW hw O231_K241 M241 W243
  refine w_iinc X243 D1_190 (d := (1 : Int32)) (r := (1 : Int32)) (l' := #[.val (.ref l0), .val (.ref a1), .val (.int (Int32.ofNat 3)), .val (.int (1 : Int32)), .val (.int (Int32.ofNat (bt (cn 0))))]) rfl rfl (by decide) rfl ?_
  refine w_goto X243 D1_193 ?_
  refine w_iloadN X243 D1_109 rfl ?_
  refine w_iloadN X243 D1_110 rfl ?_
  refine w_icmpge X243 D1_111 (fun hc111 => by exact absurd (by decide) hc111) (fun hc111 => ?_)
  refine w_aloadN X243 D1_114 rfl rfl ?_
  refine w_iloadN X243 D1_115 rfl ?_
  refine w_iaload X243 D1_116 (M243.at (ix + 12) hLt) 1 rfl (by decide) ?_
  show Wp _ _ _ _ _ _ _ _ (mkF m 117 #[.val (.ref l0), .val (.ref a1), .val (.int (Int32.ofNat 3)), .val (.int (1 : Int32)), .val (.int (Int32.ofNat (bt (cn 0))))] [(.int (Int32.ofNat (cn 1)))])
  refine w_static X243 D1_117 (rmB hw X243.sz _ (cn 1) hu1 rfl) (hw _ (List.mem_of_getElem? (i := 40) rfl)) (hw _ (List.mem_of_getElem? (i := 41) rfl)) (hw _ (List.mem_of_getElem? (i := 5) rfl)) (hw _ (List.mem_of_getElem? (i := 42) rfl)) (by decide) pd_0 rfl (S := []) rfl rfl (Nat.le_of_ble_eq_true rfl) (Nat.le_of_ble_eq_true rfl) (Nat.le_of_ble_eq_true rfl) (Nat.le_of_ble_eq_true rfl) (fun v244 T244 h244 X244 q244 => ?_)
  obtain ⟨rfl, rfl⟩ := q244
  show Wp _ _ _ _ _ _ _ _ (mkF m 120 #[.val (.ref l0), .val (.ref a1), .val (.int (Int32.ofNat 3)), .val (.int (1 : Int32)), .val (.int (Int32.ofNat (bt (cn 0))))] [(.int (Int32.ofNat (bt (cn 1))))])
  refine w_istore X244 D1_120 (l' := #[.val (.ref l0), .val (.ref a1), .val (.int (Int32.ofNat 3)), .val (.int (1 : Int32)), .val (.int (Int32.ofNat (bt (cn 1))))]) rfl ?_
  refine w_aloadN X244 D1_122 rfl rfl ?_
  refine w_iload X244 D1_123 rfl ?_
  refine w_private (z0 := ({ cls := "com/example/tokenfold/tokenfold/statespace/Packing", name := "widen", desc := "([I)V" } : Jvm.MethodName)) X244 D1_125 (rmP hw X244.sz l0 _ _ _ _ _ _ _ _ _ _ _ _ _ _ _ (qq0 + bt (cn 0)) (bt (cn 1)) rfl (by omega) (by omega) O243) O243.2.1 (hw _ (List.mem_of_getElem? (i := 51) rfl)) (hw _ (List.mem_of_getElem? (i := 52) rfl)) (hw _ (List.mem_of_getElem? (i := 53) rfl)) (hw _ (List.mem_of_getElem? (i := 64) rfl)) rfl (hw _ (List.mem_of_getElem? (i := 5) rfl)) (hw _ (List.mem_of_getElem? (i := 54) rfl)) (by decide) pd_2 rfl (S := []) rfl rfl (Nat.le_of_ble_eq_true rfl) (Nat.le_of_ble_eq_true rfl) (Nat.le_of_ble_eq_true rfl) (Nat.le_of_ble_eq_true rfl) (fun v245 T245 h245 X245 q245 => ?_)
  obtain ⟨rfl, K245, O245⟩ := q245
  have M245 := Pak_memK hw O243 M243 K245
  show Wp _ _ _ _ _ _ _ _ (mkF m 128 #[.val (.ref l0), .val (.ref a1), .val (.int (Int32.ofNat 3)), .val (.int (1 : Int32)), .val (.int (Int32.ofNat (bt (cn 1))))] [])
  obtain ⟨qq1, hq1⟩ : ∃ q, plc (qq0 + bt (cn 0)) (bt (cn 1)) = q := ⟨_, rfl⟩
  have pp1 := plc_spec (qq0 + bt (cn 0)) (bt (cn 1)) u1 y1
  rw [hq1] at O245 pp1
  refine w_aloadN X245 D1_128 rfl rfl ?_
  refine w_getF X245 D1_129 (hw _ (List.mem_of_getElem? (i := 24) rfl)) O245.2.2.2.2.2.2.2.2.1 (fun T246 X246 => ?_)
  refine w_iloadN X246 D1_132 rfl ?_
  refine w_aloadN X246 D1_133 rfl rfl ?_
  refine w_getF X246 D1_134 (hw _ (List.mem_of_getElem? (i := 55) rfl)) O245.2.2.2.2.2.2.2.2.2.2.2.2.2.2.2.1 (fun T247 X247 => ?_)
  refine w_ldc2 X247 D1_137 (hw _ (List.mem_of_getElem? (i := 57) rfl)) ?_
  refine w_ldiv X247 D1_140 (by decide) ?_
  rw [show Int64.ofNat (qq1) / 64 = Int64.ofNat ((qq1) / 64) from nL_div (k := 64) (by omega) (by decide) (by decide)]
  refine w_l2i X247 D1_141 ?_
  rw [n_l2i]
  refine w_iastore X247 D1_142 (M245.at 5 rfl) 1 rfl (by decide) (fun T248 h248 X248 K248 B248 => ?_)
  rw [upd_nI] at B248
  have O245_K248 := O245.keepB hw (M245.at 5 rfl) K248
  have M248 := M245.st 5 rfl K248 B248
  refine w_aloadN X248 D1_143 rfl rfl ?_
  refine w_getF X248 D1_144 (hw _ (List.mem_of_getElem? (i := 26) rfl)) O245_K248.2.2.2.2.2.2.2.2.2.1 (fun T249 X249 => ?_)
  refine w_iloadN X249 D1_147 rfl ?_
  refine w_aloadN X249 D1_148 rfl rfl ?_
  refine w_getF X249 D1_149 (hw _ (List.mem_of_getElem? (i := 55) rfl)) O245_K248.2.2.2.2.2.2.2.2.2.2.2.2.2.2.2.1 (fun T250 X250 => ?_)
  refine w_ldc2 X250 D1_152 (hw _ (List.mem_of_getElem? (i := 57) rfl)) ?_
  refine w_lrem X250 D1_155 (by decide) ?_
  rw [show Int64.ofNat (qq1) - (Int64.ofNat (qq1) / 64) * 64 = Int64.ofNat ((qq1) % 64) from nL_rem (k := 64) (by omega) (by decide) (by decide)]
  refine w_l2i X250 D1_156 ?_
  rw [n_l2i]
  refine w_iastore X250 D1_157 (M248.at 4 rfl) 1 rfl (by decide) (fun T251 h251 X251 K251 B251 => ?_)
  rw [upd_nI] at B251
  have O245_K251 := O245_K248.keepB hw (M248.at 4 rfl) K251
  have M251 := M248.st 4 rfl K251 B251
  refine w_aloadN X251 D1_158 rfl rfl ?_
  refine w_getF X251 D1_159 (hw _ (List.mem_of_getElem? (i := 28) rfl)) O245_K251.2.2.2.2.2.2.2.2.2.2.1 (fun T252 X252 => ?_)
  refine w_iloadN X252 D1_162 rfl ?_
  refine w_lconst1 X252 D1_163 ?_
  refine w_iload X252 D1_164 rfl ?_
  refine w_lshl X252 D1_166 ?_
  refine w_lconst1 X252 D1_167 ?_
  refine w_lsub X252 D1_168 ?_
  rw [own_mask (b := bt (cn 1)) (by omega)]
  refine w_lastore X252 D1_169 (M251.at 3 rfl) 1 rfl (by decide) (fun T253 h253 X253 K253 B253 => ?_)
  rw [upd_mJ] at B253
  have O245_K253 := O245_K251.keepB hw (M251.at 3 rfl) K253
  have M253 := M251.st 3 rfl K253 B253
  refine w_aloadN X253 D1_170 rfl rfl ?_
  refine w_getF X253 D1_171 (hw _ (List.mem_of_getElem? (i := 30) rfl)) O245_K253.2.2.2.2.2.2.2.2.2.2.2.1 (fun T254 X254 => ?_)
  refine w_iloadN X254 D1_174 rfl ?_
  refine w_iload X254 D1_175 rfl ?_
  refine w_iastore X254 D1_177 (M253.at 2 rfl) 1 rfl (by decide) (fun T255 h255 X255 K255 B255 => ?_)
  rw [upd_nI] at B255
  have O245_K255 := O245_K253.keepB hw (M253.at 2 rfl) K255
  have M255 := M253.st 2 rfl K255 B255
  refine w_aloadN X255 D1_178 rfl rfl ?_
  refine w_dup X255 D1_179 rfl ?_
  refine w_getF X255 D1_180 (hw _ (List.mem_of_getElem? (i := 55) rfl)) O245_K255.2.2.2.2.2.2.2.2.2.2.2.2.2.2.2.1 (fun T256 X256 => ?_)
  refine w_iload X256 D1_183 rfl ?_
  refine w_i2l X256 D1_185 ?_
  rw [n_i2l (show bt (cn 1) < 2147483648 by omega)]
  refine w_ladd X256 D1_186 ?_
  rw [nL_add]
  refine w_putF X256 D1_187 (hw _ (List.mem_of_getElem? (i := 55) rfl)) O245_K255.2.2.2.2.2.2.2.2.2.2.2.2.2.2.2.1 O245_K255.2.1 O245_K255.1 (Or.inl (hw _ (List.mem_of_getElem? (i := 56) rfl))) (hw _ (List.mem_of_getElem? (i := 4) rfl)) (ty := .long) (by decide) rfl rfl (fun T257 h257 X257 W257 => ?_)
  have O257 := O245_K255.put_end hw W257
  have M257 := Pak_memW hw O245_K255 M255 W257
  refine w_iinc X257 D1_190 (d := (1 : Int32)) (r := (2 : Int32)) (l' := #[.val (.ref l0), .val (.ref a1), .val (.int (Int32.ofNat 3)), .val (.int (2 : Int32)), .val (.int (Int32.ofNat (bt (cn 1))))]) rfl rfl (by decide) rfl ?_
  refine w_goto X257 D1_193 ?_
  refine w_iloadN X257 D1_109 rfl ?_
  refine w_iloadN X257 D1_110 rfl ?_
  refine w_icmpge X257 D1_111 (fun hc111 => by exact absurd (by decide) hc111) (fun hc111 => ?_)
  refine w_aloadN X257 D1_114 rfl rfl ?_
  refine w_iloadN X257 D1_115 rfl ?_
  refine w_iaload X257 D1_116 (M257.at (ix + 12) hLt) 2 rfl (by decide) ?_
  show Wp _ _ _ _ _ _ _ _ (mkF m 117 #[.val (.ref l0), .val (.ref a1), .val (.int (Int32.ofNat 3)), .val (.int (2 : Int32)), .val (.int (Int32.ofNat (bt (cn 1))))] [(.int (Int32.ofNat (cn 2)))])
  refine w_static X257 D1_117 (rmB hw X257.sz _ (cn 2) hu2 rfl) (hw _ (List.mem_of_getElem? (i := 40) rfl)) (hw _ (List.mem_of_getElem? (i := 41) rfl)) (hw _ (List.mem_of_getElem? (i := 5) rfl)) (hw _ (List.mem_of_getElem? (i := 42) rfl)) (by decide) pd_0 rfl (S := []) rfl rfl (Nat.le_of_ble_eq_true rfl) (Nat.le_of_ble_eq_true rfl) (Nat.le_of_ble_eq_true rfl) (Nat.le_of_ble_eq_true rfl) (fun v258 T258 h258 X258 q258 => ?_)
  obtain ⟨rfl, rfl⟩ := q258
  show Wp _ _ _ _ _ _ _ _ (mkF m 120 #[.val (.ref l0), .val (.ref a1), .val (.int (Int32.ofNat 3)), .val (.int (2 : Int32)), .val (.int (Int32.ofNat (bt (cn 1))))] [(.int (Int32.ofNat (bt (cn 2))))])
  refine w_istore X258 D1_120 (l' := #[.val (.ref l0), .val (.ref a1), .val (.int (Int32.ofNat 3)), .val (.int (2 : Int32)), .val (.int (Int32.ofNat (bt (cn 2))))]) rfl ?_
  refine w_aloadN X258 D1_122 rfl rfl ?_
  refine w_iload X258 D1_123 rfl ?_
  refine w_private (z0 := ({ cls := "com/example/tokenfold/tokenfold/statespace/Packing", name := "widen", desc := "([I)V" } : Jvm.MethodName)) X258 D1_125 (rmP hw X258.sz l0 _ _ _ _ _ _ _ _ _ _ _ _ _ _ _ (qq1 + bt (cn 1)) (bt (cn 2)) rfl (by omega) (by omega) O257) O257.2.1 (hw _ (List.mem_of_getElem? (i := 51) rfl)) (hw _ (List.mem_of_getElem? (i := 52) rfl)) (hw _ (List.mem_of_getElem? (i := 53) rfl)) (hw _ (List.mem_of_getElem? (i := 64) rfl)) rfl (hw _ (List.mem_of_getElem? (i := 5) rfl)) (hw _ (List.mem_of_getElem? (i := 54) rfl)) (by decide) pd_2 rfl (S := []) rfl rfl (Nat.le_of_ble_eq_true rfl) (Nat.le_of_ble_eq_true rfl) (Nat.le_of_ble_eq_true rfl) (Nat.le_of_ble_eq_true rfl) (fun v259 T259 h259 X259 q259 => ?_)
  obtain ⟨rfl, K259, O259⟩ := q259
  have M259 := Pak_memK hw O257 M257 K259
  show Wp _ _ _ _ _ _ _ _ (mkF m 128 #[.val (.ref l0), .val (.ref a1), .val (.int (Int32.ofNat 3)), .val (.int (2 : Int32)), .val (.int (Int32.ofNat (bt (cn 2))))] [])
  obtain ⟨qq2, hq2⟩ : ∃ q, plc (qq1 + bt (cn 1)) (bt (cn 2)) = q := ⟨_, rfl⟩
  have pp2 := plc_spec (qq1 + bt (cn 1)) (bt (cn 2)) u2 y2
  rw [hq2] at O259 pp2
  refine w_aloadN X259 D1_128 rfl rfl ?_
  refine w_getF X259 D1_129 (hw _ (List.mem_of_getElem? (i := 24) rfl)) O259.2.2.2.2.2.2.2.2.1 (fun T260 X260 => ?_)
  refine w_iloadN X260 D1_132 rfl ?_
  refine w_aloadN X260 D1_133 rfl rfl ?_
  refine w_getF X260 D1_134 (hw _ (List.mem_of_getElem? (i := 55) rfl)) O259.2.2.2.2.2.2.2.2.2.2.2.2.2.2.2.1 (fun T261 X261 => ?_)
  refine w_ldc2 X261 D1_137 (hw _ (List.mem_of_getElem? (i := 57) rfl)) ?_
  refine w_ldiv X261 D1_140 (by decide) ?_
  rw [show Int64.ofNat (qq2) / 64 = Int64.ofNat ((qq2) / 64) from nL_div (k := 64) (by omega) (by decide) (by decide)]
  refine w_l2i X261 D1_141 ?_
  rw [n_l2i]
  refine w_iastore X261 D1_142 (M259.at 5 rfl) 2 rfl (by decide) (fun T262 h262 X262 K262 B262 => ?_)
  rw [upd_nI] at B262
  have O259_K262 := O259.keepB hw (M259.at 5 rfl) K262
  have M262 := M259.st 5 rfl K262 B262
  refine w_aloadN X262 D1_143 rfl rfl ?_
  refine w_getF X262 D1_144 (hw _ (List.mem_of_getElem? (i := 26) rfl)) O259_K262.2.2.2.2.2.2.2.2.2.1 (fun T263 X263 => ?_)
  refine w_iloadN X263 D1_147 rfl ?_
  refine w_aloadN X263 D1_148 rfl rfl ?_
  refine w_getF X263 D1_149 (hw _ (List.mem_of_getElem? (i := 55) rfl)) O259_K262.2.2.2.2.2.2.2.2.2.2.2.2.2.2.2.1 (fun T264 X264 => ?_)
  refine w_ldc2 X264 D1_152 (hw _ (List.mem_of_getElem? (i := 57) rfl)) ?_
  refine w_lrem X264 D1_155 (by decide) ?_
  rw [show Int64.ofNat (qq2) - (Int64.ofNat (qq2) / 64) * 64 = Int64.ofNat ((qq2) % 64) from nL_rem (k := 64) (by omega) (by decide) (by decide)]
  refine w_l2i X264 D1_156 ?_
  rw [n_l2i]
  refine w_iastore X264 D1_157 (M262.at 4 rfl) 2 rfl (by decide) (fun T265 h265 X265 K265 B265 => ?_)
  rw [upd_nI] at B265
  have O259_K265 := O259_K262.keepB hw (M262.at 4 rfl) K265
  have M265 := M262.st 4 rfl K265 B265
  refine w_aloadN X265 D1_158 rfl rfl ?_
  refine w_getF X265 D1_159 (hw _ (List.mem_of_getElem? (i := 28) rfl)) O259_K265.2.2.2.2.2.2.2.2.2.2.1 (fun T266 X266 => ?_)
  refine w_iloadN X266 D1_162 rfl ?_
  refine w_lconst1 X266 D1_163 ?_
  refine w_iload X266 D1_164 rfl ?_
  refine w_lshl X266 D1_166 ?_
  refine w_lconst1 X266 D1_167 ?_
  refine w_lsub X266 D1_168 ?_
  rw [own_mask (b := bt (cn 2)) (by omega)]
  refine w_lastore X266 D1_169 (M265.at 3 rfl) 2 rfl (by decide) (fun T267 h267 X267 K267 B267 => ?_)
  rw [upd_mJ] at B267
  have O259_K267 := O259_K265.keepB hw (M265.at 3 rfl) K267
  have M267 := M265.st 3 rfl K267 B267
  refine w_aloadN X267 D1_170 rfl rfl ?_
  refine w_getF X267 D1_171 (hw _ (List.mem_of_getElem? (i := 30) rfl)) O259_K267.2.2.2.2.2.2.2.2.2.2.2.1 (fun T268 X268 => ?_)
  refine w_iloadN X268 D1_174 rfl ?_
  refine w_iload X268 D1_175 rfl ?_
  refine w_iastore X268 D1_177 (M267.at 2 rfl) 2 rfl (by decide) (fun T269 h269 X269 K269 B269 => ?_)
  rw [upd_nI] at B269
  have O259_K269 := O259_K267.keepB hw (M267.at 2 rfl) K269
  have M269 := M267.st 2 rfl K269 B269
  refine w_aloadN X269 D1_178 rfl rfl ?_
  refine w_dup X269 D1_179 rfl ?_
  refine w_getF X269 D1_180 (hw _ (List.mem_of_getElem? (i := 55) rfl)) O259_K269.2.2.2.2.2.2.2.2.2.2.2.2.2.2.2.1 (fun T270 X270 => ?_)
  refine w_iload X270 D1_183 rfl ?_
  refine w_i2l X270 D1_185 ?_
  rw [n_i2l (show bt (cn 2) < 2147483648 by omega)]
  refine w_ladd X270 D1_186 ?_
  rw [nL_add]
  refine w_putF X270 D1_187 (hw _ (List.mem_of_getElem? (i := 55) rfl)) O259_K269.2.2.2.2.2.2.2.2.2.2.2.2.2.2.2.1 O259_K269.2.1 O259_K269.1 (Or.inl (hw _ (List.mem_of_getElem? (i := 56) rfl))) (hw _ (List.mem_of_getElem? (i := 4) rfl)) (ty := .long) (by decide) rfl rfl (fun T271 h271 X271 W271 => ?_)
  have O271 := O259_K269.put_end hw W271
  have M271 := Pak_memW hw O259_K269 M269 W271
  refine w_iinc X271 D1_190 (d := (1 : Int32)) (r := (3 : Int32)) (l' := #[.val (.ref l0), .val (.ref a1), .val (.int (Int32.ofNat 3)), .val (.int (3 : Int32)), .val (.int (Int32.ofNat (bt (cn 2))))]) rfl rfl (by decide) rfl ?_
  refine w_goto X271 D1_193 ?_
  refine w_iloadN X271 D1_109 rfl ?_
  refine w_iloadN X271 D1_110 rfl ?_
  refine w_icmpge X271 D1_111 (fun hc111 => ?_) (fun hc111 => by exact absurd hc111 (by decide))
  refine w_aloadN X271 D1_196 rfl rfl ?_
  refine w_iconst X271 D1_197 (v := (1 : Int32)) rfl ?_
  refine w_aloadN X271 D1_198 rfl rfl ?_
  refine w_getF X271 D1_199 (hw _ (List.mem_of_getElem? (i := 55) rfl)) O271.2.2.2.2.2.2.2.2.2.2.2.2.2.2.2.1 (fun T272 X272 => ?_)
  refine w_ldc2 X272 D1_202 (hw _ (List.mem_of_getElem? (i := 57) rfl)) ?_
  refine w_ladd X272 D1_205 ?_
  rw [show Int64.ofNat (qq2 + bt (cn 2)) + 64 = Int64.ofNat (qq2 + bt (cn 2) + 64) from nL_add _ 64]
  refine w_lconst1 X272 D1_206 ?_
  refine w_lsub X272 D1_207 ?_
  rw [show Int64.ofNat (qq2 + bt (cn 2) + 64) - 1 = Int64.ofNat (qq2 + bt (cn 2) + 64 - 1) from nL_sub (b := 1) (by omega)]
  refine w_ldc2 X272 D1_208 (hw _ (List.mem_of_getElem? (i := 57) rfl)) ?_
  refine w_ldiv X272 D1_211 (by decide) ?_
  rw [show Int64.ofNat (qq2 + bt (cn 2) + 64 - 1) / 64 = Int64.ofNat ((qq2 + bt (cn 2) + 64 - 1) / 64) from nL_div (k := 64) (by omega) (by decide) (by decide)]
  refine w_l2i X272 D1_212 ?_
  rw [n_l2i]
  refine w_static X272 D1_213 (rmMax hw X272.sz _ _ 1 ((qq2 + bt (cn 2) + 64 - 1) / 64) (by decide) (by omega) rfl rfl) (hw _ (List.mem_of_getElem? (i := 47) rfl)) (hw _ (List.mem_of_getElem? (i := 48) rfl)) (hw _ (List.mem_of_getElem? (i := 49) rfl)) (hw _ (List.mem_of_getElem? (i := 50) rfl)) (by decide) pd_1 rfl (S := [(.ref l0)]) rfl rfl (Nat.le_of_ble_eq_true rfl) (Nat.le_of_ble_eq_true rfl) (Nat.le_of_ble_eq_true rfl) (Nat.le_of_ble_eq_true rfl) (fun v273 T273 h273 X273 q273 => ?_)
  obtain ⟨rfl, rfl⟩ := q273
  show Wp _ _ _ _ _ _ _ _ (mkF m 216 #[.val (.ref l0), .val (.ref a1), .val (.int (Int32.ofNat 3)), .val (.int (3 : Int32)), .val (.int (Int32.ofNat (bt (cn 2))))] [(.int (Int32.ofNat (max 1 ((qq2 + bt (cn 2) + 64 - 1) / 64)))), (.ref l0)])
  refine w_putF X273 D1_216 (hw _ (List.mem_of_getElem? (i := 59) rfl)) O271.2.2.2.2.2.2.2.2.2.2.2.2.2.2.2.2 O271.2.1 O271.1 (Or.inl (hw _ (List.mem_of_getElem? (i := 60) rfl))) (hw _ (List.mem_of_getElem? (i := 4) rfl)) (ty := .int) (by decide) rfl rfl (fun T274 h274 X274 W274 => ?_)
  have O274 := O271.put_recordWords hw W274
  have M274 := Pak_memW hw O271 M271 W274
  exact w_return X274 D1_219 (by decide) (by decide) (⟨rfl, (fun k => match k with | 0 => a202 | 1 => a204 | 2 => a206 | 3 => a208 | 4 => a210 | 5 => a212 | 6 => a214 | 7 => a216 | 8 => a218 | 9 => a220 | 10 => a222 | 11 => a224 | _ => 0), iniS qq0 qq1 qq2 (bt (cn 0)) (bt (cn 1)) (bt (cn 2)), qq2 + bt (cn 2), max 1 ((qq2 + bt (cn 2) + 64 - 1) / 64), iniInv ⟨u0, y0⟩ ⟨u1, y1⟩ ⟨u2, y2⟩ hq0 hq1 hq2, ⟨by omega, by omega, by omega⟩, O274, M274⟩)
-- CUT
theorem n_ushrU {a k : Nat} (ha : a < 4294967296) (hk : k < 32) : jushr (Int32.ofNat a) (Int32.ofNat k) = Int32.ofNat (a / 2 ^ k) := by
  rcases Nat.eq_zero_or_pos k with rfl | h0
  · rw [Nat.pow_zero, Nat.div_one]; exact n_ushr0 _
  · have h2 : 2 ^ 1 ≤ 2 ^ k := Nat.pow_le_pow_right (by decide) h0
    have hd : a / 2 ^ k ≤ a / 2 := Nat.div_le_div_left h2 (by decide)
    refine eq_ofNat (by omega) ?_
    have z := toInt_mod a
    rw [c_iushr (Int32.ofNat a) (Int32.ofNat k) k (n_q hk) h0, show (Int32.ofNat a).toInt % 4294967296 = (a : Int) by omega]
    exact (Int.natCast_ediv _ _).symm
theorem n_i2lmask (a : Nat) {w : Nat} (hw : w ≤ 32) : (Int32.ofNat a).toInt64 &&& Int64.ofNat (2 ^ w - 1) = Int64.ofNat (a % 2 ^ w) := by
  have h1 := c_i2l (Int32.ofNat a)
  have h2 := toInt_mod a
  obtain ⟨u, hu⟩ : ∃ u : Nat, ((Int32.ofNat a).toInt % 18446744073709551616).toNat = u := ⟨_, rfl⟩
  have e : (Int32.ofNat a).toInt64 = Int64.ofNat u := eq_modL (by rw [h1]; have := toInt_modL u; omega)
  have h3 : u % 2 ^ 32 = a % 2 ^ 32 := by omega
  rw [e, nL_low, ← Nat.mod_mod_of_dvd u (Nat.pow_dvd_pow 2 hw), h3, Nat.mod_mod_of_dvd a (Nat.pow_dvd_pow 2 hw)]
theorem nL_ushrU {a k : Nat} (ha : a < 18446744073709551616) (hk : k < 64) : jushrL (Int64.ofNat a) (Int32.ofNat k) = Int64.ofNat (a / 2 ^ k) := by
  rcases Nat.eq_zero_or_pos k with rfl | h0
  · rw [Nat.pow_zero, Nat.div_one]; exact nL_ushr0 _
  · have h2 : 2 ^ 1 ≤ 2 ^ k := Nat.pow_le_pow_right (by decide) h0
    have hd : a / 2 ^ k ≤ a / 2 := Nat.div_le_div_left h2 (by decide)
    refine eq_ofNatL (by omega) ?_
    have z := toInt_modL a
    rw [c_lushr (Int64.ofNat a) (Int32.ofNat k) k (n_q64 hk) h0, show (Int64.ofNat a).toInt % 18446744073709551616 = (a : Int) by omega]
    exact (Int.natCast_ediv _ _).symm
/-- the record behind i fields | are the counts within their widths | what is read at field i | the counts behind i fields -/
def PF (S : Nat → Nat → Nat) (cn R : Nat → Nat) : Nat → Nat → Nat
  | 0 => R
  | i + 1 => upd (PF S cn R i) (fW S i) (PF S cn R i (fW S i) ||| (cn (fs S i) / 2 ^ fl S i % 2 ^ fD S i) * 2 ^ fH S i)
def okf (S : Nat → Nat → Nat) (cn : Nat → Nat) : Nat → Nat
  | 0 => 1
  | i + 1 => if cn i / 2 ^ S 9 i = 0 then okf S cn i else 0
theorem okf01 (S : Nat → Nat → Nat) (cn : Nat → Nat) : ∀ i, okf S cn i = 0 ∨ okf S cn i = 1
  | 0 => Or.inr rfl
  | i + 1 => by
    rw [okf]; split
    · exact okf01 S cn i
    · exact Or.inl rfl
def rd (S : Nat → Nat → Nat) (R : Nat → Nat) (off i : Nat) : Nat := R (off + fW S i) / 2 ^ fH S i % 2 ^ fD S i
def UF (S : Nat → Nat → Nat) (R : Nat → Nat) (off : Nat) : Nat → Nat → Nat
  | 0 => fun _ => 0
  | i + 1 => upd (UF S R off i) (fs S i) (UF S R off i (fs S i) ||| rd S R off i * 2 ^ fl S i)
def ub (S : Nat → Nat → Nat) (R : Nat → Nat) (off : Nat) (g : Nat → Int32) : Nat → Nat → Int32
  | 0 => g
  | i + 1 => upd (ub S R off g i) i (Int32.ofNat (R (off + S 6 i) / 2 ^ S 7 i % 2 ^ S 8 i))
theorem PF_base (S : Nat → Nat → Nat) (cn R : Nat → Nat) {i : Nat} (hi : i < 3) : PF S cn R (i + 1) = upd (PF S cn R i) (S 6 i) (PF S cn R i (S 6 i) ||| (cn i % 2 ^ S 8 i) * 2 ^ S 7 i) := by
  rw [PF]; unfold fW fs fl fD fH; simp only [if_pos hi, Nat.pow_zero, Nat.div_one]
theorem PF_ext (S : Nat → Nat → Nat) (cn R : Nat → Nat) (i : Nat) : PF S cn R (3 + (i + 1)) = upd (PF S cn R (3 + i)) (S 1 i) (PF S cn R (3 + i) (S 1 i) ||| (cn (S 0 i) / 2 ^ S 3 i % 2 ^ S 4 i) * 2 ^ S 2 i) := by
  rw [show 3 + (i + 1) = (3 + i) + 1 by omega, PF]; unfold fW fs fl fD fH; simp only [if_neg (show ¬ 3 + i < 3 by omega), Nat.add_sub_cancel_left]
theorem UF_ext (S : Nat → Nat → Nat) (R : Nat → Nat) (off i : Nat) : UF S R off (3 + (i + 1)) = upd (UF S R off (3 + i)) (S 0 i) (UF S R off (3 + i) (S 0 i) ||| (R (off + S 1 i) / 2 ^ S 2 i % 2 ^ S 4 i) * 2 ^ S 3 i) := by
  rw [show 3 + (i + 1) = (3 + i) + 1 by omega, UF]; unfold rd fW fs fl fD fH; simp only [if_neg (show ¬ 3 + i < 3 by omega), Nat.add_sub_cancel_left]
theorem ub_end (S : Nat → Nat → Nat) (R : Nat → Nat) (off : Nat) (g : Nat → Int32) (s : Nat) (hs : s < 3) : ub S R off g 3 s = nI (UF S R off 3) s := by
  have hc : s = 0 ∨ s = 1 ∨ s = 2 := by omega
  rcases hc with rfl | rfl | rfl
  · show Int32.ofNat _ = Int32.ofNat (0 ||| _ * 2 ^ 0); congr 1; rw [Nat.zero_or, Nat.pow_zero, Nat.mul_one]; rfl
  · show Int32.ofNat _ = Int32.ofNat (0 ||| _ * 2 ^ 0); congr 1; rw [Nat.zero_or, Nat.pow_zero, Nat.mul_one]; rfl
  · show Int32.ofNat _ = Int32.ofNat (0 ||| _ * 2 ^ 0); congr 1; rw [Nat.zero_or, Nat.pow_zero, Nat.mul_one]; rfl
/-- what Inv says of field i, in the arrays' own words -/
theorem Inv.base {S : Nat → Nat → Nat} {E en rw : Nat} (I : Inv S E en) (hr : en ≤ 64 * rw) {i : Nat} (hi : i < 3) : 1 ≤ S 8 i ∧ S 8 i ≤ 31 ∧ S 7 i + S 8 i ≤ 64 ∧ S 6 i < rw ∧ 1 ≤ S 9 i ∧ S 9 i ≤ 31 := by
  have h := I.1 i (by omega)
  have h9 := I.2.2.1 i hi
  unfold fs fD fH fl fW at h
  simp only [if_pos hi] at h
  omega
theorem Inv.ext {S : Nat → Nat → Nat} {E en rw : Nat} (I : Inv S E en) (hr : en ≤ 64 * rw) {i : Nat} (hi : i < E) : S 0 i < 3 ∧ 1 ≤ S 4 i ∧ S 4 i ≤ 31 ∧ S 2 i + S 4 i ≤ 64 ∧ S 1 i < rw ∧ S 3 i ≤ 30 := by
  have h := I.1 (3 + i) (by omega)
  unfold fs fD fH fl fW at h
  simp only [if_neg (show ¬ 3 + i < 3 by omega), Nat.add_sub_cancel_left] at h
  have h9 := I.2.2.1 (S 0 i) h.1
  omega
theorem cp_le {E : Nat} (h : E ≤ 8) : E ≤ cp E := by have := cp_spec E; omega
theorem set_id {α : Type} {L : List α} {i : Nat} {x : α} (e : L[i]? = some x) : L.set i x = L := by
  apply List.ext_getElem?
  intro q
  by_cases h : q = i
  · rw [h, set_self e, e]
  · rw [List.getElem?_set_ne (Ne.symm h)]
theorem ef_11 (m : MethodId) (x1 : Int32) (x2 : Int32) (x3 : Int32) : entryFrame m #[(.int x1), (.int x2), (.int x3)] 3 = mkF m 0 #[.val (.int x1), .val (.int x2), .val (.int x3)] [] := by first | (simp [entryFrame, mkF, argsToLocals, Value.category]; done) | rfl
theorem pn_11 : plainName "java/util/Arrays" = true := by first | (simp [plainName, overriddenIn]; done) | decide +kernel
set_option maxRecDepth 65536 in
set_option maxHeartbeats 40000000 in
theorem rmRC {l : Launch} {Z : State} {a0 : Array Value} {n0 : Nat} {h : Heap} (hw : ∀ d ∈ tables_1, d.before a0 Z = true) (hn : n0 ≤ h.size) (x1 : Int32) (x2 : Int32) (x3 : Int32) (u1 u3 : Nat) (e1 : x1 = Int32.ofNat u1) (e2 : x2 = Int32.ofNat 0) (e3 : x3 = Int32.ofNat u3) (hu : u3 ≤ u1) (hu1 : u1 < 100) :
    Ctr l Z n0 (⟨"java/util/Arrays", "rangeCheck", "(III)V"⟩ : MethodName) jdk_65_method_30_code 3 none ({ frames := 0, cells := 0, slots := 0, locals := 0 } : Room) [] #[(.int x1), (.int x2), (.int x3)] h (fun v h' => v = none ∧ h = h') := by
  refine ctr_of (plainFor_of_name pn_11) hw hn ?_
  intro p e s m below meth c T X
  refine Wp.cast (ef_11 m x1 x2 x3) ?_
  subst e1 e2 e3
  refine w_iloadN X D11_0 rfl ?_
  refine w_iloadN X D11_1 rfl ?_
  refine w_icmple X D11_2 (fun hc2 => ?_) (fun hc2 => by have z := (ofNat_lt (by omega) (by decide)).mp hc2; omega)
  refine w_iloadN X D11_46 rfl ?_
  refine w_ifge X D11_47 (fun hc47 => ?_) (fun hc47 => by exact absurd hc47 (by decide))
  refine w_iloadN X D11_59 rfl ?_
  refine w_iloadN X D11_60 rfl ?_
  refine w_icmple X D11_61 (fun hc61 => ?_) (fun hc61 => by have z := (ofNat_lt (by omega) (by omega)).mp hc61; omega)
  exact w_return X D11_73 (by decide) (by decide) (⟨rfl, rfl⟩)
theorem ef_10 (m : MethodId) (a : Addr) (x1 : Int32) (x2 : Int32) (x3 : Int64) : entryFrame m #[(.ref a), (.int x1), (.int x2), (.long x3)] 6 = mkF m 0 #[.val (.ref a), .val (.int x1), .val (.int x2), .val (.long x3), .second, .unset] [] := by first | (simp [entryFrame, mkF, argsToLocals, Value.category]; done) | rfl
theorem pn_10 : plainName "java/util/Arrays" = true := by first | (simp [plainName, overriddenIn]; done) | decide +kernel
set_option maxRecDepth 65536 in
set_option maxHeartbeats 40000000 in
theorem rmFJ {l : Launch} {Z : State} {a0 : Array Value} {n0 : Nat} {h : Heap} (hw : ∀ d ∈ tables_1, d.before a0 Z = true) (hn : n0 ≤ h.size) (a : Addr) (x1 : Int32) (x2 : Int32) (x3 : Int64) (nr rw : Nat) (R : Nat → Nat) (e1 : x1 = Int32.ofNat 0) (e2 : x2 = Int32.ofNat rw) (e3 : x3 = Int64.ofNat 0) (hr : rw = 1 ∨ rw = 2 ∨ rw = 3) (hnr : 3 ≤ nr) (hnr2 : nr < 100) (B : Ba Z n0 h a .long nr (bJ (nJ R))) :
    Ctr l Z n0 (⟨"java/util/Arrays", "fill", "([JIIJ)V"⟩ : MethodName) jdk_65_method_102_code 6 none ({ frames := 1, cells := 0, slots := 0, locals := 14 } : Room) [] #[(.ref a), (.int x1), (.int x2), (.long x3)] h (fun v h' => v = none ∧ Keep h h' [a] ∧ Ba Z n0 h' a .long nr (bJ (nJ (fun i => if i < rw then 0 else R i)))) := by
  refine ctr_of (plainFor_of_name pn_10) hw hn ?_
  intro p e s m below meth c T X
  refine Wp.cast (ef_10 m a x1 x2 x3) ?_
  subst e1 e2 e3
  refine w_aloadN X D10_0 rfl rfl ?_
  refine w_arraylength X D10_1 B ?_
  refine w_iloadN X D10_2 rfl ?_
  refine w_iloadN X D10_3 rfl ?_
  refine w_static X D10_4 (rmRC hw X.sz _ _ _ nr rw rfl rfl rfl (by omega) (by omega)) (hw _ (List.mem_of_getElem? (i := 74) rfl)) (hw _ (List.mem_of_getElem? (i := 75) rfl)) (hw _ (List.mem_of_getElem? (i := 38) rfl)) (hw _ (List.mem_of_getElem? (i := 76) rfl)) (by decide) pd_9 rfl (S := []) rfl rfl (Nat.le_of_ble_eq_true rfl) (Nat.le_of_ble_eq_true rfl) (Nat.le_of_ble_eq_true rfl) (Nat.le_of_ble_eq_true rfl) (fun v1 T1 h1 X1 q1 => ?_)
  obtain ⟨rfl, rfl⟩ := q1
  show Wp _ _ _ _ _ _ _ _ (mkF m 7 #[.val (.ref a), .val (.int (Int32.ofNat 0)), .val (.int (Int32.ofNat rw)), .val (.long (Int64.ofNat 0)), .second, .unset] [])
  refine w_iloadN X1 D10_7 rfl ?_
  refine w_istore X1 D10_8 (l' := #[.val (.ref a), .val (.int (Int32.ofNat 0)), .val (.int (Int32.ofNat rw)), .val (.long (Int64.ofNat 0)), .second, .val (.int (Int32.ofNat 0))]) rfl ?_
  rcases hr with rfl | rfl | rfl
  · show Wp _ _ _ _ _ _ _ _ (mkF m 10 #[.val (.ref a), .val (.int (Int32.ofNat 0)), .val (.int (Int32.ofNat 1)), .val (.long (Int64.ofNat 0)), .second, .val (.int (Int32.ofNat 0))] [])
    refine w_iload X1 D10_10 rfl ?_
    refine w_iloadN X1 D10_12 rfl ?_
    refine w_icmpge X1 D10_13 (fun hc13 => by exact absurd (by decide) hc13) (fun hc13 => ?_)
    refine w_aloadN X1 D10_16 rfl rfl ?_
    refine w_iload X1 D10_17 rfl ?_
    refine w_lloadN X1 D10_19 rfl ?_
    refine w_lastore X1 D10_20 B 0 rfl (by omega) (fun T2 h2 X2 K2 B2 => ?_)
    rw [upd_nJ] at B2
    refine w_iinc X2 D10_21 (d := (1 : Int32)) (r := (Int32.ofNat 1)) (l' := #[.val (.ref a), .val (.int (Int32.ofNat 0)), .val (.int (Int32.ofNat 1)), .val (.long (Int64.ofNat 0)), .second, .val (.int (Int32.ofNat 1))]) rfl rfl (by decide) rfl ?_
    refine w_goto X2 D10_24 ?_
    refine w_iload X2 D10_10 rfl ?_
    refine w_iloadN X2 D10_12 rfl ?_
    refine w_icmpge X2 D10_13 (fun hc13 => ?_) (fun hc13 => by exact absurd hc13 (by decide))
    exact w_return X2 D10_27 (by decide) (by decide) (⟨rfl, K2, B2.congr (fun i hi => by
          simp only [bJ, nJ, upd]; congr 2
          split <;> (try split) <;> (try split) <;> (try split) <;> omega)⟩)
  · show Wp _ _ _ _ _ _ _ _ (mkF m 10 #[.val (.ref a), .val (.int (Int32.ofNat 0)), .val (.int (Int32.ofNat 2)), .val (.long (Int64.ofNat 0)), .second, .val (.int (Int32.ofNat 0))] [])
    refine w_iload X1 D10_10 rfl ?_
    refine w_iloadN X1 D10_12 rfl ?_
    refine w_icmpge X1 D10_13 (fun hc13 => by exact absurd (by decide) hc13) (fun hc13 => ?_)
    refine w_aloadN X1 D10_16 rfl rfl ?_
    refine w_iload X1 D10_17 rfl ?_
    refine w_lloadN X1 D10_19 rfl ?_
    refine w_lastore X1 D10_20 B 0 rfl (by omega) (fun T3 h3 X3 K3 B3 => ?_)
    rw [upd_nJ] at B3
    refine w_iinc X3 D10_21 (d := (1 : Int32)) (r := (Int32.ofNat 1)) (l' := #[.val (.ref a), .val (.int (Int32.ofNat 0)), .val (.int (Int32.ofNat 2)), .val (.long (Int64.ofNat 0)), .second, .val (.int (Int32.ofNat 1))]) rfl rfl (by decide) rfl ?_
    refine w_goto X3 D10_24 ?_
    refine w_iload X3 D10_10 rfl ?_
    refine w_iloadN X3 D10_12 rfl ?_
    refine w_icmpge X3 D10_13 (fun hc13 => by exact absurd (by decide) hc13) (fun hc13 => ?_)
    refine w_aloadN X3 D10_16 rfl rfl ?_
    refine w_iload X3 D10_17 rfl ?_
    refine w_lloadN X3 D10_19 rfl ?_
    refine w_lastore X3 D10_20 B3 1 rfl (by omega) (fun T4 h4 X4 K4 B4 => ?_)
    rw [upd_nJ] at B4
    refine w_iinc X4 D10_21 (d := (1 : Int32)) (r := (Int32.ofNat 2)) (l' := #[.val (.ref a), .val (.int (Int32.ofNat 0)), .val (.int (Int32.ofNat 2)), .val (.long (Int64.ofNat 0)), .second, .val (.int (Int32.ofNat 2))]) rfl rfl (by decide) rfl ?_
    refine w_goto X4 D10_24 ?_
    refine w_iload X4 D10_10 rfl ?_
    refine w_iloadN X4 D10_12 rfl ?_
    refine w_icmpge X4 D10_13 (fun hc13 => ?_) (fun hc13 => by exact absurd hc13 (by decide))
    exact w_return X4 D10_27 (by decide) (by decide) (⟨rfl, (K3.trans K4 (fun x hx => Or.inl hx)), B4.congr (fun i hi => by
          simp only [bJ, nJ, upd]; congr 2
          split <;> (try split) <;> (try split) <;> (try split) <;> omega)⟩)
  · show Wp _ _ _ _ _ _ _ _ (mkF m 10 #[.val (.ref a), .val (.int (Int32.ofNat 0)), .val (.int (Int32.ofNat 3)), .val (.long (Int64.ofNat 0)), .second, .val (.int (Int32.ofNat 0))] [])
    refine w_iload X1 D10_10 rfl ?_
    refine w_iloadN X1 D10_12 rfl ?_
    refine w_icmpge X1 D10_13 (fun hc13 => by exact absurd (by decide) hc13) (fun hc13 => ?_)
    refine w_aloadN X1 D10_16 rfl rfl ?_
    refine w_iload X1 D10_17 rfl ?_
    refine w_lloadN X1 D10_19 rfl ?_
    refine w_lastore X1 D10_20 B 0 rfl (by omega) (fun T5 h5 X5 K5 B5 => ?_)
    rw [upd_nJ] at B5
    refine w_iinc X5 D10_21 (d := (1 : Int32)) (r := (Int32.ofNat 1)) (l' := #[.val (.ref a), .val (.int (Int32.ofNat 0)), .val (.int (Int32.ofNat 3)), .val (.long (Int64.ofNat 0)), .second, .val (.int (Int32.ofNat 1))]) rfl rfl (by decide) rfl ?_
    refine w_goto X5 D10_24 ?_
    refine w_iload X5 D10_10 rfl ?_
    refine w_iloadN X5 D10_12 rfl ?_
    refine w_icmpge X5 D10_13 (fun hc13 => by exact absurd (by decide) hc13) (fun hc13 => ?_)
    refine w_aloadN X5 D10_16 rfl rfl ?_
    refine w_iload X5 D10_17 rfl ?_
    refine w_lloadN X5 D10_19 rfl ?_
    refine w_lastore X5 D10_20 B5 1 rfl (by omega) (fun T6 h6 X6 K6 B6 => ?_)
    rw [upd_nJ] at B6
    refine w_iinc X6 D10_21 (d := (1 : Int32)) (r := (Int32.ofNat 2)) (l' := #[.val (.ref a), .val (.int (Int32.ofNat 0)), .val (.int (Int32.ofNat 3)), .val (.long (Int64.ofNat 0)), .second, .val (.int (Int32.ofNat 2))]) rfl rfl (by decide) rfl ?_
    refine w_goto X6 D10_24 ?_
    refine w_iload X6 D10_10 rfl ?_
    refine w_iloadN X6 D10_12 rfl ?_
    refine w_icmpge X6 D10_13 (fun hc13 => by exact absurd (by decide) hc13) (fun hc13 => ?_)
    refine w_aloadN X6 D10_16 rfl rfl ?_
    refine w_iload X6 D10_17 rfl ?_
    refine w_lloadN X6 D10_19 rfl ?_
    refine w_lastore X6 D10_20 B6 2 rfl (by omega) (fun T7 h7 X7 K7 B7 => ?_)
    rw [upd_nJ] at B7
    refine w_iinc X7 D10_21 (d := (1 : Int32)) (r := (Int32.ofNat 3)) (l' := #[.val (.ref a), .val (.int (Int32.ofNat 0)), .val (.int (Int32.ofNat 3)), .val (.long (Int64.ofNat 0)), .second, .val (.int (Int32.ofNat 3))]) rfl rfl (by decide) rfl ?_
    refine w_goto X7 D10_24 ?_
    refine w_iload X7 D10_10 rfl ?_
    refine w_iloadN X7 D10_12 rfl ?_
    refine w_icmpge X7 D10_13 (fun hc13 => ?_) (fun hc13 => by exact absurd hc13 (by decide))
    exact w_return X7 D10_27 (by decide) (by decide) (⟨rfl, ((K5.trans K6 (fun x hx => Or.inl hx)).trans K7 (fun x hx => Or.inl hx)), B7.congr (fun i hi => by
          simp only [bJ, nJ, upd]; congr 2
          split <;> (try split) <;> (try split) <;> (try split) <;> omega)⟩)
set_option maxRecDepth 65536 in
set_option maxHeartbeats 40000000 in
theorem pkT {Z : State} {a0 : Array Value} {n0 : Nat} {p : Program} {l : Launch} {e : Env} {RR : Room} {s : State} {m : MethodId} {args : Array Value} {below : List Frame} {meth : Method} {c : Code} {T : State} {h : Heap} {k j : Nat} {Q : Option Value → Heap → Prop} (hw : ∀ d ∈ tables_1, d.before a0 Z = true) (X : Pos Z a0 n0 p l e RR s m args below meth c prog_60_method_3_code 6 (some .boolean) (⟨"com/example/tokenfold/tokenfold/statespace/Packing", "pack", "([I[J)Z"⟩ : MethodName) T h k j) (l0 a1 a2 : Addr) (ad : Nat → Addr) (S : Nat → Nat → Nat) (E en rw nr : Nat) (cn R : Nat → Nat) (Lt : List Ent) (ix iy : Nat) (hLx : Lt[ix]? = some (a1, .int, 3, bI (nI cn))) (hne : ix ≠ iy) (hLy : ∃ z, Lt[iy]? = some z) (hnr : 3 ≤ nr) (hcn : ∀ s, s < 3 → cn s < 4294967296) (I : Inv S E en) (hE8 : E ≤ 8) (hr : 1 ≤ rw ∧ rw ≤ 3 ∧ en ≤ 64 * rw) (i : Nat) (hi : i < 3) (s5 : Slot) (h_s5 : Jvm.RoadKit.One s5) (P : PK Z n0 h l0 ad S E (cp E) en rw (Lt.set iy (a2, .long, nr, bJ (nJ (PF S cn R (i)))))) (q : ∀ T' h' z', Pos Z a0 n0 p l e RR s m args below meth c prog_60_method_3_code 6 (some .boolean) (⟨"com/example/tokenfold/tokenfold/statespace/Packing", "pack", "([I[J)Z"⟩ : MethodName) T' h' k j → PK Z n0 h' l0 ad S E (cp E) en rw (Lt.set iy (a2, .long, nr, bJ (nJ (PF S cn R (i + 1))))) → Wp n0 p e RR s below Q T' (mkF m 15 #[.val (.ref l0), .val (.ref a1), .val (.ref a2), .val (.int (Int32.ofNat (okf S cn (i + 1)))), .val (.int (Int32.ofNat (i + 1))), .val (.int z')] [])) : Wp n0 p e RR s below Q T (mkF m 15 #[.val (.ref l0), .val (.ref a1), .val (.ref a2), .val (.int (Int32.ofNat (okf S cn i))), .val (.int (Int32.ofNat i)), s5] []) := by
  obtain ⟨O, M⟩ := P
  obtain ⟨zz, hLz⟩ := hLy
  obtain ⟨b1, b2, b3, b4, b5, b6⟩ := I.base hr.2.2 hi
  have hci := hcn i hi
  have ok := okf01 S cn i
  have hdv : cn i / 2 ^ S 9 i < 2147483648 := Nat.div_lt_of_lt_mul (Nat.lt_of_lt_of_le (show cn i < 2 ^ 1 * 2147483648 by omega) (Nat.mul_le_mul_right _ (Nat.pow_le_pow_right (by decide) b5)))
  refine w_iload X D9_15 rfl ?_
  refine w_aloadN X D9_17 rfl rfl ?_
  refine w_arraylength X D9_18 (M.at (ix + 12) (set_ne hne hLx)) ?_
  refine w_icmpge X D9_19 (fun hc19 => by exact absurd ((ofNat_lt (by omega) (by decide)).mpr hi) hc19) (fun hc19 => ?_)
  refine w_aloadN X D9_22 rfl rfl ?_
  refine w_iload X D9_23 rfl ?_
  refine w_iaload X D9_25 (M.at (ix + 12) (set_ne hne hLx)) i rfl (by omega) ?_
  show Wp _ _ _ _ _ _ _ _ (mkF m 26 #[.val (.ref l0), .val (.ref a1), .val (.ref a2), .val (.int (Int32.ofNat (okf S cn i))), .val (.int (Int32.ofNat i)), s5] [(.int (Int32.ofNat (cn i)))])
  refine w_istoreS X D9_26 (l' := #[.val (.ref l0), .val (.ref a1), .val (.ref a2), .val (.int (Int32.ofNat (okf S cn i))), .val (.int (Int32.ofNat i)), .val (.int (Int32.ofNat (cn i)))]) rfl h_s5 rfl ?_
  refine w_iloadN X D9_28 rfl ?_
  refine w_iload X D9_29 rfl ?_
  refine w_aloadN X D9_31 rfl rfl ?_
  refine w_getF X D9_32 (hw _ (List.mem_of_getElem? (i := 30) rfl)) O.2.2.2.2.2.2.2.2.2.2.2.1 (fun T1 X1 => ?_)
  refine w_iload X1 D9_35 rfl ?_
  refine w_iaload X1 D9_37 (M.at 2 rfl) i rfl (by omega) ?_
  show Wp _ _ _ _ _ _ _ _ (mkF m 38 #[.val (.ref l0), .val (.ref a1), .val (.ref a2), .val (.int (Int32.ofNat (okf S cn i))), .val (.int (Int32.ofNat i)), .val (.int (Int32.ofNat (cn i)))] [(.int (Int32.ofNat ((S 9) i))), (.int (Int32.ofNat (cn i))), (.int (Int32.ofNat (okf S cn i)))])
  refine w_iushr X1 D9_38 ?_
  rw [n_ushrU hci (show S 9 i < 32 by omega)]
  refine w_ifne X1 D9_39 (fun hc39 => ?_) (fun hc39 => ?_)
  · refine w_iconst X1 D9_46 (v := (0 : Int32)) rfl ?_
    refine w_iand X1 D9_47 ?_
    have hz : ¬ cn i / 2 ^ S 9 i = 0 := fun z => hc39 (by rw [z]; rfl)
    rw [show Int32.ofNat (okf S cn i) &&& 0 = Int32.ofNat (okf S cn (i + 1)) by rw [okf, if_neg hz]; rcases ok with h | h <;> rw [h] <;> rfl]
    refine w_istoreN X1 D9_48 (l' := #[.val (.ref l0), .val (.ref a1), .val (.ref a2), .val (.int (Int32.ofNat (okf S cn (i + 1)))), .val (.int (Int32.ofNat i)), .val (.int (Int32.ofNat (cn i)))]) rfl ?_
    refine w_aloadN X1 D9_49 rfl rfl ?_
    refine w_aloadN X1 D9_50 rfl rfl ?_
    refine w_getF X1 D9_51 (hw _ (List.mem_of_getElem? (i := 24) rfl)) O.2.2.2.2.2.2.2.2.1 (fun T2 X2 => ?_)
    refine w_iload X2 D9_54 rfl ?_
    refine w_iaload X2 D9_56 (M.at 5 rfl) i rfl (by omega) ?_
    show Wp _ _ _ _ _ _ _ _ (mkF m 57 #[.val (.ref l0), .val (.ref a1), .val (.ref a2), .val (.int (Int32.ofNat (okf S cn (i + 1)))), .val (.int (Int32.ofNat i)), .val (.int (Int32.ofNat (cn i)))] [(.int (Int32.ofNat ((S 6) i))), (.ref a2)])
    refine w_dup2 X2 D9_57 rfl rfl ?_
    refine w_laload X2 D9_58 (M.at (iy + 12) (set_self hLz)) ((S 6) i) rfl (by omega) ?_
    show Wp _ _ _ _ _ _ _ _ (mkF m 59 #[.val (.ref l0), .val (.ref a1), .val (.ref a2), .val (.int (Int32.ofNat (okf S cn (i + 1)))), .val (.int (Int32.ofNat i)), .val (.int (Int32.ofNat (cn i)))] [(.long (Int64.ofNat ((PF S cn R (i)) ((S 6) i)))), (.int (Int32.ofNat ((S 6) i))), (.ref a2)])
    refine w_iload X2 D9_59 rfl ?_
    refine w_i2l X2 D9_61 ?_
    refine w_aloadN X2 D9_62 rfl rfl ?_
    refine w_getF X2 D9_63 (hw _ (List.mem_of_getElem? (i := 28) rfl)) O.2.2.2.2.2.2.2.2.2.2.1 (fun T3 X3 => ?_)
    refine w_iload X3 D9_66 rfl ?_
    refine w_laload X3 D9_68 (M.at 3 rfl) i rfl (by omega) ?_
    show Wp _ _ _ _ _ _ _ _ (mkF m 69 #[.val (.ref l0), .val (.ref a1), .val (.ref a2), .val (.int (Int32.ofNat (okf S cn (i + 1)))), .val (.int (Int32.ofNat i)), .val (.int (Int32.ofNat (cn i)))] [(.long (Int64.ofNat (2 ^ ((S 8) i) - 1))), (.long ((Int32.ofNat (cn i)).toInt64)), (.long (Int64.ofNat ((PF S cn R (i)) ((S 6) i)))), (.int (Int32.ofNat ((S 6) i))), (.ref a2)])
    refine w_land X3 D9_69 ?_
    rw [n_i2lmask (cn i) (show S 8 i ≤ 32 by omega)]
    refine w_aloadN X3 D9_70 rfl rfl ?_
    refine w_getF X3 D9_71 (hw _ (List.mem_of_getElem? (i := 26) rfl)) O.2.2.2.2.2.2.2.2.2.1 (fun T4 X4 => ?_)
    refine w_iload X4 D9_74 rfl ?_
    refine w_iaload X4 D9_76 (M.at 4 rfl) i rfl (by omega) ?_
    show Wp _ _ _ _ _ _ _ _ (mkF m 77 #[.val (.ref l0), .val (.ref a1), .val (.ref a2), .val (.int (Int32.ofNat (okf S cn (i + 1)))), .val (.int (Int32.ofNat i)), .val (.int (Int32.ofNat (cn i)))] [(.int (Int32.ofNat ((S 7) i))), (.long (Int64.ofNat (cn i % 2 ^ S 8 i))), (.long (Int64.ofNat ((PF S cn R (i)) ((S 6) i)))), (.int (Int32.ofNat ((S 6) i))), (.ref a2)])
    refine w_lshl X4 D9_77 ?_
    rw [nL_shl (cn i % 2 ^ S 8 i) (show S 7 i < 64 by omega)]
    refine w_lor X4 D9_78 ?_
    rw [nL_or]
    refine w_lastore X4 D9_79 (M.at (iy + 12) (set_self hLz)) ((S 6) i) rfl (by omega) (fun T5 h5 X5 K5 B5 => ?_)
    rw [upd_nJ] at B5
    have O_K5 := O.keepB hw (M.at (iy + 12) (set_self hLz)) K5
    have M5 := M.st (iy + 12) (set_self hLz) K5 B5
    refine w_iinc X5 D9_80 (d := (1 : Int32)) (r := (Int32.ofNat (i + 1))) (l' := #[.val (.ref l0), .val (.ref a1), .val (.ref a2), .val (.int (Int32.ofNat (okf S cn (i + 1)))), .val (.int (Int32.ofNat (i + 1))), .val (.int (Int32.ofNat (cn i)))]) rfl rfl (n_add _ _) rfl ?_
    refine w_goto X5 D9_83 ?_
    have M9 : Mem Z n0 h5 (live ad S (cp E) (Lt.set iy (a2, .long, nr, bJ (nJ (PF S cn R (i + 1)))))) := by
      have z : Mem Z n0 h5 (live ad S (cp E) ((Lt.set iy (a2, .long, nr, bJ (nJ (PF S cn R (i))))).set iy _)) := M5
      rw [List.set_set] at z
      rw [PF_base S cn R hi]; exact z
    exact q _ _ _ X5 ⟨O_K5, M9⟩
  · refine w_iconst X1 D9_42 (v := (1 : Int32)) rfl ?_
    refine w_goto X1 D9_43 ?_
    refine w_iand X1 D9_47 ?_
    have hz : cn i / 2 ^ S 9 i = 0 := (n_inj (b := 0) (by omega) (by decide)).mp hc39
    rw [show Int32.ofNat (okf S cn i) &&& 1 = Int32.ofNat (okf S cn (i + 1)) by rw [okf, if_pos hz]; rcases ok with h | h <;> rw [h] <;> rfl]
    refine w_istoreN X1 D9_48 (l' := #[.val (.ref l0), .val (.ref a1), .val (.ref a2), .val (.int (Int32.ofNat (okf S cn (i + 1)))), .val (.int (Int32.ofNat i)), .val (.int (Int32.ofNat (cn i)))]) rfl ?_
    refine w_aloadN X1 D9_49 rfl rfl ?_
    refine w_aloadN X1 D9_50 rfl rfl ?_
    refine w_getF X1 D9_51 (hw _ (List.mem_of_getElem? (i := 24) rfl)) O.2.2.2.2.2.2.2.2.1 (fun T6 X6 => ?_)
    refine w_iload X6 D9_54 rfl ?_
    refine w_iaload X6 D9_56 (M.at 5 rfl) i rfl (by omega) ?_
    show Wp _ _ _ _ _ _ _ _ (mkF m 57 #[.val (.ref l0), .val (.ref a1), .val (.ref a2), .val (.int (Int32.ofNat (okf S cn (i + 1)))), .val (.int (Int32.ofNat i)), .val (.int (Int32.ofNat (cn i)))] [(.int (Int32.ofNat ((S 6) i))), (.ref a2)])
    refine w_dup2 X6 D9_57 rfl rfl ?_
    refine w_laload X6 D9_58 (M.at (iy + 12) (set_self hLz)) ((S 6) i) rfl (by omega) ?_
    show Wp _ _ _ _ _ _ _ _ (mkF m 59 #[.val (.ref l0), .val (.ref a1), .val (.ref a2), .val (.int (Int32.ofNat (okf S cn (i + 1)))), .val (.int (Int32.ofNat i)), .val (.int (Int32.ofNat (cn i)))] [(.long (Int64.ofNat ((PF S cn R (i)) ((S 6) i)))), (.int (Int32.ofNat ((S 6) i))), (.ref a2)])
    refine w_iload X6 D9_59 rfl ?_
    refine w_i2l X6 D9_61 ?_
    refine w_aloadN X6 D9_62 rfl rfl ?_
    refine w_getF X6 D9_63 (hw _ (List.mem_of_getElem? (i := 28) rfl)) O.2.2.2.2.2.2.2.2.2.2.1 (fun T7 X7 => ?_)
    refine w_iload X7 D9_66 rfl ?_
    refine w_laload X7 D9_68 (M.at 3 rfl) i rfl (by omega) ?_
    show Wp _ _ _ _ _ _ _ _ (mkF m 69 #[.val (.ref l0), .val (.ref a1), .val (.ref a2), .val (.int (Int32.ofNat (okf S cn (i + 1)))), .val (.int (Int32.ofNat i)), .val (.int (Int32.ofNat (cn i)))] [(.long (Int64.ofNat (2 ^ ((S 8) i) - 1))), (.long ((Int32.ofNat (cn i)).toInt64)), (.long (Int64.ofNat ((PF S cn R (i)) ((S 6) i)))), (.int (Int32.ofNat ((S 6) i))), (.ref a2)])
    refine w_land X7 D9_69 ?_
    rw [n_i2lmask (cn i) (show S 8 i ≤ 32 by omega)]
    refine w_aloadN X7 D9_70 rfl rfl ?_
    refine w_getF X7 D9_71 (hw _ (List.mem_of_getElem? (i := 26) rfl)) O.2.2.2.2.2.2.2.2.2.1 (fun T8 X8 => ?_)
    refine w_iload X8 D9_74 rfl ?_
    refine w_iaload X8 D9_76 (M.at 4 rfl) i rfl (by omega) ?_
    show Wp _ _ _ _ _ _ _ _ (mkF m 77 #[.val (.ref l0), .val (.ref a1), .val (.ref a2), .val (.int (Int32.ofNat (okf S cn (i + 1)))), .val (.int (Int32.ofNat i)), .val (.int (Int32.ofNat (cn i)))] [(.int (Int32.ofNat ((S 7) i))), (.long (Int64.ofNat (cn i % 2 ^ S 8 i))), (.long (Int64.ofNat ((PF S cn R (i)) ((S 6) i)))), (.int (Int32.ofNat ((S 6) i))), (.ref a2)])
    refine w_lshl X8 D9_77 ?_
    rw [nL_shl (cn i % 2 ^ S 8 i) (show S 7 i < 64 by omega)]
    refine w_lor X8 D9_78 ?_
    rw [nL_or]
    refine w_lastore X8 D9_79 (M.at (iy + 12) (set_self hLz)) ((S 6) i) rfl (by omega) (fun T9 h9 X9 K9 B9 => ?_)
    rw [upd_nJ] at B9
    have O_K9 := O.keepB hw (M.at (iy + 12) (set_self hLz)) K9
    have M9 := M.st (iy + 12) (set_self hLz) K9 B9
    refine w_iinc X9 D9_80 (d := (1 : Int32)) (r := (Int32.ofNat (i + 1))) (l' := #[.val (.ref l0), .val (.ref a1), .val (.ref a2), .val (.int (Int32.ofNat (okf S cn (i + 1)))), .val (.int (Int32.ofNat (i + 1))), .val (.int (Int32.ofNat (cn i)))]) rfl rfl (n_add _ _) rfl ?_
    refine w_goto X9 D9_83 ?_
    have M9 : Mem Z n0 h9 (live ad S (cp E) (Lt.set iy (a2, .long, nr, bJ (nJ (PF S cn R (i + 1)))))) := by
      have z : Mem Z n0 h9 (live ad S (cp E) ((Lt.set iy (a2, .long, nr, bJ (nJ (PF S cn R (i))))).set iy _)) := M9
      rw [List.set_set] at z
      rw [PF_base S cn R hi]; exact z
    exact q _ _ _ X9 ⟨O_K9, M9⟩
set_option maxRecDepth 65536 in
set_option maxHeartbeats 40000000 in
theorem pxL {Z : State} {a0 : Array Value} {n0 : Nat} {p : Program} {l : Launch} {e : Env} {RR : Room} {s : State} {m : MethodId} {args : Array Value} {below : List Frame} {meth : Method} {c : Code} {k j : Nat} {Q : Option Value → Heap → Prop} (hw : ∀ d ∈ tables_1, d.before a0 Z = true) (l0 a1 a2 : Addr) (ad : Nat → Addr) (S : Nat → Nat → Nat) (E en rw nr : Nat) (cn R : Nat → Nat) (Lt : List Ent) (ix iy : Nat) (hLx : Lt[ix]? = some (a1, .int, 3, bI (nI cn))) (hne : ix ≠ iy) (hLy : ∃ z, Lt[iy]? = some z) (hnr : 3 ≤ nr) (hcn : ∀ s, s < 3 → cn s < 4294967296) (I : Inv S E en) (hE8 : E ≤ 8) (hr : 1 ≤ rw ∧ rw ≤ 3 ∧ en ≤ 64 * rw) (g : Nat) (z5 : Int32) : ∀ r i (T : State) (h : Heap), i + r = E → Pos Z a0 n0 p l e RR s m args below meth c prog_60_method_3_code 6 (some .boolean) (⟨"com/example/tokenfold/tokenfold/statespace/Packing", "pack", "([I[J)Z"⟩ : MethodName) T h k j → PK Z n0 h l0 ad S E (cp E) en rw (Lt.set iy (a2, .long, nr, bJ (nJ (PF S cn R (3 + i))))) → (∀ T' h' , Pos Z a0 n0 p l e RR s m args below meth c prog_60_method_3_code 6 (some .boolean) (⟨"com/example/tokenfold/tokenfold/statespace/Packing", "pack", "([I[J)Z"⟩ : MethodName) T' h' k j → PK Z n0 h' l0 ad S E (cp E) en rw (Lt.set iy (a2, .long, nr, bJ (nJ (PF S cn R (3 + E))))) → Wp n0 p e RR s below Q T' (mkF m 150 #[.val (.ref l0), .val (.ref a1), .val (.ref a2), .val (.int (Int32.ofNat g)), .val (.int (Int32.ofNat E)), .val (.int z5)] [])) → Wp n0 p e RR s below Q T (mkF m 89 #[.val (.ref l0), .val (.ref a1), .val (.ref a2), .val (.int (Int32.ofNat g)), .val (.int (Int32.ofNat i)), .val (.int z5)] []) := by
  obtain ⟨zz, hLz⟩ := hLy
  have hcp := cp_le hE8
  intro r
  induction r with
  | zero =>
    intro i T h hi X P q
    obtain rfl : i = E := by omega
    obtain ⟨O, M⟩ := P
    refine w_iload X D9_89 rfl ?_
    refine w_aloadN X D9_91 rfl rfl ?_
    refine w_getF X D9_92 (hw _ (List.mem_of_getElem? (i := 77) rfl)) O.2.2.2.2.2.2.2.2.2.2.2.2.2.2.1 (fun T1 X1 => ?_)
    refine w_icmpge X1 D9_95 (fun hc95 => ?_) (fun hc95 => by exact absurd hc95 (Int32.lt_irrefl))
    exact q _ _ X1 ⟨O, M⟩
  | succ r ih =>
    intro i T h hi X P q
    obtain ⟨O, M⟩ := P
    obtain ⟨b0, b1, b2, b3, b4, b5⟩ := I.ext hr.2.2 (show i < E by omega)
    have hci := hcn _ b0
    refine w_iload X D9_89 rfl ?_
    refine w_aloadN X D9_91 rfl rfl ?_
    refine w_getF X D9_92 (hw _ (List.mem_of_getElem? (i := 77) rfl)) O.2.2.2.2.2.2.2.2.2.2.2.2.2.2.1 (fun T1 X1 => ?_)
    refine w_icmpge X1 D9_95 (fun hc95 => by exact absurd ((ofNat_lt (by omega) (by omega)).mpr (by omega)) hc95) (fun hc95 => ?_)
    refine w_aloadN X1 D9_98 rfl rfl ?_
    refine w_aloadN X1 D9_99 rfl rfl ?_
    refine w_getF X1 D9_100 (hw _ (List.mem_of_getElem? (i := 14) rfl)) O.2.2.2.1 (fun T2 X2 => ?_)
    refine w_iload X2 D9_103 rfl ?_
    refine w_iaload X2 D9_105 (M.at 10 rfl) i rfl (by omega) ?_
    show Wp _ _ _ _ _ _ _ _ (mkF m 106 #[.val (.ref l0), .val (.ref a1), .val (.ref a2), .val (.int (Int32.ofNat g)), .val (.int (Int32.ofNat i)), .val (.int z5)] [(.int (Int32.ofNat ((S 1) i))), (.ref a2)])
    refine w_dup2 X2 D9_106 rfl rfl ?_
    refine w_laload X2 D9_107 (M.at (iy + 12) (set_self hLz)) ((S 1) i) rfl (by omega) ?_
    show Wp _ _ _ _ _ _ _ _ (mkF m 108 #[.val (.ref l0), .val (.ref a1), .val (.ref a2), .val (.int (Int32.ofNat g)), .val (.int (Int32.ofNat i)), .val (.int z5)] [(.long (Int64.ofNat ((PF S cn R (3 + i)) ((S 1) i)))), (.int (Int32.ofNat ((S 1) i))), (.ref a2)])
    refine w_aloadN X2 D9_108 rfl rfl ?_
    refine w_aloadN X2 D9_109 rfl rfl ?_
    refine w_getF X2 D9_110 (hw _ (List.mem_of_getElem? (i := 12) rfl)) O.2.2.1 (fun T3 X3 => ?_)
    refine w_iload X3 D9_113 rfl ?_
    refine w_iaload X3 D9_115 (M.at 11 rfl) i rfl (by omega) ?_
    show Wp _ _ _ _ _ _ _ _ (mkF m 116 #[.val (.ref l0), .val (.ref a1), .val (.ref a2), .val (.int (Int32.ofNat g)), .val (.int (Int32.ofNat i)), .val (.int z5)] [(.int (Int32.ofNat ((S 0) i))), (.ref a1), (.long (Int64.ofNat ((PF S cn R (3 + i)) ((S 1) i)))), (.int (Int32.ofNat ((S 1) i))), (.ref a2)])
    refine w_iaload X3 D9_116 (M.at (ix + 12) (set_ne hne hLx)) ((S 0) i) rfl (by omega) ?_
    show Wp _ _ _ _ _ _ _ _ (mkF m 117 #[.val (.ref l0), .val (.ref a1), .val (.ref a2), .val (.int (Int32.ofNat g)), .val (.int (Int32.ofNat i)), .val (.int z5)] [(.int (Int32.ofNat (cn ((S 0) i)))), (.long (Int64.ofNat ((PF S cn R (3 + i)) ((S 1) i)))), (.int (Int32.ofNat ((S 1) i))), (.ref a2)])
    refine w_aloadN X3 D9_117 rfl rfl ?_
    refine w_getF X3 D9_118 (hw _ (List.mem_of_getElem? (i := 18) rfl)) O.2.2.2.2.2.1 (fun T4 X4 => ?_)
    refine w_iload X4 D9_121 rfl ?_
    refine w_iaload X4 D9_123 (M.at 8 rfl) i rfl (by omega) ?_
    show Wp _ _ _ _ _ _ _ _ (mkF m 124 #[.val (.ref l0), .val (.ref a1), .val (.ref a2), .val (.int (Int32.ofNat g)), .val (.int (Int32.ofNat i)), .val (.int z5)] [(.int (Int32.ofNat ((S 3) i))), (.int (Int32.ofNat (cn ((S 0) i)))), (.long (Int64.ofNat ((PF S cn R (3 + i)) ((S 1) i)))), (.int (Int32.ofNat ((S 1) i))), (.ref a2)])
    refine w_iushr X4 D9_124 ?_
    rw [n_ushrU hci (show S 3 i < 32 by omega)]
    refine w_i2l X4 D9_125 ?_
    refine w_aloadN X4 D9_126 rfl rfl ?_
    refine w_getF X4 D9_127 (hw _ (List.mem_of_getElem? (i := 20) rfl)) O.2.2.2.2.2.2.1 (fun T5 X5 => ?_)
    refine w_iload X5 D9_130 rfl ?_
    refine w_laload X5 D9_132 (M.at 7 rfl) i rfl (by omega) ?_
    show Wp _ _ _ _ _ _ _ _ (mkF m 133 #[.val (.ref l0), .val (.ref a1), .val (.ref a2), .val (.int (Int32.ofNat g)), .val (.int (Int32.ofNat i)), .val (.int z5)] [(.long (Int64.ofNat (2 ^ ((S 4) i) - 1))), (.long ((Int32.ofNat (cn (S 0 i) / 2 ^ S 3 i)).toInt64)), (.long (Int64.ofNat ((PF S cn R (3 + i)) ((S 1) i)))), (.int (Int32.ofNat ((S 1) i))), (.ref a2)])
    refine w_land X5 D9_133 ?_
    rw [n_i2lmask (cn (S 0 i) / 2 ^ S 3 i) (show S 4 i ≤ 32 by omega)]
    refine w_aloadN X5 D9_134 rfl rfl ?_
    refine w_getF X5 D9_135 (hw _ (List.mem_of_getElem? (i := 16) rfl)) O.2.2.2.2.1 (fun T6 X6 => ?_)
    refine w_iload X6 D9_138 rfl ?_
    refine w_iaload X6 D9_140 (M.at 9 rfl) i rfl (by omega) ?_
    show Wp _ _ _ _ _ _ _ _ (mkF m 141 #[.val (.ref l0), .val (.ref a1), .val (.ref a2), .val (.int (Int32.ofNat g)), .val (.int (Int32.ofNat i)), .val (.int z5)] [(.int (Int32.ofNat ((S 2) i))), (.long (Int64.ofNat (cn (S 0 i) / 2 ^ S 3 i % 2 ^ S 4 i))), (.long (Int64.ofNat ((PF S cn R (3 + i)) ((S 1) i)))), (.int (Int32.ofNat ((S 1) i))), (.ref a2)])
    refine w_lshl X6 D9_141 ?_
    rw [nL_shl (cn (S 0 i) / 2 ^ S 3 i % 2 ^ S 4 i) (show S 2 i < 64 by omega)]
    refine w_lor X6 D9_142 ?_
    rw [nL_or]
    refine w_lastore X6 D9_143 (M.at (iy + 12) (set_self hLz)) ((S 1) i) rfl (by omega) (fun T7 h7 X7 K7 B7 => ?_)
    rw [upd_nJ] at B7
    have O_K7 := O.keepB hw (M.at (iy + 12) (set_self hLz)) K7
    have M7 := M.st (iy + 12) (set_self hLz) K7 B7
    refine w_iinc X7 D9_144 (d := (1 : Int32)) (r := (Int32.ofNat (i + 1))) (l' := #[.val (.ref l0), .val (.ref a1), .val (.ref a2), .val (.int (Int32.ofNat g)), .val (.int (Int32.ofNat (i + 1))), .val (.int z5)]) rfl rfl (n_add _ _) rfl ?_
    refine w_goto X7 D9_147 ?_
    have M9 : Mem Z n0 h7 (live ad S (cp E) (Lt.set iy (a2, .long, nr, bJ (nJ (PF S cn R (3 + (i + 1))))))) := by
      have z : Mem Z n0 h7 (live ad S (cp E) ((Lt.set iy (a2, .long, nr, bJ (nJ (PF S cn R (3 + i))))).set iy _)) := M7
      rw [List.set_set] at z
      rw [PF_ext]; exact z
    exact ih (i + 1) _ _ (by omega) X7 ⟨O_K7, M9⟩ q
theorem ef_9 (m : MethodId) (l0 : Addr) (a1 : Addr) (a2 : Addr) : entryFrame m #[(.ref l0), (.ref a1), (.ref a2)] 6 = mkF m 0 #[.val (.ref l0), .val (.ref a1), .val (.ref a2), .unset, .unset, .unset] [] := by first | (simp [entryFrame, mkF, argsToLocals, Value.category]; done) | rfl
theorem pn_9 : plainName "com/example/tokenfold/tokenfold/statespace/Packing" = true := by first | (simp [plainName, overriddenIn]; done) | decide +kernel
set_option maxRecDepth 65536 in
set_option maxHeartbeats 40000000 in
theorem rmPk {l : Launch} {Z : State} {a0 : Array Value} {n0 : Nat} {h : Heap} (hw : ∀ d ∈ tables_1, d.before a0 Z = true) (hn : n0 ≤ h.size) (l0 : Addr) (a1 : Addr) (a2 : Addr) (ad : Nat → Addr) (S : Nat → Nat → Nat) (E en rw nr : Nat) (cn R : Nat → Nat) (Lt : List Ent) (ix iy : Nat) (hLx : Lt[ix]? = some (a1, .int, 3, bI (nI cn))) (hne : ix ≠ iy) (hLy : Lt[iy]? = some (a2, .long, nr, bJ (nJ R))) (hnr : 3 ≤ nr) (hcn : ∀ s, s < 3 → cn s < 4294967296) (I : Inv S E en) (hE8 : E ≤ 8) (hr : 1 ≤ rw ∧ rw ≤ 3 ∧ en ≤ 64 * rw) (hnr2 : nr < 100) (P : PK Z n0 h l0 ad S E (cp E) en rw Lt) :
    Ctr l Z n0 (⟨"com/example/tokenfold/tokenfold/statespace/Packing", "pack", "([I[J)Z"⟩ : MethodName) prog_60_method_3_code 6 (some .boolean) ({ frames := 2, cells := 0, slots := 0, locals := 40 } : Room) [] #[(.ref l0), (.ref a1), (.ref a2)] h (fun v h' => v = some (.int (Int32.ofNat (okf S cn 3))) ∧ PK Z n0 h' l0 ad S E (cp E) en rw (Lt.set iy (a2, .long, nr, bJ (nJ (PF S cn (fun i => if i < rw then 0 else R i) (3 + E)))))) := by
  refine ctr_of (plainFor_of_name pn_9) hw hn ?_
  intro p e s m below meth c T X
  refine Wp.cast (ef_9 m l0 a1 a2) ?_
  obtain ⟨O, M⟩ := P
  refine w_aloadN X D9_0 rfl rfl ?_
  refine w_iconst X D9_1 (v := (0 : Int32)) rfl ?_
  refine w_aloadN X D9_2 rfl rfl ?_
  refine w_getF X D9_3 (hw _ (List.mem_of_getElem? (i := 59) rfl)) O.2.2.2.2.2.2.2.2.2.2.2.2.2.2.2.2 (fun T1 X1 => ?_)
  refine w_lconst0 X1 D9_6 ?_
  show Wp _ _ _ _ _ _ _ _ (mkF m 7 #[.val (.ref l0), .val (.ref a1), .val (.ref a2), .unset, .unset, .unset] [.long (Int64.ofNat 0), .int (Int32.ofNat rw), .int (Int32.ofNat 0), .ref a2])
  refine w_static X1 D9_7 (rmFJ hw X1.sz a2 _ _ _ nr rw R rfl rfl rfl (by omega) (by omega) (by omega) (M.at (iy + 12) hLy)) (hw _ (List.mem_of_getElem? (i := 71) rfl)) (hw _ (List.mem_of_getElem? (i := 72) rfl)) (hw _ (List.mem_of_getElem? (i := 38) rfl)) (hw _ (List.mem_of_getElem? (i := 73) rfl)) (by decide) pd_10 rfl (S := []) rfl rfl (Nat.le_of_ble_eq_true rfl) (Nat.le_of_ble_eq_true rfl) (Nat.le_of_ble_eq_true rfl) (Nat.le_of_ble_eq_true rfl) (fun v2 T2 h2 X2 q2 => ?_)
  obtain ⟨rfl, K2, B2⟩ := q2
  have O9 := O.keepB hw (M.at (iy + 12) hLy) K2
  have M9 : Mem Z n0 h2 (live ad S (cp E) (Lt.set iy (a2, .long, nr, bJ (nJ (PF S cn (fun i => if i < rw then 0 else R i) 0))))) := M.st (iy + 12) hLy K2 B2
  show Wp _ _ _ _ _ _ _ _ (mkF m 10 #[.val (.ref l0), .val (.ref a1), .val (.ref a2), .unset, .unset, .unset] [])
  refine w_iconst X2 D9_10 (v := (1 : Int32)) rfl ?_
  refine w_istoreN X2 D9_11 (l' := #[.val (.ref l0), .val (.ref a1), .val (.ref a2), .val (.int (1 : Int32)), .unset, .unset]) rfl ?_
  refine w_iconst X2 D9_12 (v := (0 : Int32)) rfl ?_
  refine w_istore X2 D9_13 (l' := #[.val (.ref l0), .val (.ref a1), .val (.ref a2), .val (.int (1 : Int32)), .val (.int (0 : Int32)), .unset]) rfl ?_
  show Wp _ _ _ _ _ _ _ _ (mkF m 15 #[.val (.ref l0), .val (.ref a1), .val (.ref a2), .val (.int (Int32.ofNat (okf S cn 0))), .val (.int (Int32.ofNat 0)), .unset] [])
  refine pkT hw X2 l0 a1 a2 ad S E en rw nr cn (fun i => if i < rw then 0 else R i) Lt ix iy hLx hne ⟨_, hLy⟩ hnr hcn I hE8 hr 0 (by decide) _ One.u ⟨O9, M9⟩ (fun T50 h50 z50 X50 P50 => ?_)
  refine pkT hw X50 l0 a1 a2 ad S E en rw nr cn (fun i => if i < rw then 0 else R i) Lt ix iy hLx hne ⟨_, hLy⟩ hnr hcn I hE8 hr 1 (by decide) _ (One.val rfl) P50 (fun T51 h51 z51 X51 P51 => ?_)
  refine pkT hw X51 l0 a1 a2 ad S E en rw nr cn (fun i => if i < rw then 0 else R i) Lt ix iy hLx hne ⟨_, hLy⟩ hnr hcn I hE8 hr 2 (by decide) _ (One.val rfl) P51 (fun T52 h52 z52 X52 P52 => ?_)
  obtain ⟨O, M⟩ := P52
  refine w_iload X52 D9_15 rfl ?_
  refine w_aloadN X52 D9_17 rfl rfl ?_
  refine w_arraylength X52 D9_18 (M.at (ix + 12) (set_ne hne hLx)) ?_
  refine w_icmpge X52 D9_19 (fun hc19 => ?_) (fun hc19 => by exact absurd hc19 (by decide))
  refine w_iconst X52 D9_86 (v := (0 : Int32)) rfl ?_
  show Wp _ _ _ _ _ _ _ _ (mkF m 87 #[.val (.ref l0), .val (.ref a1), .val (.ref a2), .val (.int (Int32.ofNat (okf S cn (2 + 1)))), .val (.int (Int32.ofNat (2 + 1))), .val (.int z52)] [.int (Int32.ofNat 0)])
  refine w_istore X52 D9_87 (l' := #[.val (.ref l0), .val (.ref a1), .val (.ref a2), .val (.int (Int32.ofNat (okf S cn (2 + 1)))), .val (.int (Int32.ofNat 0)), .val (.int z52)]) rfl ?_
  refine pxL hw l0 a1 a2 ad S E en rw nr cn (fun i => if i < rw then 0 else R i) Lt ix iy hLx hne ⟨_, hLy⟩ hnr hcn I hE8 hr (okf S cn 3) z52 E 0 _ _ (by omega) X52 ⟨O, M⟩ (fun T90 h90 X90 P90 => ?_)
  refine w_iloadN X90 D9_150 rfl ?_
  exact w_zreturn X90 D9_151 (by decide) (by decide) (⟨by rcases okf01 S cn 3 with h | h <;> rw [h] <;> rfl, P90⟩)
-- CUT
set_option maxRecDepth 65536 in
set_option maxHeartbeats 40000000 in
theorem upT {Z : State} {a0 : Array Value} {n0 : Nat} {p : Program} {l : Launch} {e : Env} {RR : Room} {s : State} {m : MethodId} {args : Array Value} {below : List Frame} {meth : Method} {c : Code} {T : State} {h : Heap} {k j : Nat} {Q : Option Value → Heap → Prop} (hw : ∀ d ∈ tables_1, d.before a0 Z = true) (X : Pos Z a0 n0 p l e RR s m args below meth c prog_60_method_5_code 7 none (⟨"com/example/tokenfold/tokenfold/statespace/Packing", "unpack", "([JI[I)V"⟩ : MethodName) T h k j) (l0 a2 a3 : Addr) (ad : Nat → Addr) (S : Nat → Nat → Nat) (E en rw nr off : Nat) (R : Nat → Nat) (g : Nat → Int32) (Lt : List Ent) (iy iz : Nat) (hLy : Lt[iy]? = some (a2, .long, nr, bJ (nJ R))) (hne : iy ≠ iz) (hLz : ∃ z, Lt[iz]? = some z) (hR : ∀ i, R i < 18446744073709551616) (hnr : off + 3 ≤ nr) (hnr2 : nr < 100) (I : Inv S E en) (hE8 : E ≤ 8) (hr : 1 ≤ rw ∧ rw ≤ 3 ∧ en ≤ 64 * rw) (i : Nat) (hi : i < 3) (P : PK Z n0 h l0 ad S E (cp E) en rw (Lt.set iz (a3, .int, 3, bI (ub S R off g (i))))) (q : ∀ T' h', Pos Z a0 n0 p l e RR s m args below meth c prog_60_method_5_code 7 none (⟨"com/example/tokenfold/tokenfold/statespace/Packing", "unpack", "([JI[I)V"⟩ : MethodName) T' h' k j → PK Z n0 h' l0 ad S E (cp E) en rw (Lt.set iz (a3, .int, 3, bI (ub S R off g (i + 1)))) → Wp n0 p e RR s below Q T' (mkF m 3 #[.val (.ref l0), .val (.ref a2), .val (.int (Int32.ofNat off)), .val (.ref a3), .val (.int (Int32.ofNat (i + 1))), .unset, .unset] [])) : Wp n0 p e RR s below Q T (mkF m 3 #[.val (.ref l0), .val (.ref a2), .val (.int (Int32.ofNat off)), .val (.ref a3), .val (.int (Int32.ofNat i)), .unset, .unset] []) := by
  obtain ⟨O, M⟩ := P
  obtain ⟨zz, hLq⟩ := hLz
  obtain ⟨b1, b2, b3, b4, b5, b6⟩ := I.base hr.2.2 hi
  refine w_iload X D13_3 rfl ?_
  refine w_aloadN X D13_5 rfl rfl ?_
  refine w_arraylength X D13_6 (M.at (iz + 12) (set_self hLq)) ?_
  refine w_icmpge X D13_7 (fun hc7 => by exact absurd ((ofNat_lt (by omega) (by decide)).mpr hi) hc7) (fun hc7 => ?_)
  refine w_aloadN X D13_10 rfl rfl ?_
  refine w_iload X D13_11 rfl ?_
  refine w_aloadN X D13_13 rfl rfl ?_
  refine w_iloadN X D13_14 rfl ?_
  refine w_aloadN X D13_15 rfl rfl ?_
  refine w_getF X D13_16 (hw _ (List.mem_of_getElem? (i := 24) rfl)) O.2.2.2.2.2.2.2.2.1 (fun T1 X1 => ?_)
  refine w_iload X1 D13_19 rfl ?_
  refine w_iaload X1 D13_21 (M.at 5 rfl) i rfl (by omega) ?_
  show Wp _ _ _ _ _ _ _ _ (mkF m 22 #[.val (.ref l0), .val (.ref a2), .val (.int (Int32.ofNat off)), .val (.ref a3), .val (.int (Int32.ofNat i)), .unset, .unset] [(.int (Int32.ofNat ((S 6) i))), (.int (Int32.ofNat off)), (.ref a2), (.int (Int32.ofNat i)), (.ref a3)])
  refine w_iadd X1 D13_22 ?_
  rw [n_add]
  refine w_laload X1 D13_23 (M.at (iy + 12) (set_ne hne hLy)) (off + S 6 i) rfl (by omega) ?_
  show Wp _ _ _ _ _ _ _ _ (mkF m 24 #[.val (.ref l0), .val (.ref a2), .val (.int (Int32.ofNat off)), .val (.ref a3), .val (.int (Int32.ofNat i)), .unset, .unset] [(.long (Int64.ofNat (R (off + S 6 i)))), (.int (Int32.ofNat i)), (.ref a3)])
  refine w_aloadN X1 D13_24 rfl rfl ?_
  refine w_getF X1 D13_25 (hw _ (List.mem_of_getElem? (i := 26) rfl)) O.2.2.2.2.2.2.2.2.2.1 (fun T2 X2 => ?_)
  refine w_iload X2 D13_28 rfl ?_
  refine w_iaload X2 D13_30 (M.at 4 rfl) i rfl (by omega) ?_
  show Wp _ _ _ _ _ _ _ _ (mkF m 31 #[.val (.ref l0), .val (.ref a2), .val (.int (Int32.ofNat off)), .val (.ref a3), .val (.int (Int32.ofNat i)), .unset, .unset] [(.int (Int32.ofNat ((S 7) i))), (.long (Int64.ofNat (R (off + S 6 i)))), (.int (Int32.ofNat i)), (.ref a3)])
  refine w_lushr X2 D13_31 ?_
  rw [nL_ushrU (hR _) (show S 7 i < 64 by omega)]
  refine w_aloadN X2 D13_32 rfl rfl ?_
  refine w_getF X2 D13_33 (hw _ (List.mem_of_getElem? (i := 28) rfl)) O.2.2.2.2.2.2.2.2.2.2.1 (fun T3 X3 => ?_)
  refine w_iload X3 D13_36 rfl ?_
  refine w_laload X3 D13_38 (M.at 3 rfl) i rfl (by omega) ?_
  show Wp _ _ _ _ _ _ _ _ (mkF m 39 #[.val (.ref l0), .val (.ref a2), .val (.int (Int32.ofNat off)), .val (.ref a3), .val (.int (Int32.ofNat i)), .unset, .unset] [(.long (Int64.ofNat (2 ^ ((S 8) i) - 1))), (.long (Int64.ofNat (R (off + S 6 i) / 2 ^ S 7 i))), (.int (Int32.ofNat i)), (.ref a3)])
  refine w_land X3 D13_39 ?_
  rw [nL_low]
  refine w_l2i X3 D13_40 ?_
  rw [n_l2i]
  refine w_iastore X3 D13_41 (M.at (iz + 12) (set_self hLq)) i rfl (by omega) (fun T4 h4 X4 K4 B4 => ?_)
  have O_K4 := O.keepB hw (M.at (iz + 12) (set_self hLq)) K4
  have M4 := M.st (iz + 12) (set_self hLq) K4 B4
  refine w_iinc X4 D13_42 (d := (1 : Int32)) (r := (Int32.ofNat (i + 1))) (l' := #[.val (.ref l0), .val (.ref a2), .val (.int (Int32.ofNat off)), .val (.ref a3), .val (.int (Int32.ofNat (i + 1))), .unset, .unset]) rfl rfl (n_add _ _) rfl ?_
  refine w_goto X4 D13_45 ?_
  have M9 : Mem Z n0 h4 (live ad S (cp E) (Lt.set iz (a3, .int, 3, bI (ub S R off g (i + 1))))) := by
    have z : Mem Z n0 h4 (live ad S (cp E) ((Lt.set iz (a3, .int, 3, bI (ub S R off g (i)))).set iz _)) := M4
    rw [List.set_set] at z
    exact z
  exact q _ _ X4 ⟨O_K4, M9⟩
set_option maxRecDepth 65536 in
set_option maxHeartbeats 40000000 in
theorem uxL {Z : State} {a0 : Array Value} {n0 : Nat} {p : Program} {l : Launch} {e : Env} {RR : Room} {s : State} {m : MethodId} {args : Array Value} {below : List Frame} {meth : Method} {c : Code} {k j : Nat} {Q : Option Value → Heap → Prop} (hw : ∀ d ∈ tables_1, d.before a0 Z = true) (l0 a2 a3 : Addr) (ad : Nat → Addr) (S : Nat → Nat → Nat) (E en rw nr off : Nat) (R : Nat → Nat) (g : Nat → Int32) (Lt : List Ent) (iy iz : Nat) (hLy : Lt[iy]? = some (a2, .long, nr, bJ (nJ R))) (hne : iy ≠ iz) (hLz : ∃ z, Lt[iz]? = some z) (hR : ∀ i, R i < 18446744073709551616) (hnr : off + 3 ≤ nr) (hnr2 : nr < 100) (I : Inv S E en) (hE8 : E ≤ 8) (hr : 1 ≤ rw ∧ rw ≤ 3 ∧ en ≤ 64 * rw) (hk : k ≤ RR.cells) (hj : j ≤ RR.slots) (q : ∀ h', PK Z n0 h' l0 ad S E (cp E) en rw (Lt.set iz (a3, .int, 3, bI (nI (UF S R off (3 + E))))) → Q none h') : ∀ r i (T : State) (h : Heap) (s5 s6 : Slot), ((s5 = .unset ∧ s6 = .unset) ∨ ∃ z : Int64, s5 = .val (.long z) ∧ s6 = .second) → i + r = E → Pos Z a0 n0 p l e RR s m args below meth c prog_60_method_5_code 7 none (⟨"com/example/tokenfold/tokenfold/statespace/Packing", "unpack", "([JI[I)V"⟩ : MethodName) T h k j → PK Z n0 h l0 ad S E (cp E) en rw (Lt.set iz (a3, .int, 3, bI (nI (UF S R off (3 + i))))) → Wp n0 p e RR s below Q T (mkF m 51 #[.val (.ref l0), .val (.ref a2), .val (.int (Int32.ofNat off)), .val (.ref a3), .val (.int (Int32.ofNat i)), s5, s6] []) := by
  obtain ⟨zz, hLq⟩ := hLz
  have hcp := cp_le hE8
  intro r
  induction r with
  | zero =>
    intro i T h s5 s6 hs hi X P
    obtain rfl : i = E := by omega
    obtain ⟨O, M⟩ := P
    refine w_iload X D13_51 rfl ?_
    refine w_aloadN X D13_53 rfl rfl ?_
    refine w_getF X D13_54 (hw _ (List.mem_of_getElem? (i := 77) rfl)) O.2.2.2.2.2.2.2.2.2.2.2.2.2.2.1 (fun T1 X1 => ?_)
    refine w_icmpge X1 D13_57 (fun hc57 => ?_) (fun hc57 => by exact absurd hc57 (Int32.lt_irrefl))
    exact w_return X1 D13_118 hk hj (q _ ⟨O, M⟩)
  | succ r ih =>
    intro i T h s5 s6 hs hi X P
    obtain ⟨O, M⟩ := P
    obtain ⟨b0, b1, b2, b3, b4, b5⟩ := I.ext hr.2.2 (show i < E by omega)
    rcases hs with ⟨rfl, rfl⟩ | ⟨z5, rfl, rfl⟩
    · refine w_iload X D13_51 rfl ?_
      refine w_aloadN X D13_53 rfl rfl ?_
      refine w_getF X D13_54 (hw _ (List.mem_of_getElem? (i := 77) rfl)) O.2.2.2.2.2.2.2.2.2.2.2.2.2.2.1 (fun T1 X1 => ?_)
      refine w_icmpge X1 D13_57 (fun hc57 => by exact absurd ((ofNat_lt (by omega) (by omega)).mpr (by omega)) hc57) (fun hc57 => ?_)
      refine w_aloadN X1 D13_60 rfl rfl ?_
      refine w_iloadN X1 D13_61 rfl ?_
      refine w_aloadN X1 D13_62 rfl rfl ?_
      refine w_getF X1 D13_63 (hw _ (List.mem_of_getElem? (i := 14) rfl)) O.2.2.2.1 (fun T2 X2 => ?_)
      refine w_iload X2 D13_66 rfl ?_
      refine w_iaload X2 D13_68 (M.at 10 rfl) i rfl (by omega) ?_
      show Wp _ _ _ _ _ _ _ _ (mkF m 69 #[.val (.ref l0), .val (.ref a2), .val (.int (Int32.ofNat off)), .val (.ref a3), .val (.int (Int32.ofNat i)), .unset, .unset] [(.int (Int32.ofNat ((S 1) i))), (.int (Int32.ofNat off)), (.ref a2)])
      refine w_iadd X2 D13_69 ?_
      rw [n_add]
      refine w_laload X2 D13_70 (M.at (iy + 12) (set_ne hne hLy)) (off + S 1 i) rfl (by omega) ?_
      show Wp _ _ _ _ _ _ _ _ (mkF m 71 #[.val (.ref l0), .val (.ref a2), .val (.int (Int32.ofNat off)), .val (.ref a3), .val (.int (Int32.ofNat i)), .unset, .unset] [(.long (Int64.ofNat (R (off + S 1 i))))])
      refine w_lstore X2 D13_71 (l' := #[.val (.ref l0), .val (.ref a2), .val (.int (Int32.ofNat off)), .val (.ref a3), .val (.int (Int32.ofNat i)), .val (.long (Int64.ofNat (R (off + S 1 i)))), .second]) rfl ?_
      refine w_aloadN X2 D13_73 rfl rfl ?_
      refine w_aloadN X2 D13_74 rfl rfl ?_
      refine w_getF X2 D13_75 (hw _ (List.mem_of_getElem? (i := 12) rfl)) O.2.2.1 (fun T3 X3 => ?_)
      refine w_iload X3 D13_78 rfl ?_
      refine w_iaload X3 D13_80 (M.at 11 rfl) i rfl (by omega) ?_
      show Wp _ _ _ _ _ _ _ _ (mkF m 81 #[.val (.ref l0), .val (.ref a2), .val (.int (Int32.ofNat off)), .val (.ref a3), .val (.int (Int32.ofNat i)), .val (.long (Int64.ofNat (R (off + S 1 i)))), .second] [(.int (Int32.ofNat ((S 0) i))), (.ref a3)])
      refine w_dup2 X3 D13_81 rfl rfl ?_
      refine w_iaload X3 D13_82 (M.at (iz + 12) (set_self hLq)) ((S 0) i) rfl (by omega) ?_
      show Wp _ _ _ _ _ _ _ _ (mkF m 83 #[.val (.ref l0), .val (.ref a2), .val (.int (Int32.ofNat off)), .val (.ref a3), .val (.int (Int32.ofNat i)), .val (.long (Int64.ofNat (R (off + S 1 i)))), .second] [(.int (Int32.ofNat ((UF S R off (3 + i)) ((S 0) i)))), (.int (Int32.ofNat ((S 0) i))), (.ref a3)])
      refine w_lload X3 D13_83 rfl ?_
      refine w_aloadN X3 D13_85 rfl rfl ?_
      refine w_getF X3 D13_86 (hw _ (List.mem_of_getElem? (i := 16) rfl)) O.2.2.2.2.1 (fun T4 X4 => ?_)
      refine w_iload X4 D13_89 rfl ?_
      refine w_iaload X4 D13_91 (M.at 9 rfl) i rfl (by omega) ?_
      show Wp _ _ _ _ _ _ _ _ (mkF m 92 #[.val (.ref l0), .val (.ref a2), .val (.int (Int32.ofNat off)), .val (.ref a3), .val (.int (Int32.ofNat i)), .val (.long (Int64.ofNat (R (off + S 1 i)))), .second] [(.int (Int32.ofNat ((S 2) i))), (.long (Int64.ofNat (R (off + S 1 i)))), (.int (Int32.ofNat ((UF S R off (3 + i)) ((S 0) i)))), (.int (Int32.ofNat ((S 0) i))), (.ref a3)])
      refine w_lushr X4 D13_92 ?_
      rw [nL_ushrU (hR _) (show S 2 i < 64 by omega)]
      refine w_aloadN X4 D13_93 rfl rfl ?_
      refine w_getF X4 D13_94 (hw _ (List.mem_of_getElem? (i := 20) rfl)) O.2.2.2.2.2.2.1 (fun T5 X5 => ?_)
      refine w_iload X5 D13_97 rfl ?_
      refine w_laload X5 D13_99 (M.at 7 rfl) i rfl (by omega) ?_
      show Wp _ _ _ _ _ _ _ _ (mkF m 100 #[.val (.ref l0), .val (.ref a2), .val (.int (Int32.ofNat off)), .val (.ref a3), .val (.int (Int32.ofNat i)), .val (.long (Int64.ofNat (R (off + S 1 i)))), .second] [(.long (Int64.ofNat (2 ^ ((S 4) i) - 1))), (.long (Int64.ofNat (R (off + S 1 i) / 2 ^ S 2 i))), (.int (Int32.ofNat ((UF S R off (3 + i)) ((S 0) i)))), (.int (Int32.ofNat ((S 0) i))), (.ref a3)])
      refine w_land X5 D13_100 ?_
      rw [nL_low]
      refine w_l2i X5 D13_101 ?_
      rw [n_l2i]
      refine w_aloadN X5 D13_102 rfl rfl ?_
      refine w_getF X5 D13_103 (hw _ (List.mem_of_getElem? (i := 18) rfl)) O.2.2.2.2.2.1 (fun T6 X6 => ?_)
      refine w_iload X6 D13_106 rfl ?_
      refine w_iaload X6 D13_108 (M.at 8 rfl) i rfl (by omega) ?_
      show Wp _ _ _ _ _ _ _ _ (mkF m 109 #[.val (.ref l0), .val (.ref a2), .val (.int (Int32.ofNat off)), .val (.ref a3), .val (.int (Int32.ofNat i)), .val (.long (Int64.ofNat (R (off + S 1 i)))), .second] [(.int (Int32.ofNat ((S 3) i))), (.int (Int32.ofNat (R (off + S 1 i) / 2 ^ S 2 i % 2 ^ S 4 i))), (.int (Int32.ofNat ((UF S R off (3 + i)) ((S 0) i)))), (.int (Int32.ofNat ((S 0) i))), (.ref a3)])
      refine w_ishl X6 D13_109 ?_
      rw [n_shl (R (off + S 1 i) / 2 ^ S 2 i % 2 ^ S 4 i) (show S 3 i < 32 by omega)]
      refine w_ior X6 D13_110 ?_
      rw [n_or]
      refine w_iastore X6 D13_111 (M.at (iz + 12) (set_self hLq)) ((S 0) i) rfl (by omega) (fun T7 h7 X7 K7 B7 => ?_)
      rw [upd_nI] at B7
      have O_K7 := O.keepB hw (M.at (iz + 12) (set_self hLq)) K7
      have M7 := M.st (iz + 12) (set_self hLq) K7 B7
      refine w_iinc X7 D13_112 (d := (1 : Int32)) (r := (Int32.ofNat (i + 1))) (l' := #[.val (.ref l0), .val (.ref a2), .val (.int (Int32.ofNat off)), .val (.ref a3), .val (.int (Int32.ofNat (i + 1))), .val (.long (Int64.ofNat (R (off + S 1 i)))), .second]) rfl rfl (n_add _ _) rfl ?_
      refine w_goto X7 D13_115 ?_
      have M9 : Mem Z n0 h7 (live ad S (cp E) (Lt.set iz (a3, .int, 3, bI (nI (UF S R off (3 + (i + 1))))))) := by
        have z : Mem Z n0 h7 (live ad S (cp E) ((Lt.set iz (a3, .int, 3, bI (nI (UF S R off (3 + i))))).set iz _)) := M7
        rw [List.set_set] at z
        rw [UF_ext]; exact z
      exact ih (i + 1) _ _ _ _ (Or.inr ⟨_, rfl, rfl⟩) (by omega) X7 ⟨O_K7, M9⟩
    · refine w_iload X D13_51 rfl ?_
      refine w_aloadN X D13_53 rfl rfl ?_
      refine w_getF X D13_54 (hw _ (List.mem_of_getElem? (i := 77) rfl)) O.2.2.2.2.2.2.2.2.2.2.2.2.2.2.1 (fun T1 X1 => ?_)
      refine w_icmpge X1 D13_57 (fun hc57 => by exact absurd ((ofNat_lt (by omega) (by omega)).mpr (by omega)) hc57) (fun hc57 => ?_)
      refine w_aloadN X1 D13_60 rfl rfl ?_
      refine w_iloadN X1 D13_61 rfl ?_
      refine w_aloadN X1 D13_62 rfl rfl ?_
      refine w_getF X1 D13_63 (hw _ (List.mem_of_getElem? (i := 14) rfl)) O.2.2.2.1 (fun T2 X2 => ?_)
      refine w_iload X2 D13_66 rfl ?_
      refine w_iaload X2 D13_68 (M.at 10 rfl) i rfl (by omega) ?_
      show Wp _ _ _ _ _ _ _ _ (mkF m 69 #[.val (.ref l0), .val (.ref a2), .val (.int (Int32.ofNat off)), .val (.ref a3), .val (.int (Int32.ofNat i)), .val (.long z5), .second] [(.int (Int32.ofNat ((S 1) i))), (.int (Int32.ofNat off)), (.ref a2)])
      refine w_iadd X2 D13_69 ?_
      rw [n_add]
      refine w_laload X2 D13_70 (M.at (iy + 12) (set_ne hne hLy)) (off + S 1 i) rfl (by omega) ?_
      show Wp _ _ _ _ _ _ _ _ (mkF m 71 #[.val (.ref l0), .val (.ref a2), .val (.int (Int32.ofNat off)), .val (.ref a3), .val (.int (Int32.ofNat i)), .val (.long z5), .second] [(.long (Int64.ofNat (R (off + S 1 i))))])
      refine w_lstore X2 D13_71 (l' := #[.val (.ref l0), .val (.ref a2), .val (.int (Int32.ofNat off)), .val (.ref a3), .val (.int (Int32.ofNat i)), .val (.long (Int64.ofNat (R (off + S 1 i)))), .second]) rfl ?_
      refine w_aloadN X2 D13_73 rfl rfl ?_
      refine w_aloadN X2 D13_74 rfl rfl ?_
      refine w_getF X2 D13_75 (hw _ (List.mem_of_getElem? (i := 12) rfl)) O.2.2.1 (fun T3 X3 => ?_)
      refine w_iload X3 D13_78 rfl ?_
      refine w_iaload X3 D13_80 (M.at 11 rfl) i rfl (by omega) ?_
      show Wp _ _ _ _ _ _ _ _ (mkF m 81 #[.val (.ref l0), .val (.ref a2), .val (.int (Int32.ofNat off)), .val (.ref a3), .val (.int (Int32.ofNat i)), .val (.long (Int64.ofNat (R (off + S 1 i)))), .second] [(.int (Int32.ofNat ((S 0) i))), (.ref a3)])
      refine w_dup2 X3 D13_81 rfl rfl ?_
      refine w_iaload X3 D13_82 (M.at (iz + 12) (set_self hLq)) ((S 0) i) rfl (by omega) ?_
      show Wp _ _ _ _ _ _ _ _ (mkF m 83 #[.val (.ref l0), .val (.ref a2), .val (.int (Int32.ofNat off)), .val (.ref a3), .val (.int (Int32.ofNat i)), .val (.long (Int64.ofNat (R (off + S 1 i)))), .second] [(.int (Int32.ofNat ((UF S R off (3 + i)) ((S 0) i)))), (.int (Int32.ofNat ((S 0) i))), (.ref a3)])
      refine w_lload X3 D13_83 rfl ?_
      refine w_aloadN X3 D13_85 rfl rfl ?_
      refine w_getF X3 D13_86 (hw _ (List.mem_of_getElem? (i := 16) rfl)) O.2.2.2.2.1 (fun T4 X4 => ?_)
      refine w_iload X4 D13_89 rfl ?_
      refine w_iaload X4 D13_91 (M.at 9 rfl) i rfl (by omega) ?_
      show Wp _ _ _ _ _ _ _ _ (mkF m 92 #[.val (.ref l0), .val (.ref a2), .val (.int (Int32.ofNat off)), .val (.ref a3), .val (.int (Int32.ofNat i)), .val (.long (Int64.ofNat (R (off + S 1 i)))), .second] [(.int (Int32.ofNat ((S 2) i))), (.long (Int64.ofNat (R (off + S 1 i)))), (.int (Int32.ofNat ((UF S R off (3 + i)) ((S 0) i)))), (.int (Int32.ofNat ((S 0) i))), (.ref a3)])
      refine w_lushr X4 D13_92 ?_
      rw [nL_ushrU (hR _) (show S 2 i < 64 by omega)]
      refine w_aloadN X4 D13_93 rfl rfl ?_
      refine w_getF X4 D13_94 (hw _ (List.mem_of_getElem? (i := 20) rfl)) O.2.2.2.2.2.2.1 (fun T5 X5 => ?_)
      refine w_iload X5 D13_97 rfl ?_
      refine w_laload X5 D13_99 (M.at 7 rfl) i rfl (by omega) ?_
      show Wp _ _ _ _ _ _ _ _ (mkF m 100 #[.val (.ref l0), .val (.ref a2), .val (.int (Int32.ofNat off)), .val (.ref a3), .val (.int (Int32.ofNat i)), .val (.long (Int64.ofNat (R (off + S 1 i)))), .second] [(.long (Int64.ofNat (2 ^ ((S 4) i) - 1))), (.long (Int64.ofNat (R (off + S 1 i) / 2 ^ S 2 i))), (.int (Int32.ofNat ((UF S R off (3 + i)) ((S 0) i)))), (.int (Int32.ofNat ((S 0) i))), (.ref a3)])
      refine w_land X5 D13_100 ?_
      rw [nL_low]
      refine w_l2i X5 D13_101 ?_
      rw [n_l2i]
      refine w_aloadN X5 D13_102 rfl rfl ?_
      refine w_getF X5 D13_103 (hw _ (List.mem_of_getElem? (i := 18) rfl)) O.2.2.2.2.2.1 (fun T6 X6 => ?_)
      refine w_iload X6 D13_106 rfl ?_
      refine w_iaload X6 D13_108 (M.at 8 rfl) i rfl (by omega) ?_
      show Wp _ _ _ _ _ _ _ _ (mkF m 109 #[.val (.ref l0), .val (.ref a2), .val (.int (Int32.ofNat off)), .val (.ref a3), .val (.int (Int32.ofNat i)), .val (.long (Int64.ofNat (R (off + S 1 i)))), .second] [(.int (Int32.ofNat ((S 3) i))), (.int (Int32.ofNat (R (off + S 1 i) / 2 ^ S 2 i % 2 ^ S 4 i))), (.int (Int32.ofNat ((UF S R off (3 + i)) ((S 0) i)))), (.int (Int32.ofNat ((S 0) i))), (.ref a3)])
      refine w_ishl X6 D13_109 ?_
      rw [n_shl (R (off + S 1 i) / 2 ^ S 2 i % 2 ^ S 4 i) (show S 3 i < 32 by omega)]
      refine w_ior X6 D13_110 ?_
      rw [n_or]
      refine w_iastore X6 D13_111 (M.at (iz + 12) (set_self hLq)) ((S 0) i) rfl (by omega) (fun T7 h7 X7 K7 B7 => ?_)
      rw [upd_nI] at B7
      have O_K7 := O.keepB hw (M.at (iz + 12) (set_self hLq)) K7
      have M7 := M.st (iz + 12) (set_self hLq) K7 B7
      refine w_iinc X7 D13_112 (d := (1 : Int32)) (r := (Int32.ofNat (i + 1))) (l' := #[.val (.ref l0), .val (.ref a2), .val (.int (Int32.ofNat off)), .val (.ref a3), .val (.int (Int32.ofNat (i + 1))), .val (.long (Int64.ofNat (R (off + S 1 i)))), .second]) rfl rfl (n_add _ _) rfl ?_
      refine w_goto X7 D13_115 ?_
      have M9 : Mem Z n0 h7 (live ad S (cp E) (Lt.set iz (a3, .int, 3, bI (nI (UF S R off (3 + (i + 1))))))) := by
        have z : Mem Z n0 h7 (live ad S (cp E) ((Lt.set iz (a3, .int, 3, bI (nI (UF S R off (3 + i))))).set iz _)) := M7
        rw [List.set_set] at z
        rw [UF_ext]; exact z
      exact ih (i + 1) _ _ _ _ (Or.inr ⟨_, rfl, rfl⟩) (by omega) X7 ⟨O_K7, M9⟩
theorem ef_13 (m : MethodId) (l0 : Addr) (a2 : Addr) (x2 : Int32) (a3 : Addr) : entryFrame m #[(.ref l0), (.ref a2), (.int x2), (.ref a3)] 7 = mkF m 0 #[.val (.ref l0), .val (.ref a2), .val (.int x2), .val (.ref a3), .unset, .unset, .unset] [] := by first | (simp [entryFrame, mkF, argsToLocals, Value.category]; done) | rfl
theorem pn_13 : plainName "com/example/tokenfold/tokenfold/statespace/Packing" = true := by first | (simp [plainName, overriddenIn]; done) | decide +kernel
set_option maxRecDepth 65536 in
set_option maxHeartbeats 40000000 in
theorem rmU {l : Launch} {Z : State} {a0 : Array Value} {n0 : Nat} {h : Heap} (hw : ∀ d ∈ tables_1, d.before a0 Z = true) (hn : n0 ≤ h.size) (l0 : Addr) (a2 : Addr) (x2 : Int32) (a3 : Addr) (ad : Nat → Addr) (S : Nat → Nat → Nat) (E en rw nr off : Nat) (R : Nat → Nat) (g : Nat → Int32) (Lt : List Ent) (iy iz : Nat) (hLy : Lt[iy]? = some (a2, .long, nr, bJ (nJ R))) (hne : iy ≠ iz) (hLz : Lt[iz]? = some (a3, .int, 3, bI g)) (hR : ∀ i, R i < 18446744073709551616) (hnr : off + 3 ≤ nr) (hnr2 : nr < 100) (I : Inv S E en) (hE8 : E ≤ 8) (hr : 1 ≤ rw ∧ rw ≤ 3 ∧ en ≤ 64 * rw) (e2 : x2 = Int32.ofNat off) (P : PK Z n0 h l0 ad S E (cp E) en rw Lt) :
    Ctr l Z n0 (⟨"com/example/tokenfold/tokenfold/statespace/Packing", "unpack", "([JI[I)V"⟩ : MethodName) prog_60_method_5_code 7 none ({ frames := 0, cells := 0, slots := 0, locals := 0 } : Room) [] #[(.ref l0), (.ref a2), (.int x2), (.ref a3)] h (fun v h' => v = none ∧ PK Z n0 h' l0 ad S E (cp E) en rw (Lt.set iz (a3, .int, 3, bI (nI (UF S R off (3 + E)))))) := by
  refine ctr_of (plainFor_of_name pn_13) hw hn ?_
  intro p e s m below meth c T X
  refine Wp.cast (ef_13 m l0 a2 x2 a3) ?_
  subst e2
  rw [← set_id hLz] at P
  refine w_iconst X D13_0 (v := (0 : Int32)) rfl ?_
  refine w_istore X D13_1 (l' := #[.val (.ref l0), .val (.ref a2), .val (.int (Int32.ofNat off)), .val (.ref a3), .val (.int (0 : Int32)), .unset, .unset]) rfl ?_
  show Wp _ _ _ _ _ _ _ _ (mkF m 3 #[.val (.ref l0), .val (.ref a2), .val (.int (Int32.ofNat off)), .val (.ref a3), .val (.int (Int32.ofNat 0)), .unset, .unset] [])
  refine upT hw X l0 a2 a3 ad S E en rw nr off R g Lt iy iz hLy hne ⟨_, hLz⟩ hR hnr hnr2 I hE8 hr 0 (by decide) P (fun T50 h50 X50 P50 => ?_)
  refine upT hw X50 l0 a2 a3 ad S E en rw nr off R g Lt iy iz hLy hne ⟨_, hLz⟩ hR hnr hnr2 I hE8 hr 1 (by decide) P50 (fun T51 h51 X51 P51 => ?_)
  refine upT hw X51 l0 a2 a3 ad S E en rw nr off R g Lt iy iz hLy hne ⟨_, hLz⟩ hR hnr hnr2 I hE8 hr 2 (by decide) P51 (fun T52 h52 X52 P52 => ?_)
  obtain ⟨O, M⟩ := P52
  have M9 : Mem Z n0 h52 (live ad S (cp E) (Lt.set iz (a3, .int, 3, bI (nI (UF S R off (3 + 0)))))) := by
    have z : Mem Z n0 h52 (live ad S (cp E) ((Lt.set iz (a3, .int, 3, bI (ub S R off g (2 + 1)))).set iz (a3, .int, 3, bI (nI (UF S R off (3 + 0)))))) := M.st (iz + 12) (set_self hLz) (Keep.refl _ _) ((M.at (iz + 12) (set_self hLz)).congr (fun i hi => congrArg Value.int (ub_end S R off g i hi)))
    rw [List.set_set] at z
    exact z
  refine w_iload X52 D13_3 rfl ?_
  refine w_aloadN X52 D13_5 rfl rfl ?_
  refine w_arraylength X52 D13_6 (M9.at (iz + 12) (set_self hLz)) ?_
  refine w_icmpge X52 D13_7 (fun hc7 => ?_) (fun hc7 => by exact absurd hc7 (by decide))
  refine w_iconst X52 D13_48 (v := (0 : Int32)) rfl ?_
  show Wp _ _ _ _ _ _ _ _ (mkF m 49 #[.val (.ref l0), .val (.ref a2), .val (.int (Int32.ofNat off)), .val (.ref a3), .val (.int (Int32.ofNat (2 + 1))), .unset, .unset] [.int (Int32.ofNat 0)])
  refine w_istore X52 D13_49 (l' := #[.val (.ref l0), .val (.ref a2), .val (.int (Int32.ofNat off)), .val (.ref a3), .val (.int (Int32.ofNat 0)), .unset, .unset]) rfl ?_
  exact uxL hw l0 a2 a3 ad S E en rw nr off R g Lt iy iz hLy hne ⟨_, hLz⟩ hR hnr hnr2 I hE8 hr (by decide) (by decide) (fun h' P => ⟨rfl, P⟩) E 0 _ _ _ _ (Or.inl ⟨rfl, rfl⟩) (by omega) X52 ⟨O, M9⟩
-- CUT
theorem PF_bit (S : Nat → Nat → Nat) (cn R : Nat → Nat) : ∀ n w t, (PF S cn R n w).testBit t = true ↔ (R w).testBit t = true ∨ ∃ i, i < n ∧ fW S i = w ∧ fH S i ≤ t ∧ t < fH S i + fD S i ∧ (cn (fs S i)).testBit (fl S i + (t - fH S i)) = true
  | 0, w, t => ⟨fun h => Or.inl h, fun h => h.elim id fun ⟨i, hi, _⟩ => absurd hi (Nat.not_lt_zero _)⟩
  | n + 1, w, t => by
    have ih := PF_bit S cn R n w t
    rw [PF]
    by_cases h : w = fW S n
    · subst h
      rw [upd_at, Nat.testBit_or, Bool.or_eq_true, ih, Nat.testBit_mul_two_pow, Nat.testBit_mod_two_pow, Nat.testBit_div_two_pow, Bool.and_eq_true, Bool.and_eq_true, decide_eq_true_iff, decide_eq_true_iff]
      constructor
      · rintro ((h | ⟨i, hi, r⟩) | ⟨h1, h2, h3⟩)
        · exact Or.inl h
        · exact Or.inr ⟨i, by omega, r⟩
        · exact Or.inr ⟨n, by omega, rfl, h1, by omega, by rw [Nat.add_comm]; exact h3⟩
      · rintro (h | ⟨i, hi, h0, h1, h2, h3⟩)
        · exact Or.inl (Or.inl h)
        · by_cases e : i = n
          · subst e; exact Or.inr ⟨h1, by omega, by rw [Nat.add_comm]; exact h3⟩
          · exact Or.inl (Or.inr ⟨i, by omega, h0, h1, h2, h3⟩)
    · rw [upd_ne _ _ h, ih]
      constructor
      · rintro (h | ⟨i, hi, r⟩)
        · exact Or.inl h
        · exact Or.inr ⟨i, by omega, r⟩
      · rintro (h' | ⟨i, hi, h0, r⟩)
        · exact Or.inl h'
        · by_cases e : i = n
          · subst e; exact absurd h0.symm h
          · exact Or.inr ⟨i, by omega, h0, r⟩
theorem PF_lt {S : Nat → Nat → Nat} {E en : Nat} (I : Inv S E en) (cn R : Nat → Nat) (hR : ∀ w, R w < 2 ^ 64) : ∀ n, n ≤ 3 + E → ∀ w, PF S cn R n w < 2 ^ 64
  | 0, _, w => hR w
  | n + 1, h, w => by
    rw [PF]
    by_cases e : w = fW S n
    · rw [e, upd_at]
      refine Nat.or_lt_two_pow (PF_lt I cn R hR n (by omega) _) ?_
      have h1 := (I.1 n (by omega)).2.2.2.1
      have h2 : cn (fs S n) / 2 ^ fl S n % 2 ^ fD S n < 2 ^ fD S n := Nat.mod_lt _ (Nat.two_pow_pos _)
      refine Nat.lt_of_lt_of_le (Nat.mul_lt_mul_of_pos_right h2 (Nat.two_pow_pos (fH S n))) ?_
      rw [← Nat.pow_add]
      exact Nat.pow_le_pow_right (by decide) (by omega)
    · rw [upd_ne _ _ e]; exact PF_lt I cn R hR n (by omega) w
theorem rd_bit {S : Nat → Nat → Nat} {E en : Nat} (I : Inv S E en) (cn R R' : Nat → Nat) (off i t : Nat) (hi : i < 3 + E) (h0 : R (fW S i) = 0) (h1 : R' (off + fW S i) = PF S cn R (3 + E) (fW S i)) : (rd S R' off i).testBit t = true ↔ t < fD S i ∧ (cn (fs S i)).testBit (fl S i + t) = true := by
  rw [rd, h1, Nat.testBit_mod_two_pow, Nat.testBit_div_two_pow, Bool.and_eq_true, decide_eq_true_iff, PF_bit, h0, Nat.zero_testBit]
  constructor
  · rintro ⟨h2, h | ⟨q, hq, e0, e1, e2, e3⟩⟩
    · exact absurd h (by decide)
    · refine ⟨h2, ?_⟩
      have hiq : q = i := by
        rcases Nat.lt_trichotomy q i with hl | hl | hl
        · have := I.2.1 q i hl hi; omega
        · exact hl
        · have := I.2.1 i q hl hq; omega
      subst hiq
      rw [show t + fH S q - fH S q = t by omega] at e3
      exact e3
  · rintro ⟨h2, h3⟩
    exact ⟨h2, Or.inr ⟨i, hi, rfl, by omega, by omega, by rw [show t + fH S i - fH S i = t by omega]; exact h3⟩⟩
theorem UF_bit {S : Nat → Nat → Nat} {E en : Nat} (I : Inv S E en) (cn R R' : Nat → Nat) (off : Nat) (h0 : ∀ i, i < 3 + E → R (fW S i) = 0) (h1 : ∀ i, i < 3 + E → R' (off + fW S i) = PF S cn R (3 + E) (fW S i)) : ∀ n, n ≤ 3 + E → ∀ s t, (UF S R' off n s).testBit t = true ↔ ∃ i, i < n ∧ fs S i = s ∧ fl S i ≤ t ∧ t < fl S i + fD S i ∧ (cn s).testBit t = true
  | 0, _, s, t => ⟨fun h => by rw [UF, Nat.zero_testBit] at h; exact absurd h (by decide), fun ⟨i, hi, _⟩ => absurd hi (Nat.not_lt_zero _)⟩
  | n + 1, hn, s, t => by
    have ih := UF_bit I cn R R' off h0 h1 n (by omega) s t
    have rb := fun t => rd_bit I cn R R' off n t (by omega) (h0 n (by omega)) (h1 n (by omega))
    rw [UF]
    by_cases h : s = fs S n
    · subst h
      rw [upd_at, Nat.testBit_or, Bool.or_eq_true, ih, Nat.testBit_mul_two_pow, Bool.and_eq_true, decide_eq_true_iff, rb]
      constructor
      · rintro (⟨i, hi, r⟩ | ⟨e1, e2, e3⟩)
        · exact ⟨i, by omega, r⟩
        · exact ⟨n, by omega, rfl, e1, by omega, by rw [show fl S n + (t - fl S n) = t by omega] at e3; exact e3⟩
      · rintro ⟨i, hi, e0, e1, e2, e3⟩
        by_cases e : i = n
        · subst e; exact Or.inr ⟨e1, by omega, by rw [show fl S i + (t - fl S i) = t by omega]; exact e3⟩
        · exact Or.inl ⟨i, by omega, e0, e1, e2, e3⟩
    · rw [upd_ne _ _ h, ih]
      constructor
      · rintro ⟨i, hi, r⟩
        exact ⟨i, by omega, r⟩
      · rintro ⟨i, hi, e0, r⟩
        by_cases e : i = n
        · subst e; exact absurd e0.symm h
        · exact ⟨i, by omega, e0, r⟩
/-- unpack gives the counts back, their low bits -/
theorem own_back {S : Nat → Nat → Nat} {E en : Nat} (I : Inv S E en) (cn R R' : Nat → Nat) (off : Nat) (h0 : ∀ i, i < 3 + E → R (fW S i) = 0) (h1 : ∀ i, i < 3 + E → R' (off + fW S i) = PF S cn R (3 + E) (fW S i)) (s : Nat) (hs : s < 3) : UF S R' off (3 + E) s = cn s % 2 ^ S 9 s := by
  apply Nat.eq_of_testBit_eq
  intro t
  rw [Bool.eq_iff_iff, UF_bit I cn R R' off h0 h1 (3 + E) (Nat.le_refl _), Nat.testBit_mod_two_pow, Bool.and_eq_true, decide_eq_true_iff]
  constructor
  · rintro ⟨i, hi, e0, e1, e2, e3⟩
    have := (I.1 i hi).2.2.2.2.1
    rw [e0] at this
    exact ⟨by omega, e3⟩
  · rintro ⟨e1, e2⟩
    obtain ⟨i, hi, r1, r2, r3⟩ := (I.2.2.1 s hs).2.2 t e1
    exact ⟨i, hi, r1, r2, r3, e2⟩
theorem Inv.fWlt {S : Nat → Nat → Nat} {E en rw : Nat} (I : Inv S E en) (hr : en ≤ 64 * rw) {i : Nat} (hi : i < 3 + E) : fW S i < rw := by
  have := I.1 i hi; omega
theorem okf_one (S : Nat → Nat → Nat) (cn : Nat → Nat) : ∀ i, (∀ s, s < i → cn s < 2 ^ S 9 s) → okf S cn i = 1
  | 0, _ => rfl
  | i + 1, h => by rw [okf, if_pos (Nat.div_eq_of_lt (h i (by omega)))]; exact okf_one S cn i (fun s hs => h s (by omega))
/-- a long as a natural -/
def unL (x : Int64) : Nat := (x.toInt % 18446744073709551616).toNat
theorem unL_eq (x : Int64) : x = Int64.ofNat (unL x) := eq_modL (by have := toInt_modL (unL x); unfold unL at *; omega)
theorem unL_lt (x : Int64) : unL x < 18446744073709551616 := by unfold unL; omega
theorem unL_of {a : Nat} (h : a < 18446744073709551616) : unL (Int64.ofNat a) = a := by have := toInt_modL a; unfold unL; omega
def unI (x : Int32) : Nat := (x.toInt % 4294967296).toNat
theorem unI_eq (x : Int32) : x = Int32.ofNat (unI x) := eq_mod (by have := toInt_mod (unI x); unfold unI at *; omega)
theorem unI_lt (x : Int32) : unI x < 4294967296 := by unfold unI; omega
theorem unI_of {a : Nat} (h : a < 4294967296) : unI (Int32.ofNat a) = a := by have := toInt_mod a; unfold unI; omega
-- CUT
theorem ef_12 (m : MethodId) (a : Addr) (b : Addr) (x2 : Int32) : entryFrame m #[(.ref a), (.ref b), (.int x2)] 3 = mkF m 0 #[.val (.ref a), .val (.ref b), .val (.int x2)] [] := by first | (simp [entryFrame, mkF, argsToLocals, Value.category]; done) | rfl
theorem pn_12 : plainName "com/example/tokenfold/tokenfold/statespace/PackingUnpackPinLaw" = true := by first | (simp [plainName, overriddenIn]; done) | decide +kernel
set_option maxRecDepth 65536 in
set_option maxHeartbeats 40000000 in
theorem rmCp {l : Launch} {Z : State} {a0 : Array Value} {n0 : Nat} {h : Heap} (hw : ∀ d ∈ tables_1, d.before a0 Z = true) (hn : n0 ≤ h.size) (a : Addr) (b : Addr) (x2 : Int32) (off : Nat) (R : Nat → Nat) (g : Nat → Int64) (A : Ba Z n0 h a .long 16 (bJ (nJ R))) (B : Ba Z n0 h b .long 19 (bJ g)) (hab : a ≠ b) (hoff : off < 4) (e2 : x2 = Int32.ofNat off) :
    Ctr l Z n0 (⟨"com/example/tokenfold/tokenfold/statespace/PackingUnpackPinLaw", "copy", "([J[JI)V"⟩ : MethodName) method_3_code 3 none ({ frames := 0, cells := 0, slots := 0, locals := 0 } : Room) [] #[(.ref a), (.ref b), (.int x2)] h (fun v h' => v = none ∧ Keep h h' [b] ∧ ∃ g', Ba Z n0 h' b .long 19 (bJ g') ∧ ∀ w, w < 3 → g' (off + w) = Int64.ofNat (R w)) := by
  refine ctr_of (plainFor_of_name pn_12) hw hn ?_
  intro p e s m below meth c T X
  refine Wp.cast (ef_12 m a b x2) ?_
  subst e2
  refine w_aloadN X D12_0 rfl rfl ?_
  refine w_iloadN X D12_1 rfl ?_
  refine w_aloadN X D12_2 rfl rfl ?_
  refine w_iconst X D12_3 (v := (0 : Int32)) rfl ?_
  refine w_laload X D12_4 A 0 rfl (by decide) ?_
  show Wp _ _ _ _ _ _ _ _ (mkF m 5 #[.val (.ref a), .val (.ref b), .val (.int (Int32.ofNat off))] [(.long (Int64.ofNat (R 0))), (.int (Int32.ofNat off)), (.ref b)])
  refine w_lastore X D12_5 B off rfl (by omega) (fun T1 h1 X1 K1 B1 => ?_)
  have A_K1 := A.keep K1 ((ninS hab nin0))
  refine w_aloadN X1 D12_6 rfl rfl ?_
  refine w_iloadN X1 D12_7 rfl ?_
  refine w_iconst X1 D12_8 (v := (1 : Int32)) rfl ?_
  refine w_iadd X1 D12_9 ?_
  refine w_aloadN X1 D12_10 rfl rfl ?_
  refine w_iconst X1 D12_11 (v := (1 : Int32)) rfl ?_
  refine w_laload X1 D12_12 A_K1 1 rfl (by decide) ?_
  show Wp _ _ _ _ _ _ _ _ (mkF m 13 #[.val (.ref a), .val (.ref b), .val (.int (Int32.ofNat off))] [(.long (Int64.ofNat (R 1))), (.int ((Int32.ofNat off) + (1 : Int32))), (.ref b)])
  refine w_lastore X1 D12_13 B1 (off + 1) (n_add off 1) (by omega) (fun T2 h2 X2 K2 B2 => ?_)
  have A_K2 := A_K1.keep K2 ((ninS hab nin0))
  refine w_aloadN X2 D12_14 rfl rfl ?_
  refine w_iloadN X2 D12_15 rfl ?_
  refine w_iconst X2 D12_16 (v := (2 : Int32)) rfl ?_
  refine w_iadd X2 D12_17 ?_
  refine w_aloadN X2 D12_18 rfl rfl ?_
  refine w_iconst X2 D12_19 (v := (2 : Int32)) rfl ?_
  refine w_laload X2 D12_20 A_K2 2 rfl (by decide) ?_
  show Wp _ _ _ _ _ _ _ _ (mkF m 21 #[.val (.ref a), .val (.ref b), .val (.int (Int32.ofNat off))] [(.long (Int64.ofNat (R 2))), (.int ((Int32.ofNat off) + (2 : Int32))), (.ref b)])
  refine w_lastore X2 D12_21 B2 (off + 2) (n_add off 2) (by omega) (fun T3 h3 X3 K3 B3 => ?_)
  have A_K3 := A_K2.keep K3 ((ninS hab nin0))
  refine w_aloadN X3 D12_22 rfl rfl ?_
  refine w_iloadN X3 D12_23 rfl ?_
  refine w_iconst X3 D12_24 (v := (3 : Int32)) rfl ?_
  refine w_iadd X3 D12_25 ?_
  refine w_aloadN X3 D12_26 rfl rfl ?_
  refine w_iconst X3 D12_27 (v := (3 : Int32)) rfl ?_
  refine w_laload X3 D12_28 A_K3 3 rfl (by decide) ?_
  show Wp _ _ _ _ _ _ _ _ (mkF m 29 #[.val (.ref a), .val (.ref b), .val (.int (Int32.ofNat off))] [(.long (Int64.ofNat (R 3))), (.int ((Int32.ofNat off) + (3 : Int32))), (.ref b)])
  refine w_lastore X3 D12_29 B3 (off + 3) (n_add off 3) (by omega) (fun T4 h4 X4 K4 B4 => ?_)
  have A_K4 := A_K3.keep K4 ((ninS hab nin0))
  refine w_aloadN X4 D12_30 rfl rfl ?_
  refine w_iloadN X4 D12_31 rfl ?_
  refine w_iconst X4 D12_32 (v := (4 : Int32)) rfl ?_
  refine w_iadd X4 D12_33 ?_
  refine w_aloadN X4 D12_34 rfl rfl ?_
  refine w_iconst X4 D12_35 (v := (4 : Int32)) rfl ?_
  refine w_laload X4 D12_36 A_K4 4 rfl (by decide) ?_
  show Wp _ _ _ _ _ _ _ _ (mkF m 37 #[.val (.ref a), .val (.ref b), .val (.int (Int32.ofNat off))] [(.long (Int64.ofNat (R 4))), (.int ((Int32.ofNat off) + (4 : Int32))), (.ref b)])
  refine w_lastore X4 D12_37 B4 (off + 4) (n_add off 4) (by omega) (fun T5 h5 X5 K5 B5 => ?_)
  have A_K5 := A_K4.keep K5 ((ninS hab nin0))
  refine w_aloadN X5 D12_38 rfl rfl ?_
  refine w_iloadN X5 D12_39 rfl ?_
  refine w_iconst X5 D12_40 (v := (5 : Int32)) rfl ?_
  refine w_iadd X5 D12_41 ?_
  refine w_aloadN X5 D12_42 rfl rfl ?_
  refine w_iconst X5 D12_43 (v := (5 : Int32)) rfl ?_
  refine w_laload X5 D12_44 A_K5 5 rfl (by decide) ?_
  show Wp _ _ _ _ _ _ _ _ (mkF m 45 #[.val (.ref a), .val (.ref b), .val (.int (Int32.ofNat off))] [(.long (Int64.ofNat (R 5))), (.int ((Int32.ofNat off) + (5 : Int32))), (.ref b)])
  refine w_lastore X5 D12_45 B5 (off + 5) (n_add off 5) (by omega) (fun T6 h6 X6 K6 B6 => ?_)
  have A_K6 := A_K5.keep K6 ((ninS hab nin0))
  refine w_aloadN X6 D12_46 rfl rfl ?_
  refine w_iloadN X6 D12_47 rfl ?_
  refine w_bipush X6 D12_48 (v := (6 : Int32)) rfl ?_
  refine w_iadd X6 D12_50 ?_
  refine w_aloadN X6 D12_51 rfl rfl ?_
  refine w_bipush X6 D12_52 (v := (6 : Int32)) rfl ?_
  refine w_laload X6 D12_54 A_K6 6 rfl (by decide) ?_
  show Wp _ _ _ _ _ _ _ _ (mkF m 55 #[.val (.ref a), .val (.ref b), .val (.int (Int32.ofNat off))] [(.long (Int64.ofNat (R 6))), (.int ((Int32.ofNat off) + (6 : Int32))), (.ref b)])
  refine w_lastore X6 D12_55 B6 (off + 6) (n_add off 6) (by omega) (fun T7 h7 X7 K7 B7 => ?_)
  have A_K7 := A_K6.keep K7 ((ninS hab nin0))
  refine w_aloadN X7 D12_56 rfl rfl ?_
  refine w_iloadN X7 D12_57 rfl ?_
  refine w_bipush X7 D12_58 (v := (7 : Int32)) rfl ?_
  refine w_iadd X7 D12_60 ?_
  refine w_aloadN X7 D12_61 rfl rfl ?_
  refine w_bipush X7 D12_62 (v := (7 : Int32)) rfl ?_
  refine w_laload X7 D12_64 A_K7 7 rfl (by decide) ?_
  show Wp _ _ _ _ _ _ _ _ (mkF m 65 #[.val (.ref a), .val (.ref b), .val (.int (Int32.ofNat off))] [(.long (Int64.ofNat (R 7))), (.int ((Int32.ofNat off) + (7 : Int32))), (.ref b)])
  refine w_lastore X7 D12_65 B7 (off + 7) (n_add off 7) (by omega) (fun T8 h8 X8 K8 B8 => ?_)
  have A_K8 := A_K7.keep K8 ((ninS hab nin0))
  refine w_aloadN X8 D12_66 rfl rfl ?_
  refine w_iloadN X8 D12_67 rfl ?_
  refine w_bipush X8 D12_68 (v := (8 : Int32)) rfl ?_
  refine w_iadd X8 D12_70 ?_
  refine w_aloadN X8 D12_71 rfl rfl ?_
  refine w_bipush X8 D12_72 (v := (8 : Int32)) rfl ?_
  refine w_laload X8 D12_74 A_K8 8 rfl (by decide) ?_
  show Wp _ _ _ _ _ _ _ _ (mkF m 75 #[.val (.ref a), .val (.ref b), .val (.int (Int32.ofNat off))] [(.long (Int64.ofNat (R 8))), (.int ((Int32.ofNat off) + (8 : Int32))), (.ref b)])
  refine w_lastore X8 D12_75 B8 (off + 8) (n_add off 8) (by omega) (fun T9 h9 X9 K9 B9 => ?_)
  have A_K9 := A_K8.keep K9 ((ninS hab nin0))
  refine w_aloadN X9 D12_76 rfl rfl ?_
  refine w_iloadN X9 D12_77 rfl ?_
  refine w_bipush X9 D12_78 (v := (9 : Int32)) rfl ?_
  refine w_iadd X9 D12_80 ?_
  refine w_aloadN X9 D12_81 rfl rfl ?_
  refine w_bipush X9 D12_82 (v := (9 : Int32)) rfl ?_
  refine w_laload X9 D12_84 A_K9 9 rfl (by decide) ?_
  show Wp _ _ _ _ _ _ _ _ (mkF m 85 #[.val (.ref a), .val (.ref b), .val (.int (Int32.ofNat off))] [(.long (Int64.ofNat (R 9))), (.int ((Int32.ofNat off) + (9 : Int32))), (.ref b)])
  refine w_lastore X9 D12_85 B9 (off + 9) (n_add off 9) (by omega) (fun T10 h10 X10 K10 B10 => ?_)
  have A_K10 := A_K9.keep K10 ((ninS hab nin0))
  refine w_aloadN X10 D12_86 rfl rfl ?_
  refine w_iloadN X10 D12_87 rfl ?_
  refine w_bipush X10 D12_88 (v := (10 : Int32)) rfl ?_
  refine w_iadd X10 D12_90 ?_
  refine w_aloadN X10 D12_91 rfl rfl ?_
  refine w_bipush X10 D12_92 (v := (10 : Int32)) rfl ?_
  refine w_laload X10 D12_94 A_K10 10 rfl (by decide) ?_
  show Wp _ _ _ _ _ _ _ _ (mkF m 95 #[.val (.ref a), .val (.ref b), .val (.int (Int32.ofNat off))] [(.long (Int64.ofNat (R 10))), (.int ((Int32.ofNat off) + (10 : Int32))), (.ref b)])
  refine w_lastore X10 D12_95 B10 (off + 10) (n_add off 10) (by omega) (fun T11 h11 X11 K11 B11 => ?_)
  have A_K11 := A_K10.keep K11 ((ninS hab nin0))
  refine w_aloadN X11 D12_96 rfl rfl ?_
  refine w_iloadN X11 D12_97 rfl ?_
  refine w_bipush X11 D12_98 (v := (11 : Int32)) rfl ?_
  refine w_iadd X11 D12_100 ?_
  refine w_aloadN X11 D12_101 rfl rfl ?_
  refine w_bipush X11 D12_102 (v := (11 : Int32)) rfl ?_
  refine w_laload X11 D12_104 A_K11 11 rfl (by decide) ?_
  show Wp _ _ _ _ _ _ _ _ (mkF m 105 #[.val (.ref a), .val (.ref b), .val (.int (Int32.ofNat off))] [(.long (Int64.ofNat (R 11))), (.int ((Int32.ofNat off) + (11 : Int32))), (.ref b)])
  refine w_lastore X11 D12_105 B11 (off + 11) (n_add off 11) (by omega) (fun T12 h12 X12 K12 B12 => ?_)
  have A_K12 := A_K11.keep K12 ((ninS hab nin0))
  refine w_aloadN X12 D12_106 rfl rfl ?_
  refine w_iloadN X12 D12_107 rfl ?_
  refine w_bipush X12 D12_108 (v := (12 : Int32)) rfl ?_
  refine w_iadd X12 D12_110 ?_
  refine w_aloadN X12 D12_111 rfl rfl ?_
  refine w_bipush X12 D12_112 (v := (12 : Int32)) rfl ?_
  refine w_laload X12 D12_114 A_K12 12 rfl (by decide) ?_
  show Wp _ _ _ _ _ _ _ _ (mkF m 115 #[.val (.ref a), .val (.ref b), .val (.int (Int32.ofNat off))] [(.long (Int64.ofNat (R 12))), (.int ((Int32.ofNat off) + (12 : Int32))), (.ref b)])
  refine w_lastore X12 D12_115 B12 (off + 12) (n_add off 12) (by omega) (fun T13 h13 X13 K13 B13 => ?_)
  have A_K13 := A_K12.keep K13 ((ninS hab nin0))
  refine w_aloadN X13 D12_116 rfl rfl ?_
  refine w_iloadN X13 D12_117 rfl ?_
  refine w_bipush X13 D12_118 (v := (13 : Int32)) rfl ?_
  refine w_iadd X13 D12_120 ?_
  refine w_aloadN X13 D12_121 rfl rfl ?_
  refine w_bipush X13 D12_122 (v := (13 : Int32)) rfl ?_
  refine w_laload X13 D12_124 A_K13 13 rfl (by decide) ?_
  show Wp _ _ _ _ _ _ _ _ (mkF m 125 #[.val (.ref a), .val (.ref b), .val (.int (Int32.ofNat off))] [(.long (Int64.ofNat (R 13))), (.int ((Int32.ofNat off) + (13 : Int32))), (.ref b)])
  refine w_lastore X13 D12_125 B13 (off + 13) (n_add off 13) (by omega) (fun T14 h14 X14 K14 B14 => ?_)
  have A_K14 := A_K13.keep K14 ((ninS hab nin0))
  refine w_aloadN X14 D12_126 rfl rfl ?_
  refine w_iloadN X14 D12_127 rfl ?_
  refine w_bipush X14 D12_128 (v := (14 : Int32)) rfl ?_
  refine w_iadd X14 D12_130 ?_
  refine w_aloadN X14 D12_131 rfl rfl ?_
  refine w_bipush X14 D12_132 (v := (14 : Int32)) rfl ?_
  refine w_laload X14 D12_134 A_K14 14 rfl (by decide) ?_
  show Wp _ _ _ _ _ _ _ _ (mkF m 135 #[.val (.ref a), .val (.ref b), .val (.int (Int32.ofNat off))] [(.long (Int64.ofNat (R 14))), (.int ((Int32.ofNat off) + (14 : Int32))), (.ref b)])
  refine w_lastore X14 D12_135 B14 (off + 14) (n_add off 14) (by omega) (fun T15 h15 X15 K15 B15 => ?_)
  have A_K15 := A_K14.keep K15 ((ninS hab nin0))
  refine w_aloadN X15 D12_136 rfl rfl ?_
  refine w_iloadN X15 D12_137 rfl ?_
  refine w_bipush X15 D12_138 (v := (15 : Int32)) rfl ?_
  refine w_iadd X15 D12_140 ?_
  refine w_aloadN X15 D12_141 rfl rfl ?_
  refine w_bipush X15 D12_142 (v := (15 : Int32)) rfl ?_
  refine w_laload X15 D12_144 A_K15 15 rfl (by decide) ?_
  show Wp _ _ _ _ _ _ _ _ (mkF m 145 #[.val (.ref a), .val (.ref b), .val (.int (Int32.ofNat off))] [(.long (Int64.ofNat (R 15))), (.int ((Int32.ofNat off) + (15 : Int32))), (.ref b)])
  refine w_lastore X15 D12_145 B15 (off + 15) (n_add off 15) (by omega) (fun T16 h16 X16 K16 B16 => ?_)
  have A_K16 := A_K15.keep K16 ((ninS hab nin0))
  exact w_return X16 D12_146 (by decide) (by decide) (⟨rfl, (((((((((((((((K1.trans K2 (fun x hx => Or.inl hx)).trans K3 (fun x hx => Or.inl hx)).trans K4 (fun x hx => Or.inl hx)).trans K5 (fun x hx => Or.inl hx)).trans K6 (fun x hx => Or.inl hx)).trans K7 (fun x hx => Or.inl hx)).trans K8 (fun x hx => Or.inl hx)).trans K9 (fun x hx => Or.inl hx)).trans K10 (fun x hx => Or.inl hx)).trans K11 (fun x hx => Or.inl hx)).trans K12 (fun x hx => Or.inl hx)).trans K13 (fun x hx => Or.inl hx)).trans K14 (fun x hx => Or.inl hx)).trans K15 (fun x hx => Or.inl hx)).trans K16 (fun x hx => Or.inl hx)), _, B16, fun w hw => by
      have hc : w = 0 ∨ w = 1 ∨ w = 2 := by omega
      rcases hc with rfl | rfl | rfl <;> simp [upd]⟩)
-- CUT
abbrev own_L (ou r2 r1 f3 f2 f1 : Addr) (g : Nat → Int32) (G : Nat → Int64) (R cq cm cf : Nat → Nat) : List Ent := [(ou, .int, 3, bI g), (r2, .long, 19, bJ G), (r1, .long, 16, bJ (nJ R)), (f3, .int, 3, bI (nI cq)), (f2, .int, 3, bI (nI cm)), (f1, .int, 3, bI (nI cf))]
set_option maxRecDepth 65536 in
set_option maxHeartbeats 40000000 in
theorem law2 {Z : State} {a0 : Array Value} {n0 : Nat} {p : Program} {l : Launch} {e : Env} {s : State} {m : MethodId} {args : Array Value} {below : List Frame} {meth : Method} {c : Code} {T : State} {h : Heap}  (hw : ∀ d ∈ tables_1, d.before a0 Z = true) (X : Pos Z a0 n0 p l e room_1 s m args below meth c code maxLocals ret x T h 6 47) (x0 x1 x2 ss oo : Int32) (jj : Int64) (u0 u1 u2 off : Nat) (ou r2 r1 f3 f2 f1 : Addr) (gout : Nat → Int32) (cq cm cf : Nat → Nat) (hcq : ∀ s, s < 3 → cq s < 2147483648) (hcm : ∀ s, s < 3 → cm s < 2147483648) (hcf : ∀ s, s < 3 → cf s < 2147483648) (e0 : cq 0 = u0) (e1 : cq 1 = u1) (e2 : cq 2 = u2) (hoff : off < 4) (M : Mem Z n0 h (own_L ou r2 r1 f3 f2 f1 gout (fun _ => 0) (fun _ => 0) cq cm cf)) : Wp n0 p e room_1 s below (fun v _ => v = some (.int 1)) T (mkF m 169 #[.val (.int x0), .val (.int x1), .val (.int x2), .val (.int ss), .val (.int oo), .val (.long jj), .second, .val (.int (Int32.ofNat u0)), .val (.int (Int32.ofNat u1)), .val (.int (Int32.ofNat u2)), .val (.ref f1), .val (.ref f2), .val (.ref f3), .val (.ref r1), .val (.ref r2), .val (.ref ou), .val (.int (Int32.ofNat off)), .unset, .unset] []) := by
  refine w_new X D0_169 (hw _ (List.mem_of_getElem? (i := 3) rfl)) (hw _ (List.mem_of_getElem? (i := 4) rfl)) (hw _ (List.mem_of_getElem? (i := 5) rfl)) (Nat.le_of_ble_eq_true rfl) (Nat.le_of_ble_eq_true rfl) (fun T1 h1 a1 X1 g1 n1 E1 A1 D1 => ?_)
  have M1 := M.ext E1
  have O1 := Pak.new hw n1 A1 D1
  refine w_dup X1 D0_172 rfl ?_
  refine w_aload X1 D0_173 rfl rfl ?_
  refine w_special X1 D0_175 (rmI hw X1.sz a1 f1 cf (own_L ou r2 r1 f3 f2 f1 gout (fun _ => 0) (fun _ => 0) cq cm cf) 5 rfl hcf O1 M1) rfl (hw _ (List.mem_of_getElem? (i := 6) rfl)) (hw _ (List.mem_of_getElem? (i := 7) rfl)) (hw _ (List.mem_of_getElem? (i := 5) rfl)) (hw _ (List.mem_of_getElem? (i := 8) rfl)) (by decide) pd_11 rfl (S := [(.ref a1)]) rfl rfl (Nat.le_of_ble_eq_true rfl) (Nat.le_of_ble_eq_true rfl) (Nat.le_of_ble_eq_true rfl) (Nat.le_of_ble_eq_true rfl) (fun v2 T2 h2 X2 q2 => ?_)
  obtain ⟨rfl, ad1, S1, en1, rw1, I1, hr1, P1⟩ := q2
  show Wp _ _ _ _ _ _ _ _ (mkF m 178 #[.val (.int x0), .val (.int x1), .val (.int x2), .val (.int ss), .val (.int oo), .val (.long jj), .second, .val (.int (Int32.ofNat u0)), .val (.int (Int32.ofNat u1)), .val (.int (Int32.ofNat u2)), .val (.ref f1), .val (.ref f2), .val (.ref f3), .val (.ref r1), .val (.ref r2), .val (.ref ou), .val (.int (Int32.ofNat off)), .unset, .unset] [(.ref a1)])
  refine w_astore X2 D0_178 (l' := #[.val (.int x0), .val (.int x1), .val (.int x2), .val (.int ss), .val (.int oo), .val (.long jj), .second, .val (.int (Int32.ofNat u0)), .val (.int (Int32.ofNat u1)), .val (.int (Int32.ofNat u2)), .val (.ref f1), .val (.ref f2), .val (.ref f3), .val (.ref r1), .val (.ref r2), .val (.ref ou), .val (.int (Int32.ofNat off)), .val (.ref a1), .unset]) rfl rfl ?_
  refine w_aload X2 D0_180 rfl rfl ?_
  refine w_aload X2 D0_182 rfl rfl ?_
  refine w_virtual X2 D0_184 (rmWd hw X2.sz a1 f2 ad1 S1 0 en1 rw1 cm (own_L ou r2 r1 f3 f2 f1 gout (fun _ => 0) (fun _ => 0) cq cm cf) 4 rfl hcm I1 (by omega) hr1 P1) P1.1.2.1 (hw _ (List.mem_of_getElem? (i := 61) rfl)) (hw _ (List.mem_of_getElem? (i := 62) rfl)) (hw _ (List.mem_of_getElem? (i := 64) rfl)) (hw _ (List.mem_of_getElem? (i := 63) rfl)) (hw _ (List.mem_of_getElem? (i := 5) rfl)) (hw _ (List.mem_of_getElem? (i := 65) rfl)) (by decide) pd_11 rfl (S := []) rfl rfl (Nat.le_of_ble_eq_true rfl) (Nat.le_of_ble_eq_true rfl) (Nat.le_of_ble_eq_true rfl) (Nat.le_of_ble_eq_true rfl) (fun v3 T3 h3 X3 q3 => ?_)
  obtain ⟨rfl, ad2, S2, E2, en2, rw2, I2, la2, lb2, hr2, hf2, P2⟩ := q3
  show Wp _ _ _ _ _ _ _ _ (mkF m 187 #[.val (.int x0), .val (.int x1), .val (.int x2), .val (.int ss), .val (.int oo), .val (.long jj), .second, .val (.int (Int32.ofNat u0)), .val (.int (Int32.ofNat u1)), .val (.int (Int32.ofNat u2)), .val (.ref f1), .val (.ref f2), .val (.ref f3), .val (.ref r1), .val (.ref r2), .val (.ref ou), .val (.int (Int32.ofNat off)), .val (.ref a1), .unset] [])
  refine w_aload X3 D0_187 rfl rfl ?_
  refine w_aload X3 D0_189 rfl rfl ?_
  refine w_virtual X3 D0_191 (rmWd hw X3.sz a1 f3 ad2 S2 E2 en2 rw2 cq (own_L ou r2 r1 f3 f2 f1 gout (fun _ => 0) (fun _ => 0) cq cm cf) 3 rfl hcq I2 (by omega) hr2 P2) P2.1.2.1 (hw _ (List.mem_of_getElem? (i := 61) rfl)) (hw _ (List.mem_of_getElem? (i := 62) rfl)) (hw _ (List.mem_of_getElem? (i := 64) rfl)) (hw _ (List.mem_of_getElem? (i := 63) rfl)) (hw _ (List.mem_of_getElem? (i := 5) rfl)) (hw _ (List.mem_of_getElem? (i := 65) rfl)) (by decide) pd_11 rfl (S := []) rfl rfl (Nat.le_of_ble_eq_true rfl) (Nat.le_of_ble_eq_true rfl) (Nat.le_of_ble_eq_true rfl) (Nat.le_of_ble_eq_true rfl) (fun v4 T4 h4 X4 q4 => ?_)
  obtain ⟨rfl, ad3, S3, E3, en3, rw3, I3, la3, lb3, hr3, hf3, P3⟩ := q4
  show Wp _ _ _ _ _ _ _ _ (mkF m 194 #[.val (.int x0), .val (.int x1), .val (.int x2), .val (.int ss), .val (.int oo), .val (.long jj), .second, .val (.int (Int32.ofNat u0)), .val (.int (Int32.ofNat u1)), .val (.int (Int32.ofNat u2)), .val (.ref f1), .val (.ref f2), .val (.ref f3), .val (.ref r1), .val (.ref r2), .val (.ref ou), .val (.int (Int32.ofNat off)), .val (.ref a1), .unset] [])
  refine w_aload X4 D0_194 rfl rfl ?_
  refine w_aload X4 D0_196 rfl rfl ?_
  refine w_aload X4 D0_198 rfl rfl ?_
  refine w_virtual X4 D0_200 (rmPk hw X4.sz a1 f3 r1 ad3 S3 E3 en3 rw3 16 cq (fun _ => 0) (own_L ou r2 r1 f3 f2 f1 gout (fun _ => 0) (fun _ => 0) cq cm cf) 3 2 rfl (by decide) rfl (by decide) (fun s hs => Nat.lt_trans (hcq s hs) (by decide)) I3 (by omega) hr3 (by decide) P3) P3.1.2.1 (hw _ (List.mem_of_getElem? (i := 66) rfl)) (hw _ (List.mem_of_getElem? (i := 67) rfl)) (hw _ (List.mem_of_getElem? (i := 69) rfl)) (hw _ (List.mem_of_getElem? (i := 68) rfl)) (hw _ (List.mem_of_getElem? (i := 5) rfl)) (hw _ (List.mem_of_getElem? (i := 70) rfl)) (by decide) pd_12 rfl (S := []) rfl rfl (Nat.le_of_ble_eq_true rfl) (Nat.le_of_ble_eq_true rfl) (Nat.le_of_ble_eq_true rfl) (Nat.le_of_ble_eq_true rfl) (fun v5 T5 h5 X5 q5 => ?_)
  obtain ⟨rfl, P4⟩ := q5
  have P5 : PK Z n0 h5 a1 ad3 S3 E3 (cp E3) en3 rw3 (own_L ou r2 r1 f3 f2 f1 gout (fun _ => 0) (PF S3 cq (fun i => if i < rw3 then 0 else 0) (3 + E3)) cq cm cf) := P4
  obtain ⟨O5, M5⟩ := P5
  show Wp _ _ _ _ _ _ _ _ (mkF m 203 #[.val (.int x0), .val (.int x1), .val (.int x2), .val (.int ss), .val (.int oo), .val (.long jj), .second, .val (.int (Int32.ofNat u0)), .val (.int (Int32.ofNat u1)), .val (.int (Int32.ofNat u2)), .val (.ref f1), .val (.ref f2), .val (.ref f3), .val (.ref r1), .val (.ref r2), .val (.ref ou), .val (.int (Int32.ofNat off)), .val (.ref a1), .unset] [(.int (Int32.ofNat (okf S3 cq 3)))])
  rw [okf_one S3 cq 3 hf3]
  refine w_istore X5 D0_203 (l' := #[.val (.int x0), .val (.int x1), .val (.int x2), .val (.int ss), .val (.int oo), .val (.long jj), .second, .val (.int (Int32.ofNat u0)), .val (.int (Int32.ofNat u1)), .val (.int (Int32.ofNat u2)), .val (.ref f1), .val (.ref f2), .val (.ref f3), .val (.ref r1), .val (.ref r2), .val (.ref ou), .val (.int (Int32.ofNat off)), .val (.ref a1), .val (.int (Int32.ofNat 1))]) rfl ?_
  refine w_aload X5 D0_205 rfl rfl ?_
  refine w_iconst X5 D0_207 (v := (0 : Int32)) rfl ?_
  refine w_lload X5 D0_208 rfl ?_
  refine w_lastore X5 D0_210 (M5.at 13 rfl) 0 rfl (by decide) (fun T6 h6 X6 K6 B6 => ?_)
  have O5_K6 := O5.keepB hw (M5.at 13 rfl) K6
  have M6 := M5.st 13 rfl K6 B6
  refine w_aload X6 D0_211 rfl rfl ?_
  refine w_iconst X6 D0_213 (v := (1 : Int32)) rfl ?_
  refine w_lload X6 D0_214 rfl ?_
  refine w_lastore X6 D0_216 (M6.at 13 rfl) 1 rfl (by decide) (fun T7 h7 X7 K7 B7 => ?_)
  have O5_K7 := O5_K6.keepB hw (M6.at 13 rfl) K7
  have M7 := M6.st 13 rfl K7 B7
  refine w_aload X7 D0_217 rfl rfl ?_
  refine w_iconst X7 D0_219 (v := (2 : Int32)) rfl ?_
  refine w_lload X7 D0_220 rfl ?_
  refine w_lastore X7 D0_222 (M7.at 13 rfl) 2 rfl (by decide) (fun T8 h8 X8 K8 B8 => ?_)
  have O5_K8 := O5_K7.keepB hw (M7.at 13 rfl) K8
  have M8 := M7.st 13 rfl K8 B8
  refine w_aload X8 D0_223 rfl rfl ?_
  refine w_aload X8 D0_225 rfl rfl ?_
  refine w_iload X8 D0_227 rfl ?_
  refine w_static X8 D0_229 (rmCp hw X8.sz r1 r2 _ off (PF S3 cq (fun i => if i < rw3 then 0 else 0) (3 + E3)) (upd (upd (upd (fun _ => 0) 0 jj) 1 jj) 2 jj) (M8.at 14 rfl) (M8.at 13 rfl) (M8.ne 14 13 rfl rfl (by decide)) hoff rfl) (hw _ (List.mem_of_getElem? (i := 79) rfl)) (hw _ (List.mem_of_getElem? (i := 80) rfl)) (hw _ (List.mem_of_getElem? (i := 81) rfl)) (hw _ (List.mem_of_getElem? (i := 82) rfl)) (by decide) pd_13 rfl (S := []) rfl rfl (Nat.le_of_ble_eq_true rfl) (Nat.le_of_ble_eq_true rfl) (Nat.le_of_ble_eq_true rfl) (Nat.le_of_ble_eq_true rfl) (fun v9 T9 h9 X9 q9 => ?_)
  obtain ⟨rfl, K9, g9, B9, hg9⟩ := q9
  have O9 := O5_K8.keepB hw (M8.at 13 rfl) K9
  have M9 := M8.st (g' := bJ (nJ (fun i => unL (g9 i)))) 13 rfl K9 (B9.congr (fun i _ => congrArg Value.long (unL_eq _)))
  show Wp _ _ _ _ _ _ _ _ (mkF m 232 #[.val (.int x0), .val (.int x1), .val (.int x2), .val (.int ss), .val (.int oo), .val (.long jj), .second, .val (.int (Int32.ofNat u0)), .val (.int (Int32.ofNat u1)), .val (.int (Int32.ofNat u2)), .val (.ref f1), .val (.ref f2), .val (.ref f3), .val (.ref r1), .val (.ref r2), .val (.ref ou), .val (.int (Int32.ofNat off)), .val (.ref a1), .val (.int (Int32.ofNat 1))] [])
  refine w_aload X9 D0_232 rfl rfl ?_
  refine w_aload X9 D0_234 rfl rfl ?_
  refine w_iload X9 D0_236 rfl ?_
  refine w_aload X9 D0_238 rfl rfl ?_
  refine w_virtual X9 D0_240 (rmU hw X9.sz a1 r2 _ ou ad3 S3 E3 en3 rw3 19 off (fun i => unL (g9 i)) gout (own_L ou r2 r1 f3 f2 f1 gout (nJ (fun i => unL (g9 i))) (PF S3 cq (fun i => if i < rw3 then 0 else 0) (3 + E3)) cq cm cf) 1 0 rfl (by decide) rfl (fun i => unL_lt _) (by omega) (by decide) I3 (by omega) hr3 rfl ⟨O9, M9⟩) O9.2.1 (hw _ (List.mem_of_getElem? (i := 83) rfl)) (hw _ (List.mem_of_getElem? (i := 84) rfl)) (hw _ (List.mem_of_getElem? (i := 86) rfl)) (hw _ (List.mem_of_getElem? (i := 85) rfl)) (hw _ (List.mem_of_getElem? (i := 5) rfl)) (hw _ (List.mem_of_getElem? (i := 87) rfl)) (by decide) pd_14 rfl (S := []) rfl rfl (Nat.le_of_ble_eq_true rfl) (Nat.le_of_ble_eq_true rfl) (Nat.le_of_ble_eq_true rfl) (Nat.le_of_ble_eq_true rfl) (fun v10 T10 h10 X10 q10 => ?_)
  obtain ⟨rfl, P10⟩ := q10
  obtain ⟨O10, M10⟩ := P10
  have z0 : ∀ w, (fun i => if i < rw3 then 0 else 0) w = 0 := fun w => by show (if w < rw3 then 0 else 0) = 0; split <;> rfl
  have lw : ∀ s, s < 3 → UF S3 (fun i => unL (g9 i)) off (3 + E3) s = cq s := fun s hs => by
    rw [own_back I3 cq (fun i => if i < rw3 then 0 else 0) (fun i => unL (g9 i)) off (fun i _ => z0 _) (fun i hi => ?_) s hs]
    · exact Nat.mod_eq_of_lt (hf3 s hs)
    · show unL (g9 _) = _
      have hlt := I3.fWlt hr3.2.2 hi
      rw [hg9 _ (by omega)]
      exact unL_of (PF_lt I3 cq _ (fun w => Nat.lt_of_le_of_lt (Nat.le_of_eq (z0 w)) (by decide)) _ (Nat.le_refl _) _)
  show Wp _ _ _ _ _ _ _ _ (mkF m 243 #[.val (.int x0), .val (.int x1), .val (.int x2), .val (.int ss), .val (.int oo), .val (.long jj), .second, .val (.int (Int32.ofNat u0)), .val (.int (Int32.ofNat u1)), .val (.int (Int32.ofNat u2)), .val (.ref f1), .val (.ref f2), .val (.ref f3), .val (.ref r1), .val (.ref r2), .val (.ref ou), .val (.int (Int32.ofNat off)), .val (.ref a1), .val (.int (Int32.ofNat 1))] [])
  refine w_iload X10 D0_243 rfl ?_
  refine w_ifeq X10 D0_245 (fun hc245 => by exact absurd hc245 (by decide)) (fun hc245 => ?_)
  refine w_aload X10 D0_248 rfl rfl ?_
  refine w_iconst X10 D0_250 (v := (0 : Int32)) rfl ?_
  refine w_iaload X10 D0_251 (M10.at 12 rfl) 0 rfl (by decide) ?_
  show Wp _ _ _ _ _ _ _ _ (mkF m 252 #[.val (.int x0), .val (.int x1), .val (.int x2), .val (.int ss), .val (.int oo), .val (.long jj), .second, .val (.int (Int32.ofNat u0)), .val (.int (Int32.ofNat u1)), .val (.int (Int32.ofNat u2)), .val (.ref f1), .val (.ref f2), .val (.ref f3), .val (.ref r1), .val (.ref r2), .val (.ref ou), .val (.int (Int32.ofNat off)), .val (.ref a1), .val (.int (Int32.ofNat 1))] [(.int (Int32.ofNat ((UF S3 (fun i => unL (g9 i)) off (3 + E3)) 0)))])
  refine w_iload X10 D0_252 rfl ?_
  refine w_icmpne X10 D0_254 (fun hc254 => by exact absurd (by rw [lw 0 (by decide), e0]) hc254) (fun hc254 => ?_)
  refine w_aload X10 D0_257 rfl rfl ?_
  refine w_iconst X10 D0_259 (v := (1 : Int32)) rfl ?_
  refine w_iaload X10 D0_260 (M10.at 12 rfl) 1 rfl (by decide) ?_
  show Wp _ _ _ _ _ _ _ _ (mkF m 261 #[.val (.int x0), .val (.int x1), .val (.int x2), .val (.int ss), .val (.int oo), .val (.long jj), .second, .val (.int (Int32.ofNat u0)), .val (.int (Int32.ofNat u1)), .val (.int (Int32.ofNat u2)), .val (.ref f1), .val (.ref f2), .val (.ref f3), .val (.ref r1), .val (.ref r2), .val (.ref ou), .val (.int (Int32.ofNat off)), .val (.ref a1), .val (.int (Int32.ofNat 1))] [(.int (Int32.ofNat ((UF S3 (fun i => unL (g9 i)) off (3 + E3)) 1)))])
  refine w_iload X10 D0_261 rfl ?_
  refine w_icmpne X10 D0_263 (fun hc263 => by exact absurd (by rw [lw 1 (by decide), e1]) hc263) (fun hc263 => ?_)
  refine w_aload X10 D0_266 rfl rfl ?_
  refine w_iconst X10 D0_268 (v := (2 : Int32)) rfl ?_
  refine w_iaload X10 D0_269 (M10.at 12 rfl) 2 rfl (by decide) ?_
  show Wp _ _ _ _ _ _ _ _ (mkF m 270 #[.val (.int x0), .val (.int x1), .val (.int x2), .val (.int ss), .val (.int oo), .val (.long jj), .second, .val (.int (Int32.ofNat u0)), .val (.int (Int32.ofNat u1)), .val (.int (Int32.ofNat u2)), .val (.ref f1), .val (.ref f2), .val (.ref f3), .val (.ref r1), .val (.ref r2), .val (.ref ou), .val (.int (Int32.ofNat off)), .val (.ref a1), .val (.int (Int32.ofNat 1))] [(.int (Int32.ofNat ((UF S3 (fun i => unL (g9 i)) off (3 + E3)) 2)))])
  refine w_iload X10 D0_270 rfl ?_
  refine w_icmpne X10 D0_272 (fun hc272 => by exact absurd (by rw [lw 2 (by decide), e2]) hc272) (fun hc272 => ?_)
  refine w_iconst X10 D0_275 (v := (1 : Int32)) rfl ?_
  refine w_goto X10 D0_276 ?_
  exact w_zreturn X10 D0_280 (by decide) (by decide) (rfl)
-- CUT
theorem own_and (x : Int32) (k : Nat) (hk : k ≤ 31) {m : Int32} (hm : m.toBitVec.toNat = 2 ^ k - 1) : ∃ u, u < 2 ^ k ∧ x &&& m = Int32.ofNat u := by
  have h1 : (0 : Int) < ((2 ^ k : Nat) : Int) := by
    have := Nat.two_pow_pos k
    omega
  have h3 := Int.emod_nonneg x.toInt (Int.ne_of_gt h1)
  have h4 := Int.emod_lt_of_pos x.toInt h1
  exact ⟨_, by omega, n_mask x k hk hm⟩
theorem ef_0 (m : MethodId) (x0 : Int32) (x1 : Int32) (x2 : Int32) (ss : Int32) (oo : Int32) (jj : Int64) : entryFrame m #[(.int x0), (.int x1), (.int x2), (.int ss), (.int oo), (.long jj)] maxLocals = mkF m 0 #[.val (.int x0), .val (.int x1), .val (.int x2), .val (.int ss), .val (.int oo), .val (.long jj), .second, .unset, .unset, .unset, .unset, .unset, .unset, .unset, .unset, .unset, .unset, .unset, .unset] [] := by first | (simp [entryFrame, mkF, argsToLocals, Value.category, maxLocals]; done) | rfl
theorem pn_0 : plainName "com/example/tokenfold/tokenfold/statespace/PackingUnpackPinLaw" = true := by first | (simp [plainName, overriddenIn]; done) | decide +kernel
set_option maxRecDepth 65536 in
set_option maxHeartbeats 40000000 in
theorem rm0 {l : Launch} {Z : State} {a0 : Array Value} {n0 : Nat} {h : Heap} (hw : ∀ d ∈ tables_1, d.before a0 Z = true) (hn : n0 ≤ h.size) (x0 : Int32) (x1 : Int32) (x2 : Int32) (ss : Int32) (oo : Int32) (jj : Int64) :
    Ctr l Z n0 x code maxLocals ret room_1 tables_1 #[(.int x0), (.int x1), (.int x2), (.int ss), (.int oo), (.long jj)] h (fun v h' => v = some (.int 1)) := by
  refine ctr_of (plainFor_of_name pn_0) hw hn ?_
  intro p e s m below meth c T X
  refine Wp.cast (ef_0 m x0 x1 x2 ss oo jj) ?_
  obtain ⟨u0, hu0, eu0⟩ := n_mask31 x0
  obtain ⟨u1, hu1, eu1⟩ := n_mask31 x1
  obtain ⟨u2, hu2, eu2⟩ := n_mask31 x2
  obtain ⟨k0, hk0, ek0⟩ := own_and ss 5 (by decide) (m := 31) rfl
  obtain ⟨k1, hk1, ek1⟩ := own_and (jushr ss 5) 5 (by decide) (m := 31) rfl
  obtain ⟨k2, hk2, ek2⟩ := own_and (jushr ss 10) 5 (by decide) (m := 31) rfl
  obtain ⟨k3, hk3, ek3⟩ := own_and (jushr ss 15) 5 (by decide) (m := 31) rfl
  obtain ⟨k4, hk4, ek4⟩ := own_and (jushr ss 20) 5 (by decide) (m := 31) rfl
  obtain ⟨k5, hk5, ek5⟩ := own_and (jushr ss 25) 5 (by decide) (m := 31) rfl
  obtain ⟨off, hoff, eoff⟩ := own_and oo 2 (by decide) (m := 3) rfl
  refine w_iloadN X D0_0 rfl ?_
  refine w_ldc X D0_1 (hw _ (List.mem_of_getElem? (i := 0) rfl)) ?_
  refine w_iand X D0_3 ?_
  rw [eu0]
  refine w_istore X D0_4 (l' := #[.val (.int x0), .val (.int x1), .val (.int x2), .val (.int ss), .val (.int oo), .val (.long jj), .second, .val (.int (Int32.ofNat u0)), .unset, .unset, .unset, .unset, .unset, .unset, .unset, .unset, .unset, .unset, .unset]) rfl ?_
  refine w_iloadN X D0_6 rfl ?_
  refine w_ldc X D0_7 (hw _ (List.mem_of_getElem? (i := 0) rfl)) ?_
  refine w_iand X D0_9 ?_
  rw [eu1]
  refine w_istore X D0_10 (l' := #[.val (.int x0), .val (.int x1), .val (.int x2), .val (.int ss), .val (.int oo), .val (.long jj), .second, .val (.int (Int32.ofNat u0)), .val (.int (Int32.ofNat u1)), .unset, .unset, .unset, .unset, .unset, .unset, .unset, .unset, .unset, .unset]) rfl ?_
  refine w_iloadN X D0_12 rfl ?_
  refine w_ldc X D0_13 (hw _ (List.mem_of_getElem? (i := 0) rfl)) ?_
  refine w_iand X D0_15 ?_
  rw [eu2]
  refine w_istore X D0_16 (l' := #[.val (.int x0), .val (.int x1), .val (.int x2), .val (.int ss), .val (.int oo), .val (.long jj), .second, .val (.int (Int32.ofNat u0)), .val (.int (Int32.ofNat u1)), .val (.int (Int32.ofNat u2)), .unset, .unset, .unset, .unset, .unset, .unset, .unset, .unset, .unset]) rfl ?_
  refine w_iconst X D0_18 (v := (3 : Int32)) rfl ?_
  refine w_newI X D0_19 (hw _ (List.mem_of_getElem? (i := 1) rfl)) 3 3 rfl (Nat.le_of_ble_eq_true rfl) (by decide) (Nat.le_of_ble_eq_true rfl) (Nat.le_of_ble_eq_true rfl) (fun T1 h1 a1 X1 g1 E1 B1 => ?_)
  have M1 := (Mem.nil (Z := Z) (n0 := n0) (h := h)).cons (g := bI (nI (fun _ => 0))) E1 (Nat.le_of_eq g1.symm) B1
  refine w_dup X1 D0_21 rfl ?_
  refine w_iconst X1 D0_22 (v := (0 : Int32)) rfl ?_
  refine w_iload X1 D0_23 rfl ?_
  refine w_iloadN X1 D0_25 rfl ?_
  refine w_bipush X1 D0_26 (v := (31 : Int32)) rfl ?_
  refine w_iand X1 D0_28 ?_
  rw [ek0]
  refine w_iushr X1 D0_29 ?_
  rw [n_ushr hu0 hk0]
  refine w_iastore X1 D0_30 (M1.at 0 rfl) 0 rfl (by decide) (fun T2 h2 X2 K2 B2 => ?_)
  rw [upd_nI] at B2
  have M2 := M1.st 0 rfl K2 B2
  refine w_dup X2 D0_31 rfl ?_
  refine w_iconst X2 D0_32 (v := (1 : Int32)) rfl ?_
  refine w_iload X2 D0_33 rfl ?_
  refine w_iloadN X2 D0_35 rfl ?_
  refine w_iconst X2 D0_36 (v := (5 : Int32)) rfl ?_
  refine w_iushr X2 D0_37 ?_
  refine w_bipush X2 D0_38 (v := (31 : Int32)) rfl ?_
  refine w_iand X2 D0_40 ?_
  rw [ek1]
  refine w_iushr X2 D0_41 ?_
  rw [n_ushr hu1 hk1]
  refine w_iastore X2 D0_42 (M2.at 0 rfl) 1 rfl (by decide) (fun T3 h3 X3 K3 B3 => ?_)
  rw [upd_nI] at B3
  have M3 := M2.st 0 rfl K3 B3
  refine w_dup X3 D0_43 rfl ?_
  refine w_iconst X3 D0_44 (v := (2 : Int32)) rfl ?_
  refine w_iload X3 D0_45 rfl ?_
  refine w_iloadN X3 D0_47 rfl ?_
  refine w_bipush X3 D0_48 (v := (10 : Int32)) rfl ?_
  refine w_iushr X3 D0_50 ?_
  refine w_bipush X3 D0_51 (v := (31 : Int32)) rfl ?_
  refine w_iand X3 D0_53 ?_
  rw [ek2]
  refine w_iushr X3 D0_54 ?_
  rw [n_ushr hu2 hk2]
  refine w_iastore X3 D0_55 (M3.at 0 rfl) 2 rfl (by decide) (fun T4 h4 X4 K4 B4 => ?_)
  rw [upd_nI] at B4
  have M4 := M3.st 0 rfl K4 B4
  refine w_astore X4 D0_56 (l' := #[.val (.int x0), .val (.int x1), .val (.int x2), .val (.int ss), .val (.int oo), .val (.long jj), .second, .val (.int (Int32.ofNat u0)), .val (.int (Int32.ofNat u1)), .val (.int (Int32.ofNat u2)), .val (.ref a1), .unset, .unset, .unset, .unset, .unset, .unset, .unset, .unset]) rfl rfl ?_
  refine w_iconst X4 D0_58 (v := (3 : Int32)) rfl ?_
  refine w_newI X4 D0_59 (hw _ (List.mem_of_getElem? (i := 1) rfl)) 3 3 rfl (Nat.le_of_ble_eq_true rfl) (by decide) (Nat.le_of_ble_eq_true rfl) (Nat.le_of_ble_eq_true rfl) (fun T5 h5 a5 X5 g5 E5 B5 => ?_)
  have M5 := M4.cons (g := bI (nI (fun _ => 0))) E5 (Nat.le_of_eq g5.symm) B5
  refine w_dup X5 D0_61 rfl ?_
  refine w_iconst X5 D0_62 (v := (0 : Int32)) rfl ?_
  refine w_iload X5 D0_63 rfl ?_
  refine w_iloadN X5 D0_65 rfl ?_
  refine w_bipush X5 D0_66 (v := (15 : Int32)) rfl ?_
  refine w_iushr X5 D0_68 ?_
  refine w_bipush X5 D0_69 (v := (31 : Int32)) rfl ?_
  refine w_iand X5 D0_71 ?_
  rw [ek3]
  refine w_iushr X5 D0_72 ?_
  rw [n_ushr hu0 hk3]
  refine w_iastore X5 D0_73 (M5.at 0 rfl) 0 rfl (by decide) (fun T6 h6 X6 K6 B6 => ?_)
  rw [upd_nI] at B6
  have M6 := M5.st 0 rfl K6 B6
  refine w_dup X6 D0_74 rfl ?_
  refine w_iconst X6 D0_75 (v := (1 : Int32)) rfl ?_
  refine w_iload X6 D0_76 rfl ?_
  refine w_iloadN X6 D0_78 rfl ?_
  refine w_bipush X6 D0_79 (v := (20 : Int32)) rfl ?_
  refine w_iushr X6 D0_81 ?_
  refine w_bipush X6 D0_82 (v := (31 : Int32)) rfl ?_
  refine w_iand X6 D0_84 ?_
  rw [ek4]
  refine w_iushr X6 D0_85 ?_
  rw [n_ushr hu1 hk4]
  refine w_iastore X6 D0_86 (M6.at 0 rfl) 1 rfl (by decide) (fun T7 h7 X7 K7 B7 => ?_)
  rw [upd_nI] at B7
  have M7 := M6.st 0 rfl K7 B7
  refine w_dup X7 D0_87 rfl ?_
  refine w_iconst X7 D0_88 (v := (2 : Int32)) rfl ?_
  refine w_iload X7 D0_89 rfl ?_
  refine w_iloadN X7 D0_91 rfl ?_
  refine w_bipush X7 D0_92 (v := (25 : Int32)) rfl ?_
  refine w_iushr X7 D0_94 ?_
  refine w_bipush X7 D0_95 (v := (31 : Int32)) rfl ?_
  refine w_iand X7 D0_97 ?_
  rw [ek5]
  refine w_iushr X7 D0_98 ?_
  rw [n_ushr hu2 hk5]
  refine w_iastore X7 D0_99 (M7.at 0 rfl) 2 rfl (by decide) (fun T8 h8 X8 K8 B8 => ?_)
  rw [upd_nI] at B8
  have M8 := M7.st 0 rfl K8 B8
  refine w_astore X8 D0_100 (l' := #[.val (.int x0), .val (.int x1), .val (.int x2), .val (.int ss), .val (.int oo), .val (.long jj), .second, .val (.int (Int32.ofNat u0)), .val (.int (Int32.ofNat u1)), .val (.int (Int32.ofNat u2)), .val (.ref a1), .val (.ref a5), .unset, .unset, .unset, .unset, .unset, .unset, .unset]) rfl rfl ?_
  refine w_iconst X8 D0_102 (v := (3 : Int32)) rfl ?_
  refine w_newI X8 D0_103 (hw _ (List.mem_of_getElem? (i := 1) rfl)) 3 3 rfl (Nat.le_of_ble_eq_true rfl) (by decide) (Nat.le_of_ble_eq_true rfl) (Nat.le_of_ble_eq_true rfl) (fun T9 h9 a9 X9 g9 E9 B9 => ?_)
  have M9 := M8.cons (g := bI (nI (fun _ => 0))) E9 (Nat.le_of_eq g9.symm) B9
  refine w_dup X9 D0_105 rfl ?_
  refine w_iconst X9 D0_106 (v := (0 : Int32)) rfl ?_
  refine w_iload X9 D0_107 rfl ?_
  refine w_iastore X9 D0_109 (M9.at 0 rfl) 0 rfl (by decide) (fun T10 h10 X10 K10 B10 => ?_)
  rw [upd_nI] at B10
  have M10 := M9.st 0 rfl K10 B10
  refine w_dup X10 D0_110 rfl ?_
  refine w_iconst X10 D0_111 (v := (1 : Int32)) rfl ?_
  refine w_iload X10 D0_112 rfl ?_
  refine w_iastore X10 D0_114 (M10.at 0 rfl) 1 rfl (by decide) (fun T11 h11 X11 K11 B11 => ?_)
  rw [upd_nI] at B11
  have M11 := M10.st 0 rfl K11 B11
  refine w_dup X11 D0_115 rfl ?_
  refine w_iconst X11 D0_116 (v := (2 : Int32)) rfl ?_
  refine w_iload X11 D0_117 rfl ?_
  refine w_iastore X11 D0_119 (M11.at 0 rfl) 2 rfl (by decide) (fun T12 h12 X12 K12 B12 => ?_)
  rw [upd_nI] at B12
  have M12 := M11.st 0 rfl K12 B12
  refine w_astore X12 D0_120 (l' := #[.val (.int x0), .val (.int x1), .val (.int x2), .val (.int ss), .val (.int oo), .val (.long jj), .second, .val (.int (Int32.ofNat u0)), .val (.int (Int32.ofNat u1)), .val (.int (Int32.ofNat u2)), .val (.ref a1), .val (.ref a5), .val (.ref a9), .unset, .unset, .unset, .unset, .unset, .unset]) rfl rfl ?_
  refine w_bipush X12 D0_122 (v := (16 : Int32)) rfl ?_
  refine w_newJ X12 D0_124 (hw _ (List.mem_of_getElem? (i := 2) rfl)) 16 16 rfl (Nat.le_of_ble_eq_true rfl) (by decide) (Nat.le_of_ble_eq_true rfl) (Nat.le_of_ble_eq_true rfl) (fun T13 h13 a13 X13 g13 E13 B13 => ?_)
  have M13 := M12.cons (g := bJ (nJ (fun _ => 0))) E13 (Nat.le_of_eq g13.symm) B13
  refine w_astore X13 D0_126 (l' := #[.val (.int x0), .val (.int x1), .val (.int x2), .val (.int ss), .val (.int oo), .val (.long jj), .second, .val (.int (Int32.ofNat u0)), .val (.int (Int32.ofNat u1)), .val (.int (Int32.ofNat u2)), .val (.ref a1), .val (.ref a5), .val (.ref a9), .val (.ref a13), .unset, .unset, .unset, .unset, .unset]) rfl rfl ?_
  refine w_bipush X13 D0_128 (v := (19 : Int32)) rfl ?_
  refine w_newJ X13 D0_130 (hw _ (List.mem_of_getElem? (i := 2) rfl)) 19 19 rfl (Nat.le_of_ble_eq_true rfl) (by decide) (Nat.le_of_ble_eq_true rfl) (Nat.le_of_ble_eq_true rfl) (fun T14 h14 a14 X14 g14 E14 B14 => ?_)
  have M14 := M13.cons (g := bJ (fun _ => 0)) E14 (Nat.le_of_eq g14.symm) B14
  refine w_astore X14 D0_132 (l' := #[.val (.int x0), .val (.int x1), .val (.int x2), .val (.int ss), .val (.int oo), .val (.long jj), .second, .val (.int (Int32.ofNat u0)), .val (.int (Int32.ofNat u1)), .val (.int (Int32.ofNat u2)), .val (.ref a1), .val (.ref a5), .val (.ref a9), .val (.ref a13), .val (.ref a14), .unset, .unset, .unset, .unset]) rfl rfl ?_
  refine w_iconst X14 D0_134 (v := (3 : Int32)) rfl ?_
  refine w_newI X14 D0_135 (hw _ (List.mem_of_getElem? (i := 1) rfl)) 3 3 rfl (Nat.le_of_ble_eq_true rfl) (by decide) (Nat.le_of_ble_eq_true rfl) (Nat.le_of_ble_eq_true rfl) (fun T15 h15 a15 X15 g15 E15 B15 => ?_)
  have M15 := M14.cons (g := bI (fun _ => 0)) E15 (Nat.le_of_eq g15.symm) B15
  refine w_dup X15 D0_137 rfl ?_
  refine w_iconst X15 D0_138 (v := (0 : Int32)) rfl ?_
  refine w_lload X15 D0_139 rfl ?_
  refine w_l2i X15 D0_141 ?_
  refine w_iastore X15 D0_142 (M15.at 0 rfl) 0 rfl (by decide) (fun T16 h16 X16 K16 B16 => ?_)
  have M16 := M15.st 0 rfl K16 B16
  refine w_dup X16 D0_143 rfl ?_
  refine w_iconst X16 D0_144 (v := (1 : Int32)) rfl ?_
  refine w_lload X16 D0_145 rfl ?_
  refine w_bipush X16 D0_147 (v := (21 : Int32)) rfl ?_
  refine w_lushr X16 D0_149 ?_
  refine w_l2i X16 D0_150 ?_
  refine w_iastore X16 D0_151 (M16.at 0 rfl) 1 rfl (by decide) (fun T17 h17 X17 K17 B17 => ?_)
  have M17 := M16.st 0 rfl K17 B17
  refine w_dup X17 D0_152 rfl ?_
  refine w_iconst X17 D0_153 (v := (2 : Int32)) rfl ?_
  refine w_lload X17 D0_154 rfl ?_
  refine w_bipush X17 D0_156 (v := (42 : Int32)) rfl ?_
  refine w_lushr X17 D0_158 ?_
  refine w_l2i X17 D0_159 ?_
  refine w_iastore X17 D0_160 (M17.at 0 rfl) 2 rfl (by decide) (fun T18 h18 X18 K18 B18 => ?_)
  have M18 := M17.st 0 rfl K18 B18
  refine w_astore X18 D0_161 (l' := #[.val (.int x0), .val (.int x1), .val (.int x2), .val (.int ss), .val (.int oo), .val (.long jj), .second, .val (.int (Int32.ofNat u0)), .val (.int (Int32.ofNat u1)), .val (.int (Int32.ofNat u2)), .val (.ref a1), .val (.ref a5), .val (.ref a9), .val (.ref a13), .val (.ref a14), .val (.ref a15), .unset, .unset, .unset]) rfl rfl ?_
  refine w_iload X18 D0_163 rfl ?_
  refine w_iconst X18 D0_165 (v := (3 : Int32)) rfl ?_
  refine w_iand X18 D0_166 ?_
  rw [eoff]
  refine w_istore X18 D0_167 (l' := #[.val (.int x0), .val (.int x1), .val (.int x2), .val (.int ss), .val (.int oo), .val (.long jj), .second, .val (.int (Int32.ofNat u0)), .val (.int (Int32.ofNat u1)), .val (.int (Int32.ofNat u2)), .val (.ref a1), .val (.ref a5), .val (.ref a9), .val (.ref a13), .val (.ref a14), .val (.ref a15), .val (.int (Int32.ofNat off)), .unset, .unset]) rfl ?_
  exact law2 hw X18 x0 x1 x2 ss oo jj u0 u1 u2 off a15 a14 a13 a9 a5 a1 _ _ _ _ (fun s hs => by
    have hc : s = 0 ∨ s = 1 ∨ s = 2 := by omega
    rcases hc with rfl | rfl | rfl
    · exact hu0
    · exact hu1
    · exact hu2) (fun s hs => by
    have hc : s = 0 ∨ s = 1 ∨ s = 2 := by omega
    rcases hc with rfl | rfl | rfl
    · exact Nat.lt_of_le_of_lt (Nat.div_le_self _ _) hu0
    · exact Nat.lt_of_le_of_lt (Nat.div_le_self _ _) hu1
    · exact Nat.lt_of_le_of_lt (Nat.div_le_self _ _) hu2) (fun s hs => by
    have hc : s = 0 ∨ s = 1 ∨ s = 2 := by omega
    rcases hc with rfl | rfl | rfl
    · exact Nat.lt_of_le_of_lt (Nat.div_le_self _ _) hu0
    · exact Nat.lt_of_le_of_lt (Nat.div_le_self _ _) hu1
    · exact Nat.lt_of_le_of_lt (Nat.div_le_self _ _) hu2) rfl rfl rfl hoff M18
set_option maxRecDepth 65536 in
set_option maxHeartbeats 40000000 in
theorem comes_1 {Post : Tables → Env → Array Value → State → Outcome → State → Prop} (hpost : ∀ tb e args s v u, (limb_1_1.after args s (.returned v) u = true ∧ limb_1_2.after args s (.returned v) u = true ∧ True) → FrameEnd s (.returned v) u (Jvm.fieldLocs frame_1_writes args s ++ Jvm.arrayLocs frame_1_arrays args s ++ Jvm.staticLocs frame_1_statics s) 72 384 → Post tb e args s (.returned v) u) :
    ArmFor flags0 classFile x code maxLocals ret World_1 tables_1 room_1 Calls_1 rest_1 Pre_1 Post := by
  intro l hfl _ _ p e ha hc hk s m args below hf hA hF happ hP
  obtain ⟨hcalls, hrest, hpre⟩ := hP
  obtain ⟨-, -, -, hnamed, -, -, -, hat⟩ := (Spec.applies_iff hf).mp happ
  obtain ⟨hg, hn⟩ := and_e (Cond.before_iff.mp (show (Jvm.Cond.and given_1 narrow_1).before args s = true from hpre))
  obtain ⟨hcount, g0⟩ := and_e hg
  obtain ⟨ga0, g1⟩ := and_e g0
  obtain ⟨ga1, g2⟩ := and_e g1
  obtain ⟨ga2, g3⟩ := and_e g2
  obtain ⟨ga3, g4⟩ := and_e g3
  obtain ⟨ga4, g5⟩ := and_e g4
  obtain ⟨w0, w1, w2, w3, w4, w5, rfl⟩ : ∃ w0 w1 w2 w3 w4 w5 : Value, args = #[w0, w1, w2, w3, w4, w5] := by
    have hs : args.size = 6 := by simpa [Cond.value, given_1] using hcount
    obtain ⟨L⟩ := args
    match L, hs with
    | [w0, w1, w2, w3, w4, w5], _ => exact ⟨w0, w1, w2, w3, w4, w5, rfl⟩
  have hw := fun d (hd : d ∈ tables_1) => atoms_spec (ws := Jvm.Cond.code x code maxLocals ret :: tables_1) hat d (List.mem_cons_of_mem _ hd)
  obtain ⟨i0, ei0⟩ := is_v ga0
  obtain rfl : w0 = (.int i0) := Option.some.inj ei0
  obtain ⟨i1, ei1⟩ := is_v ga1
  obtain rfl : w1 = (.int i1) := Option.some.inj ei1
  obtain ⟨i2, ei2⟩ := is_v ga2
  obtain rfl : w2 = (.int i2) := Option.some.inj ei2
  obtain ⟨i3, ei3⟩ := is_v ga3
  obtain rfl : w3 = (.int i3) := Option.some.inj ei3
  obtain ⟨i4, ei4⟩ := is_v ga4
  obtain rfl : w4 = (.int i4) := Option.some.inj ei4
  obtain ⟨i5, ei5⟩ := isL_v g5
  obtain rfl : w5 = (.long i5) := Option.some.inj ei5
  obtain ⟨n, o, h1, h2, h3, _, L, rfl, ⟨N, -, rfl⟩, hq⟩ := rm0 (l := l) (Z := s) (n0 := s.heap.size) (h := s.heap) hw (Nat.le_refl _) i0 i1 i2 i3 i4 i5 p e ha hc hk s m _ below hf ((Spec.applies_iff_loose hf).mp happ).1 ⟨rfl, State.Warmed39.refl s, rfl⟩ trivial
  refine ⟨n, _, h1, h2, h3, hpost _ _ _ _ _ _ ⟨Cond.after_iff.mpr rfl, Cond.after_iff.mpr (eq_i res_at (Term.int_eval (1)) rfl), trivial⟩ ⟨hq.1, hq.2.1, (hq.2.2.sift fun y hy => Or.inr (N y hy)).mono (by decide) (by decide)⟩⟩
theorem main_1_1 : Claimed_1_1 := comes_1 fun _ _ _ _ _ _ h hF => ⟨h.1, hF⟩
theorem main_1_2 : Claimed_1_2 := comes_1 fun _ _ _ _ _ _ h hF => ⟨h.2.1, hF⟩
end Jvm.Pilot.@@N@@
namespace Jvm.Pilot.@@N@@
open Jvm Jvm.ClassFile Sem Op Lib Jvm.Free Jvm.Stand Jvm.Pilot.@@N@@.Jvm.D
/-! MADE BY PROGRAM (witnessworld.py) out of the Statement's table words and the real class files: 19 classes; the members and pool entries that the words name. The judged class is class 1, her method 1. -/
namespace start1
open Jvm.ClassFile
def u (s : String) : CpInfo := .utf8 (stringToUtf16 s)
/-- a pool by its gaps: so many unusable entries, then the entry; so many at the end -/
def gap : Nat → List CpInfo → List CpInfo
  | 0, r => r
  | n + 1, r => .unusable :: gap n r
def poolList (es : List (Nat × CpInfo)) (last : Nat) : List CpInfo := es.foldr (fun e r => gap e.1 (e.2 :: r)) (gap last [])
def pool (es : List (Nat × CpInfo)) (last : Nat) : Array CpInfo := ⟨poolList es last⟩
def fileOf (pool : Array CpInfo) (this : Nat) (attrs : Array Attribute := #[]) (ms : Array MethodInfo := #[]) (fl : Nat := 33) (sup : Nat := 0) (ifs : Array Nat := #[]) (fds : Array FieldInfo := #[]) : ClassFile where
  minorVersion := 0
  majorVersion := 65
  constantPool := pool
  accessFlags := fl
  thisClass := this
  superClass := sup
  interfaces := ifs
  fields := fds
  methods := ms
  attributes := attrs
def plain (name : String) (sup : Option ClassId) : Class where
  name := name
  kind := .ordinary
  loader := none
  accessFlags := 33
  super := sup
  interfaces := #[]
  cf := none
  fields := #[]
  methods := #[]
  instanceTypes := #[]
  staticTypes := #[]
  resolved := #[]
  callSites := []
  init := .initialized
  statics := none
  mirror := none

def pool0 : Array CpInfo := pool [(5, u "<init>"), (0, u "()V"), (1, .class_ 10), (1, u "java/lang/Object")] 113

def k0c0 : Code := { maxStack := 0, maxLocals := 1, code := object_method_1_code, exceptionTable := #[], attributes := #[] }
def k0m0 : Method := { name := "<init>", desc := "()V", sig := { parameters := [], returnType := none }, accessFlags := 1, code := some k0c0 }
/-- java/lang/Object -/
def k0 : Class := { plain "java/lang/Object" none with
  accessFlags := 33
  interfaces := #[]
  cf := some (fileOf pool0 8 #[] #[{ accessFlags := 1, nameIndex := 5, descriptorIndex := 6, attributes := #[] }] 33 0 #[] #[])
  fields := #[]
  methods := #[k0m0]
  instanceTypes := #[]
  staticTypes := #[]
  resolved := Array.replicate 124 none
  statics := none }

def pool1 : Array CpInfo := pool [(2, .class_ 4), (1, u "java/lang/Object"), (0, u "<init>"), (0, u "()V"), (0, .integer 2147483647), (0, .class_ 9), (0, u "com/example/tokenfold/tokenfold/statespace/Packing"), (0, .methodref 8 11), (0, .nameAndType 5 12), (0, u "([I)V"), (0, .methodref 8 14), (0, .nameAndType 15 12), (0, u "widen"), (0, .methodref 8 17), (0, .nameAndType 18 19), (0, u "pack"), (0, u "([I[J)Z"), (0, .methodref 21 22), (0, .class_ 23), (0, .nameAndType 24 25), (0, u "com/example/tokenfold/tokenfold/statespace/PackingUnpackPinLaw"), (0, u "copy"), (0, u "([J[JI)V"), (0, .methodref 8 27), (0, .nameAndType 28 29), (0, u "unpack"), (0, u "([JI[I)V"), (2, u "law"), (0, u "(IIIIIJ)Z")] 7

def k1m0 : Method := { name := "<init>", desc := "()V", sig := { parameters := [], returnType := none }, accessFlags := 1, code := none }
def k1c1 : Code := { maxStack := 6, maxLocals := 19, code := code, exceptionTable := #[], attributes := #[] }
def k1m1 : Method := { name := "law", desc := "(IIIIIJ)Z", sig := { parameters := [.int, .int, .int, .int, .int, .long], returnType := some .boolean }, accessFlags := 9, code := some k1c1 }
def k1c2 : Code := { maxStack := 4, maxLocals := 3, code := method_3_code, exceptionTable := #[], attributes := #[] }
def k1m2 : Method := { name := "copy", desc := "([J[JI)V", sig := { parameters := [(.array .long), (.array .long), .int], returnType := none }, accessFlags := 10, code := some k1c2 }
/-- com/example/tokenfold/tokenfold/statespace/PackingUnpackPinLaw -/
def k1 : Class := { plain "com/example/tokenfold/tokenfold/statespace/PackingUnpackPinLaw" (some 0) with
  accessFlags := 49
  interfaces := #[]
  cf := some (fileOf pool1 21 #[] #[{ accessFlags := 1, nameIndex := 5, descriptorIndex := 6, attributes := #[] }, { accessFlags := 9, nameIndex := 32, descriptorIndex := 33, attributes := #[] }, { accessFlags := 10, nameIndex := 24, descriptorIndex := 25, attributes := #[] }] 49 2 #[] #[])
  fields := #[]
  methods := #[k1m0, k1m1, k1m2]
  instanceTypes := #[]
  staticTypes := #[]
  resolved := Array.replicate 41 none
  statics := none }

def pool2 : Array CpInfo := pool [(1, .methodref 2 3), (0, .class_ 4), (0, .nameAndType 5 6), (0, u "java/lang/Object"), (0, u "<init>"), (0, u "()V"), (0, .fieldref 8 9), (0, .class_ 10), (0, .nameAndType 11 12), (0, u "com/example/tokenfold/tokenfold/statespace/Packing"), (0, u "extraSlots"), (0, u "[I"), (0, .fieldref 8 14), (0, .nameAndType 15 12), (0, u "extraWords"), (0, .fieldref 8 17), (0, .nameAndType 18 12), (0, u "extraShifts"), (0, .fieldref 8 20), (0, .nameAndType 21 12), (0, u "extraLows"), (0, .fieldref 8 23), (0, .nameAndType 24 25), (0, u "extraMasks"), (0, u "[J"), (0, .fieldref 8 27), (0, .nameAndType 28 12), (0, u "nextExtras"), (0, .fieldref 8 30), (0, .nameAndType 31 12), (0, u "words"), (0, .fieldref 8 33), (0, .nameAndType 34 12), (0, u "shifts"), (0, .fieldref 8 36), (0, .nameAndType 37 25), (0, u "masks"), (0, .fieldref 8 39), (0, .nameAndType 40 12), (0, u "widths"), (0, .fieldref 8 42), (0, .nameAndType 43 12), (0, u "firstExtras"), (0, .fieldref 8 45), (0, .nameAndType 46 12), (0, u "lastExtras"), (0, .methodref 48 49), (0, .class_ 50), (0, .nameAndType 51 52), (0, u "java/util/Arrays"), (0, u "fill"), (0, u "([II)V"), (0, .methodref 8 54), (0, .nameAndType 55 56), (0, u "bits"), (0, u "(I)I"), (0, .methodref 8 58), (0, .nameAndType 59 60), (0, u "place"), (0, u "(I)V"), (0, .fieldref 8 62), (0, .nameAndType 63 64), (0, u "end"), (0, u "J"), (2, .long 64), (1, .methodref 70 71), (0, .class_ 72), (0, .nameAndType 73 74), (0, u "java/lang/Math"), (0, u "max"), (0, u "(II)I"), (0, .fieldref 8 76), (0, .nameAndType 77 78), (0, u "recordWords"), (0, u "I"), (0, .methodref 48 80), (0, .nameAndType 51 81), (0, u "([JIIJ)V"), (0, .fieldref 8 83), (0, .nameAndType 84 78), (0, u "extras"), (2, .methodref 70 88), (0, .nameAndType 89 74), (0, u "min"), (0, .methodref 8 91), (0, .nameAndType 92 93), (0, u "addExtra"), (0, u "(II)V"), (0, .methodref 70 95), (0, .nameAndType 73 96), (0, u "(JJ)J"), (0, .methodref 70 98), (0, .nameAndType 99 100), (0, u "toIntExact"), (0, u "(J)I"), (0, .methodref 48 102), (0, .nameAndType 103 104), (0, u "copyOf"), (0, u "([II)[I"), (0, .methodref 48 106), (0, .nameAndType 103 107), (0, u "([JI)[J"), (0, .class_ 109), (0, u "java/lang/Integer"), (0, .methodref 108 111), (0, .nameAndType 112 56), (0, u "numberOfLeadingZeros"), (0, u "MOST_BITS"), (2, u "([I)V"), (5, u "pack"), (0, u "([I[J)Z"), (3, u "unpack"), (0, u "([JI[I)V"), (0, u "widen")] 2

def k2c0 : Code := { maxStack := 6, maxLocals := 5, code := prog_60_method_1_code, exceptionTable := #[], attributes := #[] }
def k2m0 : Method := { name := "<init>", desc := "([I)V", sig := { parameters := [(.array .int)], returnType := none }, accessFlags := 0, code := some k2c0 }
def k2c1 : Code := { maxStack := 8, maxLocals := 6, code := prog_60_method_3_code, exceptionTable := #[], attributes := #[] }
def k2m1 : Method := { name := "pack", desc := "([I[J)Z", sig := { parameters := [(.array .int), (.array .long)], returnType := some .boolean }, accessFlags := 0, code := some k2c1 }
def k2c2 : Code := { maxStack := 7, maxLocals := 7, code := prog_60_method_5_code, exceptionTable := #[], attributes := #[] }
def k2m2 : Method := { name := "unpack", desc := "([JI[I)V", sig := { parameters := [(.array .long), .int, (.array .int)], returnType := none }, accessFlags := 0, code := some k2c2 }
def k2c3 : Code := { maxStack := 7, maxLocals := 4, code := prog_60_method_6_code, exceptionTable := #[], attributes := #[] }
def k2m3 : Method := { name := "widen", desc := "([I)V", sig := { parameters := [(.array .int)], returnType := none }, accessFlags := 0, code := some k2c3 }
def k2c4 : Code := { maxStack := 6, maxLocals := 4, code := prog_60_method_7_code, exceptionTable := #[], attributes := #[] }
def k2m4 : Method := { name := "addExtra", desc := "(II)V", sig := { parameters := [.int, .int], returnType := none }, accessFlags := 2, code := some k2c4 }
def k2c5 : Code := { maxStack := 9, maxLocals := 2, code := prog_60_method_8_code, exceptionTable := #[], attributes := #[] }
def k2m5 : Method := { name := "place", desc := "(I)V", sig := { parameters := [.int], returnType := none }, accessFlags := 2, code := some k2c5 }
def k2c6 : Code := { maxStack := 3, maxLocals := 1, code := prog_60_method_9_code, exceptionTable := #[], attributes := #[] }
def k2m6 : Method := { name := "bits", desc := "(I)I", sig := { parameters := [.int], returnType := some .int }, accessFlags := 10, code := some k2c6 }
/-- com/example/tokenfold/tokenfold/statespace/Packing -/
def k2 : Class := { plain "com/example/tokenfold/tokenfold/statespace/Packing" (some 0) with
  accessFlags := 32
  interfaces := #[]
  cf := some (fileOf pool2 8 #[] #[{ accessFlags := 0, nameIndex := 5, descriptorIndex := 116, attributes := #[] }, { accessFlags := 0, nameIndex := 122, descriptorIndex := 123, attributes := #[] }, { accessFlags := 0, nameIndex := 127, descriptorIndex := 128, attributes := #[] }, { accessFlags := 0, nameIndex := 129, descriptorIndex := 116, attributes := #[] }, { accessFlags := 2, nameIndex := 92, descriptorIndex := 93, attributes := #[] }, { accessFlags := 2, nameIndex := 59, descriptorIndex := 60, attributes := #[] }, { accessFlags := 10, nameIndex := 55, descriptorIndex := 56, attributes := #[] }] 32 2 #[] #[{ accessFlags := 26, nameIndex := 113, descriptorIndex := 78, attributes := #[] }, { accessFlags := 18, nameIndex := 31, descriptorIndex := 12, attributes := #[] }, { accessFlags := 18, nameIndex := 34, descriptorIndex := 12, attributes := #[] }, { accessFlags := 18, nameIndex := 37, descriptorIndex := 25, attributes := #[] }, { accessFlags := 18, nameIndex := 40, descriptorIndex := 12, attributes := #[] }, { accessFlags := 18, nameIndex := 43, descriptorIndex := 12, attributes := #[] }, { accessFlags := 18, nameIndex := 46, descriptorIndex := 12, attributes := #[] }, { accessFlags := 2, nameIndex := 11, descriptorIndex := 12, attributes := #[] }, { accessFlags := 2, nameIndex := 15, descriptorIndex := 12, attributes := #[] }, { accessFlags := 2, nameIndex := 18, descriptorIndex := 12, attributes := #[] }, { accessFlags := 2, nameIndex := 21, descriptorIndex := 12, attributes := #[] }, { accessFlags := 2, nameIndex := 24, descriptorIndex := 25, attributes := #[] }, { accessFlags := 2, nameIndex := 28, descriptorIndex := 12, attributes := #[] }, { accessFlags := 2, nameIndex := 84, descriptorIndex := 78, attributes := #[] }, { accessFlags := 2, nameIndex := 63, descriptorIndex := 64, attributes := #[] }, { accessFlags := 2, nameIndex := 77, descriptorIndex := 78, attributes := #[] }])
  fields := #[{ name := "MOST_BITS", type := .int, accessFlags := 26, slot := 0, constantValue := 0 }, { name := "words", type := (.array .int), accessFlags := 18, slot := 0, constantValue := 0 }, { name := "shifts", type := (.array .int), accessFlags := 18, slot := 1, constantValue := 0 }, { name := "masks", type := (.array .long), accessFlags := 18, slot := 2, constantValue := 0 }, { name := "widths", type := (.array .int), accessFlags := 18, slot := 3, constantValue := 0 }, { name := "firstExtras", type := (.array .int), accessFlags := 18, slot := 4, constantValue := 0 }, { name := "lastExtras", type := (.array .int), accessFlags := 18, slot := 5, constantValue := 0 }, { name := "extraSlots", type := (.array .int), accessFlags := 2, slot := 6, constantValue := 0 }, { name := "extraWords", type := (.array .int), accessFlags := 2, slot := 7, constantValue := 0 }, { name := "extraShifts", type := (.array .int), accessFlags := 2, slot := 8, constantValue := 0 }, { name := "extraLows", type := (.array .int), accessFlags := 2, slot := 9, constantValue := 0 }, { name := "extraMasks", type := (.array .long), accessFlags := 2, slot := 10, constantValue := 0 }, { name := "nextExtras", type := (.array .int), accessFlags := 2, slot := 11, constantValue := 0 }, { name := "extras", type := .int, accessFlags := 2, slot := 12, constantValue := 0 }, { name := "end", type := .long, accessFlags := 2, slot := 13, constantValue := 0 }, { name := "recordWords", type := .int, accessFlags := 2, slot := 14, constantValue := 0 }]
  methods := #[k2m0, k2m1, k2m2, k2m3, k2m4, k2m5, k2m6]
  instanceTypes := #[(.array .int), (.array .int), (.array .long), (.array .int), (.array .int), (.array .int), (.array .int), (.array .int), (.array .int), (.array .int), (.array .long), (.array .int), .int, .long, .int]
  staticTypes := #[.int]
  resolved := Array.replicate 132 none
  statics := none }

def pool3 : Array CpInfo := pool [(2, .class_ 4), (1, u "java/lang/Object"), (0, u "<init>"), (0, u "()V"), (6, .methodref 14 15), (0, .class_ 16), (0, .nameAndType 17 18), (0, u "java/util/Arrays"), (0, u "rangeCheck"), (0, u "(III)V"), (55, .class_ 76), (1, u "java/util/Arrays$NaturalOrder"), (36, .class_ 115), (1, u "java/util/Arrays$LegacyMergeSort"), (1, u "Z"), (32, .methodref 151 152), (0, .class_ 153), (0, .nameAndType 154 155), (0, u "java/lang/System"), (0, u "arraycopy"), (0, u "(Ljava/lang/Object;ILjava/lang/Object;II)V"), (146, u "copyOf"), (1, .methodref 305 306), (0, .class_ 307), (0, .nameAndType 308 309), (0, u "java/lang/Math"), (0, u "min"), (0, u "(II)I"), (65, .class_ 376), (0, u "java/util/Arrays$ArrayList"), (68, u "$assertionsDisabled"), (269, u "MIN_ARRAY_SORT_GRAN"), (0, u "I"), (2, u "INSERTIONSORT_THRESHOLD"), (120, u "fill"), (3, u "([JIIJ)V"), (0, u "([II)V"), (25, u "([II)[I"), (0, u "([JI)[J"), (102, .class_ 976), (0, u "java/util/Arrays$ArrayItr")] 52

def k3m0 : Method := { name := "<init>", desc := "()V", sig := { parameters := [], returnType := none }, accessFlags := 2, code := none }
def k3c1 : Code := { maxStack := 4, maxLocals := 3, code := jdk_65_method_30_code, exceptionTable := #[], attributes := #[] }
def k3m1 : Method := { name := "rangeCheck", desc := "(III)V", sig := { parameters := [.int, .int, .int], returnType := none }, accessFlags := 8, code := some k3c1 }
def k3c2 : Code := { maxStack := 4, maxLocals := 6, code := jdk_65_method_102_code, exceptionTable := #[], attributes := #[] }
def k3m2 : Method := { name := "fill", desc := "([JIIJ)V", sig := { parameters := [(.array .long), .int, .int, .long], returnType := none }, accessFlags := 9, code := some k3c2 }
def k3c3 : Code := { maxStack := 3, maxLocals := 4, code := jdk_65_method_103_code, exceptionTable := #[], attributes := #[] }
def k3m3 : Method := { name := "fill", desc := "([II)V", sig := { parameters := [(.array .int), .int], returnType := none }, accessFlags := 9, code := some k3c3 }
def k3c4 : Code := { maxStack := 6, maxLocals := 3, code := jdk_65_method_123_code, exceptionTable := #[], attributes := #[] }
def k3m4 : Method := { name := "copyOf", desc := "([II)[I", sig := { parameters := [(.array .int), .int], returnType := some (.array .int) }, accessFlags := 9, code := some k3c4 }
def k3c5 : Code := { maxStack := 6, maxLocals := 3, code := jdk_65_method_124_code, exceptionTable := #[], attributes := #[] }
def k3m5 : Method := { name := "copyOf", desc := "([JI)[J", sig := { parameters := [(.array .long), .int], returnType := some (.array .long) }, accessFlags := 9, code := some k3c5 }
/-- java/util/Arrays -/
def k3 : Class := { plain "java/util/Arrays" (some 0) with
  accessFlags := 49
  interfaces := #[]
  cf := some (fileOf pool3 14 #[.nestMembers #[975, 375, 113, 74]] #[{ accessFlags := 2, nameIndex := 5, descriptorIndex := 6, attributes := #[] }, { accessFlags := 8, nameIndex := 17, descriptorIndex := 18, attributes := #[] }, { accessFlags := 9, nameIndex := 840, descriptorIndex := 844, attributes := #[] }, { accessFlags := 9, nameIndex := 840, descriptorIndex := 845, attributes := #[] }, { accessFlags := 9, nameIndex := 302, descriptorIndex := 871, attributes := #[] }, { accessFlags := 9, nameIndex := 302, descriptorIndex := 872, attributes := #[] }] 49 2 #[] #[{ accessFlags := 26, nameIndex := 715, descriptorIndex := 716, attributes := #[] }, { accessFlags := 26, nameIndex := 719, descriptorIndex := 716, attributes := #[] }, { accessFlags := 4120, nameIndex := 445, descriptorIndex := 117, attributes := #[] }])
  fields := #[{ name := "MIN_ARRAY_SORT_GRAN", type := .int, accessFlags := 26, slot := 0, constantValue := 0 }, { name := "INSERTIONSORT_THRESHOLD", type := .int, accessFlags := 26, slot := 1, constantValue := 0 }, { name := "$assertionsDisabled", type := .boolean, accessFlags := 4120, slot := 2, constantValue := 0 }]
  methods := #[k3m0, k3m1, k3m2, k3m3, k3m4, k3m5]
  instanceTypes := #[]
  staticTypes := #[.int, .int, .boolean]
  resolved := Array.replicate 1029 none
  statics := none }

def pool4 : Array CpInfo := pool [(1, .class_ 2), (0, u "java/io/Serializable"), (0, .class_ 4), (0, u "java/lang/Object")] 2

/-- java/io/Serializable -/
def k4 : Class := { plain "java/io/Serializable" (some 0) with
  accessFlags := 1537
  interfaces := #[]
  cf := some (fileOf pool4 1 #[] #[] 1537 3 #[] #[])
  fields := #[]
  methods := #[]
  instanceTypes := #[]
  staticTypes := #[]
  resolved := Array.replicate 7 none
  statics := none }

def pool5 : Array CpInfo := pool [(2, .class_ 4), (1, u "java/lang/Object"), (0, u "<init>"), (0, u "()V"), (1, .class_ 10), (1, u "java/lang/Number"), (2, .class_ 14), (0, u "java/io/Serializable"), (0, u "serialVersionUID"), (0, u "J")] 20

def k5m0 : Method := { name := "<init>", desc := "()V", sig := { parameters := [], returnType := none }, accessFlags := 1, code := none }
/-- java/lang/Number -/
def k5 : Class := { plain "java/lang/Number" (some 0) with
  accessFlags := 1057
  interfaces := #[4]
  cf := some (fileOf pool5 8 #[] #[{ accessFlags := 1, nameIndex := 5, descriptorIndex := 6, attributes := #[] }] 1057 2 #[13] #[{ accessFlags := 26, nameIndex := 15, descriptorIndex := 16, attributes := #[] }])
  fields := #[{ name := "serialVersionUID", type := .long, accessFlags := 26, slot := 0, constantValue := 0 }]
  methods := #[k5m0]
  instanceTypes := #[]
  staticTypes := #[.long]
  resolved := Array.replicate 37 none
  statics := none }

def pool6 : Array CpInfo := pool [(1, .class_ 2), (0, u "java/lang/Comparable"), (0, .class_ 4), (0, u "java/lang/Object")] 7

/-- java/lang/Comparable -/
def k6 : Class := { plain "java/lang/Comparable" (some 0) with
  accessFlags := 1537
  interfaces := #[]
  cf := some (fileOf pool6 1 #[] #[] 1537 3 #[] #[])
  fields := #[]
  methods := #[]
  instanceTypes := #[]
  staticTypes := #[]
  resolved := Array.replicate 12 none
  statics := none }

def pool7 : Array CpInfo := pool [(1, .class_ 2), (0, u "java/lang/constant/Constable"), (0, .class_ 4), (0, u "java/lang/Object")] 6

/-- java/lang/constant/Constable -/
def k7 : Class := { plain "java/lang/constant/Constable" (some 0) with
  accessFlags := 1537
  interfaces := #[]
  cf := some (fileOf pool7 1 #[] #[] 1537 3 #[] #[])
  fields := #[]
  methods := #[]
  instanceTypes := #[]
  staticTypes := #[]
  resolved := Array.replicate 11 none
  statics := none }

def pool8 : Array CpInfo := pool [(1, .class_ 2), (0, u "java/lang/constant/ConstantDesc"), (0, .class_ 4), (0, u "java/lang/Object")] 32

/-- java/lang/constant/ConstantDesc -/
def k8 : Class := { plain "java/lang/constant/ConstantDesc" (some 0) with
  accessFlags := 1537
  interfaces := #[]
  cf := some (fileOf pool8 1 #[] #[] 1537 3 #[] #[])
  fields := #[]
  methods := #[]
  instanceTypes := #[]
  staticTypes := #[]
  resolved := Array.replicate 37 none
  statics := none }

def pool9 : Array CpInfo := pool [(1, .class_ 2), (0, u "java/lang/Integer"), (16, u "digits"), (0, u "[C"), (32, u "numberOfLeadingZeros"), (0, u "(I)I"), (30, u "DigitOnes"), (0, u "[B"), (2, u "DigitTens"), (99, .class_ 190), (0, u "java/lang/Integer$IntegerCache"), (3, u "I"), (8, .class_ 204), (0, u "java/lang/Number"), (2, u "value"), (56, .integer 65536), (37, u "TYPE"), (0, u "Ljava/lang/Class;"), (0, .class_ 305), (0, u "java/lang/Comparable"), (0, .class_ 307), (0, u "java/lang/constant/Constable"), (0, .class_ 309), (0, u "java/lang/constant/ConstantDesc"), (0, u "MIN_VALUE"), (1, u "MAX_VALUE"), (3, u "SIZE"), (1, u "BYTES"), (1, u "serialVersionUID"), (0, u "J")] 131

def k9c0 : Code := { maxStack := 3, maxLocals := 2, code := jdk_33_method_47_code, exceptionTable := #[], attributes := #[] }
def k9m0 : Method := { name := "numberOfLeadingZeros", desc := "(I)I", sig := { parameters := [.int], returnType := some .int }, accessFlags := 9, code := some k9c0 }
/-- java/lang/Integer -/
def k9 : Class := { plain "java/lang/Integer" (some 5) with
  accessFlags := 49
  interfaces := #[6, 7, 8]
  cf := some (fileOf pool9 1 #[.nestMembers #[189]] #[{ accessFlags := 9, nameIndex := 53, descriptorIndex := 54, attributes := #[] }] 49 203 #[304, 306, 308] #[{ accessFlags := 25, nameIndex := 310, descriptorIndex := 194, attributes := #[] }, { accessFlags := 25, nameIndex := 312, descriptorIndex := 194, attributes := #[] }, { accessFlags := 25, nameIndex := 302, descriptorIndex := 303, attributes := #[] }, { accessFlags := 24, nameIndex := 19, descriptorIndex := 20, attributes := #[] }, { accessFlags := 24, nameIndex := 89, descriptorIndex := 86, attributes := #[] }, { accessFlags := 24, nameIndex := 85, descriptorIndex := 86, attributes := #[] }, { accessFlags := 18, nameIndex := 207, descriptorIndex := 194, attributes := #[] }, { accessFlags := 25, nameIndex := 316, descriptorIndex := 194, attributes := #[] }, { accessFlags := 25, nameIndex := 318, descriptorIndex := 194, attributes := #[] }, { accessFlags := 26, nameIndex := 320, descriptorIndex := 321, attributes := #[] }])
  fields := #[{ name := "MIN_VALUE", type := .int, accessFlags := 25, slot := 0, constantValue := 0 }, { name := "MAX_VALUE", type := .int, accessFlags := 25, slot := 1, constantValue := 0 }, { name := "TYPE", type := (.object "java/lang/Class"), accessFlags := 25, slot := 2, constantValue := 0 }, { name := "digits", type := (.array .char), accessFlags := 24, slot := 3, constantValue := 0 }, { name := "DigitTens", type := (.array .byte), accessFlags := 24, slot := 4, constantValue := 0 }, { name := "DigitOnes", type := (.array .byte), accessFlags := 24, slot := 5, constantValue := 0 }, { name := "value", type := .int, accessFlags := 18, slot := 0, constantValue := 0 }, { name := "SIZE", type := .int, accessFlags := 25, slot := 6, constantValue := 0 }, { name := "BYTES", type := .int, accessFlags := 25, slot := 7, constantValue := 0 }, { name := "serialVersionUID", type := .long, accessFlags := 26, slot := 8, constantValue := 0 }]
  methods := #[k9m0]
  instanceTypes := #[.int]
  staticTypes := #[.int, .int, (.object "java/lang/Class"), (.array .char), (.array .byte), (.array .byte), .int, .int, .long]
  resolved := Array.replicate 453 none
  statics := none }

def pool10 : Array CpInfo := pool [(1, .class_ 2), (0, u "java/lang/Math"), (1, .class_ 6), (1, u "java/lang/Object"), (0, u "<init>"), (0, u "()V"), (89, .class_ 100), (1, u "java/lang/Math$RandomNumberGeneratorHolder"), (20, u "(JJ)J"), (50, u "negativeZeroFloatBits"), (0, u "J"), (2, u "negativeZeroDoubleBits"), (21, u "max"), (2, u "min"), (43, u "$assertionsDisabled"), (0, u "Z"), (88, u "(II)I"), (2, u "twoToTheDoubleScaleDown"), (0, u "D"), (4, u "twoToTheDoubleScaleUp"), (9, u "E"), (3, u "PI"), (2, u "TAU"), (2, u "DEGREES_TO_RADIANS"), (0, u "RADIANS_TO_DEGREES"), (39, u "toIntExact"), (0, u "(J)I")] 53

def k10m0 : Method := { name := "<init>", desc := "()V", sig := { parameters := [], returnType := none }, accessFlags := 2, code := none }
def k10c1 : Code := { maxStack := 4, maxLocals := 2, code := jdk_29_method_43_code, exceptionTable := #[], attributes := #[] }
def k10m1 : Method := { name := "toIntExact", desc := "(J)I", sig := { parameters := [.long], returnType := some .int }, accessFlags := 9, code := some k10c1 }
def k10c2 : Code := { maxStack := 2, maxLocals := 2, code := jdk_29_method_65_code, exceptionTable := #[], attributes := #[] }
def k10m2 : Method := { name := "max", desc := "(II)I", sig := { parameters := [.int, .int], returnType := some .int }, accessFlags := 9, code := some k10c2 }
def k10c3 : Code := { maxStack := 4, maxLocals := 4, code := jdk_29_method_66_code, exceptionTable := #[], attributes := #[] }
def k10m3 : Method := { name := "max", desc := "(JJ)J", sig := { parameters := [.long, .long], returnType := some .long }, accessFlags := 9, code := some k10c3 }
def k10c4 : Code := { maxStack := 2, maxLocals := 2, code := jdk_29_method_69_code, exceptionTable := #[], attributes := #[] }
def k10m4 : Method := { name := "min", desc := "(II)I", sig := { parameters := [.int, .int], returnType := some .int }, accessFlags := 9, code := some k10c4 }
/-- java/lang/Math -/
def k10 : Class := { plain "java/lang/Math" (some 0) with
  accessFlags := 49
  interfaces := #[]
  cf := some (fileOf pool10 1 #[.nestMembers #[98]] #[{ accessFlags := 2, nameIndex := 7, descriptorIndex := 8, attributes := #[] }, { accessFlags := 9, nameIndex := 405, descriptorIndex := 406, attributes := #[] }, { accessFlags := 9, nameIndex := 198, descriptorIndex := 335, attributes := #[] }, { accessFlags := 9, nameIndex := 198, descriptorIndex := 121, attributes := #[] }, { accessFlags := 9, nameIndex := 201, descriptorIndex := 335, attributes := #[] }] 49 4 #[] #[{ accessFlags := 25, nameIndex := 354, descriptorIndex := 339, attributes := #[] }, { accessFlags := 25, nameIndex := 358, descriptorIndex := 339, attributes := #[] }, { accessFlags := 25, nameIndex := 361, descriptorIndex := 339, attributes := #[] }, { accessFlags := 26, nameIndex := 364, descriptorIndex := 339, attributes := #[] }, { accessFlags := 26, nameIndex := 365, descriptorIndex := 339, attributes := #[] }, { accessFlags := 26, nameIndex := 172, descriptorIndex := 173, attributes := #[] }, { accessFlags := 26, nameIndex := 176, descriptorIndex := 173, attributes := #[] }, { accessFlags := 8, nameIndex := 344, descriptorIndex := 339, attributes := #[] }, { accessFlags := 8, nameIndex := 338, descriptorIndex := 339, attributes := #[] }, { accessFlags := 4120, nameIndex := 245, descriptorIndex := 246, attributes := #[] }])
  fields := #[{ name := "E", type := .double, accessFlags := 25, slot := 0, constantValue := 0 }, { name := "PI", type := .double, accessFlags := 25, slot := 1, constantValue := 0 }, { name := "TAU", type := .double, accessFlags := 25, slot := 2, constantValue := 0 }, { name := "DEGREES_TO_RADIANS", type := .double, accessFlags := 26, slot := 3, constantValue := 0 }, { name := "RADIANS_TO_DEGREES", type := .double, accessFlags := 26, slot := 4, constantValue := 0 }, { name := "negativeZeroFloatBits", type := .long, accessFlags := 26, slot := 5, constantValue := 0 }, { name := "negativeZeroDoubleBits", type := .long, accessFlags := 26, slot := 6, constantValue := 0 }, { name := "twoToTheDoubleScaleUp", type := .double, accessFlags := 8, slot := 7, constantValue := 0 }, { name := "twoToTheDoubleScaleDown", type := .double, accessFlags := 8, slot := 8, constantValue := 0 }, { name := "$assertionsDisabled", type := .boolean, accessFlags := 4120, slot := 9, constantValue := 0 }]
  methods := #[k10m0, k10m1, k10m2, k10m3, k10m4]
  instanceTypes := #[]
  staticTypes := #[.double, .double, .double, .double, .double, .long, .long, .double, .double, .boolean]
  resolved := Array.replicate 460 none
  statics := none }

def pool11 : Array CpInfo := pool [(2, .class_ 4), (1, u "java/lang/Object"), (0, u "<init>"), (0, u "()V"), (1, .class_ 10), (1, u "java/lang/System"), (0, u "allowSecurityManager"), (0, u "I"), (16, u "cons"), (0, u "Ljava/io/Console;"), (77, .class_ 110), (1, u "java/lang/System$CallersHolder"), (43, u "initialErrStream"), (0, u "Ljava/io/PrintStream;"), (19, u "security"), (0, u "Ljava/lang/SecurityManager;"), (31, .class_ 209), (0, u "java/lang/System$1"), (7, u "props"), (0, u "Ljava/util/Properties;"), (2, u "lineSeparator"), (0, u "Ljava/lang/String;"), (96, .class_ 321), (1, u "java/lang/System$LoggerFinder"), (5, .class_ 328), (0, u "java/lang/System$Logger"), (67, u "err"), (2, u "out"), (91, u "notSupportedJnuEncoding"), (15, u "in"), (17, u "initialIn"), (0, u "Ljava/io/InputStream;"), (35, u "bootLayer"), (0, u "Ljava/lang/ModuleLayer;"), (99, .class_ 664), (0, u "java/lang/System$2"), (9, u "NEVER"), (2, u "MAYBE"), (49, u "arraycopy"), (0, u "(Ljava/lang/Object;ILjava/lang/Object;II)V"), (72, .class_ 802), (0, u "java/lang/System$Logger$Level")] 31

def k11m0 : Method := { name := "<init>", desc := "()V", sig := { parameters := [], returnType := none }, accessFlags := 2, code := none }
def k11m1 : Method := { name := "arraycopy", desc := "(Ljava/lang/Object;ILjava/lang/Object;II)V", sig := { parameters := [(.object "java/lang/Object"), .int, (.object "java/lang/Object"), .int, .int], returnType := none }, accessFlags := 265, code := none }
/-- java/lang/System -/
def k11 : Class := { plain "java/lang/System" (some 0) with
  accessFlags := 49
  interfaces := #[]
  cf := some (fileOf pool11 8 #[.nestMembers #[319, 327, 801, 108, 663, 208]] #[{ accessFlags := 2, nameIndex := 5, descriptorIndex := 6, attributes := #[] }, { accessFlags := 265, nameIndex := 727, descriptorIndex := 728, attributes := #[] }] 49 2 #[] #[{ accessFlags := 25, nameIndex := 507, descriptorIndex := 526, attributes := #[] }, { accessFlags := 25, nameIndex := 399, descriptorIndex := 155, attributes := #[] }, { accessFlags := 25, nameIndex := 396, descriptorIndex := 155, attributes := #[] }, { accessFlags := 10, nameIndex := 525, descriptorIndex := 526, attributes := #[] }, { accessFlags := 26, nameIndex := 674, descriptorIndex := 12, attributes := #[] }, { accessFlags := 26, nameIndex := 677, descriptorIndex := 12, attributes := #[] }, { accessFlags := 10, nameIndex := 11, descriptorIndex := 12, attributes := #[] }, { accessFlags := 74, nameIndex := 175, descriptorIndex := 176, attributes := #[] }, { accessFlags := 10, nameIndex := 491, descriptorIndex := 222, attributes := #[] }, { accessFlags := 74, nameIndex := 29, descriptorIndex := 30, attributes := #[] }, { accessFlags := 74, nameIndex := 154, descriptorIndex := 155, attributes := #[] }, { accessFlags := 10, nameIndex := 217, descriptorIndex := 218, attributes := #[] }, { accessFlags := 10, nameIndex := 221, descriptorIndex := 222, attributes := #[] }, { accessFlags := 8, nameIndex := 562, descriptorIndex := 563, attributes := #[] }])
  fields := #[{ name := "in", type := (.object "java/io/InputStream"), accessFlags := 25, slot := 0, constantValue := 0 }, { name := "out", type := (.object "java/io/PrintStream"), accessFlags := 25, slot := 1, constantValue := 0 }, { name := "err", type := (.object "java/io/PrintStream"), accessFlags := 25, slot := 2, constantValue := 0 }, { name := "initialIn", type := (.object "java/io/InputStream"), accessFlags := 10, slot := 3, constantValue := 0 }, { name := "NEVER", type := .int, accessFlags := 26, slot := 4, constantValue := 0 }, { name := "MAYBE", type := .int, accessFlags := 26, slot := 5, constantValue := 0 }, { name := "allowSecurityManager", type := .int, accessFlags := 10, slot := 6, constantValue := 0 }, { name := "security", type := (.object "java/lang/SecurityManager"), accessFlags := 74, slot := 7, constantValue := 0 }, { name := "notSupportedJnuEncoding", type := (.object "java/lang/String"), accessFlags := 10, slot := 8, constantValue := 0 }, { name := "cons", type := (.object "java/io/Console"), accessFlags := 74, slot := 9, constantValue := 0 }, { name := "initialErrStream", type := (.object "java/io/PrintStream"), accessFlags := 74, slot := 10, constantValue := 0 }, { name := "props", type := (.object "java/util/Properties"), accessFlags := 10, slot := 11, constantValue := 0 }, { name := "lineSeparator", type := (.object "java/lang/String"), accessFlags := 10, slot := 12, constantValue := 0 }, { name := "bootLayer", type := (.object "java/lang/ModuleLayer"), accessFlags := 8, slot := 13, constantValue := 0 }]
  methods := #[k11m0, k11m1]
  instanceTypes := #[]
  staticTypes := #[(.object "java/io/InputStream"), (.object "java/io/PrintStream"), (.object "java/io/PrintStream"), (.object "java/io/InputStream"), .int, .int, .int, (.object "java/lang/SecurityManager"), (.object "java/lang/String"), (.object "java/io/Console"), (.object "java/io/PrintStream"), (.object "java/util/Properties"), (.object "java/lang/String"), (.object "java/lang/ModuleLayer")]
  resolved := Array.replicate 834 none
  statics := none }

def pool12 : Array CpInfo := pool [(1, u "java/lang/Cloneable"), (0, .class_ 1), (0, u "java/lang/Object"), (0, .class_ 3)] 3

/-- java/lang/Cloneable -/
def k12 : Class := { plain "java/lang/Cloneable" (some 0) with
  accessFlags := 1537
  interfaces := #[]
  cf := some (fileOf pool12 2 #[] #[] 1537 4 #[] #[])
  fields := #[]
  methods := #[]
  instanceTypes := #[]
  staticTypes := #[]
  resolved := Array.replicate 8 none
  statics := none }

/-- the primitive byte -/
def k13 : Class := { plain "byte" none with kind := .primitive 'B', accessFlags := 0x411 }
/-- [B -/
def k14 : Class := { plain "[B" (some 0) with kind := .array 13 .byte, interfaces := #[12, 4], accessFlags := 1041 }

/-- the primitive int -/
def k15 : Class := { plain "int" none with kind := .primitive 'I', accessFlags := 0x411 }
/-- [I -/
def k16 : Class := { plain "[I" (some 0) with kind := .array 15 .int, interfaces := #[12, 4], accessFlags := 1041 }

/-- the primitive long -/
def k17 : Class := { plain "long" none with kind := .primitive 'J', accessFlags := 0x411 }
/-- [J -/
def k18 : Class := { plain "[J" (some 0) with kind := .array 17 .long, interfaces := #[12, 4], accessFlags := 1041 }

def heap : Heap := #[]
def classes : Array Class := #[k0, k1, k2, k3, k4, k5, k6, k7, k8, k9, k10, k11, k12, k13, k14, k15, k16, k17, k18]
def interned : List (Array UInt16 × Addr) := []
def slotsUsed : Nat := 0
def theMethod : MethodId := ⟨1, 1⟩
def args0 : Array Value := #[.int 1000, .int 5, .int 70000, .int 33, .int 2, .long 77]
def aboutOver (below : List Frame) : State where
  vm := { classes := classes, interned := interned.toArray }
  heap := heap
  slotsUsed := slotsUsed
  threads := #[{ frames := .invoking theMethod args0 :: below }]
def below0 : List Frame := [.native { method := ⟨0, 0⟩, args := #[] }]
def about1 : State := aboutOver below0
def p0 : Program := .bare "" "" ""
def e0 : Env := launch0.env 0 0 0
theorem w_frames : about1.frames = Frame.invoking theMethod args0 :: below0 := rfl
set_option maxRecDepth 65536 in
theorem w_args : argsFit about1.vm theMethod args0 = true := by decide +kernel
set_option maxRecDepth 65536 in
theorem w_heap : heapFits about1 = true := by decide +kernel
set_option maxRecDepth 65536 in
theorem w_runnable : about1.curStatus? = some .runnable := by decide +kernel
set_option maxRecDepth 65536 in
theorem w_alone : about1.alone = true := by decide +kernel
set_option maxRecDepth 65536 in
theorem w_named : about1.methodNamed? x = some theMethod := by decide +kernel
set_option maxRecDepth 65536 in
theorem w_hears : about1.hears theMethod below0 = true := by decide +kernel
set_option maxRecDepth 65536 in
theorem w_ripe : about1.ripe theMethod args0 below0 = true := by decide +kernel
theorem w_running : about1.status = .running := rfl
set_option maxRecDepth 65536 in
theorem w_room : about1.hasRoom e0.platform room_1 = true :=
  launch0.hasRoom_least _ room_1 (by decide +kernel) (by decide +kernel) (by decide +kernel) (by decide +kernel) (by decide +kernel) (by decide +kernel)
theorem allAtoms_all (ts : List Jvm.Cond) (a : Array Jvm.Value) (st : Jvm.State) : (allAtoms ts).before a st = ts.all (fun c => c.before a st) := by
  induction ts with
  | nil => rfl
  | cons c t ih =>
    show (Jvm.Cond.and c (allAtoms t)).before a st = _
    rw [Jvm.Cond.before_and, ih, List.all_cons]
def words1 : List Jvm.Cond := Jvm.Cond.code x code maxLocals ret :: tables_1
/-- a 'code' word, met by the world's own term for the bytes: nothing is compared byte by byte -/
theorem code_word {y : MethodName} {bytes : ByteArray} {mx : Nat} {rt : Option FieldType} {a : Array Value} {s : State} {m : MethodId} {meth : Method} {c : Code} (h1 : s.methodNamed? y = some m) (h2 : s.vm.method? m = some meth) (h3 : meth.code = some c) (h4 : c.code = bytes)
    (h5 : (c.maxLocals == mx && c.exceptionTable.isEmpty && decide (c.maxStack ≤ mostOperands) && decide (meth.sig.returnType = rt) && !meth.locks && decide (parseMethodDescriptor y.desc = some meth.sig)) = true) : (Jvm.Cond.code y bytes mx rt).before a s = true := by
  simp only [Bool.and_eq_true, beq_iff_eq, Bool.not_eq_true', decide_eq_true_eq] at h5
  obtain ⟨⟨⟨⟨⟨g1, g2⟩, g3⟩, g4⟩, g5⟩, g6⟩ := h5
  simp [Cond.before, Cond.holds, Cond.value, h1, h2, h3, h4, g1, g2, g3, g4, g5, g6]
def isCode : Jvm.Cond → Bool
  | .code _ _ _ _ => true
  | _ => false
theorem all_split {L : List Jvm.Cond} {P : Jvm.Cond → Bool} (h1 : L.all (fun c => isCode c || P c) = true) (h2 : ∀ c ∈ L.filter isCode, P c = true) : L.all P = true := by
  refine List.all_eq_true.mpr fun c hc => ?_
  have h := List.all_eq_true.mp h1 c hc
  rcases Bool.eq_false_or_eq_true (isCode c) with hi | hi
  · exact h2 c (List.mem_filter.mpr ⟨hc, hi⟩)
  · simpa [hi] using h
set_option maxRecDepth 65536 in
theorem w_c0 : (Jvm.Cond.code x code maxLocals ret).before args0 about1 = true := code_word (m := ⟨1, 1⟩) (meth := k1m1) (c := k1c1) (by decide +kernel) rfl rfl rfl (by decide +kernel)
set_option maxRecDepth 65536 in
theorem w_c1 : (Jvm.Cond.code ({ cls := "com/example/tokenfold/tokenfold/statespace/Packing", name := "<init>", desc := "([I)V" } : Jvm.MethodName) prog_60_method_1_code (5 : Nat) (Option.none : Option Jvm.ClassFile.FieldType)).before args0 about1 = true := code_word (m := ⟨2, 0⟩) (meth := k2m0) (c := k2c0) (by decide +kernel) rfl rfl rfl (by decide +kernel)
set_option maxRecDepth 65536 in
theorem w_c2 : (Jvm.Cond.code ({ cls := "java/lang/Object", name := "<init>", desc := "()V" } : Jvm.MethodName) object_method_1_code (1 : Nat) (Option.none : Option Jvm.ClassFile.FieldType)).before args0 about1 = true := code_word (m := ⟨0, 0⟩) (meth := k0m0) (c := k0c0) (by decide +kernel) rfl rfl rfl (by decide +kernel)
set_option maxRecDepth 65536 in
theorem w_c3 : (Jvm.Cond.code ({ cls := "java/util/Arrays", name := "fill", desc := "([II)V" } : Jvm.MethodName) jdk_65_method_103_code (4 : Nat) (Option.none : Option Jvm.ClassFile.FieldType)).before args0 about1 = true := code_word (m := ⟨3, 3⟩) (meth := k3m3) (c := k3c3) (by decide +kernel) rfl rfl rfl (by decide +kernel)
set_option maxRecDepth 65536 in
theorem w_c4 : (Jvm.Cond.code ({ cls := "com/example/tokenfold/tokenfold/statespace/Packing", name := "bits", desc := "(I)I" } : Jvm.MethodName) prog_60_method_9_code (1 : Nat) (Option.some Jvm.ClassFile.FieldType.int)).before args0 about1 = true := code_word (m := ⟨2, 6⟩) (meth := k2m6) (c := k2c6) (by decide +kernel) rfl rfl rfl (by decide +kernel)
set_option maxRecDepth 65536 in
theorem w_c5 : (Jvm.Cond.code ({ cls := "java/lang/Integer", name := "numberOfLeadingZeros", desc := "(I)I" } : Jvm.MethodName) jdk_33_method_47_code (2 : Nat) (Option.some Jvm.ClassFile.FieldType.int)).before args0 about1 = true := code_word (m := ⟨9, 0⟩) (meth := k9m0) (c := k9c0) (by decide +kernel) rfl rfl rfl (by decide +kernel)
set_option maxRecDepth 65536 in
theorem w_c6 : (Jvm.Cond.code ({ cls := "java/lang/Math", name := "max", desc := "(II)I" } : Jvm.MethodName) jdk_29_method_65_code (2 : Nat) (Option.some Jvm.ClassFile.FieldType.int)).before args0 about1 = true := code_word (m := ⟨10, 2⟩) (meth := k10m2) (c := k10c2) (by decide +kernel) rfl rfl rfl (by decide +kernel)
set_option maxRecDepth 65536 in
theorem w_c7 : (Jvm.Cond.code ({ cls := "com/example/tokenfold/tokenfold/statespace/Packing", name := "place", desc := "(I)V" } : Jvm.MethodName) prog_60_method_8_code (2 : Nat) (Option.none : Option Jvm.ClassFile.FieldType)).before args0 about1 = true := code_word (m := ⟨2, 5⟩) (meth := k2m5) (c := k2c5) (by decide +kernel) rfl rfl rfl (by decide +kernel)
set_option maxRecDepth 65536 in
theorem w_c8 : (Jvm.Cond.code ({ cls := "com/example/tokenfold/tokenfold/statespace/Packing", name := "widen", desc := "([I)V" } : Jvm.MethodName) prog_60_method_6_code (4 : Nat) (Option.none : Option Jvm.ClassFile.FieldType)).before args0 about1 = true := code_word (m := ⟨2, 3⟩) (meth := k2m3) (c := k2c3) (by decide +kernel) rfl rfl rfl (by decide +kernel)
set_option maxRecDepth 65536 in
theorem w_c9 : (Jvm.Cond.code ({ cls := "com/example/tokenfold/tokenfold/statespace/Packing", name := "pack", desc := "([I[J)Z" } : Jvm.MethodName) prog_60_method_3_code (6 : Nat) (Option.some Jvm.ClassFile.FieldType.boolean)).before args0 about1 = true := code_word (m := ⟨2, 1⟩) (meth := k2m1) (c := k2c1) (by decide +kernel) rfl rfl rfl (by decide +kernel)
set_option maxRecDepth 65536 in
theorem w_c10 : (Jvm.Cond.code ({ cls := "java/util/Arrays", name := "fill", desc := "([JIIJ)V" } : Jvm.MethodName) jdk_65_method_102_code (6 : Nat) (Option.none : Option Jvm.ClassFile.FieldType)).before args0 about1 = true := code_word (m := ⟨3, 2⟩) (meth := k3m2) (c := k3c2) (by decide +kernel) rfl rfl rfl (by decide +kernel)
set_option maxRecDepth 65536 in
theorem w_c11 : (Jvm.Cond.code ({ cls := "java/util/Arrays", name := "rangeCheck", desc := "(III)V" } : Jvm.MethodName) jdk_65_method_30_code (3 : Nat) (Option.none : Option Jvm.ClassFile.FieldType)).before args0 about1 = true := code_word (m := ⟨3, 1⟩) (meth := k3m1) (c := k3c1) (by decide +kernel) rfl rfl rfl (by decide +kernel)
set_option maxRecDepth 65536 in
theorem w_c12 : (Jvm.Cond.code ({ cls := "com/example/tokenfold/tokenfold/statespace/PackingUnpackPinLaw", name := "copy", desc := "([J[JI)V" } : Jvm.MethodName) method_3_code (3 : Nat) (Option.none : Option Jvm.ClassFile.FieldType)).before args0 about1 = true := code_word (m := ⟨1, 2⟩) (meth := k1m2) (c := k1c2) (by decide +kernel) rfl rfl rfl (by decide +kernel)
set_option maxRecDepth 65536 in
theorem w_c13 : (Jvm.Cond.code ({ cls := "com/example/tokenfold/tokenfold/statespace/Packing", name := "unpack", desc := "([JI[I)V" } : Jvm.MethodName) prog_60_method_5_code (7 : Nat) (Option.none : Option Jvm.ClassFile.FieldType)).before args0 about1 = true := code_word (m := ⟨2, 2⟩) (meth := k2m2) (c := k2c2) (by decide +kernel) rfl rfl rfl (by decide +kernel)
set_option maxRecDepth 65536 in
theorem w_c14 : (Jvm.Cond.code ({ cls := "java/lang/Math", name := "min", desc := "(II)I" } : Jvm.MethodName) jdk_29_method_69_code (2 : Nat) (Option.some Jvm.ClassFile.FieldType.int)).before args0 about1 = true := code_word (m := ⟨10, 4⟩) (meth := k10m4) (c := k10c4) (by decide +kernel) rfl rfl rfl (by decide +kernel)
set_option maxRecDepth 65536 in
theorem w_c15 : (Jvm.Cond.code ({ cls := "com/example/tokenfold/tokenfold/statespace/Packing", name := "addExtra", desc := "(II)V" } : Jvm.MethodName) prog_60_method_7_code (4 : Nat) (Option.none : Option Jvm.ClassFile.FieldType)).before args0 about1 = true := code_word (m := ⟨2, 4⟩) (meth := k2m4) (c := k2c4) (by decide +kernel) rfl rfl rfl (by decide +kernel)
set_option maxRecDepth 65536 in
theorem w_c16 : (Jvm.Cond.code ({ cls := "java/util/Arrays", name := "copyOf", desc := "([II)[I" } : Jvm.MethodName) jdk_65_method_123_code (3 : Nat) (Option.some (Jvm.ClassFile.FieldType.array Jvm.ClassFile.FieldType.int))).before args0 about1 = true := code_word (m := ⟨3, 4⟩) (meth := k3m4) (c := k3c4) (by decide +kernel) rfl rfl rfl (by decide +kernel)
set_option maxRecDepth 65536 in
theorem w_c17 : (Jvm.Cond.code ({ cls := "java/util/Arrays", name := "copyOf", desc := "([JI)[J" } : Jvm.MethodName) jdk_65_method_124_code (3 : Nat) (Option.some (Jvm.ClassFile.FieldType.array Jvm.ClassFile.FieldType.long))).before args0 about1 = true := code_word (m := ⟨3, 5⟩) (meth := k3m5) (c := k3c5) (by decide +kernel) rfl rfl rfl (by decide +kernel)
set_option maxRecDepth 65536 in
theorem w_c18 : (Jvm.Cond.code ({ cls := "java/lang/Math", name := "max", desc := "(JJ)J" } : Jvm.MethodName) jdk_29_method_66_code (4 : Nat) (Option.some Jvm.ClassFile.FieldType.long)).before args0 about1 = true := code_word (m := ⟨10, 3⟩) (meth := k10m3) (c := k10c3) (by decide +kernel) rfl rfl rfl (by decide +kernel)
set_option maxRecDepth 65536 in
theorem w_c19 : (Jvm.Cond.code ({ cls := "java/lang/Math", name := "toIntExact", desc := "(J)I" } : Jvm.MethodName) jdk_29_method_43_code (2 : Nat) (Option.some Jvm.ClassFile.FieldType.int)).before args0 about1 = true := code_word (m := ⟨10, 1⟩) (meth := k10m1) (c := k10c1) (by decide +kernel) rfl rfl rfl (by decide +kernel)
def codes1 : List Jvm.Cond := [Jvm.Cond.code x code maxLocals ret, Jvm.Cond.code ({ cls := "com/example/tokenfold/tokenfold/statespace/Packing", name := "<init>", desc := "([I)V" } : Jvm.MethodName) prog_60_method_1_code (5 : Nat) (Option.none : Option Jvm.ClassFile.FieldType), Jvm.Cond.code ({ cls := "java/lang/Object", name := "<init>", desc := "()V" } : Jvm.MethodName) object_method_1_code (1 : Nat) (Option.none : Option Jvm.ClassFile.FieldType), Jvm.Cond.code ({ cls := "java/util/Arrays", name := "fill", desc := "([II)V" } : Jvm.MethodName) jdk_65_method_103_code (4 : Nat) (Option.none : Option Jvm.ClassFile.FieldType), Jvm.Cond.code ({ cls := "com/example/tokenfold/tokenfold/statespace/Packing", name := "bits", desc := "(I)I" } : Jvm.MethodName) prog_60_method_9_code (1 : Nat) (Option.some Jvm.ClassFile.FieldType.int), Jvm.Cond.code ({ cls := "java/lang/Integer", name := "numberOfLeadingZeros", desc := "(I)I" } : Jvm.MethodName) jdk_33_method_47_code (2 : Nat) (Option.some Jvm.ClassFile.FieldType.int), Jvm.Cond.code ({ cls := "java/lang/Math", name := "max", desc := "(II)I" } : Jvm.MethodName) jdk_29_method_65_code (2 : Nat) (Option.some Jvm.ClassFile.FieldType.int), Jvm.Cond.code ({ cls := "com/example/tokenfold/tokenfold/statespace/Packing", name := "place", desc := "(I)V" } : Jvm.MethodName) prog_60_method_8_code (2 : Nat) (Option.none : Option Jvm.ClassFile.FieldType), Jvm.Cond.code ({ cls := "com/example/tokenfold/tokenfold/statespace/Packing", name := "widen", desc := "([I)V" } : Jvm.MethodName) prog_60_method_6_code (4 : Nat) (Option.none : Option Jvm.ClassFile.FieldType), Jvm.Cond.code ({ cls := "com/example/tokenfold/tokenfold/statespace/Packing", name := "pack", desc := "([I[J)Z" } : Jvm.MethodName) prog_60_method_3_code (6 : Nat) (Option.some Jvm.ClassFile.FieldType.boolean), Jvm.Cond.code ({ cls := "java/util/Arrays", name := "fill", desc := "([JIIJ)V" } : Jvm.MethodName) jdk_65_method_102_code (6 : Nat) (Option.none : Option Jvm.ClassFile.FieldType), Jvm.Cond.code ({ cls := "java/util/Arrays", name := "rangeCheck", desc := "(III)V" } : Jvm.MethodName) jdk_65_method_30_code (3 : Nat) (Option.none : Option Jvm.ClassFile.FieldType), Jvm.Cond.code ({ cls := "com/example/tokenfold/tokenfold/statespace/PackingUnpackPinLaw", name := "copy", desc := "([J[JI)V" } : Jvm.MethodName) method_3_code (3 : Nat) (Option.none : Option Jvm.ClassFile.FieldType), Jvm.Cond.code ({ cls := "com/example/tokenfold/tokenfold/statespace/Packing", name := "unpack", desc := "([JI[I)V" } : Jvm.MethodName) prog_60_method_5_code (7 : Nat) (Option.none : Option Jvm.ClassFile.FieldType), Jvm.Cond.code ({ cls := "java/lang/Math", name := "min", desc := "(II)I" } : Jvm.MethodName) jdk_29_method_69_code (2 : Nat) (Option.some Jvm.ClassFile.FieldType.int), Jvm.Cond.code ({ cls := "com/example/tokenfold/tokenfold/statespace/Packing", name := "addExtra", desc := "(II)V" } : Jvm.MethodName) prog_60_method_7_code (4 : Nat) (Option.none : Option Jvm.ClassFile.FieldType), Jvm.Cond.code ({ cls := "java/util/Arrays", name := "copyOf", desc := "([II)[I" } : Jvm.MethodName) jdk_65_method_123_code (3 : Nat) (Option.some (Jvm.ClassFile.FieldType.array Jvm.ClassFile.FieldType.int)), Jvm.Cond.code ({ cls := "java/util/Arrays", name := "copyOf", desc := "([JI)[J" } : Jvm.MethodName) jdk_65_method_124_code (3 : Nat) (Option.some (Jvm.ClassFile.FieldType.array Jvm.ClassFile.FieldType.long)), Jvm.Cond.code ({ cls := "java/lang/Math", name := "max", desc := "(JJ)J" } : Jvm.MethodName) jdk_29_method_66_code (4 : Nat) (Option.some Jvm.ClassFile.FieldType.long), Jvm.Cond.code ({ cls := "java/lang/Math", name := "toIntExact", desc := "(J)I" } : Jvm.MethodName) jdk_29_method_43_code (2 : Nat) (Option.some Jvm.ClassFile.FieldType.int)]
set_option maxRecDepth 65536 in
theorem codes_eq : words1.filter isCode = codes1 := rfl
theorem w_codes : ∀ c ∈ words1.filter isCode, c.before args0 about1 = true := by
  rw [codes_eq]
  intro c hc
  simp only [codes1, List.mem_cons, List.not_mem_nil, or_false] at hc
  rcases hc with rfl | rfl | rfl | rfl | rfl | rfl | rfl | rfl | rfl | rfl | rfl | rfl | rfl | rfl | rfl | rfl | rfl | rfl | rfl | rfl
  · exact w_c0
  · exact w_c1
  · exact w_c2
  · exact w_c3
  · exact w_c4
  · exact w_c5
  · exact w_c6
  · exact w_c7
  · exact w_c8
  · exact w_c9
  · exact w_c10
  · exact w_c11
  · exact w_c12
  · exact w_c13
  · exact w_c14
  · exact w_c15
  · exact w_c16
  · exact w_c17
  · exact w_c18
  · exact w_c19
set_option maxRecDepth 65536 in
theorem w_t1 : (words1.take 24).all (fun c => isCode c || c.before args0 about1) = true := by decide +kernel
set_option maxRecDepth 65536 in
theorem w_t2 : ((words1.drop 24).take 24).all (fun c => isCode c || c.before args0 about1) = true := by decide +kernel
set_option maxRecDepth 65536 in
theorem w_t3 : (((words1.drop 24).drop 24).take 24).all (fun c => isCode c || c.before args0 about1) = true := by decide +kernel
set_option maxRecDepth 65536 in
theorem w_t4 : ((((words1.drop 24).drop 24).drop 24).take 24).all (fun c => isCode c || c.before args0 about1) = true := by decide +kernel
set_option maxRecDepth 65536 in
theorem w_t5 : ((((words1.drop 24).drop 24).drop 24).drop 24).all (fun c => isCode c || c.before args0 about1) = true := by decide +kernel
theorem w_tables : (allAtoms (Jvm.Cond.code x code maxLocals ret :: tables_1)).before args0 about1 = true := by
  rw [allAtoms_all]
  show words1.all (fun c => c.before args0 about1) = true
  refine all_split ?_ w_codes
  rw [← List.take_append_drop 24 words1, List.all_append, w_t1, ← List.take_append_drop 24 (words1.drop 24), List.all_append, w_t2, ← List.take_append_drop 24 ((words1.drop 24).drop 24), List.all_append, w_t3, ← List.take_append_drop 24 (((words1.drop 24).drop 24).drop 24), List.all_append, w_t4, w_t5]
  rfl
set_option maxRecDepth 65536 in
theorem w_case : (Jvm.Cond.and given_1 narrow_1).before args0 about1 = true := by decide +kernel
theorem w_applies : (headSpec (Jvm.Cond.code x code maxLocals ret :: tables_1) room_1).applies x e0.platform about1 = true :=
  (Spec.applies_iff w_frames).mpr ⟨w_running, w_runnable, w_alone, w_named, w_hears, w_ripe, w_room, w_tables⟩
theorem atStart : AtStart classFile x code maxLocals ret World_1 tables_1 room_1 Calls_1 rest_1 Pre_1 launch0 p0 e0 about1 theMethod args0 below0 :=
  ⟨lists_1, trivial, launch0.admits_env _ _ _, launch0.least_env, fairChoices_fair.cas, fairChoices_fair.clock, w_frames, w_args, w_heap, w_applies, trivial, trivial, w_case⟩
end start1
theorem witness_1 : WitnessClaimed_1 := ⟨start1.p0, start1.e0, start1.about1, start1.theMethod, start1.args0, start1.below0, start1.atStart⟩
end Jvm.Pilot.@@N@@
