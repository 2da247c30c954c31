import JvmDerived
import JvmDerived.Pilot.@@N@@Statement
import JvmDerived.Pilot.@@N@@Code
set_option linter.unusedVariables false
set_option linter.unusedSimpArgs false
namespace Jvm.RoadKit
open Sem ClassFile Op Lib Jvm.Stand Jvm.Free Jvm.LawKit
section New
variable {p : Program} {l : Launch} {e : Env} {R : Room} {s : State} {m : MethodId} {args : Array Value} {below : List Frame} {meth : Method} {c : Code} {T : State} {locs : List Loc} {cells slots : Nat}
theorem retI (X : Stand p l e R s m args below meth c T locs cells slots) (hx : p.tables.exec = Jvm.exec) {pc : Nat} {Ls : Array Slot} {z : Int32} {rest : List Value} (hret : meth.sig.returnType = some .int) (hd : decode c.code pc = .ok (.ireturn, 1)) {fs : List Frame}
    (hl : ∀ (f : JFrame) (acts : List Action), f.method = m → f.locked = none → f.entered = [] → (doReturn e (T.setTop f) acts (some (.int z))).1 = T.setFrames fs) : Steps p.tables e below (T.setTop (mkF m pc Ls (.int z :: rest))) (T.setFrames fs) := by
  have hm' : T.vm.method? m = some meth := X.method'
  have hn : narrow .int (.int z) = .int z := rfl
  show Steps p.tables e below (T.setTop { method := m, pc := pc, locals := Ls, stack := _ :: rest, locked := none }) _
  jvm_step X.here [X.here.top, hx, hd, hm', hret, hn]
  first | (intro acts; rw [hl _ acts rfl rfl rfl]) | rw [hl _ _ rfl rfl rfl]
  exact Steps.refl _
end New
end Jvm.RoadKit
namespace Jvm.Pilot.@@N@@
open Jvm Jvm.ClassFile Sem Op Lib Jvm.Free Jvm.Stand Jvm.LawKit Jvm.RoadKit Bundle Jvm.Pilot.@@N@@.Jvm.D
section OwnKit
variable {Z : State} {a0 : Array Value} {n0 : Nat} {p : Program} {l : Launch} {e : Env} {R : Room} {s : State} {m : MethodId} {args : Array Value} {below : List Frame} {meth : Method} {c : Code} {code : ByteArray} {ml : Nat} {ret : Option FieldType} {y : MethodName} {T : State} {h h' : Heap} {k j : Nat} {Q : Option Value → Heap → Prop} {pc nx tgt : Nat} {Ls : Array Slot} {S : List Value}
/-- Java's shifts -/
abbrev jshl (x q : Int32) : Int32 := x <<< (q &&& 31)
abbrev jshr (x q : Int32) : Int32 := x >>> (q &&& 31)
abbrev jushr (x q : Int32) : Int32 := (x.toUInt32 >>> (q &&& 31).toUInt32).toInt32
abbrev jshlL (x : Int64) (q : Int32) : Int64 := x <<< (q &&& 0x3f).toInt64
abbrev jshrL (x : Int64) (q : Int32) : Int64 := x >>> (q &&& 0x3f).toInt64
abbrev jushrL (x : Int64) (q : Int32) : Int64 := (x.toUInt64 >>> (q &&& 0x3f).toInt64.toUInt64).toInt64
abbrev jbyte (x : Int32) : Int32 := x.toInt8.toInt32
/-- the instruction at pc, and the pc behind it -/
def Dec (code : ByteArray) (pc : Nat) (i : Instr) (len nx : Nat) : Prop := decode code pc = .ok (i, len) ∧ nx = pc + len
/-- a jump at pc: the pc behind it, and where it goes -/
def Jmp (code : ByteArray) (pc : Nat) (i : Instr) (o : Int) (nx tgt : Nat) : Prop := decode code pc = .ok (i, 3) ∧ nx = pc + 3 ∧ 0 ≤ (pc : Int) + o ∧ ((pc : Int) + o).toNat = tgt
/-- where a body's run stands: the heap, the cells and slots made; nothing older than n0 was written -/
def Pos (Z : State) (a0 : Array Value) (n0 : Nat) (p : Program) (l : Launch) (e : Env) (R : Room) (s : State) (m : MethodId) (args : Array Value) (below : List Frame) (meth : Method) (c : Code) (code : ByteArray) (ml : Nat) (ret : Option FieldType) (y : MethodName) (T : State) (h : Heap) (k j : Nat) : Prop :=
  p.tables.exec = Jvm.exec ∧ Z.Warmed39 s.vm ∧ c.code = code ∧ c.maxLocals = ml ∧ meth.sig.returnType = ret ∧ s.vm.findClass y.cls = some m.cls ∧ meth.name = y.name ∧ meth.locks = false ∧ T.heap = h ∧ n0 ≤ h.size ∧ (∀ d ∈ tables_1, d.before a0 Z = true) ∧ ∃ locs, Fr n0 locs ∧ Stand p l e R s m args below meth c T locs k j
/-- from the frame f over T the body comes to its end, and Q says with what -/
def Wp (n0 : Nat) (p : Program) (e : Env) (R : Room) (s : State) (below : List Frame) (Q : Option Value → Heap → Prop) (T : State) (f : JFrame) : Prop :=
  ∃ t o, Steps p.tables e below (T.setTop f) t ∧ t.status = .running ∧ Ended t below o ∧ ∃ v L, o = .returned v ∧ (Fr n0 L ∧ n0 ≤ t.heap.size ∧ Q v t.heap) ∧ FrameEnd s o t L R.cells R.slots
/-- a body's contract at one array of arguments and one heap -/
def Ctr (l : Launch) (Z : State) (n0 : Nat) (y : MethodName) (code : ByteArray) (ml : Nat) (ret : Option FieldType) (R : Room) (ws : List Jvm.Cond) (as : Array Value) (h : Heap) (Q : Option Value → Heap → Prop) : Prop :=
  MetFree l y (head1 (Jvm.Cond.code y code ml ret :: ws) R) (fun a U => a = as ∧ Z.Warmed39 U.vm ∧ U.heap = h) (fun _ _ _ _ _ => True) (fun _ U o U' => ∃ v L, o = .returned v ∧ (Fr n0 L ∧ n0 ≤ U'.heap.size ∧ Q v U'.heap) ∧ FrameEnd U o U' L R.cells R.slots)
/-- an array of n places: place i holds g i; it is no older than n0 -/
def Ba (Z : State) (n0 : Nat) (h : Heap) (a : Addr) (ty : FieldType) (n : Nat) (g : Nat → Value) : Prop :=
  n0 ≤ a ∧ n < 2147483648 ∧ ∃ c : Cell, Arr Z h a c ty ∧ c.slots.size = n ∧ ∀ i, i < n → c.slots[i]? = some (g i)
def bI (b : Nat → Int32) : Nat → Value := fun i => .int (b i)
def bJ (b : Nat → Int64) : Nat → Value := fun i => .long (b i)
def upd {α : Type} (b : Nat → α) (i : Nat) (v : α) : Nat → α := fun q => if q = i then v else b q
theorem upd_at {α : Type} (b : Nat → α) (i : Nat) (v : α) : upd b i v i = v := if_pos rfl
theorem upd_ne {α : Type} (b : Nat → α) {i q : Nat} (v : α) (h : q ≠ i) : upd b i v q = b q := if_neg h
theorem Ba.lt {a : Addr} {ty : FieldType} {n : Nat} {g : Nat → Value} (B : Ba Z n0 h a ty n g) : a < h.size := by obtain ⟨-, -, c, A, -⟩ := B; exact A.lt
theorem Ba.ext {a : Addr} {ty : FieldType} {n : Nat} {g : Nat → Value} (B : Ba Z n0 h a ty n g) (E : Ext h h') : Ba Z n0 h' a ty n g := by obtain ⟨q1, q2, c, A, r⟩ := B; exact ⟨q1, q2, c, A.ext E, r⟩
theorem Ba.keep {a : Addr} {ty : FieldType} {n : Nat} {g : Nat → Value} {ws : List Addr} (B : Ba Z n0 h a ty n g) (K : Keep h h' ws) (q : a ∉ ws) : Ba Z n0 h' a ty n g := by obtain ⟨q1, q2, c, A, r⟩ := B; exact ⟨q1, q2, c, ⟨K.2.1 a c A.1 q, A.2⟩, r⟩
theorem Ba.congr {a : Addr} {ty : FieldType} {n : Nat} {g g' : Nat → Value} (B : Ba Z n0 h a ty n g) (q : ∀ i, i < n → g i = g' i) : Ba Z n0 h a ty n g' := by obtain ⟨q1, q2, c, A, r1, r2⟩ := B; exact ⟨q1, q2, c, A, r1, fun i hi => by rw [r2 i hi, q i hi]⟩
theorem ofNat_toInt {n : Nat} (h : n < 2147483648) : (Int32.ofNat n).toInt = n := Int32.toInt_ofNat_of_lt (by omega)
theorem ofNat_clamp {n : Nat} (h : n < 2147483648) : (Int32.ofNat n).toNatClampNeg = n := by rw [Int32.toNatClampNeg, ofNat_toInt h]; rfl
theorem ofNat_nn {n : Nat} (h : n < 2147483648) : ¬ Int32.ofNat n < 0 := by rw [Int32.lt_iff_toInt_lt, ofNat_toInt h, show (0 : Int32).toInt = 0 from rfl]; omega
theorem ofNat_lt {a b : Nat} (ha : a < 2147483648) (hb : b < 2147483648) : Int32.ofNat a < Int32.ofNat b ↔ a < b := by rw [Int32.lt_iff_toInt_lt, ofNat_toInt ha, ofNat_toInt hb]; omega
theorem eq_ofNat {x : Int32} {n : Nat} (hn : n < 2147483648) (h : x.toInt = n) : x = Int32.ofNat n := Int32.toInt_inj.mp (by rw [h, ofNat_toInt hn])
theorem inb {c : Cell} {n i : Nat} (hn : n < 2147483648) (hc : c.slots.size = n) (hi : i < n) : ¬ (Int32.ofNat i < 0 ∨ c.slots.size ≤ (Int32.ofNat i).toNatClampNeg) := by
  rw [hc, ofNat_clamp (by omega)]
  exact fun q => q.elim (ofNat_nn (by omega)) (fun q => by omega)
theorem Pos.sz (X : Pos Z a0 n0 p l e R s m args below meth c code ml ret y T h k j) : n0 ≤ h.size := X.2.2.2.2.2.2.2.2.2.1
theorem Wp.go {T' : State} {f f' : JFrame} (st : ∀ target, Steps p.tables e below (T'.setTop f') target → Steps p.tables e below (T.setTop f) target) (q : Wp n0 p e R s below Q T' f') : Wp n0 p e R s below Q T f := by
  obtain ⟨t, o, h1, r⟩ := q; exact ⟨t, o, st t h1, r⟩
theorem Wp.cast {f f' : JFrame} (q : f = f') (w : Wp n0 p e R s below Q T f') : Wp n0 p e R s below Q T f := q ▸ w
theorem ctr_of {ws : List Jvm.Cond} {as : Array Value} (hp : plainFor y = true) (hw : ∀ d ∈ tables_1, d.before a0 Z = true) (hn : n0 ≤ h.size)
    (body : ∀ p e s m below meth c T, Pos Z a0 n0 p l e R s m as below meth c code ml ret y T h 0 0 → Wp n0 p e R s below Q T (entryFrame m as ml)) : Ctr l Z n0 y code ml ret R ws as h Q := by
  refine MetFree.of_bodySF hp hisR ?_
  intro p e s m args below meth c s₁ Bd hml0 hP hK
  obtain ⟨rfl, hZ, hh⟩ := hP
  exact body p e s m below meth c s₁ ⟨Bd.exec, hZ, Bd.bytes, hml0, Bd.returns, findClass_of_methodNamed Bd.named, (name_of_methodNamed Bd.named Bd.method).1, Bd.notSynchronized, by rw [← hh, Bd.state]; rfl, hn, hw, [], Fr.nil _, Stand.of_body Bd⟩
theorem w_iadd (X : Pos Z a0 n0 p l e R s m args below meth c code ml ret y T h k j) {x z : Int32} (hd : Dec code pc .iadd 1 nx) (q : Wp n0 p e R s below Q T (mkF m nx Ls (.int (x + z) :: S))) : Wp n0 p e R s below Q T (mkF m pc Ls (.int z :: .int x :: S)) := by
  obtain ⟨hx, hZ, hby, hml, hret, hown, hnm, hlk, eT, hn0, hw, locs, N, Y⟩ := X
  obtain ⟨hd, rfl⟩ := hd
  exact Wp.go (fun _ q => XS.iadd Y.here hx rfl (hb hby hd) rfl q) q
theorem w_isub (X : Pos Z a0 n0 p l e R s m args below meth c code ml ret y T h k j) {x z : Int32} (hd : Dec code pc .isub 1 nx) (q : Wp n0 p e R s below Q T (mkF m nx Ls (.int (x - z) :: S))) : Wp n0 p e R s below Q T (mkF m pc Ls (.int z :: .int x :: S)) := by
  obtain ⟨hx, hZ, hby, hml, hret, hown, hnm, hlk, eT, hn0, hw, locs, N, Y⟩ := X
  obtain ⟨hd, rfl⟩ := hd
  exact Wp.go (fun _ q => XS.isub Y.here hx rfl (hb hby hd) rfl q) q
theorem w_imul (X : Pos Z a0 n0 p l e R s m args below meth c code ml ret y T h k j) {x z : Int32} (hd : Dec code pc .imul 1 nx) (q : Wp n0 p e R s below Q T (mkF m nx Ls (.int (x * z) :: S))) : Wp n0 p e R s below Q T (mkF m pc Ls (.int z :: .int x :: S)) := by
  obtain ⟨hx, hZ, hby, hml, hret, hown, hnm, hlk, eT, hn0, hw, locs, N, Y⟩ := X
  obtain ⟨hd, rfl⟩ := hd
  exact Wp.go (fun _ q => XS.imul Y.here hx rfl (hb hby hd) rfl q) q
theorem w_iand (X : Pos Z a0 n0 p l e R s m args below meth c code ml ret y T h k j) {x z : Int32} (hd : Dec code pc .iand 1 nx) (q : Wp n0 p e R s below Q T (mkF m nx Ls (.int (x &&& z) :: S))) : Wp n0 p e R s below Q T (mkF m pc Ls (.int z :: .int x :: S)) := by
  obtain ⟨hx, hZ, hby, hml, hret, hown, hnm, hlk, eT, hn0, hw, locs, N, Y⟩ := X
  obtain ⟨hd, rfl⟩ := hd
  exact Wp.go (fun _ q => XS.iand Y.here hx rfl (hb hby hd) rfl q) q
theorem w_ior (X : Pos Z a0 n0 p l e R s m args below meth c code ml ret y T h k j) {x z : Int32} (hd : Dec code pc .ior 1 nx) (q : Wp n0 p e R s below Q T (mkF m nx Ls (.int (x ||| z) :: S))) : Wp n0 p e R s below Q T (mkF m pc Ls (.int z :: .int x :: S)) := by
  obtain ⟨hx, hZ, hby, hml, hret, hown, hnm, hlk, eT, hn0, hw, locs, N, Y⟩ := X
  obtain ⟨hd, rfl⟩ := hd
  exact Wp.go (fun _ q => XS.ior Y.here hx rfl (hb hby hd) rfl q) q
theorem w_ixor (X : Pos Z a0 n0 p l e R s m args below meth c code ml ret y T h k j) {x z : Int32} (hd : Dec code pc .ixor 1 nx) (q : Wp n0 p e R s below Q T (mkF m nx Ls (.int (x ^^^ z) :: S))) : Wp n0 p e R s below Q T (mkF m pc Ls (.int z :: .int x :: S)) := by
  obtain ⟨hx, hZ, hby, hml, hret, hown, hnm, hlk, eT, hn0, hw, locs, N, Y⟩ := X
  obtain ⟨hd, rfl⟩ := hd
  exact Wp.go (fun _ q => XS.ixor Y.here hx rfl (hb hby hd) rfl q) q
theorem w_ishl (X : Pos Z a0 n0 p l e R s m args below meth c code ml ret y T h k j) {x z : Int32} (hd : Dec code pc .ishl 1 nx) (q : Wp n0 p e R s below Q T (mkF m nx Ls (.int (jshl x z) :: S))) : Wp n0 p e R s below Q T (mkF m pc Ls (.int z :: .int x :: S)) := by
  obtain ⟨hx, hZ, hby, hml, hret, hown, hnm, hlk, eT, hn0, hw, locs, N, Y⟩ := X
  obtain ⟨hd, rfl⟩ := hd
  exact Wp.go (fun _ q => XS.ishl Y.here hx rfl (hb hby hd) rfl q) q
theorem w_ishr (X : Pos Z a0 n0 p l e R s m args below meth c code ml ret y T h k j) {x z : Int32} (hd : Dec code pc .ishr 1 nx) (q : Wp n0 p e R s below Q T (mkF m nx Ls (.int (jshr x z) :: S))) : Wp n0 p e R s below Q T (mkF m pc Ls (.int z :: .int x :: S)) := by
  obtain ⟨hx, hZ, hby, hml, hret, hown, hnm, hlk, eT, hn0, hw, locs, N, Y⟩ := X
  obtain ⟨hd, rfl⟩ := hd
  exact Wp.go (fun _ q => XS.ishr Y.here hx rfl (hb hby hd) rfl q) q
theorem w_iushr (X : Pos Z a0 n0 p l e R s m args below meth c code ml ret y T h k j) {x z : Int32} (hd : Dec code pc .iushr 1 nx) (q : Wp n0 p e R s below Q T (mkF m nx Ls (.int (jushr x z) :: S))) : Wp n0 p e R s below Q T (mkF m pc Ls (.int z :: .int x :: S)) := by
  obtain ⟨hx, hZ, hby, hml, hret, hown, hnm, hlk, eT, hn0, hw, locs, N, Y⟩ := X
  obtain ⟨hd, rfl⟩ := hd
  exact Wp.go (fun _ q => XS.iushr Y.here hx rfl (hb hby hd) rfl q) q
theorem w_ladd (X : Pos Z a0 n0 p l e R s m args below meth c code ml ret y T h k j) {x z : Int64} (hd : Dec code pc .ladd 1 nx) (q : Wp n0 p e R s below Q T (mkF m nx Ls (.long (x + z) :: S))) : Wp n0 p e R s below Q T (mkF m pc Ls (.long z :: .long x :: S)) := by
  obtain ⟨hx, hZ, hby, hml, hret, hown, hnm, hlk, eT, hn0, hw, locs, N, Y⟩ := X
  obtain ⟨hd, rfl⟩ := hd
  exact Wp.go (fun _ q => XS.ladd Y.here hx rfl (hb hby hd) rfl q) q
theorem w_lsub (X : Pos Z a0 n0 p l e R s m args below meth c code ml ret y T h k j) {x z : Int64} (hd : Dec code pc .lsub 1 nx) (q : Wp n0 p e R s below Q T (mkF m nx Ls (.long (x - z) :: S))) : Wp n0 p e R s below Q T (mkF m pc Ls (.long z :: .long x :: S)) := by
  obtain ⟨hx, hZ, hby, hml, hret, hown, hnm, hlk, eT, hn0, hw, locs, N, Y⟩ := X
  obtain ⟨hd, rfl⟩ := hd
  exact Wp.go (fun _ q => XS.lsub Y.here hx rfl (hb hby hd) rfl q) q
theorem w_lmul (X : Pos Z a0 n0 p l e R s m args below meth c code ml ret y T h k j) {x z : Int64} (hd : Dec code pc .lmul 1 nx) (q : Wp n0 p e R s below Q T (mkF m nx Ls (.long (x * z) :: S))) : Wp n0 p e R s below Q T (mkF m pc Ls (.long z :: .long x :: S)) := by
  obtain ⟨hx, hZ, hby, hml, hret, hown, hnm, hlk, eT, hn0, hw, locs, N, Y⟩ := X
  obtain ⟨hd, rfl⟩ := hd
  exact Wp.go (fun _ q => XS.lmul Y.here hx rfl (hb hby hd) rfl q) q
theorem w_land (X : Pos Z a0 n0 p l e R s m args below meth c code ml ret y T h k j) {x z : Int64} (hd : Dec code pc .land 1 nx) (q : Wp n0 p e R s below Q T (mkF m nx Ls (.long (x &&& z) :: S))) : Wp n0 p e R s below Q T (mkF m pc Ls (.long z :: .long x :: S)) := by
  obtain ⟨hx, hZ, hby, hml, hret, hown, hnm, hlk, eT, hn0, hw, locs, N, Y⟩ := X
  obtain ⟨hd, rfl⟩ := hd
  exact Wp.go (fun _ q => XS.land Y.here hx rfl (hb hby hd) rfl q) q
theorem w_lor (X : Pos Z a0 n0 p l e R s m args below meth c code ml ret y T h k j) {x z : Int64} (hd : Dec code pc .lor 1 nx) (q : Wp n0 p e R s below Q T (mkF m nx Ls (.long (x ||| z) :: S))) : Wp n0 p e R s below Q T (mkF m pc Ls (.long z :: .long x :: S)) := by
  obtain ⟨hx, hZ, hby, hml, hret, hown, hnm, hlk, eT, hn0, hw, locs, N, Y⟩ := X
  obtain ⟨hd, rfl⟩ := hd
  exact Wp.go (fun _ q => XS.lor Y.here hx rfl (hb hby hd) rfl q) q
theorem w_lxor (X : Pos Z a0 n0 p l e R s m args below meth c code ml ret y T h k j) {x z : Int64} (hd : Dec code pc .lxor 1 nx) (q : Wp n0 p e R s below Q T (mkF m nx Ls (.long (x ^^^ z) :: S))) : Wp n0 p e R s below Q T (mkF m pc Ls (.long z :: .long x :: S)) := by
  obtain ⟨hx, hZ, hby, hml, hret, hown, hnm, hlk, eT, hn0, hw, locs, N, Y⟩ := X
  obtain ⟨hd, rfl⟩ := hd
  exact Wp.go (fun _ q => XS.lxor Y.here hx rfl (hb hby hd) rfl q) q
theorem w_lshl (X : Pos Z a0 n0 p l e R s m args below meth c code ml ret y T h k j) {x : Int64} {z : Int32} (hd : Dec code pc .lshl 1 nx) (q : Wp n0 p e R s below Q T (mkF m nx Ls (.long (jshlL x z) :: S))) : Wp n0 p e R s below Q T (mkF m pc Ls (.int z :: .long x :: S)) := by
  obtain ⟨hx, hZ, hby, hml, hret, hown, hnm, hlk, eT, hn0, hw, locs, N, Y⟩ := X
  obtain ⟨hd, rfl⟩ := hd
  exact Wp.go (fun _ q => XS.lshl Y.here hx rfl (hb hby hd) rfl q) q
theorem w_lshr (X : Pos Z a0 n0 p l e R s m args below meth c code ml ret y T h k j) {x : Int64} {z : Int32} (hd : Dec code pc .lshr 1 nx) (q : Wp n0 p e R s below Q T (mkF m nx Ls (.long (jshrL x z) :: S))) : Wp n0 p e R s below Q T (mkF m pc Ls (.int z :: .long x :: S)) := by
  obtain ⟨hx, hZ, hby, hml, hret, hown, hnm, hlk, eT, hn0, hw, locs, N, Y⟩ := X
  obtain ⟨hd, rfl⟩ := hd
  exact Wp.go (fun _ q => XS.lshr Y.here hx rfl (hb hby hd) rfl q) q
theorem w_lushr (X : Pos Z a0 n0 p l e R s m args below meth c code ml ret y T h k j) {x : Int64} {z : Int32} (hd : Dec code pc .lushr 1 nx) (q : Wp n0 p e R s below Q T (mkF m nx Ls (.long (jushrL x z) :: S))) : Wp n0 p e R s below Q T (mkF m pc Ls (.int z :: .long x :: S)) := by
  obtain ⟨hx, hZ, hby, hml, hret, hown, hnm, hlk, eT, hn0, hw, locs, N, Y⟩ := X
  obtain ⟨hd, rfl⟩ := hd
  exact Wp.go (fun _ q => XS.lushr Y.here hx rfl (hb hby hd) rfl q) q
theorem w_idiv (X : Pos Z a0 n0 p l e R s m args below meth c code ml ret y T h k j) {x z : Int32} (hd : Dec code pc .idiv 1 nx) (hz : z ≠ 0) (q : Wp n0 p e R s below Q T (mkF m nx Ls (.int (x / z) :: S))) : Wp n0 p e R s below Q T (mkF m pc Ls (.int z :: .int x :: S)) := by
  obtain ⟨hx, hZ, hby, hml, hret, hown, hnm, hlk, eT, hn0, hw, locs, N, Y⟩ := X
  obtain ⟨hd, rfl⟩ := hd
  exact Wp.go (fun _ q => XS.idiv Y.here hx rfl (hb hby hd) rfl hz q) q
theorem w_irem (X : Pos Z a0 n0 p l e R s m args below meth c code ml ret y T h k j) {x z : Int32} (hd : Dec code pc .irem 1 nx) (hz : z ≠ 0) (q : Wp n0 p e R s below Q T (mkF m nx Ls (.int (x % z) :: S))) : Wp n0 p e R s below Q T (mkF m pc Ls (.int z :: .int x :: S)) := by
  obtain ⟨hx, hZ, hby, hml, hret, hown, hnm, hlk, eT, hn0, hw, locs, N, Y⟩ := X
  obtain ⟨hd, rfl⟩ := hd
  exact Wp.go (fun _ q => iremM Y hx rfl (hb hby hd) rfl hz q) q
theorem w_ldiv (X : Pos Z a0 n0 p l e R s m args below meth c code ml ret y T h k j) {x z : Int64} (hd : Dec code pc .ldiv 1 nx) (hz : z ≠ 0) (q : Wp n0 p e R s below Q T (mkF m nx Ls (.long (x / z) :: S))) : Wp n0 p e R s below Q T (mkF m pc Ls (.long z :: .long x :: S)) := by
  obtain ⟨hx, hZ, hby, hml, hret, hown, hnm, hlk, eT, hn0, hw, locs, N, Y⟩ := X
  obtain ⟨hd, rfl⟩ := hd
  exact Wp.go (fun _ q => XS.ldiv Y.here hx rfl (hb hby hd) rfl hz q) q
theorem w_lrem (X : Pos Z a0 n0 p l e R s m args below meth c code ml ret y T h k j) {x z : Int64} (hd : Dec code pc .lrem 1 nx) (hz : z ≠ 0) (q : Wp n0 p e R s below Q T (mkF m nx Ls (.long (x - (x / z) * z) :: S))) : Wp n0 p e R s below Q T (mkF m pc Ls (.long z :: .long x :: S)) := by
  obtain ⟨hx, hZ, hby, hml, hret, hown, hnm, hlk, eT, hn0, hw, locs, N, Y⟩ := X
  obtain ⟨hd, rfl⟩ := hd
  exact Wp.go (fun _ q => XS.lrem Y.here hx rfl (hb hby hd) rfl hz q) q
theorem w_ineg (X : Pos Z a0 n0 p l e R s m args below meth c code ml ret y T h k j) {x : Int32} (hd : Dec code pc .ineg 1 nx) (q : Wp n0 p e R s below Q T (mkF m nx Ls (.int (-x) :: S))) : Wp n0 p e R s below Q T (mkF m pc Ls (.int x :: S)) := by
  obtain ⟨hx, hZ, hby, hml, hret, hown, hnm, hlk, eT, hn0, hw, locs, N, Y⟩ := X
  obtain ⟨hd, rfl⟩ := hd
  exact Wp.go (fun _ q => XS.ineg Y.here hx rfl (hb hby hd) rfl q) q
theorem w_lneg (X : Pos Z a0 n0 p l e R s m args below meth c code ml ret y T h k j) {x : Int64} (hd : Dec code pc .lneg 1 nx) (q : Wp n0 p e R s below Q T (mkF m nx Ls (.long (-x) :: S))) : Wp n0 p e R s below Q T (mkF m pc Ls (.long x :: S)) := by
  obtain ⟨hx, hZ, hby, hml, hret, hown, hnm, hlk, eT, hn0, hw, locs, N, Y⟩ := X
  obtain ⟨hd, rfl⟩ := hd
  exact Wp.go (fun _ q => XS.lneg Y.here hx rfl (hb hby hd) rfl q) q
theorem w_i2l (X : Pos Z a0 n0 p l e R s m args below meth c code ml ret y T h k j) {x : Int32} (hd : Dec code pc .i2l 1 nx) (q : Wp n0 p e R s below Q T (mkF m nx Ls (.long (x.toInt64) :: S))) : Wp n0 p e R s below Q T (mkF m pc Ls (.int x :: S)) := by
  obtain ⟨hx, hZ, hby, hml, hret, hown, hnm, hlk, eT, hn0, hw, locs, N, Y⟩ := X
  obtain ⟨hd, rfl⟩ := hd
  exact Wp.go (fun _ q => XS.i2l Y.here hx rfl (hb hby hd) rfl q) q
theorem w_l2i (X : Pos Z a0 n0 p l e R s m args below meth c code ml ret y T h k j) {x : Int64} (hd : Dec code pc .l2i 1 nx) (q : Wp n0 p e R s below Q T (mkF m nx Ls (.int (x.toInt32) :: S))) : Wp n0 p e R s below Q T (mkF m pc Ls (.long x :: S)) := by
  obtain ⟨hx, hZ, hby, hml, hret, hown, hnm, hlk, eT, hn0, hw, locs, N, Y⟩ := X
  obtain ⟨hd, rfl⟩ := hd
  exact Wp.go (fun _ q => XS.l2i Y.here hx rfl (hb hby hd) rfl q) q
theorem w_i2b (X : Pos Z a0 n0 p l e R s m args below meth c code ml ret y T h k j) {x : Int32} (hd : Dec code pc .i2b 1 nx) (q : Wp n0 p e R s below Q T (mkF m nx Ls (.int (jbyte x) :: S))) : Wp n0 p e R s below Q T (mkF m pc Ls (.int x :: S)) := by
  obtain ⟨hx, hZ, hby, hml, hret, hown, hnm, hlk, eT, hn0, hw, locs, N, Y⟩ := X
  obtain ⟨hd, rfl⟩ := hd
  exact Wp.go (fun _ q => XS.i2b Y.here hx rfl (hb hby hd) rfl q) q
theorem w_iconst (X : Pos Z a0 n0 p l e R s m args below meth c code ml ret y T h k j) {i : Int} {v : Int32} (hd : Dec code pc (.iconst i) 1 nx) (hv : Int32.ofInt i = v) (q : Wp n0 p e R s below Q T (mkF m nx Ls (.int v :: S))) : Wp n0 p e R s below Q T (mkF m pc Ls S) := by
  obtain ⟨hx, hZ, hby, hml, hret, hown, hnm, hlk, eT, hn0, hw, locs, N, Y⟩ := X
  obtain ⟨hd, rfl⟩ := hd
  subst hv
  exact Wp.go (fun _ q => XS.iconst Y.here hx rfl (hb hby hd) q) q
theorem w_bipush (X : Pos Z a0 n0 p l e R s m args below meth c code ml ret y T h k j) {i : Int} {v : Int32} (hd : Dec code pc (.bipush i) 2 nx) (hv : (Int8.ofInt i).toInt32 = v) (q : Wp n0 p e R s below Q T (mkF m nx Ls (.int v :: S))) : Wp n0 p e R s below Q T (mkF m pc Ls S) := by
  obtain ⟨hx, hZ, hby, hml, hret, hown, hnm, hlk, eT, hn0, hw, locs, N, Y⟩ := X
  obtain ⟨hd, rfl⟩ := hd
  subst hv
  exact Wp.go (fun _ q => XS.bipush Y.here hx rfl (hb hby hd) q) q
theorem w_sipush (X : Pos Z a0 n0 p l e R s m args below meth c code ml ret y T h k j) {i : Int} {v : Int32} (hd : Dec code pc (.sipush i) 3 nx) (hv : (Int16.ofInt i).toInt32 = v) (q : Wp n0 p e R s below Q T (mkF m nx Ls (.int v :: S))) : Wp n0 p e R s below Q T (mkF m pc Ls S) := by
  obtain ⟨hx, hZ, hby, hml, hret, hown, hnm, hlk, eT, hn0, hw, locs, N, Y⟩ := X
  obtain ⟨hd, rfl⟩ := hd
  subst hv
  exact Wp.go (fun _ q => XS.sipush Y.here hx rfl (hb hby hd) q) q
theorem w_lconst0 (X : Pos Z a0 n0 p l e R s m args below meth c code ml ret y T h k j) (hd : Dec code pc (.lconst 0) 1 nx) (q : Wp n0 p e R s below Q T (mkF m nx Ls (.long 0 :: S))) : Wp n0 p e R s below Q T (mkF m pc Ls S) := by
  obtain ⟨hx, hZ, hby, hml, hret, hown, hnm, hlk, eT, hn0, hw, locs, N, Y⟩ := X
  obtain ⟨hd, rfl⟩ := hd
  exact Wp.go (fun _ q => XS.lconst Y.here hx rfl (hb hby hd) q) q
theorem w_lconst1 (X : Pos Z a0 n0 p l e R s m args below meth c code ml ret y T h k j) (hd : Dec code pc (.lconst 1) 1 nx) (q : Wp n0 p e R s below Q T (mkF m nx Ls (.long 1 :: S))) : Wp n0 p e R s below Q T (mkF m pc Ls S) := by
  obtain ⟨hx, hZ, hby, hml, hret, hown, hnm, hlk, eT, hn0, hw, locs, N, Y⟩ := X
  obtain ⟨hd, rfl⟩ := hd
  exact Wp.go (fun _ q => XS.lconst Y.here hx rfl (hb hby hd) q) q
theorem w_null (X : Pos Z a0 n0 p l e R s m args below meth c code ml ret y T h k j) (hd : Dec code pc .aconst_null 1 nx) (q : Wp n0 p e R s below Q T (mkF m nx Ls (.null :: S))) : Wp n0 p e R s below Q T (mkF m pc Ls S) := by
  obtain ⟨hx, hZ, hby, hml, hret, hown, hnm, hlk, eT, hn0, hw, locs, N, Y⟩ := X
  obtain ⟨hd, rfl⟩ := hd
  exact Wp.go (fun _ q => XS.aconstNull Y.here hx rfl (hb hby hd) q) q
theorem w_iloadN (X : Pos Z a0 n0 p l e R s m args below meth c code ml ret y T h k j) {w : Fin 4} {v : Int32} (hd : Dec code pc (.iload_n w) 1 nx) (hl : Ls[w.val]? = some (.val (.int v))) (q : Wp n0 p e R s below Q T (mkF m nx Ls (.int v :: S))) : Wp n0 p e R s below Q T (mkF m pc Ls S) := by
  obtain ⟨hx, hZ, hby, hml, hret, hown, hnm, hlk, eT, hn0, hw, locs, N, Y⟩ := X
  obtain ⟨hd, rfl⟩ := hd
  exact Wp.go (fun _ q => XS.iloadN Y.here hx rfl (hb hby hd) hl q) q
theorem w_iload (X : Pos Z a0 n0 p l e R s m args below meth c code ml ret y T h k j) {w : Nat} {v : Int32} (hd : Dec code pc (.iload w) 2 nx) (hl : Ls[w]? = some (.val (.int v))) (q : Wp n0 p e R s below Q T (mkF m nx Ls (.int v :: S))) : Wp n0 p e R s below Q T (mkF m pc Ls S) := by
  obtain ⟨hx, hZ, hby, hml, hret, hown, hnm, hlk, eT, hn0, hw, locs, N, Y⟩ := X
  obtain ⟨hd, rfl⟩ := hd
  exact Wp.go (fun _ q => XS.iload Y.here hx rfl (hb hby hd) hl q) q
theorem w_lloadN (X : Pos Z a0 n0 p l e R s m args below meth c code ml ret y T h k j) {w : Fin 4} {v : Int64} (hd : Dec code pc (.lload_n w) 1 nx) (hl : Ls[w.val]? = some (.val (.long v))) (q : Wp n0 p e R s below Q T (mkF m nx Ls (.long v :: S))) : Wp n0 p e R s below Q T (mkF m pc Ls S) := by
  obtain ⟨hx, hZ, hby, hml, hret, hown, hnm, hlk, eT, hn0, hw, locs, N, Y⟩ := X
  obtain ⟨hd, rfl⟩ := hd
  exact Wp.go (fun _ q => XS.lloadN Y.here hx rfl (hb hby hd) hl q) q
theorem w_lload (X : Pos Z a0 n0 p l e R s m args below meth c code ml ret y T h k j) {w : Nat} {v : Int64} (hd : Dec code pc (.lload w) 2 nx) (hl : Ls[w]? = some (.val (.long v))) (q : Wp n0 p e R s below Q T (mkF m nx Ls (.long v :: S))) : Wp n0 p e R s below Q T (mkF m pc Ls S) := by
  obtain ⟨hx, hZ, hby, hml, hret, hown, hnm, hlk, eT, hn0, hw, locs, N, Y⟩ := X
  obtain ⟨hd, rfl⟩ := hd
  exact Wp.go (fun _ q => XS.lload Y.here hx rfl (hb hby hd) hl q) q
theorem w_aloadN (X : Pos Z a0 n0 p l e R s m args below meth c code ml ret y T h k j) {w : Fin 4} {v : Value} (hd : Dec code pc (.aload_n w) 1 nx) (hl : Ls[w.val]? = some (.val v)) (hv : v.isRef = true) (q : Wp n0 p e R s below Q T (mkF m nx Ls (v :: S))) : Wp n0 p e R s below Q T (mkF m pc Ls S) := by
  obtain ⟨hx, hZ, hby, hml, hret, hown, hnm, hlk, eT, hn0, hw, locs, N, Y⟩ := X
  obtain ⟨hd, rfl⟩ := hd
  exact Wp.go (fun _ q => XS.aloadN Y.here hx rfl (hb hby hd) hl hv q) q
theorem w_astoreN (X : Pos Z a0 n0 p l e R s m args below meth c code ml ret y T h k j) {w : Fin 4} {v : Value} {l' : Array Slot} (hd : Dec code pc (.astore_n w) 1 nx) (hv : v.isRef = true) (hl : storeLocals Ls w.val v = some l') (q : Wp n0 p e R s below Q T (mkF m nx l' S)) : Wp n0 p e R s below Q T (mkF m pc Ls (v :: S)) := by
  obtain ⟨hx, hZ, hby, hml, hret, hown, hnm, hlk, eT, hn0, hw, locs, N, Y⟩ := X
  obtain ⟨hd, rfl⟩ := hd
  exact Wp.go (fun _ q => XS.astoreN Y.here hx rfl (hb hby hd) rfl hv hl q) q
theorem w_istoreN (X : Pos Z a0 n0 p l e R s m args below meth c code ml ret y T h k j) {w : Fin 4} {v : Int32} {l' : Array Slot} (hd : Dec code pc (.istore_n w) 1 nx) (hl : storeLocals Ls w.val (.int v) = some l') (q : Wp n0 p e R s below Q T (mkF m nx l' S)) : Wp n0 p e R s below Q T (mkF m pc Ls (.int v :: S)) := by
  obtain ⟨hx, hZ, hby, hml, hret, hown, hnm, hlk, eT, hn0, hw, locs, N, Y⟩ := X
  obtain ⟨hd, rfl⟩ := hd
  exact Wp.go (fun _ q => XS.istoreN Y.here hx rfl (hb hby hd) rfl hl q) q
theorem w_istoreNE (X : Pos Z a0 n0 p l e R s m args below meth c code ml ret y T h k j) {w : Fin 4} {v : Int32} {l' : Int32 → Array Slot} (hd : Dec code pc (.istore_n w) 1 nx) (hl : ∀ z, storeLocals Ls w.val (.int z) = some (l' z)) (q : ∀ z, z = v → Wp n0 p e R s below Q T (mkF m nx (l' z) S)) : Wp n0 p e R s below Q T (mkF m pc Ls (.int v :: S)) := w_istoreN X hd (hl v) (q v rfl)
theorem w_lstoreN (X : Pos Z a0 n0 p l e R s m args below meth c code ml ret y T h k j) {w : Fin 4} {v : Int64} {l' : Array Slot} (hd : Dec code pc (.lstore_n w) 1 nx) (hl : storeLocals Ls w.val (.long v) = some l') (q : Wp n0 p e R s below Q T (mkF m nx l' S)) : Wp n0 p e R s below Q T (mkF m pc Ls (.long v :: S)) := by
  obtain ⟨hx, hZ, hby, hml, hret, hown, hnm, hlk, eT, hn0, hw, locs, N, Y⟩ := X
  obtain ⟨hd, rfl⟩ := hd
  exact Wp.go (fun _ q => XS.lstoreN Y.here hx rfl (hb hby hd) rfl hl q) q
theorem w_lstoreNE (X : Pos Z a0 n0 p l e R s m args below meth c code ml ret y T h k j) {w : Fin 4} {v : Int64} {l' : Int64 → Array Slot} (hd : Dec code pc (.lstore_n w) 1 nx) (hl : ∀ z, storeLocals Ls w.val (.long z) = some (l' z)) (q : ∀ z, z = v → Wp n0 p e R s below Q T (mkF m nx (l' z) S)) : Wp n0 p e R s below Q T (mkF m pc Ls (.long v :: S)) := w_lstoreN X hd (hl v) (q v rfl)
theorem w_aload (X : Pos Z a0 n0 p l e R s m args below meth c code ml ret y T h k j) {w : Nat} {v : Value} (hd : Dec code pc (.aload w) 2 nx) (hl : Ls[w]? = some (.val v)) (hv : v.isRef = true) (q : Wp n0 p e R s below Q T (mkF m nx Ls (v :: S))) : Wp n0 p e R s below Q T (mkF m pc Ls S) := by
  obtain ⟨hx, hZ, hby, hml, hret, hown, hnm, hlk, eT, hn0, hw, locs, N, Y⟩ := X
  obtain ⟨hd, rfl⟩ := hd
  exact Wp.go (fun _ q => XS.aload Y.here hx rfl (hb hby hd) hl hv q) q
theorem w_astore (X : Pos Z a0 n0 p l e R s m args below meth c code ml ret y T h k j) {w : Nat} {v : Value} {l' : Array Slot} (hd : Dec code pc (.astore w) 2 nx) (hv : v.isRef = true) (hl : storeLocals Ls w v = some l') (q : Wp n0 p e R s below Q T (mkF m nx l' S)) : Wp n0 p e R s below Q T (mkF m pc Ls (v :: S)) := by
  obtain ⟨hx, hZ, hby, hml, hret, hown, hnm, hlk, eT, hn0, hw, locs, N, Y⟩ := X
  obtain ⟨hd, rfl⟩ := hd
  exact Wp.go (fun _ q => XS.astore Y.here hx rfl (hb hby hd) rfl hv hl q) q
theorem w_istore (X : Pos Z a0 n0 p l e R s m args below meth c code ml ret y T h k j) {w : Nat} {v : Int32} {l' : Array Slot} (hd : Dec code pc (.istore w) 2 nx) (hl : storeLocals Ls w (.int v) = some l') (q : Wp n0 p e R s below Q T (mkF m nx l' S)) : Wp n0 p e R s below Q T (mkF m pc Ls (.int v :: S)) := by
  obtain ⟨hx, hZ, hby, hml, hret, hown, hnm, hlk, eT, hn0, hw, locs, N, Y⟩ := X
  obtain ⟨hd, rfl⟩ := hd
  exact Wp.go (fun _ q => XS.istore Y.here hx rfl (hb hby hd) rfl hl q) q
theorem w_istoreE (X : Pos Z a0 n0 p l e R s m args below meth c code ml ret y T h k j) {w : Nat} {v : Int32} {l' : Int32 → Array Slot} (hd : Dec code pc (.istore w) 2 nx) (hl : ∀ z, storeLocals Ls w (.int z) = some (l' z)) (q : ∀ z, z = v → Wp n0 p e R s below Q T (mkF m nx (l' z) S)) : Wp n0 p e R s below Q T (mkF m pc Ls (.int v :: S)) := w_istore X hd (hl v) (q v rfl)
theorem w_lstore (X : Pos Z a0 n0 p l e R s m args below meth c code ml ret y T h k j) {w : Nat} {v : Int64} {l' : Array Slot} (hd : Dec code pc (.lstore w) 2 nx) (hl : storeLocals Ls w (.long v) = some l') (q : Wp n0 p e R s below Q T (mkF m nx l' S)) : Wp n0 p e R s below Q T (mkF m pc Ls (.long v :: S)) := by
  obtain ⟨hx, hZ, hby, hml, hret, hown, hnm, hlk, eT, hn0, hw, locs, N, Y⟩ := X
  obtain ⟨hd, rfl⟩ := hd
  exact Wp.go (fun _ q => XS.lstore Y.here hx rfl (hb hby hd) rfl hl q) q
theorem w_lstoreE (X : Pos Z a0 n0 p l e R s m args below meth c code ml ret y T h k j) {w : Nat} {v : Int64} {l' : Int64 → Array Slot} (hd : Dec code pc (.lstore w) 2 nx) (hl : ∀ z, storeLocals Ls w (.long z) = some (l' z)) (q : ∀ z, z = v → Wp n0 p e R s below Q T (mkF m nx (l' z) S)) : Wp n0 p e R s below Q T (mkF m pc Ls (.long v :: S)) := w_lstore X hd (hl v) (q v rfl)
theorem w_istoreNS (X : Pos Z a0 n0 p l e R s m args below meth c code ml ret y T h k j) {w : Fin 4} {v : Int32} {l' : Array Slot} {o : Slot} (hd : Dec code pc (.istore_n w) 1 nx) (hold : Ls[w.val]? = some o) (ho : One o) (hl : Ls.setIfInBounds w.val (.val (.int v)) = l') (q : Wp n0 p e R s below Q T (mkF m nx l' S)) : Wp n0 p e R s below Q T (mkF m pc Ls (.int v :: S)) := w_istoreN X hd ((XS.store1 hold ho rfl).trans (congrArg some hl)) q
theorem w_istoreS (X : Pos Z a0 n0 p l e R s m args below meth c code ml ret y T h k j) {w : Nat} {v : Int32} {l' : Array Slot} {o : Slot} (hd : Dec code pc (.istore w) 2 nx) (hold : Ls[w]? = some o) (ho : One o) (hl : Ls.setIfInBounds w (.val (.int v)) = l') (q : Wp n0 p e R s below Q T (mkF m nx l' S)) : Wp n0 p e R s below Q T (mkF m pc Ls (.int v :: S)) := w_istore X hd ((XS.store1 hold ho rfl).trans (congrArg some hl)) q
theorem w_iinc (X : Pos Z a0 n0 p l e R s m args below meth c code ml ret y T h k j) {w : Nat} {i : Int} {d v r : Int32} {l' : Array Slot} (hd : Dec code pc (.iinc w i) 3 nx) (hl : Ls[w]? = some (.val (.int v))) (hi : Int32.ofInt i = d) (hr : v + d = r) (hl' : storeLocals Ls w (.int r) = some l') (q : Wp n0 p e R s below Q T (mkF m nx l' S)) : Wp n0 p e R s below Q T (mkF m pc Ls S) := by
  obtain ⟨hx, hZ, hby, hml, hret, hown, hnm, hlk, eT, hn0, hw, locs, N, Y⟩ := X
  obtain ⟨hd, rfl⟩ := hd
  subst hi hr
  exact Wp.go (fun _ q => XS.iinc Y.here hx rfl (hb hby hd) hl hl' q) q
theorem w_dup (X : Pos Z a0 n0 p l e R s m args below meth c code ml ret y T h k j) {v : Value} (hd : Dec code pc .dup 1 nx) (hv : v.category = 1) (q : Wp n0 p e R s below Q T (mkF m nx Ls (v :: v :: S))) : Wp n0 p e R s below Q T (mkF m pc Ls (v :: S)) := by
  obtain ⟨hx, hZ, hby, hml, hret, hown, hnm, hlk, eT, hn0, hw, locs, N, Y⟩ := X
  obtain ⟨hd, rfl⟩ := hd
  exact Wp.go (fun _ q => XS.dup Y.here hx rfl (hb hby hd) rfl hv q) q
theorem w_pop (X : Pos Z a0 n0 p l e R s m args below meth c code ml ret y T h k j) {v : Value} (hd : Dec code pc .pop 1 nx) (hv : v.category = 1) (q : Wp n0 p e R s below Q T (mkF m nx Ls S)) : Wp n0 p e R s below Q T (mkF m pc Ls (v :: S)) := by
  obtain ⟨hx, hZ, hby, hml, hret, hown, hnm, hlk, eT, hn0, hw, locs, N, Y⟩ := X
  obtain ⟨hd, rfl⟩ := hd
  exact Wp.go (fun _ q => XS.pop Y.here hx rfl (hb hby hd) rfl hv q) q
theorem w_dupX1 (X : Pos Z a0 n0 p l e R s m args below meth c code ml ret y T h k j) {v w : Value} (hd : Dec code pc .dup_x1 1 nx) (hv : v.category = 1) (hw' : w.category = 1) (q : Wp n0 p e R s below Q T (mkF m nx Ls (v :: w :: v :: S))) : Wp n0 p e R s below Q T (mkF m pc Ls (v :: w :: S)) := by
  obtain ⟨hx, hZ, hby, hml, hret, hown, hnm, hlk, eT, hn0, hw, locs, N, Y⟩ := X
  obtain ⟨hd, rfl⟩ := hd
  exact Wp.go (fun _ q => XS.dupX1 Y.here hx rfl (hb hby hd) rfl hv hw' q) q
theorem w_dup2 (X : Pos Z a0 n0 p l e R s m args below meth c code ml ret y T h k j) {v w : Value} (hd : Dec code pc .dup2 1 nx) (hv : v.category = 1) (hw' : w.category = 1) (q : Wp n0 p e R s below Q T (mkF m nx Ls (v :: w :: v :: w :: S))) : Wp n0 p e R s below Q T (mkF m pc Ls (v :: w :: S)) := by
  obtain ⟨hx, hZ, hby, hml, hret, hown, hnm, hlk, eT, hn0, hw, locs, N, Y⟩ := X
  obtain ⟨hd, rfl⟩ := hd
  exact Wp.go (fun _ q => Jvm.Free.XT.dup2 Y.here hx rfl (hb hby hd) rfl hv hw' q) q
theorem w_goto (X : Pos Z a0 n0 p l e R s m args below meth c code ml ret y T h k j) {o : Int} (hd : Jmp code pc (.goto o) o nx tgt) (q : Wp n0 p e R s below Q T (mkF m tgt Ls S)) : Wp n0 p e R s below Q T (mkF m pc Ls S) := by
  obtain ⟨hx, hZ, hby, hml, hret, hown, hnm, hlk, eT, hn0, hw, locs, N, Y⟩ := X
  obtain ⟨hd, -, ho, hp⟩ := hd
  exact Wp.go (fun _ q => XS.goto Y.here hx rfl (pc0 := pc) (pc' := tgt) rfl (hb hby hd) ho hp q) q
theorem w_icmpeq (X : Pos Z a0 n0 p l e R s m args below meth c code ml ret y T h k j) {x z : Int32} {o : Int} (hd : Jmp code pc (.if_icmp .eq o) o nx tgt) (qt : x = z → Wp n0 p e R s below Q T (mkF m tgt Ls S)) (qf : ¬ x = z → Wp n0 p e R s below Q T (mkF m nx Ls S)) : Wp n0 p e R s below Q T (mkF m pc Ls (.int z :: .int x :: S)) := by
  obtain ⟨hx, hZ, hby, hml, hret, hown, hnm, hlk, eT, hn0, hw, locs, N, Y⟩ := X
  obtain ⟨hd, rfl, ho, hp⟩ := hd
  by_cases hc : x = z
  · exact Wp.go (fun _ q => XS.icmpYes Y.here hx rfl (pc0 := pc) (pc' := tgt) rfl (hb hby hd) rfl (Jvm.Free.XT.ii_eq_t hc) ho hp q) (qt hc)
  · exact Wp.go (fun _ q => XS.icmpNo Y.here hx rfl (hb hby hd) rfl (Jvm.Free.XT.ii_eq_f hc) q) (qf hc)
theorem w_ifeq (X : Pos Z a0 n0 p l e R s m args below meth c code ml ret y T h k j) {x : Int32} {o : Int} (hd : Jmp code pc (.ifCond .eq o) o nx tgt) (qt : x = 0 → Wp n0 p e R s below Q T (mkF m tgt Ls S)) (qf : ¬ x = 0 → Wp n0 p e R s below Q T (mkF m nx Ls S)) : Wp n0 p e R s below Q T (mkF m pc Ls (.int x :: S)) := by
  obtain ⟨hx, hZ, hby, hml, hret, hown, hnm, hlk, eT, hn0, hw, locs, N, Y⟩ := X
  obtain ⟨hd, rfl, ho, hp⟩ := hd
  by_cases hc : x = 0
  · exact Wp.go (fun _ q => XS.ifYes Y.here hx rfl (pc0 := pc) (pc' := tgt) rfl (hb hby hd) rfl (Jvm.Free.XT.i0_eq_t hc) ho hp q) (qt hc)
  · exact Wp.go (fun _ q => XS.ifNo Y.here hx rfl (hb hby hd) rfl (Jvm.Free.XT.i0_eq_f hc) q) (qf hc)
theorem w_lcmpeq (X : Pos Z a0 n0 p l e R s m args below meth c code ml ret y T h k j) {x z : Int64} {o : Int} {mid : Nat} (hd0 : Dec code pc .lcmp 1 mid) (hd : Jmp code mid (.ifCond .eq o) o nx tgt) (qt : x = z → Wp n0 p e R s below Q T (mkF m tgt Ls S)) (qf : ¬ x = z → Wp n0 p e R s below Q T (mkF m nx Ls S)) : Wp n0 p e R s below Q T (mkF m pc Ls (.long z :: .long x :: S)) := by
  obtain ⟨hx, hZ, hby, hml, hret, hown, hnm, hlk, eT, hn0, hw, locs, N, Y⟩ := X
  obtain ⟨hd0, rfl⟩ := hd0
  obtain ⟨hd, rfl, ho, hp⟩ := hd
  refine Wp.go (fun _ q => Jvm.Free.XT.lcmp Y.here hx rfl (hb hby hd0) rfl q) ?_
  by_cases hc : x = z
  · exact Wp.go (fun _ q => XS.ifYes Y.here hx rfl (pc0 := pc + 1) (pc' := tgt) rfl (hb hby hd) rfl (Jvm.Free.XT.ll_eq_t hc) ho hp q) (qt hc)
  · exact Wp.go (fun _ q => XS.ifNo Y.here hx rfl (hb hby hd) rfl (Jvm.Free.XT.ll_eq_f hc) q) (qf hc)
theorem w_icmpne (X : Pos Z a0 n0 p l e R s m args below meth c code ml ret y T h k j) {x z : Int32} {o : Int} (hd : Jmp code pc (.if_icmp .ne o) o nx tgt) (qt : ¬ x = z → Wp n0 p e R s below Q T (mkF m tgt Ls S)) (qf : x = z → Wp n0 p e R s below Q T (mkF m nx Ls S)) : Wp n0 p e R s below Q T (mkF m pc Ls (.int z :: .int x :: S)) := by
  obtain ⟨hx, hZ, hby, hml, hret, hown, hnm, hlk, eT, hn0, hw, locs, N, Y⟩ := X
  obtain ⟨hd, rfl, ho, hp⟩ := hd
  by_cases hc : x = z
  · exact Wp.go (fun _ q => XS.icmpNo Y.here hx rfl (hb hby hd) rfl (Jvm.Free.XT.ii_ne_f hc) q) (qf hc)
  · exact Wp.go (fun _ q => XS.icmpYes Y.here hx rfl (pc0 := pc) (pc' := tgt) rfl (hb hby hd) rfl (Jvm.Free.XT.ii_ne_t hc) ho hp q) (qt hc)
theorem w_ifne (X : Pos Z a0 n0 p l e R s m args below meth c code ml ret y T h k j) {x : Int32} {o : Int} (hd : Jmp code pc (.ifCond .ne o) o nx tgt) (qt : ¬ x = 0 → Wp n0 p e R s below Q T (mkF m tgt Ls S)) (qf : x = 0 → Wp n0 p e R s below Q T (mkF m nx Ls S)) : Wp n0 p e R s below Q T (mkF m pc Ls (.int x :: S)) := by
  obtain ⟨hx, hZ, hby, hml, hret, hown, hnm, hlk, eT, hn0, hw, locs, N, Y⟩ := X
  obtain ⟨hd, rfl, ho, hp⟩ := hd
  by_cases hc : x = 0
  · exact Wp.go (fun _ q => XS.ifNo Y.here hx rfl (hb hby hd) rfl (Jvm.Free.XT.i0_ne_f hc) q) (qf hc)
  · exact Wp.go (fun _ q => XS.ifYes Y.here hx rfl (pc0 := pc) (pc' := tgt) rfl (hb hby hd) rfl (Jvm.Free.XT.i0_ne_t hc) ho hp q) (qt hc)
theorem w_lcmpne (X : Pos Z a0 n0 p l e R s m args below meth c code ml ret y T h k j) {x z : Int64} {o : Int} {mid : Nat} (hd0 : Dec code pc .lcmp 1 mid) (hd : Jmp code mid (.ifCond .ne o) o nx tgt) (qt : ¬ x = z → Wp n0 p e R s below Q T (mkF m tgt Ls S)) (qf : x = z → Wp n0 p e R s below Q T (mkF m nx Ls S)) : Wp n0 p e R s below Q T (mkF m pc Ls (.long z :: .long x :: S)) := by
  obtain ⟨hx, hZ, hby, hml, hret, hown, hnm, hlk, eT, hn0, hw, locs, N, Y⟩ := X
  obtain ⟨hd0, rfl⟩ := hd0
  obtain ⟨hd, rfl, ho, hp⟩ := hd
  refine Wp.go (fun _ q => Jvm.Free.XT.lcmp Y.here hx rfl (hb hby hd0) rfl q) ?_
  by_cases hc : x = z
  · exact Wp.go (fun _ q => XS.ifNo Y.here hx rfl (hb hby hd) rfl (Jvm.Free.XT.ll_ne_f hc) q) (qf hc)
  · exact Wp.go (fun _ q => XS.ifYes Y.here hx rfl (pc0 := pc + 1) (pc' := tgt) rfl (hb hby hd) rfl (Jvm.Free.XT.ll_ne_t hc) ho hp q) (qt hc)
theorem w_icmplt (X : Pos Z a0 n0 p l e R s m args below meth c code ml ret y T h k j) {x z : Int32} {o : Int} (hd : Jmp code pc (.if_icmp .lt o) o nx tgt) (qt : x < z → Wp n0 p e R s below Q T (mkF m tgt Ls S)) (qf : ¬ x < z → Wp n0 p e R s below Q T (mkF m nx Ls S)) : Wp n0 p e R s below Q T (mkF m pc Ls (.int z :: .int x :: S)) := by
  obtain ⟨hx, hZ, hby, hml, hret, hown, hnm, hlk, eT, hn0, hw, locs, N, Y⟩ := X
  obtain ⟨hd, rfl, ho, hp⟩ := hd
  by_cases hc : x < z
  · exact Wp.go (fun _ q => XS.icmpYes Y.here hx rfl (pc0 := pc) (pc' := tgt) rfl (hb hby hd) rfl (Jvm.Free.XT.ii_lt_t hc) ho hp q) (qt hc)
  · exact Wp.go (fun _ q => XS.icmpNo Y.here hx rfl (hb hby hd) rfl (Jvm.Free.XT.ii_lt_f hc) q) (qf hc)
theorem w_iflt (X : Pos Z a0 n0 p l e R s m args below meth c code ml ret y T h k j) {x : Int32} {o : Int} (hd : Jmp code pc (.ifCond .lt o) o nx tgt) (qt : x < 0 → Wp n0 p e R s below Q T (mkF m tgt Ls S)) (qf : ¬ x < 0 → Wp n0 p e R s below Q T (mkF m nx Ls S)) : Wp n0 p e R s below Q T (mkF m pc Ls (.int x :: S)) := by
  obtain ⟨hx, hZ, hby, hml, hret, hown, hnm, hlk, eT, hn0, hw, locs, N, Y⟩ := X
  obtain ⟨hd, rfl, ho, hp⟩ := hd
  by_cases hc : x < 0
  · exact Wp.go (fun _ q => XS.ifYes Y.here hx rfl (pc0 := pc) (pc' := tgt) rfl (hb hby hd) rfl (Jvm.Free.XT.i0_lt_t hc) ho hp q) (qt hc)
  · exact Wp.go (fun _ q => XS.ifNo Y.here hx rfl (hb hby hd) rfl (Jvm.Free.XT.i0_lt_f hc) q) (qf hc)
theorem w_lcmplt (X : Pos Z a0 n0 p l e R s m args below meth c code ml ret y T h k j) {x z : Int64} {o : Int} {mid : Nat} (hd0 : Dec code pc .lcmp 1 mid) (hd : Jmp code mid (.ifCond .lt o) o nx tgt) (qt : x < z → Wp n0 p e R s below Q T (mkF m tgt Ls S)) (qf : ¬ x < z → Wp n0 p e R s below Q T (mkF m nx Ls S)) : Wp n0 p e R s below Q T (mkF m pc Ls (.long z :: .long x :: S)) := by
  obtain ⟨hx, hZ, hby, hml, hret, hown, hnm, hlk, eT, hn0, hw, locs, N, Y⟩ := X
  obtain ⟨hd0, rfl⟩ := hd0
  obtain ⟨hd, rfl, ho, hp⟩ := hd
  refine Wp.go (fun _ q => Jvm.Free.XT.lcmp Y.here hx rfl (hb hby hd0) rfl q) ?_
  by_cases hc : x < z
  · exact Wp.go (fun _ q => XS.ifYes Y.here hx rfl (pc0 := pc + 1) (pc' := tgt) rfl (hb hby hd) rfl (Jvm.Free.XT.ll_lt_t hc) ho hp q) (qt hc)
  · exact Wp.go (fun _ q => XS.ifNo Y.here hx rfl (hb hby hd) rfl (Jvm.Free.XT.ll_lt_f hc) q) (qf hc)
theorem w_icmpge (X : Pos Z a0 n0 p l e R s m args below meth c code ml ret y T h k j) {x z : Int32} {o : Int} (hd : Jmp code pc (.if_icmp .ge o) o nx tgt) (qt : ¬ x < z → Wp n0 p e R s below Q T (mkF m tgt Ls S)) (qf : x < z → Wp n0 p e R s below Q T (mkF m nx Ls S)) : Wp n0 p e R s below Q T (mkF m pc Ls (.int z :: .int x :: S)) := by
  obtain ⟨hx, hZ, hby, hml, hret, hown, hnm, hlk, eT, hn0, hw, locs, N, Y⟩ := X
  obtain ⟨hd, rfl, ho, hp⟩ := hd
  by_cases hc : x < z
  · exact Wp.go (fun _ q => XS.icmpNo Y.here hx rfl (hb hby hd) rfl (Jvm.Free.XT.ii_ge_f hc) q) (qf hc)
  · exact Wp.go (fun _ q => XS.icmpYes Y.here hx rfl (pc0 := pc) (pc' := tgt) rfl (hb hby hd) rfl (Jvm.Free.XT.ii_ge_t hc) ho hp q) (qt hc)
theorem w_ifge (X : Pos Z a0 n0 p l e R s m args below meth c code ml ret y T h k j) {x : Int32} {o : Int} (hd : Jmp code pc (.ifCond .ge o) o nx tgt) (qt : ¬ x < 0 → Wp n0 p e R s below Q T (mkF m tgt Ls S)) (qf : x < 0 → Wp n0 p e R s below Q T (mkF m nx Ls S)) : Wp n0 p e R s below Q T (mkF m pc Ls (.int x :: S)) := by
  obtain ⟨hx, hZ, hby, hml, hret, hown, hnm, hlk, eT, hn0, hw, locs, N, Y⟩ := X
  obtain ⟨hd, rfl, ho, hp⟩ := hd
  by_cases hc : x < 0
  · exact Wp.go (fun _ q => XS.ifNo Y.here hx rfl (hb hby hd) rfl (Jvm.Free.XT.i0_ge_f hc) q) (qf hc)
  · exact Wp.go (fun _ q => XS.ifYes Y.here hx rfl (pc0 := pc) (pc' := tgt) rfl (hb hby hd) rfl (Jvm.Free.XT.i0_ge_t hc) ho hp q) (qt hc)
theorem w_lcmpge (X : Pos Z a0 n0 p l e R s m args below meth c code ml ret y T h k j) {x z : Int64} {o : Int} {mid : Nat} (hd0 : Dec code pc .lcmp 1 mid) (hd : Jmp code mid (.ifCond .ge o) o nx tgt) (qt : ¬ x < z → Wp n0 p e R s below Q T (mkF m tgt Ls S)) (qf : x < z → Wp n0 p e R s below Q T (mkF m nx Ls S)) : Wp n0 p e R s below Q T (mkF m pc Ls (.long z :: .long x :: S)) := by
  obtain ⟨hx, hZ, hby, hml, hret, hown, hnm, hlk, eT, hn0, hw, locs, N, Y⟩ := X
  obtain ⟨hd0, rfl⟩ := hd0
  obtain ⟨hd, rfl, ho, hp⟩ := hd
  refine Wp.go (fun _ q => Jvm.Free.XT.lcmp Y.here hx rfl (hb hby hd0) rfl q) ?_
  by_cases hc : x < z
  · exact Wp.go (fun _ q => XS.ifNo Y.here hx rfl (hb hby hd) rfl (Jvm.Free.XT.ll_ge_f hc) q) (qf hc)
  · exact Wp.go (fun _ q => XS.ifYes Y.here hx rfl (pc0 := pc + 1) (pc' := tgt) rfl (hb hby hd) rfl (Jvm.Free.XT.ll_ge_t hc) ho hp q) (qt hc)
theorem w_icmpgt (X : Pos Z a0 n0 p l e R s m args below meth c code ml ret y T h k j) {x z : Int32} {o : Int} (hd : Jmp code pc (.if_icmp .gt o) o nx tgt) (qt : z < x → Wp n0 p e R s below Q T (mkF m tgt Ls S)) (qf : ¬ z < x → Wp n0 p e R s below Q T (mkF m nx Ls S)) : Wp n0 p e R s below Q T (mkF m pc Ls (.int z :: .int x :: S)) := by
  obtain ⟨hx, hZ, hby, hml, hret, hown, hnm, hlk, eT, hn0, hw, locs, N, Y⟩ := X
  obtain ⟨hd, rfl, ho, hp⟩ := hd
  by_cases hc : z < x
  · exact Wp.go (fun _ q => XS.icmpYes Y.here hx rfl (pc0 := pc) (pc' := tgt) rfl (hb hby hd) rfl (Jvm.Free.XT.ii_gt_t hc) ho hp q) (qt hc)
  · exact Wp.go (fun _ q => XS.icmpNo Y.here hx rfl (hb hby hd) rfl (Jvm.Free.XT.ii_gt_f hc) q) (qf hc)
theorem w_ifgt (X : Pos Z a0 n0 p l e R s m args below meth c code ml ret y T h k j) {x : Int32} {o : Int} (hd : Jmp code pc (.ifCond .gt o) o nx tgt) (qt : 0 < x → Wp n0 p e R s below Q T (mkF m tgt Ls S)) (qf : ¬ 0 < x → Wp n0 p e R s below Q T (mkF m nx Ls S)) : Wp n0 p e R s below Q T (mkF m pc Ls (.int x :: S)) := by
  obtain ⟨hx, hZ, hby, hml, hret, hown, hnm, hlk, eT, hn0, hw, locs, N, Y⟩ := X
  obtain ⟨hd, rfl, ho, hp⟩ := hd
  by_cases hc : 0 < x
  · exact Wp.go (fun _ q => XS.ifYes Y.here hx rfl (pc0 := pc) (pc' := tgt) rfl (hb hby hd) rfl (Jvm.Free.XT.i0_gt_t hc) ho hp q) (qt hc)
  · exact Wp.go (fun _ q => XS.ifNo Y.here hx rfl (hb hby hd) rfl (Jvm.Free.XT.i0_gt_f hc) q) (qf hc)
theorem w_lcmpgt (X : Pos Z a0 n0 p l e R s m args below meth c code ml ret y T h k j) {x z : Int64} {o : Int} {mid : Nat} (hd0 : Dec code pc .lcmp 1 mid) (hd : Jmp code mid (.ifCond .gt o) o nx tgt) (qt : z < x → Wp n0 p e R s below Q T (mkF m tgt Ls S)) (qf : ¬ z < x → Wp n0 p e R s below Q T (mkF m nx Ls S)) : Wp n0 p e R s below Q T (mkF m pc Ls (.long z :: .long x :: S)) := by
  obtain ⟨hx, hZ, hby, hml, hret, hown, hnm, hlk, eT, hn0, hw, locs, N, Y⟩ := X
  obtain ⟨hd0, rfl⟩ := hd0
  obtain ⟨hd, rfl, ho, hp⟩ := hd
  refine Wp.go (fun _ q => Jvm.Free.XT.lcmp Y.here hx rfl (hb hby hd0) rfl q) ?_
  by_cases hc : z < x
  · exact Wp.go (fun _ q => XS.ifYes Y.here hx rfl (pc0 := pc + 1) (pc' := tgt) rfl (hb hby hd) rfl (Jvm.Free.XT.ll_gt_t hc) ho hp q) (qt hc)
  · exact Wp.go (fun _ q => XS.ifNo Y.here hx rfl (hb hby hd) rfl (Jvm.Free.XT.ll_gt_f hc) q) (qf hc)
theorem w_icmple (X : Pos Z a0 n0 p l e R s m args below meth c code ml ret y T h k j) {x z : Int32} {o : Int} (hd : Jmp code pc (.if_icmp .le o) o nx tgt) (qt : ¬ z < x → Wp n0 p e R s below Q T (mkF m tgt Ls S)) (qf : z < x → Wp n0 p e R s below Q T (mkF m nx Ls S)) : Wp n0 p e R s below Q T (mkF m pc Ls (.int z :: .int x :: S)) := by
  obtain ⟨hx, hZ, hby, hml, hret, hown, hnm, hlk, eT, hn0, hw, locs, N, Y⟩ := X
  obtain ⟨hd, rfl, ho, hp⟩ := hd
  by_cases hc : z < x
  · exact Wp.go (fun _ q => XS.icmpNo Y.here hx rfl (hb hby hd) rfl (Jvm.Free.XT.ii_le_f hc) q) (qf hc)
  · exact Wp.go (fun _ q => XS.icmpYes Y.here hx rfl (pc0 := pc) (pc' := tgt) rfl (hb hby hd) rfl (Jvm.Free.XT.ii_le_t hc) ho hp q) (qt hc)
theorem w_ifle (X : Pos Z a0 n0 p l e R s m args below meth c code ml ret y T h k j) {x : Int32} {o : Int} (hd : Jmp code pc (.ifCond .le o) o nx tgt) (qt : ¬ 0 < x → Wp n0 p e R s below Q T (mkF m tgt Ls S)) (qf : 0 < x → Wp n0 p e R s below Q T (mkF m nx Ls S)) : Wp n0 p e R s below Q T (mkF m pc Ls (.int x :: S)) := by
  obtain ⟨hx, hZ, hby, hml, hret, hown, hnm, hlk, eT, hn0, hw, locs, N, Y⟩ := X
  obtain ⟨hd, rfl, ho, hp⟩ := hd
  by_cases hc : 0 < x
  · exact Wp.go (fun _ q => XS.ifNo Y.here hx rfl (hb hby hd) rfl (Jvm.Free.XT.i0_le_f hc) q) (qf hc)
  · exact Wp.go (fun _ q => XS.ifYes Y.here hx rfl (pc0 := pc) (pc' := tgt) rfl (hb hby hd) rfl (Jvm.Free.XT.i0_le_t hc) ho hp q) (qt hc)
theorem w_lcmple (X : Pos Z a0 n0 p l e R s m args below meth c code ml ret y T h k j) {x z : Int64} {o : Int} {mid : Nat} (hd0 : Dec code pc .lcmp 1 mid) (hd : Jmp code mid (.ifCond .le o) o nx tgt) (qt : ¬ z < x → Wp n0 p e R s below Q T (mkF m tgt Ls S)) (qf : z < x → Wp n0 p e R s below Q T (mkF m nx Ls S)) : Wp n0 p e R s below Q T (mkF m pc Ls (.long z :: .long x :: S)) := by
  obtain ⟨hx, hZ, hby, hml, hret, hown, hnm, hlk, eT, hn0, hw, locs, N, Y⟩ := X
  obtain ⟨hd0, rfl⟩ := hd0
  obtain ⟨hd, rfl, ho, hp⟩ := hd
  refine Wp.go (fun _ q => Jvm.Free.XT.lcmp Y.here hx rfl (hb hby hd0) rfl q) ?_
  by_cases hc : z < x
  · exact Wp.go (fun _ q => XS.ifNo Y.here hx rfl (hb hby hd) rfl (Jvm.Free.XT.ll_le_f hc) q) (qf hc)
  · exact Wp.go (fun _ q => XS.ifYes Y.here hx rfl (pc0 := pc + 1) (pc' := tgt) rfl (hb hby hd) rfl (Jvm.Free.XT.ll_le_t hc) ho hp q) (qt hc)
theorem w_ldc (X : Pos Z a0 n0 p l e R s m args below meth c code ml ret y T h k j) {i : Nat} {v : Int32} (hd : Dec code pc (.ldc i) 2 nx) (wc : (Jvm.Cond.constant y.cls i v).before a0 Z = true) (q : Wp n0 p e R s below Q T (mkF m nx Ls (.int v :: S))) : Wp n0 p e R s below Q T (mkF m pc Ls S) := by
  obtain ⟨hx, hZ, hby, hml, hret, hown, hnm, hlk, eT, hn0, hw, locs, N, Y⟩ := X
  obtain ⟨hd, rfl⟩ := hd
  exact Wp.go (Y.ldcInt hx hown (mvT hZ wc) rfl (hb hby hd)) q
theorem w_ldc2 (X : Pos Z a0 n0 p l e R s m args below meth c code ml ret y T h k j) {i : Nat} {v : Int64} (hd : Dec code pc (.ldc2_w i) 3 nx) (wc : (Jvm.Cond.constantLong y.cls i v).before a0 Z = true) (q : Wp n0 p e R s below Q T (mkF m nx Ls (.long v :: S))) : Wp n0 p e R s below Q T (mkF m pc Ls S) := by
  obtain ⟨hx, hZ, hby, hml, hret, hown, hnm, hlk, eT, hn0, hw, locs, N, Y⟩ := X
  obtain ⟨hd, rfl⟩ := hd
  exact Wp.go (Y.ldc2Long hx hown (mvT hZ wc) rfl (hb hby hd)) q
theorem w_ldcw (X : Pos Z a0 n0 p l e R s m args below meth c code ml ret y T h k j) {i : Nat} {v : Int32} (hd : Dec code pc (.ldc_w i) 3 nx) (wc : (Jvm.Cond.constant y.cls i v).before a0 Z = true) (q : Wp n0 p e R s below Q T (mkF m nx Ls (.int v :: S))) : Wp n0 p e R s below Q T (mkF m pc Ls S) := by
  obtain ⟨hx, hZ, hby, hml, hret, hown, hnm, hlk, eT, hn0, hw, locs, N, Y⟩ := X
  obtain ⟨hd, rfl⟩ := hd
  exact Wp.go (Y.ldcwInt hx hown (mvT hZ wc) rfl (hb hby hd)) q
theorem w_wiinc (X : Pos Z a0 n0 p l e R s m args below meth c code ml ret y T h k j) {w : Nat} {i : Int} {d v r : Int32} {l' : Array Slot} (hd : Dec code pc (.iinc w i) 6 nx) (hl : Ls[w]? = some (.val (.int v))) (hi : Int32.ofInt i = d) (hr : v + d = r) (hl' : storeLocals Ls w (.int r) = some l') (q : Wp n0 p e R s below Q T (mkF m nx l' S)) : Wp n0 p e R s below Q T (mkF m pc Ls S) := by
  obtain ⟨hx, hZ, hby, hml, hret, hown, hnm, hlk, eT, hn0, hw, locs, N, Y⟩ := X
  obtain ⟨hd, rfl⟩ := hd
  subst hi hr
  refine Wp.go (fun _ q => ?_) q
  have hd' := hb hby hd
  have h := Y.here
  jvm_step h [h.top, hx, hd', hl, hl']
  exact q
theorem w_ireturn (X : Pos Z a0 n0 p l e R s m args below meth c code ml (some .int) y T h k j) {z : Int32} (hd : Dec code pc .ireturn 1 nx) (hk : k ≤ R.cells) (hj : j ≤ R.slots) (hq : Q (some (.int z)) h) : Wp n0 p e R s below Q T (mkF m pc Ls (.int z :: S)) := by
  obtain ⟨hx, hZ, hby, hml, hret, hown, hnm, hlk, eT, hn0, hw, locs, N, Y⟩ := X
  obtain ⟨hd, -⟩ := hd
  obtain ⟨fs, hr, hrun, hended, hW, hsame⟩ := Y.leave (v := (some (.int z))) (fun h => by rw [hret] at h; cases h) hlk
  exact ⟨_, _, retI Y hx hret (hb hby hd) hr, hrun, hended, _, _, rfl, ⟨N, by show n0 ≤ T.heap.size; rw [eT]; exact hn0, by show Q _ T.heap; rw [eT]; exact hq⟩, ⟨_, rfl⟩, hW, hsame.mono hk hj⟩
theorem w_breturn (X : Pos Z a0 n0 p l e R s m args below meth c code ml (some .byte) y T h k j) {z : Int32} (hd : Dec code pc .ireturn 1 nx) (hk : k ≤ R.cells) (hj : j ≤ R.slots) (hq : Q (some (.int (nar .byte z))) h) : Wp n0 p e R s below Q T (mkF m pc Ls (.int z :: S)) := by
  obtain ⟨hx, hZ, hby, hml, hret, hown, hnm, hlk, eT, hn0, hw, locs, N, Y⟩ := X
  obtain ⟨hd, -⟩ := hd
  obtain ⟨fs, hr, hrun, hended, hW, hsame⟩ := Y.leave (v := (some (.int (nar .byte z)))) (fun h => by rw [hret] at h; cases h) hlk
  exact ⟨_, _, retN Y hx (t := .byte) hret (by simp) (hb hby hd) hr, hrun, hended, _, _, rfl, ⟨N, by show n0 ≤ T.heap.size; rw [eT]; exact hn0, by show Q _ T.heap; rw [eT]; exact hq⟩, ⟨_, rfl⟩, hW, hsame.mono hk hj⟩
theorem w_zreturn (X : Pos Z a0 n0 p l e R s m args below meth c code ml (some .boolean) y T h k j) {z : Int32} (hd : Dec code pc .ireturn 1 nx) (hk : k ≤ R.cells) (hj : j ≤ R.slots) (hq : Q (some (.int (nar .boolean z))) h) : Wp n0 p e R s below Q T (mkF m pc Ls (.int z :: S)) := by
  obtain ⟨hx, hZ, hby, hml, hret, hown, hnm, hlk, eT, hn0, hw, locs, N, Y⟩ := X
  obtain ⟨hd, -⟩ := hd
  obtain ⟨fs, hr, hrun, hended, hW, hsame⟩ := Y.leave (v := (some (.int (nar .boolean z)))) (fun h => by rw [hret] at h; cases h) hlk
  exact ⟨_, _, retN Y hx (t := .boolean) hret (by simp) (hb hby hd) hr, hrun, hended, _, _, rfl, ⟨N, by show n0 ≤ T.heap.size; rw [eT]; exact hn0, by show Q _ T.heap; rw [eT]; exact hq⟩, ⟨_, rfl⟩, hW, hsame.mono hk hj⟩
theorem w_lreturn (X : Pos Z a0 n0 p l e R s m args below meth c code ml (some .long) y T h k j) {z : Int64} (hd : Dec code pc .lreturn 1 nx) (hk : k ≤ R.cells) (hj : j ≤ R.slots) (hq : Q (some (.long z)) h) : Wp n0 p e R s below Q T (mkF m pc Ls [.long z]) := by
  obtain ⟨hx, hZ, hby, hml, hret, hown, hnm, hlk, eT, hn0, hw, locs, N, Y⟩ := X
  obtain ⟨hd, -⟩ := hd
  obtain ⟨fs, hr, hrun, hended, hW, hsame⟩ := Y.leave (v := (some (.long z))) (fun h => by rw [hret] at h; cases h) hlk
  exact ⟨_, _, Y.lreturnOut hx hret (hb hby hd) hr, hrun, hended, _, _, rfl, ⟨N, by show n0 ≤ T.heap.size; rw [eT]; exact hn0, by show Q _ T.heap; rw [eT]; exact hq⟩, ⟨_, rfl⟩, hW, hsame.mono hk hj⟩
theorem w_return (X : Pos Z a0 n0 p l e R s m args below meth c code ml none y T h k j)  (hd : Dec code pc .return_ 1 nx) (hk : k ≤ R.cells) (hj : j ≤ R.slots) (hq : Q none h) : Wp n0 p e R s below Q T (mkF m pc Ls []) := by
  obtain ⟨hx, hZ, hby, hml, hret, hown, hnm, hlk, eT, hn0, hw, locs, N, Y⟩ := X
  obtain ⟨hd, -⟩ := hd
  obtain ⟨fs, hr, hrun, hended, hW, hsame⟩ := Y.leave (v := none) (fun _ => rfl) hlk
  exact ⟨_, _, Y.returnOut hx hret (hb hby hd) hr, hrun, hended, _, _, rfl, ⟨N, by show n0 ≤ T.heap.size; rw [eT]; exact hn0, by show Q _ T.heap; rw [eT]; exact hq⟩, ⟨_, rfl⟩, hW, hsame.mono hk hj⟩
theorem w_arraylength (X : Pos Z a0 n0 p l e R s m args below meth c code ml ret y T h k j) {a : Addr} {ty : FieldType} {n : Nat} {g : Nat → Value} (hd : Dec code pc .arraylength 1 nx) (B : Ba Z n0 h a ty n g) (q : Wp n0 p e R s below Q T (mkF m nx Ls (.int (Int32.ofNat n) :: S))) : Wp n0 p e R s below Q T (mkF m pc Ls (.ref a :: S)) := by
  obtain ⟨hx, hZ, hby, hml, hret, hown, hnm, hlk, eT, hn0, hw, locs, N, Y⟩ := X
  obtain ⟨hd, rfl⟩ := hd
  obtain ⟨-, hn, cl, A, hs, -⟩ := B
  subst hs
  exact Wp.go (fun _ q => Y.arraylength hx (g := mkF m pc Ls (.ref a :: S)) (cell := cl) (by rw [eT]; exact A.1) (State.isArrayOf_alike hZ.alike A.2.1) rfl rfl (hb hby hd) _ q) q
theorem w_baload (X : Pos Z a0 n0 p l e R s m args below meth c code ml ret y T h k j) {a : Addr} {n : Nat} {b : Nat → Int32} {x : Int32} (hd : Dec code pc .baload 1 nx) (B : Ba Z n0 h a .byte n (bI b)) (i : Nat) (hi : x = Int32.ofNat i) (hlt : i < n) (q : Wp n0 p e R s below Q T (mkF m nx Ls (.int (b i) :: S))) : Wp n0 p e R s below Q T (mkF m pc Ls (.int x :: .ref a :: S)) := by
  obtain ⟨hx, hZ, hby, hml, hret, hown, hnm, hlk, eT, hn0, hw, locs, N, Y⟩ := X
  obtain ⟨hd, rfl⟩ := hd
  obtain ⟨-, hn, cl, A, hs, hv⟩ := B
  subst hi
  exact Wp.go (fun _ q => Y.baloadBytes hx (g := mkF m pc Ls (.int (Int32.ofNat i) :: .ref a :: S)) (j := Int32.ofNat i) (v := .int (b i)) (by rw [eT]; exact A.1) (State.isArrayOf_alike hZ.alike A.2.1) A.2.2 (inb hn hs hlt) (by rw [ofNat_clamp (by omega)]; exact hv i hlt) rfl rfl (hb hby hd) _ q) q
theorem w_iaload (X : Pos Z a0 n0 p l e R s m args below meth c code ml ret y T h k j) {a : Addr} {n : Nat} {b : Nat → Int32} {x : Int32} (hd : Dec code pc .iaload 1 nx) (B : Ba Z n0 h a .int n (bI b)) (i : Nat) (hi : x = Int32.ofNat i) (hlt : i < n) (q : Wp n0 p e R s below Q T (mkF m nx Ls (.int (b i) :: S))) : Wp n0 p e R s below Q T (mkF m pc Ls (.int x :: .ref a :: S)) := by
  obtain ⟨hx, hZ, hby, hml, hret, hown, hnm, hlk, eT, hn0, hw, locs, N, Y⟩ := X
  obtain ⟨hd, rfl⟩ := hd
  obtain ⟨-, hn, cl, A, hs, hv⟩ := B
  subst hi
  exact Wp.go (fun _ q => Y.iaload hx (g := mkF m pc Ls (.int (Int32.ofNat i) :: .ref a :: S)) (j := Int32.ofNat i) (v := .int (b i)) (by rw [eT]; exact A.1) (State.isArrayOf_alike hZ.alike A.2.1) A.2.2 (inb hn hs hlt) (by rw [ofNat_clamp (by omega)]; exact hv i hlt) rfl rfl (hb hby hd) _ q) q
theorem w_laload (X : Pos Z a0 n0 p l e R s m args below meth c code ml ret y T h k j) {a : Addr} {n : Nat} {b : Nat → Int64} {x : Int32} (hd : Dec code pc .laload 1 nx) (B : Ba Z n0 h a .long n (bJ b)) (i : Nat) (hi : x = Int32.ofNat i) (hlt : i < n) (q : Wp n0 p e R s below Q T (mkF m nx Ls (.long (b i) :: S))) : Wp n0 p e R s below Q T (mkF m pc Ls (.int x :: .ref a :: S)) := by
  obtain ⟨hx, hZ, hby, hml, hret, hown, hnm, hlk, eT, hn0, hw, locs, N, Y⟩ := X
  obtain ⟨hd, rfl⟩ := hd
  obtain ⟨-, hn, cl, A, hs, hv⟩ := B
  subst hi
  exact Wp.go (fun _ q => Y.laload hx (g := mkF m pc Ls (.int (Int32.ofNat i) :: .ref a :: S)) (j := Int32.ofNat i) (v := .long (b i)) (by rw [eT]; exact A.1) (State.isArrayOf_alike hZ.alike A.2.1) A.2.2 (inb hn hs hlt) (by rw [ofNat_clamp (by omega)]; exact hv i hlt) rfl rfl (hb hby hd) _ q) q
theorem w_bastore (X : Pos Z a0 n0 p l e R s m args below meth c code ml ret y T h k j) {a : Addr} {n : Nat} {b : Nat → Int32} {x : Int32} {v : Int32} (hd : Dec code pc .bastore 1 nx) (B : Ba Z n0 h a .byte n (bI b)) (i : Nat) (hi : x = Int32.ofNat i) (hlt : i < n)
    (q : ∀ T' h', Pos Z a0 n0 p l e R s m args below meth c code ml ret y T' h' k j → Keep h h' [a] → Ba Z n0 h' a .byte n (bI (upd b i (jbyte v))) → Wp n0 p e R s below Q T' (mkF m nx Ls S)) : Wp n0 p e R s below Q T (mkF m pc Ls (.int v :: .int x :: .ref a :: S)) := by
  obtain ⟨hx, hZ, hby, hml, hret, hown, hnm, hlk, eT, hn0, hw, locs, N, Y⟩ := X
  obtain ⟨hd, rfl⟩ := hd
  obtain ⟨hna, hn, cl, A, hs, hv⟩ := B
  subst hi
  obtain ⟨T', h', Y', e', W', st⟩ := stB Y hx hZ eT A (j := Int32.ofNat i) (inb hn hs hlt) (g := mkF m pc Ls (.int v :: .int (Int32.ofNat i) :: .ref a :: S)) rfl rfl (hb hby hd)
  refine Wp.go st (q T' h' ⟨hx, hZ, hby, hml, hret, hown, hnm, hlk, e', by rw [W'.size]; exact hn0, hw, _, Fr.snoc Y' N hna, Y'⟩ (Keep.of_wr W') ⟨hna, hn, _, A.same W', (sz_set _ _ _).trans hs, fun q hq => ?_⟩)
  rw [ofNat_clamp (by omega)]
  by_cases hqi : q = i
  · subst hqi
    simp [Cell.setSlot, hs, hq, upd, bI, nar]
  · simp [Cell.setSlot, upd, hqi, bI, Array.getElem?_setIfInBounds_ne (Ne.symm hqi), hv q hq]
theorem w_iastore (X : Pos Z a0 n0 p l e R s m args below meth c code ml ret y T h k j) {a : Addr} {n : Nat} {b : Nat → Int32} {x : Int32} {v : Int32} (hd : Dec code pc .iastore 1 nx) (B : Ba Z n0 h a .int n (bI b)) (i : Nat) (hi : x = Int32.ofNat i) (hlt : i < n)
    (q : ∀ T' h', Pos Z a0 n0 p l e R s m args below meth c code ml ret y T' h' k j → Keep h h' [a] → Ba Z n0 h' a .int n (bI (upd b i (v))) → Wp n0 p e R s below Q T' (mkF m nx Ls S)) : Wp n0 p e R s below Q T (mkF m pc Ls (.int v :: .int x :: .ref a :: S)) := by
  obtain ⟨hx, hZ, hby, hml, hret, hown, hnm, hlk, eT, hn0, hw, locs, N, Y⟩ := X
  obtain ⟨hd, rfl⟩ := hd
  obtain ⟨hna, hn, cl, A, hs, hv⟩ := B
  subst hi
  obtain ⟨T', h', Y', e', W', st⟩ := stI Y hx hZ eT A (j := Int32.ofNat i) (inb hn hs hlt) (g := mkF m pc Ls (.int v :: .int (Int32.ofNat i) :: .ref a :: S)) rfl rfl (hb hby hd)
  refine Wp.go st (q T' h' ⟨hx, hZ, hby, hml, hret, hown, hnm, hlk, e', by rw [W'.size]; exact hn0, hw, _, Fr.snoc Y' N hna, Y'⟩ (Keep.of_wr W') ⟨hna, hn, _, A.same W', (sz_set _ _ _).trans hs, fun q hq => ?_⟩)
  rw [ofNat_clamp (by omega)]
  by_cases hqi : q = i
  · subst hqi
    simp [Cell.setSlot, hs, hq, upd, bI]
  · simp [Cell.setSlot, upd, hqi, bI, Array.getElem?_setIfInBounds_ne (Ne.symm hqi), hv q hq]
theorem w_lastore (X : Pos Z a0 n0 p l e R s m args below meth c code ml ret y T h k j) {a : Addr} {n : Nat} {b : Nat → Int64} {x : Int32} {v : Int64} (hd : Dec code pc .lastore 1 nx) (B : Ba Z n0 h a .long n (bJ b)) (i : Nat) (hi : x = Int32.ofNat i) (hlt : i < n)
    (q : ∀ T' h', Pos Z a0 n0 p l e R s m args below meth c code ml ret y T' h' k j → Keep h h' [a] → Ba Z n0 h' a .long n (bJ (upd b i (v))) → Wp n0 p e R s below Q T' (mkF m nx Ls S)) : Wp n0 p e R s below Q T (mkF m pc Ls (.long v :: .int x :: .ref a :: S)) := by
  obtain ⟨hx, hZ, hby, hml, hret, hown, hnm, hlk, eT, hn0, hw, locs, N, Y⟩ := X
  obtain ⟨hd, rfl⟩ := hd
  obtain ⟨hna, hn, cl, A, hs, hv⟩ := B
  subst hi
  obtain ⟨T', h', Y', e', W', st⟩ := stJ Y hx hZ eT A (j := Int32.ofNat i) (inb hn hs hlt) (g := mkF m pc Ls (.long v :: .int (Int32.ofNat i) :: .ref a :: S)) rfl rfl (hb hby hd)
  refine Wp.go st (q T' h' ⟨hx, hZ, hby, hml, hret, hown, hnm, hlk, e', by rw [W'.size]; exact hn0, hw, _, Fr.snoc Y' N hna, Y'⟩ (Keep.of_wr W') ⟨hna, hn, _, A.same W', (sz_set _ _ _).trans hs, fun q hq => ?_⟩)
  rw [ofNat_clamp (by omega)]
  by_cases hqi : q = i
  · subst hqi
    simp [Cell.setSlot, hs, hq, upd, bJ]
  · simp [Cell.setSlot, upd, hqi, bJ, Array.getElem?_setIfInBounds_ne (Ne.symm hqi), hv q hq]
theorem w_newB (X : Pos Z a0 n0 p l e R s m args below meth c code ml ret y T h k j) {x : Int32} (hd : Dec code pc (.newarray .byte) 2 nx) (wa : (Jvm.Cond.arrayClass .byte).before a0 Z = true) (n cap : Nat) (hx' : x = Int32.ofNat n) (hcap : n ≤ cap) (hb' : cap * 8 ≤ 536870912) (hk : k + 1 ≤ R.cells) (hj : j + cap ≤ R.slots)
    (q : ∀ T' h' a, Pos Z a0 n0 p l e R s m args below meth c code ml ret y T' h' (k + 1) (j + cap) → a = h.size → Ext h h' → Ba Z n0 h' a .byte n (bI fun _ => 0) → Wp n0 p e R s below Q T' (mkF m nx Ls (.ref a :: S))) : Wp n0 p e R s below Q T (mkF m pc Ls (.int x :: S)) := by
  obtain ⟨hx, hZ, hby, hml, hret, hown, hnm, hlk, eT, hn0, hw, locs, N, Y⟩ := X
  obtain ⟨hd, rfl⟩ := hd
  subst hx'
  obtain ⟨T', h', cA, Y', e', E', A', st⟩ := newP Y hx hZ (aty := .byte) wa eT (g := mkF m pc Ls (.int (Int32.ofNat n) :: S)) rfl (hb hby hd) rfl (ofNat_nn (by omega)) (cap := cap) (by rw [ofNat_clamp (by omega)]; exact hcap) hb' hk hj
  refine Wp.go st (q T' h' _ ⟨hx, hZ, hby, hml, hret, hown, hnm, hlk, e', Nat.le_trans hn0 E'.1, hw, _, N, Y'⟩ rfl E' ⟨hn0, by omega, _, A', by rw [sz_new, ofNat_clamp (by omega)], fun i hi => ?_⟩)
  have := get_new (cA := cA) (ty := .byte) (n := Int32.ofNat n) (k := Int32.ofNat i) (by rw [ofNat_clamp (by omega), ofNat_clamp (by omega)]; exact fun q => q.elim (ofNat_nn (by omega)) (fun q => by omega))
  rw [ofNat_clamp (by omega)] at this
  exact this
theorem w_newI (X : Pos Z a0 n0 p l e R s m args below meth c code ml ret y T h k j) {x : Int32} (hd : Dec code pc (.newarray .int) 2 nx) (wa : (Jvm.Cond.arrayClass .int).before a0 Z = true) (n cap : Nat) (hx' : x = Int32.ofNat n) (hcap : n ≤ cap) (hb' : cap * 8 ≤ 536870912) (hk : k + 1 ≤ R.cells) (hj : j + cap ≤ R.slots)
    (q : ∀ T' h' a, Pos Z a0 n0 p l e R s m args below meth c code ml ret y T' h' (k + 1) (j + cap) → a = h.size → Ext h h' → Ba Z n0 h' a .int n (bI fun _ => 0) → Wp n0 p e R s below Q T' (mkF m nx Ls (.ref a :: S))) : Wp n0 p e R s below Q T (mkF m pc Ls (.int x :: S)) := by
  obtain ⟨hx, hZ, hby, hml, hret, hown, hnm, hlk, eT, hn0, hw, locs, N, Y⟩ := X
  obtain ⟨hd, rfl⟩ := hd
  subst hx'
  obtain ⟨T', h', cA, Y', e', E', A', st⟩ := newP Y hx hZ (aty := .int) wa eT (g := mkF m pc Ls (.int (Int32.ofNat n) :: S)) rfl (hb hby hd) rfl (ofNat_nn (by omega)) (cap := cap) (by rw [ofNat_clamp (by omega)]; exact hcap) hb' hk hj
  refine Wp.go st (q T' h' _ ⟨hx, hZ, hby, hml, hret, hown, hnm, hlk, e', Nat.le_trans hn0 E'.1, hw, _, N, Y'⟩ rfl E' ⟨hn0, by omega, _, A', by rw [sz_new, ofNat_clamp (by omega)], fun i hi => ?_⟩)
  have := get_new (cA := cA) (ty := .int) (n := Int32.ofNat n) (k := Int32.ofNat i) (by rw [ofNat_clamp (by omega), ofNat_clamp (by omega)]; exact fun q => q.elim (ofNat_nn (by omega)) (fun q => by omega))
  rw [ofNat_clamp (by omega)] at this
  exact this
theorem w_newJ (X : Pos Z a0 n0 p l e R s m args below meth c code ml ret y T h k j) {x : Int32} (hd : Dec code pc (.newarray .long) 2 nx) (wa : (Jvm.Cond.arrayClass .long).before a0 Z = true) (n cap : Nat) (hx' : x = Int32.ofNat n) (hcap : n ≤ cap) (hb' : cap * 8 ≤ 536870912) (hk : k + 1 ≤ R.cells) (hj : j + cap ≤ R.slots)
    (q : ∀ T' h' a, Pos Z a0 n0 p l e R s m args below meth c code ml ret y T' h' (k + 1) (j + cap) → a = h.size → Ext h h' → Ba Z n0 h' a .long n (bJ fun _ => 0) → Wp n0 p e R s below Q T' (mkF m nx Ls (.ref a :: S))) : Wp n0 p e R s below Q T (mkF m pc Ls (.int x :: S)) := by
  obtain ⟨hx, hZ, hby, hml, hret, hown, hnm, hlk, eT, hn0, hw, locs, N, Y⟩ := X
  obtain ⟨hd, rfl⟩ := hd
  subst hx'
  obtain ⟨T', h', cA, Y', e', E', A', st⟩ := newP Y hx hZ (aty := .long) wa eT (g := mkF m pc Ls (.int (Int32.ofNat n) :: S)) rfl (hb hby hd) rfl (ofNat_nn (by omega)) (cap := cap) (by rw [ofNat_clamp (by omega)]; exact hcap) hb' hk hj
  refine Wp.go st (q T' h' _ ⟨hx, hZ, hby, hml, hret, hown, hnm, hlk, e', Nat.le_trans hn0 E'.1, hw, _, N, Y'⟩ rfl E' ⟨hn0, by omega, _, A', by rw [sz_new, ofNat_clamp (by omega)], fun i hi => ?_⟩)
  have := get_new (cA := cA) (ty := .long) (n := Int32.ofNat n) (k := Int32.ofNat i) (by rw [ofNat_clamp (by omega), ofNat_clamp (by omega)]; exact fun q => q.elim (ofNat_nn (by omega)) (fun q => by omega))
  rw [ofNat_clamp (by omega)] at this
  exact this
theorem w_static (X : Pos Z a0 n0 p l e R s m args below meth c code ml ret y T h k j) {z : MethodName} {cz : ByteArray} {mz : Nat} {rz : Option FieldType} {rm : Room} {Qz : Option Value → Heap → Prop} {ps : List FieldType} {rr : Option FieldType} {i : Nat} {argsL : List Value} (hd : Dec code pc (.invokestatic i) 3 nx) (C : Ctr l Z n0 z cz mz rz rm [] argsL.toArray h Qz) (wl : (Jvm.Cond.methodLink y.cls i z).before a0 Z = true) (ws : (Jvm.Cond.static z).before a0 Z = true) (wi : (Jvm.Cond.initialized z.cls).before a0 Z = true) (wc : (Jvm.Cond.code z cz mz rz).before a0 Z = true)
    (hz : z.cls ≠ "java/lang/invoke/MethodHandle" ∧ z.cls ≠ "java/lang/invoke/VarHandle") (hpd : parseMethodDescriptor z.desc = some ⟨ps, rr⟩) (hlen : argsL.length = ps.length) {S0 : List Value} (hS : S0 = argsL.reverse ++ S) (hsz : Ls.size = ml)
    (hf : rm.frames + 1 ≤ R.frames) (hlo : (S.map fun v => v.category).sum + (mz + 11) + rm.locals ≤ R.locals) (hk : k + rm.cells ≤ R.cells) (hj : j + rm.slots ≤ R.slots)
    (q : ∀ v T' h', Pos Z a0 n0 p l e R s m args below meth c code ml ret y T' h' (k + rm.cells) (j + rm.slots) → Qz v h' → Wp n0 p e R s below Q T' (mkF m nx Ls (v.toList ++ S))) : Wp n0 p e R s below Q T (mkF m pc Ls S0) := by
  obtain ⟨hx, hZ, hby, hml, hret, hown, hnm, hlk, eT, hn0, hw, locs, N, Y⟩ := X
  obtain ⟨hd, rfl⟩ := hd
  obtain ⟨v, _, ⟨T', L', k', j'⟩, -, Y', ⟨Lc, hQ, l1, l2, l3⟩, st⟩ := Jvm.LawKit.callS Y hx (y := z) hown (mvT hZ wl) (mvT hZ ws) (mvT hZ wi) (mvT hZ wc) hz (backOf (W := (S.map fun v => v.category).sum) (Q := fun v h L => Fr n0 L ∧ n0 ≤ h.size ∧ Qz v h) C hZ wc wi hf hlo) (g := mkF m pc Ls S0) rfl (by rw [hml]; exact hsz) (argsL := argsL) (rest := S) (lenOf hpd hlen) hS (by show 2 * 0 + _ ≤ _; omega) (hb hby hd) (fun _ _ => ⟨rfl, eT, hk, hj⟩)
  dsimp only [Pt.U, Pt.locs, Pt.cells, Pt.slots] at Y' l1 l2 l3 st hQ
  subst l1 l2 l3
  obtain ⟨N', hn', hQ⟩ := hQ
  exact Wp.go st (q v T' _ ⟨hx, hZ, hby, hml, hret, hown, hnm, hlk, rfl, hn', hw, _, Fr.app N N', Y'⟩ hQ)
theorem w_virtual (X : Pos Z a0 n0 p l e R s m args below meth c code ml ret y T h k j) {z : MethodName} {cz : ByteArray} {mz : Nat} {rz : Option FieldType} {rm : Room} {Qz : Option Value → Heap → Prop} {ps : List FieldType} {rr : Option FieldType} {i : Nat} {argsL : List Value} {a : Addr} (hd : Dec code pc (.invokevirtual i) 3 nx) (C : Ctr l Z n0 z cz mz rz rm [] (.ref a :: argsL).toArray h Qz) (E : Exa Z h a z.cls) (wl : (Jvm.Cond.methodLink y.cls i z).before a0 Z = true) (wdc : (Jvm.Cond.declares z).before a0 Z = true) (wse : (Jvm.Cond.selects z.cls z z).before a0 Z = true) (wim : (Jvm.Cond.instanceMethod z).before a0 Z = true) (wi : (Jvm.Cond.initialized z.cls).before a0 Z = true) (wc : (Jvm.Cond.code z cz mz rz).before a0 Z = true)
    (hz : z.cls ≠ "java/lang/invoke/MethodHandle" ∧ z.cls ≠ "java/lang/invoke/VarHandle") (hpd : parseMethodDescriptor z.desc = some ⟨ps, rr⟩) (hlen : argsL.length = ps.length) {S0 : List Value} (hS : S0 = argsL.reverse ++ .ref a :: S) (hsz : Ls.size = ml)
    (hf : rm.frames + 1 ≤ R.frames) (hlo : (S.map fun v => v.category).sum + (mz + 11) + rm.locals ≤ R.locals) (hk : k + rm.cells ≤ R.cells) (hj : j + rm.slots ≤ R.slots)
    (q : ∀ v T' h', Pos Z a0 n0 p l e R s m args below meth c code ml ret y T' h' (k + rm.cells) (j + rm.slots) → Qz v h' → Wp n0 p e R s below Q T' (mkF m nx Ls (v.toList ++ S))) : Wp n0 p e R s below Q T (mkF m pc Ls S0) := by
  obtain ⟨hx, hZ, hby, hml, hret, hown, hnm, hlk, eT, hn0, hw, locs, N, Y⟩ := X
  obtain ⟨hd, rfl⟩ := hd
  obtain ⟨cq, kq, qa, qb, qc⟩ := isOf hZ eT E
  have Ctr' := backOf (l := l) (R := R) (p := p) (e := e) (below := below) (s := s) (args := args) (len := 3) (W := (S.map fun v => v.category).sum) (Q := fun v h L => Fr n0 L ∧ n0 ≤ h.size ∧ Qz v h) C hZ wc wi hf hlo
  obtain ⟨v, _, ⟨T', L', k', j'⟩, -, Y', ⟨Lc, hQ, l1, l2, l3⟩, st⟩ := Y.virtualBack hx (y := z) (z := z) hown (mvT hZ wl) (mvT hZ wdc) (notFace_of_selects (args := #[]) (mvT hZ wse)) (mvT hZ wse) (mvT hZ wim) hz Ctr' qa qc (g := mkF m pc Ls S0) rfl (by rw [hml]; exact hsz) (Steps.refl _) (argsL := argsL) (rest := S) (lenOf hpd hlen) hS (by show 2 * 0 + _ ≤ _; omega) (hb hby hd) (fun _ _ => ⟨rfl, eT, hk, hj⟩)
  dsimp only [Pt.U, Pt.locs, Pt.cells, Pt.slots] at Y' l1 l2 l3 st hQ
  subst l1 l2 l3
  obtain ⟨N', hn', hQ⟩ := hQ
  exact Wp.go (fun _ t => st.trans t) (q v T' _ ⟨hx, hZ, hby, hml, hret, hown, hnm, hlk, rfl, hn', hw, _, Fr.app N N', Y'⟩ hQ)
theorem w_special (X : Pos Z a0 n0 p l e R s m args below meth c code ml ret y T h k j) {z : MethodName} {cz : ByteArray} {mz : Nat} {rm : Room} {Qz : Option Value → Heap → Prop} {ps : List FieldType} {rr : Option FieldType} {i : Nat} {argsL : List Value} {a : Addr} (hd : Dec code pc (.invokespecial i) 3 nx) (C : Ctr l Z n0 z cz mz none rm [] (.ref a :: argsL).toArray h Qz) (hz1 : z.name = "<init>") (wl : (Jvm.Cond.methodLink y.cls i z).before a0 Z = true) (wim : (Jvm.Cond.instanceMethod z).before a0 Z = true) (wi : (Jvm.Cond.initialized z.cls).before a0 Z = true) (wc : (Jvm.Cond.code z cz mz none).before a0 Z = true)
    (hz : z.cls ≠ "java/lang/invoke/MethodHandle" ∧ z.cls ≠ "java/lang/invoke/VarHandle") (hpd : parseMethodDescriptor z.desc = some ⟨ps, rr⟩) (hlen : argsL.length = ps.length) {S0 : List Value} (hS : S0 = argsL.reverse ++ .ref a :: S) (hsz : Ls.size = ml)
    (hf : rm.frames + 1 ≤ R.frames) (hlo : (S.map fun v => v.category).sum + (mz + 11) + rm.locals ≤ R.locals) (hk : k + rm.cells ≤ R.cells) (hj : j + rm.slots ≤ R.slots)
    (q : ∀ v T' h', Pos Z a0 n0 p l e R s m args below meth c code ml ret y T' h' (k + rm.cells) (j + rm.slots) → Qz v h' → Wp n0 p e R s below Q T' (mkF m nx Ls (v.toList ++ S))) : Wp n0 p e R s below Q T (mkF m pc Ls S0) := by
  obtain ⟨hx, hZ, hby, hml, hret, hown, hnm, hlk, eT, hn0, hw, locs, N, Y⟩ := X
  obtain ⟨hd, rfl⟩ := hd
  have Ctr' := backOf (l := l) (R := R) (p := p) (e := e) (below := below) (s := s) (args := args) (len := 3) (W := (S.map fun v => v.category).sum) (Q := fun v h L => Fr n0 L ∧ n0 ≤ h.size ∧ Qz v h) C hZ wc wi hf hlo
  obtain ⟨v, _, ⟨T', L', k', j'⟩, -, Y', ⟨Lc, hQ, l1, l2, l3⟩, st⟩ := Y.specialBack hx (y := z) hz1 hown (mvT hZ wl) (mvT hZ wim) (mvT hZ wc) hz Ctr' (g := mkF m pc Ls S0) rfl (by rw [hml]; exact hsz) (Steps.refl _) (a := a) (argsL := argsL) (rest := S) (lenOf hpd hlen) hS (by show 2 * 0 + _ ≤ _; omega) (hb hby hd) (fun _ _ => ⟨rfl, eT, hk, hj⟩)
  dsimp only [Pt.U, Pt.locs, Pt.cells, Pt.slots] at Y' l1 l2 l3 st hQ
  subst l1 l2 l3
  obtain ⟨N', hn', hQ⟩ := hQ
  exact Wp.go (fun _ t => st.trans t) (q v T' _ ⟨hx, hZ, hby, hml, hret, hown, hnm, hlk, rfl, hn', hw, _, Fr.app N N', Y'⟩ hQ)
theorem w_new (X : Pos Z a0 n0 p l e R s m args below meth c code ml ret y T h k j) {i n : Nat} {C : String} (hd : Dec code pc (.new i) 3 nx) (w : (Jvm.Cond.classLink y.cls i C).before a0 Z = true) (wi : (Jvm.Cond.instantiable C n).before a0 Z = true) (wz : (Jvm.Cond.initialized C).before a0 Z = true) (hk : k + 1 ≤ R.cells) (hj : j + n ≤ R.slots)
    (q : ∀ T' h' a, Pos Z a0 n0 p l e R s m args below meth c code ml ret y T' h' (k + 1) (j + n) → a = h.size → n0 ≤ a → Ext h h' → Exa Z h' a C → (∀ {O nm d : String} {ty : FieldType}, Laid Z a0 C O nm d → parseFieldDescriptor d = some ty → Fld Z h' a O nm d (defaultValue ty)) → Wp n0 p e R s below Q T' (mkF m nx Ls (.ref a :: S))) : Wp n0 p e R s below Q T (mkF m pc Ls S) := by
  obtain ⟨hx, hZ, hby, hml, hret, hown, hnm, hlk, eT, hn0, hw, locs, N, Y⟩ := X
  obtain ⟨hd, rfl⟩ := hd
  obtain ⟨T', h', Y', e', E', A', D', -, st⟩ := newO Y hx hZ hown w wi wz eT (g := mkF m pc Ls S) rfl (hb hby hd) hk hj
  exact Wp.go st (q T' h' _ ⟨hx, hZ, hby, hml, hret, hown, hnm, hlk, e', Nat.le_trans hn0 E'.1, hw, _, N, Y'⟩ rfl hn0 E' A' D')
theorem w_getF (X : Pos Z a0 n0 p l e R s m args below meth c code ml ret y T h k j) {i : Nat} {O nm d : String} {a : Addr} {v : Value} (hd : Dec code pc (.getfield i) 3 nx) (w : (Jvm.Cond.fieldLink y.cls i O nm d).before a0 Z = true) (F : Fld Z h a O nm d v)
    (q : ∀ T', Pos Z a0 n0 p l e R s m args below meth c code ml ret y T' h k j → Wp n0 p e R s below Q T' (mkF m nx Ls (v :: S))) : Wp n0 p e R s below Q T (mkF m pc Ls (.ref a :: S)) := by
  obtain ⟨hx, hZ, hby, hml, hret, hown, hnm, hlk, eT, hn0, hw, locs, N, Y⟩ := X
  obtain ⟨hd, rfl⟩ := hd
  obtain ⟨T', Y', e', st⟩ := getF Y hx hZ hown (host := "") (Or.inl w) Via.refl eT F (g := mkF m pc Ls (.ref a :: S)) rfl rfl (hb hby hd)
  exact Wp.go st (q T' ⟨hx, hZ, hby, hml, hret, hown, hnm, hlk, e', hn0, hw, _, N, Y'⟩)
theorem w_putF (X : Pos Z a0 n0 p l e R s m args below meth c code ml ret y T h k j) {i kk : Nat} {C O nm d : String} {ty : FieldType} {a : Addr} {v old : Value} (hd : Dec code pc (.putfield i) 3 nx) (w : (Jvm.Cond.fieldLink y.cls i O nm d).before a0 Z = true) (F : Fld Z h a O nm d old) (E : Exa Z h a C) (hna : n0 ≤ a) (L : (Jvm.Cond.lays C O nm d).before a0 Z = true ∨ ((Jvm.Cond.laysFinal C O nm d).before a0 Z = true ∧ y.cls = O ∧ y.name = "<init>")) (wi : (Jvm.Cond.instantiable C kk).before a0 Z = true) (hty : parseFieldDescriptor d = some ty) (hn : narrow ty v = v) (hf : fits ty v = true)
    (q : ∀ T' h', Pos Z a0 n0 p l e R s m args below meth c code ml ret y T' h' k j → Wr h h' a (Jvm.RoadKit.slotOf Z O nm d) v → Wp n0 p e R s below Q T' (mkF m nx Ls S)) : Wp n0 p e R s below Q T (mkF m pc Ls (v :: .ref a :: S)) := by
  obtain ⟨hx, hZ, hby, hml, hret, hown, hnm, hlk, eT, hn0, hw, locs, N, Y⟩ := X
  obtain ⟨hd, rfl⟩ := hd
  obtain ⟨T', h', Y', e', W', st⟩ := putF Y hx hZ hown (host := "") (Or.inl w) Via.refl eT F E (L.imp id fun q => ⟨q.1, q.2.1, hnm.trans q.2.2⟩) wi hty hn hf (g := mkF m pc Ls (v :: .ref a :: S)) rfl rfl (hb hby hd)
  exact Wp.go st (q T' h' ⟨hx, hZ, hby, hml, hret, hown, hnm, hlk, e', by rw [W'.size]; exact hn0, hw, _, Fr.snoc Y' N hna, Y'⟩ W')
end OwnKit
theorem D0_0 : Dec code 0 (.iload_n 0) 1 1 := ⟨at_0, rfl⟩
theorem D0_1 : Dec code 1 (.iconst 3) 1 2 := ⟨at_1, rfl⟩
theorem D0_2 : Dec code 2 .iand 1 3 := ⟨at_2, rfl⟩
theorem D0_3 : Dec code 3 (.istore 4) 2 5 := ⟨at_3, rfl⟩
theorem D0_5 : Dec code 5 (.iload_n 1) 1 6 := ⟨at_5, rfl⟩
theorem D0_6 : Dec code 6 (.ldc 7) 2 8 := ⟨at_6, rfl⟩
theorem D0_8 : Dec code 8 .iand 1 9 := ⟨at_8, rfl⟩
theorem D0_9 : Dec code 9 (.istore 5) 2 11 := ⟨at_9, rfl⟩
theorem D0_11 : Dec code 11 (.iload 4) 2 13 := ⟨at_11, rfl⟩
theorem D0_13 : Jmp code 13 (.ifCond .ne 15) 15 16 28 := ⟨at_13, rfl, by decide, by decide⟩
theorem D0_16 : Dec code 16 (.iload_n 1) 1 17 := ⟨at_16, rfl⟩
theorem D0_17 : Dec code 17 (.bipush 127) 2 19 := ⟨at_17, rfl⟩
theorem D0_19 : Dec code 19 .iand 1 20 := ⟨at_19, rfl⟩
theorem D0_20 : Dec code 20 (.istore 6) 2 22 := ⟨at_20, rfl⟩
theorem D0_22 : Dec code 22 (.iconst 1) 1 23 := ⟨at_22, rfl⟩
theorem D0_23 : Dec code 23 (.istore 7) 2 25 := ⟨at_23, rfl⟩
theorem D0_25 : Jmp code 25 (.goto 63) 63 28 88 := ⟨at_25, rfl, by decide, by decide⟩
theorem D0_28 : Dec code 28 (.iload 4) 2 30 := ⟨at_28, rfl⟩
theorem D0_30 : Dec code 30 (.iconst 1) 1 31 := ⟨at_30, rfl⟩
theorem D0_31 : Jmp code 31 (.if_icmp .ne 21) 21 34 52 := ⟨at_31, rfl, by decide, by decide⟩
theorem D0_34 : Dec code 34 (.sipush 128) 3 37 := ⟨at_34, rfl⟩
theorem D0_37 : Dec code 37 (.iload 5) 2 39 := ⟨at_37, rfl⟩
theorem D0_39 : Dec code 39 (.sipush 1920) 3 42 := ⟨at_39, rfl⟩
theorem D0_42 : Dec code 42 .irem 1 43 := ⟨at_42, rfl⟩
theorem D0_43 : Dec code 43 .iadd 1 44 := ⟨at_43, rfl⟩
theorem D0_44 : Dec code 44 (.istore 6) 2 46 := ⟨at_44, rfl⟩
theorem D0_46 : Dec code 46 (.iconst 2) 1 47 := ⟨at_46, rfl⟩
theorem D0_47 : Dec code 47 (.istore 7) 2 49 := ⟨at_47, rfl⟩
theorem D0_49 : Jmp code 49 (.goto 39) 39 52 88 := ⟨at_49, rfl, by decide, by decide⟩
theorem D0_52 : Dec code 52 (.iload 4) 2 54 := ⟨at_52, rfl⟩
theorem D0_54 : Dec code 54 (.iconst 2) 1 55 := ⟨at_54, rfl⟩
theorem D0_55 : Jmp code 55 (.if_icmp .ne 20) 20 58 75 := ⟨at_55, rfl, by decide, by decide⟩
theorem D0_58 : Dec code 58 (.sipush 2048) 3 61 := ⟨at_58, rfl⟩
theorem D0_61 : Dec code 61 (.iload 5) 2 63 := ⟨at_61, rfl⟩
theorem D0_63 : Dec code 63 (.ldc 8) 2 65 := ⟨at_63, rfl⟩
theorem D0_65 : Dec code 65 .irem 1 66 := ⟨at_65, rfl⟩
theorem D0_66 : Dec code 66 .iadd 1 67 := ⟨at_66, rfl⟩
theorem D0_67 : Dec code 67 (.istore 6) 2 69 := ⟨at_67, rfl⟩
theorem D0_69 : Dec code 69 (.iconst 3) 1 70 := ⟨at_69, rfl⟩
theorem D0_70 : Dec code 70 (.istore 7) 2 72 := ⟨at_70, rfl⟩
theorem D0_72 : Jmp code 72 (.goto 16) 16 75 88 := ⟨at_72, rfl, by decide, by decide⟩
theorem D0_75 : Dec code 75 (.ldc 9) 2 77 := ⟨at_75, rfl⟩
theorem D0_77 : Dec code 77 (.iload 5) 2 79 := ⟨at_77, rfl⟩
theorem D0_79 : Dec code 79 (.ldc 10) 2 81 := ⟨at_79, rfl⟩
theorem D0_81 : Dec code 81 .irem 1 82 := ⟨at_81, rfl⟩
theorem D0_82 : Dec code 82 .iadd 1 83 := ⟨at_82, rfl⟩
theorem D0_83 : Dec code 83 (.istore 6) 2 85 := ⟨at_83, rfl⟩
theorem D0_85 : Dec code 85 (.iconst 4) 1 86 := ⟨at_85, rfl⟩
theorem D0_86 : Dec code 86 (.istore 7) 2 88 := ⟨at_86, rfl⟩
theorem D0_88 : Dec code 88 (.iload_n 2) 1 89 := ⟨at_88, rfl⟩
theorem D0_89 : Dec code 89 (.iconst 3) 1 90 := ⟨at_89, rfl⟩
theorem D0_90 : Dec code 90 .iand 1 91 := ⟨at_90, rfl⟩
theorem D0_91 : Dec code 91 (.istore 8) 2 93 := ⟨at_91, rfl⟩
theorem D0_93 : Dec code 93 (.iload_n 3) 1 94 := ⟨at_93, rfl⟩
theorem D0_94 : Dec code 94 .i2b 1 95 := ⟨at_94, rfl⟩
theorem D0_95 : Dec code 95 (.istore 9) 2 97 := ⟨at_95, rfl⟩
theorem D0_97 : Dec code 97 (.bipush 8) 2 99 := ⟨at_97, rfl⟩
theorem D0_99 : Dec code 99 (.newarray .byte) 2 101 := ⟨at_99, rfl⟩
theorem D0_101 : Dec code 101 .dup 1 102 := ⟨at_101, rfl⟩
theorem D0_102 : Dec code 102 (.iconst 0) 1 103 := ⟨at_102, rfl⟩
theorem D0_103 : Dec code 103 (.iload 9) 2 105 := ⟨at_103, rfl⟩
theorem D0_105 : Dec code 105 .bastore 1 106 := ⟨at_105, rfl⟩
theorem D0_106 : Dec code 106 .dup 1 107 := ⟨at_106, rfl⟩
theorem D0_107 : Dec code 107 (.iconst 1) 1 108 := ⟨at_107, rfl⟩
theorem D0_108 : Dec code 108 (.iload 9) 2 110 := ⟨at_108, rfl⟩
theorem D0_110 : Dec code 110 .bastore 1 111 := ⟨at_110, rfl⟩
theorem D0_111 : Dec code 111 .dup 1 112 := ⟨at_111, rfl⟩
theorem D0_112 : Dec code 112 (.iconst 2) 1 113 := ⟨at_112, rfl⟩
theorem D0_113 : Dec code 113 (.iload 9) 2 115 := ⟨at_113, rfl⟩
theorem D0_115 : Dec code 115 .bastore 1 116 := ⟨at_115, rfl⟩
theorem D0_116 : Dec code 116 .dup 1 117 := ⟨at_116, rfl⟩
theorem D0_117 : Dec code 117 (.iconst 3) 1 118 := ⟨at_117, rfl⟩
theorem D0_118 : Dec code 118 (.iload 9) 2 120 := ⟨at_118, rfl⟩
theorem D0_120 : Dec code 120 .bastore 1 121 := ⟨at_120, rfl⟩
theorem D0_121 : Dec code 121 .dup 1 122 := ⟨at_121, rfl⟩
theorem D0_122 : Dec code 122 (.iconst 4) 1 123 := ⟨at_122, rfl⟩
theorem D0_123 : Dec code 123 (.iload 9) 2 125 := ⟨at_123, rfl⟩
theorem D0_125 : Dec code 125 .bastore 1 126 := ⟨at_125, rfl⟩
theorem D0_126 : Dec code 126 .dup 1 127 := ⟨at_126, rfl⟩
theorem D0_127 : Dec code 127 (.iconst 5) 1 128 := ⟨at_127, rfl⟩
theorem D0_128 : Dec code 128 (.iload 9) 2 130 := ⟨at_128, rfl⟩
theorem D0_130 : Dec code 130 .bastore 1 131 := ⟨at_130, rfl⟩
theorem D0_131 : Dec code 131 .dup 1 132 := ⟨at_131, rfl⟩
theorem D0_132 : Dec code 132 (.bipush 6) 2 134 := ⟨at_132, rfl⟩
theorem D0_134 : Dec code 134 (.iload 9) 2 136 := ⟨at_134, rfl⟩
theorem D0_136 : Dec code 136 .bastore 1 137 := ⟨at_136, rfl⟩
theorem D0_137 : Dec code 137 .dup 1 138 := ⟨at_137, rfl⟩
theorem D0_138 : Dec code 138 (.bipush 7) 2 140 := ⟨at_138, rfl⟩
theorem D0_140 : Dec code 140 (.iload 9) 2 142 := ⟨at_140, rfl⟩
theorem D0_142 : Dec code 142 .bastore 1 143 := ⟨at_142, rfl⟩
theorem D0_143 : Dec code 143 (.astore 10) 2 145 := ⟨at_143, rfl⟩
theorem D0_145 : Dec code 145 (.iload 6) 2 147 := ⟨at_145, rfl⟩
theorem D0_147 : Dec code 147 (.aload 10) 2 149 := ⟨at_147, rfl⟩
theorem D0_149 : Dec code 149 (.iload 8) 2 151 := ⟨at_149, rfl⟩
theorem D0_151 : Dec code 151 (.invokestatic 11) 3 154 := ⟨at_151, rfl⟩
theorem D0_154 : Dec code 154 (.istore 11) 2 156 := ⟨at_154, rfl⟩
theorem D0_156 : Dec code 156 (.iload 11) 2 158 := ⟨at_156, rfl⟩
theorem D0_158 : Dec code 158 (.iload 8) 2 160 := ⟨at_158, rfl⟩
theorem D0_160 : Dec code 160 (.iload 7) 2 162 := ⟨at_160, rfl⟩
theorem D0_162 : Dec code 162 .iadd 1 163 := ⟨at_162, rfl⟩
theorem D0_163 : Jmp code 163 (.if_icmp .eq 5) 5 166 168 := ⟨at_163, rfl, by decide, by decide⟩
theorem D0_168 : Dec code 168 (.iload 8) 2 170 := ⟨at_168, rfl⟩
theorem D0_170 : Dec code 170 (.iload 7) 2 172 := ⟨at_170, rfl⟩
theorem D0_172 : Dec code 172 .iadd 1 173 := ⟨at_172, rfl⟩
theorem D0_173 : Dec code 173 (.istore 12) 2 175 := ⟨at_173, rfl⟩
theorem D0_175 : Dec code 175 (.aload 10) 2 177 := ⟨at_175, rfl⟩
theorem D0_177 : Dec code 177 (.iconst 0) 1 178 := ⟨at_177, rfl⟩
theorem D0_178 : Dec code 178 (.iload 8) 2 180 := ⟨at_178, rfl⟩
theorem D0_180 : Dec code 180 (.iload 12) 2 182 := ⟨at_180, rfl⟩
theorem D0_182 : Dec code 182 (.iload 9) 2 184 := ⟨at_182, rfl⟩
theorem D0_184 : Dec code 184 (.invokestatic 17) 3 187 := ⟨at_184, rfl⟩
theorem D0_187 : Jmp code 187 (.ifCond .eq 114) 114 190 301 := ⟨at_187, rfl, by decide, by decide⟩
theorem D0_190 : Dec code 190 (.aload 10) 2 192 := ⟨at_190, rfl⟩
theorem D0_192 : Dec code 192 (.iconst 1) 1 193 := ⟨at_192, rfl⟩
theorem D0_193 : Dec code 193 (.iload 8) 2 195 := ⟨at_193, rfl⟩
theorem D0_195 : Dec code 195 (.iload 12) 2 197 := ⟨at_195, rfl⟩
theorem D0_197 : Dec code 197 (.iload 9) 2 199 := ⟨at_197, rfl⟩
theorem D0_199 : Dec code 199 (.invokestatic 17) 3 202 := ⟨at_199, rfl⟩
theorem D0_202 : Jmp code 202 (.ifCond .eq 99) 99 205 301 := ⟨at_202, rfl, by decide, by decide⟩
theorem D0_205 : Dec code 205 (.aload 10) 2 207 := ⟨at_205, rfl⟩
theorem D0_207 : Dec code 207 (.iconst 2) 1 208 := ⟨at_207, rfl⟩
theorem D0_208 : Dec code 208 (.iload 8) 2 210 := ⟨at_208, rfl⟩
theorem D0_210 : Dec code 210 (.iload 12) 2 212 := ⟨at_210, rfl⟩
theorem D0_212 : Dec code 212 (.iload 9) 2 214 := ⟨at_212, rfl⟩
theorem D0_214 : Dec code 214 (.invokestatic 17) 3 217 := ⟨at_214, rfl⟩
theorem D0_217 : Jmp code 217 (.ifCond .eq 84) 84 220 301 := ⟨at_217, rfl, by decide, by decide⟩
theorem D0_220 : Dec code 220 (.aload 10) 2 222 := ⟨at_220, rfl⟩
theorem D0_222 : Dec code 222 (.iconst 3) 1 223 := ⟨at_222, rfl⟩
theorem D0_223 : Dec code 223 (.iload 8) 2 225 := ⟨at_223, rfl⟩
theorem D0_225 : Dec code 225 (.iload 12) 2 227 := ⟨at_225, rfl⟩
theorem D0_227 : Dec code 227 (.iload 9) 2 229 := ⟨at_227, rfl⟩
theorem D0_229 : Dec code 229 (.invokestatic 17) 3 232 := ⟨at_229, rfl⟩
theorem D0_232 : Jmp code 232 (.ifCond .eq 69) 69 235 301 := ⟨at_232, rfl, by decide, by decide⟩
theorem D0_235 : Dec code 235 (.aload 10) 2 237 := ⟨at_235, rfl⟩
theorem D0_237 : Dec code 237 (.iconst 4) 1 238 := ⟨at_237, rfl⟩
theorem D0_238 : Dec code 238 (.iload 8) 2 240 := ⟨at_238, rfl⟩
theorem D0_240 : Dec code 240 (.iload 12) 2 242 := ⟨at_240, rfl⟩
theorem D0_242 : Dec code 242 (.iload 9) 2 244 := ⟨at_242, rfl⟩
theorem D0_244 : Dec code 244 (.invokestatic 17) 3 247 := ⟨at_244, rfl⟩
theorem D0_247 : Jmp code 247 (.ifCond .eq 54) 54 250 301 := ⟨at_247, rfl, by decide, by decide⟩
theorem D0_250 : Dec code 250 (.aload 10) 2 252 := ⟨at_250, rfl⟩
theorem D0_252 : Dec code 252 (.iconst 5) 1 253 := ⟨at_252, rfl⟩
theorem D0_253 : Dec code 253 (.iload 8) 2 255 := ⟨at_253, rfl⟩
theorem D0_255 : Dec code 255 (.iload 12) 2 257 := ⟨at_255, rfl⟩
theorem D0_257 : Dec code 257 (.iload 9) 2 259 := ⟨at_257, rfl⟩
theorem D0_259 : Dec code 259 (.invokestatic 17) 3 262 := ⟨at_259, rfl⟩
theorem D0_262 : Jmp code 262 (.ifCond .eq 39) 39 265 301 := ⟨at_262, rfl, by decide, by decide⟩
theorem D0_265 : Dec code 265 (.aload 10) 2 267 := ⟨at_265, rfl⟩
theorem D0_267 : Dec code 267 (.bipush 6) 2 269 := ⟨at_267, rfl⟩
theorem D0_269 : Dec code 269 (.iload 8) 2 271 := ⟨at_269, rfl⟩
theorem D0_271 : Dec code 271 (.iload 12) 2 273 := ⟨at_271, rfl⟩
theorem D0_273 : Dec code 273 (.iload 9) 2 275 := ⟨at_273, rfl⟩
theorem D0_275 : Dec code 275 (.invokestatic 17) 3 278 := ⟨at_275, rfl⟩
theorem D0_278 : Jmp code 278 (.ifCond .eq 23) 23 281 301 := ⟨at_278, rfl, by decide, by decide⟩
theorem D0_281 : Dec code 281 (.aload 10) 2 283 := ⟨at_281, rfl⟩
theorem D0_283 : Dec code 283 (.bipush 7) 2 285 := ⟨at_283, rfl⟩
theorem D0_285 : Dec code 285 (.iload 8) 2 287 := ⟨at_285, rfl⟩
theorem D0_287 : Dec code 287 (.iload 12) 2 289 := ⟨at_287, rfl⟩
theorem D0_289 : Dec code 289 (.iload 9) 2 291 := ⟨at_289, rfl⟩
theorem D0_291 : Dec code 291 (.invokestatic 17) 3 294 := ⟨at_291, rfl⟩
theorem D0_294 : Jmp code 294 (.ifCond .eq 7) 7 297 301 := ⟨at_294, rfl, by decide, by decide⟩
theorem D0_297 : Dec code 297 (.iconst 1) 1 298 := ⟨at_297, rfl⟩
theorem D0_298 : Jmp code 298 (.goto 4) 4 301 302 := ⟨at_298, rfl, by decide, by decide⟩
theorem D0_302 : Dec code 302 (.istore 13) 2 304 := ⟨at_302, rfl⟩
theorem D0_304 : Dec code 304 (.iload 13) 2 306 := ⟨at_304, rfl⟩
theorem D0_306 : Jmp code 306 (.ifCond .ne 5) 5 309 311 := ⟨at_306, rfl, by decide, by decide⟩
theorem D0_311 : Dec code 311 (.aload 10) 2 313 := ⟨at_311, rfl⟩
theorem D0_313 : Dec code 313 (.iload 8) 2 315 := ⟨at_313, rfl⟩
theorem D0_315 : Dec code 315 .baload 1 316 := ⟨at_315, rfl⟩
theorem D0_316 : Dec code 316 (.sipush 255) 3 319 := ⟨at_316, rfl⟩
theorem D0_319 : Dec code 319 .iand 1 320 := ⟨at_319, rfl⟩
theorem D0_320 : Dec code 320 (.istore 14) 2 322 := ⟨at_320, rfl⟩
theorem D0_322 : Dec code 322 (.aload 10) 2 324 := ⟨at_322, rfl⟩
theorem D0_324 : Dec code 324 (.iload 8) 2 326 := ⟨at_324, rfl⟩
theorem D0_326 : Dec code 326 (.iconst 1) 1 327 := ⟨at_326, rfl⟩
theorem D0_327 : Dec code 327 .iadd 1 328 := ⟨at_327, rfl⟩
theorem D0_328 : Dec code 328 .baload 1 329 := ⟨at_328, rfl⟩
theorem D0_329 : Dec code 329 (.sipush 255) 3 332 := ⟨at_329, rfl⟩
theorem D0_332 : Dec code 332 .iand 1 333 := ⟨at_332, rfl⟩
theorem D0_333 : Dec code 333 (.istore 15) 2 335 := ⟨at_333, rfl⟩
theorem D0_335 : Dec code 335 (.aload 10) 2 337 := ⟨at_335, rfl⟩
theorem D0_337 : Dec code 337 (.iload 8) 2 339 := ⟨at_337, rfl⟩
theorem D0_339 : Dec code 339 (.iconst 2) 1 340 := ⟨at_339, rfl⟩
theorem D0_340 : Dec code 340 .iadd 1 341 := ⟨at_340, rfl⟩
theorem D0_341 : Dec code 341 .baload 1 342 := ⟨at_341, rfl⟩
theorem D0_342 : Dec code 342 (.sipush 255) 3 345 := ⟨at_342, rfl⟩
theorem D0_345 : Dec code 345 .iand 1 346 := ⟨at_345, rfl⟩
theorem D0_346 : Dec code 346 (.istore 16) 2 348 := ⟨at_346, rfl⟩
theorem D0_348 : Dec code 348 (.aload 10) 2 350 := ⟨at_348, rfl⟩
theorem D0_350 : Dec code 350 (.iload 8) 2 352 := ⟨at_350, rfl⟩
theorem D0_352 : Dec code 352 (.iconst 3) 1 353 := ⟨at_352, rfl⟩
theorem D0_353 : Dec code 353 .iadd 1 354 := ⟨at_353, rfl⟩
theorem D0_354 : Dec code 354 .baload 1 355 := ⟨at_354, rfl⟩
theorem D0_355 : Dec code 355 (.sipush 255) 3 358 := ⟨at_355, rfl⟩
theorem D0_358 : Dec code 358 .iand 1 359 := ⟨at_358, rfl⟩
theorem D0_359 : Dec code 359 (.istore 17) 2 361 := ⟨at_359, rfl⟩
theorem D0_361 : Dec code 361 (.iload 7) 2 363 := ⟨at_361, rfl⟩
theorem D0_363 : Dec code 363 (.iconst 1) 1 364 := ⟨at_363, rfl⟩
theorem D0_364 : Jmp code 364 (.if_icmp .ne 16) 16 367 380 := ⟨at_364, rfl, by decide, by decide⟩
theorem D0_367 : Dec code 367 (.iload 14) 2 369 := ⟨at_367, rfl⟩
theorem D0_369 : Dec code 369 (.iload 6) 2 371 := ⟨at_369, rfl⟩
theorem D0_371 : Jmp code 371 (.if_icmp .ne 7) 7 374 378 := ⟨at_371, rfl, by decide, by decide⟩
theorem D0_374 : Dec code 374 (.iconst 1) 1 375 := ⟨at_374, rfl⟩
theorem D0_375 : Jmp code 375 (.goto 4) 4 378 379 := ⟨at_375, rfl, by decide, by decide⟩
theorem D0_379 : Dec code 379 .ireturn 1 380 := ⟨at_379, rfl⟩
theorem D0_380 : Dec code 380 (.iload 7) 2 382 := ⟨at_380, rfl⟩
theorem D0_382 : Dec code 382 (.iconst 2) 1 383 := ⟨at_382, rfl⟩
theorem D0_383 : Jmp code 383 (.if_icmp .ne 52) 52 386 435 := ⟨at_383, rfl, by decide, by decide⟩
theorem D0_386 : Dec code 386 (.iload 14) 2 388 := ⟨at_386, rfl⟩
theorem D0_388 : Dec code 388 (.sipush 224) 3 391 := ⟨at_388, rfl⟩
theorem D0_391 : Dec code 391 .iand 1 392 := ⟨at_391, rfl⟩
theorem D0_392 : Dec code 392 (.sipush 192) 3 395 := ⟨at_392, rfl⟩
theorem D0_395 : Jmp code 395 (.if_icmp .ne 38) 38 398 433 := ⟨at_395, rfl, by decide, by decide⟩
theorem D0_398 : Dec code 398 (.iload 15) 2 400 := ⟨at_398, rfl⟩
theorem D0_400 : Dec code 400 (.sipush 192) 3 403 := ⟨at_400, rfl⟩
theorem D0_403 : Dec code 403 .iand 1 404 := ⟨at_403, rfl⟩
theorem D0_404 : Dec code 404 (.sipush 128) 3 407 := ⟨at_404, rfl⟩
theorem D0_407 : Jmp code 407 (.if_icmp .ne 26) 26 410 433 := ⟨at_407, rfl, by decide, by decide⟩
theorem D0_410 : Dec code 410 (.iload 14) 2 412 := ⟨at_410, rfl⟩
theorem D0_412 : Dec code 412 (.bipush 31) 2 414 := ⟨at_412, rfl⟩
theorem D0_414 : Dec code 414 .iand 1 415 := ⟨at_414, rfl⟩
theorem D0_415 : Dec code 415 (.bipush 6) 2 417 := ⟨at_415, rfl⟩
theorem D0_417 : Dec code 417 .ishl 1 418 := ⟨at_417, rfl⟩
theorem D0_418 : Dec code 418 (.iload 15) 2 420 := ⟨at_418, rfl⟩
theorem D0_420 : Dec code 420 (.bipush 63) 2 422 := ⟨at_420, rfl⟩
theorem D0_422 : Dec code 422 .iand 1 423 := ⟨at_422, rfl⟩
theorem D0_423 : Dec code 423 .ior 1 424 := ⟨at_423, rfl⟩
theorem D0_424 : Dec code 424 (.iload 6) 2 426 := ⟨at_424, rfl⟩
theorem D0_426 : Jmp code 426 (.if_icmp .ne 7) 7 429 433 := ⟨at_426, rfl, by decide, by decide⟩
theorem D0_429 : Dec code 429 (.iconst 1) 1 430 := ⟨at_429, rfl⟩
theorem D0_430 : Jmp code 430 (.goto 4) 4 433 434 := ⟨at_430, rfl, by decide, by decide⟩
theorem D0_434 : Dec code 434 .ireturn 1 435 := ⟨at_434, rfl⟩
theorem D0_435 : Dec code 435 (.iload 7) 2 437 := ⟨at_435, rfl⟩
theorem D0_437 : Dec code 437 (.iconst 3) 1 438 := ⟨at_437, rfl⟩
theorem D0_438 : Jmp code 438 (.if_icmp .ne 73) 73 441 511 := ⟨at_438, rfl, by decide, by decide⟩
theorem D0_441 : Dec code 441 (.iload 14) 2 443 := ⟨at_441, rfl⟩
theorem D0_443 : Dec code 443 (.sipush 240) 3 446 := ⟨at_443, rfl⟩
theorem D0_446 : Dec code 446 .iand 1 447 := ⟨at_446, rfl⟩
theorem D0_447 : Dec code 447 (.sipush 224) 3 450 := ⟨at_447, rfl⟩
theorem D0_450 : Jmp code 450 (.if_icmp .ne 59) 59 453 509 := ⟨at_450, rfl, by decide, by decide⟩
theorem D0_453 : Dec code 453 (.iload 15) 2 455 := ⟨at_453, rfl⟩
theorem D0_455 : Dec code 455 (.sipush 192) 3 458 := ⟨at_455, rfl⟩
theorem D0_458 : Dec code 458 .iand 1 459 := ⟨at_458, rfl⟩
theorem D0_459 : Dec code 459 (.sipush 128) 3 462 := ⟨at_459, rfl⟩
theorem D0_462 : Jmp code 462 (.if_icmp .ne 47) 47 465 509 := ⟨at_462, rfl, by decide, by decide⟩
theorem D0_465 : Dec code 465 (.iload 16) 2 467 := ⟨at_465, rfl⟩
theorem D0_467 : Dec code 467 (.sipush 192) 3 470 := ⟨at_467, rfl⟩
theorem D0_470 : Dec code 470 .iand 1 471 := ⟨at_470, rfl⟩
theorem D0_471 : Dec code 471 (.sipush 128) 3 474 := ⟨at_471, rfl⟩
theorem D0_474 : Jmp code 474 (.if_icmp .ne 35) 35 477 509 := ⟨at_474, rfl, by decide, by decide⟩
theorem D0_477 : Dec code 477 (.iload 14) 2 479 := ⟨at_477, rfl⟩
theorem D0_479 : Dec code 479 (.bipush 15) 2 481 := ⟨at_479, rfl⟩
theorem D0_481 : Dec code 481 .iand 1 482 := ⟨at_481, rfl⟩
theorem D0_482 : Dec code 482 (.bipush 12) 2 484 := ⟨at_482, rfl⟩
theorem D0_484 : Dec code 484 .ishl 1 485 := ⟨at_484, rfl⟩
theorem D0_485 : Dec code 485 (.iload 15) 2 487 := ⟨at_485, rfl⟩
theorem D0_487 : Dec code 487 (.bipush 63) 2 489 := ⟨at_487, rfl⟩
theorem D0_489 : Dec code 489 .iand 1 490 := ⟨at_489, rfl⟩
theorem D0_490 : Dec code 490 (.bipush 6) 2 492 := ⟨at_490, rfl⟩
theorem D0_492 : Dec code 492 .ishl 1 493 := ⟨at_492, rfl⟩
theorem D0_493 : Dec code 493 .ior 1 494 := ⟨at_493, rfl⟩
theorem D0_494 : Dec code 494 (.iload 16) 2 496 := ⟨at_494, rfl⟩
theorem D0_496 : Dec code 496 (.bipush 63) 2 498 := ⟨at_496, rfl⟩
theorem D0_498 : Dec code 498 .iand 1 499 := ⟨at_498, rfl⟩
theorem D0_499 : Dec code 499 .ior 1 500 := ⟨at_499, rfl⟩
theorem D0_500 : Dec code 500 (.iload 6) 2 502 := ⟨at_500, rfl⟩
theorem D0_502 : Jmp code 502 (.if_icmp .ne 7) 7 505 509 := ⟨at_502, rfl, by decide, by decide⟩
theorem D0_505 : Dec code 505 (.iconst 1) 1 506 := ⟨at_505, rfl⟩
theorem D0_506 : Jmp code 506 (.goto 4) 4 509 510 := ⟨at_506, rfl, by decide, by decide⟩
theorem D0_510 : Dec code 510 .ireturn 1 511 := ⟨at_510, rfl⟩
theorem D0_511 : Dec code 511 (.iload 14) 2 513 := ⟨at_511, rfl⟩
theorem D0_513 : Dec code 513 (.sipush 248) 3 516 := ⟨at_513, rfl⟩
theorem D0_516 : Dec code 516 .iand 1 517 := ⟨at_516, rfl⟩
theorem D0_517 : Dec code 517 (.sipush 240) 3 520 := ⟨at_517, rfl⟩
theorem D0_520 : Jmp code 520 (.if_icmp .ne 80) 80 523 600 := ⟨at_520, rfl, by decide, by decide⟩
theorem D0_523 : Dec code 523 (.iload 15) 2 525 := ⟨at_523, rfl⟩
theorem D0_525 : Dec code 525 (.sipush 192) 3 528 := ⟨at_525, rfl⟩
theorem D0_528 : Dec code 528 .iand 1 529 := ⟨at_528, rfl⟩
theorem D0_529 : Dec code 529 (.sipush 128) 3 532 := ⟨at_529, rfl⟩
theorem D0_532 : Jmp code 532 (.if_icmp .ne 68) 68 535 600 := ⟨at_532, rfl, by decide, by decide⟩
theorem D0_535 : Dec code 535 (.iload 16) 2 537 := ⟨at_535, rfl⟩
theorem D0_537 : Dec code 537 (.sipush 192) 3 540 := ⟨at_537, rfl⟩
theorem D0_540 : Dec code 540 .iand 1 541 := ⟨at_540, rfl⟩
theorem D0_541 : Dec code 541 (.sipush 128) 3 544 := ⟨at_541, rfl⟩
theorem D0_544 : Jmp code 544 (.if_icmp .ne 56) 56 547 600 := ⟨at_544, rfl, by decide, by decide⟩
theorem D0_547 : Dec code 547 (.iload 17) 2 549 := ⟨at_547, rfl⟩
theorem D0_549 : Dec code 549 (.sipush 192) 3 552 := ⟨at_549, rfl⟩
theorem D0_552 : Dec code 552 .iand 1 553 := ⟨at_552, rfl⟩
theorem D0_553 : Dec code 553 (.sipush 128) 3 556 := ⟨at_553, rfl⟩
theorem D0_556 : Jmp code 556 (.if_icmp .ne 44) 44 559 600 := ⟨at_556, rfl, by decide, by decide⟩
theorem D0_559 : Dec code 559 (.iload 14) 2 561 := ⟨at_559, rfl⟩
theorem D0_561 : Dec code 561 (.bipush 7) 2 563 := ⟨at_561, rfl⟩
theorem D0_563 : Dec code 563 .iand 1 564 := ⟨at_563, rfl⟩
theorem D0_564 : Dec code 564 (.bipush 18) 2 566 := ⟨at_564, rfl⟩
theorem D0_566 : Dec code 566 .ishl 1 567 := ⟨at_566, rfl⟩
theorem D0_567 : Dec code 567 (.iload 15) 2 569 := ⟨at_567, rfl⟩
theorem D0_569 : Dec code 569 (.bipush 63) 2 571 := ⟨at_569, rfl⟩
theorem D0_571 : Dec code 571 .iand 1 572 := ⟨at_571, rfl⟩
theorem D0_572 : Dec code 572 (.bipush 12) 2 574 := ⟨at_572, rfl⟩
theorem D0_574 : Dec code 574 .ishl 1 575 := ⟨at_574, rfl⟩
theorem D0_575 : Dec code 575 .ior 1 576 := ⟨at_575, rfl⟩
theorem D0_576 : Dec code 576 (.iload 16) 2 578 := ⟨at_576, rfl⟩
theorem D0_578 : Dec code 578 (.bipush 63) 2 580 := ⟨at_578, rfl⟩
theorem D0_580 : Dec code 580 .iand 1 581 := ⟨at_580, rfl⟩
theorem D0_581 : Dec code 581 (.bipush 6) 2 583 := ⟨at_581, rfl⟩
theorem D0_583 : Dec code 583 .ishl 1 584 := ⟨at_583, rfl⟩
theorem D0_584 : Dec code 584 .ior 1 585 := ⟨at_584, rfl⟩
theorem D0_585 : Dec code 585 (.iload 17) 2 587 := ⟨at_585, rfl⟩
theorem D0_587 : Dec code 587 (.bipush 63) 2 589 := ⟨at_587, rfl⟩
theorem D0_589 : Dec code 589 .iand 1 590 := ⟨at_589, rfl⟩
theorem D0_590 : Dec code 590 .ior 1 591 := ⟨at_590, rfl⟩
theorem D0_591 : Dec code 591 (.iload 6) 2 593 := ⟨at_591, rfl⟩
theorem D0_593 : Jmp code 593 (.if_icmp .ne 7) 7 596 600 := ⟨at_593, rfl, by decide, by decide⟩
theorem D0_596 : Dec code 596 (.iconst 1) 1 597 := ⟨at_596, rfl⟩
theorem D0_597 : Jmp code 597 (.goto 4) 4 600 601 := ⟨at_597, rfl, by decide, by decide⟩
theorem D0_601 : Dec code 601 .ireturn 1 602 := ⟨at_601, rfl⟩
theorem D1_0 : Dec prog_210_method_6_code 0 (.iload_n 2) 1 1 := ⟨by decide +kernel, rfl⟩
theorem D1_1 : Dec prog_210_method_6_code 1 (.istore_n 3) 1 2 := ⟨by decide +kernel, rfl⟩
theorem D1_2 : Dec prog_210_method_6_code 2 (.iload_n 0) 1 3 := ⟨by decide +kernel, rfl⟩
theorem D1_3 : Dec prog_210_method_6_code 3 (.sipush 128) 3 6 := ⟨by decide +kernel, rfl⟩
theorem D1_6 : Jmp prog_210_method_6_code 6 (.if_icmp .ge 14) 14 9 20 := ⟨by decide +kernel, rfl, by decide, by decide⟩
theorem D1_9 : Dec prog_210_method_6_code 9 (.aload_n 1) 1 10 := ⟨by decide +kernel, rfl⟩
theorem D1_10 : Dec prog_210_method_6_code 10 (.iload_n 3) 1 11 := ⟨by decide +kernel, rfl⟩
theorem D1_11 : Dec prog_210_method_6_code 11 (.iinc 3 1) 3 14 := ⟨by decide +kernel, rfl⟩
theorem D1_14 : Dec prog_210_method_6_code 14 (.iload_n 0) 1 15 := ⟨by decide +kernel, rfl⟩
theorem D1_15 : Dec prog_210_method_6_code 15 .i2b 1 16 := ⟨by decide +kernel, rfl⟩
theorem D1_16 : Dec prog_210_method_6_code 16 .bastore 1 17 := ⟨by decide +kernel, rfl⟩
theorem D1_17 : Jmp prog_210_method_6_code 17 (.goto 166) 166 20 183 := ⟨by decide +kernel, rfl, by decide, by decide⟩
theorem D1_20 : Dec prog_210_method_6_code 20 (.iload_n 0) 1 21 := ⟨by decide +kernel, rfl⟩
theorem D1_21 : Dec prog_210_method_6_code 21 (.sipush 2048) 3 24 := ⟨by decide +kernel, rfl⟩
theorem D1_24 : Jmp prog_210_method_6_code 24 (.if_icmp .ge 36) 36 27 60 := ⟨by decide +kernel, rfl, by decide, by decide⟩
theorem D1_27 : Dec prog_210_method_6_code 27 (.aload_n 1) 1 28 := ⟨by decide +kernel, rfl⟩
theorem D1_28 : Dec prog_210_method_6_code 28 (.iload_n 3) 1 29 := ⟨by decide +kernel, rfl⟩
theorem D1_29 : Dec prog_210_method_6_code 29 (.iinc 3 1) 3 32 := ⟨by decide +kernel, rfl⟩
theorem D1_32 : Dec prog_210_method_6_code 32 (.sipush 192) 3 35 := ⟨by decide +kernel, rfl⟩
theorem D1_35 : Dec prog_210_method_6_code 35 (.iload_n 0) 1 36 := ⟨by decide +kernel, rfl⟩
theorem D1_36 : Dec prog_210_method_6_code 36 (.bipush 6) 2 38 := ⟨by decide +kernel, rfl⟩
theorem D1_38 : Dec prog_210_method_6_code 38 .ishr 1 39 := ⟨by decide +kernel, rfl⟩
theorem D1_39 : Dec prog_210_method_6_code 39 .ior 1 40 := ⟨by decide +kernel, rfl⟩
theorem D1_40 : Dec prog_210_method_6_code 40 .i2b 1 41 := ⟨by decide +kernel, rfl⟩
theorem D1_41 : Dec prog_210_method_6_code 41 .bastore 1 42 := ⟨by decide +kernel, rfl⟩
theorem D1_42 : Dec prog_210_method_6_code 42 (.aload_n 1) 1 43 := ⟨by decide +kernel, rfl⟩
theorem D1_43 : Dec prog_210_method_6_code 43 (.iload_n 3) 1 44 := ⟨by decide +kernel, rfl⟩
theorem D1_44 : Dec prog_210_method_6_code 44 (.iinc 3 1) 3 47 := ⟨by decide +kernel, rfl⟩
theorem D1_47 : Dec prog_210_method_6_code 47 (.sipush 128) 3 50 := ⟨by decide +kernel, rfl⟩
theorem D1_50 : Dec prog_210_method_6_code 50 (.iload_n 0) 1 51 := ⟨by decide +kernel, rfl⟩
theorem D1_51 : Dec prog_210_method_6_code 51 (.bipush 63) 2 53 := ⟨by decide +kernel, rfl⟩
theorem D1_53 : Dec prog_210_method_6_code 53 .iand 1 54 := ⟨by decide +kernel, rfl⟩
theorem D1_54 : Dec prog_210_method_6_code 54 .ior 1 55 := ⟨by decide +kernel, rfl⟩
theorem D1_55 : Dec prog_210_method_6_code 55 .i2b 1 56 := ⟨by decide +kernel, rfl⟩
theorem D1_56 : Dec prog_210_method_6_code 56 .bastore 1 57 := ⟨by decide +kernel, rfl⟩
theorem D1_57 : Jmp prog_210_method_6_code 57 (.goto 126) 126 60 183 := ⟨by decide +kernel, rfl, by decide, by decide⟩
theorem D1_60 : Dec prog_210_method_6_code 60 (.iload_n 0) 1 61 := ⟨by decide +kernel, rfl⟩
theorem D1_61 : Dec prog_210_method_6_code 61 (.ldc 37) 2 63 := ⟨by decide +kernel, rfl⟩
theorem D1_63 : Jmp prog_210_method_6_code 63 (.if_icmp .ge 54) 54 66 117 := ⟨by decide +kernel, rfl, by decide, by decide⟩
theorem D1_66 : Dec prog_210_method_6_code 66 (.aload_n 1) 1 67 := ⟨by decide +kernel, rfl⟩
theorem D1_67 : Dec prog_210_method_6_code 67 (.iload_n 3) 1 68 := ⟨by decide +kernel, rfl⟩
theorem D1_68 : Dec prog_210_method_6_code 68 (.iinc 3 1) 3 71 := ⟨by decide +kernel, rfl⟩
theorem D1_71 : Dec prog_210_method_6_code 71 (.sipush 224) 3 74 := ⟨by decide +kernel, rfl⟩
theorem D1_74 : Dec prog_210_method_6_code 74 (.iload_n 0) 1 75 := ⟨by decide +kernel, rfl⟩
theorem D1_75 : Dec prog_210_method_6_code 75 (.bipush 12) 2 77 := ⟨by decide +kernel, rfl⟩
theorem D1_77 : Dec prog_210_method_6_code 77 .ishr 1 78 := ⟨by decide +kernel, rfl⟩
theorem D1_78 : Dec prog_210_method_6_code 78 .ior 1 79 := ⟨by decide +kernel, rfl⟩
theorem D1_79 : Dec prog_210_method_6_code 79 .i2b 1 80 := ⟨by decide +kernel, rfl⟩
theorem D1_80 : Dec prog_210_method_6_code 80 .bastore 1 81 := ⟨by decide +kernel, rfl⟩
theorem D1_81 : Dec prog_210_method_6_code 81 (.aload_n 1) 1 82 := ⟨by decide +kernel, rfl⟩
theorem D1_82 : Dec prog_210_method_6_code 82 (.iload_n 3) 1 83 := ⟨by decide +kernel, rfl⟩
theorem D1_83 : Dec prog_210_method_6_code 83 (.iinc 3 1) 3 86 := ⟨by decide +kernel, rfl⟩
theorem D1_86 : Dec prog_210_method_6_code 86 (.sipush 128) 3 89 := ⟨by decide +kernel, rfl⟩
theorem D1_89 : Dec prog_210_method_6_code 89 (.iload_n 0) 1 90 := ⟨by decide +kernel, rfl⟩
theorem D1_90 : Dec prog_210_method_6_code 90 (.bipush 6) 2 92 := ⟨by decide +kernel, rfl⟩
theorem D1_92 : Dec prog_210_method_6_code 92 .ishr 1 93 := ⟨by decide +kernel, rfl⟩
theorem D1_93 : Dec prog_210_method_6_code 93 (.bipush 63) 2 95 := ⟨by decide +kernel, rfl⟩
theorem D1_95 : Dec prog_210_method_6_code 95 .iand 1 96 := ⟨by decide +kernel, rfl⟩
theorem D1_96 : Dec prog_210_method_6_code 96 .ior 1 97 := ⟨by decide +kernel, rfl⟩
theorem D1_97 : Dec prog_210_method_6_code 97 .i2b 1 98 := ⟨by decide +kernel, rfl⟩
theorem D1_98 : Dec prog_210_method_6_code 98 .bastore 1 99 := ⟨by decide +kernel, rfl⟩
theorem D1_99 : Dec prog_210_method_6_code 99 (.aload_n 1) 1 100 := ⟨by decide +kernel, rfl⟩
theorem D1_100 : Dec prog_210_method_6_code 100 (.iload_n 3) 1 101 := ⟨by decide +kernel, rfl⟩
theorem D1_101 : Dec prog_210_method_6_code 101 (.iinc 3 1) 3 104 := ⟨by decide +kernel, rfl⟩
theorem D1_104 : Dec prog_210_method_6_code 104 (.sipush 128) 3 107 := ⟨by decide +kernel, rfl⟩
theorem D1_107 : Dec prog_210_method_6_code 107 (.iload_n 0) 1 108 := ⟨by decide +kernel, rfl⟩
theorem D1_108 : Dec prog_210_method_6_code 108 (.bipush 63) 2 110 := ⟨by decide +kernel, rfl⟩
theorem D1_110 : Dec prog_210_method_6_code 110 .iand 1 111 := ⟨by decide +kernel, rfl⟩
theorem D1_111 : Dec prog_210_method_6_code 111 .ior 1 112 := ⟨by decide +kernel, rfl⟩
theorem D1_112 : Dec prog_210_method_6_code 112 .i2b 1 113 := ⟨by decide +kernel, rfl⟩
theorem D1_113 : Dec prog_210_method_6_code 113 .bastore 1 114 := ⟨by decide +kernel, rfl⟩
theorem D1_114 : Jmp prog_210_method_6_code 114 (.goto 69) 69 117 183 := ⟨by decide +kernel, rfl, by decide, by decide⟩
theorem D1_117 : Dec prog_210_method_6_code 117 (.aload_n 1) 1 118 := ⟨by decide +kernel, rfl⟩
theorem D1_118 : Dec prog_210_method_6_code 118 (.iload_n 3) 1 119 := ⟨by decide +kernel, rfl⟩
theorem D1_119 : Dec prog_210_method_6_code 119 (.iinc 3 1) 3 122 := ⟨by decide +kernel, rfl⟩
theorem D1_122 : Dec prog_210_method_6_code 122 (.sipush 240) 3 125 := ⟨by decide +kernel, rfl⟩
theorem D1_125 : Dec prog_210_method_6_code 125 (.iload_n 0) 1 126 := ⟨by decide +kernel, rfl⟩
theorem D1_126 : Dec prog_210_method_6_code 126 (.bipush 18) 2 128 := ⟨by decide +kernel, rfl⟩
theorem D1_128 : Dec prog_210_method_6_code 128 .ishr 1 129 := ⟨by decide +kernel, rfl⟩
theorem D1_129 : Dec prog_210_method_6_code 129 .ior 1 130 := ⟨by decide +kernel, rfl⟩
theorem D1_130 : Dec prog_210_method_6_code 130 .i2b 1 131 := ⟨by decide +kernel, rfl⟩
theorem D1_131 : Dec prog_210_method_6_code 131 .bastore 1 132 := ⟨by decide +kernel, rfl⟩
theorem D1_132 : Dec prog_210_method_6_code 132 (.aload_n 1) 1 133 := ⟨by decide +kernel, rfl⟩
theorem D1_133 : Dec prog_210_method_6_code 133 (.iload_n 3) 1 134 := ⟨by decide +kernel, rfl⟩
theorem D1_134 : Dec prog_210_method_6_code 134 (.iinc 3 1) 3 137 := ⟨by decide +kernel, rfl⟩
theorem D1_137 : Dec prog_210_method_6_code 137 (.sipush 128) 3 140 := ⟨by decide +kernel, rfl⟩
theorem D1_140 : Dec prog_210_method_6_code 140 (.iload_n 0) 1 141 := ⟨by decide +kernel, rfl⟩
theorem D1_141 : Dec prog_210_method_6_code 141 (.bipush 12) 2 143 := ⟨by decide +kernel, rfl⟩
theorem D1_143 : Dec prog_210_method_6_code 143 .ishr 1 144 := ⟨by decide +kernel, rfl⟩
theorem D1_144 : Dec prog_210_method_6_code 144 (.bipush 63) 2 146 := ⟨by decide +kernel, rfl⟩
theorem D1_146 : Dec prog_210_method_6_code 146 .iand 1 147 := ⟨by decide +kernel, rfl⟩
theorem D1_147 : Dec prog_210_method_6_code 147 .ior 1 148 := ⟨by decide +kernel, rfl⟩
theorem D1_148 : Dec prog_210_method_6_code 148 .i2b 1 149 := ⟨by decide +kernel, rfl⟩
theorem D1_149 : Dec prog_210_method_6_code 149 .bastore 1 150 := ⟨by decide +kernel, rfl⟩
theorem D1_150 : Dec prog_210_method_6_code 150 (.aload_n 1) 1 151 := ⟨by decide +kernel, rfl⟩
theorem D1_151 : Dec prog_210_method_6_code 151 (.iload_n 3) 1 152 := ⟨by decide +kernel, rfl⟩
theorem D1_152 : Dec prog_210_method_6_code 152 (.iinc 3 1) 3 155 := ⟨by decide +kernel, rfl⟩
theorem D1_155 : Dec prog_210_method_6_code 155 (.sipush 128) 3 158 := ⟨by decide +kernel, rfl⟩
theorem D1_158 : Dec prog_210_method_6_code 158 (.iload_n 0) 1 159 := ⟨by decide +kernel, rfl⟩
theorem D1_159 : Dec prog_210_method_6_code 159 (.bipush 6) 2 161 := ⟨by decide +kernel, rfl⟩
theorem D1_161 : Dec prog_210_method_6_code 161 .ishr 1 162 := ⟨by decide +kernel, rfl⟩
theorem D1_162 : Dec prog_210_method_6_code 162 (.bipush 63) 2 164 := ⟨by decide +kernel, rfl⟩
theorem D1_164 : Dec prog_210_method_6_code 164 .iand 1 165 := ⟨by decide +kernel, rfl⟩
theorem D1_165 : Dec prog_210_method_6_code 165 .ior 1 166 := ⟨by decide +kernel, rfl⟩
theorem D1_166 : Dec prog_210_method_6_code 166 .i2b 1 167 := ⟨by decide +kernel, rfl⟩
theorem D1_167 : Dec prog_210_method_6_code 167 .bastore 1 168 := ⟨by decide +kernel, rfl⟩
theorem D1_168 : Dec prog_210_method_6_code 168 (.aload_n 1) 1 169 := ⟨by decide +kernel, rfl⟩
theorem D1_169 : Dec prog_210_method_6_code 169 (.iload_n 3) 1 170 := ⟨by decide +kernel, rfl⟩
theorem D1_170 : Dec prog_210_method_6_code 170 (.iinc 3 1) 3 173 := ⟨by decide +kernel, rfl⟩
theorem D1_173 : Dec prog_210_method_6_code 173 (.sipush 128) 3 176 := ⟨by decide +kernel, rfl⟩
theorem D1_176 : Dec prog_210_method_6_code 176 (.iload_n 0) 1 177 := ⟨by decide +kernel, rfl⟩
theorem D1_177 : Dec prog_210_method_6_code 177 (.bipush 63) 2 179 := ⟨by decide +kernel, rfl⟩
theorem D1_179 : Dec prog_210_method_6_code 179 .iand 1 180 := ⟨by decide +kernel, rfl⟩
theorem D1_180 : Dec prog_210_method_6_code 180 .ior 1 181 := ⟨by decide +kernel, rfl⟩
theorem D1_181 : Dec prog_210_method_6_code 181 .i2b 1 182 := ⟨by decide +kernel, rfl⟩
theorem D1_182 : Dec prog_210_method_6_code 182 .bastore 1 183 := ⟨by decide +kernel, rfl⟩
theorem D1_183 : Dec prog_210_method_6_code 183 (.iload_n 3) 1 184 := ⟨by decide +kernel, rfl⟩
theorem D1_184 : Dec prog_210_method_6_code 184 .ireturn 1 185 := ⟨by decide +kernel, rfl⟩
theorem D2_0 : Dec method_2_code 0 (.iload_n 1) 1 1 := ⟨by decide +kernel, rfl⟩
theorem D2_1 : Dec method_2_code 1 (.iload_n 2) 1 2 := ⟨by decide +kernel, rfl⟩
theorem D2_2 : Jmp method_2_code 2 (.if_icmp .lt 8) 8 5 10 := ⟨by decide +kernel, rfl, by decide, by decide⟩
theorem D2_5 : Dec method_2_code 5 (.iload_n 1) 1 6 := ⟨by decide +kernel, rfl⟩
theorem D2_6 : Dec method_2_code 6 (.iload_n 3) 1 7 := ⟨by decide +kernel, rfl⟩
theorem D2_7 : Jmp method_2_code 7 (.if_icmp .lt 11) 11 10 18 := ⟨by decide +kernel, rfl, by decide, by decide⟩
theorem D2_10 : Dec method_2_code 10 (.aload_n 0) 1 11 := ⟨by decide +kernel, rfl⟩
theorem D2_11 : Dec method_2_code 11 (.iload_n 1) 1 12 := ⟨by decide +kernel, rfl⟩
theorem D2_12 : Dec method_2_code 12 .baload 1 13 := ⟨by decide +kernel, rfl⟩
theorem D2_13 : Dec method_2_code 13 (.iload 4) 2 15 := ⟨by decide +kernel, rfl⟩
theorem D2_15 : Jmp method_2_code 15 (.if_icmp .ne 7) 7 18 22 := ⟨by decide +kernel, rfl, by decide, by decide⟩
theorem D2_18 : Dec method_2_code 18 (.iconst 1) 1 19 := ⟨by decide +kernel, rfl⟩
theorem D2_19 : Jmp method_2_code 19 (.goto 4) 4 22 23 := ⟨by decide +kernel, rfl, by decide, by decide⟩
theorem D2_23 : Dec method_2_code 23 .ireturn 1 24 := ⟨by decide +kernel, rfl⟩
theorem pd_0 : parseMethodDescriptor "(I[BI)I" = some ⟨[.int, (.array .byte), .int], some .int⟩ := by decide +kernel
theorem pd_1 : parseMethodDescriptor "([BIIIB)Z" = some ⟨[(.array .byte), .int, .int, .int, .byte], some .boolean⟩ := by decide +kernel
section OwnNums
theorem n_bv (a : Nat) : (Int32.ofNat a).toBitVec = BitVec.ofNat 32 a := rfl
theorem eq_mod {x y : Int32} (h : (x.toInt - y.toInt) % 4294967296 = 0) : x = y := Int32.toInt_inj.mp (by have := rng32 x; have := rng32 y; omega)
theorem eq_modL {x y : Int64} (h : (x.toInt - y.toInt) % 18446744073709551616 = 0) : x = y := Int64.toInt_inj.mp (by have := rng64 x; have := rng64 y; omega)
theorem n_add (a b : Nat) : Int32.ofNat a + Int32.ofNat b = Int32.ofNat (a + b) := (Int32.ofNat_add a b).symm
theorem n_mul (a b : Nat) : Int32.ofNat a * Int32.ofNat b = Int32.ofNat (a * b) := (Int32.ofNat_mul a b).symm
theorem n_sub {a b : Nat} (h : b ≤ a) : Int32.ofNat a - Int32.ofNat b = Int32.ofNat (a - b) := by
  have := n_add (a - b) b
  rw [Nat.sub_add_cancel h] at this
  rw [← this, Int32.add_sub_cancel]
theorem n_and (a b : Nat) : Int32.ofNat a &&& Int32.ofNat b = Int32.ofNat (a &&& b) := by
  apply Int32.toBitVec_inj.mp
  rw [Int32.toBitVec_and, n_bv, n_bv, n_bv]
  exact BitVec.ofNat_and.symm
theorem n_or (a b : Nat) : Int32.ofNat a ||| Int32.ofNat b = Int32.ofNat (a ||| b) := by
  apply Int32.toBitVec_inj.mp
  rw [Int32.toBitVec_or, n_bv, n_bv, n_bv]
  exact BitVec.ofNat_or.symm
theorem n_q {k : Nat} (hk : k < 32) : (Int32.ofNat k).toBitVec.toNat % 32 = k := by
  rw [n_bv, BitVec.toNat_ofNat]; omega
theorem n_q64 {k : Nat} (hk : k < 64) : (Int32.ofNat k).toBitVec.toNat % 64 = k := by
  rw [n_bv, BitVec.toNat_ofNat]; omega
theorem toInt_mod (a : Nat) : ((Int32.ofNat a).toInt - a) % 4294967296 = 0 := by
  have h := bm32 (((BitVec.ofNat 32 a).toNat : Nat) : Int)
  rw [show (Int32.ofNat a).toInt = (BitVec.ofNat 32 a).toInt from rfl, BitVec.toInt_eq_toNat_bmod]
  rw [BitVec.toNat_ofNat] at *
  generalize Int.bmod ((a % 2 ^ 32 : Nat) : Int) (2 ^ 32) = w1 at *
  omega
theorem n_inj {a b : Nat} (ha : a < 2147483648) (hb : b < 2147483648) : Int32.ofNat a = Int32.ofNat b ↔ a = b := ⟨fun h => by have := congrArg Int32.toInt h; rw [ofNat_toInt ha, ofNat_toInt hb] at this; omega, fun h => by rw [h]⟩
theorem n_shl (a : Nat) {k : Nat} (hk : k < 32) : jshl (Int32.ofNat a) (Int32.ofNat k) = Int32.ofNat (a * 2 ^ k) := by
  apply eq_mod
  have h1 : ((jshl (Int32.ofNat a) (Int32.ofNat k)).toInt - (Int32.ofNat a).toInt * ((2 ^ k : Nat) : Int)) % 4294967296 = 0 := c_ishl (Int32.ofNat a) (Int32.ofNat k) k (n_q hk)
  generalize (jshl (Int32.ofNat a) (Int32.ofNat k)).toInt = w1 at *
  have h2 := toInt_mod (a * 2 ^ k)
  have h3 := toInt_mod a
  obtain ⟨q, hq⟩ := Int.dvd_of_emod_eq_zero h3
  have h4 : (Int32.ofNat a).toInt * ((2 ^ k : Nat) : Int) - ((a * 2 ^ k : Nat) : Int) = 4294967296 * (q * ((2 ^ k : Nat) : Int)) := by
    rw [Int.natCast_mul, ← Int.sub_mul, hq, Int.mul_assoc]
  omega
theorem n_ushr0 (x : Int32) : jushr x 0 = x := by
  apply Int32.toBitVec_inj.mp
  simp [jushr]
theorem n_ushr {a k : Nat} (ha : a < 2147483648) (hk : k < 32) : jushr (Int32.ofNat a) (Int32.ofNat k) = Int32.ofNat (a / 2 ^ k) := by
  rcases Nat.eq_zero_or_pos k with rfl | h0
  · rw [Nat.pow_zero, Nat.div_one]; exact n_ushr0 _
  · have hd : a / 2 ^ k ≤ a := Nat.div_le_self _ _
    refine eq_ofNat (by omega) ?_
    rw [c_iushr (Int32.ofNat a) (Int32.ofNat k) k (n_q hk) h0, ofNat_toInt ha, show ((a : Int) % 4294967296) = a by omega]
    exact (Int.natCast_ediv _ _).symm
theorem n_shr {a k : Nat} (ha : a < 2147483648) (hk : k < 32) : jshr (Int32.ofNat a) (Int32.ofNat k) = Int32.ofNat (a / 2 ^ k) := by
  have hd : a / 2 ^ k ≤ a := Nat.div_le_self _ _
  refine eq_ofNat (by omega) ?_
  rw [c_ishr (Int32.ofNat a) (Int32.ofNat k) k (n_q hk), ofNat_toInt ha]
  exact (Int.natCast_ediv _ _).symm
theorem n_low (a k : Nat) : Int32.ofNat a &&& Int32.ofNat (2 ^ k - 1) = Int32.ofNat (a % 2 ^ k) := by rw [n_and, Nat.and_two_pow_sub_one_eq_mod]
theorem n_orlow (a : Nat) {i t : Nat} (ht : t < 2 ^ i) : Int32.ofNat (2 ^ i * a) ||| Int32.ofNat t = Int32.ofNat (2 ^ i * a + t) := by rw [n_or, Nat.two_pow_add_eq_or_of_lt ht]
theorem n_rem {a k : Nat} (ha : a < 2147483648) (h1 : 0 < k) (hk : k < 2147483648) : Int32.ofNat a % Int32.ofNat k = Int32.ofNat (a % k) := by
  have hm := Nat.mod_lt a h1
  refine eq_ofNat (by omega) ?_
  rw [(c_irem (Int32.ofNat a) (Int32.ofNat k) k (ofNat_toInt hk)).1 (by rw [ofNat_toInt ha]; omega), ofNat_toInt ha]
  exact (Int.natCast_emod _ _).symm
theorem n_nn (x : Int32) (h : 0 ≤ x.toInt) : ∃ u : Nat, u < 2147483648 ∧ x = Int32.ofNat u := by
  have := rng32 x
  exact ⟨x.toInt.toNat, by omega, eq_ofNat (by omega) (by omega)⟩
theorem n_mask31 (x : Int32) : ∃ u : Nat, u < 2147483648 ∧ x &&& 2147483647 = Int32.ofNat u := n_nn _ (c_and x 2147483647 (by decide)).1
theorem n_mask (x : Int32) (k : Nat) (hk : k ≤ 31) {m : Int32} (hm : m.toBitVec.toNat = 2 ^ k - 1) : x &&& m = Int32.ofNat ((x.toInt % (2 ^ k : Nat)).toNat) := by
  have h1 : (0 : Int) < ((2 ^ k : Nat) : Int) := by
    have := Nat.two_pow_pos k
    omega
  have h2 : ((2 ^ k : Nat) : Int) ≤ 2147483648 := by
    have : 2 ^ k ≤ 2147483648 := Nat.pow_le_pow_right (n := 2) (by decide) hk
    omega
  have h3 := Int.emod_nonneg x.toInt (Int.ne_of_gt h1)
  have h4 := Int.emod_lt_of_pos x.toInt h1
  exact eq_ofNat (by omega) (by rw [c_mask x m k hk hm]; omega)
theorem jbyte_idem (x : Int32) : jbyte (jbyte x) = jbyte x := by
  have h1 := c_i2b x
  have h2 := c_i2b (jbyte x)
  exact Int32.toInt_inj.mp (by simp only [jbyte] at *; omega)
theorem jbyte_and (x : Int32) (k : Nat) (hk : k ≤ 8) {m : Int32} (hm : m.toBitVec.toNat = 2 ^ k - 1) : jbyte x &&& m = x &&& m := by
  have h1 := (c_i2b x).1
  apply Int32.toInt_inj.mp
  rw [c_mask _ m k (by omega) hm, c_mask _ m k (by omega) hm]
  have : ∃ c : Nat, 256 = 2 ^ k * c := ⟨2 ^ (8 - k), by rw [← Nat.pow_add, show k + (8 - k) = 8 by omega]⟩
  obtain ⟨c, hc⟩ := this
  obtain ⟨q, hq⟩ := Int.dvd_of_emod_eq_zero h1
  have h2 : (jbyte x).toInt = x.toInt + ((2 ^ k : Nat) : Int) * ((c : Int) * q) := by
    have h3 : (256 : Int) = ((2 ^ k : Nat) : Int) * (c : Int) := by rw [← Int.natCast_mul, ← hc]; rfl
    rw [h3, Int.mul_assoc] at hq
    simp only [jbyte]; omega
  rw [h2, Int.add_mul_emod_self_left]
end OwnNums

def wr1 (U : Nat) (g : Nat → Int32) (A : Nat) : Nat → Int32 := (upd g A (jbyte (jbyte (Int32.ofNat U))))
def wr2 (U : Nat) (g : Nat → Int32) (A : Nat) : Nat → Int32 := (upd (upd g A (jbyte (jbyte ((192 : Int32) ||| (jshr (Int32.ofNat U) (6 : Int32)))))) (A + 1) (jbyte (jbyte ((128 : Int32) ||| ((Int32.ofNat U) &&& (63 : Int32))))))
def wr3 (U : Nat) (g : Nat → Int32) (A : Nat) : Nat → Int32 := (upd (upd (upd g A (jbyte (jbyte ((224 : Int32) ||| (jshr (Int32.ofNat U) (12 : Int32)))))) (A + 1) (jbyte (jbyte ((128 : Int32) ||| ((jshr (Int32.ofNat U) (6 : Int32)) &&& (63 : Int32)))))) (A + 1 + 1) (jbyte (jbyte ((128 : Int32) ||| ((Int32.ofNat U) &&& (63 : Int32))))))
def wr4 (U : Nat) (g : Nat → Int32) (A : Nat) : Nat → Int32 := (upd (upd (upd (upd g A (jbyte (jbyte ((240 : Int32) ||| (jshr (Int32.ofNat U) (18 : Int32)))))) (A + 1) (jbyte (jbyte ((128 : Int32) ||| ((jshr (Int32.ofNat U) (12 : Int32)) &&& (63 : Int32)))))) (A + 1 + 1) (jbyte (jbyte ((128 : Int32) ||| ((jshr (Int32.ofNat U) (6 : Int32)) &&& (63 : Int32)))))) (A + 1 + 1 + 1) (jbyte (jbyte ((128 : Int32) ||| ((Int32.ofNat U) &&& (63 : Int32))))))
def nl (U : Nat) : Nat := if U < 128 then 1 else if U < 2048 then 2 else if U < 65536 then 3 else 4
def wr (U : Nat) (g : Nat → Int32) (A : Nat) : Nat → Int32 := if U < 128 then wr1 U g A else if U < 2048 then wr2 U g A else if U < 65536 then wr3 U g A else wr4 U g A
theorem nl_le (U : Nat) : 1 ≤ nl U ∧ nl U ≤ 4 := by
  unfold nl
  repeat' split
  all_goals omega
theorem wr_out (U : Nat) (g : Nat → Int32) (A I : Nat) (h : ¬ (A ≤ I ∧ I < A + nl U)) : wr U g A I = g I := by
  unfold nl at h
  unfold wr
  repeat' split
  · simp only [*, if_true] at h; rw [wr1, upd_ne _ _ (by omega)]
  · simp only [*, if_true, if_false] at h; rw [wr2, upd_ne _ _ (by omega), upd_ne _ _ (by omega)]
  · simp only [*, if_true, if_false] at h; rw [wr3, upd_ne _ _ (by omega), upd_ne _ _ (by omega), upd_ne _ _ (by omega)]
  · simp only [*, if_true, if_false] at h; rw [wr4, upd_ne _ _ (by omega), upd_ne _ _ (by omega), upd_ne _ _ (by omega), upd_ne _ _ (by omega)]
theorem own_b {a i t : Nat} (ht : t < 2 ^ i) (hl : 2 ^ i * a + t < 256) : jbyte (jbyte (Int32.ofNat (2 ^ i * a) ||| Int32.ofNat t)) &&& 255 = Int32.ofNat (2 ^ i * a + t) := by
  rw [jbyte_idem, jbyte_and _ 8 (by decide) (by decide), n_orlow a ht, show (255 : Int32) = Int32.ofNat (2 ^ 8 - 1) from rfl, n_low, Nat.mod_eq_of_lt hl]
theorem own_c (U k : Nat) (hU : U < 2147483648) (hk : k < 32) : jbyte (jbyte ((128 : Int32) ||| (jshr (Int32.ofNat U) (Int32.ofNat k) &&& (63 : Int32)))) &&& 255 = Int32.ofNat (128 + U / 2 ^ k % 64) := by
  rw [n_shr hU hk, show (63 : Int32) = Int32.ofNat (2 ^ 6 - 1) from rfl, n_low]
  have h1 : U / 2 ^ k % 2 ^ 6 < 2 ^ 6 := Nat.mod_lt _ (by decide)
  exact own_b (a := 2) (i := 6) h1 (by omega)
theorem own_c0 (U : Nat) (hU : U < 2147483648) : jbyte (jbyte ((128 : Int32) ||| (Int32.ofNat U &&& (63 : Int32)))) &&& 255 = Int32.ofNat (128 + U % 64) := by
  rw [show (63 : Int32) = Int32.ofNat (2 ^ 6 - 1) from rfl, n_low]
  have h1 : U % 2 ^ 6 < 2 ^ 6 := Nat.mod_lt _ (by decide)
  exact own_b (a := 2) (i := 6) h1 (by omega)
theorem own_hi {a t m r : Nat} (h : (a + t) &&& m = r) : Int32.ofNat (a + t) &&& Int32.ofNat m = Int32.ofNat r := by rw [n_and, h]
theorem own_192 : ∀ t, t < 64 → (128 + t) &&& 192 = 128 := by decide
theorem own_224 : ∀ t, t < 32 → (192 + t) &&& 224 = 192 := by decide
theorem own_240 : ∀ t, t < 16 → (224 + t) &&& 240 = 224 := by decide
theorem own_248 : ∀ t, t < 8 → (240 + t) &&& 248 = 240 := by decide
theorem own_l (a k : Nat) {t : Nat} (h : a % 2 ^ k = 0) (ht : t < 2 ^ k) : Int32.ofNat (a + t) &&& Int32.ofNat (2 ^ k - 1) = Int32.ofNat t := by rw [n_low, Nat.add_mod, h, Nat.zero_add, Nat.mod_mod, Nat.mod_eq_of_lt ht]
theorem own_kd (x : Int32) (h0 : ¬ x &&& 3 = 0) (h1 : ¬ x &&& 3 = 1) (h2 : ¬ x &&& 3 = 2) : True := trivial
theorem own_at (x : Int32) : ∃ A : Nat, A < 4 ∧ x &&& 3 = Int32.ofNat A := ⟨_, by omega, n_mask x 2 (by decide) (m := 3) (by decide)⟩
theorem own_7f (x : Int32) : ∃ U : Nat, U < 128 ∧ x &&& 127 = Int32.ofNat U := ⟨_, by omega, n_mask x 7 (by decide) (m := 127) (by decide)⟩
theorem own_cp (x : Int32) (a k : Nat) (h1 : 0 < k) (hk : k < 2147483648) : ∃ U : Nat, a ≤ U ∧ U < a + k ∧ Int32.ofNat a + (x &&& 2147483647) % Int32.ofNat k = Int32.ofNat U := by
  obtain ⟨v, hv, ev⟩ := n_mask31 x
  have := Nat.mod_lt v h1
  exact ⟨a + v % k, by omega, by omega, by rw [ev, n_rem hv h1 hk, n_add]⟩
theorem ef_1 (m : MethodId) (cp : Int32) (a : Addr) (at0 : Int32) : entryFrame m #[(.int cp), (.ref a), (.int at0)] 4 = mkF m 0 #[.val (.int cp), .val (.ref a), .val (.int at0), .unset] [] := by first | (simp [entryFrame, mkF, argsToLocals, Value.category]; done) | rfl
theorem pn_1 : plainName "nestrel/json/text/Utf8" = true := by first | (simp [plainName, overriddenIn]; done) | decide +kernel
set_option maxRecDepth 65536 in
set_option maxHeartbeats 40000000 in
theorem rm1 {l : Launch} {Z : State} {a0 : Array Value} {n0 : Nat} {h : Heap} (hw : ∀ d ∈ tables_1, d.before a0 Z = true) (hn : n0 ≤ h.size) (cp : Int32) (a : Addr) (at0 : Int32) (U A : Nat) (g : Nat → Int32) (eU : cp = Int32.ofNat U) (eA : at0 = Int32.ofNat A) (hU : U < 1114112) (hA : A < 4) (B : Ba Z n0 h a .byte 8 (bI g)) :
    Ctr l Z n0 (⟨"nestrel/json/text/Utf8", "write", "(I[BI)I"⟩ : MethodName) prog_210_method_6_code 4 (some .int) ({ frames := 0, cells := 0, slots := 0, locals := 0 } : Room) [] #[(.int cp), (.ref a), (.int at0)] h (fun v h' => v = some (.int (Int32.ofNat (A + nl U))) ∧ Keep h h' [a] ∧ Ba Z n0 h' a .byte 8 (bI (wr U g A))) := by
  refine ctr_of (plainFor_of_name pn_1) hw hn ?_
  intro p e s m below meth c T X
  refine Wp.cast (ef_1 m cp a at0) ?_
  subst eU eA
  refine w_iloadN X D1_0 rfl ?_
  refine w_istoreN X D1_1 (l' := #[.val (.int (Int32.ofNat U)), .val (.ref a), .val (.int (Int32.ofNat A)), .val (.int (Int32.ofNat A))]) rfl ?_
  refine w_iloadN X D1_2 rfl ?_
  refine w_sipush X D1_3 (v := (128 : Int32)) rfl ?_
  refine w_icmpge X D1_6 (fun hc6 => ?_) (fun hc6 => ?_)
  · refine w_iloadN X D1_20 rfl ?_
    refine w_sipush X D1_21 (v := (2048 : Int32)) rfl ?_
    refine w_icmpge X D1_24 (fun hc24 => ?_) (fun hc24 => ?_)
    · refine w_iloadN X D1_60 rfl ?_
      refine w_ldc X D1_61 (hw _ (List.mem_of_getElem? (i := 12) rfl)) ?_
      refine w_icmpge X D1_63 (fun hc63 => ?_) (fun hc63 => ?_)
      · refine w_aloadN X D1_117 rfl rfl ?_
        refine w_iloadN X D1_118 rfl ?_
        refine w_iinc X D1_119 (d := (1 : Int32)) (r := (Int32.ofNat (A + 1))) (l' := #[.val (.int (Int32.ofNat U)), .val (.ref a), .val (.int (Int32.ofNat A)), .val (.int (Int32.ofNat (A + 1)))]) rfl rfl (n_add _ _) rfl ?_
        refine w_sipush X D1_122 (v := (240 : Int32)) rfl ?_
        refine w_iloadN X D1_125 rfl ?_
        refine w_bipush X D1_126 (v := (18 : Int32)) rfl ?_
        refine w_ishr X D1_128 ?_
        refine w_ior X D1_129 ?_
        refine w_i2b X D1_130 ?_
        refine w_bastore X D1_131 B A rfl (by omega) (fun T1 h1 X1 K1 B1 => ?_)
        refine w_aloadN X1 D1_132 rfl rfl ?_
        refine w_iloadN X1 D1_133 rfl ?_
        refine w_iinc X1 D1_134 (d := (1 : Int32)) (r := (Int32.ofNat (A + 1 + 1))) (l' := #[.val (.int (Int32.ofNat U)), .val (.ref a), .val (.int (Int32.ofNat A)), .val (.int (Int32.ofNat (A + 1 + 1)))]) rfl rfl (n_add _ _) rfl ?_
        refine w_sipush X1 D1_137 (v := (128 : Int32)) rfl ?_
        refine w_iloadN X1 D1_140 rfl ?_
        refine w_bipush X1 D1_141 (v := (12 : Int32)) rfl ?_
        refine w_ishr X1 D1_143 ?_
        refine w_bipush X1 D1_144 (v := (63 : Int32)) rfl ?_
        refine w_iand X1 D1_146 ?_
        refine w_ior X1 D1_147 ?_
        refine w_i2b X1 D1_148 ?_
        refine w_bastore X1 D1_149 B1 (A + 1) rfl (by omega) (fun T2 h2 X2 K2 B2 => ?_)
        refine w_aloadN X2 D1_150 rfl rfl ?_
        refine w_iloadN X2 D1_151 rfl ?_
        refine w_iinc X2 D1_152 (d := (1 : Int32)) (r := (Int32.ofNat (A + 1 + 1 + 1))) (l' := #[.val (.int (Int32.ofNat U)), .val (.ref a), .val (.int (Int32.ofNat A)), .val (.int (Int32.ofNat (A + 1 + 1 + 1)))]) rfl rfl (n_add _ _) rfl ?_
        refine w_sipush X2 D1_155 (v := (128 : Int32)) rfl ?_
        refine w_iloadN X2 D1_158 rfl ?_
        refine w_bipush X2 D1_159 (v := (6 : Int32)) rfl ?_
        refine w_ishr X2 D1_161 ?_
        refine w_bipush X2 D1_162 (v := (63 : Int32)) rfl ?_
        refine w_iand X2 D1_164 ?_
        refine w_ior X2 D1_165 ?_
        refine w_i2b X2 D1_166 ?_
        refine w_bastore X2 D1_167 B2 (A + 1 + 1) rfl (by omega) (fun T3 h3 X3 K3 B3 => ?_)
        refine w_aloadN X3 D1_168 rfl rfl ?_
        refine w_iloadN X3 D1_169 rfl ?_
        refine w_iinc X3 D1_170 (d := (1 : Int32)) (r := (Int32.ofNat (A + 1 + 1 + 1 + 1))) (l' := #[.val (.int (Int32.ofNat U)), .val (.ref a), .val (.int (Int32.ofNat A)), .val (.int (Int32.ofNat (A + 1 + 1 + 1 + 1)))]) rfl rfl (n_add _ _) rfl ?_
        refine w_sipush X3 D1_173 (v := (128 : Int32)) rfl ?_
        refine w_iloadN X3 D1_176 rfl ?_
        refine w_bipush X3 D1_177 (v := (63 : Int32)) rfl ?_
        refine w_iand X3 D1_179 ?_
        refine w_ior X3 D1_180 ?_
        refine w_i2b X3 D1_181 ?_
        refine w_bastore X3 D1_182 B3 (A + 1 + 1 + 1) rfl (by omega) (fun T4 h4 X4 K4 B4 => ?_)
        refine w_iloadN X4 D1_183 rfl ?_
        exact w_ireturn X4 D1_184 (by decide) (by decide) (by
                    have f6 : ¬ U < 128 := fun z => hc6 ((ofNat_lt (b := 128) (by omega) (by decide)).mpr z)
                    have f24 : ¬ U < 2048 := fun z => hc24 ((ofNat_lt (b := 2048) (by omega) (by decide)).mpr z)
                    have f63 : ¬ U < 65536 := fun z => hc63 ((ofNat_lt (b := 65536) (by omega) (by decide)).mpr z)
                    refine ⟨?_, (((K1.trans K2 (fun x hx => Or.inl hx)).trans K3 (fun x hx => Or.inl hx)).trans K4 (fun x hx => Or.inl hx)), ?_⟩
                    · rw [nl, if_neg f6, if_neg f24, if_neg f63]
                    · rw [wr, if_neg f6, if_neg f24, if_neg f63]; exact B4)
      · refine w_aloadN X D1_66 rfl rfl ?_
        refine w_iloadN X D1_67 rfl ?_
        refine w_iinc X D1_68 (d := (1 : Int32)) (r := (Int32.ofNat (A + 1))) (l' := #[.val (.int (Int32.ofNat U)), .val (.ref a), .val (.int (Int32.ofNat A)), .val (.int (Int32.ofNat (A + 1)))]) rfl rfl (n_add _ _) rfl ?_
        refine w_sipush X D1_71 (v := (224 : Int32)) rfl ?_
        refine w_iloadN X D1_74 rfl ?_
        refine w_bipush X D1_75 (v := (12 : Int32)) rfl ?_
        refine w_ishr X D1_77 ?_
        refine w_ior X D1_78 ?_
        refine w_i2b X D1_79 ?_
        refine w_bastore X D1_80 B A rfl (by omega) (fun T5 h5 X5 K5 B5 => ?_)
        refine w_aloadN X5 D1_81 rfl rfl ?_
        refine w_iloadN X5 D1_82 rfl ?_
        refine w_iinc X5 D1_83 (d := (1 : Int32)) (r := (Int32.ofNat (A + 1 + 1))) (l' := #[.val (.int (Int32.ofNat U)), .val (.ref a), .val (.int (Int32.ofNat A)), .val (.int (Int32.ofNat (A + 1 + 1)))]) rfl rfl (n_add _ _) rfl ?_
        refine w_sipush X5 D1_86 (v := (128 : Int32)) rfl ?_
        refine w_iloadN X5 D1_89 rfl ?_
        refine w_bipush X5 D1_90 (v := (6 : Int32)) rfl ?_
        refine w_ishr X5 D1_92 ?_
        refine w_bipush X5 D1_93 (v := (63 : Int32)) rfl ?_
        refine w_iand X5 D1_95 ?_
        refine w_ior X5 D1_96 ?_
        refine w_i2b X5 D1_97 ?_
        refine w_bastore X5 D1_98 B5 (A + 1) rfl (by omega) (fun T6 h6 X6 K6 B6 => ?_)
        refine w_aloadN X6 D1_99 rfl rfl ?_
        refine w_iloadN X6 D1_100 rfl ?_
        refine w_iinc X6 D1_101 (d := (1 : Int32)) (r := (Int32.ofNat (A + 1 + 1 + 1))) (l' := #[.val (.int (Int32.ofNat U)), .val (.ref a), .val (.int (Int32.ofNat A)), .val (.int (Int32.ofNat (A + 1 + 1 + 1)))]) rfl rfl (n_add _ _) rfl ?_
        refine w_sipush X6 D1_104 (v := (128 : Int32)) rfl ?_
        refine w_iloadN X6 D1_107 rfl ?_
        refine w_bipush X6 D1_108 (v := (63 : Int32)) rfl ?_
        refine w_iand X6 D1_110 ?_
        refine w_ior X6 D1_111 ?_
        refine w_i2b X6 D1_112 ?_
        refine w_bastore X6 D1_113 B6 (A + 1 + 1) rfl (by omega) (fun T7 h7 X7 K7 B7 => ?_)
        refine w_goto X7 D1_114 ?_
        refine w_iloadN X7 D1_183 rfl ?_
        exact w_ireturn X7 D1_184 (by decide) (by decide) (by
                    have f6 : ¬ U < 128 := fun z => hc6 ((ofNat_lt (b := 128) (by omega) (by decide)).mpr z)
                    have f24 : ¬ U < 2048 := fun z => hc24 ((ofNat_lt (b := 2048) (by omega) (by decide)).mpr z)
                    have f63 : U < 65536 := (ofNat_lt (b := 65536) (by omega) (by decide)).mp hc63
                    refine ⟨?_, ((K5.trans K6 (fun x hx => Or.inl hx)).trans K7 (fun x hx => Or.inl hx)), ?_⟩
                    · rw [nl, if_neg f6, if_neg f24, if_pos f63]
                    · rw [wr, if_neg f6, if_neg f24, if_pos f63]; exact B7)
    · refine w_aloadN X D1_27 rfl rfl ?_
      refine w_iloadN X D1_28 rfl ?_
      refine w_iinc X D1_29 (d := (1 : Int32)) (r := (Int32.ofNat (A + 1))) (l' := #[.val (.int (Int32.ofNat U)), .val (.ref a), .val (.int (Int32.ofNat A)), .val (.int (Int32.ofNat (A + 1)))]) rfl rfl (n_add _ _) rfl ?_
      refine w_sipush X D1_32 (v := (192 : Int32)) rfl ?_
      refine w_iloadN X D1_35 rfl ?_
      refine w_bipush X D1_36 (v := (6 : Int32)) rfl ?_
      refine w_ishr X D1_38 ?_
      refine w_ior X D1_39 ?_
      refine w_i2b X D1_40 ?_
      refine w_bastore X D1_41 B A rfl (by omega) (fun T8 h8 X8 K8 B8 => ?_)
      refine w_aloadN X8 D1_42 rfl rfl ?_
      refine w_iloadN X8 D1_43 rfl ?_
      refine w_iinc X8 D1_44 (d := (1 : Int32)) (r := (Int32.ofNat (A + 1 + 1))) (l' := #[.val (.int (Int32.ofNat U)), .val (.ref a), .val (.int (Int32.ofNat A)), .val (.int (Int32.ofNat (A + 1 + 1)))]) rfl rfl (n_add _ _) rfl ?_
      refine w_sipush X8 D1_47 (v := (128 : Int32)) rfl ?_
      refine w_iloadN X8 D1_50 rfl ?_
      refine w_bipush X8 D1_51 (v := (63 : Int32)) rfl ?_
      refine w_iand X8 D1_53 ?_
      refine w_ior X8 D1_54 ?_
      refine w_i2b X8 D1_55 ?_
      refine w_bastore X8 D1_56 B8 (A + 1) rfl (by omega) (fun T9 h9 X9 K9 B9 => ?_)
      refine w_goto X9 D1_57 ?_
      refine w_iloadN X9 D1_183 rfl ?_
      exact w_ireturn X9 D1_184 (by decide) (by decide) (by
                have f6 : ¬ U < 128 := fun z => hc6 ((ofNat_lt (b := 128) (by omega) (by decide)).mpr z)
                have f24 : U < 2048 := (ofNat_lt (b := 2048) (by omega) (by decide)).mp hc24
                refine ⟨?_, (K8.trans K9 (fun x hx => Or.inl hx)), ?_⟩
                · rw [nl, if_neg f6, if_pos f24]
                · rw [wr, if_neg f6, if_pos f24]; exact B9)
  · refine w_aloadN X D1_9 rfl rfl ?_
    refine w_iloadN X D1_10 rfl ?_
    refine w_iinc X D1_11 (d := (1 : Int32)) (r := (Int32.ofNat (A + 1))) (l' := #[.val (.int (Int32.ofNat U)), .val (.ref a), .val (.int (Int32.ofNat A)), .val (.int (Int32.ofNat (A + 1)))]) rfl rfl (n_add _ _) rfl ?_
    refine w_iloadN X D1_14 rfl ?_
    refine w_i2b X D1_15 ?_
    refine w_bastore X D1_16 B A rfl (by omega) (fun T10 h10 X10 K10 B10 => ?_)
    refine w_goto X10 D1_17 ?_
    refine w_iloadN X10 D1_183 rfl ?_
    exact w_ireturn X10 D1_184 (by decide) (by decide) (by
            have f6 : U < 128 := (ofNat_lt (b := 128) (by omega) (by decide)).mp hc6
            refine ⟨?_, K10, ?_⟩
            · rw [nl, if_pos f6]
            · rw [wr, if_pos f6]; exact B10)
theorem ef_2 (m : MethodId) (a : Addr) (i0 : Int32) (lo : Int32) (hi0 : Int32) (fb : Int32) : entryFrame m #[(.ref a), (.int i0), (.int lo), (.int hi0), (.int fb)] 5 = mkF m 0 #[.val (.ref a), .val (.int i0), .val (.int lo), .val (.int hi0), .val (.int fb)] [] := by first | (simp [entryFrame, mkF, argsToLocals, Value.category]; done) | rfl
theorem pn_2 : plainName "nestrel/json/text/Utf8WritePinLaw" = true := by first | (simp [plainName, overriddenIn]; done) | decide +kernel
set_option maxRecDepth 65536 in
set_option maxHeartbeats 40000000 in
theorem rm2 {l : Launch} {Z : State} {a0 : Array Value} {n0 : Nat} {h : Heap} (hw : ∀ d ∈ tables_1, d.before a0 Z = true) (hn : n0 ≤ h.size) (a : Addr) (i0 : Int32) (lo : Int32) (hi0 : Int32) (fb : Int32) (I A E : Nat) (g : Nat → Int32) (eI : i0 = Int32.ofNat I) (eA : lo = Int32.ofNat A) (eE : hi0 = Int32.ofNat E) (hI : I < 8) (hA : A < 8) (hE : E < 1000) (hg : ¬ (A ≤ I ∧ I < E) → g I = fb) (B : Ba Z n0 h a .byte 8 (bI g)) :
    Ctr l Z n0 (⟨"nestrel/json/text/Utf8WritePinLaw", "untouched", "([BIIIB)Z"⟩ : MethodName) method_2_code 5 (some .boolean) ({ frames := 0, cells := 0, slots := 0, locals := 0 } : Room) [] #[(.ref a), (.int i0), (.int lo), (.int hi0), (.int fb)] h (fun v h' => v = some (.int 1) ∧ h = h') := by
  refine ctr_of (plainFor_of_name pn_2) hw hn ?_
  intro p e s m below meth c T X
  refine Wp.cast (ef_2 m a i0 lo hi0 fb) ?_
  subst eI eA eE
  refine w_iloadN X D2_0 rfl ?_
  refine w_iloadN X D2_1 rfl ?_
  refine w_icmplt X D2_2 (fun hc2 => ?_) (fun hc2 => ?_)
  · refine w_aloadN X D2_10 rfl rfl ?_
    refine w_iloadN X D2_11 rfl ?_
    refine w_baload X D2_12 B I rfl (by omega) ?_
    refine w_iload X D2_13 rfl ?_
    refine w_icmpne X D2_15 (fun hc15 => by exact absurd (hg (by first | (have z1 := (ofNat_lt (by omega) (by omega)).mp hc2; omega) | (have z2 : ¬ I < E := fun z => hc7 ((ofNat_lt (by omega) (by omega)).mpr z); omega))) hc15) (fun hc15 => ?_)
    refine w_iconst X D2_18 (v := (1 : Int32)) rfl ?_
    refine w_goto X D2_19 ?_
    exact w_zreturn X D2_23 (by decide) (by decide) (⟨rfl, rfl⟩)
  · refine w_iloadN X D2_5 rfl ?_
    refine w_iloadN X D2_6 rfl ?_
    refine w_icmplt X D2_7 (fun hc7 => ?_) (fun hc7 => ?_)
    · refine w_iconst X D2_18 (v := (1 : Int32)) rfl ?_
      refine w_goto X D2_19 ?_
      exact w_zreturn X D2_23 (by decide) (by decide) (⟨rfl, rfl⟩)
    · refine w_aloadN X D2_10 rfl rfl ?_
      refine w_iloadN X D2_11 rfl ?_
      refine w_baload X D2_12 B I rfl (by omega) ?_
      refine w_iload X D2_13 rfl ?_
      refine w_icmpne X D2_15 (fun hc15 => by exact absurd (hg (by first | (have z1 := (ofNat_lt (by omega) (by omega)).mp hc2; omega) | (have z2 : ¬ I < E := fun z => hc7 ((ofNat_lt (by omega) (by omega)).mpr z); omega))) hc15) (fun hc15 => ?_)
      refine w_iconst X D2_18 (v := (1 : Int32)) rfl ?_
      refine w_goto X D2_19 ?_
      exact w_zreturn X D2_23 (by decide) (by decide) (⟨rfl, rfl⟩)
set_option maxRecDepth 65536 in
set_option maxHeartbeats 40000000 in
theorem law2 {Z : State} {a0 : Array Value} {n0 : Nat} {p : Program} {l : Launch} {e : Env} {s : State} {m : MethodId} {args : Array Value} {below : List Frame} {meth : Method} {c : Code} {T : State} {h : Heap}  (hw : ∀ d ∈ tables_1, d.before a0 Z = true) (X : Pos Z a0 n0 p l e room_1 s m args below meth c code maxLocals ret x T h 0 0) (a b c0 d kd r : Int32) (U : Nat) (hU : U < 1114112) : Wp n0 p e room_1 s below (fun v _ => v = some (.int 1)) T (mkF m 88 #[.val (.int a), .val (.int b), .val (.int c0), .val (.int d), .val (.int kd), .val (.int r), .val (.int (Int32.ofNat U)), .val (.int (Int32.ofNat (nl U))), .unset, .unset, .unset, .unset, .unset, .unset, .unset, .unset, .unset, .unset] []) := by
  refine w_iloadN X D0_88 rfl ?_
  refine w_iconst X D0_89 (v := (3 : Int32)) rfl ?_
  refine w_iand X D0_90 ?_
  refine w_istoreE X D0_91 (l' := fun z_ => #[.val (.int a), .val (.int b), .val (.int c0), .val (.int d), .val (.int kd), .val (.int r), .val (.int (Int32.ofNat U)), .val (.int (Int32.ofNat (nl U))), .val (.int z_), .unset, .unset, .unset, .unset, .unset, .unset, .unset, .unset, .unset]) (fun _ => rfl) (fun at1 e_at1 => ?_)
  obtain ⟨A, hA, eA⟩ := own_at c0
  rw [← e_at1] at eA
  subst eA
  have hnl := nl_le U
  refine w_iloadN X D0_93 rfl ?_
  refine w_i2b X D0_94 ?_
  refine w_istoreE X D0_95 (l' := fun z_ => #[.val (.int a), .val (.int b), .val (.int c0), .val (.int d), .val (.int kd), .val (.int r), .val (.int (Int32.ofNat U)), .val (.int (Int32.ofNat (nl U))), .val (.int (Int32.ofNat A)), .val (.int z_), .unset, .unset, .unset, .unset, .unset, .unset, .unset, .unset]) (fun _ => rfl) (fun f e_f => ?_)
  refine w_bipush X D0_97 (v := (8 : Int32)) rfl ?_
  refine w_newB X D0_99 (hw _ (List.mem_of_getElem? (i := 1) rfl)) 8 8 rfl (Nat.le_of_ble_eq_true rfl) (by decide) (Nat.le_of_ble_eq_true rfl) (Nat.le_of_ble_eq_true rfl) (fun T1 h1 a1 X1 g1 E1 B1 => ?_)
  refine w_dup X1 D0_101 rfl ?_
  refine w_iconst X1 D0_102 (v := (0 : Int32)) rfl ?_
  refine w_iload X1 D0_103 rfl ?_
  refine w_bastore X1 D0_105 B1 0 rfl (by decide) (fun T2 h2 X2 K2 B2 => ?_)
  refine w_dup X2 D0_106 rfl ?_
  refine w_iconst X2 D0_107 (v := (1 : Int32)) rfl ?_
  refine w_iload X2 D0_108 rfl ?_
  refine w_bastore X2 D0_110 B2 1 rfl (by decide) (fun T3 h3 X3 K3 B3 => ?_)
  refine w_dup X3 D0_111 rfl ?_
  refine w_iconst X3 D0_112 (v := (2 : Int32)) rfl ?_
  refine w_iload X3 D0_113 rfl ?_
  refine w_bastore X3 D0_115 B3 2 rfl (by decide) (fun T4 h4 X4 K4 B4 => ?_)
  refine w_dup X4 D0_116 rfl ?_
  refine w_iconst X4 D0_117 (v := (3 : Int32)) rfl ?_
  refine w_iload X4 D0_118 rfl ?_
  refine w_bastore X4 D0_120 B4 3 rfl (by decide) (fun T5 h5 X5 K5 B5 => ?_)
  refine w_dup X5 D0_121 rfl ?_
  refine w_iconst X5 D0_122 (v := (4 : Int32)) rfl ?_
  refine w_iload X5 D0_123 rfl ?_
  refine w_bastore X5 D0_125 B5 4 rfl (by decide) (fun T6 h6 X6 K6 B6 => ?_)
  refine w_dup X6 D0_126 rfl ?_
  refine w_iconst X6 D0_127 (v := (5 : Int32)) rfl ?_
  refine w_iload X6 D0_128 rfl ?_
  refine w_bastore X6 D0_130 B6 5 rfl (by decide) (fun T7 h7 X7 K7 B7 => ?_)
  refine w_dup X7 D0_131 rfl ?_
  refine w_bipush X7 D0_132 (v := (6 : Int32)) rfl ?_
  refine w_iload X7 D0_134 rfl ?_
  refine w_bastore X7 D0_136 B7 6 rfl (by decide) (fun T8 h8 X8 K8 B8 => ?_)
  refine w_dup X8 D0_137 rfl ?_
  refine w_bipush X8 D0_138 (v := (7 : Int32)) rfl ?_
  refine w_iload X8 D0_140 rfl ?_
  refine w_bastore X8 D0_142 B8 7 rfl (by decide) (fun T9 h9 X9 K9 B9 => ?_)
  have hf : jbyte f = f := by rw [e_f]; exact jbyte_idem d
  have Bg : Ba Z n0 h9 a1 .byte 8 (bI (fun _ => f)) := B9.congr (fun i hi => by
    have hc : i = 0 ∨ i = 1 ∨ i = 2 ∨ i = 3 ∨ i = 4 ∨ i = 5 ∨ i = 6 ∨ i = 7 := by omega
    rcases hc with rfl | rfl | rfl | rfl | rfl | rfl | rfl | rfl <;> exact congrArg Value.int hf)
  refine w_astore X9 D0_143 (l' := #[.val (.int a), .val (.int b), .val (.int c0), .val (.int d), .val (.int kd), .val (.int r), .val (.int (Int32.ofNat U)), .val (.int (Int32.ofNat (nl U))), .val (.int (Int32.ofNat A)), .val (.int f), .val (.ref a1), .unset, .unset, .unset, .unset, .unset, .unset, .unset]) rfl rfl ?_
  refine w_iload X9 D0_145 rfl ?_
  refine w_aload X9 D0_147 rfl rfl ?_
  refine w_iload X9 D0_149 rfl ?_
  refine w_static X9 D0_151 (rm1 hw X9.sz _ a1 _ U A _ rfl rfl hU hA Bg) (hw _ (List.mem_of_getElem? (i := 2) rfl)) (hw _ (List.mem_of_getElem? (i := 3) rfl)) (hw _ (List.mem_of_getElem? (i := 4) rfl)) (hw _ (List.mem_of_getElem? (i := 5) rfl)) (by decide) pd_0 rfl (S := []) rfl rfl (Nat.le_of_ble_eq_true rfl) (Nat.le_of_ble_eq_true rfl) (Nat.le_of_ble_eq_true rfl) (Nat.le_of_ble_eq_true rfl) (fun v10 T10 h10 X10 q10 => ?_)
  obtain ⟨rfl, Kp, Bp⟩ := q10
  have hg : ∀ I, ¬ (A ≤ I ∧ I < A + nl U) → wr U (fun _ => f) A I = f := fun I z => wr_out U _ A I z
  show Wp _ _ _ _ _ _ _ _ (mkF m 154 #[.val (.int a), .val (.int b), .val (.int c0), .val (.int d), .val (.int kd), .val (.int r), .val (.int (Int32.ofNat U)), .val (.int (Int32.ofNat (nl U))), .val (.int (Int32.ofNat A)), .val (.int f), .val (.ref a1), .unset, .unset, .unset, .unset, .unset, .unset, .unset] [(.int (Int32.ofNat (A + nl U)))])
  refine w_istore X10 D0_154 (l' := #[.val (.int a), .val (.int b), .val (.int c0), .val (.int d), .val (.int kd), .val (.int r), .val (.int (Int32.ofNat U)), .val (.int (Int32.ofNat (nl U))), .val (.int (Int32.ofNat A)), .val (.int f), .val (.ref a1), .val (.int (Int32.ofNat (A + nl U))), .unset, .unset, .unset, .unset, .unset, .unset]) rfl ?_
  refine w_iload X10 D0_156 rfl ?_
  refine w_iload X10 D0_158 rfl ?_
  refine w_iload X10 D0_160 rfl ?_
  refine w_iadd X10 D0_162 ?_
  refine w_icmpeq X10 D0_163 (fun hc163 => ?_) (fun hc163 => by exact absurd (n_add _ _).symm hc163)
  refine w_iload X10 D0_168 rfl ?_
  refine w_iload X10 D0_170 rfl ?_
  refine w_iadd X10 D0_172 ?_
  rw [n_add]
  refine w_istore X10 D0_173 (l' := #[.val (.int a), .val (.int b), .val (.int c0), .val (.int d), .val (.int kd), .val (.int r), .val (.int (Int32.ofNat U)), .val (.int (Int32.ofNat (nl U))), .val (.int (Int32.ofNat A)), .val (.int f), .val (.ref a1), .val (.int (Int32.ofNat (A + nl U))), .val (.int (Int32.ofNat (A + nl U))), .unset, .unset, .unset, .unset, .unset]) rfl ?_
  refine w_aload X10 D0_175 rfl rfl ?_
  refine w_iconst X10 D0_177 (v := (0 : Int32)) rfl ?_
  refine w_iload X10 D0_178 rfl ?_
  refine w_iload X10 D0_180 rfl ?_
  refine w_iload X10 D0_182 rfl ?_
  refine w_static X10 D0_184 (rm2 hw X10.sz a1 _ _ _ f 0 A (A + nl U) _ rfl rfl rfl (by decide) (by omega) (by omega) (hg 0) Bp) (hw _ (List.mem_of_getElem? (i := 6) rfl)) (hw _ (List.mem_of_getElem? (i := 7) rfl)) (hw _ (List.mem_of_getElem? (i := 8) rfl)) (hw _ (List.mem_of_getElem? (i := 9) rfl)) (by decide) pd_1 rfl (S := []) rfl rfl (Nat.le_of_ble_eq_true rfl) (Nat.le_of_ble_eq_true rfl) (Nat.le_of_ble_eq_true rfl) (Nat.le_of_ble_eq_true rfl) (fun v11 T11 h11 X11 q11 => ?_)
  obtain ⟨rfl, rfl⟩ := q11
  show Wp _ _ _ _ _ _ _ _ (mkF m 187 #[.val (.int a), .val (.int b), .val (.int c0), .val (.int d), .val (.int kd), .val (.int r), .val (.int (Int32.ofNat U)), .val (.int (Int32.ofNat (nl U))), .val (.int (Int32.ofNat A)), .val (.int f), .val (.ref a1), .val (.int (Int32.ofNat (A + nl U))), .val (.int (Int32.ofNat (A + nl U))), .unset, .unset, .unset, .unset, .unset] [(.int (1 : Int32))])
  refine w_ifeq X11 D0_187 (fun hc187 => by exact absurd hc187 (by decide)) (fun hc187 => ?_)
  refine w_aload X11 D0_190 rfl rfl ?_
  refine w_iconst X11 D0_192 (v := (1 : Int32)) rfl ?_
  refine w_iload X11 D0_193 rfl ?_
  refine w_iload X11 D0_195 rfl ?_
  refine w_iload X11 D0_197 rfl ?_
  refine w_static X11 D0_199 (rm2 hw X11.sz a1 _ _ _ f 1 A (A + nl U) _ rfl rfl rfl (by decide) (by omega) (by omega) (hg 1) Bp) (hw _ (List.mem_of_getElem? (i := 6) rfl)) (hw _ (List.mem_of_getElem? (i := 7) rfl)) (hw _ (List.mem_of_getElem? (i := 8) rfl)) (hw _ (List.mem_of_getElem? (i := 9) rfl)) (by decide) pd_1 rfl (S := []) rfl rfl (Nat.le_of_ble_eq_true rfl) (Nat.le_of_ble_eq_true rfl) (Nat.le_of_ble_eq_true rfl) (Nat.le_of_ble_eq_true rfl) (fun v12 T12 h12 X12 q12 => ?_)
  obtain ⟨rfl, rfl⟩ := q12
  show Wp _ _ _ _ _ _ _ _ (mkF m 202 #[.val (.int a), .val (.int b), .val (.int c0), .val (.int d), .val (.int kd), .val (.int r), .val (.int (Int32.ofNat U)), .val (.int (Int32.ofNat (nl U))), .val (.int (Int32.ofNat A)), .val (.int f), .val (.ref a1), .val (.int (Int32.ofNat (A + nl U))), .val (.int (Int32.ofNat (A + nl U))), .unset, .unset, .unset, .unset, .unset] [(.int (1 : Int32))])
  refine w_ifeq X12 D0_202 (fun hc202 => by exact absurd hc202 (by decide)) (fun hc202 => ?_)
  refine w_aload X12 D0_205 rfl rfl ?_
  refine w_iconst X12 D0_207 (v := (2 : Int32)) rfl ?_
  refine w_iload X12 D0_208 rfl ?_
  refine w_iload X12 D0_210 rfl ?_
  refine w_iload X12 D0_212 rfl ?_
  refine w_static X12 D0_214 (rm2 hw X12.sz a1 _ _ _ f 2 A (A + nl U) _ rfl rfl rfl (by decide) (by omega) (by omega) (hg 2) Bp) (hw _ (List.mem_of_getElem? (i := 6) rfl)) (hw _ (List.mem_of_getElem? (i := 7) rfl)) (hw _ (List.mem_of_getElem? (i := 8) rfl)) (hw _ (List.mem_of_getElem? (i := 9) rfl)) (by decide) pd_1 rfl (S := []) rfl rfl (Nat.le_of_ble_eq_true rfl) (Nat.le_of_ble_eq_true rfl) (Nat.le_of_ble_eq_true rfl) (Nat.le_of_ble_eq_true rfl) (fun v13 T13 h13 X13 q13 => ?_)
  obtain ⟨rfl, rfl⟩ := q13
  show Wp _ _ _ _ _ _ _ _ (mkF m 217 #[.val (.int a), .val (.int b), .val (.int c0), .val (.int d), .val (.int kd), .val (.int r), .val (.int (Int32.ofNat U)), .val (.int (Int32.ofNat (nl U))), .val (.int (Int32.ofNat A)), .val (.int f), .val (.ref a1), .val (.int (Int32.ofNat (A + nl U))), .val (.int (Int32.ofNat (A + nl U))), .unset, .unset, .unset, .unset, .unset] [(.int (1 : Int32))])
  refine w_ifeq X13 D0_217 (fun hc217 => by exact absurd hc217 (by decide)) (fun hc217 => ?_)
  refine w_aload X13 D0_220 rfl rfl ?_
  refine w_iconst X13 D0_222 (v := (3 : Int32)) rfl ?_
  refine w_iload X13 D0_223 rfl ?_
  refine w_iload X13 D0_225 rfl ?_
  refine w_iload X13 D0_227 rfl ?_
  refine w_static X13 D0_229 (rm2 hw X13.sz a1 _ _ _ f 3 A (A + nl U) _ rfl rfl rfl (by decide) (by omega) (by omega) (hg 3) Bp) (hw _ (List.mem_of_getElem? (i := 6) rfl)) (hw _ (List.mem_of_getElem? (i := 7) rfl)) (hw _ (List.mem_of_getElem? (i := 8) rfl)) (hw _ (List.mem_of_getElem? (i := 9) rfl)) (by decide) pd_1 rfl (S := []) rfl rfl (Nat.le_of_ble_eq_true rfl) (Nat.le_of_ble_eq_true rfl) (Nat.le_of_ble_eq_true rfl) (Nat.le_of_ble_eq_true rfl) (fun v14 T14 h14 X14 q14 => ?_)
  obtain ⟨rfl, rfl⟩ := q14
  show Wp _ _ _ _ _ _ _ _ (mkF m 232 #[.val (.int a), .val (.int b), .val (.int c0), .val (.int d), .val (.int kd), .val (.int r), .val (.int (Int32.ofNat U)), .val (.int (Int32.ofNat (nl U))), .val (.int (Int32.ofNat A)), .val (.int f), .val (.ref a1), .val (.int (Int32.ofNat (A + nl U))), .val (.int (Int32.ofNat (A + nl U))), .unset, .unset, .unset, .unset, .unset] [(.int (1 : Int32))])
  refine w_ifeq X14 D0_232 (fun hc232 => by exact absurd hc232 (by decide)) (fun hc232 => ?_)
  refine w_aload X14 D0_235 rfl rfl ?_
  refine w_iconst X14 D0_237 (v := (4 : Int32)) rfl ?_
  refine w_iload X14 D0_238 rfl ?_
  refine w_iload X14 D0_240 rfl ?_
  refine w_iload X14 D0_242 rfl ?_
  refine w_static X14 D0_244 (rm2 hw X14.sz a1 _ _ _ f 4 A (A + nl U) _ rfl rfl rfl (by decide) (by omega) (by omega) (hg 4) Bp) (hw _ (List.mem_of_getElem? (i := 6) rfl)) (hw _ (List.mem_of_getElem? (i := 7) rfl)) (hw _ (List.mem_of_getElem? (i := 8) rfl)) (hw _ (List.mem_of_getElem? (i := 9) rfl)) (by decide) pd_1 rfl (S := []) rfl rfl (Nat.le_of_ble_eq_true rfl) (Nat.le_of_ble_eq_true rfl) (Nat.le_of_ble_eq_true rfl) (Nat.le_of_ble_eq_true rfl) (fun v15 T15 h15 X15 q15 => ?_)
  obtain ⟨rfl, rfl⟩ := q15
  show Wp _ _ _ _ _ _ _ _ (mkF m 247 #[.val (.int a), .val (.int b), .val (.int c0), .val (.int d), .val (.int kd), .val (.int r), .val (.int (Int32.ofNat U)), .val (.int (Int32.ofNat (nl U))), .val (.int (Int32.ofNat A)), .val (.int f), .val (.ref a1), .val (.int (Int32.ofNat (A + nl U))), .val (.int (Int32.ofNat (A + nl U))), .unset, .unset, .unset, .unset, .unset] [(.int (1 : Int32))])
  refine w_ifeq X15 D0_247 (fun hc247 => by exact absurd hc247 (by decide)) (fun hc247 => ?_)
  refine w_aload X15 D0_250 rfl rfl ?_
  refine w_iconst X15 D0_252 (v := (5 : Int32)) rfl ?_
  refine w_iload X15 D0_253 rfl ?_
  refine w_iload X15 D0_255 rfl ?_
  refine w_iload X15 D0_257 rfl ?_
  refine w_static X15 D0_259 (rm2 hw X15.sz a1 _ _ _ f 5 A (A + nl U) _ rfl rfl rfl (by decide) (by omega) (by omega) (hg 5) Bp) (hw _ (List.mem_of_getElem? (i := 6) rfl)) (hw _ (List.mem_of_getElem? (i := 7) rfl)) (hw _ (List.mem_of_getElem? (i := 8) rfl)) (hw _ (List.mem_of_getElem? (i := 9) rfl)) (by decide) pd_1 rfl (S := []) rfl rfl (Nat.le_of_ble_eq_true rfl) (Nat.le_of_ble_eq_true rfl) (Nat.le_of_ble_eq_true rfl) (Nat.le_of_ble_eq_true rfl) (fun v16 T16 h16 X16 q16 => ?_)
  obtain ⟨rfl, rfl⟩ := q16
  show Wp _ _ _ _ _ _ _ _ (mkF m 262 #[.val (.int a), .val (.int b), .val (.int c0), .val (.int d), .val (.int kd), .val (.int r), .val (.int (Int32.ofNat U)), .val (.int (Int32.ofNat (nl U))), .val (.int (Int32.ofNat A)), .val (.int f), .val (.ref a1), .val (.int (Int32.ofNat (A + nl U))), .val (.int (Int32.ofNat (A + nl U))), .unset, .unset, .unset, .unset, .unset] [(.int (1 : Int32))])
  refine w_ifeq X16 D0_262 (fun hc262 => by exact absurd hc262 (by decide)) (fun hc262 => ?_)
  refine w_aload X16 D0_265 rfl rfl ?_
  refine w_bipush X16 D0_267 (v := (6 : Int32)) rfl ?_
  refine w_iload X16 D0_269 rfl ?_
  refine w_iload X16 D0_271 rfl ?_
  refine w_iload X16 D0_273 rfl ?_
  refine w_static X16 D0_275 (rm2 hw X16.sz a1 _ _ _ f 6 A (A + nl U) _ rfl rfl rfl (by decide) (by omega) (by omega) (hg 6) Bp) (hw _ (List.mem_of_getElem? (i := 6) rfl)) (hw _ (List.mem_of_getElem? (i := 7) rfl)) (hw _ (List.mem_of_getElem? (i := 8) rfl)) (hw _ (List.mem_of_getElem? (i := 9) rfl)) (by decide) pd_1 rfl (S := []) rfl rfl (Nat.le_of_ble_eq_true rfl) (Nat.le_of_ble_eq_true rfl) (Nat.le_of_ble_eq_true rfl) (Nat.le_of_ble_eq_true rfl) (fun v17 T17 h17 X17 q17 => ?_)
  obtain ⟨rfl, rfl⟩ := q17
  show Wp _ _ _ _ _ _ _ _ (mkF m 278 #[.val (.int a), .val (.int b), .val (.int c0), .val (.int d), .val (.int kd), .val (.int r), .val (.int (Int32.ofNat U)), .val (.int (Int32.ofNat (nl U))), .val (.int (Int32.ofNat A)), .val (.int f), .val (.ref a1), .val (.int (Int32.ofNat (A + nl U))), .val (.int (Int32.ofNat (A + nl U))), .unset, .unset, .unset, .unset, .unset] [(.int (1 : Int32))])
  refine w_ifeq X17 D0_278 (fun hc278 => by exact absurd hc278 (by decide)) (fun hc278 => ?_)
  refine w_aload X17 D0_281 rfl rfl ?_
  refine w_bipush X17 D0_283 (v := (7 : Int32)) rfl ?_
  refine w_iload X17 D0_285 rfl ?_
  refine w_iload X17 D0_287 rfl ?_
  refine w_iload X17 D0_289 rfl ?_
  refine w_static X17 D0_291 (rm2 hw X17.sz a1 _ _ _ f 7 A (A + nl U) _ rfl rfl rfl (by decide) (by omega) (by omega) (hg 7) Bp) (hw _ (List.mem_of_getElem? (i := 6) rfl)) (hw _ (List.mem_of_getElem? (i := 7) rfl)) (hw _ (List.mem_of_getElem? (i := 8) rfl)) (hw _ (List.mem_of_getElem? (i := 9) rfl)) (by decide) pd_1 rfl (S := []) rfl rfl (Nat.le_of_ble_eq_true rfl) (Nat.le_of_ble_eq_true rfl) (Nat.le_of_ble_eq_true rfl) (Nat.le_of_ble_eq_true rfl) (fun v18 T18 h18 X18 q18 => ?_)
  obtain ⟨rfl, rfl⟩ := q18
  show Wp _ _ _ _ _ _ _ _ (mkF m 294 #[.val (.int a), .val (.int b), .val (.int c0), .val (.int d), .val (.int kd), .val (.int r), .val (.int (Int32.ofNat U)), .val (.int (Int32.ofNat (nl U))), .val (.int (Int32.ofNat A)), .val (.int f), .val (.ref a1), .val (.int (Int32.ofNat (A + nl U))), .val (.int (Int32.ofNat (A + nl U))), .unset, .unset, .unset, .unset, .unset] [(.int (1 : Int32))])
  refine w_ifeq X18 D0_294 (fun hc294 => by exact absurd hc294 (by decide)) (fun hc294 => ?_)
  refine w_iconst X18 D0_297 (v := (1 : Int32)) rfl ?_
  refine w_goto X18 D0_298 ?_
  refine w_istore X18 D0_302 (l' := #[.val (.int a), .val (.int b), .val (.int c0), .val (.int d), .val (.int kd), .val (.int r), .val (.int (Int32.ofNat U)), .val (.int (Int32.ofNat (nl U))), .val (.int (Int32.ofNat A)), .val (.int f), .val (.ref a1), .val (.int (Int32.ofNat (A + nl U))), .val (.int (Int32.ofNat (A + nl U))), .val (.int (1 : Int32)), .unset, .unset, .unset, .unset]) rfl ?_
  refine w_iload X18 D0_304 rfl ?_
  refine w_ifne X18 D0_306 (fun hc306 => ?_) (fun hc306 => by exact absurd hc306 (by decide))
  refine w_aload X18 D0_311 rfl rfl ?_
  refine w_iload X18 D0_313 rfl ?_
  refine w_baload X18 D0_315 Bp A rfl (by omega) ?_
  refine w_sipush X18 D0_316 (v := (255 : Int32)) rfl ?_
  refine w_iand X18 D0_319 ?_
  refine w_istoreE X18 D0_320 (l' := fun z_ => #[.val (.int a), .val (.int b), .val (.int c0), .val (.int d), .val (.int kd), .val (.int r), .val (.int (Int32.ofNat U)), .val (.int (Int32.ofNat (nl U))), .val (.int (Int32.ofNat A)), .val (.int f), .val (.ref a1), .val (.int (Int32.ofNat (A + nl U))), .val (.int (Int32.ofNat (A + nl U))), .val (.int (1 : Int32)), .val (.int z_), .unset, .unset, .unset]) (fun _ => rfl) (fun b0 e_b0 => ?_)
  refine w_aload X18 D0_322 rfl rfl ?_
  refine w_iload X18 D0_324 rfl ?_
  refine w_iconst X18 D0_326 (v := (1 : Int32)) rfl ?_
  refine w_iadd X18 D0_327 ?_
  refine w_baload X18 D0_328 Bp (A + 1) (n_add A 1) (by omega) ?_
  refine w_sipush X18 D0_329 (v := (255 : Int32)) rfl ?_
  refine w_iand X18 D0_332 ?_
  refine w_istoreE X18 D0_333 (l' := fun z_ => #[.val (.int a), .val (.int b), .val (.int c0), .val (.int d), .val (.int kd), .val (.int r), .val (.int (Int32.ofNat U)), .val (.int (Int32.ofNat (nl U))), .val (.int (Int32.ofNat A)), .val (.int f), .val (.ref a1), .val (.int (Int32.ofNat (A + nl U))), .val (.int (Int32.ofNat (A + nl U))), .val (.int (1 : Int32)), .val (.int b0), .val (.int z_), .unset, .unset]) (fun _ => rfl) (fun b1 e_b1 => ?_)
  refine w_aload X18 D0_335 rfl rfl ?_
  refine w_iload X18 D0_337 rfl ?_
  refine w_iconst X18 D0_339 (v := (2 : Int32)) rfl ?_
  refine w_iadd X18 D0_340 ?_
  refine w_baload X18 D0_341 Bp (A + 2) (n_add A 2) (by omega) ?_
  refine w_sipush X18 D0_342 (v := (255 : Int32)) rfl ?_
  refine w_iand X18 D0_345 ?_
  refine w_istoreE X18 D0_346 (l' := fun z_ => #[.val (.int a), .val (.int b), .val (.int c0), .val (.int d), .val (.int kd), .val (.int r), .val (.int (Int32.ofNat U)), .val (.int (Int32.ofNat (nl U))), .val (.int (Int32.ofNat A)), .val (.int f), .val (.ref a1), .val (.int (Int32.ofNat (A + nl U))), .val (.int (Int32.ofNat (A + nl U))), .val (.int (1 : Int32)), .val (.int b0), .val (.int b1), .val (.int z_), .unset]) (fun _ => rfl) (fun b2 e_b2 => ?_)
  refine w_aload X18 D0_348 rfl rfl ?_
  refine w_iload X18 D0_350 rfl ?_
  refine w_iconst X18 D0_352 (v := (3 : Int32)) rfl ?_
  refine w_iadd X18 D0_353 ?_
  refine w_baload X18 D0_354 Bp (A + 3) (n_add A 3) (by omega) ?_
  refine w_sipush X18 D0_355 (v := (255 : Int32)) rfl ?_
  refine w_iand X18 D0_358 ?_
  refine w_istoreE X18 D0_359 (l' := fun z_ => #[.val (.int a), .val (.int b), .val (.int c0), .val (.int d), .val (.int kd), .val (.int r), .val (.int (Int32.ofNat U)), .val (.int (Int32.ofNat (nl U))), .val (.int (Int32.ofNat A)), .val (.int f), .val (.ref a1), .val (.int (Int32.ofNat (A + nl U))), .val (.int (Int32.ofNat (A + nl U))), .val (.int (1 : Int32)), .val (.int b0), .val (.int b1), .val (.int b2), .val (.int z_)]) (fun _ => rfl) (fun b3 e_b3 => ?_)
  have hcl : U < 128 ∨ (128 ≤ U ∧ U < 2048) ∨ (2048 ≤ U ∧ U < 65536) ∨ (65536 ≤ U) := by omega
  rcases hcl with c1 | ⟨c1, c2⟩ | ⟨c1, c2⟩ | c1
  · have en : nl U = 1 := by rw [nl, if_pos c1]
    have ew : wr U (fun _ => f) A = wr1 U (fun _ => f) A := by rw [wr, if_pos c1]
    rw [en]
    rw [ew] at e_b0 e_b1 e_b2 e_b3
    have hb0 : b0 = (Int32.ofNat U) := by
      rw [e_b0, wr1, upd_at]
      rw [jbyte_idem, jbyte_and _ 8 (by decide) (by decide)]; exact (n_low U 8).trans (by rw [Nat.mod_eq_of_lt (by omega)])
    subst hb0
    refine w_iload X18 D0_361 rfl ?_
    refine w_iconst X18 D0_363 (v := (1 : Int32)) rfl ?_
    refine w_icmpne X18 D0_364 (fun hc364 => by exact absurd rfl hc364) (fun hc364 => ?_)
    refine w_iload X18 D0_367 rfl ?_
    refine w_iload X18 D0_369 rfl ?_
    refine w_icmpne X18 D0_371 (fun hc371 => by exact absurd rfl hc371) (fun hc371 => ?_)
    refine w_iconst X18 D0_374 (v := (1 : Int32)) rfl ?_
    refine w_goto X18 D0_375 ?_
    exact w_zreturn X18 D0_379 (by decide) (by decide) (rfl)
  · have en : nl U = 2 := by rw [nl, if_neg (by omega), if_pos c2]
    have ew : wr U (fun _ => f) A = wr2 U (fun _ => f) A := by rw [wr, if_neg (by omega), if_pos c2]
    rw [en]
    rw [ew] at e_b0 e_b1 e_b2 e_b3
    have hb0 : b0 = (Int32.ofNat (192 + U / 64)) := by
      rw [e_b0, wr2, upd_ne _ _ (by omega), upd_at]
      rw [show jshr (Int32.ofNat U) (6 : Int32) = Int32.ofNat (U / 64) from n_shr (k := 6) (by omega) (by decide)]; exact own_b (a := 3) (i := 6) (show U / 64 < 64 by omega) (by omega)
    have hb1 : b1 = (Int32.ofNat (128 + U % 64)) := by
      rw [e_b1, wr2, upd_at]
      exact own_c0 U (by omega)
    subst hb0 hb1
    have hz : jshl (Int32.ofNat (192 + U / 64) &&& 31) 6 ||| (Int32.ofNat (128 + U % 64) &&& 63) = Int32.ofNat U := by
      rw [show Int32.ofNat (192 + U / 64) &&& 31 = Int32.ofNat (U / 64) from own_l 192 5 (t := U / 64) (by decide) (by omega), show Int32.ofNat (128 + U % 64) &&& 63 = Int32.ofNat (U % 64) from own_l 128 6 (t := U % 64) (by decide) (by omega), show jshl (Int32.ofNat (U / 64)) (6 : Int32) = Int32.ofNat (U / 64 * 2 ^ 6) from n_shl (U / 64) (k := 6) (by decide), Nat.mul_comm, n_orlow _ (by omega)]
      congr 1; omega
    refine w_iload X18 D0_361 rfl ?_
    refine w_iconst X18 D0_363 (v := (1 : Int32)) rfl ?_
    refine w_icmpne X18 D0_364 (fun hc364 => ?_) (fun hc364 => by exact absurd hc364 (by decide))
    refine w_iload X18 D0_380 rfl ?_
    refine w_iconst X18 D0_382 (v := (2 : Int32)) rfl ?_
    refine w_icmpne X18 D0_383 (fun hc383 => by exact absurd rfl hc383) (fun hc383 => ?_)
    refine w_iload X18 D0_386 rfl ?_
    refine w_sipush X18 D0_388 (v := (224 : Int32)) rfl ?_
    refine w_iand X18 D0_391 ?_
    refine w_sipush X18 D0_392 (v := (192 : Int32)) rfl ?_
    refine w_icmpne X18 D0_395 (fun hc395 => by exact absurd (own_hi (own_224 (U / 64) (by omega))) hc395) (fun hc395 => ?_)
    refine w_iload X18 D0_398 rfl ?_
    refine w_sipush X18 D0_400 (v := (192 : Int32)) rfl ?_
    refine w_iand X18 D0_403 ?_
    refine w_sipush X18 D0_404 (v := (128 : Int32)) rfl ?_
    refine w_icmpne X18 D0_407 (fun hc407 => by exact absurd (own_hi (own_192 (U % 64) (by omega))) hc407) (fun hc407 => ?_)
    refine w_iload X18 D0_410 rfl ?_
    refine w_bipush X18 D0_412 (v := (31 : Int32)) rfl ?_
    refine w_iand X18 D0_414 ?_
    refine w_bipush X18 D0_415 (v := (6 : Int32)) rfl ?_
    refine w_ishl X18 D0_417 ?_
    refine w_iload X18 D0_418 rfl ?_
    refine w_bipush X18 D0_420 (v := (63 : Int32)) rfl ?_
    refine w_iand X18 D0_422 ?_
    refine w_ior X18 D0_423 ?_
    refine w_iload X18 D0_424 rfl ?_
    refine w_icmpne X18 D0_426 (fun hc426 => by exact absurd hz hc426) (fun hc426 => ?_)
    refine w_iconst X18 D0_429 (v := (1 : Int32)) rfl ?_
    refine w_goto X18 D0_430 ?_
    exact w_zreturn X18 D0_434 (by decide) (by decide) (rfl)
  · have en : nl U = 3 := by rw [nl, if_neg (by omega), if_neg (by omega), if_pos c2]
    have ew : wr U (fun _ => f) A = wr3 U (fun _ => f) A := by rw [wr, if_neg (by omega), if_neg (by omega), if_pos c2]
    rw [en]
    rw [ew] at e_b0 e_b1 e_b2 e_b3
    have hb0 : b0 = (Int32.ofNat (224 + U / 4096)) := by
      rw [e_b0, wr3, upd_ne _ _ (by omega), upd_ne _ _ (by omega), upd_at]
      rw [show jshr (Int32.ofNat U) (12 : Int32) = Int32.ofNat (U / 4096) from n_shr (k := 12) (by omega) (by decide)]; exact own_b (a := 7) (i := 5) (show U / 4096 < 32 by omega) (by omega)
    have hb1 : b1 = (Int32.ofNat (128 + U / 64 % 64)) := by
      rw [e_b1, wr3, upd_ne _ _ (by omega), upd_at]
      exact own_c U 6 (by omega) (by decide)
    have hb2 : b2 = (Int32.ofNat (128 + U % 64)) := by
      rw [e_b2, wr3, upd_at]
      exact own_c0 U (by omega)
    subst hb0 hb1 hb2
    have hz : jshl (Int32.ofNat (224 + U / 4096) &&& 15) 12 ||| jshl (Int32.ofNat (128 + U / 64 % 64) &&& 63) 6 ||| (Int32.ofNat (128 + U % 64) &&& 63) = Int32.ofNat U := by
      rw [show Int32.ofNat (224 + U / 4096) &&& 15 = Int32.ofNat (U / 4096) from own_l 224 4 (t := U / 4096) (by decide) (by omega), show Int32.ofNat (128 + U / 64 % 64) &&& 63 = Int32.ofNat (U / 64 % 64) from own_l 128 6 (t := U / 64 % 64) (by decide) (by omega), show Int32.ofNat (128 + U % 64) &&& 63 = Int32.ofNat (U % 64) from own_l 128 6 (t := U % 64) (by decide) (by omega), show jshl (Int32.ofNat (U / 4096)) (12 : Int32) = Int32.ofNat (U / 4096 * 2 ^ 12) from n_shl (U / 4096) (k := 12) (by decide), show jshl (Int32.ofNat (U / 64 % 64)) (6 : Int32) = Int32.ofNat (U / 64 % 64 * 2 ^ 6) from n_shl (U / 64 % 64) (k := 6) (by decide), Nat.mul_comm (U / 4096), n_orlow _ (by omega), show 2 ^ 12 * (U / 4096) + U / 64 % 64 * 2 ^ 6 = 2 ^ 6 * (64 * (U / 4096) + U / 64 % 64) by omega, n_orlow _ (by omega)]
      congr 1; omega
    refine w_iload X18 D0_361 rfl ?_
    refine w_iconst X18 D0_363 (v := (1 : Int32)) rfl ?_
    refine w_icmpne X18 D0_364 (fun hc364 => ?_) (fun hc364 => by exact absurd hc364 (by decide))
    refine w_iload X18 D0_380 rfl ?_
    refine w_iconst X18 D0_382 (v := (2 : Int32)) rfl ?_
    refine w_icmpne X18 D0_383 (fun hc383 => ?_) (fun hc383 => by exact absurd hc383 (by decide))
    refine w_iload X18 D0_435 rfl ?_
    refine w_iconst X18 D0_437 (v := (3 : Int32)) rfl ?_
    refine w_icmpne X18 D0_438 (fun hc438 => by exact absurd rfl hc438) (fun hc438 => ?_)
    refine w_iload X18 D0_441 rfl ?_
    refine w_sipush X18 D0_443 (v := (240 : Int32)) rfl ?_
    refine w_iand X18 D0_446 ?_
    refine w_sipush X18 D0_447 (v := (224 : Int32)) rfl ?_
    refine w_icmpne X18 D0_450 (fun hc450 => by exact absurd (own_hi (own_240 (U / 4096) (by omega))) hc450) (fun hc450 => ?_)
    refine w_iload X18 D0_453 rfl ?_
    refine w_sipush X18 D0_455 (v := (192 : Int32)) rfl ?_
    refine w_iand X18 D0_458 ?_
    refine w_sipush X18 D0_459 (v := (128 : Int32)) rfl ?_
    refine w_icmpne X18 D0_462 (fun hc462 => by exact absurd (own_hi (own_192 (U / 64 % 64) (by omega))) hc462) (fun hc462 => ?_)
    refine w_iload X18 D0_465 rfl ?_
    refine w_sipush X18 D0_467 (v := (192 : Int32)) rfl ?_
    refine w_iand X18 D0_470 ?_
    refine w_sipush X18 D0_471 (v := (128 : Int32)) rfl ?_
    refine w_icmpne X18 D0_474 (fun hc474 => by exact absurd (own_hi (own_192 (U % 64) (by omega))) hc474) (fun hc474 => ?_)
    refine w_iload X18 D0_477 rfl ?_
    refine w_bipush X18 D0_479 (v := (15 : Int32)) rfl ?_
    refine w_iand X18 D0_481 ?_
    refine w_bipush X18 D0_482 (v := (12 : Int32)) rfl ?_
    refine w_ishl X18 D0_484 ?_
    refine w_iload X18 D0_485 rfl ?_
    refine w_bipush X18 D0_487 (v := (63 : Int32)) rfl ?_
    refine w_iand X18 D0_489 ?_
    refine w_bipush X18 D0_490 (v := (6 : Int32)) rfl ?_
    refine w_ishl X18 D0_492 ?_
    refine w_ior X18 D0_493 ?_
    refine w_iload X18 D0_494 rfl ?_
    refine w_bipush X18 D0_496 (v := (63 : Int32)) rfl ?_
    refine w_iand X18 D0_498 ?_
    refine w_ior X18 D0_499 ?_
    refine w_iload X18 D0_500 rfl ?_
    refine w_icmpne X18 D0_502 (fun hc502 => by exact absurd hz hc502) (fun hc502 => ?_)
    refine w_iconst X18 D0_505 (v := (1 : Int32)) rfl ?_
    refine w_goto X18 D0_506 ?_
    exact w_zreturn X18 D0_510 (by decide) (by decide) (rfl)
  · have en : nl U = 4 := by rw [nl, if_neg (by omega), if_neg (by omega), if_neg (by omega)]
    have ew : wr U (fun _ => f) A = wr4 U (fun _ => f) A := by rw [wr, if_neg (by omega), if_neg (by omega), if_neg (by omega)]
    rw [en]
    rw [ew] at e_b0 e_b1 e_b2 e_b3
    have hb0 : b0 = (Int32.ofNat (240 + U / 262144)) := by
      rw [e_b0, wr4, upd_ne _ _ (by omega), upd_ne _ _ (by omega), upd_ne _ _ (by omega), upd_at]
      rw [show jshr (Int32.ofNat U) (18 : Int32) = Int32.ofNat (U / 262144) from n_shr (k := 18) (by omega) (by decide)]; exact own_b (a := 15) (i := 4) (show U / 262144 < 16 by omega) (by omega)
    have hb1 : b1 = (Int32.ofNat (128 + U / 4096 % 64)) := by
      rw [e_b1, wr4, upd_ne _ _ (by omega), upd_ne _ _ (by omega), upd_at]
      exact own_c U 12 (by omega) (by decide)
    have hb2 : b2 = (Int32.ofNat (128 + U / 64 % 64)) := by
      rw [e_b2, wr4, upd_ne _ _ (by omega), upd_at]
      exact own_c U 6 (by omega) (by decide)
    have hb3 : b3 = (Int32.ofNat (128 + U % 64)) := by
      rw [e_b3, wr4, upd_at]
      exact own_c0 U (by omega)
    subst hb0 hb1 hb2 hb3
    have hz : jshl (Int32.ofNat (240 + U / 262144) &&& 7) 18 ||| jshl (Int32.ofNat (128 + U / 4096 % 64) &&& 63) 12 ||| jshl (Int32.ofNat (128 + U / 64 % 64) &&& 63) 6 ||| (Int32.ofNat (128 + U % 64) &&& 63) = Int32.ofNat U := by
      rw [show Int32.ofNat (240 + U / 262144) &&& 7 = Int32.ofNat (U / 262144) from own_l 240 3 (t := U / 262144) (by decide) (by omega), show Int32.ofNat (128 + U / 4096 % 64) &&& 63 = Int32.ofNat (U / 4096 % 64) from own_l 128 6 (t := U / 4096 % 64) (by decide) (by omega), show Int32.ofNat (128 + U / 64 % 64) &&& 63 = Int32.ofNat (U / 64 % 64) from own_l 128 6 (t := U / 64 % 64) (by decide) (by omega), show Int32.ofNat (128 + U % 64) &&& 63 = Int32.ofNat (U % 64) from own_l 128 6 (t := U % 64) (by decide) (by omega), show jshl (Int32.ofNat (U / 262144)) (18 : Int32) = Int32.ofNat (U / 262144 * 2 ^ 18) from n_shl (U / 262144) (k := 18) (by decide), show jshl (Int32.ofNat (U / 4096 % 64)) (12 : Int32) = Int32.ofNat (U / 4096 % 64 * 2 ^ 12) from n_shl (U / 4096 % 64) (k := 12) (by decide), show jshl (Int32.ofNat (U / 64 % 64)) (6 : Int32) = Int32.ofNat (U / 64 % 64 * 2 ^ 6) from n_shl (U / 64 % 64) (k := 6) (by decide), Nat.mul_comm (U / 262144), n_orlow _ (by omega), show 2 ^ 18 * (U / 262144) + U / 4096 % 64 * 2 ^ 12 = 2 ^ 12 * (64 * (U / 262144) + U / 4096 % 64) by omega, n_orlow _ (by omega), show 2 ^ 12 * (64 * (U / 262144) + U / 4096 % 64) + U / 64 % 64 * 2 ^ 6 = 2 ^ 6 * (64 * (64 * (U / 262144) + U / 4096 % 64) + U / 64 % 64) by omega, n_orlow _ (by omega)]
      congr 1; omega
    refine w_iload X18 D0_361 rfl ?_
    refine w_iconst X18 D0_363 (v := (1 : Int32)) rfl ?_
    refine w_icmpne X18 D0_364 (fun hc364 => ?_) (fun hc364 => by exact absurd hc364 (by decide))
    refine w_iload X18 D0_380 rfl ?_
    refine w_iconst X18 D0_382 (v := (2 : Int32)) rfl ?_
    refine w_icmpne X18 D0_383 (fun hc383 => ?_) (fun hc383 => by exact absurd hc383 (by decide))
    refine w_iload X18 D0_435 rfl ?_
    refine w_iconst X18 D0_437 (v := (3 : Int32)) rfl ?_
    refine w_icmpne X18 D0_438 (fun hc438 => ?_) (fun hc438 => by exact absurd hc438 (by decide))
    refine w_iload X18 D0_511 rfl ?_
    refine w_sipush X18 D0_513 (v := (248 : Int32)) rfl ?_
    refine w_iand X18 D0_516 ?_
    refine w_sipush X18 D0_517 (v := (240 : Int32)) rfl ?_
    refine w_icmpne X18 D0_520 (fun hc520 => by exact absurd (own_hi (own_248 (U / 262144) (by omega))) hc520) (fun hc520 => ?_)
    refine w_iload X18 D0_523 rfl ?_
    refine w_sipush X18 D0_525 (v := (192 : Int32)) rfl ?_
    refine w_iand X18 D0_528 ?_
    refine w_sipush X18 D0_529 (v := (128 : Int32)) rfl ?_
    refine w_icmpne X18 D0_532 (fun hc532 => by exact absurd (own_hi (own_192 (U / 4096 % 64) (by omega))) hc532) (fun hc532 => ?_)
    refine w_iload X18 D0_535 rfl ?_
    refine w_sipush X18 D0_537 (v := (192 : Int32)) rfl ?_
    refine w_iand X18 D0_540 ?_
    refine w_sipush X18 D0_541 (v := (128 : Int32)) rfl ?_
    refine w_icmpne X18 D0_544 (fun hc544 => by exact absurd (own_hi (own_192 (U / 64 % 64) (by omega))) hc544) (fun hc544 => ?_)
    refine w_iload X18 D0_547 rfl ?_
    refine w_sipush X18 D0_549 (v := (192 : Int32)) rfl ?_
    refine w_iand X18 D0_552 ?_
    refine w_sipush X18 D0_553 (v := (128 : Int32)) rfl ?_
    refine w_icmpne X18 D0_556 (fun hc556 => by exact absurd (own_hi (own_192 (U % 64) (by omega))) hc556) (fun hc556 => ?_)
    refine w_iload X18 D0_559 rfl ?_
    refine w_bipush X18 D0_561 (v := (7 : Int32)) rfl ?_
    refine w_iand X18 D0_563 ?_
    refine w_bipush X18 D0_564 (v := (18 : Int32)) rfl ?_
    refine w_ishl X18 D0_566 ?_
    refine w_iload X18 D0_567 rfl ?_
    refine w_bipush X18 D0_569 (v := (63 : Int32)) rfl ?_
    refine w_iand X18 D0_571 ?_
    refine w_bipush X18 D0_572 (v := (12 : Int32)) rfl ?_
    refine w_ishl X18 D0_574 ?_
    refine w_ior X18 D0_575 ?_
    refine w_iload X18 D0_576 rfl ?_
    refine w_bipush X18 D0_578 (v := (63 : Int32)) rfl ?_
    refine w_iand X18 D0_580 ?_
    refine w_bipush X18 D0_581 (v := (6 : Int32)) rfl ?_
    refine w_ishl X18 D0_583 ?_
    refine w_ior X18 D0_584 ?_
    refine w_iload X18 D0_585 rfl ?_
    refine w_bipush X18 D0_587 (v := (63 : Int32)) rfl ?_
    refine w_iand X18 D0_589 ?_
    refine w_ior X18 D0_590 ?_
    refine w_iload X18 D0_591 rfl ?_
    refine w_icmpne X18 D0_593 (fun hc593 => by exact absurd hz hc593) (fun hc593 => ?_)
    refine w_iconst X18 D0_596 (v := (1 : Int32)) rfl ?_
    refine w_goto X18 D0_597 ?_
    exact w_zreturn X18 D0_601 (by decide) (by decide) (rfl)
theorem ef_0 (m : MethodId) (a : Int32) (b : Int32) (c0 : Int32) (d : Int32) : entryFrame m #[(.int a), (.int b), (.int c0), (.int d)] maxLocals = mkF m 0 #[.val (.int a), .val (.int b), .val (.int c0), .val (.int d), .unset, .unset, .unset, .unset, .unset, .unset, .unset, .unset, .unset, .unset, .unset, .unset, .unset, .unset] [] := by first | (simp [entryFrame, mkF, argsToLocals, Value.category, maxLocals]; done) | rfl
theorem pn_0 : plainName "nestrel/json/text/Utf8WritePinLaw" = true := by first | (simp [plainName, overriddenIn]; done) | decide +kernel
set_option maxRecDepth 65536 in
set_option maxHeartbeats 40000000 in
theorem rm0 {l : Launch} {Z : State} {a0 : Array Value} {n0 : Nat} {h : Heap} (hw : ∀ d ∈ tables_1, d.before a0 Z = true) (hn : n0 ≤ h.size) (a : Int32) (b : Int32) (c0 : Int32) (d : Int32) :
    Ctr l Z n0 x code maxLocals ret room_1 tables_1 #[(.int a), (.int b), (.int c0), (.int d)] h (fun v h' => v = some (.int 1)) := by
  refine ctr_of (plainFor_of_name pn_0) hw hn ?_
  intro p e s m below meth c T X
  refine Wp.cast (ef_0 m a b c0 d) ?_
  refine w_iloadN X D0_0 rfl ?_
  refine w_iconst X D0_1 (v := (3 : Int32)) rfl ?_
  refine w_iand X D0_2 ?_
  refine w_istoreE X D0_3 (l' := fun z_ => #[.val (.int a), .val (.int b), .val (.int c0), .val (.int d), .val (.int z_), .unset, .unset, .unset, .unset, .unset, .unset, .unset, .unset, .unset, .unset, .unset, .unset, .unset]) (fun _ => rfl) (fun kd e_kd => ?_)
  refine w_iloadN X D0_5 rfl ?_
  refine w_ldc X D0_6 (hw _ (List.mem_of_getElem? (i := 0) rfl)) ?_
  refine w_iand X D0_8 ?_
  refine w_istoreE X D0_9 (l' := fun z_ => #[.val (.int a), .val (.int b), .val (.int c0), .val (.int d), .val (.int kd), .val (.int z_), .unset, .unset, .unset, .unset, .unset, .unset, .unset, .unset, .unset, .unset, .unset, .unset]) (fun _ => rfl) (fun r e_r => ?_)
  refine w_iload X D0_11 rfl ?_
  refine w_ifne X D0_13 (fun hc13 => ?_) (fun hc13 => ?_)
  · refine w_iload X D0_28 rfl ?_
    refine w_iconst X D0_30 (v := (1 : Int32)) rfl ?_
    refine w_icmpne X D0_31 (fun hc31 => ?_) (fun hc31 => ?_)
    · refine w_iload X D0_52 rfl ?_
      refine w_iconst X D0_54 (v := (2 : Int32)) rfl ?_
      refine w_icmpne X D0_55 (fun hc55 => ?_) (fun hc55 => ?_)
      · refine w_ldc X D0_75 (hw _ (List.mem_of_getElem? (i := 10) rfl)) ?_
        refine w_iload X D0_77 rfl ?_
        refine w_ldc X D0_79 (hw _ (List.mem_of_getElem? (i := 11) rfl)) ?_
        refine w_irem X D0_81 (by decide) ?_
        refine w_iadd X D0_82 ?_
        refine w_istore X D0_83 (l' := #[.val (.int a), .val (.int b), .val (.int c0), .val (.int d), .val (.int kd), .val (.int r), .val (.int ((65536 : Int32) + (r % (1048576 : Int32)))), .unset, .unset, .unset, .unset, .unset, .unset, .unset, .unset, .unset, .unset, .unset]) rfl ?_
        refine w_iconst X D0_85 (v := (4 : Int32)) rfl ?_
        refine w_istore X D0_86 (l' := #[.val (.int a), .val (.int b), .val (.int c0), .val (.int d), .val (.int kd), .val (.int r), .val (.int ((65536 : Int32) + (r % (1048576 : Int32)))), .val (.int (4 : Int32)), .unset, .unset, .unset, .unset, .unset, .unset, .unset, .unset, .unset, .unset]) rfl ?_
        obtain ⟨U, h1, h2, eU⟩ := own_cp b 65536 1048576 (by decide) (by decide)
        rw [← e_r] at eU
        have q := law2 hw X a b c0 d kd r U (by omega)
        rw [show nl U = 4 by rw [nl, if_neg (by omega), if_neg (by omega), if_neg (by omega)], ← eU] at q
        exact q
      · refine w_sipush X D0_58 (v := (2048 : Int32)) rfl ?_
        refine w_iload X D0_61 rfl ?_
        refine w_ldc X D0_63 (hw _ (List.mem_of_getElem? (i := 13) rfl)) ?_
        refine w_irem X D0_65 (by decide) ?_
        refine w_iadd X D0_66 ?_
        refine w_istore X D0_67 (l' := #[.val (.int a), .val (.int b), .val (.int c0), .val (.int d), .val (.int kd), .val (.int r), .val (.int ((2048 : Int32) + (r % (63488 : Int32)))), .unset, .unset, .unset, .unset, .unset, .unset, .unset, .unset, .unset, .unset, .unset]) rfl ?_
        refine w_iconst X D0_69 (v := (3 : Int32)) rfl ?_
        refine w_istore X D0_70 (l' := #[.val (.int a), .val (.int b), .val (.int c0), .val (.int d), .val (.int kd), .val (.int r), .val (.int ((2048 : Int32) + (r % (63488 : Int32)))), .val (.int (3 : Int32)), .unset, .unset, .unset, .unset, .unset, .unset, .unset, .unset, .unset, .unset]) rfl ?_
        refine w_goto X D0_72 ?_
        obtain ⟨U, h1, h2, eU⟩ := own_cp b 2048 63488 (by decide) (by decide)
        rw [← e_r] at eU
        have q := law2 hw X a b c0 d kd r U (by omega)
        rw [show nl U = 3 by rw [nl, if_neg (by omega), if_neg (by omega), if_pos (by omega)], ← eU] at q
        exact q
    · refine w_sipush X D0_34 (v := (128 : Int32)) rfl ?_
      refine w_iload X D0_37 rfl ?_
      refine w_sipush X D0_39 (v := (1920 : Int32)) rfl ?_
      refine w_irem X D0_42 (by decide) ?_
      refine w_iadd X D0_43 ?_
      refine w_istore X D0_44 (l' := #[.val (.int a), .val (.int b), .val (.int c0), .val (.int d), .val (.int kd), .val (.int r), .val (.int ((128 : Int32) + (r % (1920 : Int32)))), .unset, .unset, .unset, .unset, .unset, .unset, .unset, .unset, .unset, .unset, .unset]) rfl ?_
      refine w_iconst X D0_46 (v := (2 : Int32)) rfl ?_
      refine w_istore X D0_47 (l' := #[.val (.int a), .val (.int b), .val (.int c0), .val (.int d), .val (.int kd), .val (.int r), .val (.int ((128 : Int32) + (r % (1920 : Int32)))), .val (.int (2 : Int32)), .unset, .unset, .unset, .unset, .unset, .unset, .unset, .unset, .unset, .unset]) rfl ?_
      refine w_goto X D0_49 ?_
      obtain ⟨U, h1, h2, eU⟩ := own_cp b 128 1920 (by decide) (by decide)
      rw [← e_r] at eU
      have q := law2 hw X a b c0 d kd r U (by omega)
      rw [show nl U = 2 by rw [nl, if_neg (by omega), if_pos (by omega)], ← eU] at q
      exact q
  · refine w_iloadN X D0_16 rfl ?_
    refine w_bipush X D0_17 (v := (127 : Int32)) rfl ?_
    refine w_iand X D0_19 ?_
    refine w_istore X D0_20 (l' := #[.val (.int a), .val (.int b), .val (.int c0), .val (.int d), .val (.int kd), .val (.int r), .val (.int (b &&& (127 : Int32))), .unset, .unset, .unset, .unset, .unset, .unset, .unset, .unset, .unset, .unset, .unset]) rfl ?_
    refine w_iconst X D0_22 (v := (1 : Int32)) rfl ?_
    refine w_istore X D0_23 (l' := #[.val (.int a), .val (.int b), .val (.int c0), .val (.int d), .val (.int kd), .val (.int r), .val (.int (b &&& (127 : Int32))), .val (.int (1 : Int32)), .unset, .unset, .unset, .unset, .unset, .unset, .unset, .unset, .unset, .unset]) rfl ?_
    refine w_goto X D0_25 ?_
    obtain ⟨U, h2, eU⟩ := own_7f b
    have q := law2 hw X a b c0 d kd r U (by omega)
    rw [show nl U = 1 by rw [nl, if_pos h2], ← eU] at q
    exact q
set_option maxRecDepth 65536 in
set_option maxHeartbeats 40000000 in
theorem comes_1 {Post : Tables → Env → Array Value → State → Outcome → State → Prop} (hpost : ∀ tb e args s v u, (limb_1_1.after args s (.returned v) u = true ∧ limb_1_2.after args s (.returned v) u = true ∧ True) → FrameEnd s (.returned v) u (Jvm.fieldLocs frame_1_writes args s ++ Jvm.arrayLocs frame_1_arrays args s ++ Jvm.staticLocs frame_1_statics s) 16 128 → Post tb e args s (.returned v) u) :
    ArmFor flags0 classFile x code maxLocals ret World_1 tables_1 room_1 Calls_1 rest_1 Pre_1 Post := by
  intro l hfl _ _ p e ha hc hk s m args below hf hA hF happ hP
  obtain ⟨hcalls, hrest, hpre⟩ := hP
  obtain ⟨-, -, -, hnamed, -, -, -, hat⟩ := (Spec.applies_iff hf).mp happ
  obtain ⟨hg, hn⟩ := and_e (Cond.before_iff.mp (show (Jvm.Cond.and given_1 narrow_1).before args s = true from hpre))
  obtain ⟨hcount, g0⟩ := and_e hg
  obtain ⟨ga0, g1⟩ := and_e g0
  obtain ⟨ga1, g2⟩ := and_e g1
  obtain ⟨ga2, g3⟩ := and_e g2
  obtain ⟨w0, w1, w2, w3, rfl⟩ : ∃ w0 w1 w2 w3 : Value, args = #[w0, w1, w2, w3] := by
    have hs : args.size = 4 := by simpa [Cond.value, given_1] using hcount
    obtain ⟨L⟩ := args
    match L, hs with
    | [w0, w1, w2, w3], _ => exact ⟨w0, w1, w2, w3, rfl⟩
  have hw := fun d (hd : d ∈ tables_1) => atoms_spec (ws := Jvm.Cond.code x code maxLocals ret :: tables_1) hat d (List.mem_cons_of_mem _ hd)
  obtain ⟨i0, ei0⟩ := is_v ga0
  obtain rfl : w0 = (.int i0) := Option.some.inj ei0
  obtain ⟨i1, ei1⟩ := is_v ga1
  obtain rfl : w1 = (.int i1) := Option.some.inj ei1
  obtain ⟨i2, ei2⟩ := is_v ga2
  obtain rfl : w2 = (.int i2) := Option.some.inj ei2
  obtain ⟨i3, ei3⟩ := is_v g3
  obtain rfl : w3 = (.int i3) := Option.some.inj ei3
  obtain ⟨n, o, h1, h2, h3, _, L, rfl, ⟨N, -, rfl⟩, hq⟩ := rm0 (l := l) (Z := s) (n0 := s.heap.size) (h := s.heap) hw (Nat.le_refl _) i0 i1 i2 i3 p e ha hc hk s m _ below hf ((Spec.applies_iff_loose hf).mp happ).1 ⟨rfl, State.Warmed39.refl s, rfl⟩ trivial
  refine ⟨n, _, h1, h2, h3, hpost _ _ _ _ _ _ ⟨Cond.after_iff.mpr rfl, Cond.after_iff.mpr (eq_i res_at (Term.int_eval (1)) rfl), trivial⟩ ⟨hq.1, hq.2.1, (hq.2.2.sift fun y hy => Or.inr (N y hy)).mono (by decide) (by decide)⟩⟩
theorem main_1_1 : Claimed_1_1 := comes_1 fun _ _ _ _ _ _ h hF => ⟨h.1, hF⟩
theorem main_1_2 : Claimed_1_2 := comes_1 fun _ _ _ _ _ _ h hF => ⟨h.2.1, hF⟩
end Jvm.Pilot.@@N@@
namespace Jvm.Pilot.@@N@@
open Jvm Jvm.ClassFile Sem Op Lib Jvm.Free Jvm.Stand Jvm.Pilot.@@N@@.Jvm.D
/-! MADE BY PROGRAM (witnessworld.py) out of the Statement's table words and the real class files: 9 classes; the members and pool entries that the words name. The judged class is class 1, her method 2. -/
namespace start1
open Jvm.ClassFile
def u (s : String) : CpInfo := .utf8 (stringToUtf16 s)
/-- a pool by its gaps: so many unusable entries, then the entry; so many at the end -/
def gap : Nat → List CpInfo → List CpInfo
  | 0, r => r
  | n + 1, r => .unusable :: gap n r
def poolList (es : List (Nat × CpInfo)) (last : Nat) : List CpInfo := es.foldr (fun e r => gap e.1 (e.2 :: r)) (gap last [])
def pool (es : List (Nat × CpInfo)) (last : Nat) : Array CpInfo := ⟨poolList es last⟩
def fileOf (pool : Array CpInfo) (this : Nat) (attrs : Array Attribute := #[]) (ms : Array MethodInfo := #[]) (fl : Nat := 33) (sup : Nat := 0) (ifs : Array Nat := #[]) (fds : Array FieldInfo := #[]) : ClassFile where
  minorVersion := 0
  majorVersion := 65
  constantPool := pool
  accessFlags := fl
  thisClass := this
  superClass := sup
  interfaces := ifs
  fields := fds
  methods := ms
  attributes := attrs
def plain (name : String) (sup : Option ClassId) : Class where
  name := name
  kind := .ordinary
  loader := none
  accessFlags := 33
  super := sup
  interfaces := #[]
  cf := none
  fields := #[]
  methods := #[]
  instanceTypes := #[]
  staticTypes := #[]
  resolved := #[]
  callSites := []
  init := .initialized
  statics := none
  mirror := none

def pool0 : Array CpInfo := pool [(5, u "<init>"), (0, u "()V"), (1, .class_ 10), (1, u "java/lang/Object")] 113

def k0m0 : Method := { name := "<init>", desc := "()V", sig := { parameters := [], returnType := none }, accessFlags := 1, code := none }
/-- java/lang/Object -/
def k0 : Class := { plain "java/lang/Object" none with
  accessFlags := 33
  interfaces := #[]
  cf := some (fileOf pool0 8 #[] #[{ accessFlags := 1, nameIndex := 5, descriptorIndex := 6, attributes := #[] }] 33 0 #[] #[])
  fields := #[]
  methods := #[k0m0]
  instanceTypes := #[]
  staticTypes := #[]
  resolved := Array.replicate 124 none
  statics := none }

def pool1 : Array CpInfo := pool [(2, .class_ 4), (1, u "java/lang/Object"), (0, u "<init>"), (0, u "()V"), (0, .integer 2147483647), (0, .integer 63488), (0, .integer 65536), (0, .integer 1048576), (0, .methodref 12 13), (0, .class_ 14), (0, .nameAndType 15 16), (0, u "nestrel/json/text/Utf8"), (0, u "write"), (0, u "(I[BI)I"), (0, .methodref 18 19), (0, .class_ 20), (0, .nameAndType 21 22), (0, u "nestrel/json/text/Utf8WritePinLaw"), (0, u "untouched"), (0, u "([BIIIB)Z"), (3, u "law"), (0, u "(IIII)Z")] 4

def k1m0 : Method := { name := "<init>", desc := "()V", sig := { parameters := [], returnType := none }, accessFlags := 1, code := none }
def k1c1 : Code := { maxStack := 2, maxLocals := 5, code := method_2_code, exceptionTable := #[], attributes := #[] }
def k1m1 : Method := { name := "untouched", desc := "([BIIIB)Z", sig := { parameters := [(.array .byte), .int, .int, .int, .byte], returnType := some .boolean }, accessFlags := 10, code := some k1c1 }
def k1c2 : Code := { maxStack := 5, maxLocals := 18, code := code, exceptionTable := #[], attributes := #[] }
def k1m2 : Method := { name := "law", desc := "(IIII)Z", sig := { parameters := [.int, .int, .int, .int], returnType := some .boolean }, accessFlags := 9, code := some k1c2 }
/-- nestrel/json/text/Utf8WritePinLaw -/
def k1 : Class := { plain "nestrel/json/text/Utf8WritePinLaw" (some 0) with
  accessFlags := 49
  interfaces := #[]
  cf := some (fileOf pool1 18 #[] #[{ accessFlags := 1, nameIndex := 5, descriptorIndex := 6, attributes := #[] }, { accessFlags := 10, nameIndex := 21, descriptorIndex := 22, attributes := #[] }, { accessFlags := 9, nameIndex := 26, descriptorIndex := 27, attributes := #[] }] 49 2 #[] #[])
  fields := #[]
  methods := #[k1m0, k1m1, k1m2]
  instanceTypes := #[]
  staticTypes := #[]
  resolved := Array.replicate 32 none
  statics := none }

def pool2 : Array CpInfo := pool [(4, .class_ 6), (1, u "java/lang/Object"), (0, u "<init>"), (0, u "()V"), (0, .class_ 10), (0, u "nestrel/json/text/Utf8"), (8, u "WORDS"), (0, u "Ljava/lang/invoke/VarHandle;"), (16, .integer 65536), (15, u "write"), (19, u "(I[BI)I"), (14, u "MAX_BYTES"), (0, u "I"), (2, u "TOO_LONG"), (0, u "Ljava/lang/String;"), (0, u "HIGH_BITS"), (0, u "J"), (0, u "SHORT")] 13

def k2m0 : Method := { name := "<init>", desc := "()V", sig := { parameters := [], returnType := none }, accessFlags := 2, code := none }
def k2c1 : Code := { maxStack := 5, maxLocals := 4, code := prog_210_method_6_code, exceptionTable := #[], attributes := #[] }
def k2m1 : Method := { name := "write", desc := "(I[BI)I", sig := { parameters := [.int, (.array .byte), .int], returnType := some .int }, accessFlags := 9, code := some k2c1 }
/-- nestrel/json/text/Utf8 -/
def k2 : Class := { plain "nestrel/json/text/Utf8" (some 0) with
  accessFlags := 49
  interfaces := #[]
  cf := some (fileOf pool2 9 #[] #[{ accessFlags := 2, nameIndex := 7, descriptorIndex := 8, attributes := #[] }, { accessFlags := 9, nameIndex := 53, descriptorIndex := 73, attributes := #[] }] 49 4 #[] #[{ accessFlags := 25, nameIndex := 88, descriptorIndex := 89, attributes := #[] }, { accessFlags := 26, nameIndex := 92, descriptorIndex := 93, attributes := #[] }, { accessFlags := 26, nameIndex := 19, descriptorIndex := 20, attributes := #[] }, { accessFlags := 26, nameIndex := 94, descriptorIndex := 95, attributes := #[] }, { accessFlags := 26, nameIndex := 96, descriptorIndex := 89, attributes := #[] }])
  fields := #[{ name := "MAX_BYTES", type := .int, accessFlags := 25, slot := 0, constantValue := 0 }, { name := "TOO_LONG", type := (.object "java/lang/String"), accessFlags := 26, slot := 1, constantValue := 0 }, { name := "WORDS", type := (.object "java/lang/invoke/VarHandle"), accessFlags := 26, slot := 2, constantValue := 0 }, { name := "HIGH_BITS", type := .long, accessFlags := 26, slot := 3, constantValue := 0 }, { name := "SHORT", type := .int, accessFlags := 26, slot := 4, constantValue := 0 }]
  methods := #[k2m0, k2m1]
  instanceTypes := #[]
  staticTypes := #[.int, (.object "java/lang/String"), (.object "java/lang/invoke/VarHandle"), .long, .int]
  resolved := Array.replicate 110 none
  statics := none }

def pool3 : Array CpInfo := pool [(1, u "java/lang/Cloneable"), (0, .class_ 1), (0, u "java/lang/Object"), (0, .class_ 3)] 3

/-- java/lang/Cloneable -/
def k3 : Class := { plain "java/lang/Cloneable" (some 0) with
  accessFlags := 1537
  interfaces := #[]
  cf := some (fileOf pool3 2 #[] #[] 1537 4 #[] #[])
  fields := #[]
  methods := #[]
  instanceTypes := #[]
  staticTypes := #[]
  resolved := Array.replicate 8 none
  statics := none }

def pool4 : Array CpInfo := pool [(1, u "java/io/Serializable"), (0, .class_ 1), (0, u "java/lang/Object"), (0, .class_ 3)] 3

/-- java/io/Serializable -/
def k4 : Class := { plain "java/io/Serializable" (some 0) with
  accessFlags := 1537
  interfaces := #[]
  cf := some (fileOf pool4 2 #[] #[] 1537 4 #[] #[])
  fields := #[]
  methods := #[]
  instanceTypes := #[]
  staticTypes := #[]
  resolved := Array.replicate 8 none
  statics := none }

/-- the primitive byte -/
def k5 : Class := { plain "byte" none with kind := .primitive 'B', accessFlags := 0x411 }
/-- [B -/
def k6 : Class := { plain "[B" (some 0) with kind := .array 5 .byte, interfaces := #[3, 4], accessFlags := 1041 }

/-- the primitive int -/
def k7 : Class := { plain "int" none with kind := .primitive 'I', accessFlags := 0x411 }
/-- [I -/
def k8 : Class := { plain "[I" (some 0) with kind := .array 7 .int, interfaces := #[3, 4], accessFlags := 1041 }

def heap : Heap := #[]
def classes : Array Class := #[k0, k1, k2, k3, k4, k5, k6, k7, k8]
def interned : List (Array UInt16 × Addr) := []
def slotsUsed : Nat := 0
def theMethod : MethodId := ⟨1, 2⟩
def args0 : Array Value := #[.int 1, .int 200, .int 2, .int 7]
def aboutOver (below : List Frame) : State where
  vm := { classes := classes, interned := interned.toArray }
  heap := heap
  slotsUsed := slotsUsed
  threads := #[{ frames := .invoking theMethod args0 :: below }]
def below0 : List Frame := [.native { method := ⟨0, 0⟩, args := #[] }]
def about1 : State := aboutOver below0
def p0 : Program := .bare "" "" ""
def e0 : Env := launch0.env 0 0 0
theorem w_frames : about1.frames = Frame.invoking theMethod args0 :: below0 := rfl
set_option maxRecDepth 65536 in
theorem w_args : argsFit about1.vm theMethod args0 = true := by decide +kernel
set_option maxRecDepth 65536 in
theorem w_heap : heapFits about1 = true := by decide +kernel
set_option maxRecDepth 65536 in
theorem w_runnable : about1.curStatus? = some .runnable := by decide +kernel
set_option maxRecDepth 65536 in
theorem w_alone : about1.alone = true := by decide +kernel
set_option maxRecDepth 65536 in
theorem w_named : about1.methodNamed? x = some theMethod := by decide +kernel
set_option maxRecDepth 65536 in
theorem w_hears : about1.hears theMethod below0 = true := by decide +kernel
set_option maxRecDepth 65536 in
theorem w_ripe : about1.ripe theMethod args0 below0 = true := by decide +kernel
theorem w_running : about1.status = .running := rfl
set_option maxRecDepth 65536 in
theorem w_room : about1.hasRoom e0.platform room_1 = true :=
  launch0.hasRoom_least _ room_1 (by decide +kernel) (by decide +kernel) (by decide +kernel) (by decide +kernel) (by decide +kernel) (by decide +kernel)
theorem allAtoms_all (ts : List Jvm.Cond) (a : Array Jvm.Value) (st : Jvm.State) : (allAtoms ts).before a st = ts.all (fun c => c.before a st) := by
  induction ts with
  | nil => rfl
  | cons c t ih =>
    show (Jvm.Cond.and c (allAtoms t)).before a st = _
    rw [Jvm.Cond.before_and, ih, List.all_cons]
def words1 : List Jvm.Cond := Jvm.Cond.code x code maxLocals ret :: tables_1
/-- a 'code' word, met by the world's own term for the bytes: nothing is compared byte by byte -/
theorem code_word {y : MethodName} {bytes : ByteArray} {mx : Nat} {rt : Option FieldType} {a : Array Value} {s : State} {m : MethodId} {meth : Method} {c : Code} (h1 : s.methodNamed? y = some m) (h2 : s.vm.method? m = some meth) (h3 : meth.code = some c) (h4 : c.code = bytes)
    (h5 : (c.maxLocals == mx && c.exceptionTable.isEmpty && decide (c.maxStack ≤ mostOperands) && decide (meth.sig.returnType = rt) && !meth.locks && decide (parseMethodDescriptor y.desc = some meth.sig)) = true) : (Jvm.Cond.code y bytes mx rt).before a s = true := by
  simp only [Bool.and_eq_true, beq_iff_eq, Bool.not_eq_true', decide_eq_true_eq] at h5
  obtain ⟨⟨⟨⟨⟨g1, g2⟩, g3⟩, g4⟩, g5⟩, g6⟩ := h5
  simp [Cond.before, Cond.holds, Cond.value, h1, h2, h3, h4, g1, g2, g3, g4, g5, g6]
def isCode : Jvm.Cond → Bool
  | .code _ _ _ _ => true
  | _ => false
theorem all_split {L : List Jvm.Cond} {P : Jvm.Cond → Bool} (h1 : L.all (fun c => isCode c || P c) = true) (h2 : ∀ c ∈ L.filter isCode, P c = true) : L.all P = true := by
  refine List.all_eq_true.mpr fun c hc => ?_
  have h := List.all_eq_true.mp h1 c hc
  rcases Bool.eq_false_or_eq_true (isCode c) with hi | hi
  · exact h2 c (List.mem_filter.mpr ⟨hc, hi⟩)
  · simpa [hi] using h
set_option maxRecDepth 65536 in
theorem w_c0 : (Jvm.Cond.code x code maxLocals ret).before args0 about1 = true := code_word (m := ⟨1, 2⟩) (meth := k1m2) (c := k1c2) (by decide +kernel) rfl rfl rfl (by decide +kernel)
set_option maxRecDepth 65536 in
theorem w_c1 : (Jvm.Cond.code ({ cls := "nestrel/json/text/Utf8", name := "write", desc := "(I[BI)I" } : Jvm.MethodName) prog_210_method_6_code (4 : Nat) (Option.some Jvm.ClassFile.FieldType.int)).before args0 about1 = true := code_word (m := ⟨2, 1⟩) (meth := k2m1) (c := k2c1) (by decide +kernel) rfl rfl rfl (by decide +kernel)
set_option maxRecDepth 65536 in
theorem w_c2 : (Jvm.Cond.code ({ cls := "nestrel/json/text/Utf8WritePinLaw", name := "untouched", desc := "([BIIIB)Z" } : Jvm.MethodName) method_2_code (5 : Nat) (Option.some Jvm.ClassFile.FieldType.boolean)).before args0 about1 = true := code_word (m := ⟨1, 1⟩) (meth := k1m1) (c := k1c1) (by decide +kernel) rfl rfl rfl (by decide +kernel)
def codes1 : List Jvm.Cond := [Jvm.Cond.code x code maxLocals ret, Jvm.Cond.code ({ cls := "nestrel/json/text/Utf8", name := "write", desc := "(I[BI)I" } : Jvm.MethodName) prog_210_method_6_code (4 : Nat) (Option.some Jvm.ClassFile.FieldType.int), Jvm.Cond.code ({ cls := "nestrel/json/text/Utf8WritePinLaw", name := "untouched", desc := "([BIIIB)Z" } : Jvm.MethodName) method_2_code (5 : Nat) (Option.some Jvm.ClassFile.FieldType.boolean)]
set_option maxRecDepth 65536 in
theorem codes_eq : words1.filter isCode = codes1 := rfl
theorem w_codes : ∀ c ∈ words1.filter isCode, c.before args0 about1 = true := by
  rw [codes_eq]
  intro c hc
  simp only [codes1, List.mem_cons, List.not_mem_nil, or_false] at hc
  rcases hc with rfl | rfl | rfl
  · exact w_c0
  · exact w_c1
  · exact w_c2
set_option maxRecDepth 65536 in
theorem w_t1 : words1.all (fun c => isCode c || c.before args0 about1) = true := by decide +kernel
theorem w_tables : (allAtoms (Jvm.Cond.code x code maxLocals ret :: tables_1)).before args0 about1 = true := by
  rw [allAtoms_all]
  show words1.all (fun c => c.before args0 about1) = true
  refine all_split ?_ w_codes
  rw [w_t1]
set_option maxRecDepth 65536 in
theorem w_case : (Jvm.Cond.and given_1 narrow_1).before args0 about1 = true := by decide +kernel
theorem w_applies : (headSpec (Jvm.Cond.code x code maxLocals ret :: tables_1) room_1).applies x e0.platform about1 = true :=
  (Spec.applies_iff w_frames).mpr ⟨w_running, w_runnable, w_alone, w_named, w_hears, w_ripe, w_room, w_tables⟩
theorem atStart : AtStart classFile x code maxLocals ret World_1 tables_1 room_1 Calls_1 rest_1 Pre_1 launch0 p0 e0 about1 theMethod args0 below0 :=
  ⟨lists_1, trivial, launch0.admits_env _ _ _, launch0.least_env, fairChoices_fair.cas, fairChoices_fair.clock, w_frames, w_args, w_heap, w_applies, trivial, trivial, w_case⟩
end start1
theorem witness_1 : WitnessClaimed_1 := ⟨start1.p0, start1.e0, start1.about1, start1.theMethod, start1.args0, start1.below0, start1.atStart⟩
end Jvm.Pilot.@@N@@
