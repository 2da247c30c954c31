import JvmDerived
import JvmDerived.Pilot.@@N@@Statement
import JvmDerived.Pilot.@@N@@Code
set_option linter.unusedVariables false
set_option linter.unusedSimpArgs false
namespace Jvm.RoadKit
open Sem ClassFile Op Lib Jvm.Stand Jvm.Free Jvm.LawKit
section New
variable {p : Program} {l : Launch} {e : Env} {R : Room} {s : State} {m : MethodId} {args : Array Value} {below : List Frame} {meth : Method} {c : Code} {T : State} {locs : List Loc} {cells slots : Nat}
theorem retI (X : Stand p l e R s m args below meth c T locs cells slots) (hx : p.tables.exec = Jvm.exec) {pc : Nat} {Ls : Array Slot} {z : Int32} {rest : List Value} (hret : meth.sig.returnType = some .int) (hd : decode c.code pc = .ok (.ireturn, 1)) {fs : List Frame}
    (hl : ∀ (f : JFrame) (acts : List Action), f.method = m → f.locked = none → f.entered = [] → (doReturn e (T.setTop f) acts (some (.int z))).1 = T.setFrames fs) : Steps p.tables e below (T.setTop (mkF m pc Ls (.int z :: rest))) (T.setFrames fs) := by
  have hm' : T.vm.method? m = some meth := X.method'
  have hn : narrow .int (.int z) = .int z := rfl
  show Steps p.tables e below (T.setTop { method := m, pc := pc, locals := Ls, stack := _ :: rest, locked := none }) _
  jvm_step X.here [X.here.top, hx, hd, hm', hret, hn]
  first | (intro acts; rw [hl _ acts rfl rfl rfl]) | rw [hl _ _ rfl rfl rfl]
  exact Steps.refl _
end New
end Jvm.RoadKit
namespace Jvm.Pilot.@@N@@
open Jvm Jvm.ClassFile Sem Op Lib Jvm.Free Jvm.Stand Jvm.LawKit Jvm.RoadKit Bundle Jvm.Pilot.@@N@@.Jvm.D
section OwnKit
variable {Z : State} {a0 : Array Value} {n0 : Nat} {p : Program} {l : Launch} {e : Env} {R : Room} {s : State} {m : MethodId} {args : Array Value} {below : List Frame} {meth : Method} {c : Code} {code : ByteArray} {ml : Nat} {ret : Option FieldType} {y : MethodName} {T : State} {h h' : Heap} {k j : Nat} {Q : Option Value → Heap → Prop} {pc nx tgt : Nat} {Ls : Array Slot} {S : List Value}
/-- Java's shifts -/
abbrev jshl (x q : Int32) : Int32 := x <<< (q &&& 31)
abbrev jshr (x q : Int32) : Int32 := x >>> (q &&& 31)
abbrev jushr (x q : Int32) : Int32 := (x.toUInt32 >>> (q &&& 31).toUInt32).toInt32
abbrev jshlL (x : Int64) (q : Int32) : Int64 := x <<< (q &&& 0x3f).toInt64
abbrev jshrL (x : Int64) (q : Int32) : Int64 := x >>> (q &&& 0x3f).toInt64
abbrev jushrL (x : Int64) (q : Int32) : Int64 := (x.toUInt64 >>> (q &&& 0x3f).toInt64.toUInt64).toInt64
abbrev jbyte (x : Int32) : Int32 := x.toInt8.toInt32
/-- the instruction at pc, and the pc behind it -/
def Dec (code : ByteArray) (pc : Nat) (i : Instr) (len nx : Nat) : Prop := decode code pc = .ok (i, len) ∧ nx = pc + len
/-- a jump at pc: the pc behind it, and where it goes -/
def Jmp (code : ByteArray) (pc : Nat) (i : Instr) (o : Int) (nx tgt : Nat) : Prop := decode code pc = .ok (i, 3) ∧ nx = pc + 3 ∧ 0 ≤ (pc : Int) + o ∧ ((pc : Int) + o).toNat = tgt
/-- where a body's run stands: the heap, the cells and slots made; nothing older than n0 was written -/
def Pos (Z : State) (a0 : Array Value) (n0 : Nat) (p : Program) (l : Launch) (e : Env) (R : Room) (s : State) (m : MethodId) (args : Array Value) (below : List Frame) (meth : Method) (c : Code) (code : ByteArray) (ml : Nat) (ret : Option FieldType) (y : MethodName) (T : State) (h : Heap) (k j : Nat) : Prop :=
  p.tables.exec = Jvm.exec ∧ Z.Warmed39 s.vm ∧ c.code = code ∧ c.maxLocals = ml ∧ meth.sig.returnType = ret ∧ s.vm.findClass y.cls = some m.cls ∧ meth.name = y.name ∧ meth.locks = false ∧ T.heap = h ∧ n0 ≤ h.size ∧ (∀ d ∈ tables_1, d.before a0 Z = true) ∧ ∃ locs, Fr n0 locs ∧ Stand p l e R s m args below meth c T locs k j
/-- from the frame f over T the body comes to its end, and Q says with what -/
def Wp (n0 : Nat) (p : Program) (e : Env) (R : Room) (s : State) (below : List Frame) (Q : Option Value → Heap → Prop) (T : State) (f : JFrame) : Prop :=
  ∃ t o, Steps p.tables e below (T.setTop f) t ∧ t.status = .running ∧ Ended t below o ∧ ∃ v L, o = .returned v ∧ (Fr n0 L ∧ n0 ≤ t.heap.size ∧ Q v t.heap) ∧ FrameEnd s o t L R.cells R.slots
/-- a body's contract at one array of arguments and one heap -/
def Ctr (l : Launch) (Z : State) (n0 : Nat) (y : MethodName) (code : ByteArray) (ml : Nat) (ret : Option FieldType) (R : Room) (ws : List Jvm.Cond) (as : Array Value) (h : Heap) (Q : Option Value → Heap → Prop) : Prop :=
  MetFree l y (head1 (Jvm.Cond.code y code ml ret :: ws) R) (fun a U => a = as ∧ Z.Warmed39 U.vm ∧ U.heap = h) (fun _ _ _ _ _ => True) (fun _ U o U' => ∃ v L, o = .returned v ∧ (Fr n0 L ∧ n0 ≤ U'.heap.size ∧ Q v U'.heap) ∧ FrameEnd U o U' L R.cells R.slots)
/-- an array of n places: place i holds g i; it is no older than n0 -/
def Ba (Z : State) (n0 : Nat) (h : Heap) (a : Addr) (ty : FieldType) (n : Nat) (g : Nat → Value) : Prop :=
  n0 ≤ a ∧ n < 2147483648 ∧ ∃ c : Cell, Arr Z h a c ty ∧ c.slots.size = n ∧ ∀ i, i < n → c.slots[i]? = some (g i)
def bI (b : Nat → Int32) : Nat → Value := fun i => .int (b i)
def bJ (b : Nat → Int64) : Nat → Value := fun i => .long (b i)
def upd {α : Type} (b : Nat → α) (i : Nat) (v : α) : Nat → α := fun q => if q = i then v else b q
theorem upd_at {α : Type} (b : Nat → α) (i : Nat) (v : α) : upd b i v i = v := if_pos rfl
theorem upd_ne {α : Type} (b : Nat → α) {i q : Nat} (v : α) (h : q ≠ i) : upd b i v q = b q := if_neg h
theorem Ba.lt {a : Addr} {ty : FieldType} {n : Nat} {g : Nat → Value} (B : Ba Z n0 h a ty n g) : a < h.size := by obtain ⟨-, -, c, A, -⟩ := B; exact A.lt
theorem Ba.ext {a : Addr} {ty : FieldType} {n : Nat} {g : Nat → Value} (B : Ba Z n0 h a ty n g) (E : Ext h h') : Ba Z n0 h' a ty n g := by obtain ⟨q1, q2, c, A, r⟩ := B; exact ⟨q1, q2, c, A.ext E, r⟩
theorem Ba.keep {a : Addr} {ty : FieldType} {n : Nat} {g : Nat → Value} {ws : List Addr} (B : Ba Z n0 h a ty n g) (K : Keep h h' ws) (q : a ∉ ws) : Ba Z n0 h' a ty n g := by obtain ⟨q1, q2, c, A, r⟩ := B; exact ⟨q1, q2, c, ⟨K.2.1 a c A.1 q, A.2⟩, r⟩
theorem Ba.congr {a : Addr} {ty : FieldType} {n : Nat} {g g' : Nat → Value} (B : Ba Z n0 h a ty n g) (q : ∀ i, i < n → g i = g' i) : Ba Z n0 h a ty n g' := by obtain ⟨q1, q2, c, A, r1, r2⟩ := B; exact ⟨q1, q2, c, A, r1, fun i hi => by rw [r2 i hi, q i hi]⟩
theorem ofNat_toInt {n : Nat} (h : n < 2147483648) : (Int32.ofNat n).toInt = n := Int32.toInt_ofNat_of_lt (by omega)
theorem ofNat_clamp {n : Nat} (h : n < 2147483648) : (Int32.ofNat n).toNatClampNeg = n := by rw [Int32.toNatClampNeg, ofNat_toInt h]; rfl
theorem ofNat_nn {n : Nat} (h : n < 2147483648) : ¬ Int32.ofNat n < 0 := by rw [Int32.lt_iff_toInt_lt, ofNat_toInt h, show (0 : Int32).toInt = 0 from rfl]; omega
theorem ofNat_lt {a b : Nat} (ha : a < 2147483648) (hb : b < 2147483648) : Int32.ofNat a < Int32.ofNat b ↔ a < b := by rw [Int32.lt_iff_toInt_lt, ofNat_toInt ha, ofNat_toInt hb]; omega
theorem eq_ofNat {x : Int32} {n : Nat} (hn : n < 2147483648) (h : x.toInt = n) : x = Int32.ofNat n := Int32.toInt_inj.mp (by rw [h, ofNat_toInt hn])
theorem inb {c : Cell} {n i : Nat} (hn : n < 2147483648) (hc : c.slots.size = n) (hi : i < n) : ¬ (Int32.ofNat i < 0 ∨ c.slots.size ≤ (Int32.ofNat i).toNatClampNeg) := by
  rw [hc, ofNat_clamp (by omega)]
  exact fun q => q.elim (ofNat_nn (by omega)) (fun q => by omega)
theorem Pos.sz (X : Pos Z a0 n0 p l e R s m args below meth c code ml ret y T h k j) : n0 ≤ h.size := X.2.2.2.2.2.2.2.2.2.1
theorem Wp.go {T' : State} {f f' : JFrame} (st : ∀ target, Steps p.tables e below (T'.setTop f') target → Steps p.tables e below (T.setTop f) target) (q : Wp n0 p e R s below Q T' f') : Wp n0 p e R s below Q T f := by
  obtain ⟨t, o, h1, r⟩ := q; exact ⟨t, o, st t h1, r⟩
theorem Wp.cast {f f' : JFrame} (q : f = f') (w : Wp n0 p e R s below Q T f') : Wp n0 p e R s below Q T f := q ▸ w
theorem ctr_of {ws : List Jvm.Cond} {as : Array Value} (hp : plainFor y = true) (hw : ∀ d ∈ tables_1, d.before a0 Z = true) (hn : n0 ≤ h.size)
    (body : ∀ p e s m below meth c T, Pos Z a0 n0 p l e R s m as below meth c code ml ret y T h 0 0 → Wp n0 p e R s below Q T (entryFrame m as ml)) : Ctr l Z n0 y code ml ret R ws as h Q := by
  refine MetFree.of_bodySF hp hisR ?_
  intro p e s m args below meth c s₁ Bd hml0 hP hK
  obtain ⟨rfl, hZ, hh⟩ := hP
  exact body p e s m below meth c s₁ ⟨Bd.exec, hZ, Bd.bytes, hml0, Bd.returns, findClass_of_methodNamed Bd.named, (name_of_methodNamed Bd.named Bd.method).1, Bd.notSynchronized, by rw [← hh, Bd.state]; rfl, hn, hw, [], Fr.nil _, Stand.of_body Bd⟩
theorem w_iadd (X : Pos Z a0 n0 p l e R s m args below meth c code ml ret y T h k j) {x z : Int32} (hd : Dec code pc .iadd 1 nx) (q : Wp n0 p e R s below Q T (mkF m nx Ls (.int (x + z) :: S))) : Wp n0 p e R s below Q T (mkF m pc Ls (.int z :: .int x :: S)) := by
  obtain ⟨hx, hZ, hby, hml, hret, hown, hnm, hlk, eT, hn0, hw, locs, N, Y⟩ := X
  obtain ⟨hd, rfl⟩ := hd
  exact Wp.go (fun _ q => XS.iadd Y.here hx rfl (hb hby hd) rfl q) q
theorem w_isub (X : Pos Z a0 n0 p l e R s m args below meth c code ml ret y T h k j) {x z : Int32} (hd : Dec code pc .isub 1 nx) (q : Wp n0 p e R s below Q T (mkF m nx Ls (.int (x - z) :: S))) : Wp n0 p e R s below Q T (mkF m pc Ls (.int z :: .int x :: S)) := by
  obtain ⟨hx, hZ, hby, hml, hret, hown, hnm, hlk, eT, hn0, hw, locs, N, Y⟩ := X
  obtain ⟨hd, rfl⟩ := hd
  exact Wp.go (fun _ q => XS.isub Y.here hx rfl (hb hby hd) rfl q) q
theorem w_imul (X : Pos Z a0 n0 p l e R s m args below meth c code ml ret y T h k j) {x z : Int32} (hd : Dec code pc .imul 1 nx) (q : Wp n0 p e R s below Q T (mkF m nx Ls (.int (x * z) :: S))) : Wp n0 p e R s below Q T (mkF m pc Ls (.int z :: .int x :: S)) := by
  obtain ⟨hx, hZ, hby, hml, hret, hown, hnm, hlk, eT, hn0, hw, locs, N, Y⟩ := X
  obtain ⟨hd, rfl⟩ := hd
  exact Wp.go (fun _ q => XS.imul Y.here hx rfl (hb hby hd) rfl q) q
theorem w_iand (X : Pos Z a0 n0 p l e R s m args below meth c code ml ret y T h k j) {x z : Int32} (hd : Dec code pc .iand 1 nx) (q : Wp n0 p e R s below Q T (mkF m nx Ls (.int (x &&& z) :: S))) : Wp n0 p e R s below Q T (mkF m pc Ls (.int z :: .int x :: S)) := by
  obtain ⟨hx, hZ, hby, hml, hret, hown, hnm, hlk, eT, hn0, hw, locs, N, Y⟩ := X
  obtain ⟨hd, rfl⟩ := hd
  exact Wp.go (fun _ q => XS.iand Y.here hx rfl (hb hby hd) rfl q) q
theorem w_ior (X : Pos Z a0 n0 p l e R s m args below meth c code ml ret y T h k j) {x z : Int32} (hd : Dec code pc .ior 1 nx) (q : Wp n0 p e R s below Q T (mkF m nx Ls (.int (x ||| z) :: S))) : Wp n0 p e R s below Q T (mkF m pc Ls (.int z :: .int x :: S)) := by
  obtain ⟨hx, hZ, hby, hml, hret, hown, hnm, hlk, eT, hn0, hw, locs, N, Y⟩ := X
  obtain ⟨hd, rfl⟩ := hd
  exact Wp.go (fun _ q => XS.ior Y.here hx rfl (hb hby hd) rfl q) q
theorem w_ixor (X : Pos Z a0 n0 p l e R s m args below meth c code ml ret y T h k j) {x z : Int32} (hd : Dec code pc .ixor 1 nx) (q : Wp n0 p e R s below Q T (mkF m nx Ls (.int (x ^^^ z) :: S))) : Wp n0 p e R s below Q T (mkF m pc Ls (.int z :: .int x :: S)) := by
  obtain ⟨hx, hZ, hby, hml, hret, hown, hnm, hlk, eT, hn0, hw, locs, N, Y⟩ := X
  obtain ⟨hd, rfl⟩ := hd
  exact Wp.go (fun _ q => XS.ixor Y.here hx rfl (hb hby hd) rfl q) q
theorem w_ishl (X : Pos Z a0 n0 p l e R s m args below meth c code ml ret y T h k j) {x z : Int32} (hd : Dec code pc .ishl 1 nx) (q : Wp n0 p e R s below Q T (mkF m nx Ls (.int (jshl x z) :: S))) : Wp n0 p e R s below Q T (mkF m pc Ls (.int z :: .int x :: S)) := by
  obtain ⟨hx, hZ, hby, hml, hret, hown, hnm, hlk, eT, hn0, hw, locs, N, Y⟩ := X
  obtain ⟨hd, rfl⟩ := hd
  exact Wp.go (fun _ q => XS.ishl Y.here hx rfl (hb hby hd) rfl q) q
theorem w_ishr (X : Pos Z a0 n0 p l e R s m args below meth c code ml ret y T h k j) {x z : Int32} (hd : Dec code pc .ishr 1 nx) (q : Wp n0 p e R s below Q T (mkF m nx Ls (.int (jshr x z) :: S))) : Wp n0 p e R s below Q T (mkF m pc Ls (.int z :: .int x :: S)) := by
  obtain ⟨hx, hZ, hby, hml, hret, hown, hnm, hlk, eT, hn0, hw, locs, N, Y⟩ := X
  obtain ⟨hd, rfl⟩ := hd
  exact Wp.go (fun _ q => XS.ishr Y.here hx rfl (hb hby hd) rfl q) q
theorem w_iushr (X : Pos Z a0 n0 p l e R s m args below meth c code ml ret y T h k j) {x z : Int32} (hd : Dec code pc .iushr 1 nx) (q : Wp n0 p e R s below Q T (mkF m nx Ls (.int (jushr x z) :: S))) : Wp n0 p e R s below Q T (mkF m pc Ls (.int z :: .int x :: S)) := by
  obtain ⟨hx, hZ, hby, hml, hret, hown, hnm, hlk, eT, hn0, hw, locs, N, Y⟩ := X
  obtain ⟨hd, rfl⟩ := hd
  exact Wp.go (fun _ q => XS.iushr Y.here hx rfl (hb hby hd) rfl q) q
theorem w_ladd (X : Pos Z a0 n0 p l e R s m args below meth c code ml ret y T h k j) {x z : Int64} (hd : Dec code pc .ladd 1 nx) (q : Wp n0 p e R s below Q T (mkF m nx Ls (.long (x + z) :: S))) : Wp n0 p e R s below Q T (mkF m pc Ls (.long z :: .long x :: S)) := by
  obtain ⟨hx, hZ, hby, hml, hret, hown, hnm, hlk, eT, hn0, hw, locs, N, Y⟩ := X
  obtain ⟨hd, rfl⟩ := hd
  exact Wp.go (fun _ q => XS.ladd Y.here hx rfl (hb hby hd) rfl q) q
theorem w_lsub (X : Pos Z a0 n0 p l e R s m args below meth c code ml ret y T h k j) {x z : Int64} (hd : Dec code pc .lsub 1 nx) (q : Wp n0 p e R s below Q T (mkF m nx Ls (.long (x - z) :: S))) : Wp n0 p e R s below Q T (mkF m pc Ls (.long z :: .long x :: S)) := by
  obtain ⟨hx, hZ, hby, hml, hret, hown, hnm, hlk, eT, hn0, hw, locs, N, Y⟩ := X
  obtain ⟨hd, rfl⟩ := hd
  exact Wp.go (fun _ q => XS.lsub Y.here hx rfl (hb hby hd) rfl q) q
theorem w_lmul (X : Pos Z a0 n0 p l e R s m args below meth c code ml ret y T h k j) {x z : Int64} (hd : Dec code pc .lmul 1 nx) (q : Wp n0 p e R s below Q T (mkF m nx Ls (.long (x * z) :: S))) : Wp n0 p e R s below Q T (mkF m pc Ls (.long z :: .long x :: S)) := by
  obtain ⟨hx, hZ, hby, hml, hret, hown, hnm, hlk, eT, hn0, hw, locs, N, Y⟩ := X
  obtain ⟨hd, rfl⟩ := hd
  exact Wp.go (fun _ q => XS.lmul Y.here hx rfl (hb hby hd) rfl q) q
theorem w_land (X : Pos Z a0 n0 p l e R s m args below meth c code ml ret y T h k j) {x z : Int64} (hd : Dec code pc .land 1 nx) (q : Wp n0 p e R s below Q T (mkF m nx Ls (.long (x &&& z) :: S))) : Wp n0 p e R s below Q T (mkF m pc Ls (.long z :: .long x :: S)) := by
  obtain ⟨hx, hZ, hby, hml, hret, hown, hnm, hlk, eT, hn0, hw, locs, N, Y⟩ := X
  obtain ⟨hd, rfl⟩ := hd
  exact Wp.go (fun _ q => XS.land Y.here hx rfl (hb hby hd) rfl q) q
theorem w_lor (X : Pos Z a0 n0 p l e R s m args below meth c code ml ret y T h k j) {x z : Int64} (hd : Dec code pc .lor 1 nx) (q : Wp n0 p e R s below Q T (mkF m nx Ls (.long (x ||| z) :: S))) : Wp n0 p e R s below Q T (mkF m pc Ls (.long z :: .long x :: S)) := by
  obtain ⟨hx, hZ, hby, hml, hret, hown, hnm, hlk, eT, hn0, hw, locs, N, Y⟩ := X
  obtain ⟨hd, rfl⟩ := hd
  exact Wp.go (fun _ q => XS.lor Y.here hx rfl (hb hby hd) rfl q) q
theorem w_lxor (X : Pos Z a0 n0 p l e R s m args below meth c code ml ret y T h k j) {x z : Int64} (hd : Dec code pc .lxor 1 nx) (q : Wp n0 p e R s below Q T (mkF m nx Ls (.long (x ^^^ z) :: S))) : Wp n0 p e R s below Q T (mkF m pc Ls (.long z :: .long x :: S)) := by
  obtain ⟨hx, hZ, hby, hml, hret, hown, hnm, hlk, eT, hn0, hw, locs, N, Y⟩ := X
  obtain ⟨hd, rfl⟩ := hd
  exact Wp.go (fun _ q => XS.lxor Y.here hx rfl (hb hby hd) rfl q) q
theorem w_lshl (X : Pos Z a0 n0 p l e R s m args below meth c code ml ret y T h k j) {x : Int64} {z : Int32} (hd : Dec code pc .lshl 1 nx) (q : Wp n0 p e R s below Q T (mkF m nx Ls (.long (jshlL x z) :: S))) : Wp n0 p e R s below Q T (mkF m pc Ls (.int z :: .long x :: S)) := by
  obtain ⟨hx, hZ, hby, hml, hret, hown, hnm, hlk, eT, hn0, hw, locs, N, Y⟩ := X
  obtain ⟨hd, rfl⟩ := hd
  exact Wp.go (fun _ q => XS.lshl Y.here hx rfl (hb hby hd) rfl q) q
theorem w_lshr (X : Pos Z a0 n0 p l e R s m args below meth c code ml ret y T h k j) {x : Int64} {z : Int32} (hd : Dec code pc .lshr 1 nx) (q : Wp n0 p e R s below Q T (mkF m nx Ls (.long (jshrL x z) :: S))) : Wp n0 p e R s below Q T (mkF m pc Ls (.int z :: .long x :: S)) := by
  obtain ⟨hx, hZ, hby, hml, hret, hown, hnm, hlk, eT, hn0, hw, locs, N, Y⟩ := X
  obtain ⟨hd, rfl⟩ := hd
  exact Wp.go (fun _ q => XS.lshr Y.here hx rfl (hb hby hd) rfl q) q
theorem w_lushr (X : Pos Z a0 n0 p l e R s m args below meth c code ml ret y T h k j) {x : Int64} {z : Int32} (hd : Dec code pc .lushr 1 nx) (q : Wp n0 p e R s below Q T (mkF m nx Ls (.long (jushrL x z) :: S))) : Wp n0 p e R s below Q T (mkF m pc Ls (.int z :: .long x :: S)) := by
  obtain ⟨hx, hZ, hby, hml, hret, hown, hnm, hlk, eT, hn0, hw, locs, N, Y⟩ := X
  obtain ⟨hd, rfl⟩ := hd
  exact Wp.go (fun _ q => XS.lushr Y.here hx rfl (hb hby hd) rfl q) q
theorem w_idiv (X : Pos Z a0 n0 p l e R s m args below meth c code ml ret y T h k j) {x z : Int32} (hd : Dec code pc .idiv 1 nx) (hz : z ≠ 0) (q : Wp n0 p e R s below Q T (mkF m nx Ls (.int (x / z) :: S))) : Wp n0 p e R s below Q T (mkF m pc Ls (.int z :: .int x :: S)) := by
  obtain ⟨hx, hZ, hby, hml, hret, hown, hnm, hlk, eT, hn0, hw, locs, N, Y⟩ := X
  obtain ⟨hd, rfl⟩ := hd
  exact Wp.go (fun _ q => XS.idiv Y.here hx rfl (hb hby hd) rfl hz q) q
theorem w_irem (X : Pos Z a0 n0 p l e R s m args below meth c code ml ret y T h k j) {x z : Int32} (hd : Dec code pc .irem 1 nx) (hz : z ≠ 0) (q : Wp n0 p e R s below Q T (mkF m nx Ls (.int (x % z) :: S))) : Wp n0 p e R s below Q T (mkF m pc Ls (.int z :: .int x :: S)) := by
  obtain ⟨hx, hZ, hby, hml, hret, hown, hnm, hlk, eT, hn0, hw, locs, N, Y⟩ := X
  obtain ⟨hd, rfl⟩ := hd
  exact Wp.go (fun _ q => iremM Y hx rfl (hb hby hd) rfl hz q) q
theorem w_ldiv (X : Pos Z a0 n0 p l e R s m args below meth c code ml ret y T h k j) {x z : Int64} (hd : Dec code pc .ldiv 1 nx) (hz : z ≠ 0) (q : Wp n0 p e R s below Q T (mkF m nx Ls (.long (x / z) :: S))) : Wp n0 p e R s below Q T (mkF m pc Ls (.long z :: .long x :: S)) := by
  obtain ⟨hx, hZ, hby, hml, hret, hown, hnm, hlk, eT, hn0, hw, locs, N, Y⟩ := X
  obtain ⟨hd, rfl⟩ := hd
  exact Wp.go (fun _ q => XS.ldiv Y.here hx rfl (hb hby hd) rfl hz q) q
theorem w_lrem (X : Pos Z a0 n0 p l e R s m args below meth c code ml ret y T h k j) {x z : Int64} (hd : Dec code pc .lrem 1 nx) (hz : z ≠ 0) (q : Wp n0 p e R s below Q T (mkF m nx Ls (.long (x - (x / z) * z) :: S))) : Wp n0 p e R s below Q T (mkF m pc Ls (.long z :: .long x :: S)) := by
  obtain ⟨hx, hZ, hby, hml, hret, hown, hnm, hlk, eT, hn0, hw, locs, N, Y⟩ := X
  obtain ⟨hd, rfl⟩ := hd
  exact Wp.go (fun _ q => XS.lrem Y.here hx rfl (hb hby hd) rfl hz q) q
theorem w_ineg (X : Pos Z a0 n0 p l e R s m args below meth c code ml ret y T h k j) {x : Int32} (hd : Dec code pc .ineg 1 nx) (q : Wp n0 p e R s below Q T (mkF m nx Ls (.int (-x) :: S))) : Wp n0 p e R s below Q T (mkF m pc Ls (.int x :: S)) := by
  obtain ⟨hx, hZ, hby, hml, hret, hown, hnm, hlk, eT, hn0, hw, locs, N, Y⟩ := X
  obtain ⟨hd, rfl⟩ := hd
  exact Wp.go (fun _ q => XS.ineg Y.here hx rfl (hb hby hd) rfl q) q
theorem w_lneg (X : Pos Z a0 n0 p l e R s m args below meth c code ml ret y T h k j) {x : Int64} (hd : Dec code pc .lneg 1 nx) (q : Wp n0 p e R s below Q T (mkF m nx Ls (.long (-x) :: S))) : Wp n0 p e R s below Q T (mkF m pc Ls (.long x :: S)) := by
  obtain ⟨hx, hZ, hby, hml, hret, hown, hnm, hlk, eT, hn0, hw, locs, N, Y⟩ := X
  obtain ⟨hd, rfl⟩ := hd
  exact Wp.go (fun _ q => XS.lneg Y.here hx rfl (hb hby hd) rfl q) q
theorem w_i2l (X : Pos Z a0 n0 p l e R s m args below meth c code ml ret y T h k j) {x : Int32} (hd : Dec code pc .i2l 1 nx) (q : Wp n0 p e R s below Q T (mkF m nx Ls (.long (x.toInt64) :: S))) : Wp n0 p e R s below Q T (mkF m pc Ls (.int x :: S)) := by
  obtain ⟨hx, hZ, hby, hml, hret, hown, hnm, hlk, eT, hn0, hw, locs, N, Y⟩ := X
  obtain ⟨hd, rfl⟩ := hd
  exact Wp.go (fun _ q => XS.i2l Y.here hx rfl (hb hby hd) rfl q) q
theorem w_l2i (X : Pos Z a0 n0 p l e R s m args below meth c code ml ret y T h k j) {x : Int64} (hd : Dec code pc .l2i 1 nx) (q : Wp n0 p e R s below Q T (mkF m nx Ls (.int (x.toInt32) :: S))) : Wp n0 p e R s below Q T (mkF m pc Ls (.long x :: S)) := by
  obtain ⟨hx, hZ, hby, hml, hret, hown, hnm, hlk, eT, hn0, hw, locs, N, Y⟩ := X
  obtain ⟨hd, rfl⟩ := hd
  exact Wp.go (fun _ q => XS.l2i Y.here hx rfl (hb hby hd) rfl q) q
theorem w_i2b (X : Pos Z a0 n0 p l e R s m args below meth c code ml ret y T h k j) {x : Int32} (hd : Dec code pc .i2b 1 nx) (q : Wp n0 p e R s below Q T (mkF m nx Ls (.int (jbyte x) :: S))) : Wp n0 p e R s below Q T (mkF m pc Ls (.int x :: S)) := by
  obtain ⟨hx, hZ, hby, hml, hret, hown, hnm, hlk, eT, hn0, hw, locs, N, Y⟩ := X
  obtain ⟨hd, rfl⟩ := hd
  exact Wp.go (fun _ q => XS.i2b Y.here hx rfl (hb hby hd) rfl q) q
theorem w_iconst (X : Pos Z a0 n0 p l e R s m args below meth c code ml ret y T h k j) {i : Int} {v : Int32} (hd : Dec code pc (.iconst i) 1 nx) (hv : Int32.ofInt i = v) (q : Wp n0 p e R s below Q T (mkF m nx Ls (.int v :: S))) : Wp n0 p e R s below Q T (mkF m pc Ls S) := by
  obtain ⟨hx, hZ, hby, hml, hret, hown, hnm, hlk, eT, hn0, hw, locs, N, Y⟩ := X
  obtain ⟨hd, rfl⟩ := hd
  subst hv
  exact Wp.go (fun _ q => XS.iconst Y.here hx rfl (hb hby hd) q) q
theorem w_bipush (X : Pos Z a0 n0 p l e R s m args below meth c code ml ret y T h k j) {i : Int} {v : Int32} (hd : Dec code pc (.bipush i) 2 nx) (hv : (Int8.ofInt i).toInt32 = v) (q : Wp n0 p e R s below Q T (mkF m nx Ls (.int v :: S))) : Wp n0 p e R s below Q T (mkF m pc Ls S) := by
  obtain ⟨hx, hZ, hby, hml, hret, hown, hnm, hlk, eT, hn0, hw, locs, N, Y⟩ := X
  obtain ⟨hd, rfl⟩ := hd
  subst hv
  exact Wp.go (fun _ q => XS.bipush Y.here hx rfl (hb hby hd) q) q
theorem w_sipush (X : Pos Z a0 n0 p l e R s m args below meth c code ml ret y T h k j) {i : Int} {v : Int32} (hd : Dec code pc (.sipush i) 3 nx) (hv : (Int16.ofInt i).toInt32 = v) (q : Wp n0 p e R s below Q T (mkF m nx Ls (.int v :: S))) : Wp n0 p e R s below Q T (mkF m pc Ls S) := by
  obtain ⟨hx, hZ, hby, hml, hret, hown, hnm, hlk, eT, hn0, hw, locs, N, Y⟩ := X
  obtain ⟨hd, rfl⟩ := hd
  subst hv
  exact Wp.go (fun _ q => XS.sipush Y.here hx rfl (hb hby hd) q) q
theorem w_lconst0 (X : Pos Z a0 n0 p l e R s m args below meth c code ml ret y T h k j) (hd : Dec code pc (.lconst 0) 1 nx) (q : Wp n0 p e R s below Q T (mkF m nx Ls (.long 0 :: S))) : Wp n0 p e R s below Q T (mkF m pc Ls S) := by
  obtain ⟨hx, hZ, hby, hml, hret, hown, hnm, hlk, eT, hn0, hw, locs, N, Y⟩ := X
  obtain ⟨hd, rfl⟩ := hd
  exact Wp.go (fun _ q => XS.lconst Y.here hx rfl (hb hby hd) q) q
theorem w_lconst1 (X : Pos Z a0 n0 p l e R s m args below meth c code ml ret y T h k j) (hd : Dec code pc (.lconst 1) 1 nx) (q : Wp n0 p e R s below Q T (mkF m nx Ls (.long 1 :: S))) : Wp n0 p e R s below Q T (mkF m pc Ls S) := by
  obtain ⟨hx, hZ, hby, hml, hret, hown, hnm, hlk, eT, hn0, hw, locs, N, Y⟩ := X
  obtain ⟨hd, rfl⟩ := hd
  exact Wp.go (fun _ q => XS.lconst Y.here hx rfl (hb hby hd) q) q
theorem w_null (X : Pos Z a0 n0 p l e R s m args below meth c code ml ret y T h k j) (hd : Dec code pc .aconst_null 1 nx) (q : Wp n0 p e R s below Q T (mkF m nx Ls (.null :: S))) : Wp n0 p e R s below Q T (mkF m pc Ls S) := by
  obtain ⟨hx, hZ, hby, hml, hret, hown, hnm, hlk, eT, hn0, hw, locs, N, Y⟩ := X
  obtain ⟨hd, rfl⟩ := hd
  exact Wp.go (fun _ q => XS.aconstNull Y.here hx rfl (hb hby hd) q) q
theorem w_iloadN (X : Pos Z a0 n0 p l e R s m args below meth c code ml ret y T h k j) {w : Fin 4} {v : Int32} (hd : Dec code pc (.iload_n w) 1 nx) (hl : Ls[w.val]? = some (.val (.int v))) (q : Wp n0 p e R s below Q T (mkF m nx Ls (.int v :: S))) : Wp n0 p e R s below Q T (mkF m pc Ls S) := by
  obtain ⟨hx, hZ, hby, hml, hret, hown, hnm, hlk, eT, hn0, hw, locs, N, Y⟩ := X
  obtain ⟨hd, rfl⟩ := hd
  exact Wp.go (fun _ q => XS.iloadN Y.here hx rfl (hb hby hd) hl q) q
theorem w_iload (X : Pos Z a0 n0 p l e R s m args below meth c code ml ret y T h k j) {w : Nat} {v : Int32} (hd : Dec code pc (.iload w) 2 nx) (hl : Ls[w]? = some (.val (.int v))) (q : Wp n0 p e R s below Q T (mkF m nx Ls (.int v :: S))) : Wp n0 p e R s below Q T (mkF m pc Ls S) := by
  obtain ⟨hx, hZ, hby, hml, hret, hown, hnm, hlk, eT, hn0, hw, locs, N, Y⟩ := X
  obtain ⟨hd, rfl⟩ := hd
  exact Wp.go (fun _ q => XS.iload Y.here hx rfl (hb hby hd) hl q) q
theorem w_lloadN (X : Pos Z a0 n0 p l e R s m args below meth c code ml ret y T h k j) {w : Fin 4} {v : Int64} (hd : Dec code pc (.lload_n w) 1 nx) (hl : Ls[w.val]? = some (.val (.long v))) (q : Wp n0 p e R s below Q T (mkF m nx Ls (.long v :: S))) : Wp n0 p e R s below Q T (mkF m pc Ls S) := by
  obtain ⟨hx, hZ, hby, hml, hret, hown, hnm, hlk, eT, hn0, hw, locs, N, Y⟩ := X
  obtain ⟨hd, rfl⟩ := hd
  exact Wp.go (fun _ q => XS.lloadN Y.here hx rfl (hb hby hd) hl q) q
theorem w_lload (X : Pos Z a0 n0 p l e R s m args below meth c code ml ret y T h k j) {w : Nat} {v : Int64} (hd : Dec code pc (.lload w) 2 nx) (hl : Ls[w]? = some (.val (.long v))) (q : Wp n0 p e R s below Q T (mkF m nx Ls (.long v :: S))) : Wp n0 p e R s below Q T (mkF m pc Ls S) := by
  obtain ⟨hx, hZ, hby, hml, hret, hown, hnm, hlk, eT, hn0, hw, locs, N, Y⟩ := X
  obtain ⟨hd, rfl⟩ := hd
  exact Wp.go (fun _ q => XS.lload Y.here hx rfl (hb hby hd) hl q) q
theorem w_aloadN (X : Pos Z a0 n0 p l e R s m args below meth c code ml ret y T h k j) {w : Fin 4} {v : Value} (hd : Dec code pc (.aload_n w) 1 nx) (hl : Ls[w.val]? = some (.val v)) (hv : v.isRef = true) (q : Wp n0 p e R s below Q T (mkF m nx Ls (v :: S))) : Wp n0 p e R s below Q T (mkF m pc Ls S) := by
  obtain ⟨hx, hZ, hby, hml, hret, hown, hnm, hlk, eT, hn0, hw, locs, N, Y⟩ := X
  obtain ⟨hd, rfl⟩ := hd
  exact Wp.go (fun _ q => XS.aloadN Y.here hx rfl (hb hby hd) hl hv q) q
theorem w_astoreN (X : Pos Z a0 n0 p l e R s m args below meth c code ml ret y T h k j) {w : Fin 4} {v : Value} {l' : Array Slot} (hd : Dec code pc (.astore_n w) 1 nx) (hv : v.isRef = true) (hl : storeLocals Ls w.val v = some l') (q : Wp n0 p e R s below Q T (mkF m nx l' S)) : Wp n0 p e R s below Q T (mkF m pc Ls (v :: S)) := by
  obtain ⟨hx, hZ, hby, hml, hret, hown, hnm, hlk, eT, hn0, hw, locs, N, Y⟩ := X
  obtain ⟨hd, rfl⟩ := hd
  exact Wp.go (fun _ q => XS.astoreN Y.here hx rfl (hb hby hd) rfl hv hl q) q
theorem w_istoreN (X : Pos Z a0 n0 p l e R s m args below meth c code ml ret y T h k j) {w : Fin 4} {v : Int32} {l' : Array Slot} (hd : Dec code pc (.istore_n w) 1 nx) (hl : storeLocals Ls w.val (.int v) = some l') (q : Wp n0 p e R s below Q T (mkF m nx l' S)) : Wp n0 p e R s below Q T (mkF m pc Ls (.int v :: S)) := by
  obtain ⟨hx, hZ, hby, hml, hret, hown, hnm, hlk, eT, hn0, hw, locs, N, Y⟩ := X
  obtain ⟨hd, rfl⟩ := hd
  exact Wp.go (fun _ q => XS.istoreN Y.here hx rfl (hb hby hd) rfl hl q) q
theorem w_istoreNE (X : Pos Z a0 n0 p l e R s m args below meth c code ml ret y T h k j) {w : Fin 4} {v : Int32} {l' : Int32 → Array Slot} (hd : Dec code pc (.istore_n w) 1 nx) (hl : ∀ z, storeLocals Ls w.val (.int z) = some (l' z)) (q : ∀ z, z = v → Wp n0 p e R s below Q T (mkF m nx (l' z) S)) : Wp n0 p e R s below Q T (mkF m pc Ls (.int v :: S)) := w_istoreN X hd (hl v) (q v rfl)
theorem w_lstoreN (X : Pos Z a0 n0 p l e R s m args below meth c code ml ret y T h k j) {w : Fin 4} {v : Int64} {l' : Array Slot} (hd : Dec code pc (.lstore_n w) 1 nx) (hl : storeLocals Ls w.val (.long v) = some l') (q : Wp n0 p e R s below Q T (mkF m nx l' S)) : Wp n0 p e R s below Q T (mkF m pc Ls (.long v :: S)) := by
  obtain ⟨hx, hZ, hby, hml, hret, hown, hnm, hlk, eT, hn0, hw, locs, N, Y⟩ := X
  obtain ⟨hd, rfl⟩ := hd
  exact Wp.go (fun _ q => XS.lstoreN Y.here hx rfl (hb hby hd) rfl hl q) q
theorem w_lstoreNE (X : Pos Z a0 n0 p l e R s m args below meth c code ml ret y T h k j) {w : Fin 4} {v : Int64} {l' : Int64 → Array Slot} (hd : Dec code pc (.lstore_n w) 1 nx) (hl : ∀ z, storeLocals Ls w.val (.long z) = some (l' z)) (q : ∀ z, z = v → Wp n0 p e R s below Q T (mkF m nx (l' z) S)) : Wp n0 p e R s below Q T (mkF m pc Ls (.long v :: S)) := w_lstoreN X hd (hl v) (q v rfl)
theorem w_aload (X : Pos Z a0 n0 p l e R s m args below meth c code ml ret y T h k j) {w : Nat} {v : Value} (hd : Dec code pc (.aload w) 2 nx) (hl : Ls[w]? = some (.val v)) (hv : v.isRef = true) (q : Wp n0 p e R s below Q T (mkF m nx Ls (v :: S))) : Wp n0 p e R s below Q T (mkF m pc Ls S) := by
  obtain ⟨hx, hZ, hby, hml, hret, hown, hnm, hlk, eT, hn0, hw, locs, N, Y⟩ := X
  obtain ⟨hd, rfl⟩ := hd
  exact Wp.go (fun _ q => XS.aload Y.here hx rfl (hb hby hd) hl hv q) q
theorem w_astore (X : Pos Z a0 n0 p l e R s m args below meth c code ml ret y T h k j) {w : Nat} {v : Value} {l' : Array Slot} (hd : Dec code pc (.astore w) 2 nx) (hv : v.isRef = true) (hl : storeLocals Ls w v = some l') (q : Wp n0 p e R s below Q T (mkF m nx l' S)) : Wp n0 p e R s below Q T (mkF m pc Ls (v :: S)) := by
  obtain ⟨hx, hZ, hby, hml, hret, hown, hnm, hlk, eT, hn0, hw, locs, N, Y⟩ := X
  obtain ⟨hd, rfl⟩ := hd
  exact Wp.go (fun _ q => XS.astore Y.here hx rfl (hb hby hd) rfl hv hl q) q
theorem w_istore (X : Pos Z a0 n0 p l e R s m args below meth c code ml ret y T h k j) {w : Nat} {v : Int32} {l' : Array Slot} (hd : Dec code pc (.istore w) 2 nx) (hl : storeLocals Ls w (.int v) = some l') (q : Wp n0 p e R s below Q T (mkF m nx l' S)) : Wp n0 p e R s below Q T (mkF m pc Ls (.int v :: S)) := by
  obtain ⟨hx, hZ, hby, hml, hret, hown, hnm, hlk, eT, hn0, hw, locs, N, Y⟩ := X
  obtain ⟨hd, rfl⟩ := hd
  exact Wp.go (fun _ q => XS.istore Y.here hx rfl (hb hby hd) rfl hl q) q
theorem w_istoreE (X : Pos Z a0 n0 p l e R s m args below meth c code ml ret y T h k j) {w : Nat} {v : Int32} {l' : Int32 → Array Slot} (hd : Dec code pc (.istore w) 2 nx) (hl : ∀ z, storeLocals Ls w (.int z) = some (l' z)) (q : ∀ z, z = v → Wp n0 p e R s below Q T (mkF m nx (l' z) S)) : Wp n0 p e R s below Q T (mkF m pc Ls (.int v :: S)) := w_istore X hd (hl v) (q v rfl)
theorem w_lstore (X : Pos Z a0 n0 p l e R s m args below meth c code ml ret y T h k j) {w : Nat} {v : Int64} {l' : Array Slot} (hd : Dec code pc (.lstore w) 2 nx) (hl : storeLocals Ls w (.long v) = some l') (q : Wp n0 p e R s below Q T (mkF m nx l' S)) : Wp n0 p e R s below Q T (mkF m pc Ls (.long v :: S)) := by
  obtain ⟨hx, hZ, hby, hml, hret, hown, hnm, hlk, eT, hn0, hw, locs, N, Y⟩ := X
  obtain ⟨hd, rfl⟩ := hd
  exact Wp.go (fun _ q => XS.lstore Y.here hx rfl (hb hby hd) rfl hl q) q
theorem w_lstoreE (X : Pos Z a0 n0 p l e R s m args below meth c code ml ret y T h k j) {w : Nat} {v : Int64} {l' : Int64 → Array Slot} (hd : Dec code pc (.lstore w) 2 nx) (hl : ∀ z, storeLocals Ls w (.long z) = some (l' z)) (q : ∀ z, z = v → Wp n0 p e R s below Q T (mkF m nx (l' z) S)) : Wp n0 p e R s below Q T (mkF m pc Ls (.long v :: S)) := w_lstore X hd (hl v) (q v rfl)
theorem w_istoreNS (X : Pos Z a0 n0 p l e R s m args below meth c code ml ret y T h k j) {w : Fin 4} {v : Int32} {l' : Array Slot} {o : Slot} (hd : Dec code pc (.istore_n w) 1 nx) (hold : Ls[w.val]? = some o) (ho : One o) (hl : Ls.setIfInBounds w.val (.val (.int v)) = l') (q : Wp n0 p e R s below Q T (mkF m nx l' S)) : Wp n0 p e R s below Q T (mkF m pc Ls (.int v :: S)) := w_istoreN X hd ((XS.store1 hold ho rfl).trans (congrArg some hl)) q
theorem w_istoreS (X : Pos Z a0 n0 p l e R s m args below meth c code ml ret y T h k j) {w : Nat} {v : Int32} {l' : Array Slot} {o : Slot} (hd : Dec code pc (.istore w) 2 nx) (hold : Ls[w]? = some o) (ho : One o) (hl : Ls.setIfInBounds w (.val (.int v)) = l') (q : Wp n0 p e R s below Q T (mkF m nx l' S)) : Wp n0 p e R s below Q T (mkF m pc Ls (.int v :: S)) := w_istore X hd ((XS.store1 hold ho rfl).trans (congrArg some hl)) q
theorem w_iinc (X : Pos Z a0 n0 p l e R s m args below meth c code ml ret y T h k j) {w : Nat} {i : Int} {d v r : Int32} {l' : Array Slot} (hd : Dec code pc (.iinc w i) 3 nx) (hl : Ls[w]? = some (.val (.int v))) (hi : Int32.ofInt i = d) (hr : v + d = r) (hl' : storeLocals Ls w (.int r) = some l') (q : Wp n0 p e R s below Q T (mkF m nx l' S)) : Wp n0 p e R s below Q T (mkF m pc Ls S) := by
  obtain ⟨hx, hZ, hby, hml, hret, hown, hnm, hlk, eT, hn0, hw, locs, N, Y⟩ := X
  obtain ⟨hd, rfl⟩ := hd
  subst hi hr
  exact Wp.go (fun _ q => XS.iinc Y.here hx rfl (hb hby hd) hl hl' q) q
theorem w_dup (X : Pos Z a0 n0 p l e R s m args below meth c code ml ret y T h k j) {v : Value} (hd : Dec code pc .dup 1 nx) (hv : v.category = 1) (q : Wp n0 p e R s below Q T (mkF m nx Ls (v :: v :: S))) : Wp n0 p e R s below Q T (mkF m pc Ls (v :: S)) := by
  obtain ⟨hx, hZ, hby, hml, hret, hown, hnm, hlk, eT, hn0, hw, locs, N, Y⟩ := X
  obtain ⟨hd, rfl⟩ := hd
  exact Wp.go (fun _ q => XS.dup Y.here hx rfl (hb hby hd) rfl hv q) q
theorem w_pop (X : Pos Z a0 n0 p l e R s m args below meth c code ml ret y T h k j) {v : Value} (hd : Dec code pc .pop 1 nx) (hv : v.category = 1) (q : Wp n0 p e R s below Q T (mkF m nx Ls S)) : Wp n0 p e R s below Q T (mkF m pc Ls (v :: S)) := by
  obtain ⟨hx, hZ, hby, hml, hret, hown, hnm, hlk, eT, hn0, hw, locs, N, Y⟩ := X
  obtain ⟨hd, rfl⟩ := hd
  exact Wp.go (fun _ q => XS.pop Y.here hx rfl (hb hby hd) rfl hv q) q
theorem w_dupX1 (X : Pos Z a0 n0 p l e R s m args below meth c code ml ret y T h k j) {v w : Value} (hd : Dec code pc .dup_x1 1 nx) (hv : v.category = 1) (hw' : w.category = 1) (q : Wp n0 p e R s below Q T (mkF m nx Ls (v :: w :: v :: S))) : Wp n0 p e R s below Q T (mkF m pc Ls (v :: w :: S)) := by
  obtain ⟨hx, hZ, hby, hml, hret, hown, hnm, hlk, eT, hn0, hw, locs, N, Y⟩ := X
  obtain ⟨hd, rfl⟩ := hd
  exact Wp.go (fun _ q => XS.dupX1 Y.here hx rfl (hb hby hd) rfl hv hw' q) q
theorem w_dup2 (X : Pos Z a0 n0 p l e R s m args below meth c code ml ret y T h k j) {v w : Value} (hd : Dec code pc .dup2 1 nx) (hv : v.category = 1) (hw' : w.category = 1) (q : Wp n0 p e R s below Q T (mkF m nx Ls (v :: w :: v :: w :: S))) : Wp n0 p e R s below Q T (mkF m pc Ls (v :: w :: S)) := by
  obtain ⟨hx, hZ, hby, hml, hret, hown, hnm, hlk, eT, hn0, hw, locs, N, Y⟩ := X
  obtain ⟨hd, rfl⟩ := hd
  exact Wp.go (fun _ q => Jvm.Free.XT.dup2 Y.here hx rfl (hb hby hd) rfl hv hw' q) q
theorem w_goto (X : Pos Z a0 n0 p l e R s m args below meth c code ml ret y T h k j) {o : Int} (hd : Jmp code pc (.goto o) o nx tgt) (q : Wp n0 p e R s below Q T (mkF m tgt Ls S)) : Wp n0 p e R s below Q T (mkF m pc Ls S) := by
  obtain ⟨hx, hZ, hby, hml, hret, hown, hnm, hlk, eT, hn0, hw, locs, N, Y⟩ := X
  obtain ⟨hd, -, ho, hp⟩ := hd
  exact Wp.go (fun _ q => XS.goto Y.here hx rfl (pc0 := pc) (pc' := tgt) rfl (hb hby hd) ho hp q) q
theorem w_icmpeq (X : Pos Z a0 n0 p l e R s m args below meth c code ml ret y T h k j) {x z : Int32} {o : Int} (hd : Jmp code pc (.if_icmp .eq o) o nx tgt) (qt : x = z → Wp n0 p e R s below Q T (mkF m tgt Ls S)) (qf : ¬ x = z → Wp n0 p e R s below Q T (mkF m nx Ls S)) : Wp n0 p e R s below Q T (mkF m pc Ls (.int z :: .int x :: S)) := by
  obtain ⟨hx, hZ, hby, hml, hret, hown, hnm, hlk, eT, hn0, hw, locs, N, Y⟩ := X
  obtain ⟨hd, rfl, ho, hp⟩ := hd
  by_cases hc : x = z
  · exact Wp.go (fun _ q => XS.icmpYes Y.here hx rfl (pc0 := pc) (pc' := tgt) rfl (hb hby hd) rfl (Jvm.Free.XT.ii_eq_t hc) ho hp q) (qt hc)
  · exact Wp.go (fun _ q => XS.icmpNo Y.here hx rfl (hb hby hd) rfl (Jvm.Free.XT.ii_eq_f hc) q) (qf hc)
theorem w_ifeq (X : Pos Z a0 n0 p l e R s m args below meth c code ml ret y T h k j) {x : Int32} {o : Int} (hd : Jmp code pc (.ifCond .eq o) o nx tgt) (qt : x = 0 → Wp n0 p e R s below Q T (mkF m tgt Ls S)) (qf : ¬ x = 0 → Wp n0 p e R s below Q T (mkF m nx Ls S)) : Wp n0 p e R s below Q T (mkF m pc Ls (.int x :: S)) := by
  obtain ⟨hx, hZ, hby, hml, hret, hown, hnm, hlk, eT, hn0, hw, locs, N, Y⟩ := X
  obtain ⟨hd, rfl, ho, hp⟩ := hd
  by_cases hc : x = 0
  · exact Wp.go (fun _ q => XS.ifYes Y.here hx rfl (pc0 := pc) (pc' := tgt) rfl (hb hby hd) rfl (Jvm.Free.XT.i0_eq_t hc) ho hp q) (qt hc)
  · exact Wp.go (fun _ q => XS.ifNo Y.here hx rfl (hb hby hd) rfl (Jvm.Free.XT.i0_eq_f hc) q) (qf hc)
theorem w_lcmpeq (X : Pos Z a0 n0 p l e R s m args below meth c code ml ret y T h k j) {x z : Int64} {o : Int} {mid : Nat} (hd0 : Dec code pc .lcmp 1 mid) (hd : Jmp code mid (.ifCond .eq o) o nx tgt) (qt : x = z → Wp n0 p e R s below Q T (mkF m tgt Ls S)) (qf : ¬ x = z → Wp n0 p e R s below Q T (mkF m nx Ls S)) : Wp n0 p e R s below Q T (mkF m pc Ls (.long z :: .long x :: S)) := by
  obtain ⟨hx, hZ, hby, hml, hret, hown, hnm, hlk, eT, hn0, hw, locs, N, Y⟩ := X
  obtain ⟨hd0, rfl⟩ := hd0
  obtain ⟨hd, rfl, ho, hp⟩ := hd
  refine Wp.go (fun _ q => Jvm.Free.XT.lcmp Y.here hx rfl (hb hby hd0) rfl q) ?_
  by_cases hc : x = z
  · exact Wp.go (fun _ q => XS.ifYes Y.here hx rfl (pc0 := pc + 1) (pc' := tgt) rfl (hb hby hd) rfl (Jvm.Free.XT.ll_eq_t hc) ho hp q) (qt hc)
  · exact Wp.go (fun _ q => XS.ifNo Y.here hx rfl (hb hby hd) rfl (Jvm.Free.XT.ll_eq_f hc) q) (qf hc)
theorem w_icmpne (X : Pos Z a0 n0 p l e R s m args below meth c code ml ret y T h k j) {x z : Int32} {o : Int} (hd : Jmp code pc (.if_icmp .ne o) o nx tgt) (qt : ¬ x = z → Wp n0 p e R s below Q T (mkF m tgt Ls S)) (qf : x = z → Wp n0 p e R s below Q T (mkF m nx Ls S)) : Wp n0 p e R s below Q T (mkF m pc Ls (.int z :: .int x :: S)) := by
  obtain ⟨hx, hZ, hby, hml, hret, hown, hnm, hlk, eT, hn0, hw, locs, N, Y⟩ := X
  obtain ⟨hd, rfl, ho, hp⟩ := hd
  by_cases hc : x = z
  · exact Wp.go (fun _ q => XS.icmpNo Y.here hx rfl (hb hby hd) rfl (Jvm.Free.XT.ii_ne_f hc) q) (qf hc)
  · exact Wp.go (fun _ q => XS.icmpYes Y.here hx rfl (pc0 := pc) (pc' := tgt) rfl (hb hby hd) rfl (Jvm.Free.XT.ii_ne_t hc) ho hp q) (qt hc)
theorem w_ifne (X : Pos Z a0 n0 p l e R s m args below meth c code ml ret y T h k j) {x : Int32} {o : Int} (hd : Jmp code pc (.ifCond .ne o) o nx tgt) (qt : ¬ x = 0 → Wp n0 p e R s below Q T (mkF m tgt Ls S)) (qf : x = 0 → Wp n0 p e R s below Q T (mkF m nx Ls S)) : Wp n0 p e R s below Q T (mkF m pc Ls (.int x :: S)) := by
  obtain ⟨hx, hZ, hby, hml, hret, hown, hnm, hlk, eT, hn0, hw, locs, N, Y⟩ := X
  obtain ⟨hd, rfl, ho, hp⟩ := hd
  by_cases hc : x = 0
  · exact Wp.go (fun _ q => XS.ifNo Y.here hx rfl (hb hby hd) rfl (Jvm.Free.XT.i0_ne_f hc) q) (qf hc)
  · exact Wp.go (fun _ q => XS.ifYes Y.here hx rfl (pc0 := pc) (pc' := tgt) rfl (hb hby hd) rfl (Jvm.Free.XT.i0_ne_t hc) ho hp q) (qt hc)
theorem w_lcmpne (X : Pos Z a0 n0 p l e R s m args below meth c code ml ret y T h k j) {x z : Int64} {o : Int} {mid : Nat} (hd0 : Dec code pc .lcmp 1 mid) (hd : Jmp code mid (.ifCond .ne o) o nx tgt) (qt : ¬ x = z → Wp n0 p e R s below Q T (mkF m tgt Ls S)) (qf : x = z → Wp n0 p e R s below Q T (mkF m nx Ls S)) : Wp n0 p e R s below Q T (mkF m pc Ls (.long z :: .long x :: S)) := by
  obtain ⟨hx, hZ, hby, hml, hret, hown, hnm, hlk, eT, hn0, hw, locs, N, Y⟩ := X
  obtain ⟨hd0, rfl⟩ := hd0
  obtain ⟨hd, rfl, ho, hp⟩ := hd
  refine Wp.go (fun _ q => Jvm.Free.XT.lcmp Y.here hx rfl (hb hby hd0) rfl q) ?_
  by_cases hc : x = z
  · exact Wp.go (fun _ q => XS.ifNo Y.here hx rfl (hb hby hd) rfl (Jvm.Free.XT.ll_ne_f hc) q) (qf hc)
  · exact Wp.go (fun _ q => XS.ifYes Y.here hx rfl (pc0 := pc + 1) (pc' := tgt) rfl (hb hby hd) rfl (Jvm.Free.XT.ll_ne_t hc) ho hp q) (qt hc)
theorem w_icmplt (X : Pos Z a0 n0 p l e R s m args below meth c code ml ret y T h k j) {x z : Int32} {o : Int} (hd : Jmp code pc (.if_icmp .lt o) o nx tgt) (qt : x < z → Wp n0 p e R s below Q T (mkF m tgt Ls S)) (qf : ¬ x < z → Wp n0 p e R s below Q T (mkF m nx Ls S)) : Wp n0 p e R s below Q T (mkF m pc Ls (.int z :: .int x :: S)) := by
  obtain ⟨hx, hZ, hby, hml, hret, hown, hnm, hlk, eT, hn0, hw, locs, N, Y⟩ := X
  obtain ⟨hd, rfl, ho, hp⟩ := hd
  by_cases hc : x < z
  · exact Wp.go (fun _ q => XS.icmpYes Y.here hx rfl (pc0 := pc) (pc' := tgt) rfl (hb hby hd) rfl (Jvm.Free.XT.ii_lt_t hc) ho hp q) (qt hc)
  · exact Wp.go (fun _ q => XS.icmpNo Y.here hx rfl (hb hby hd) rfl (Jvm.Free.XT.ii_lt_f hc) q) (qf hc)
theorem w_iflt (X : Pos Z a0 n0 p l e R s m args below meth c code ml ret y T h k j) {x : Int32} {o : Int} (hd : Jmp code pc (.ifCond .lt o) o nx tgt) (qt : x < 0 → Wp n0 p e R s below Q T (mkF m tgt Ls S)) (qf : ¬ x < 0 → Wp n0 p e R s below Q T (mkF m nx Ls S)) : Wp n0 p e R s below Q T (mkF m pc Ls (.int x :: S)) := by
  obtain ⟨hx, hZ, hby, hml, hret, hown, hnm, hlk, eT, hn0, hw, locs, N, Y⟩ := X
  obtain ⟨hd, rfl, ho, hp⟩ := hd
  by_cases hc : x < 0
  · exact Wp.go (fun _ q => XS.ifYes Y.here hx rfl (pc0 := pc) (pc' := tgt) rfl (hb hby hd) rfl (Jvm.Free.XT.i0_lt_t hc) ho hp q) (qt hc)
  · exact Wp.go (fun _ q => XS.ifNo Y.here hx rfl (hb hby hd) rfl (Jvm.Free.XT.i0_lt_f hc) q) (qf hc)
theorem w_lcmplt (X : Pos Z a0 n0 p l e R s m args below meth c code ml ret y T h k j) {x z : Int64} {o : Int} {mid : Nat} (hd0 : Dec code pc .lcmp 1 mid) (hd : Jmp code mid (.ifCond .lt o) o nx tgt) (qt : x < z → Wp n0 p e R s below Q T (mkF m tgt Ls S)) (qf : ¬ x < z → Wp n0 p e R s below Q T (mkF m nx Ls S)) : Wp n0 p e R s below Q T (mkF m pc Ls (.long z :: .long x :: S)) := by
  obtain ⟨hx, hZ, hby, hml, hret, hown, hnm, hlk, eT, hn0, hw, locs, N, Y⟩ := X
  obtain ⟨hd0, rfl⟩ := hd0
  obtain ⟨hd, rfl, ho, hp⟩ := hd
  refine Wp.go (fun _ q => Jvm.Free.XT.lcmp Y.here hx rfl (hb hby hd0) rfl q) ?_
  by_cases hc : x < z
  · exact Wp.go (fun _ q => XS.ifYes Y.here hx rfl (pc0 := pc + 1) (pc' := tgt) rfl (hb hby hd) rfl (Jvm.Free.XT.ll_lt_t hc) ho hp q) (qt hc)
  · exact Wp.go (fun _ q => XS.ifNo Y.here hx rfl (hb hby hd) rfl (Jvm.Free.XT.ll_lt_f hc) q) (qf hc)
theorem w_icmpge (X : Pos Z a0 n0 p l e R s m args below meth c code ml ret y T h k j) {x z : Int32} {o : Int} (hd : Jmp code pc (.if_icmp .ge o) o nx tgt) (qt : ¬ x < z → Wp n0 p e R s below Q T (mkF m tgt Ls S)) (qf : x < z → Wp n0 p e R s below Q T (mkF m nx Ls S)) : Wp n0 p e R s below Q T (mkF m pc Ls (.int z :: .int x :: S)) := by
  obtain ⟨hx, hZ, hby, hml, hret, hown, hnm, hlk, eT, hn0, hw, locs, N, Y⟩ := X
  obtain ⟨hd, rfl, ho, hp⟩ := hd
  by_cases hc : x < z
  · exact Wp.go (fun _ q => XS.icmpNo Y.here hx rfl (hb hby hd) rfl (Jvm.Free.XT.ii_ge_f hc) q) (qf hc)
  · exact Wp.go (fun _ q => XS.icmpYes Y.here hx rfl (pc0 := pc) (pc' := tgt) rfl (hb hby hd) rfl (Jvm.Free.XT.ii_ge_t hc) ho hp q) (qt hc)
theorem w_ifge (X : Pos Z a0 n0 p l e R s m args below meth c code ml ret y T h k j) {x : Int32} {o : Int} (hd : Jmp code pc (.ifCond .ge o) o nx tgt) (qt : ¬ x < 0 → Wp n0 p e R s below Q T (mkF m tgt Ls S)) (qf : x < 0 → Wp n0 p e R s below Q T (mkF m nx Ls S)) : Wp n0 p e R s below Q T (mkF m pc Ls (.int x :: S)) := by
  obtain ⟨hx, hZ, hby, hml, hret, hown, hnm, hlk, eT, hn0, hw, locs, N, Y⟩ := X
  obtain ⟨hd, rfl, ho, hp⟩ := hd
  by_cases hc : x < 0
  · exact Wp.go (fun _ q => XS.ifNo Y.here hx rfl (hb hby hd) rfl (Jvm.Free.XT.i0_ge_f hc) q) (qf hc)
  · exact Wp.go (fun _ q => XS.ifYes Y.here hx rfl (pc0 := pc) (pc' := tgt) rfl (hb hby hd) rfl (Jvm.Free.XT.i0_ge_t hc) ho hp q) (qt hc)
theorem w_lcmpge (X : Pos Z a0 n0 p l e R s m args below meth c code ml ret y T h k j) {x z : Int64} {o : Int} {mid : Nat} (hd0 : Dec code pc .lcmp 1 mid) (hd : Jmp code mid (.ifCond .ge o) o nx tgt) (qt : ¬ x < z → Wp n0 p e R s below Q T (mkF m tgt Ls S)) (qf : x < z → Wp n0 p e R s below Q T (mkF m nx Ls S)) : Wp n0 p e R s below Q T (mkF m pc Ls (.long z :: .long x :: S)) := by
  obtain ⟨hx, hZ, hby, hml, hret, hown, hnm, hlk, eT, hn0, hw, locs, N, Y⟩ := X
  obtain ⟨hd0, rfl⟩ := hd0
  obtain ⟨hd, rfl, ho, hp⟩ := hd
  refine Wp.go (fun _ q => Jvm.Free.XT.lcmp Y.here hx rfl (hb hby hd0) rfl q) ?_
  by_cases hc : x < z
  · exact Wp.go (fun _ q => XS.ifNo Y.here hx rfl (hb hby hd) rfl (Jvm.Free.XT.ll_ge_f hc) q) (qf hc)
  · exact Wp.go (fun _ q => XS.ifYes Y.here hx rfl (pc0 := pc + 1) (pc' := tgt) rfl (hb hby hd) rfl (Jvm.Free.XT.ll_ge_t hc) ho hp q) (qt hc)
theorem w_icmpgt (X : Pos Z a0 n0 p l e R s m args below meth c code ml ret y T h k j) {x z : Int32} {o : Int} (hd : Jmp code pc (.if_icmp .gt o) o nx tgt) (qt : z < x → Wp n0 p e R s below Q T (mkF m tgt Ls S)) (qf : ¬ z < x → Wp n0 p e R s below Q T (mkF m nx Ls S)) : Wp n0 p e R s below Q T (mkF m pc Ls (.int z :: .int x :: S)) := by
  obtain ⟨hx, hZ, hby, hml, hret, hown, hnm, hlk, eT, hn0, hw, locs, N, Y⟩ := X
  obtain ⟨hd, rfl, ho, hp⟩ := hd
  by_cases hc : z < x
  · exact Wp.go (fun _ q => XS.icmpYes Y.here hx rfl (pc0 := pc) (pc' := tgt) rfl (hb hby hd) rfl (Jvm.Free.XT.ii_gt_t hc) ho hp q) (qt hc)
  · exact Wp.go (fun _ q => XS.icmpNo Y.here hx rfl (hb hby hd) rfl (Jvm.Free.XT.ii_gt_f hc) q) (qf hc)
theorem w_ifgt (X : Pos Z a0 n0 p l e R s m args below meth c code ml ret y T h k j) {x : Int32} {o : Int} (hd : Jmp code pc (.ifCond .gt o) o nx tgt) (qt : 0 < x → Wp n0 p e R s below Q T (mkF m tgt Ls S)) (qf : ¬ 0 < x → Wp n0 p e R s below Q T (mkF m nx Ls S)) : Wp n0 p e R s below Q T (mkF m pc Ls (.int x :: S)) := by
  obtain ⟨hx, hZ, hby, hml, hret, hown, hnm, hlk, eT, hn0, hw, locs, N, Y⟩ := X
  obtain ⟨hd, rfl, ho, hp⟩ := hd
  by_cases hc : 0 < x
  · exact Wp.go (fun _ q => XS.ifYes Y.here hx rfl (pc0 := pc) (pc' := tgt) rfl (hb hby hd) rfl (Jvm.Free.XT.i0_gt_t hc) ho hp q) (qt hc)
  · exact Wp.go (fun _ q => XS.ifNo Y.here hx rfl (hb hby hd) rfl (Jvm.Free.XT.i0_gt_f hc) q) (qf hc)
theorem w_lcmpgt (X : Pos Z a0 n0 p l e R s m args below meth c code ml ret y T h k j) {x z : Int64} {o : Int} {mid : Nat} (hd0 : Dec code pc .lcmp 1 mid) (hd : Jmp code mid (.ifCond .gt o) o nx tgt) (qt : z < x → Wp n0 p e R s below Q T (mkF m tgt Ls S)) (qf : ¬ z < x → Wp n0 p e R s below Q T (mkF m nx Ls S)) : Wp n0 p e R s below Q T (mkF m pc Ls (.long z :: .long x :: S)) := by
  obtain ⟨hx, hZ, hby, hml, hret, hown, hnm, hlk, eT, hn0, hw, locs, N, Y⟩ := X
  obtain ⟨hd0, rfl⟩ := hd0
  obtain ⟨hd, rfl, ho, hp⟩ := hd
  refine Wp.go (fun _ q => Jvm.Free.XT.lcmp Y.here hx rfl (hb hby hd0) rfl q) ?_
  by_cases hc : z < x
  · exact Wp.go (fun _ q => XS.ifYes Y.here hx rfl (pc0 := pc + 1) (pc' := tgt) rfl (hb hby hd) rfl (Jvm.Free.XT.ll_gt_t hc) ho hp q) (qt hc)
  · exact Wp.go (fun _ q => XS.ifNo Y.here hx rfl (hb hby hd) rfl (Jvm.Free.XT.ll_gt_f hc) q) (qf hc)
theorem w_icmple (X : Pos Z a0 n0 p l e R s m args below meth c code ml ret y T h k j) {x z : Int32} {o : Int} (hd : Jmp code pc (.if_icmp .le o) o nx tgt) (qt : ¬ z < x → Wp n0 p e R s below Q T (mkF m tgt Ls S)) (qf : z < x → Wp n0 p e R s below Q T (mkF m nx Ls S)) : Wp n0 p e R s below Q T (mkF m pc Ls (.int z :: .int x :: S)) := by
  obtain ⟨hx, hZ, hby, hml, hret, hown, hnm, hlk, eT, hn0, hw, locs, N, Y⟩ := X
  obtain ⟨hd, rfl, ho, hp⟩ := hd
  by_cases hc : z < x
  · exact Wp.go (fun _ q => XS.icmpNo Y.here hx rfl (hb hby hd) rfl (Jvm.Free.XT.ii_le_f hc) q) (qf hc)
  · exact Wp.go (fun _ q => XS.icmpYes Y.here hx rfl (pc0 := pc) (pc' := tgt) rfl (hb hby hd) rfl (Jvm.Free.XT.ii_le_t hc) ho hp q) (qt hc)
theorem w_ifle (X : Pos Z a0 n0 p l e R s m args below meth c code ml ret y T h k j) {x : Int32} {o : Int} (hd : Jmp code pc (.ifCond .le o) o nx tgt) (qt : ¬ 0 < x → Wp n0 p e R s below Q T (mkF m tgt Ls S)) (qf : 0 < x → Wp n0 p e R s below Q T (mkF m nx Ls S)) : Wp n0 p e R s below Q T (mkF m pc Ls (.int x :: S)) := by
  obtain ⟨hx, hZ, hby, hml, hret, hown, hnm, hlk, eT, hn0, hw, locs, N, Y⟩ := X
  obtain ⟨hd, rfl, ho, hp⟩ := hd
  by_cases hc : 0 < x
  · exact Wp.go (fun _ q => XS.ifNo Y.here hx rfl (hb hby hd) rfl (Jvm.Free.XT.i0_le_f hc) q) (qf hc)
  · exact Wp.go (fun _ q => XS.ifYes Y.here hx rfl (pc0 := pc) (pc' := tgt) rfl (hb hby hd) rfl (Jvm.Free.XT.i0_le_t hc) ho hp q) (qt hc)
theorem w_lcmple (X : Pos Z a0 n0 p l e R s m args below meth c code ml ret y T h k j) {x z : Int64} {o : Int} {mid : Nat} (hd0 : Dec code pc .lcmp 1 mid) (hd : Jmp code mid (.ifCond .le o) o nx tgt) (qt : ¬ z < x → Wp n0 p e R s below Q T (mkF m tgt Ls S)) (qf : z < x → Wp n0 p e R s below Q T (mkF m nx Ls S)) : Wp n0 p e R s below Q T (mkF m pc Ls (.long z :: .long x :: S)) := by
  obtain ⟨hx, hZ, hby, hml, hret, hown, hnm, hlk, eT, hn0, hw, locs, N, Y⟩ := X
  obtain ⟨hd0, rfl⟩ := hd0
  obtain ⟨hd, rfl, ho, hp⟩ := hd
  refine Wp.go (fun _ q => Jvm.Free.XT.lcmp Y.here hx rfl (hb hby hd0) rfl q) ?_
  by_cases hc : z < x
  · exact Wp.go (fun _ q => XS.ifNo Y.here hx rfl (hb hby hd) rfl (Jvm.Free.XT.ll_le_f hc) q) (qf hc)
  · exact Wp.go (fun _ q => XS.ifYes Y.here hx rfl (pc0 := pc + 1) (pc' := tgt) rfl (hb hby hd) rfl (Jvm.Free.XT.ll_le_t hc) ho hp q) (qt hc)
theorem w_ldc (X : Pos Z a0 n0 p l e R s m args below meth c code ml ret y T h k j) {i : Nat} {v : Int32} (hd : Dec code pc (.ldc i) 2 nx) (wc : (Jvm.Cond.constant y.cls i v).before a0 Z = true) (q : Wp n0 p e R s below Q T (mkF m nx Ls (.int v :: S))) : Wp n0 p e R s below Q T (mkF m pc Ls S) := by
  obtain ⟨hx, hZ, hby, hml, hret, hown, hnm, hlk, eT, hn0, hw, locs, N, Y⟩ := X
  obtain ⟨hd, rfl⟩ := hd
  exact Wp.go (Y.ldcInt hx hown (mvT hZ wc) rfl (hb hby hd)) q
theorem w_ldc2 (X : Pos Z a0 n0 p l e R s m args below meth c code ml ret y T h k j) {i : Nat} {v : Int64} (hd : Dec code pc (.ldc2_w i) 3 nx) (wc : (Jvm.Cond.constantLong y.cls i v).before a0 Z = true) (q : Wp n0 p e R s below Q T (mkF m nx Ls (.long v :: S))) : Wp n0 p e R s below Q T (mkF m pc Ls S) := by
  obtain ⟨hx, hZ, hby, hml, hret, hown, hnm, hlk, eT, hn0, hw, locs, N, Y⟩ := X
  obtain ⟨hd, rfl⟩ := hd
  exact Wp.go (Y.ldc2Long hx hown (mvT hZ wc) rfl (hb hby hd)) q
theorem w_ldcw (X : Pos Z a0 n0 p l e R s m args below meth c code ml ret y T h k j) {i : Nat} {v : Int32} (hd : Dec code pc (.ldc_w i) 3 nx) (wc : (Jvm.Cond.constant y.cls i v).before a0 Z = true) (q : Wp n0 p e R s below Q T (mkF m nx Ls (.int v :: S))) : Wp n0 p e R s below Q T (mkF m pc Ls S) := by
  obtain ⟨hx, hZ, hby, hml, hret, hown, hnm, hlk, eT, hn0, hw, locs, N, Y⟩ := X
  obtain ⟨hd, rfl⟩ := hd
  exact Wp.go (Y.ldcwInt hx hown (mvT hZ wc) rfl (hb hby hd)) q
theorem w_wiinc (X : Pos Z a0 n0 p l e R s m args below meth c code ml ret y T h k j) {w : Nat} {i : Int} {d v r : Int32} {l' : Array Slot} (hd : Dec code pc (.iinc w i) 6 nx) (hl : Ls[w]? = some (.val (.int v))) (hi : Int32.ofInt i = d) (hr : v + d = r) (hl' : storeLocals Ls w (.int r) = some l') (q : Wp n0 p e R s below Q T (mkF m nx l' S)) : Wp n0 p e R s below Q T (mkF m pc Ls S) := by
  obtain ⟨hx, hZ, hby, hml, hret, hown, hnm, hlk, eT, hn0, hw, locs, N, Y⟩ := X
  obtain ⟨hd, rfl⟩ := hd
  subst hi hr
  refine Wp.go (fun _ q => ?_) q
  have hd' := hb hby hd
  have h := Y.here
  jvm_step h [h.top, hx, hd', hl, hl']
  exact q
theorem w_ireturn (X : Pos Z a0 n0 p l e R s m args below meth c code ml (some .int) y T h k j) {z : Int32} (hd : Dec code pc .ireturn 1 nx) (hk : k ≤ R.cells) (hj : j ≤ R.slots) (hq : Q (some (.int z)) h) : Wp n0 p e R s below Q T (mkF m pc Ls (.int z :: S)) := by
  obtain ⟨hx, hZ, hby, hml, hret, hown, hnm, hlk, eT, hn0, hw, locs, N, Y⟩ := X
  obtain ⟨hd, -⟩ := hd
  obtain ⟨fs, hr, hrun, hended, hW, hsame⟩ := Y.leave (v := (some (.int z))) (fun h => by rw [hret] at h; cases h) hlk
  exact ⟨_, _, retI Y hx hret (hb hby hd) hr, hrun, hended, _, _, rfl, ⟨N, by show n0 ≤ T.heap.size; rw [eT]; exact hn0, by show Q _ T.heap; rw [eT]; exact hq⟩, ⟨_, rfl⟩, hW, hsame.mono hk hj⟩
theorem w_breturn (X : Pos Z a0 n0 p l e R s m args below meth c code ml (some .byte) y T h k j) {z : Int32} (hd : Dec code pc .ireturn 1 nx) (hk : k ≤ R.cells) (hj : j ≤ R.slots) (hq : Q (some (.int (nar .byte z))) h) : Wp n0 p e R s below Q T (mkF m pc Ls (.int z :: S)) := by
  obtain ⟨hx, hZ, hby, hml, hret, hown, hnm, hlk, eT, hn0, hw, locs, N, Y⟩ := X
  obtain ⟨hd, -⟩ := hd
  obtain ⟨fs, hr, hrun, hended, hW, hsame⟩ := Y.leave (v := (some (.int (nar .byte z)))) (fun h => by rw [hret] at h; cases h) hlk
  exact ⟨_, _, retN Y hx (t := .byte) hret (by simp) (hb hby hd) hr, hrun, hended, _, _, rfl, ⟨N, by show n0 ≤ T.heap.size; rw [eT]; exact hn0, by show Q _ T.heap; rw [eT]; exact hq⟩, ⟨_, rfl⟩, hW, hsame.mono hk hj⟩
theorem w_zreturn (X : Pos Z a0 n0 p l e R s m args below meth c code ml (some .boolean) y T h k j) {z : Int32} (hd : Dec code pc .ireturn 1 nx) (hk : k ≤ R.cells) (hj : j ≤ R.slots) (hq : Q (some (.int (nar .boolean z))) h) : Wp n0 p e R s below Q T (mkF m pc Ls (.int z :: S)) := by
  obtain ⟨hx, hZ, hby, hml, hret, hown, hnm, hlk, eT, hn0, hw, locs, N, Y⟩ := X
  obtain ⟨hd, -⟩ := hd
  obtain ⟨fs, hr, hrun, hended, hW, hsame⟩ := Y.leave (v := (some (.int (nar .boolean z)))) (fun h => by rw [hret] at h; cases h) hlk
  exact ⟨_, _, retN Y hx (t := .boolean) hret (by simp) (hb hby hd) hr, hrun, hended, _, _, rfl, ⟨N, by show n0 ≤ T.heap.size; rw [eT]; exact hn0, by show Q _ T.heap; rw [eT]; exact hq⟩, ⟨_, rfl⟩, hW, hsame.mono hk hj⟩
theorem w_lreturn (X : Pos Z a0 n0 p l e R s m args below meth c code ml (some .long) y T h k j) {z : Int64} (hd : Dec code pc .lreturn 1 nx) (hk : k ≤ R.cells) (hj : j ≤ R.slots) (hq : Q (some (.long z)) h) : Wp n0 p e R s below Q T (mkF m pc Ls [.long z]) := by
  obtain ⟨hx, hZ, hby, hml, hret, hown, hnm, hlk, eT, hn0, hw, locs, N, Y⟩ := X
  obtain ⟨hd, -⟩ := hd
  obtain ⟨fs, hr, hrun, hended, hW, hsame⟩ := Y.leave (v := (some (.long z))) (fun h => by rw [hret] at h; cases h) hlk
  exact ⟨_, _, Y.lreturnOut hx hret (hb hby hd) hr, hrun, hended, _, _, rfl, ⟨N, by show n0 ≤ T.heap.size; rw [eT]; exact hn0, by show Q _ T.heap; rw [eT]; exact hq⟩, ⟨_, rfl⟩, hW, hsame.mono hk hj⟩
theorem w_return (X : Pos Z a0 n0 p l e R s m args below meth c code ml none y T h k j)  (hd : Dec code pc .return_ 1 nx) (hk : k ≤ R.cells) (hj : j ≤ R.slots) (hq : Q none h) : Wp n0 p e R s below Q T (mkF m pc Ls []) := by
  obtain ⟨hx, hZ, hby, hml, hret, hown, hnm, hlk, eT, hn0, hw, locs, N, Y⟩ := X
  obtain ⟨hd, -⟩ := hd
  obtain ⟨fs, hr, hrun, hended, hW, hsame⟩ := Y.leave (v := none) (fun _ => rfl) hlk
  exact ⟨_, _, Y.returnOut hx hret (hb hby hd) hr, hrun, hended, _, _, rfl, ⟨N, by show n0 ≤ T.heap.size; rw [eT]; exact hn0, by show Q _ T.heap; rw [eT]; exact hq⟩, ⟨_, rfl⟩, hW, hsame.mono hk hj⟩
theorem w_arraylength (X : Pos Z a0 n0 p l e R s m args below meth c code ml ret y T h k j) {a : Addr} {ty : FieldType} {n : Nat} {g : Nat → Value} (hd : Dec code pc .arraylength 1 nx) (B : Ba Z n0 h a ty n g) (q : Wp n0 p e R s below Q T (mkF m nx Ls (.int (Int32.ofNat n) :: S))) : Wp n0 p e R s below Q T (mkF m pc Ls (.ref a :: S)) := by
  obtain ⟨hx, hZ, hby, hml, hret, hown, hnm, hlk, eT, hn0, hw, locs, N, Y⟩ := X
  obtain ⟨hd, rfl⟩ := hd
  obtain ⟨-, hn, cl, A, hs, -⟩ := B
  subst hs
  exact Wp.go (fun _ q => Y.arraylength hx (g := mkF m pc Ls (.ref a :: S)) (cell := cl) (by rw [eT]; exact A.1) (State.isArrayOf_alike hZ.alike A.2.1) rfl rfl (hb hby hd) _ q) q
theorem w_baload (X : Pos Z a0 n0 p l e R s m args below meth c code ml ret y T h k j) {a : Addr} {n : Nat} {b : Nat → Int32} {x : Int32} (hd : Dec code pc .baload 1 nx) (B : Ba Z n0 h a .byte n (bI b)) (i : Nat) (hi : x = Int32.ofNat i) (hlt : i < n) (q : Wp n0 p e R s below Q T (mkF m nx Ls (.int (b i) :: S))) : Wp n0 p e R s below Q T (mkF m pc Ls (.int x :: .ref a :: S)) := by
  obtain ⟨hx, hZ, hby, hml, hret, hown, hnm, hlk, eT, hn0, hw, locs, N, Y⟩ := X
  obtain ⟨hd, rfl⟩ := hd
  obtain ⟨-, hn, cl, A, hs, hv⟩ := B
  subst hi
  exact Wp.go (fun _ q => Y.baloadBytes hx (g := mkF m pc Ls (.int (Int32.ofNat i) :: .ref a :: S)) (j := Int32.ofNat i) (v := .int (b i)) (by rw [eT]; exact A.1) (State.isArrayOf_alike hZ.alike A.2.1) A.2.2 (inb hn hs hlt) (by rw [ofNat_clamp (by omega)]; exact hv i hlt) rfl rfl (hb hby hd) _ q) q
theorem w_iaload (X : Pos Z a0 n0 p l e R s m args below meth c code ml ret y T h k j) {a : Addr} {n : Nat} {b : Nat → Int32} {x : Int32} (hd : Dec code pc .iaload 1 nx) (B : Ba Z n0 h a .int n (bI b)) (i : Nat) (hi : x = Int32.ofNat i) (hlt : i < n) (q : Wp n0 p e R s below Q T (mkF m nx Ls (.int (b i) :: S))) : Wp n0 p e R s below Q T (mkF m pc Ls (.int x :: .ref a :: S)) := by
  obtain ⟨hx, hZ, hby, hml, hret, hown, hnm, hlk, eT, hn0, hw, locs, N, Y⟩ := X
  obtain ⟨hd, rfl⟩ := hd
  obtain ⟨-, hn, cl, A, hs, hv⟩ := B
  subst hi
  exact Wp.go (fun _ q => Y.iaload hx (g := mkF m pc Ls (.int (Int32.ofNat i) :: .ref a :: S)) (j := Int32.ofNat i) (v := .int (b i)) (by rw [eT]; exact A.1) (State.isArrayOf_alike hZ.alike A.2.1) A.2.2 (inb hn hs hlt) (by rw [ofNat_clamp (by omega)]; exact hv i hlt) rfl rfl (hb hby hd) _ q) q
theorem w_laload (X : Pos Z a0 n0 p l e R s m args below meth c code ml ret y T h k j) {a : Addr} {n : Nat} {b : Nat → Int64} {x : Int32} (hd : Dec code pc .laload 1 nx) (B : Ba Z n0 h a .long n (bJ b)) (i : Nat) (hi : x = Int32.ofNat i) (hlt : i < n) (q : Wp n0 p e R s below Q T (mkF m nx Ls (.long (b i) :: S))) : Wp n0 p e R s below Q T (mkF m pc Ls (.int x :: .ref a :: S)) := by
  obtain ⟨hx, hZ, hby, hml, hret, hown, hnm, hlk, eT, hn0, hw, locs, N, Y⟩ := X
  obtain ⟨hd, rfl⟩ := hd
  obtain ⟨-, hn, cl, A, hs, hv⟩ := B
  subst hi
  exact Wp.go (fun _ q => Y.laload hx (g := mkF m pc Ls (.int (Int32.ofNat i) :: .ref a :: S)) (j := Int32.ofNat i) (v := .long (b i)) (by rw [eT]; exact A.1) (State.isArrayOf_alike hZ.alike A.2.1) A.2.2 (inb hn hs hlt) (by rw [ofNat_clamp (by omega)]; exact hv i hlt) rfl rfl (hb hby hd) _ q) q
theorem w_bastore (X : Pos Z a0 n0 p l e R s m args below meth c code ml ret y T h k j) {a : Addr} {n : Nat} {b : Nat → Int32} {x : Int32} {v : Int32} (hd : Dec code pc .bastore 1 nx) (B : Ba Z n0 h a .byte n (bI b)) (i : Nat) (hi : x = Int32.ofNat i) (hlt : i < n)
    (q : ∀ T' h', Pos Z a0 n0 p l e R s m args below meth c code ml ret y T' h' k j → Keep h h' [a] → Ba Z n0 h' a .byte n (bI (upd b i (jbyte v))) → Wp n0 p e R s below Q T' (mkF m nx Ls S)) : Wp n0 p e R s below Q T (mkF m pc Ls (.int v :: .int x :: .ref a :: S)) := by
  obtain ⟨hx, hZ, hby, hml, hret, hown, hnm, hlk, eT, hn0, hw, locs, N, Y⟩ := X
  obtain ⟨hd, rfl⟩ := hd
  obtain ⟨hna, hn, cl, A, hs, hv⟩ := B
  subst hi
  obtain ⟨T', h', Y', e', W', st⟩ := stB Y hx hZ eT A (j := Int32.ofNat i) (inb hn hs hlt) (g := mkF m pc Ls (.int v :: .int (Int32.ofNat i) :: .ref a :: S)) rfl rfl (hb hby hd)
  refine Wp.go st (q T' h' ⟨hx, hZ, hby, hml, hret, hown, hnm, hlk, e', by rw [W'.size]; exact hn0, hw, _, Fr.snoc Y' N hna, Y'⟩ (Keep.of_wr W') ⟨hna, hn, _, A.same W', (sz_set _ _ _).trans hs, fun q hq => ?_⟩)
  rw [ofNat_clamp (by omega)]
  by_cases hqi : q = i
  · subst hqi
    simp [Cell.setSlot, hs, hq, upd, bI, nar]
  · simp [Cell.setSlot, upd, hqi, bI, Array.getElem?_setIfInBounds_ne (Ne.symm hqi), hv q hq]
theorem w_iastore (X : Pos Z a0 n0 p l e R s m args below meth c code ml ret y T h k j) {a : Addr} {n : Nat} {b : Nat → Int32} {x : Int32} {v : Int32} (hd : Dec code pc .iastore 1 nx) (B : Ba Z n0 h a .int n (bI b)) (i : Nat) (hi : x = Int32.ofNat i) (hlt : i < n)
    (q : ∀ T' h', Pos Z a0 n0 p l e R s m args below meth c code ml ret y T' h' k j → Keep h h' [a] → Ba Z n0 h' a .int n (bI (upd b i (v))) → Wp n0 p e R s below Q T' (mkF m nx Ls S)) : Wp n0 p e R s below Q T (mkF m pc Ls (.int v :: .int x :: .ref a :: S)) := by
  obtain ⟨hx, hZ, hby, hml, hret, hown, hnm, hlk, eT, hn0, hw, locs, N, Y⟩ := X
  obtain ⟨hd, rfl⟩ := hd
  obtain ⟨hna, hn, cl, A, hs, hv⟩ := B
  subst hi
  obtain ⟨T', h', Y', e', W', st⟩ := stI Y hx hZ eT A (j := Int32.ofNat i) (inb hn hs hlt) (g := mkF m pc Ls (.int v :: .int (Int32.ofNat i) :: .ref a :: S)) rfl rfl (hb hby hd)
  refine Wp.go st (q T' h' ⟨hx, hZ, hby, hml, hret, hown, hnm, hlk, e', by rw [W'.size]; exact hn0, hw, _, Fr.snoc Y' N hna, Y'⟩ (Keep.of_wr W') ⟨hna, hn, _, A.same W', (sz_set _ _ _).trans hs, fun q hq => ?_⟩)
  rw [ofNat_clamp (by omega)]
  by_cases hqi : q = i
  · subst hqi
    simp [Cell.setSlot, hs, hq, upd, bI]
  · simp [Cell.setSlot, upd, hqi, bI, Array.getElem?_setIfInBounds_ne (Ne.symm hqi), hv q hq]
theorem w_lastore (X : Pos Z a0 n0 p l e R s m args below meth c code ml ret y T h k j) {a : Addr} {n : Nat} {b : Nat → Int64} {x : Int32} {v : Int64} (hd : Dec code pc .lastore 1 nx) (B : Ba Z n0 h a .long n (bJ b)) (i : Nat) (hi : x = Int32.ofNat i) (hlt : i < n)
    (q : ∀ T' h', Pos Z a0 n0 p l e R s m args below meth c code ml ret y T' h' k j → Keep h h' [a] → Ba Z n0 h' a .long n (bJ (upd b i (v))) → Wp n0 p e R s below Q T' (mkF m nx Ls S)) : Wp n0 p e R s below Q T (mkF m pc Ls (.long v :: .int x :: .ref a :: S)) := by
  obtain ⟨hx, hZ, hby, hml, hret, hown, hnm, hlk, eT, hn0, hw, locs, N, Y⟩ := X
  obtain ⟨hd, rfl⟩ := hd
  obtain ⟨hna, hn, cl, A, hs, hv⟩ := B
  subst hi
  obtain ⟨T', h', Y', e', W', st⟩ := stJ Y hx hZ eT A (j := Int32.ofNat i) (inb hn hs hlt) (g := mkF m pc Ls (.long v :: .int (Int32.ofNat i) :: .ref a :: S)) rfl rfl (hb hby hd)
  refine Wp.go st (q T' h' ⟨hx, hZ, hby, hml, hret, hown, hnm, hlk, e', by rw [W'.size]; exact hn0, hw, _, Fr.snoc Y' N hna, Y'⟩ (Keep.of_wr W') ⟨hna, hn, _, A.same W', (sz_set _ _ _).trans hs, fun q hq => ?_⟩)
  rw [ofNat_clamp (by omega)]
  by_cases hqi : q = i
  · subst hqi
    simp [Cell.setSlot, hs, hq, upd, bJ]
  · simp [Cell.setSlot, upd, hqi, bJ, Array.getElem?_setIfInBounds_ne (Ne.symm hqi), hv q hq]
theorem w_newB (X : Pos Z a0 n0 p l e R s m args below meth c code ml ret y T h k j) {x : Int32} (hd : Dec code pc (.newarray .byte) 2 nx) (wa : (Jvm.Cond.arrayClass .byte).before a0 Z = true) (n cap : Nat) (hx' : x = Int32.ofNat n) (hcap : n ≤ cap) (hb' : cap * 8 ≤ 536870912) (hk : k + 1 ≤ R.cells) (hj : j + cap ≤ R.slots)
    (q : ∀ T' h' a, Pos Z a0 n0 p l e R s m args below meth c code ml ret y T' h' (k + 1) (j + cap) → a = h.size → Ext h h' → Ba Z n0 h' a .byte n (bI fun _ => 0) → Wp n0 p e R s below Q T' (mkF m nx Ls (.ref a :: S))) : Wp n0 p e R s below Q T (mkF m pc Ls (.int x :: S)) := by
  obtain ⟨hx, hZ, hby, hml, hret, hown, hnm, hlk, eT, hn0, hw, locs, N, Y⟩ := X
  obtain ⟨hd, rfl⟩ := hd
  subst hx'
  obtain ⟨T', h', cA, Y', e', E', A', st⟩ := newP Y hx hZ (aty := .byte) wa eT (g := mkF m pc Ls (.int (Int32.ofNat n) :: S)) rfl (hb hby hd) rfl (ofNat_nn (by omega)) (cap := cap) (by rw [ofNat_clamp (by omega)]; exact hcap) hb' hk hj
  refine Wp.go st (q T' h' _ ⟨hx, hZ, hby, hml, hret, hown, hnm, hlk, e', Nat.le_trans hn0 E'.1, hw, _, N, Y'⟩ rfl E' ⟨hn0, by omega, _, A', by rw [sz_new, ofNat_clamp (by omega)], fun i hi => ?_⟩)
  have := get_new (cA := cA) (ty := .byte) (n := Int32.ofNat n) (k := Int32.ofNat i) (by rw [ofNat_clamp (by omega), ofNat_clamp (by omega)]; exact fun q => q.elim (ofNat_nn (by omega)) (fun q => by omega))
  rw [ofNat_clamp (by omega)] at this
  exact this
theorem w_newI (X : Pos Z a0 n0 p l e R s m args below meth c code ml ret y T h k j) {x : Int32} (hd : Dec code pc (.newarray .int) 2 nx) (wa : (Jvm.Cond.arrayClass .int).before a0 Z = true) (n cap : Nat) (hx' : x = Int32.ofNat n) (hcap : n ≤ cap) (hb' : cap * 8 ≤ 536870912) (hk : k + 1 ≤ R.cells) (hj : j + cap ≤ R.slots)
    (q : ∀ T' h' a, Pos Z a0 n0 p l e R s m args below meth c code ml ret y T' h' (k + 1) (j + cap) → a = h.size → Ext h h' → Ba Z n0 h' a .int n (bI fun _ => 0) → Wp n0 p e R s below Q T' (mkF m nx Ls (.ref a :: S))) : Wp n0 p e R s below Q T (mkF m pc Ls (.int x :: S)) := by
  obtain ⟨hx, hZ, hby, hml, hret, hown, hnm, hlk, eT, hn0, hw, locs, N, Y⟩ := X
  obtain ⟨hd, rfl⟩ := hd
  subst hx'
  obtain ⟨T', h', cA, Y', e', E', A', st⟩ := newP Y hx hZ (aty := .int) wa eT (g := mkF m pc Ls (.int (Int32.ofNat n) :: S)) rfl (hb hby hd) rfl (ofNat_nn (by omega)) (cap := cap) (by rw [ofNat_clamp (by omega)]; exact hcap) hb' hk hj
  refine Wp.go st (q T' h' _ ⟨hx, hZ, hby, hml, hret, hown, hnm, hlk, e', Nat.le_trans hn0 E'.1, hw, _, N, Y'⟩ rfl E' ⟨hn0, by omega, _, A', by rw [sz_new, ofNat_clamp (by omega)], fun i hi => ?_⟩)
  have := get_new (cA := cA) (ty := .int) (n := Int32.ofNat n) (k := Int32.ofNat i) (by rw [ofNat_clamp (by omega), ofNat_clamp (by omega)]; exact fun q => q.elim (ofNat_nn (by omega)) (fun q => by omega))
  rw [ofNat_clamp (by omega)] at this
  exact this
theorem w_newJ (X : Pos Z a0 n0 p l e R s m args below meth c code ml ret y T h k j) {x : Int32} (hd : Dec code pc (.newarray .long) 2 nx) (wa : (Jvm.Cond.arrayClass .long).before a0 Z = true) (n cap : Nat) (hx' : x = Int32.ofNat n) (hcap : n ≤ cap) (hb' : cap * 8 ≤ 536870912) (hk : k + 1 ≤ R.cells) (hj : j + cap ≤ R.slots)
    (q : ∀ T' h' a, Pos Z a0 n0 p l e R s m args below meth c code ml ret y T' h' (k + 1) (j + cap) → a = h.size → Ext h h' → Ba Z n0 h' a .long n (bJ fun _ => 0) → Wp n0 p e R s below Q T' (mkF m nx Ls (.ref a :: S))) : Wp n0 p e R s below Q T (mkF m pc Ls (.int x :: S)) := by
  obtain ⟨hx, hZ, hby, hml, hret, hown, hnm, hlk, eT, hn0, hw, locs, N, Y⟩ := X
  obtain ⟨hd, rfl⟩ := hd
  subst hx'
  obtain ⟨T', h', cA, Y', e', E', A', st⟩ := newP Y hx hZ (aty := .long) wa eT (g := mkF m pc Ls (.int (Int32.ofNat n) :: S)) rfl (hb hby hd) rfl (ofNat_nn (by omega)) (cap := cap) (by rw [ofNat_clamp (by omega)]; exact hcap) hb' hk hj
  refine Wp.go st (q T' h' _ ⟨hx, hZ, hby, hml, hret, hown, hnm, hlk, e', Nat.le_trans hn0 E'.1, hw, _, N, Y'⟩ rfl E' ⟨hn0, by omega, _, A', by rw [sz_new, ofNat_clamp (by omega)], fun i hi => ?_⟩)
  have := get_new (cA := cA) (ty := .long) (n := Int32.ofNat n) (k := Int32.ofNat i) (by rw [ofNat_clamp (by omega), ofNat_clamp (by omega)]; exact fun q => q.elim (ofNat_nn (by omega)) (fun q => by omega))
  rw [ofNat_clamp (by omega)] at this
  exact this
theorem w_static (X : Pos Z a0 n0 p l e R s m args below meth c code ml ret y T h k j) {z : MethodName} {cz : ByteArray} {mz : Nat} {rz : Option FieldType} {rm : Room} {Qz : Option Value → Heap → Prop} {ps : List FieldType} {rr : Option FieldType} {i : Nat} {argsL : List Value} (hd : Dec code pc (.invokestatic i) 3 nx) (C : Ctr l Z n0 z cz mz rz rm [] argsL.toArray h Qz) (wl : (Jvm.Cond.methodLink y.cls i z).before a0 Z = true) (ws : (Jvm.Cond.static z).before a0 Z = true) (wi : (Jvm.Cond.initialized z.cls).before a0 Z = true) (wc : (Jvm.Cond.code z cz mz rz).before a0 Z = true)
    (hz : z.cls ≠ "java/lang/invoke/MethodHandle" ∧ z.cls ≠ "java/lang/invoke/VarHandle") (hpd : parseMethodDescriptor z.desc = some ⟨ps, rr⟩) (hlen : argsL.length = ps.length) {S0 : List Value} (hS : S0 = argsL.reverse ++ S) (hsz : Ls.size = ml)
    (hf : rm.frames + 1 ≤ R.frames) (hlo : (S.map fun v => v.category).sum + (mz + 11) + rm.locals ≤ R.locals) (hk : k + rm.cells ≤ R.cells) (hj : j + rm.slots ≤ R.slots)
    (q : ∀ v T' h', Pos Z a0 n0 p l e R s m args below meth c code ml ret y T' h' (k + rm.cells) (j + rm.slots) → Qz v h' → Wp n0 p e R s below Q T' (mkF m nx Ls (v.toList ++ S))) : Wp n0 p e R s below Q T (mkF m pc Ls S0) := by
  obtain ⟨hx, hZ, hby, hml, hret, hown, hnm, hlk, eT, hn0, hw, locs, N, Y⟩ := X
  obtain ⟨hd, rfl⟩ := hd
  obtain ⟨v, _, ⟨T', L', k', j'⟩, -, Y', ⟨Lc, hQ, l1, l2, l3⟩, st⟩ := Jvm.LawKit.callS Y hx (y := z) hown (mvT hZ wl) (mvT hZ ws) (mvT hZ wi) (mvT hZ wc) hz (backOf (W := (S.map fun v => v.category).sum) (Q := fun v h L => Fr n0 L ∧ n0 ≤ h.size ∧ Qz v h) C hZ wc wi hf hlo) (g := mkF m pc Ls S0) rfl (by rw [hml]; exact hsz) (argsL := argsL) (rest := S) (lenOf hpd hlen) hS (by show 2 * 0 + _ ≤ _; omega) (hb hby hd) (fun _ _ => ⟨rfl, eT, hk, hj⟩)
  dsimp only [Pt.U, Pt.locs, Pt.cells, Pt.slots] at Y' l1 l2 l3 st hQ
  subst l1 l2 l3
  obtain ⟨N', hn', hQ⟩ := hQ
  exact Wp.go st (q v T' _ ⟨hx, hZ, hby, hml, hret, hown, hnm, hlk, rfl, hn', hw, _, Fr.app N N', Y'⟩ hQ)
theorem w_virtual (X : Pos Z a0 n0 p l e R s m args below meth c code ml ret y T h k j) {z : MethodName} {cz : ByteArray} {mz : Nat} {rz : Option FieldType} {rm : Room} {Qz : Option Value → Heap → Prop} {ps : List FieldType} {rr : Option FieldType} {i : Nat} {argsL : List Value} {a : Addr} (hd : Dec code pc (.invokevirtual i) 3 nx) (C : Ctr l Z n0 z cz mz rz rm [] (.ref a :: argsL).toArray h Qz) (E : Exa Z h a z.cls) (wl : (Jvm.Cond.methodLink y.cls i z).before a0 Z = true) (wdc : (Jvm.Cond.declares z).before a0 Z = true) (wse : (Jvm.Cond.selects z.cls z z).before a0 Z = true) (wim : (Jvm.Cond.instanceMethod z).before a0 Z = true) (wi : (Jvm.Cond.initialized z.cls).before a0 Z = true) (wc : (Jvm.Cond.code z cz mz rz).before a0 Z = true)
    (hz : z.cls ≠ "java/lang/invoke/MethodHandle" ∧ z.cls ≠ "java/lang/invoke/VarHandle") (hpd : parseMethodDescriptor z.desc = some ⟨ps, rr⟩) (hlen : argsL.length = ps.length) {S0 : List Value} (hS : S0 = argsL.reverse ++ .ref a :: S) (hsz : Ls.size = ml)
    (hf : rm.frames + 1 ≤ R.frames) (hlo : (S.map fun v => v.category).sum + (mz + 11) + rm.locals ≤ R.locals) (hk : k + rm.cells ≤ R.cells) (hj : j + rm.slots ≤ R.slots)
    (q : ∀ v T' h', Pos Z a0 n0 p l e R s m args below meth c code ml ret y T' h' (k + rm.cells) (j + rm.slots) → Qz v h' → Wp n0 p e R s below Q T' (mkF m nx Ls (v.toList ++ S))) : Wp n0 p e R s below Q T (mkF m pc Ls S0) := by
  obtain ⟨hx, hZ, hby, hml, hret, hown, hnm, hlk, eT, hn0, hw, locs, N, Y⟩ := X
  obtain ⟨hd, rfl⟩ := hd
  obtain ⟨cq, kq, qa, qb, qc⟩ := isOf hZ eT E
  have Ctr' := backOf (l := l) (R := R) (p := p) (e := e) (below := below) (s := s) (args := args) (len := 3) (W := (S.map fun v => v.category).sum) (Q := fun v h L => Fr n0 L ∧ n0 ≤ h.size ∧ Qz v h) C hZ wc wi hf hlo
  obtain ⟨v, _, ⟨T', L', k', j'⟩, -, Y', ⟨Lc, hQ, l1, l2, l3⟩, st⟩ := Y.virtualBack hx (y := z) (z := z) hown (mvT hZ wl) (mvT hZ wdc) (notFace_of_selects (args := #[]) (mvT hZ wse)) (mvT hZ wse) (mvT hZ wim) hz Ctr' qa qc (g := mkF m pc Ls S0) rfl (by rw [hml]; exact hsz) (Steps.refl _) (argsL := argsL) (rest := S) (lenOf hpd hlen) hS (by show 2 * 0 + _ ≤ _; omega) (hb hby hd) (fun _ _ => ⟨rfl, eT, hk, hj⟩)
  dsimp only [Pt.U, Pt.locs, Pt.cells, Pt.slots] at Y' l1 l2 l3 st hQ
  subst l1 l2 l3
  obtain ⟨N', hn', hQ⟩ := hQ
  exact Wp.go (fun _ t => st.trans t) (q v T' _ ⟨hx, hZ, hby, hml, hret, hown, hnm, hlk, rfl, hn', hw, _, Fr.app N N', Y'⟩ hQ)
theorem w_special (X : Pos Z a0 n0 p l e R s m args below meth c code ml ret y T h k j) {z : MethodName} {cz : ByteArray} {mz : Nat} {rm : Room} {Qz : Option Value → Heap → Prop} {ps : List FieldType} {rr : Option FieldType} {i : Nat} {argsL : List Value} {a : Addr} (hd : Dec code pc (.invokespecial i) 3 nx) (C : Ctr l Z n0 z cz mz none rm [] (.ref a :: argsL).toArray h Qz) (hz1 : z.name = "<init>") (wl : (Jvm.Cond.methodLink y.cls i z).before a0 Z = true) (wim : (Jvm.Cond.instanceMethod z).before a0 Z = true) (wi : (Jvm.Cond.initialized z.cls).before a0 Z = true) (wc : (Jvm.Cond.code z cz mz none).before a0 Z = true)
    (hz : z.cls ≠ "java/lang/invoke/MethodHandle" ∧ z.cls ≠ "java/lang/invoke/VarHandle") (hpd : parseMethodDescriptor z.desc = some ⟨ps, rr⟩) (hlen : argsL.length = ps.length) {S0 : List Value} (hS : S0 = argsL.reverse ++ .ref a :: S) (hsz : Ls.size = ml)
    (hf : rm.frames + 1 ≤ R.frames) (hlo : (S.map fun v => v.category).sum + (mz + 11) + rm.locals ≤ R.locals) (hk : k + rm.cells ≤ R.cells) (hj : j + rm.slots ≤ R.slots)
    (q : ∀ v T' h', Pos Z a0 n0 p l e R s m args below meth c code ml ret y T' h' (k + rm.cells) (j + rm.slots) → Qz v h' → Wp n0 p e R s below Q T' (mkF m nx Ls (v.toList ++ S))) : Wp n0 p e R s below Q T (mkF m pc Ls S0) := by
  obtain ⟨hx, hZ, hby, hml, hret, hown, hnm, hlk, eT, hn0, hw, locs, N, Y⟩ := X
  obtain ⟨hd, rfl⟩ := hd
  have Ctr' := backOf (l := l) (R := R) (p := p) (e := e) (below := below) (s := s) (args := args) (len := 3) (W := (S.map fun v => v.category).sum) (Q := fun v h L => Fr n0 L ∧ n0 ≤ h.size ∧ Qz v h) C hZ wc wi hf hlo
  obtain ⟨v, _, ⟨T', L', k', j'⟩, -, Y', ⟨Lc, hQ, l1, l2, l3⟩, st⟩ := Y.specialBack hx (y := z) hz1 hown (mvT hZ wl) (mvT hZ wim) (mvT hZ wc) hz Ctr' (g := mkF m pc Ls S0) rfl (by rw [hml]; exact hsz) (Steps.refl _) (a := a) (argsL := argsL) (rest := S) (lenOf hpd hlen) hS (by show 2 * 0 + _ ≤ _; omega) (hb hby hd) (fun _ _ => ⟨rfl, eT, hk, hj⟩)
  dsimp only [Pt.U, Pt.locs, Pt.cells, Pt.slots] at Y' l1 l2 l3 st hQ
  subst l1 l2 l3
  obtain ⟨N', hn', hQ⟩ := hQ
  exact Wp.go (fun _ t => st.trans t) (q v T' _ ⟨hx, hZ, hby, hml, hret, hown, hnm, hlk, rfl, hn', hw, _, Fr.app N N', Y'⟩ hQ)
theorem w_new (X : Pos Z a0 n0 p l e R s m args below meth c code ml ret y T h k j) {i n : Nat} {C : String} (hd : Dec code pc (.new i) 3 nx) (w : (Jvm.Cond.classLink y.cls i C).before a0 Z = true) (wi : (Jvm.Cond.instantiable C n).before a0 Z = true) (wz : (Jvm.Cond.initialized C).before a0 Z = true) (hk : k + 1 ≤ R.cells) (hj : j + n ≤ R.slots)
    (q : ∀ T' h' a, Pos Z a0 n0 p l e R s m args below meth c code ml ret y T' h' (k + 1) (j + n) → a = h.size → n0 ≤ a → Ext h h' → Exa Z h' a C → (∀ {O nm d : String} {ty : FieldType}, Laid Z a0 C O nm d → parseFieldDescriptor d = some ty → Fld Z h' a O nm d (defaultValue ty)) → Wp n0 p e R s below Q T' (mkF m nx Ls (.ref a :: S))) : Wp n0 p e R s below Q T (mkF m pc Ls S) := by
  obtain ⟨hx, hZ, hby, hml, hret, hown, hnm, hlk, eT, hn0, hw, locs, N, Y⟩ := X
  obtain ⟨hd, rfl⟩ := hd
  obtain ⟨T', h', Y', e', E', A', D', -, st⟩ := newO Y hx hZ hown w wi wz eT (g := mkF m pc Ls S) rfl (hb hby hd) hk hj
  exact Wp.go st (q T' h' _ ⟨hx, hZ, hby, hml, hret, hown, hnm, hlk, e', Nat.le_trans hn0 E'.1, hw, _, N, Y'⟩ rfl hn0 E' A' D')
theorem w_getF (X : Pos Z a0 n0 p l e R s m args below meth c code ml ret y T h k j) {i : Nat} {O nm d : String} {a : Addr} {v : Value} (hd : Dec code pc (.getfield i) 3 nx) (w : (Jvm.Cond.fieldLink y.cls i O nm d).before a0 Z = true) (F : Fld Z h a O nm d v)
    (q : ∀ T', Pos Z a0 n0 p l e R s m args below meth c code ml ret y T' h k j → Wp n0 p e R s below Q T' (mkF m nx Ls (v :: S))) : Wp n0 p e R s below Q T (mkF m pc Ls (.ref a :: S)) := by
  obtain ⟨hx, hZ, hby, hml, hret, hown, hnm, hlk, eT, hn0, hw, locs, N, Y⟩ := X
  obtain ⟨hd, rfl⟩ := hd
  obtain ⟨T', Y', e', st⟩ := getF Y hx hZ hown (host := "") (Or.inl w) Via.refl eT F (g := mkF m pc Ls (.ref a :: S)) rfl rfl (hb hby hd)
  exact Wp.go st (q T' ⟨hx, hZ, hby, hml, hret, hown, hnm, hlk, e', hn0, hw, _, N, Y'⟩)
theorem w_putF (X : Pos Z a0 n0 p l e R s m args below meth c code ml ret y T h k j) {i kk : Nat} {C O nm d : String} {ty : FieldType} {a : Addr} {v old : Value} (hd : Dec code pc (.putfield i) 3 nx) (w : (Jvm.Cond.fieldLink y.cls i O nm d).before a0 Z = true) (F : Fld Z h a O nm d old) (E : Exa Z h a C) (hna : n0 ≤ a) (L : (Jvm.Cond.lays C O nm d).before a0 Z = true ∨ ((Jvm.Cond.laysFinal C O nm d).before a0 Z = true ∧ y.cls = O ∧ y.name = "<init>")) (wi : (Jvm.Cond.instantiable C kk).before a0 Z = true) (hty : parseFieldDescriptor d = some ty) (hn : narrow ty v = v) (hf : fits ty v = true)
    (q : ∀ T' h', Pos Z a0 n0 p l e R s m args below meth c code ml ret y T' h' k j → Wr h h' a (Jvm.RoadKit.slotOf Z O nm d) v → Wp n0 p e R s below Q T' (mkF m nx Ls S)) : Wp n0 p e R s below Q T (mkF m pc Ls (v :: .ref a :: S)) := by
  obtain ⟨hx, hZ, hby, hml, hret, hown, hnm, hlk, eT, hn0, hw, locs, N, Y⟩ := X
  obtain ⟨hd, rfl⟩ := hd
  obtain ⟨T', h', Y', e', W', st⟩ := putF Y hx hZ hown (host := "") (Or.inl w) Via.refl eT F E (L.imp id fun q => ⟨q.1, q.2.1, hnm.trans q.2.2⟩) wi hty hn hf (g := mkF m pc Ls (v :: .ref a :: S)) rfl rfl (hb hby hd)
  exact Wp.go st (q T' h' ⟨hx, hZ, hby, hml, hret, hown, hnm, hlk, e', by rw [W'.size]; exact hn0, hw, _, Fr.snoc Y' N hna, Y'⟩ W')
end OwnKit
theorem D0_0 : Dec code 0 (.iload_n 1) 1 1 := ⟨at_0, rfl⟩
theorem D0_1 : Dec code 1 (.ldc 7) 2 3 := ⟨at_1, rfl⟩
theorem D0_3 : Dec code 3 .iand 1 4 := ⟨at_3, rfl⟩
theorem D0_4 : Dec code 4 (.bipush 13) 2 6 := ⟨at_4, rfl⟩
theorem D0_6 : Dec code 6 .irem 1 7 := ⟨at_6, rfl⟩
theorem D0_7 : Dec code 7 (.istore 5) 2 9 := ⟨at_7, rfl⟩
theorem D0_9 : Dec code 9 (.iload_n 0) 1 10 := ⟨at_9, rfl⟩
theorem D0_10 : Dec code 10 (.iconst 3) 1 11 := ⟨at_10, rfl⟩
theorem D0_11 : Dec code 11 .iand 1 12 := ⟨at_11, rfl⟩
theorem D0_12 : Dec code 12 (.istore 6) 2 14 := ⟨at_12, rfl⟩
theorem D0_14 : Dec code 14 (.iload 6) 2 16 := ⟨at_14, rfl⟩
theorem D0_16 : Jmp code 16 (.ifCond .ne 7) 7 19 23 := ⟨at_16, rfl, by decide, by decide⟩
theorem D0_19 : Dec code 19 (.iconst (-1)) 1 20 := ⟨at_19, rfl⟩
theorem D0_20 : Jmp code 20 (.goto 24) 24 23 44 := ⟨at_20, rfl, by decide, by decide⟩
theorem D0_23 : Dec code 23 (.iload 6) 2 25 := ⟨at_23, rfl⟩
theorem D0_25 : Dec code 25 (.iconst 1) 1 26 := ⟨at_25, rfl⟩
theorem D0_26 : Jmp code 26 (.if_icmp .ne 7) 7 29 33 := ⟨at_26, rfl, by decide, by decide⟩
theorem D0_29 : Dec code 29 (.iconst 0) 1 30 := ⟨at_29, rfl⟩
theorem D0_30 : Jmp code 30 (.goto 14) 14 33 44 := ⟨at_30, rfl, by decide, by decide⟩
theorem D0_33 : Dec code 33 (.iload 6) 2 35 := ⟨at_33, rfl⟩
theorem D0_35 : Dec code 35 (.iconst 2) 1 36 := ⟨at_35, rfl⟩
theorem D0_36 : Jmp code 36 (.if_icmp .ne 7) 7 39 43 := ⟨at_36, rfl, by decide, by decide⟩
theorem D0_39 : Dec code 39 (.iconst 1) 1 40 := ⟨at_39, rfl⟩
theorem D0_40 : Jmp code 40 (.goto 4) 4 43 44 := ⟨at_40, rfl, by decide, by decide⟩
theorem D0_43 : Dec code 43 (.iconst 2) 1 44 := ⟨at_43, rfl⟩
theorem D0_44 : Dec code 44 (.istore 7) 2 46 := ⟨at_44, rfl⟩
theorem D0_46 : Dec code 46 (.iload 6) 2 48 := ⟨at_46, rfl⟩
theorem D0_48 : Dec code 48 (.iconst 3) 1 49 := ⟨at_48, rfl⟩
theorem D0_49 : Jmp code 49 (.if_icmp .ne 7) 7 52 56 := ⟨at_49, rfl, by decide, by decide⟩
theorem D0_52 : Dec code 52 (.iconst 0) 1 53 := ⟨at_52, rfl⟩
theorem D0_53 : Jmp code 53 (.goto 5) 5 56 58 := ⟨at_53, rfl, by decide, by decide⟩
theorem D0_56 : Dec code 56 (.iload 7) 2 58 := ⟨at_56, rfl⟩
theorem D0_58 : Dec code 58 (.istore 8) 2 60 := ⟨at_58, rfl⟩
theorem D0_60 : Dec code 60 (.bipush 12) 2 62 := ⟨at_60, rfl⟩
theorem D0_62 : Dec code 62 (.newarray .byte) 2 64 := ⟨at_62, rfl⟩
theorem D0_64 : Dec code 64 (.astore 9) 2 66 := ⟨at_64, rfl⟩
theorem D0_66 : Dec code 66 (.aload 9) 2 68 := ⟨at_66, rfl⟩
theorem D0_68 : Dec code 68 (.iconst 0) 1 69 := ⟨at_68, rfl⟩
theorem D0_69 : Dec code 69 (.lload_n 2) 1 70 := ⟨at_69, rfl⟩
theorem D0_70 : Dec code 70 (.bipush 56) 2 72 := ⟨at_70, rfl⟩
theorem D0_72 : Dec code 72 .lushr 1 73 := ⟨at_72, rfl⟩
theorem D0_73 : Dec code 73 .l2i 1 74 := ⟨at_73, rfl⟩
theorem D0_74 : Dec code 74 .i2b 1 75 := ⟨at_74, rfl⟩
theorem D0_75 : Dec code 75 .bastore 1 76 := ⟨at_75, rfl⟩
theorem D0_76 : Dec code 76 (.aload 9) 2 78 := ⟨at_76, rfl⟩
theorem D0_78 : Dec code 78 (.iconst 1) 1 79 := ⟨at_78, rfl⟩
theorem D0_79 : Dec code 79 (.lload_n 2) 1 80 := ⟨at_79, rfl⟩
theorem D0_80 : Dec code 80 (.bipush 48) 2 82 := ⟨at_80, rfl⟩
theorem D0_82 : Dec code 82 .lushr 1 83 := ⟨at_82, rfl⟩
theorem D0_83 : Dec code 83 .l2i 1 84 := ⟨at_83, rfl⟩
theorem D0_84 : Dec code 84 .i2b 1 85 := ⟨at_84, rfl⟩
theorem D0_85 : Dec code 85 .bastore 1 86 := ⟨at_85, rfl⟩
theorem D0_86 : Dec code 86 (.aload 9) 2 88 := ⟨at_86, rfl⟩
theorem D0_88 : Dec code 88 (.iconst 2) 1 89 := ⟨at_88, rfl⟩
theorem D0_89 : Dec code 89 (.lload_n 2) 1 90 := ⟨at_89, rfl⟩
theorem D0_90 : Dec code 90 (.bipush 40) 2 92 := ⟨at_90, rfl⟩
theorem D0_92 : Dec code 92 .lushr 1 93 := ⟨at_92, rfl⟩
theorem D0_93 : Dec code 93 .l2i 1 94 := ⟨at_93, rfl⟩
theorem D0_94 : Dec code 94 .i2b 1 95 := ⟨at_94, rfl⟩
theorem D0_95 : Dec code 95 .bastore 1 96 := ⟨at_95, rfl⟩
theorem D0_96 : Dec code 96 (.aload 9) 2 98 := ⟨at_96, rfl⟩
theorem D0_98 : Dec code 98 (.iconst 3) 1 99 := ⟨at_98, rfl⟩
theorem D0_99 : Dec code 99 (.lload_n 2) 1 100 := ⟨at_99, rfl⟩
theorem D0_100 : Dec code 100 (.bipush 32) 2 102 := ⟨at_100, rfl⟩
theorem D0_102 : Dec code 102 .lushr 1 103 := ⟨at_102, rfl⟩
theorem D0_103 : Dec code 103 .l2i 1 104 := ⟨at_103, rfl⟩
theorem D0_104 : Dec code 104 .i2b 1 105 := ⟨at_104, rfl⟩
theorem D0_105 : Dec code 105 .bastore 1 106 := ⟨at_105, rfl⟩
theorem D0_106 : Dec code 106 (.aload 9) 2 108 := ⟨at_106, rfl⟩
theorem D0_108 : Dec code 108 (.iconst 4) 1 109 := ⟨at_108, rfl⟩
theorem D0_109 : Dec code 109 (.lload_n 2) 1 110 := ⟨at_109, rfl⟩
theorem D0_110 : Dec code 110 (.bipush 24) 2 112 := ⟨at_110, rfl⟩
theorem D0_112 : Dec code 112 .lushr 1 113 := ⟨at_112, rfl⟩
theorem D0_113 : Dec code 113 .l2i 1 114 := ⟨at_113, rfl⟩
theorem D0_114 : Dec code 114 .i2b 1 115 := ⟨at_114, rfl⟩
theorem D0_115 : Dec code 115 .bastore 1 116 := ⟨at_115, rfl⟩
theorem D0_116 : Dec code 116 (.aload 9) 2 118 := ⟨at_116, rfl⟩
theorem D0_118 : Dec code 118 (.iconst 5) 1 119 := ⟨at_118, rfl⟩
theorem D0_119 : Dec code 119 (.lload_n 2) 1 120 := ⟨at_119, rfl⟩
theorem D0_120 : Dec code 120 (.bipush 16) 2 122 := ⟨at_120, rfl⟩
theorem D0_122 : Dec code 122 .lushr 1 123 := ⟨at_122, rfl⟩
theorem D0_123 : Dec code 123 .l2i 1 124 := ⟨at_123, rfl⟩
theorem D0_124 : Dec code 124 .i2b 1 125 := ⟨at_124, rfl⟩
theorem D0_125 : Dec code 125 .bastore 1 126 := ⟨at_125, rfl⟩
theorem D0_126 : Dec code 126 (.aload 9) 2 128 := ⟨at_126, rfl⟩
theorem D0_128 : Dec code 128 (.bipush 6) 2 130 := ⟨at_128, rfl⟩
theorem D0_130 : Dec code 130 (.lload_n 2) 1 131 := ⟨at_130, rfl⟩
theorem D0_131 : Dec code 131 (.bipush 8) 2 133 := ⟨at_131, rfl⟩
theorem D0_133 : Dec code 133 .lushr 1 134 := ⟨at_133, rfl⟩
theorem D0_134 : Dec code 134 .l2i 1 135 := ⟨at_134, rfl⟩
theorem D0_135 : Dec code 135 .i2b 1 136 := ⟨at_135, rfl⟩
theorem D0_136 : Dec code 136 .bastore 1 137 := ⟨at_136, rfl⟩
theorem D0_137 : Dec code 137 (.aload 9) 2 139 := ⟨at_137, rfl⟩
theorem D0_139 : Dec code 139 (.bipush 7) 2 141 := ⟨at_139, rfl⟩
theorem D0_141 : Dec code 141 (.lload_n 2) 1 142 := ⟨at_141, rfl⟩
theorem D0_142 : Dec code 142 .l2i 1 143 := ⟨at_142, rfl⟩
theorem D0_143 : Dec code 143 .i2b 1 144 := ⟨at_143, rfl⟩
theorem D0_144 : Dec code 144 .bastore 1 145 := ⟨at_144, rfl⟩
theorem D0_145 : Dec code 145 (.aload 9) 2 147 := ⟨at_145, rfl⟩
theorem D0_147 : Dec code 147 (.bipush 8) 2 149 := ⟨at_147, rfl⟩
theorem D0_149 : Dec code 149 (.iload 4) 2 151 := ⟨at_149, rfl⟩
theorem D0_151 : Dec code 151 (.bipush 24) 2 153 := ⟨at_151, rfl⟩
theorem D0_153 : Dec code 153 .iushr 1 154 := ⟨at_153, rfl⟩
theorem D0_154 : Dec code 154 .i2b 1 155 := ⟨at_154, rfl⟩
theorem D0_155 : Dec code 155 .bastore 1 156 := ⟨at_155, rfl⟩
theorem D0_156 : Dec code 156 (.aload 9) 2 158 := ⟨at_156, rfl⟩
theorem D0_158 : Dec code 158 (.bipush 9) 2 160 := ⟨at_158, rfl⟩
theorem D0_160 : Dec code 160 (.iload 4) 2 162 := ⟨at_160, rfl⟩
theorem D0_162 : Dec code 162 (.bipush 16) 2 164 := ⟨at_162, rfl⟩
theorem D0_164 : Dec code 164 .iushr 1 165 := ⟨at_164, rfl⟩
theorem D0_165 : Dec code 165 .i2b 1 166 := ⟨at_165, rfl⟩
theorem D0_166 : Dec code 166 .bastore 1 167 := ⟨at_166, rfl⟩
theorem D0_167 : Dec code 167 (.aload 9) 2 169 := ⟨at_167, rfl⟩
theorem D0_169 : Dec code 169 (.bipush 10) 2 171 := ⟨at_169, rfl⟩
theorem D0_171 : Dec code 171 (.iload 4) 2 173 := ⟨at_171, rfl⟩
theorem D0_173 : Dec code 173 (.bipush 8) 2 175 := ⟨at_173, rfl⟩
theorem D0_175 : Dec code 175 .iushr 1 176 := ⟨at_175, rfl⟩
theorem D0_176 : Dec code 176 .i2b 1 177 := ⟨at_176, rfl⟩
theorem D0_177 : Dec code 177 .bastore 1 178 := ⟨at_177, rfl⟩
theorem D0_178 : Dec code 178 (.aload 9) 2 180 := ⟨at_178, rfl⟩
theorem D0_180 : Dec code 180 (.bipush 11) 2 182 := ⟨at_180, rfl⟩
theorem D0_182 : Dec code 182 (.iload 4) 2 184 := ⟨at_182, rfl⟩
theorem D0_184 : Dec code 184 .i2b 1 185 := ⟨at_184, rfl⟩
theorem D0_185 : Dec code 185 .bastore 1 186 := ⟨at_185, rfl⟩
theorem D0_186 : Dec code 186 (.iload 5) 2 188 := ⟨at_186, rfl⟩
theorem D0_188 : Jmp code 188 (.ifCond .ne 9) 9 191 197 := ⟨at_188, rfl, by decide, by decide⟩
theorem D0_191 : Dec code 191 (.lconst 0) 1 192 := ⟨at_191, rfl⟩
theorem D0_192 : Dec code 192 (.lstore 10) 2 194 := ⟨at_192, rfl⟩
theorem D0_194 : Jmp code 194 (.goto 32) 32 197 226 := ⟨at_194, rfl, by decide, by decide⟩
theorem D0_197 : Dec code 197 (.iload 5) 2 199 := ⟨at_197, rfl⟩
theorem D0_199 : Dec code 199 (.bipush 8) 2 201 := ⟨at_199, rfl⟩
theorem D0_201 : Jmp code 201 (.if_icmp .lt 9) 9 204 210 := ⟨at_201, rfl, by decide, by decide⟩
theorem D0_204 : Dec code 204 (.lload_n 2) 1 205 := ⟨at_204, rfl⟩
theorem D0_205 : Dec code 205 (.lstore 10) 2 207 := ⟨at_205, rfl⟩
theorem D0_207 : Jmp code 207 (.goto 19) 19 210 226 := ⟨at_207, rfl, by decide, by decide⟩
theorem D0_210 : Dec code 210 (.lload_n 2) 1 211 := ⟨at_210, rfl⟩
theorem D0_211 : Dec code 211 (.ldc2_w 10) 3 214 := ⟨at_211, rfl⟩
theorem D0_214 : Dec code 214 (.bipush 8) 2 216 := ⟨at_214, rfl⟩
theorem D0_216 : Dec code 216 (.bipush 8) 2 218 := ⟨at_216, rfl⟩
theorem D0_218 : Dec code 218 (.iload 5) 2 220 := ⟨at_218, rfl⟩
theorem D0_220 : Dec code 220 .isub 1 221 := ⟨at_220, rfl⟩
theorem D0_221 : Dec code 221 .imul 1 222 := ⟨at_221, rfl⟩
theorem D0_222 : Dec code 222 .lshl 1 223 := ⟨at_222, rfl⟩
theorem D0_223 : Dec code 223 .land 1 224 := ⟨at_223, rfl⟩
theorem D0_224 : Dec code 224 (.lstore 10) 2 226 := ⟨at_224, rfl⟩
theorem D0_226 : Dec code 226 (.iload 5) 2 228 := ⟨at_226, rfl⟩
theorem D0_228 : Dec code 228 (.bipush 8) 2 230 := ⟨at_228, rfl⟩
theorem D0_230 : Jmp code 230 (.if_icmp .le 8) 8 233 238 := ⟨at_230, rfl, by decide, by decide⟩
theorem D0_233 : Dec code 233 (.aload 9) 2 235 := ⟨at_233, rfl⟩
theorem D0_235 : Jmp code 235 (.goto 4) 4 238 239 := ⟨at_235, rfl, by decide, by decide⟩
theorem D0_238 : Dec code 238 .aconst_null 1 239 := ⟨at_238, rfl⟩
theorem D0_239 : Dec code 239 (.astore 12) 2 241 := ⟨at_239, rfl⟩
theorem D0_241 : Dec code 241 (.iconst 1) 1 242 := ⟨at_241, rfl⟩
theorem D0_242 : Dec code 242 (.istore 13) 2 244 := ⟨at_242, rfl⟩
theorem D0_244 : Dec code 244 (.iload 13) 2 246 := ⟨at_244, rfl⟩
theorem D0_246 : Dec code 246 (.iload 5) 2 248 := ⟨at_246, rfl⟩
theorem D0_248 : Dec code 248 (.iconst 0) 1 249 := ⟨at_248, rfl⟩
theorem D0_249 : Dec code 249 (.aload 9) 2 251 := ⟨at_249, rfl⟩
theorem D0_251 : Dec code 251 (.iconst 0) 1 252 := ⟨at_251, rfl⟩
theorem D0_252 : Dec code 252 .baload 1 253 := ⟨at_252, rfl⟩
theorem D0_253 : Dec code 253 (.invokestatic 12) 3 256 := ⟨at_253, rfl⟩
theorem D0_256 : Dec code 256 (.istore 13) 2 258 := ⟨at_256, rfl⟩
theorem D0_258 : Dec code 258 (.iload 13) 2 260 := ⟨at_258, rfl⟩
theorem D0_260 : Dec code 260 (.iload 5) 2 262 := ⟨at_260, rfl⟩
theorem D0_262 : Dec code 262 (.iconst 1) 1 263 := ⟨at_262, rfl⟩
theorem D0_263 : Dec code 263 (.aload 9) 2 265 := ⟨at_263, rfl⟩
theorem D0_265 : Dec code 265 (.iconst 1) 1 266 := ⟨at_265, rfl⟩
theorem D0_266 : Dec code 266 .baload 1 267 := ⟨at_266, rfl⟩
theorem D0_267 : Dec code 267 (.invokestatic 12) 3 270 := ⟨at_267, rfl⟩
theorem D0_270 : Dec code 270 (.istore 13) 2 272 := ⟨at_270, rfl⟩
theorem D0_272 : Dec code 272 (.iload 13) 2 274 := ⟨at_272, rfl⟩
theorem D0_274 : Dec code 274 (.iload 5) 2 276 := ⟨at_274, rfl⟩
theorem D0_276 : Dec code 276 (.iconst 2) 1 277 := ⟨at_276, rfl⟩
theorem D0_277 : Dec code 277 (.aload 9) 2 279 := ⟨at_277, rfl⟩
theorem D0_279 : Dec code 279 (.iconst 2) 1 280 := ⟨at_279, rfl⟩
theorem D0_280 : Dec code 280 .baload 1 281 := ⟨at_280, rfl⟩
theorem D0_281 : Dec code 281 (.invokestatic 12) 3 284 := ⟨at_281, rfl⟩
theorem D0_284 : Dec code 284 (.istore 13) 2 286 := ⟨at_284, rfl⟩
theorem D0_286 : Dec code 286 (.iload 13) 2 288 := ⟨at_286, rfl⟩
theorem D0_288 : Dec code 288 (.iload 5) 2 290 := ⟨at_288, rfl⟩
theorem D0_290 : Dec code 290 (.iconst 3) 1 291 := ⟨at_290, rfl⟩
theorem D0_291 : Dec code 291 (.aload 9) 2 293 := ⟨at_291, rfl⟩
theorem D0_293 : Dec code 293 (.iconst 3) 1 294 := ⟨at_293, rfl⟩
theorem D0_294 : Dec code 294 .baload 1 295 := ⟨at_294, rfl⟩
theorem D0_295 : Dec code 295 (.invokestatic 12) 3 298 := ⟨at_295, rfl⟩
theorem D0_298 : Dec code 298 (.istore 13) 2 300 := ⟨at_298, rfl⟩
theorem D0_300 : Dec code 300 (.iload 13) 2 302 := ⟨at_300, rfl⟩
theorem D0_302 : Dec code 302 (.iload 5) 2 304 := ⟨at_302, rfl⟩
theorem D0_304 : Dec code 304 (.iconst 4) 1 305 := ⟨at_304, rfl⟩
theorem D0_305 : Dec code 305 (.aload 9) 2 307 := ⟨at_305, rfl⟩
theorem D0_307 : Dec code 307 (.iconst 4) 1 308 := ⟨at_307, rfl⟩
theorem D0_308 : Dec code 308 .baload 1 309 := ⟨at_308, rfl⟩
theorem D0_309 : Dec code 309 (.invokestatic 12) 3 312 := ⟨at_309, rfl⟩
theorem D0_312 : Dec code 312 (.istore 13) 2 314 := ⟨at_312, rfl⟩
theorem D0_314 : Dec code 314 (.iload 13) 2 316 := ⟨at_314, rfl⟩
theorem D0_316 : Dec code 316 (.iload 5) 2 318 := ⟨at_316, rfl⟩
theorem D0_318 : Dec code 318 (.iconst 5) 1 319 := ⟨at_318, rfl⟩
theorem D0_319 : Dec code 319 (.aload 9) 2 321 := ⟨at_319, rfl⟩
theorem D0_321 : Dec code 321 (.iconst 5) 1 322 := ⟨at_321, rfl⟩
theorem D0_322 : Dec code 322 .baload 1 323 := ⟨at_322, rfl⟩
theorem D0_323 : Dec code 323 (.invokestatic 12) 3 326 := ⟨at_323, rfl⟩
theorem D0_326 : Dec code 326 (.istore 13) 2 328 := ⟨at_326, rfl⟩
theorem D0_328 : Dec code 328 (.iload 13) 2 330 := ⟨at_328, rfl⟩
theorem D0_330 : Dec code 330 (.iload 5) 2 332 := ⟨at_330, rfl⟩
theorem D0_332 : Dec code 332 (.bipush 6) 2 334 := ⟨at_332, rfl⟩
theorem D0_334 : Dec code 334 (.aload 9) 2 336 := ⟨at_334, rfl⟩
theorem D0_336 : Dec code 336 (.bipush 6) 2 338 := ⟨at_336, rfl⟩
theorem D0_338 : Dec code 338 .baload 1 339 := ⟨at_338, rfl⟩
theorem D0_339 : Dec code 339 (.invokestatic 12) 3 342 := ⟨at_339, rfl⟩
theorem D0_342 : Dec code 342 (.istore 13) 2 344 := ⟨at_342, rfl⟩
theorem D0_344 : Dec code 344 (.iload 13) 2 346 := ⟨at_344, rfl⟩
theorem D0_346 : Dec code 346 (.iload 5) 2 348 := ⟨at_346, rfl⟩
theorem D0_348 : Dec code 348 (.bipush 7) 2 350 := ⟨at_348, rfl⟩
theorem D0_350 : Dec code 350 (.aload 9) 2 352 := ⟨at_350, rfl⟩
theorem D0_352 : Dec code 352 (.bipush 7) 2 354 := ⟨at_352, rfl⟩
theorem D0_354 : Dec code 354 .baload 1 355 := ⟨at_354, rfl⟩
theorem D0_355 : Dec code 355 (.invokestatic 12) 3 358 := ⟨at_355, rfl⟩
theorem D0_358 : Dec code 358 (.istore 13) 2 360 := ⟨at_358, rfl⟩
theorem D0_360 : Dec code 360 (.iload 13) 2 362 := ⟨at_360, rfl⟩
theorem D0_362 : Dec code 362 (.iload 5) 2 364 := ⟨at_362, rfl⟩
theorem D0_364 : Dec code 364 (.bipush 8) 2 366 := ⟨at_364, rfl⟩
theorem D0_366 : Dec code 366 (.aload 9) 2 368 := ⟨at_366, rfl⟩
theorem D0_368 : Dec code 368 (.bipush 8) 2 370 := ⟨at_368, rfl⟩
theorem D0_370 : Dec code 370 .baload 1 371 := ⟨at_370, rfl⟩
theorem D0_371 : Dec code 371 (.invokestatic 12) 3 374 := ⟨at_371, rfl⟩
theorem D0_374 : Dec code 374 (.istore 13) 2 376 := ⟨at_374, rfl⟩
theorem D0_376 : Dec code 376 (.iload 13) 2 378 := ⟨at_376, rfl⟩
theorem D0_378 : Dec code 378 (.iload 5) 2 380 := ⟨at_378, rfl⟩
theorem D0_380 : Dec code 380 (.bipush 9) 2 382 := ⟨at_380, rfl⟩
theorem D0_382 : Dec code 382 (.aload 9) 2 384 := ⟨at_382, rfl⟩
theorem D0_384 : Dec code 384 (.bipush 9) 2 386 := ⟨at_384, rfl⟩
theorem D0_386 : Dec code 386 .baload 1 387 := ⟨at_386, rfl⟩
theorem D0_387 : Dec code 387 (.invokestatic 12) 3 390 := ⟨at_387, rfl⟩
theorem D0_390 : Dec code 390 (.istore 13) 2 392 := ⟨at_390, rfl⟩
theorem D0_392 : Dec code 392 (.iload 13) 2 394 := ⟨at_392, rfl⟩
theorem D0_394 : Dec code 394 (.iload 5) 2 396 := ⟨at_394, rfl⟩
theorem D0_396 : Dec code 396 (.bipush 10) 2 398 := ⟨at_396, rfl⟩
theorem D0_398 : Dec code 398 (.aload 9) 2 400 := ⟨at_398, rfl⟩
theorem D0_400 : Dec code 400 (.bipush 10) 2 402 := ⟨at_400, rfl⟩
theorem D0_402 : Dec code 402 .baload 1 403 := ⟨at_402, rfl⟩
theorem D0_403 : Dec code 403 (.invokestatic 12) 3 406 := ⟨at_403, rfl⟩
theorem D0_406 : Dec code 406 (.istore 13) 2 408 := ⟨at_406, rfl⟩
theorem D0_408 : Dec code 408 (.iload 13) 2 410 := ⟨at_408, rfl⟩
theorem D0_410 : Dec code 410 (.iload 5) 2 412 := ⟨at_410, rfl⟩
theorem D0_412 : Dec code 412 (.bipush 11) 2 414 := ⟨at_412, rfl⟩
theorem D0_414 : Dec code 414 (.aload 9) 2 416 := ⟨at_414, rfl⟩
theorem D0_416 : Dec code 416 (.bipush 11) 2 418 := ⟨at_416, rfl⟩
theorem D0_418 : Dec code 418 .baload 1 419 := ⟨at_418, rfl⟩
theorem D0_419 : Dec code 419 (.invokestatic 12) 3 422 := ⟨at_419, rfl⟩
theorem D0_422 : Dec code 422 (.istore 13) 2 424 := ⟨at_422, rfl⟩
theorem D0_424 : Dec code 424 (.bipush 31) 2 426 := ⟨at_424, rfl⟩
theorem D0_426 : Dec code 426 (.iload 8) 2 428 := ⟨at_426, rfl⟩
theorem D0_428 : Dec code 428 .imul 1 429 := ⟨at_428, rfl⟩
theorem D0_429 : Dec code 429 (.iload 13) 2 431 := ⟨at_429, rfl⟩
theorem D0_431 : Dec code 431 .iadd 1 432 := ⟨at_431, rfl⟩
theorem D0_432 : Dec code 432 (.istore 14) 2 434 := ⟨at_432, rfl⟩
theorem D0_434 : Dec code 434 (.iload 7) 2 436 := ⟨at_434, rfl⟩
theorem D0_436 : Dec code 436 (.iload 5) 2 438 := ⟨at_436, rfl⟩
theorem D0_438 : Dec code 438 (.lload 10) 2 440 := ⟨at_438, rfl⟩
theorem D0_440 : Dec code 440 (.aload 12) 2 442 := ⟨at_440, rfl⟩
theorem D0_442 : Dec code 442 (.invokestatic 18) 3 445 := ⟨at_442, rfl⟩
theorem D0_445 : Dec code 445 (.iload 14) 2 447 := ⟨at_445, rfl⟩
theorem D0_447 : Jmp code 447 (.if_icmp .ne 7) 7 450 454 := ⟨at_447, rfl, by decide, by decide⟩
theorem D0_450 : Dec code 450 (.iconst 1) 1 451 := ⟨at_450, rfl⟩
theorem D0_451 : Jmp code 451 (.goto 4) 4 454 455 := ⟨at_451, rfl, by decide, by decide⟩
theorem D0_455 : Dec code 455 .ireturn 1 456 := ⟨at_455, rfl⟩
theorem D1_0 : Dec method_3_code 0 (.iload_n 2) 1 1 := ⟨by decide +kernel, rfl⟩
theorem D1_1 : Dec method_3_code 1 (.iload_n 1) 1 2 := ⟨by decide +kernel, rfl⟩
theorem D1_2 : Jmp method_3_code 2 (.if_icmp .ge 12) 12 5 14 := ⟨by decide +kernel, rfl, by decide, by decide⟩
theorem D1_5 : Dec method_3_code 5 (.bipush 31) 2 7 := ⟨by decide +kernel, rfl⟩
theorem D1_7 : Dec method_3_code 7 (.iload_n 0) 1 8 := ⟨by decide +kernel, rfl⟩
theorem D1_8 : Dec method_3_code 8 .imul 1 9 := ⟨by decide +kernel, rfl⟩
theorem D1_9 : Dec method_3_code 9 (.iload_n 3) 1 10 := ⟨by decide +kernel, rfl⟩
theorem D1_10 : Dec method_3_code 10 .iadd 1 11 := ⟨by decide +kernel, rfl⟩
theorem D1_11 : Jmp method_3_code 11 (.goto 4) 4 14 15 := ⟨by decide +kernel, rfl, by decide, by decide⟩
theorem D1_14 : Dec method_3_code 14 (.iload_n 0) 1 15 := ⟨by decide +kernel, rfl⟩
theorem D1_15 : Dec method_3_code 15 .ireturn 1 16 := ⟨by decide +kernel, rfl⟩
theorem D2_0 : Dec prog_148_method_6_code 0 (.iconst 1) 1 1 := ⟨by decide +kernel, rfl⟩
theorem D2_1 : Dec prog_148_method_6_code 1 (.istore 5) 2 3 := ⟨by decide +kernel, rfl⟩
theorem D2_3 : Dec prog_148_method_6_code 3 (.iconst 0) 1 4 := ⟨by decide +kernel, rfl⟩
theorem D2_4 : Dec prog_148_method_6_code 4 (.istore 6) 2 6 := ⟨by decide +kernel, rfl⟩
theorem D2_6 : Dec prog_148_method_6_code 6 (.iload 6) 2 8 := ⟨by decide +kernel, rfl⟩
theorem D2_8 : Dec prog_148_method_6_code 8 (.iload_n 1) 1 9 := ⟨by decide +kernel, rfl⟩
theorem D2_9 : Jmp prog_148_method_6_code 9 (.if_icmp .ge 44) 44 12 53 := ⟨by decide +kernel, rfl, by decide, by decide⟩
theorem D2_12 : Dec prog_148_method_6_code 12 (.bipush 31) 2 14 := ⟨by decide +kernel, rfl⟩
theorem D2_14 : Dec prog_148_method_6_code 14 (.iload 5) 2 16 := ⟨by decide +kernel, rfl⟩
theorem D2_16 : Dec prog_148_method_6_code 16 .imul 1 17 := ⟨by decide +kernel, rfl⟩
theorem D2_17 : Dec prog_148_method_6_code 17 (.iload 6) 2 19 := ⟨by decide +kernel, rfl⟩
theorem D2_19 : Dec prog_148_method_6_code 19 (.bipush 8) 2 21 := ⟨by decide +kernel, rfl⟩
theorem D2_21 : Jmp prog_148_method_6_code 21 (.if_icmp .ge 18) 18 24 39 := ⟨by decide +kernel, rfl, by decide, by decide⟩
theorem D2_24 : Dec prog_148_method_6_code 24 (.lload_n 2) 1 25 := ⟨by decide +kernel, rfl⟩
theorem D2_25 : Dec prog_148_method_6_code 25 (.bipush 8) 2 27 := ⟨by decide +kernel, rfl⟩
theorem D2_27 : Dec prog_148_method_6_code 27 (.bipush 7) 2 29 := ⟨by decide +kernel, rfl⟩
theorem D2_29 : Dec prog_148_method_6_code 29 (.iload 6) 2 31 := ⟨by decide +kernel, rfl⟩
theorem D2_31 : Dec prog_148_method_6_code 31 .isub 1 32 := ⟨by decide +kernel, rfl⟩
theorem D2_32 : Dec prog_148_method_6_code 32 .imul 1 33 := ⟨by decide +kernel, rfl⟩
theorem D2_33 : Dec prog_148_method_6_code 33 .lushr 1 34 := ⟨by decide +kernel, rfl⟩
theorem D2_34 : Dec prog_148_method_6_code 34 .l2i 1 35 := ⟨by decide +kernel, rfl⟩
theorem D2_35 : Dec prog_148_method_6_code 35 .i2b 1 36 := ⟨by decide +kernel, rfl⟩
theorem D2_36 : Jmp prog_148_method_6_code 36 (.goto 8) 8 39 44 := ⟨by decide +kernel, rfl, by decide, by decide⟩
theorem D2_39 : Dec prog_148_method_6_code 39 (.aload 4) 2 41 := ⟨by decide +kernel, rfl⟩
theorem D2_41 : Dec prog_148_method_6_code 41 (.iload 6) 2 43 := ⟨by decide +kernel, rfl⟩
theorem D2_43 : Dec prog_148_method_6_code 43 .baload 1 44 := ⟨by decide +kernel, rfl⟩
theorem D2_44 : Dec prog_148_method_6_code 44 .iadd 1 45 := ⟨by decide +kernel, rfl⟩
theorem D2_45 : Dec prog_148_method_6_code 45 (.istore 5) 2 47 := ⟨by decide +kernel, rfl⟩
theorem D2_47 : Dec prog_148_method_6_code 47 (.iinc 6 1) 3 50 := ⟨by decide +kernel, rfl⟩
theorem D2_50 : Jmp prog_148_method_6_code 50 (.goto (-44)) (-44) 53 6 := ⟨by decide +kernel, rfl, by decide, by decide⟩
theorem D2_53 : Dec prog_148_method_6_code 53 (.bipush 31) 2 55 := ⟨by decide +kernel, rfl⟩
theorem D2_55 : Dec prog_148_method_6_code 55 (.iload_n 0) 1 56 := ⟨by decide +kernel, rfl⟩
theorem D2_56 : Dec prog_148_method_6_code 56 (.iconst 2) 1 57 := ⟨by decide +kernel, rfl⟩
theorem D2_57 : Jmp prog_148_method_6_code 57 (.if_icmp .ne 7) 7 60 64 := ⟨by decide +kernel, rfl, by decide, by decide⟩
theorem D2_60 : Dec prog_148_method_6_code 60 (.iconst 0) 1 61 := ⟨by decide +kernel, rfl⟩
theorem D2_61 : Jmp prog_148_method_6_code 61 (.goto 4) 4 64 65 := ⟨by decide +kernel, rfl, by decide, by decide⟩
theorem D2_64 : Dec prog_148_method_6_code 64 (.iload_n 0) 1 65 := ⟨by decide +kernel, rfl⟩
theorem D2_65 : Dec prog_148_method_6_code 65 .imul 1 66 := ⟨by decide +kernel, rfl⟩
theorem D2_66 : Dec prog_148_method_6_code 66 (.iload 5) 2 68 := ⟨by decide +kernel, rfl⟩
theorem D2_68 : Dec prog_148_method_6_code 68 .iadd 1 69 := ⟨by decide +kernel, rfl⟩
theorem D2_69 : Dec prog_148_method_6_code 69 .ireturn 1 70 := ⟨by decide +kernel, rfl⟩
theorem pd_0 : parseMethodDescriptor "(IIIB)I" = some ⟨[.int, .int, .int, .byte], some .int⟩ := by decide +kernel
theorem pd_1 : parseMethodDescriptor "(IIJ[B)I" = some ⟨[.int, .int, .long, (.array .byte)], some .int⟩ := by decide +kernel
section OwnNums
theorem n_bv (a : Nat) : (Int32.ofNat a).toBitVec = BitVec.ofNat 32 a := rfl
theorem eq_mod {x y : Int32} (h : (x.toInt - y.toInt) % 4294967296 = 0) : x = y := Int32.toInt_inj.mp (by have := rng32 x; have := rng32 y; omega)
theorem eq_modL {x y : Int64} (h : (x.toInt - y.toInt) % 18446744073709551616 = 0) : x = y := Int64.toInt_inj.mp (by have := rng64 x; have := rng64 y; omega)
theorem n_add (a b : Nat) : Int32.ofNat a + Int32.ofNat b = Int32.ofNat (a + b) := (Int32.ofNat_add a b).symm
theorem n_mul (a b : Nat) : Int32.ofNat a * Int32.ofNat b = Int32.ofNat (a * b) := (Int32.ofNat_mul a b).symm
theorem n_sub {a b : Nat} (h : b ≤ a) : Int32.ofNat a - Int32.ofNat b = Int32.ofNat (a - b) := by
  have := n_add (a - b) b
  rw [Nat.sub_add_cancel h] at this
  rw [← this, Int32.add_sub_cancel]
theorem n_and (a b : Nat) : Int32.ofNat a &&& Int32.ofNat b = Int32.ofNat (a &&& b) := by
  apply Int32.toBitVec_inj.mp
  rw [Int32.toBitVec_and, n_bv, n_bv, n_bv]
  exact BitVec.ofNat_and.symm
theorem n_or (a b : Nat) : Int32.ofNat a ||| Int32.ofNat b = Int32.ofNat (a ||| b) := by
  apply Int32.toBitVec_inj.mp
  rw [Int32.toBitVec_or, n_bv, n_bv, n_bv]
  exact BitVec.ofNat_or.symm
theorem n_q {k : Nat} (hk : k < 32) : (Int32.ofNat k).toBitVec.toNat % 32 = k := by
  rw [n_bv, BitVec.toNat_ofNat]; omega
theorem n_q64 {k : Nat} (hk : k < 64) : (Int32.ofNat k).toBitVec.toNat % 64 = k := by
  rw [n_bv, BitVec.toNat_ofNat]; omega
theorem toInt_mod (a : Nat) : ((Int32.ofNat a).toInt - a) % 4294967296 = 0 := by
  have h := bm32 (((BitVec.ofNat 32 a).toNat : Nat) : Int)
  rw [show (Int32.ofNat a).toInt = (BitVec.ofNat 32 a).toInt from rfl, BitVec.toInt_eq_toNat_bmod]
  rw [BitVec.toNat_ofNat] at *
  generalize Int.bmod ((a % 2 ^ 32 : Nat) : Int) (2 ^ 32) = w1 at *
  omega
theorem n_inj {a b : Nat} (ha : a < 2147483648) (hb : b < 2147483648) : Int32.ofNat a = Int32.ofNat b ↔ a = b := ⟨fun h => by have := congrArg Int32.toInt h; rw [ofNat_toInt ha, ofNat_toInt hb] at this; omega, fun h => by rw [h]⟩
theorem n_shl (a : Nat) {k : Nat} (hk : k < 32) : jshl (Int32.ofNat a) (Int32.ofNat k) = Int32.ofNat (a * 2 ^ k) := by
  apply eq_mod
  have h1 : ((jshl (Int32.ofNat a) (Int32.ofNat k)).toInt - (Int32.ofNat a).toInt * ((2 ^ k : Nat) : Int)) % 4294967296 = 0 := c_ishl (Int32.ofNat a) (Int32.ofNat k) k (n_q hk)
  generalize (jshl (Int32.ofNat a) (Int32.ofNat k)).toInt = w1 at *
  have h2 := toInt_mod (a * 2 ^ k)
  have h3 := toInt_mod a
  obtain ⟨q, hq⟩ := Int.dvd_of_emod_eq_zero h3
  have h4 : (Int32.ofNat a).toInt * ((2 ^ k : Nat) : Int) - ((a * 2 ^ k : Nat) : Int) = 4294967296 * (q * ((2 ^ k : Nat) : Int)) := by
    rw [Int.natCast_mul, ← Int.sub_mul, hq, Int.mul_assoc]
  omega
theorem n_ushr0 (x : Int32) : jushr x 0 = x := by
  apply Int32.toBitVec_inj.mp
  simp [jushr]
theorem n_ushr {a k : Nat} (ha : a < 2147483648) (hk : k < 32) : jushr (Int32.ofNat a) (Int32.ofNat k) = Int32.ofNat (a / 2 ^ k) := by
  rcases Nat.eq_zero_or_pos k with rfl | h0
  · rw [Nat.pow_zero, Nat.div_one]; exact n_ushr0 _
  · have hd : a / 2 ^ k ≤ a := Nat.div_le_self _ _
    refine eq_ofNat (by omega) ?_
    rw [c_iushr (Int32.ofNat a) (Int32.ofNat k) k (n_q hk) h0, ofNat_toInt ha, show ((a : Int) % 4294967296) = a by omega]
    exact (Int.natCast_ediv _ _).symm
theorem n_shr {a k : Nat} (ha : a < 2147483648) (hk : k < 32) : jshr (Int32.ofNat a) (Int32.ofNat k) = Int32.ofNat (a / 2 ^ k) := by
  have hd : a / 2 ^ k ≤ a := Nat.div_le_self _ _
  refine eq_ofNat (by omega) ?_
  rw [c_ishr (Int32.ofNat a) (Int32.ofNat k) k (n_q hk), ofNat_toInt ha]
  exact (Int.natCast_ediv _ _).symm
theorem n_low (a k : Nat) : Int32.ofNat a &&& Int32.ofNat (2 ^ k - 1) = Int32.ofNat (a % 2 ^ k) := by rw [n_and, Nat.and_two_pow_sub_one_eq_mod]
theorem n_orlow (a : Nat) {i t : Nat} (ht : t < 2 ^ i) : Int32.ofNat (2 ^ i * a) ||| Int32.ofNat t = Int32.ofNat (2 ^ i * a + t) := by rw [n_or, Nat.two_pow_add_eq_or_of_lt ht]
theorem n_rem {a k : Nat} (ha : a < 2147483648) (h1 : 0 < k) (hk : k < 2147483648) : Int32.ofNat a % Int32.ofNat k = Int32.ofNat (a % k) := by
  have hm := Nat.mod_lt a h1
  refine eq_ofNat (by omega) ?_
  rw [(c_irem (Int32.ofNat a) (Int32.ofNat k) k (ofNat_toInt hk)).1 (by rw [ofNat_toInt ha]; omega), ofNat_toInt ha]
  exact (Int.natCast_emod _ _).symm
theorem n_nn (x : Int32) (h : 0 ≤ x.toInt) : ∃ u : Nat, u < 2147483648 ∧ x = Int32.ofNat u := by
  have := rng32 x
  exact ⟨x.toInt.toNat, by omega, eq_ofNat (by omega) (by omega)⟩
theorem n_mask31 (x : Int32) : ∃ u : Nat, u < 2147483648 ∧ x &&& 2147483647 = Int32.ofNat u := n_nn _ (c_and x 2147483647 (by decide)).1
theorem n_mask (x : Int32) (k : Nat) (hk : k ≤ 31) {m : Int32} (hm : m.toBitVec.toNat = 2 ^ k - 1) : x &&& m = Int32.ofNat ((x.toInt % (2 ^ k : Nat)).toNat) := by
  have h1 : (0 : Int) < ((2 ^ k : Nat) : Int) := by
    have := Nat.two_pow_pos k
    omega
  have h2 : ((2 ^ k : Nat) : Int) ≤ 2147483648 := by
    have : 2 ^ k ≤ 2147483648 := Nat.pow_le_pow_right (n := 2) (by decide) hk
    omega
  have h3 := Int.emod_nonneg x.toInt (Int.ne_of_gt h1)
  have h4 := Int.emod_lt_of_pos x.toInt h1
  exact eq_ofNat (by omega) (by rw [c_mask x m k hk hm]; omega)
theorem jbyte_idem (x : Int32) : jbyte (jbyte x) = jbyte x := by
  have h1 := c_i2b x
  have h2 := c_i2b (jbyte x)
  exact Int32.toInt_inj.mp (by simp only [jbyte] at *; omega)
theorem jbyte_and (x : Int32) (k : Nat) (hk : k ≤ 8) {m : Int32} (hm : m.toBitVec.toNat = 2 ^ k - 1) : jbyte x &&& m = x &&& m := by
  have h1 := (c_i2b x).1
  apply Int32.toInt_inj.mp
  rw [c_mask _ m k (by omega) hm, c_mask _ m k (by omega) hm]
  have : ∃ c : Nat, 256 = 2 ^ k * c := ⟨2 ^ (8 - k), by rw [← Nat.pow_add, show k + (8 - k) = 8 by omega]⟩
  obtain ⟨c, hc⟩ := this
  obtain ⟨q, hq⟩ := Int.dvd_of_emod_eq_zero h1
  have h2 : (jbyte x).toInt = x.toInt + ((2 ^ k : Nat) : Int) * ((c : Int) * q) := by
    have h3 : (256 : Int) = ((2 ^ k : Nat) : Int) * (c : Int) := by rw [← Int.natCast_mul, ← hc]; rfl
    rw [h3, Int.mul_assoc] at hq
    simp only [jbyte]; omega
  rw [h2, Int.add_mul_emod_self_left]
end OwnNums
section OwnNumsL
theorem nl_bv (a : Nat) : (Int64.ofNat a).toBitVec = BitVec.ofNat 64 a := rfl
theorem ofNatL_toInt {n : Nat} (h : n < 9223372036854775808) : (Int64.ofNat n).toInt = n := Int64.toInt_ofNat_of_lt (by omega)
theorem eq_ofNatL {x : Int64} {n : Nat} (hn : n < 9223372036854775808) (h : x.toInt = n) : x = Int64.ofNat n := Int64.toInt_inj.mp (by rw [h, ofNatL_toInt hn])
theorem nL_add (a b : Nat) : Int64.ofNat a + Int64.ofNat b = Int64.ofNat (a + b) := (Int64.ofNat_add a b).symm
theorem nL_mul (a b : Nat) : Int64.ofNat a * Int64.ofNat b = Int64.ofNat (a * b) := (Int64.ofNat_mul a b).symm
theorem nL_sub {a b : Nat} (h : b ≤ a) : Int64.ofNat a - Int64.ofNat b = Int64.ofNat (a - b) := by
  have := nL_add (a - b) b
  rw [Nat.sub_add_cancel h] at this
  rw [← this, Int64.add_sub_cancel]
theorem nL_and (a b : Nat) : Int64.ofNat a &&& Int64.ofNat b = Int64.ofNat (a &&& b) := by
  apply Int64.toBitVec_inj.mp
  rw [Int64.toBitVec_and, nl_bv, nl_bv, nl_bv]
  exact BitVec.ofNat_and.symm
theorem nL_or (a b : Nat) : Int64.ofNat a ||| Int64.ofNat b = Int64.ofNat (a ||| b) := by
  apply Int64.toBitVec_inj.mp
  rw [Int64.toBitVec_or, nl_bv, nl_bv, nl_bv]
  exact BitVec.ofNat_or.symm
theorem nL_inj {a b : Nat} (ha : a < 9223372036854775808) (hb : b < 9223372036854775808) : Int64.ofNat a = Int64.ofNat b ↔ a = b := ⟨fun h => by have := congrArg Int64.toInt h; rw [ofNatL_toInt ha, ofNatL_toInt hb] at this; omega, fun h => by rw [h]⟩
theorem nL_lt {a b : Nat} (ha : a < 9223372036854775808) (hb : b < 9223372036854775808) : Int64.ofNat a < Int64.ofNat b ↔ a < b := by rw [Int64.lt_iff_toInt_lt, ofNatL_toInt ha, ofNatL_toInt hb]; omega
theorem toInt_modL (a : Nat) : ((Int64.ofNat a).toInt - a) % 18446744073709551616 = 0 := by
  have h := bm64 (((BitVec.ofNat 64 a).toNat : Nat) : Int)
  rw [show (Int64.ofNat a).toInt = (BitVec.ofNat 64 a).toInt from rfl, BitVec.toInt_eq_toNat_bmod]
  rw [BitVec.toNat_ofNat] at *
  generalize Int.bmod ((a % 2 ^ 64 : Nat) : Int) (2 ^ 64) = w1 at *
  omega
theorem nL_shl (a : Nat) {k : Nat} (hk : k < 64) : jshlL (Int64.ofNat a) (Int32.ofNat k) = Int64.ofNat (a * 2 ^ k) := by
  apply eq_modL
  have h1 : ((jshlL (Int64.ofNat a) (Int32.ofNat k)).toInt - (Int64.ofNat a).toInt * ((2 ^ k : Nat) : Int)) % 18446744073709551616 = 0 := c_lshl (Int64.ofNat a) (Int32.ofNat k) k (n_q64 hk)
  generalize (jshlL (Int64.ofNat a) (Int32.ofNat k)).toInt = w1 at *
  have h2 := toInt_modL (a * 2 ^ k)
  have h3 := toInt_modL a
  obtain ⟨q, hq⟩ := Int.dvd_of_emod_eq_zero h3
  have h4 : (Int64.ofNat a).toInt * ((2 ^ k : Nat) : Int) - ((a * 2 ^ k : Nat) : Int) = 18446744073709551616 * (q * ((2 ^ k : Nat) : Int)) := by
    rw [Int.natCast_mul, ← Int.sub_mul, hq, Int.mul_assoc]
  omega
theorem nL_ushr0 (x : Int64) : jushrL x 0 = x := by
  apply Int64.toBitVec_inj.mp
  simp [jushrL]
theorem nL_ushr {a k : Nat} (ha : a < 9223372036854775808) (hk : k < 64) : jushrL (Int64.ofNat a) (Int32.ofNat k) = Int64.ofNat (a / 2 ^ k) := by
  rcases Nat.eq_zero_or_pos k with rfl | h0
  · rw [Nat.pow_zero, Nat.div_one]; exact nL_ushr0 _
  · have hd : a / 2 ^ k ≤ a := Nat.div_le_self _ _
    refine eq_ofNatL (by omega) ?_
    rw [c_lushr (Int64.ofNat a) (Int32.ofNat k) k (n_q64 hk) h0, ofNatL_toInt ha, show ((a : Int) % 18446744073709551616) = a by omega]
    exact (Int.natCast_ediv _ _).symm
theorem nL_low (a k : Nat) : Int64.ofNat a &&& Int64.ofNat (2 ^ k - 1) = Int64.ofNat (a % 2 ^ k) := by rw [nL_and, Nat.and_two_pow_sub_one_eq_mod]
theorem nL_orlow (a : Nat) {i t : Nat} (ht : t < 2 ^ i) : Int64.ofNat (2 ^ i * a) ||| Int64.ofNat t = Int64.ofNat (2 ^ i * a + t) := by rw [nL_or, Nat.two_pow_add_eq_or_of_lt ht]
theorem n_i2l {a : Nat} (h : a < 2147483648) : (Int32.ofNat a).toInt64 = Int64.ofNat a := eq_ofNatL (by omega) (by rw [c_i2l, ofNat_toInt h])
theorem n_l2i (a : Nat) : (Int64.ofNat a).toInt32 = Int32.ofNat a := by
  apply eq_mod
  have h1 := c_l2i (Int64.ofNat a)
  have h2 := toInt_modL a
  have h3 := toInt_mod a
  omega
theorem nL_nn (x : Int64) (h : 0 ≤ x.toInt) : ∃ u : Nat, u < 9223372036854775808 ∧ x = Int64.ofNat u := by
  have := rng64 x
  exact ⟨x.toInt.toNat, by omega, eq_ofNatL (by omega) (by omega)⟩
end OwnNumsL

/-- the hash of the first n bytes -/
def hsh (g : Nat → Int32) : Nat → Int32
  | 0 => 1
  | n + 1 => 31 * hsh g n + g n
def st (g : Nat → Int32) (N : Nat) : Nat → Int32
  | 0 => 1
  | k + 1 => if k < N then 31 * st g N k + g k else st g N k
theorem own_st (g : Nat → Int32) (N : Nat) : ∀ k, st g N k = hsh g (min k N)
  | 0 => by rw [Nat.zero_min]; rfl
  | k + 1 => by
    rw [st]
    split
    · rw [own_st g N k, show min (k + 1) N = min k N + 1 by omega, hsh, show min k N = k by omega]
    · rw [own_st g N k, show min (k + 1) N = min k N by omega]
def sgt (x : Int32) : Int32 := if x = 2 then 0 else x
theorem own_len (x : Int32) : ∃ N : Nat, N < 13 ∧ (x &&& 2147483647) % 13 = Int32.ofNat N := by
  obtain ⟨v, hv, ev⟩ := n_mask31 x
  exact ⟨v % 13, Nat.mod_lt _ (by decide), by rw [ev]; exact n_rem (k := 13) hv (by decide) (by decide)⟩
theorem own_at (x : Int32) : ∃ A : Nat, A < 4 ∧ x &&& 3 = Int32.ofNat A := ⟨_, by omega, n_mask x 2 (by decide) (m := 3) (by decide)⟩
theorem jbyte_eq {x y : Int32} (h : (x.toInt - y.toInt) % 256 = 0) : jbyte x = jbyte y := by
  have h1 := c_i2b x
  have h2 := c_i2b y
  exact Int32.toInt_inj.mp (by simp only [jbyte]; omega)
theorem own_hi (a m M : Int64) (t : Nat) (ht : t ≤ 63) (hm : m.toBitVec.toNat = 2 ^ t - 1) (hM : M = ~~~m) : ((a &&& M).toInt - (a.toInt - a.toInt % (2 ^ t : Nat))) % 18446744073709551616 = 0 := by
  have e : (a &&& M) + (a &&& m) = a := by
    subst hM
    apply Int64.toBitVec_inj.mp
    rw [Int64.toBitVec_add, Int64.toBitVec_and, Int64.toBitVec_and, Int64.toBitVec_not]
    rw [BitVec.add_eq_or_of_and_eq_zero]
    · apply BitVec.eq_of_getLsbD_eq
      intro i hi
      simp only [BitVec.getLsbD_or, BitVec.getLsbD_and, BitVec.getLsbD_not, hi, decide_true, Bool.true_and]
      cases a.toBitVec.getLsbD i <;> cases m.toBitVec.getLsbD i <;> rfl
    · apply BitVec.eq_of_getLsbD_eq
      intro i hi
      simp only [BitVec.getLsbD_and, BitVec.getLsbD_not, hi, decide_true, Bool.true_and, BitVec.getLsbD_zero]
      cases a.toBitVec.getLsbD i <;> cases m.toBitVec.getLsbD i <;> rfl
  have h1 := c_ladd (a &&& M) (a &&& m)
  rw [e, c_maskL a m t ht hm] at h1
  omega
/-- one byte of the long, its lower bytes put to 0 or not -/
theorem own_byte (a m M : Int64) (q : Int32) (t sh : Nat) (ht : t ≤ 63) (hm : m.toBitVec.toNat = 2 ^ t - 1) (hM : M = ~~~m) (hq : q.toBitVec.toNat % 64 = sh) (h0 : 0 < sh) (hts : t ≤ sh) (hsh : sh ≤ 56) : jbyte ((jushrL (a &&& M) q).toInt32) = jbyte ((jushrL a q).toInt32) := by
  have h1 := own_hi a m M t ht hm hM
  have e1 : (jushrL (a &&& M) q).toInt = ((a &&& M).toInt % 18446744073709551616) / (2 ^ sh : Nat) := c_lushr (a &&& M) q sh hq h0
  have e2 : (jushrL a q).toInt = (a.toInt % 18446744073709551616) / (2 ^ sh : Nat) := c_lushr a q sh hq h0
  have e3 : (jushrL (a &&& M) q).toInt = (jushrL a q).toInt := by
    rw [e1, e2]
    have p1 : ((2 ^ sh : Nat) : Int) = ((2 ^ t : Nat) : Int) * ((2 ^ (sh - t) : Nat) : Int) := by rw [← Int.natCast_mul, ← Nat.pow_add, show t + (sh - t) = sh by omega]
    have p2 : (0 : Int) < ((2 ^ t : Nat) : Int) := by have := Nat.two_pow_pos t; omega
    have p3 : (18446744073709551616 : Int) = ((2 ^ t : Nat) : Int) * ((2 ^ (64 - t) : Nat) : Int) := by rw [← Int.natCast_mul, ← Nat.pow_add, show t + (64 - t) = 64 by omega]; rfl
    have p4 : a.toInt - a.toInt % ((2 ^ t : Nat) : Int) = ((2 ^ t : Nat) : Int) * (a.toInt / ((2 ^ t : Nat) : Int)) := by have := Int.mul_ediv_add_emod a.toInt ((2 ^ t : Nat) : Int); omega
    have p5 : (a &&& M).toInt % 18446744073709551616 = (((2 ^ t : Nat) : Int) * (a.toInt / ((2 ^ t : Nat) : Int))) % 18446744073709551616 := by rw [← p4]; omega
    rw [p5, p1, ← Int.ediv_ediv_of_nonneg (Int.le_of_lt p2), ← Int.ediv_ediv_of_nonneg (Int.le_of_lt p2)]
    congr 1
    rw [p3, Int.mul_emod_mul_of_pos _ _ p2, Int.mul_ediv_cancel_left _ (Int.ne_of_gt p2)]
    have p6 : a.toInt / ((2 ^ t : Nat) : Int) % ((2 ^ (64 - t) : Nat) : Int) = a.toInt % (((2 ^ t : Nat) : Int) * ((2 ^ (64 - t) : Nat) : Int)) / ((2 ^ t : Nat) : Int) := by
      have q1 := Int.mul_ediv_add_emod a.toInt (((2 ^ t : Nat) : Int) * ((2 ^ (64 - t) : Nat) : Int))
      generalize ((2 ^ t : Nat) : Int) = T at *
      generalize ((2 ^ (64 - t) : Nat) : Int) = U at *
      rw [Int.emod_def (a.toInt / T), Int.emod_def a.toInt (T * U), Int.ediv_ediv_of_nonneg (Int.le_of_lt p2), Int.mul_assoc, Int.sub_eq_add_neg (a := a.toInt), ← Int.mul_neg, Int.add_mul_ediv_left _ _ (Int.ne_of_gt p2), Int.sub_eq_add_neg]
    exact p6
  apply jbyte_eq
  have h2 := c_l2i (jushrL (a &&& M) q)
  have h3 := c_l2i (jushrL a q)
  rw [e3] at h2
  omega
theorem ef_1 (m : MethodId) (hh : Int32) (l0 : Int32) (i0 : Int32) (b0 : Int32) : entryFrame m #[(.int hh), (.int l0), (.int i0), (.int b0)] 4 = mkF m 0 #[.val (.int hh), .val (.int l0), .val (.int i0), .val (.int b0)] [] := by first | (simp [entryFrame, mkF, argsToLocals, Value.category]; done) | rfl
theorem pn_1 : plainName "nestrel/engine/store/KeyHashPinLaw" = true := by first | (simp [plainName, overriddenIn]; done) | decide +kernel
set_option maxRecDepth 65536 in
set_option maxHeartbeats 40000000 in
theorem rm1 {l : Launch} {Z : State} {a0 : Array Value} {n0 : Nat} {h : Heap} (hw : ∀ d ∈ tables_1, d.before a0 Z = true) (hn : n0 ≤ h.size) (hh : Int32) (l0 : Int32) (i0 : Int32) (b0 : Int32) (N I : Nat) (hN : N < 13) (hI : I < 13) (eN : l0 = Int32.ofNat N) (eI : i0 = Int32.ofNat I) :
    Ctr l Z n0 (⟨"nestrel/engine/store/KeyHashPinLaw", "step", "(IIIB)I"⟩ : MethodName) method_3_code 4 (some .int) ({ frames := 0, cells := 0, slots := 0, locals := 0 } : Room) [] #[(.int hh), (.int l0), (.int i0), (.int b0)] h (fun v h' => v = some (.int (if I < N then 31 * hh + b0 else hh)) ∧ h = h') := by
  refine ctr_of (plainFor_of_name pn_1) hw hn ?_
  intro p e s m below meth c T X
  refine Wp.cast (ef_1 m hh l0 i0 b0) ?_
  subst eN eI
  refine w_iloadN X D1_0 rfl ?_
  refine w_iloadN X D1_1 rfl ?_
  refine w_icmpge X D1_2 (fun hc2 => ?_) (fun hc2 => ?_)
  · refine w_iloadN X D1_14 rfl ?_
    exact w_ireturn X D1_15 (by decide) (by decide) (⟨by
            rw [if_neg (fun z => hc2 ((ofNat_lt (by omega) (by omega)).mpr z))], rfl⟩)
  · refine w_bipush X D1_5 (v := (31 : Int32)) rfl ?_
    refine w_iloadN X D1_7 rfl ?_
    refine w_imul X D1_8 ?_
    refine w_iloadN X D1_9 rfl ?_
    refine w_iadd X D1_10 ?_
    refine w_goto X D1_11 ?_
    exact w_ireturn X D1_15 (by decide) (by decide) (⟨by
            rw [if_pos ((ofNat_lt (by omega) (by omega)).mp hc2)], rfl⟩)
set_option maxRecDepth 65536 in
set_option maxHeartbeats 40000000 in
theorem loop2 {Z : State} {a0 : Array Value} {n0 : Nat} {p : Program} {l : Launch} {e : Env} {R : Room} {s : State} {m : MethodId} {args : Array Value} {below : List Frame} {meth : Method} {c : Code} {T : State} {h : Heap} {k j : Nat} {Q : Option Value → Heap → Prop} (X : Pos Z a0 n0 p l e R s m args below meth c prog_148_method_6_code 7 (some .int) (⟨"nestrel/engine/store/Key", "hash", "(IIJ[B)I"⟩ : MethodName) T h k j) (sg : Int32) (pr : Int64) (lv : Value) (N : Nat) (g : Nat → Int32) (hN : N < 13) (hp : ∀ i, i < N → i < 8 → jbyte ((jushrL pr ((8 : Int32) * ((7 : Int32) - Int32.ofNat i))).toInt32) = g i) (hB : 8 < N → ∃ a, lv = .ref a ∧ Ba Z n0 h a .byte 12 (bI g)) (q : Wp n0 p e R s below Q T (mkF m 53 #[.val (.int sg), .val (.int (Int32.ofNat N)), .val (.long pr), .second, .val lv, .val (.int (hsh g N)), .val (.int (Int32.ofNat N))] [])) : ∀ r i, i + r = N → Wp n0 p e R s below Q T (mkF m 6 #[.val (.int sg), .val (.int (Int32.ofNat N)), .val (.long pr), .second, .val lv, .val (.int (hsh g i)), .val (.int (Int32.ofNat i))] []) := by
  intro r
  induction r with
  | zero =>
    intro i hi
    obtain rfl : i = N := by omega
    refine w_iload X D2_6 rfl ?_
    refine w_iloadN X D2_8 rfl ?_
    refine w_icmpge X D2_9 (fun hc9 => ?_) (fun hc9 => by exact absurd hc9 (Int32.lt_irrefl))
    exact q
  | succ r ih =>
    intro i hi
    refine w_iload X D2_6 rfl ?_
    refine w_iloadN X D2_8 rfl ?_
    refine w_icmpge X D2_9 (fun hc9 => by have z : ¬ i < N := (fun z => hc9 ((ofNat_lt (by omega) (by omega)).mpr z)); omega) (fun hc9 => ?_)
    refine w_bipush X D2_12 (v := (31 : Int32)) rfl ?_
    refine w_iload X D2_14 rfl ?_
    refine w_imul X D2_16 ?_
    refine w_iload X D2_17 rfl ?_
    refine w_bipush X D2_19 (v := (8 : Int32)) rfl ?_
    refine w_icmpge X D2_21 (fun hc21 => ?_) (fun hc21 => ?_)
    · have hi8 : ¬ i < 8 := fun z => hc21 ((ofNat_lt (b := 8) (by omega) (by decide)).mpr z)
      obtain ⟨a, rfl, B⟩ := hB (by omega)
      refine w_aload X D2_39 rfl rfl ?_
      refine w_iload X D2_41 rfl ?_
      refine w_baload X D2_43 B i rfl (by omega) ?_
      refine w_iadd X D2_44 ?_
      refine w_istore X D2_45 (l' := #[.val (.int sg), .val (.int (Int32.ofNat N)), .val (.long pr), .second, .val (.ref a), .val (.int (((31 : Int32) * (hsh g i)) + (g i))), .val (.int (Int32.ofNat i))]) rfl ?_
      refine w_iinc X D2_47 (d := (1 : Int32)) (r := (Int32.ofNat (i + 1))) (l' := #[.val (.int sg), .val (.int (Int32.ofNat N)), .val (.long pr), .second, .val (.ref a), .val (.int (((31 : Int32) * (hsh g i)) + (g i))), .val (.int (Int32.ofNat (i + 1)))]) rfl rfl (n_add _ _) rfl ?_
      refine w_goto X D2_50 ?_
      exact ih (i + 1) (by omega)
    · refine w_lloadN X D2_24 rfl ?_
      refine w_bipush X D2_25 (v := (8 : Int32)) rfl ?_
      refine w_bipush X D2_27 (v := (7 : Int32)) rfl ?_
      refine w_iload X D2_29 rfl ?_
      refine w_isub X D2_31 ?_
      refine w_imul X D2_32 ?_
      refine w_lushr X D2_33 ?_
      refine w_l2i X D2_34 ?_
      refine w_i2b X D2_35 ?_
      rw [hp i (by omega) ((ofNat_lt (b := 8) (by omega) (by decide)).mp hc21)]
      refine w_goto X D2_36 ?_
      refine w_iadd X D2_44 ?_
      refine w_istore X D2_45 (l' := #[.val (.int sg), .val (.int (Int32.ofNat N)), .val (.long pr), .second, .val lv, .val (.int (((31 : Int32) * (hsh g i)) + (g i))), .val (.int (Int32.ofNat i))]) rfl ?_
      refine w_iinc X D2_47 (d := (1 : Int32)) (r := (Int32.ofNat (i + 1))) (l' := #[.val (.int sg), .val (.int (Int32.ofNat N)), .val (.long pr), .second, .val lv, .val (.int (((31 : Int32) * (hsh g i)) + (g i))), .val (.int (Int32.ofNat (i + 1)))]) rfl rfl (n_add _ _) rfl ?_
      refine w_goto X D2_50 ?_
      exact ih (i + 1) (by omega)
theorem ef_2n (m : MethodId) (sg : Int32) (l0 : Int32) (pr : Int64) : entryFrame m #[(.int sg), (.int l0), (.long pr), .null] 7 = mkF m 0 #[.val (.int sg), .val (.int l0), .val (.long pr), .second, .val .null, .unset, .unset] [] := by first | (simp [entryFrame, mkF, argsToLocals, Value.category]; done) | rfl
theorem pn_2n : plainName "nestrel/engine/store/Key" = true := by first | (simp [plainName, overriddenIn]; done) | decide +kernel
set_option maxRecDepth 65536 in
set_option maxHeartbeats 40000000 in
theorem rm2n {l : Launch} {Z : State} {a0 : Array Value} {n0 : Nat} {h : Heap} (hw : ∀ d ∈ tables_1, d.before a0 Z = true) (hn : n0 ≤ h.size) (sg : Int32) (l0 : Int32) (pr : Int64) (N : Nat) (g : Nat → Int32) (eN : l0 = Int32.ofNat N) (hN : N < 13) (hp : ∀ i, i < N → i < 8 → jbyte ((jushrL pr ((8 : Int32) * ((7 : Int32) - Int32.ofNat i))).toInt32) = g i) (hN8 : N ≤ 8) :
    Ctr l Z n0 (⟨"nestrel/engine/store/Key", "hash", "(IIJ[B)I"⟩ : MethodName) prog_148_method_6_code 7 (some .int) ({ frames := 0, cells := 0, slots := 0, locals := 0 } : Room) [] #[(.int sg), (.int l0), (.long pr), .null] h (fun v h' => v = some (.int (31 * sgt sg + hsh g N)) ∧ h = h') := by
  refine ctr_of (plainFor_of_name pn_2n) hw hn ?_
  intro p e s m below meth c T X
  refine Wp.cast (ef_2n m sg l0 pr) ?_
  subst eN
  refine w_iconst X D2_0 (v := (1 : Int32)) rfl ?_
  refine w_istore X D2_1 (l' := #[.val (.int sg), .val (.int (Int32.ofNat N)), .val (.long pr), .second, .val .null, .val (.int (1 : Int32)), .unset]) rfl ?_
  refine w_iconst X D2_3 (v := (0 : Int32)) rfl ?_
  refine w_istore X D2_4 (l' := #[.val (.int sg), .val (.int (Int32.ofNat N)), .val (.long pr), .second, .val .null, .val (.int (1 : Int32)), .val (.int (0 : Int32))]) rfl ?_
  refine loop2 X sg pr _ N g hN hp (fun z => by omega) ?_ N 0 (by omega)
  refine w_bipush X D2_53 (v := (31 : Int32)) rfl ?_
  refine w_iloadN X D2_55 rfl ?_
  refine w_iconst X D2_56 (v := (2 : Int32)) rfl ?_
  refine w_icmpne X D2_57 (fun hc57 => ?_) (fun hc57 => ?_)
  · refine w_iloadN X D2_64 rfl ?_
    refine w_imul X D2_65 ?_
    refine w_iload X D2_66 rfl ?_
    refine w_iadd X D2_68 ?_
    exact w_ireturn X D2_69 (by decide) (by decide) (⟨by rw [sgt, if_neg hc57], rfl⟩)
  · refine w_iconst X D2_60 (v := (0 : Int32)) rfl ?_
    refine w_goto X D2_61 ?_
    refine w_imul X D2_65 ?_
    refine w_iload X D2_66 rfl ?_
    refine w_iadd X D2_68 ?_
    exact w_ireturn X D2_69 (by decide) (by decide) (⟨by rw [sgt, if_pos hc57], rfl⟩)
theorem ef_2r (m : MethodId) (sg : Int32) (l0 : Int32) (pr : Int64) (a : Addr) : entryFrame m #[(.int sg), (.int l0), (.long pr), (.ref a)] 7 = mkF m 0 #[.val (.int sg), .val (.int l0), .val (.long pr), .second, .val (.ref a), .unset, .unset] [] := by first | (simp [entryFrame, mkF, argsToLocals, Value.category]; done) | rfl
theorem pn_2r : plainName "nestrel/engine/store/Key" = true := by first | (simp [plainName, overriddenIn]; done) | decide +kernel
set_option maxRecDepth 65536 in
set_option maxHeartbeats 40000000 in
theorem rm2r {l : Launch} {Z : State} {a0 : Array Value} {n0 : Nat} {h : Heap} (hw : ∀ d ∈ tables_1, d.before a0 Z = true) (hn : n0 ≤ h.size) (sg : Int32) (l0 : Int32) (pr : Int64) (a : Addr) (N : Nat) (g : Nat → Int32) (eN : l0 = Int32.ofNat N) (hN : N < 13) (hp : ∀ i, i < N → i < 8 → jbyte ((jushrL pr ((8 : Int32) * ((7 : Int32) - Int32.ofNat i))).toInt32) = g i) (B : Ba Z n0 h a .byte 12 (bI g)) :
    Ctr l Z n0 (⟨"nestrel/engine/store/Key", "hash", "(IIJ[B)I"⟩ : MethodName) prog_148_method_6_code 7 (some .int) ({ frames := 0, cells := 0, slots := 0, locals := 0 } : Room) [] #[(.int sg), (.int l0), (.long pr), (.ref a)] h (fun v h' => v = some (.int (31 * sgt sg + hsh g N)) ∧ h = h') := by
  refine ctr_of (plainFor_of_name pn_2r) hw hn ?_
  intro p e s m below meth c T X
  refine Wp.cast (ef_2r m sg l0 pr a) ?_
  subst eN
  refine w_iconst X D2_0 (v := (1 : Int32)) rfl ?_
  refine w_istore X D2_1 (l' := #[.val (.int sg), .val (.int (Int32.ofNat N)), .val (.long pr), .second, .val (.ref a), .val (.int (1 : Int32)), .unset]) rfl ?_
  refine w_iconst X D2_3 (v := (0 : Int32)) rfl ?_
  refine w_istore X D2_4 (l' := #[.val (.int sg), .val (.int (Int32.ofNat N)), .val (.long pr), .second, .val (.ref a), .val (.int (1 : Int32)), .val (.int (0 : Int32))]) rfl ?_
  refine loop2 X sg pr _ N g hN hp (fun _ => ⟨a, rfl, B⟩) ?_ N 0 (by omega)
  refine w_bipush X D2_53 (v := (31 : Int32)) rfl ?_
  refine w_iloadN X D2_55 rfl ?_
  refine w_iconst X D2_56 (v := (2 : Int32)) rfl ?_
  refine w_icmpne X D2_57 (fun hc57 => ?_) (fun hc57 => ?_)
  · refine w_iloadN X D2_64 rfl ?_
    refine w_imul X D2_65 ?_
    refine w_iload X D2_66 rfl ?_
    refine w_iadd X D2_68 ?_
    exact w_ireturn X D2_69 (by decide) (by decide) (⟨by rw [sgt, if_neg hc57], rfl⟩)
  · refine w_iconst X D2_60 (v := (0 : Int32)) rfl ?_
    refine w_goto X D2_61 ?_
    refine w_imul X D2_65 ?_
    refine w_iload X D2_66 rfl ?_
    refine w_iadd X D2_68 ?_
    exact w_ireturn X D2_69 (by decide) (by decide) (⟨by rw [sgt, if_pos hc57], rfl⟩)
set_option maxRecDepth 65536 in
set_option maxHeartbeats 40000000 in
theorem law3 {Z : State} {a0 : Array Value} {n0 : Nat} {p : Program} {l : Launch} {e : Env} {s : State} {m : MethodId} {args : Array Value} {below : List Frame} {meth : Method} {c : Code} {T : State} {h : Heap}  (hw : ∀ d ∈ tables_1, d.before a0 Z = true) (X : Pos Z a0 n0 p l e room_1 s m args below meth c code maxLocals ret x T h 1 12) (a b : Int32) (c0 : Int64) (d sel sg stv : Int32) (t : Addr) (pr : Int64) (N : Nat) (g : Nat → Int32) (hN : N < 13) (hsg : sgt sg = stv) (hp : ∀ i, i < N → i < 8 → jbyte ((jushrL pr ((8 : Int32) * ((7 : Int32) - Int32.ofNat i))).toInt32) = g i) (B : Ba Z n0 h t .byte 12 (bI g)) : Wp n0 p e room_1 s below (fun v _ => v = some (.int 1)) T (mkF m 226 #[.val (.int a), .val (.int b), .val (.long c0), .second, .val (.int d), .val (.int (Int32.ofNat N)), .val (.int sel), .val (.int sg), .val (.int stv), .val (.ref t), .val (.long pr), .second, .unset, .unset, .unset] []) := by
  refine w_iload X D0_226 rfl ?_
  refine w_bipush X D0_228 (v := (8 : Int32)) rfl ?_
  refine w_icmple X D0_230 (fun hc230 => ?_) (fun hc230 => ?_)
  · refine w_null X D0_238 ?_
    refine w_astore X D0_239 (l' := #[.val (.int a), .val (.int b), .val (.long c0), .second, .val (.int d), .val (.int (Int32.ofNat N)), .val (.int sel), .val (.int sg), .val (.int stv), .val (.ref t), .val (.long pr), .second, .val .null, .unset, .unset]) rfl rfl ?_
    refine w_iconst X D0_241 (v := (1 : Int32)) rfl ?_
    refine w_istore X D0_242 (l' := #[.val (.int a), .val (.int b), .val (.long c0), .second, .val (.int d), .val (.int (Int32.ofNat N)), .val (.int sel), .val (.int sg), .val (.int stv), .val (.ref t), .val (.long pr), .second, .val .null, .val (.int (1 : Int32)), .unset]) rfl ?_
    show Wp _ _ _ _ _ _ _ _ (mkF m 244 #[.val (.int a), .val (.int b), .val (.long c0), .second, .val (.int d), .val (.int (Int32.ofNat N)), .val (.int sel), .val (.int sg), .val (.int stv), .val (.ref t), .val (.long pr), .second, .val .null, .val (.int (st g N 0)), .unset] [])
    refine w_iload X D0_244 rfl ?_
    refine w_iload X D0_246 rfl ?_
    refine w_iconst X D0_248 (v := (0 : Int32)) rfl ?_
    refine w_aload X D0_249 rfl rfl ?_
    refine w_iconst X D0_251 (v := (0 : Int32)) rfl ?_
    refine w_baload X D0_252 B 0 rfl (by decide) ?_
    refine w_static X D0_253 (rm1 hw X.sz _ _ _ _ N 0 hN (by decide) rfl rfl) (hw _ (List.mem_of_getElem? (i := 3) rfl)) (hw _ (List.mem_of_getElem? (i := 4) rfl)) (hw _ (List.mem_of_getElem? (i := 5) rfl)) (hw _ (List.mem_of_getElem? (i := 6) rfl)) (by decide) pd_0 rfl (S := []) rfl rfl (Nat.le_of_ble_eq_true rfl) (Nat.le_of_ble_eq_true rfl) (Nat.le_of_ble_eq_true rfl) (Nat.le_of_ble_eq_true rfl) (fun v1 T1 h1 X1 q1 => ?_)
    obtain ⟨rfl, rfl⟩ := q1
    show Wp _ _ _ _ _ _ _ _ (mkF m 256 #[.val (.int a), .val (.int b), .val (.long c0), .second, .val (.int d), .val (.int (Int32.ofNat N)), .val (.int sel), .val (.int sg), .val (.int stv), .val (.ref t), .val (.long pr), .second, .val .null, .val (.int (st g N 0)), .unset] [(.int (st g N 1))])
    refine w_istore X1 D0_256 (l' := #[.val (.int a), .val (.int b), .val (.long c0), .second, .val (.int d), .val (.int (Int32.ofNat N)), .val (.int sel), .val (.int sg), .val (.int stv), .val (.ref t), .val (.long pr), .second, .val .null, .val (.int (st g N 1)), .unset]) rfl ?_
    refine w_iload X1 D0_258 rfl ?_
    refine w_iload X1 D0_260 rfl ?_
    refine w_iconst X1 D0_262 (v := (1 : Int32)) rfl ?_
    refine w_aload X1 D0_263 rfl rfl ?_
    refine w_iconst X1 D0_265 (v := (1 : Int32)) rfl ?_
    refine w_baload X1 D0_266 B 1 rfl (by decide) ?_
    refine w_static X1 D0_267 (rm1 hw X1.sz _ _ _ _ N 1 hN (by decide) rfl rfl) (hw _ (List.mem_of_getElem? (i := 3) rfl)) (hw _ (List.mem_of_getElem? (i := 4) rfl)) (hw _ (List.mem_of_getElem? (i := 5) rfl)) (hw _ (List.mem_of_getElem? (i := 6) rfl)) (by decide) pd_0 rfl (S := []) rfl rfl (Nat.le_of_ble_eq_true rfl) (Nat.le_of_ble_eq_true rfl) (Nat.le_of_ble_eq_true rfl) (Nat.le_of_ble_eq_true rfl) (fun v2 T2 h2 X2 q2 => ?_)
    obtain ⟨rfl, rfl⟩ := q2
    show Wp _ _ _ _ _ _ _ _ (mkF m 270 #[.val (.int a), .val (.int b), .val (.long c0), .second, .val (.int d), .val (.int (Int32.ofNat N)), .val (.int sel), .val (.int sg), .val (.int stv), .val (.ref t), .val (.long pr), .second, .val .null, .val (.int (st g N 1)), .unset] [(.int (st g N 2))])
    refine w_istore X2 D0_270 (l' := #[.val (.int a), .val (.int b), .val (.long c0), .second, .val (.int d), .val (.int (Int32.ofNat N)), .val (.int sel), .val (.int sg), .val (.int stv), .val (.ref t), .val (.long pr), .second, .val .null, .val (.int (st g N 2)), .unset]) rfl ?_
    refine w_iload X2 D0_272 rfl ?_
    refine w_iload X2 D0_274 rfl ?_
    refine w_iconst X2 D0_276 (v := (2 : Int32)) rfl ?_
    refine w_aload X2 D0_277 rfl rfl ?_
    refine w_iconst X2 D0_279 (v := (2 : Int32)) rfl ?_
    refine w_baload X2 D0_280 B 2 rfl (by decide) ?_
    refine w_static X2 D0_281 (rm1 hw X2.sz _ _ _ _ N 2 hN (by decide) rfl rfl) (hw _ (List.mem_of_getElem? (i := 3) rfl)) (hw _ (List.mem_of_getElem? (i := 4) rfl)) (hw _ (List.mem_of_getElem? (i := 5) rfl)) (hw _ (List.mem_of_getElem? (i := 6) rfl)) (by decide) pd_0 rfl (S := []) rfl rfl (Nat.le_of_ble_eq_true rfl) (Nat.le_of_ble_eq_true rfl) (Nat.le_of_ble_eq_true rfl) (Nat.le_of_ble_eq_true rfl) (fun v3 T3 h3 X3 q3 => ?_)
    obtain ⟨rfl, rfl⟩ := q3
    show Wp _ _ _ _ _ _ _ _ (mkF m 284 #[.val (.int a), .val (.int b), .val (.long c0), .second, .val (.int d), .val (.int (Int32.ofNat N)), .val (.int sel), .val (.int sg), .val (.int stv), .val (.ref t), .val (.long pr), .second, .val .null, .val (.int (st g N 2)), .unset] [(.int (st g N 3))])
    refine w_istore X3 D0_284 (l' := #[.val (.int a), .val (.int b), .val (.long c0), .second, .val (.int d), .val (.int (Int32.ofNat N)), .val (.int sel), .val (.int sg), .val (.int stv), .val (.ref t), .val (.long pr), .second, .val .null, .val (.int (st g N 3)), .unset]) rfl ?_
    refine w_iload X3 D0_286 rfl ?_
    refine w_iload X3 D0_288 rfl ?_
    refine w_iconst X3 D0_290 (v := (3 : Int32)) rfl ?_
    refine w_aload X3 D0_291 rfl rfl ?_
    refine w_iconst X3 D0_293 (v := (3 : Int32)) rfl ?_
    refine w_baload X3 D0_294 B 3 rfl (by decide) ?_
    refine w_static X3 D0_295 (rm1 hw X3.sz _ _ _ _ N 3 hN (by decide) rfl rfl) (hw _ (List.mem_of_getElem? (i := 3) rfl)) (hw _ (List.mem_of_getElem? (i := 4) rfl)) (hw _ (List.mem_of_getElem? (i := 5) rfl)) (hw _ (List.mem_of_getElem? (i := 6) rfl)) (by decide) pd_0 rfl (S := []) rfl rfl (Nat.le_of_ble_eq_true rfl) (Nat.le_of_ble_eq_true rfl) (Nat.le_of_ble_eq_true rfl) (Nat.le_of_ble_eq_true rfl) (fun v4 T4 h4 X4 q4 => ?_)
    obtain ⟨rfl, rfl⟩ := q4
    show Wp _ _ _ _ _ _ _ _ (mkF m 298 #[.val (.int a), .val (.int b), .val (.long c0), .second, .val (.int d), .val (.int (Int32.ofNat N)), .val (.int sel), .val (.int sg), .val (.int stv), .val (.ref t), .val (.long pr), .second, .val .null, .val (.int (st g N 3)), .unset] [(.int (st g N 4))])
    refine w_istore X4 D0_298 (l' := #[.val (.int a), .val (.int b), .val (.long c0), .second, .val (.int d), .val (.int (Int32.ofNat N)), .val (.int sel), .val (.int sg), .val (.int stv), .val (.ref t), .val (.long pr), .second, .val .null, .val (.int (st g N 4)), .unset]) rfl ?_
    refine w_iload X4 D0_300 rfl ?_
    refine w_iload X4 D0_302 rfl ?_
    refine w_iconst X4 D0_304 (v := (4 : Int32)) rfl ?_
    refine w_aload X4 D0_305 rfl rfl ?_
    refine w_iconst X4 D0_307 (v := (4 : Int32)) rfl ?_
    refine w_baload X4 D0_308 B 4 rfl (by decide) ?_
    refine w_static X4 D0_309 (rm1 hw X4.sz _ _ _ _ N 4 hN (by decide) rfl rfl) (hw _ (List.mem_of_getElem? (i := 3) rfl)) (hw _ (List.mem_of_getElem? (i := 4) rfl)) (hw _ (List.mem_of_getElem? (i := 5) rfl)) (hw _ (List.mem_of_getElem? (i := 6) rfl)) (by decide) pd_0 rfl (S := []) rfl rfl (Nat.le_of_ble_eq_true rfl) (Nat.le_of_ble_eq_true rfl) (Nat.le_of_ble_eq_true rfl) (Nat.le_of_ble_eq_true rfl) (fun v5 T5 h5 X5 q5 => ?_)
    obtain ⟨rfl, rfl⟩ := q5
    show Wp _ _ _ _ _ _ _ _ (mkF m 312 #[.val (.int a), .val (.int b), .val (.long c0), .second, .val (.int d), .val (.int (Int32.ofNat N)), .val (.int sel), .val (.int sg), .val (.int stv), .val (.ref t), .val (.long pr), .second, .val .null, .val (.int (st g N 4)), .unset] [(.int (st g N 5))])
    refine w_istore X5 D0_312 (l' := #[.val (.int a), .val (.int b), .val (.long c0), .second, .val (.int d), .val (.int (Int32.ofNat N)), .val (.int sel), .val (.int sg), .val (.int stv), .val (.ref t), .val (.long pr), .second, .val .null, .val (.int (st g N 5)), .unset]) rfl ?_
    refine w_iload X5 D0_314 rfl ?_
    refine w_iload X5 D0_316 rfl ?_
    refine w_iconst X5 D0_318 (v := (5 : Int32)) rfl ?_
    refine w_aload X5 D0_319 rfl rfl ?_
    refine w_iconst X5 D0_321 (v := (5 : Int32)) rfl ?_
    refine w_baload X5 D0_322 B 5 rfl (by decide) ?_
    refine w_static X5 D0_323 (rm1 hw X5.sz _ _ _ _ N 5 hN (by decide) rfl rfl) (hw _ (List.mem_of_getElem? (i := 3) rfl)) (hw _ (List.mem_of_getElem? (i := 4) rfl)) (hw _ (List.mem_of_getElem? (i := 5) rfl)) (hw _ (List.mem_of_getElem? (i := 6) rfl)) (by decide) pd_0 rfl (S := []) rfl rfl (Nat.le_of_ble_eq_true rfl) (Nat.le_of_ble_eq_true rfl) (Nat.le_of_ble_eq_true rfl) (Nat.le_of_ble_eq_true rfl) (fun v6 T6 h6 X6 q6 => ?_)
    obtain ⟨rfl, rfl⟩ := q6
    show Wp _ _ _ _ _ _ _ _ (mkF m 326 #[.val (.int a), .val (.int b), .val (.long c0), .second, .val (.int d), .val (.int (Int32.ofNat N)), .val (.int sel), .val (.int sg), .val (.int stv), .val (.ref t), .val (.long pr), .second, .val .null, .val (.int (st g N 5)), .unset] [(.int (st g N 6))])
    refine w_istore X6 D0_326 (l' := #[.val (.int a), .val (.int b), .val (.long c0), .second, .val (.int d), .val (.int (Int32.ofNat N)), .val (.int sel), .val (.int sg), .val (.int stv), .val (.ref t), .val (.long pr), .second, .val .null, .val (.int (st g N 6)), .unset]) rfl ?_
    refine w_iload X6 D0_328 rfl ?_
    refine w_iload X6 D0_330 rfl ?_
    refine w_bipush X6 D0_332 (v := (6 : Int32)) rfl ?_
    refine w_aload X6 D0_334 rfl rfl ?_
    refine w_bipush X6 D0_336 (v := (6 : Int32)) rfl ?_
    refine w_baload X6 D0_338 B 6 rfl (by decide) ?_
    refine w_static X6 D0_339 (rm1 hw X6.sz _ _ _ _ N 6 hN (by decide) rfl rfl) (hw _ (List.mem_of_getElem? (i := 3) rfl)) (hw _ (List.mem_of_getElem? (i := 4) rfl)) (hw _ (List.mem_of_getElem? (i := 5) rfl)) (hw _ (List.mem_of_getElem? (i := 6) rfl)) (by decide) pd_0 rfl (S := []) rfl rfl (Nat.le_of_ble_eq_true rfl) (Nat.le_of_ble_eq_true rfl) (Nat.le_of_ble_eq_true rfl) (Nat.le_of_ble_eq_true rfl) (fun v7 T7 h7 X7 q7 => ?_)
    obtain ⟨rfl, rfl⟩ := q7
    show Wp _ _ _ _ _ _ _ _ (mkF m 342 #[.val (.int a), .val (.int b), .val (.long c0), .second, .val (.int d), .val (.int (Int32.ofNat N)), .val (.int sel), .val (.int sg), .val (.int stv), .val (.ref t), .val (.long pr), .second, .val .null, .val (.int (st g N 6)), .unset] [(.int (st g N 7))])
    refine w_istore X7 D0_342 (l' := #[.val (.int a), .val (.int b), .val (.long c0), .second, .val (.int d), .val (.int (Int32.ofNat N)), .val (.int sel), .val (.int sg), .val (.int stv), .val (.ref t), .val (.long pr), .second, .val .null, .val (.int (st g N 7)), .unset]) rfl ?_
    refine w_iload X7 D0_344 rfl ?_
    refine w_iload X7 D0_346 rfl ?_
    refine w_bipush X7 D0_348 (v := (7 : Int32)) rfl ?_
    refine w_aload X7 D0_350 rfl rfl ?_
    refine w_bipush X7 D0_352 (v := (7 : Int32)) rfl ?_
    refine w_baload X7 D0_354 B 7 rfl (by decide) ?_
    refine w_static X7 D0_355 (rm1 hw X7.sz _ _ _ _ N 7 hN (by decide) rfl rfl) (hw _ (List.mem_of_getElem? (i := 3) rfl)) (hw _ (List.mem_of_getElem? (i := 4) rfl)) (hw _ (List.mem_of_getElem? (i := 5) rfl)) (hw _ (List.mem_of_getElem? (i := 6) rfl)) (by decide) pd_0 rfl (S := []) rfl rfl (Nat.le_of_ble_eq_true rfl) (Nat.le_of_ble_eq_true rfl) (Nat.le_of_ble_eq_true rfl) (Nat.le_of_ble_eq_true rfl) (fun v8 T8 h8 X8 q8 => ?_)
    obtain ⟨rfl, rfl⟩ := q8
    show Wp _ _ _ _ _ _ _ _ (mkF m 358 #[.val (.int a), .val (.int b), .val (.long c0), .second, .val (.int d), .val (.int (Int32.ofNat N)), .val (.int sel), .val (.int sg), .val (.int stv), .val (.ref t), .val (.long pr), .second, .val .null, .val (.int (st g N 7)), .unset] [(.int (st g N 8))])
    refine w_istore X8 D0_358 (l' := #[.val (.int a), .val (.int b), .val (.long c0), .second, .val (.int d), .val (.int (Int32.ofNat N)), .val (.int sel), .val (.int sg), .val (.int stv), .val (.ref t), .val (.long pr), .second, .val .null, .val (.int (st g N 8)), .unset]) rfl ?_
    refine w_iload X8 D0_360 rfl ?_
    refine w_iload X8 D0_362 rfl ?_
    refine w_bipush X8 D0_364 (v := (8 : Int32)) rfl ?_
    refine w_aload X8 D0_366 rfl rfl ?_
    refine w_bipush X8 D0_368 (v := (8 : Int32)) rfl ?_
    refine w_baload X8 D0_370 B 8 rfl (by decide) ?_
    refine w_static X8 D0_371 (rm1 hw X8.sz _ _ _ _ N 8 hN (by decide) rfl rfl) (hw _ (List.mem_of_getElem? (i := 3) rfl)) (hw _ (List.mem_of_getElem? (i := 4) rfl)) (hw _ (List.mem_of_getElem? (i := 5) rfl)) (hw _ (List.mem_of_getElem? (i := 6) rfl)) (by decide) pd_0 rfl (S := []) rfl rfl (Nat.le_of_ble_eq_true rfl) (Nat.le_of_ble_eq_true rfl) (Nat.le_of_ble_eq_true rfl) (Nat.le_of_ble_eq_true rfl) (fun v9 T9 h9 X9 q9 => ?_)
    obtain ⟨rfl, rfl⟩ := q9
    show Wp _ _ _ _ _ _ _ _ (mkF m 374 #[.val (.int a), .val (.int b), .val (.long c0), .second, .val (.int d), .val (.int (Int32.ofNat N)), .val (.int sel), .val (.int sg), .val (.int stv), .val (.ref t), .val (.long pr), .second, .val .null, .val (.int (st g N 8)), .unset] [(.int (st g N 9))])
    refine w_istore X9 D0_374 (l' := #[.val (.int a), .val (.int b), .val (.long c0), .second, .val (.int d), .val (.int (Int32.ofNat N)), .val (.int sel), .val (.int sg), .val (.int stv), .val (.ref t), .val (.long pr), .second, .val .null, .val (.int (st g N 9)), .unset]) rfl ?_
    refine w_iload X9 D0_376 rfl ?_
    refine w_iload X9 D0_378 rfl ?_
    refine w_bipush X9 D0_380 (v := (9 : Int32)) rfl ?_
    refine w_aload X9 D0_382 rfl rfl ?_
    refine w_bipush X9 D0_384 (v := (9 : Int32)) rfl ?_
    refine w_baload X9 D0_386 B 9 rfl (by decide) ?_
    refine w_static X9 D0_387 (rm1 hw X9.sz _ _ _ _ N 9 hN (by decide) rfl rfl) (hw _ (List.mem_of_getElem? (i := 3) rfl)) (hw _ (List.mem_of_getElem? (i := 4) rfl)) (hw _ (List.mem_of_getElem? (i := 5) rfl)) (hw _ (List.mem_of_getElem? (i := 6) rfl)) (by decide) pd_0 rfl (S := []) rfl rfl (Nat.le_of_ble_eq_true rfl) (Nat.le_of_ble_eq_true rfl) (Nat.le_of_ble_eq_true rfl) (Nat.le_of_ble_eq_true rfl) (fun v10 T10 h10 X10 q10 => ?_)
    obtain ⟨rfl, rfl⟩ := q10
    show Wp _ _ _ _ _ _ _ _ (mkF m 390 #[.val (.int a), .val (.int b), .val (.long c0), .second, .val (.int d), .val (.int (Int32.ofNat N)), .val (.int sel), .val (.int sg), .val (.int stv), .val (.ref t), .val (.long pr), .second, .val .null, .val (.int (st g N 9)), .unset] [(.int (st g N 10))])
    refine w_istore X10 D0_390 (l' := #[.val (.int a), .val (.int b), .val (.long c0), .second, .val (.int d), .val (.int (Int32.ofNat N)), .val (.int sel), .val (.int sg), .val (.int stv), .val (.ref t), .val (.long pr), .second, .val .null, .val (.int (st g N 10)), .unset]) rfl ?_
    refine w_iload X10 D0_392 rfl ?_
    refine w_iload X10 D0_394 rfl ?_
    refine w_bipush X10 D0_396 (v := (10 : Int32)) rfl ?_
    refine w_aload X10 D0_398 rfl rfl ?_
    refine w_bipush X10 D0_400 (v := (10 : Int32)) rfl ?_
    refine w_baload X10 D0_402 B 10 rfl (by decide) ?_
    refine w_static X10 D0_403 (rm1 hw X10.sz _ _ _ _ N 10 hN (by decide) rfl rfl) (hw _ (List.mem_of_getElem? (i := 3) rfl)) (hw _ (List.mem_of_getElem? (i := 4) rfl)) (hw _ (List.mem_of_getElem? (i := 5) rfl)) (hw _ (List.mem_of_getElem? (i := 6) rfl)) (by decide) pd_0 rfl (S := []) rfl rfl (Nat.le_of_ble_eq_true rfl) (Nat.le_of_ble_eq_true rfl) (Nat.le_of_ble_eq_true rfl) (Nat.le_of_ble_eq_true rfl) (fun v11 T11 h11 X11 q11 => ?_)
    obtain ⟨rfl, rfl⟩ := q11
    show Wp _ _ _ _ _ _ _ _ (mkF m 406 #[.val (.int a), .val (.int b), .val (.long c0), .second, .val (.int d), .val (.int (Int32.ofNat N)), .val (.int sel), .val (.int sg), .val (.int stv), .val (.ref t), .val (.long pr), .second, .val .null, .val (.int (st g N 10)), .unset] [(.int (st g N 11))])
    refine w_istore X11 D0_406 (l' := #[.val (.int a), .val (.int b), .val (.long c0), .second, .val (.int d), .val (.int (Int32.ofNat N)), .val (.int sel), .val (.int sg), .val (.int stv), .val (.ref t), .val (.long pr), .second, .val .null, .val (.int (st g N 11)), .unset]) rfl ?_
    refine w_iload X11 D0_408 rfl ?_
    refine w_iload X11 D0_410 rfl ?_
    refine w_bipush X11 D0_412 (v := (11 : Int32)) rfl ?_
    refine w_aload X11 D0_414 rfl rfl ?_
    refine w_bipush X11 D0_416 (v := (11 : Int32)) rfl ?_
    refine w_baload X11 D0_418 B 11 rfl (by decide) ?_
    refine w_static X11 D0_419 (rm1 hw X11.sz _ _ _ _ N 11 hN (by decide) rfl rfl) (hw _ (List.mem_of_getElem? (i := 3) rfl)) (hw _ (List.mem_of_getElem? (i := 4) rfl)) (hw _ (List.mem_of_getElem? (i := 5) rfl)) (hw _ (List.mem_of_getElem? (i := 6) rfl)) (by decide) pd_0 rfl (S := []) rfl rfl (Nat.le_of_ble_eq_true rfl) (Nat.le_of_ble_eq_true rfl) (Nat.le_of_ble_eq_true rfl) (Nat.le_of_ble_eq_true rfl) (fun v12 T12 h12 X12 q12 => ?_)
    obtain ⟨rfl, rfl⟩ := q12
    show Wp _ _ _ _ _ _ _ _ (mkF m 422 #[.val (.int a), .val (.int b), .val (.long c0), .second, .val (.int d), .val (.int (Int32.ofNat N)), .val (.int sel), .val (.int sg), .val (.int stv), .val (.ref t), .val (.long pr), .second, .val .null, .val (.int (st g N 11)), .unset] [(.int (st g N 12))])
    refine w_istore X12 D0_422 (l' := #[.val (.int a), .val (.int b), .val (.long c0), .second, .val (.int d), .val (.int (Int32.ofNat N)), .val (.int sel), .val (.int sg), .val (.int stv), .val (.ref t), .val (.long pr), .second, .val .null, .val (.int (st g N 12)), .unset]) rfl ?_
    refine w_bipush X12 D0_424 (v := (31 : Int32)) rfl ?_
    refine w_iload X12 D0_426 rfl ?_
    refine w_imul X12 D0_428 ?_
    refine w_iload X12 D0_429 rfl ?_
    refine w_iadd X12 D0_431 ?_
    refine w_istore X12 D0_432 (l' := #[.val (.int a), .val (.int b), .val (.long c0), .second, .val (.int d), .val (.int (Int32.ofNat N)), .val (.int sel), .val (.int sg), .val (.int stv), .val (.ref t), .val (.long pr), .second, .val .null, .val (.int (st g N 12)), .val (.int (((31 : Int32) * stv) + (st g N 12)))]) rfl ?_
    refine w_iload X12 D0_434 rfl ?_
    refine w_iload X12 D0_436 rfl ?_
    refine w_lload X12 D0_438 rfl ?_
    refine w_aload X12 D0_440 rfl rfl ?_
    refine w_static X12 D0_442 (rm2n hw X12.sz _ _ _ N g rfl hN hp (Nat.le_of_not_lt fun z => hc230 ((ofNat_lt (a := 8) (by decide) (by omega)).mpr z))) (hw _ (List.mem_of_getElem? (i := 7) rfl)) (hw _ (List.mem_of_getElem? (i := 8) rfl)) (hw _ (List.mem_of_getElem? (i := 9) rfl)) (hw _ (List.mem_of_getElem? (i := 10) rfl)) (by decide) pd_1 rfl (S := []) rfl rfl (Nat.le_of_ble_eq_true rfl) (Nat.le_of_ble_eq_true rfl) (Nat.le_of_ble_eq_true rfl) (Nat.le_of_ble_eq_true rfl) (fun v13 T13 h13 X13 q13 => ?_)
    obtain ⟨rfl, rfl⟩ := q13
    show Wp _ _ _ _ _ _ _ _ (mkF m 445 #[.val (.int a), .val (.int b), .val (.long c0), .second, .val (.int d), .val (.int (Int32.ofNat N)), .val (.int sel), .val (.int sg), .val (.int stv), .val (.ref t), .val (.long pr), .second, .val .null, .val (.int (st g N 12)), .val (.int (((31 : Int32) * stv) + (st g N 12)))] [(.int (31 * sgt sg + hsh g N))])
    refine w_iload X13 D0_445 rfl ?_
    refine w_icmpne X13 D0_447 (fun hc447 => by exact absurd (by rw [hsg, own_st, show min 12 N = N by omega]) hc447) (fun hc447 => ?_)
    refine w_iconst X13 D0_450 (v := (1 : Int32)) rfl ?_
    refine w_goto X13 D0_451 ?_
    exact w_zreturn X13 D0_455 (by decide) (by decide) (rfl)
  · refine w_aload X D0_233 rfl rfl ?_
    refine w_goto X D0_235 ?_
    refine w_astore X D0_239 (l' := #[.val (.int a), .val (.int b), .val (.long c0), .second, .val (.int d), .val (.int (Int32.ofNat N)), .val (.int sel), .val (.int sg), .val (.int stv), .val (.ref t), .val (.long pr), .second, .val (.ref t), .unset, .unset]) rfl rfl ?_
    refine w_iconst X D0_241 (v := (1 : Int32)) rfl ?_
    refine w_istore X D0_242 (l' := #[.val (.int a), .val (.int b), .val (.long c0), .second, .val (.int d), .val (.int (Int32.ofNat N)), .val (.int sel), .val (.int sg), .val (.int stv), .val (.ref t), .val (.long pr), .second, .val (.ref t), .val (.int (1 : Int32)), .unset]) rfl ?_
    show Wp _ _ _ _ _ _ _ _ (mkF m 244 #[.val (.int a), .val (.int b), .val (.long c0), .second, .val (.int d), .val (.int (Int32.ofNat N)), .val (.int sel), .val (.int sg), .val (.int stv), .val (.ref t), .val (.long pr), .second, .val (.ref t), .val (.int (st g N 0)), .unset] [])
    refine w_iload X D0_244 rfl ?_
    refine w_iload X D0_246 rfl ?_
    refine w_iconst X D0_248 (v := (0 : Int32)) rfl ?_
    refine w_aload X D0_249 rfl rfl ?_
    refine w_iconst X D0_251 (v := (0 : Int32)) rfl ?_
    refine w_baload X D0_252 B 0 rfl (by decide) ?_
    refine w_static X D0_253 (rm1 hw X.sz _ _ _ _ N 0 hN (by decide) rfl rfl) (hw _ (List.mem_of_getElem? (i := 3) rfl)) (hw _ (List.mem_of_getElem? (i := 4) rfl)) (hw _ (List.mem_of_getElem? (i := 5) rfl)) (hw _ (List.mem_of_getElem? (i := 6) rfl)) (by decide) pd_0 rfl (S := []) rfl rfl (Nat.le_of_ble_eq_true rfl) (Nat.le_of_ble_eq_true rfl) (Nat.le_of_ble_eq_true rfl) (Nat.le_of_ble_eq_true rfl) (fun v14 T14 h14 X14 q14 => ?_)
    obtain ⟨rfl, rfl⟩ := q14
    show Wp _ _ _ _ _ _ _ _ (mkF m 256 #[.val (.int a), .val (.int b), .val (.long c0), .second, .val (.int d), .val (.int (Int32.ofNat N)), .val (.int sel), .val (.int sg), .val (.int stv), .val (.ref t), .val (.long pr), .second, .val (.ref t), .val (.int (st g N 0)), .unset] [(.int (st g N 1))])
    refine w_istore X14 D0_256 (l' := #[.val (.int a), .val (.int b), .val (.long c0), .second, .val (.int d), .val (.int (Int32.ofNat N)), .val (.int sel), .val (.int sg), .val (.int stv), .val (.ref t), .val (.long pr), .second, .val (.ref t), .val (.int (st g N 1)), .unset]) rfl ?_
    refine w_iload X14 D0_258 rfl ?_
    refine w_iload X14 D0_260 rfl ?_
    refine w_iconst X14 D0_262 (v := (1 : Int32)) rfl ?_
    refine w_aload X14 D0_263 rfl rfl ?_
    refine w_iconst X14 D0_265 (v := (1 : Int32)) rfl ?_
    refine w_baload X14 D0_266 B 1 rfl (by decide) ?_
    refine w_static X14 D0_267 (rm1 hw X14.sz _ _ _ _ N 1 hN (by decide) rfl rfl) (hw _ (List.mem_of_getElem? (i := 3) rfl)) (hw _ (List.mem_of_getElem? (i := 4) rfl)) (hw _ (List.mem_of_getElem? (i := 5) rfl)) (hw _ (List.mem_of_getElem? (i := 6) rfl)) (by decide) pd_0 rfl (S := []) rfl rfl (Nat.le_of_ble_eq_true rfl) (Nat.le_of_ble_eq_true rfl) (Nat.le_of_ble_eq_true rfl) (Nat.le_of_ble_eq_true rfl) (fun v15 T15 h15 X15 q15 => ?_)
    obtain ⟨rfl, rfl⟩ := q15
    show Wp _ _ _ _ _ _ _ _ (mkF m 270 #[.val (.int a), .val (.int b), .val (.long c0), .second, .val (.int d), .val (.int (Int32.ofNat N)), .val (.int sel), .val (.int sg), .val (.int stv), .val (.ref t), .val (.long pr), .second, .val (.ref t), .val (.int (st g N 1)), .unset] [(.int (st g N 2))])
    refine w_istore X15 D0_270 (l' := #[.val (.int a), .val (.int b), .val (.long c0), .second, .val (.int d), .val (.int (Int32.ofNat N)), .val (.int sel), .val (.int sg), .val (.int stv), .val (.ref t), .val (.long pr), .second, .val (.ref t), .val (.int (st g N 2)), .unset]) rfl ?_
    refine w_iload X15 D0_272 rfl ?_
    refine w_iload X15 D0_274 rfl ?_
    refine w_iconst X15 D0_276 (v := (2 : Int32)) rfl ?_
    refine w_aload X15 D0_277 rfl rfl ?_
    refine w_iconst X15 D0_279 (v := (2 : Int32)) rfl ?_
    refine w_baload X15 D0_280 B 2 rfl (by decide) ?_
    refine w_static X15 D0_281 (rm1 hw X15.sz _ _ _ _ N 2 hN (by decide) rfl rfl) (hw _ (List.mem_of_getElem? (i := 3) rfl)) (hw _ (List.mem_of_getElem? (i := 4) rfl)) (hw _ (List.mem_of_getElem? (i := 5) rfl)) (hw _ (List.mem_of_getElem? (i := 6) rfl)) (by decide) pd_0 rfl (S := []) rfl rfl (Nat.le_of_ble_eq_true rfl) (Nat.le_of_ble_eq_true rfl) (Nat.le_of_ble_eq_true rfl) (Nat.le_of_ble_eq_true rfl) (fun v16 T16 h16 X16 q16 => ?_)
    obtain ⟨rfl, rfl⟩ := q16
    show Wp _ _ _ _ _ _ _ _ (mkF m 284 #[.val (.int a), .val (.int b), .val (.long c0), .second, .val (.int d), .val (.int (Int32.ofNat N)), .val (.int sel), .val (.int sg), .val (.int stv), .val (.ref t), .val (.long pr), .second, .val (.ref t), .val (.int (st g N 2)), .unset] [(.int (st g N 3))])
    refine w_istore X16 D0_284 (l' := #[.val (.int a), .val (.int b), .val (.long c0), .second, .val (.int d), .val (.int (Int32.ofNat N)), .val (.int sel), .val (.int sg), .val (.int stv), .val (.ref t), .val (.long pr), .second, .val (.ref t), .val (.int (st g N 3)), .unset]) rfl ?_
    refine w_iload X16 D0_286 rfl ?_
    refine w_iload X16 D0_288 rfl ?_
    refine w_iconst X16 D0_290 (v := (3 : Int32)) rfl ?_
    refine w_aload X16 D0_291 rfl rfl ?_
    refine w_iconst X16 D0_293 (v := (3 : Int32)) rfl ?_
    refine w_baload X16 D0_294 B 3 rfl (by decide) ?_
    refine w_static X16 D0_295 (rm1 hw X16.sz _ _ _ _ N 3 hN (by decide) rfl rfl) (hw _ (List.mem_of_getElem? (i := 3) rfl)) (hw _ (List.mem_of_getElem? (i := 4) rfl)) (hw _ (List.mem_of_getElem? (i := 5) rfl)) (hw _ (List.mem_of_getElem? (i := 6) rfl)) (by decide) pd_0 rfl (S := []) rfl rfl (Nat.le_of_ble_eq_true rfl) (Nat.le_of_ble_eq_true rfl) (Nat.le_of_ble_eq_true rfl) (Nat.le_of_ble_eq_true rfl) (fun v17 T17 h17 X17 q17 => ?_)
    obtain ⟨rfl, rfl⟩ := q17
    show Wp _ _ _ _ _ _ _ _ (mkF m 298 #[.val (.int a), .val (.int b), .val (.long c0), .second, .val (.int d), .val (.int (Int32.ofNat N)), .val (.int sel), .val (.int sg), .val (.int stv), .val (.ref t), .val (.long pr), .second, .val (.ref t), .val (.int (st g N 3)), .unset] [(.int (st g N 4))])
    refine w_istore X17 D0_298 (l' := #[.val (.int a), .val (.int b), .val (.long c0), .second, .val (.int d), .val (.int (Int32.ofNat N)), .val (.int sel), .val (.int sg), .val (.int stv), .val (.ref t), .val (.long pr), .second, .val (.ref t), .val (.int (st g N 4)), .unset]) rfl ?_
    refine w_iload X17 D0_300 rfl ?_
    refine w_iload X17 D0_302 rfl ?_
    refine w_iconst X17 D0_304 (v := (4 : Int32)) rfl ?_
    refine w_aload X17 D0_305 rfl rfl ?_
    refine w_iconst X17 D0_307 (v := (4 : Int32)) rfl ?_
    refine w_baload X17 D0_308 B 4 rfl (by decide) ?_
    refine w_static X17 D0_309 (rm1 hw X17.sz _ _ _ _ N 4 hN (by decide) rfl rfl) (hw _ (List.mem_of_getElem? (i := 3) rfl)) (hw _ (List.mem_of_getElem? (i := 4) rfl)) (hw _ (List.mem_of_getElem? (i := 5) rfl)) (hw _ (List.mem_of_getElem? (i := 6) rfl)) (by decide) pd_0 rfl (S := []) rfl rfl (Nat.le_of_ble_eq_true rfl) (Nat.le_of_ble_eq_true rfl) (Nat.le_of_ble_eq_true rfl) (Nat.le_of_ble_eq_true rfl) (fun v18 T18 h18 X18 q18 => ?_)
    obtain ⟨rfl, rfl⟩ := q18
    show Wp _ _ _ _ _ _ _ _ (mkF m 312 #[.val (.int a), .val (.int b), .val (.long c0), .second, .val (.int d), .val (.int (Int32.ofNat N)), .val (.int sel), .val (.int sg), .val (.int stv), .val (.ref t), .val (.long pr), .second, .val (.ref t), .val (.int (st g N 4)), .unset] [(.int (st g N 5))])
    refine w_istore X18 D0_312 (l' := #[.val (.int a), .val (.int b), .val (.long c0), .second, .val (.int d), .val (.int (Int32.ofNat N)), .val (.int sel), .val (.int sg), .val (.int stv), .val (.ref t), .val (.long pr), .second, .val (.ref t), .val (.int (st g N 5)), .unset]) rfl ?_
    refine w_iload X18 D0_314 rfl ?_
    refine w_iload X18 D0_316 rfl ?_
    refine w_iconst X18 D0_318 (v := (5 : Int32)) rfl ?_
    refine w_aload X18 D0_319 rfl rfl ?_
    refine w_iconst X18 D0_321 (v := (5 : Int32)) rfl ?_
    refine w_baload X18 D0_322 B 5 rfl (by decide) ?_
    refine w_static X18 D0_323 (rm1 hw X18.sz _ _ _ _ N 5 hN (by decide) rfl rfl) (hw _ (List.mem_of_getElem? (i := 3) rfl)) (hw _ (List.mem_of_getElem? (i := 4) rfl)) (hw _ (List.mem_of_getElem? (i := 5) rfl)) (hw _ (List.mem_of_getElem? (i := 6) rfl)) (by decide) pd_0 rfl (S := []) rfl rfl (Nat.le_of_ble_eq_true rfl) (Nat.le_of_ble_eq_true rfl) (Nat.le_of_ble_eq_true rfl) (Nat.le_of_ble_eq_true rfl) (fun v19 T19 h19 X19 q19 => ?_)
    obtain ⟨rfl, rfl⟩ := q19
    show Wp _ _ _ _ _ _ _ _ (mkF m 326 #[.val (.int a), .val (.int b), .val (.long c0), .second, .val (.int d), .val (.int (Int32.ofNat N)), .val (.int sel), .val (.int sg), .val (.int stv), .val (.ref t), .val (.long pr), .second, .val (.ref t), .val (.int (st g N 5)), .unset] [(.int (st g N 6))])
    refine w_istore X19 D0_326 (l' := #[.val (.int a), .val (.int b), .val (.long c0), .second, .val (.int d), .val (.int (Int32.ofNat N)), .val (.int sel), .val (.int sg), .val (.int stv), .val (.ref t), .val (.long pr), .second, .val (.ref t), .val (.int (st g N 6)), .unset]) rfl ?_
    refine w_iload X19 D0_328 rfl ?_
    refine w_iload X19 D0_330 rfl ?_
    refine w_bipush X19 D0_332 (v := (6 : Int32)) rfl ?_
    refine w_aload X19 D0_334 rfl rfl ?_
    refine w_bipush X19 D0_336 (v := (6 : Int32)) rfl ?_
    refine w_baload X19 D0_338 B 6 rfl (by decide) ?_
    refine w_static X19 D0_339 (rm1 hw X19.sz _ _ _ _ N 6 hN (by decide) rfl rfl) (hw _ (List.mem_of_getElem? (i := 3) rfl)) (hw _ (List.mem_of_getElem? (i := 4) rfl)) (hw _ (List.mem_of_getElem? (i := 5) rfl)) (hw _ (List.mem_of_getElem? (i := 6) rfl)) (by decide) pd_0 rfl (S := []) rfl rfl (Nat.le_of_ble_eq_true rfl) (Nat.le_of_ble_eq_true rfl) (Nat.le_of_ble_eq_true rfl) (Nat.le_of_ble_eq_true rfl) (fun v20 T20 h20 X20 q20 => ?_)
    obtain ⟨rfl, rfl⟩ := q20
    show Wp _ _ _ _ _ _ _ _ (mkF m 342 #[.val (.int a), .val (.int b), .val (.long c0), .second, .val (.int d), .val (.int (Int32.ofNat N)), .val (.int sel), .val (.int sg), .val (.int stv), .val (.ref t), .val (.long pr), .second, .val (.ref t), .val (.int (st g N 6)), .unset] [(.int (st g N 7))])
    refine w_istore X20 D0_342 (l' := #[.val (.int a), .val (.int b), .val (.long c0), .second, .val (.int d), .val (.int (Int32.ofNat N)), .val (.int sel), .val (.int sg), .val (.int stv), .val (.ref t), .val (.long pr), .second, .val (.ref t), .val (.int (st g N 7)), .unset]) rfl ?_
    refine w_iload X20 D0_344 rfl ?_
    refine w_iload X20 D0_346 rfl ?_
    refine w_bipush X20 D0_348 (v := (7 : Int32)) rfl ?_
    refine w_aload X20 D0_350 rfl rfl ?_
    refine w_bipush X20 D0_352 (v := (7 : Int32)) rfl ?_
    refine w_baload X20 D0_354 B 7 rfl (by decide) ?_
    refine w_static X20 D0_355 (rm1 hw X20.sz _ _ _ _ N 7 hN (by decide) rfl rfl) (hw _ (List.mem_of_getElem? (i := 3) rfl)) (hw _ (List.mem_of_getElem? (i := 4) rfl)) (hw _ (List.mem_of_getElem? (i := 5) rfl)) (hw _ (List.mem_of_getElem? (i := 6) rfl)) (by decide) pd_0 rfl (S := []) rfl rfl (Nat.le_of_ble_eq_true rfl) (Nat.le_of_ble_eq_true rfl) (Nat.le_of_ble_eq_true rfl) (Nat.le_of_ble_eq_true rfl) (fun v21 T21 h21 X21 q21 => ?_)
    obtain ⟨rfl, rfl⟩ := q21
    show Wp _ _ _ _ _ _ _ _ (mkF m 358 #[.val (.int a), .val (.int b), .val (.long c0), .second, .val (.int d), .val (.int (Int32.ofNat N)), .val (.int sel), .val (.int sg), .val (.int stv), .val (.ref t), .val (.long pr), .second, .val (.ref t), .val (.int (st g N 7)), .unset] [(.int (st g N 8))])
    refine w_istore X21 D0_358 (l' := #[.val (.int a), .val (.int b), .val (.long c0), .second, .val (.int d), .val (.int (Int32.ofNat N)), .val (.int sel), .val (.int sg), .val (.int stv), .val (.ref t), .val (.long pr), .second, .val (.ref t), .val (.int (st g N 8)), .unset]) rfl ?_
    refine w_iload X21 D0_360 rfl ?_
    refine w_iload X21 D0_362 rfl ?_
    refine w_bipush X21 D0_364 (v := (8 : Int32)) rfl ?_
    refine w_aload X21 D0_366 rfl rfl ?_
    refine w_bipush X21 D0_368 (v := (8 : Int32)) rfl ?_
    refine w_baload X21 D0_370 B 8 rfl (by decide) ?_
    refine w_static X21 D0_371 (rm1 hw X21.sz _ _ _ _ N 8 hN (by decide) rfl rfl) (hw _ (List.mem_of_getElem? (i := 3) rfl)) (hw _ (List.mem_of_getElem? (i := 4) rfl)) (hw _ (List.mem_of_getElem? (i := 5) rfl)) (hw _ (List.mem_of_getElem? (i := 6) rfl)) (by decide) pd_0 rfl (S := []) rfl rfl (Nat.le_of_ble_eq_true rfl) (Nat.le_of_ble_eq_true rfl) (Nat.le_of_ble_eq_true rfl) (Nat.le_of_ble_eq_true rfl) (fun v22 T22 h22 X22 q22 => ?_)
    obtain ⟨rfl, rfl⟩ := q22
    show Wp _ _ _ _ _ _ _ _ (mkF m 374 #[.val (.int a), .val (.int b), .val (.long c0), .second, .val (.int d), .val (.int (Int32.ofNat N)), .val (.int sel), .val (.int sg), .val (.int stv), .val (.ref t), .val (.long pr), .second, .val (.ref t), .val (.int (st g N 8)), .unset] [(.int (st g N 9))])
    refine w_istore X22 D0_374 (l' := #[.val (.int a), .val (.int b), .val (.long c0), .second, .val (.int d), .val (.int (Int32.ofNat N)), .val (.int sel), .val (.int sg), .val (.int stv), .val (.ref t), .val (.long pr), .second, .val (.ref t), .val (.int (st g N 9)), .unset]) rfl ?_
    refine w_iload X22 D0_376 rfl ?_
    refine w_iload X22 D0_378 rfl ?_
    refine w_bipush X22 D0_380 (v := (9 : Int32)) rfl ?_
    refine w_aload X22 D0_382 rfl rfl ?_
    refine w_bipush X22 D0_384 (v := (9 : Int32)) rfl ?_
    refine w_baload X22 D0_386 B 9 rfl (by decide) ?_
    refine w_static X22 D0_387 (rm1 hw X22.sz _ _ _ _ N 9 hN (by decide) rfl rfl) (hw _ (List.mem_of_getElem? (i := 3) rfl)) (hw _ (List.mem_of_getElem? (i := 4) rfl)) (hw _ (List.mem_of_getElem? (i := 5) rfl)) (hw _ (List.mem_of_getElem? (i := 6) rfl)) (by decide) pd_0 rfl (S := []) rfl rfl (Nat.le_of_ble_eq_true rfl) (Nat.le_of_ble_eq_true rfl) (Nat.le_of_ble_eq_true rfl) (Nat.le_of_ble_eq_true rfl) (fun v23 T23 h23 X23 q23 => ?_)
    obtain ⟨rfl, rfl⟩ := q23
    show Wp _ _ _ _ _ _ _ _ (mkF m 390 #[.val (.int a), .val (.int b), .val (.long c0), .second, .val (.int d), .val (.int (Int32.ofNat N)), .val (.int sel), .val (.int sg), .val (.int stv), .val (.ref t), .val (.long pr), .second, .val (.ref t), .val (.int (st g N 9)), .unset] [(.int (st g N 10))])
    refine w_istore X23 D0_390 (l' := #[.val (.int a), .val (.int b), .val (.long c0), .second, .val (.int d), .val (.int (Int32.ofNat N)), .val (.int sel), .val (.int sg), .val (.int stv), .val (.ref t), .val (.long pr), .second, .val (.ref t), .val (.int (st g N 10)), .unset]) rfl ?_
    refine w_iload X23 D0_392 rfl ?_
    refine w_iload X23 D0_394 rfl ?_
    refine w_bipush X23 D0_396 (v := (10 : Int32)) rfl ?_
    refine w_aload X23 D0_398 rfl rfl ?_
    refine w_bipush X23 D0_400 (v := (10 : Int32)) rfl ?_
    refine w_baload X23 D0_402 B 10 rfl (by decide) ?_
    refine w_static X23 D0_403 (rm1 hw X23.sz _ _ _ _ N 10 hN (by decide) rfl rfl) (hw _ (List.mem_of_getElem? (i := 3) rfl)) (hw _ (List.mem_of_getElem? (i := 4) rfl)) (hw _ (List.mem_of_getElem? (i := 5) rfl)) (hw _ (List.mem_of_getElem? (i := 6) rfl)) (by decide) pd_0 rfl (S := []) rfl rfl (Nat.le_of_ble_eq_true rfl) (Nat.le_of_ble_eq_true rfl) (Nat.le_of_ble_eq_true rfl) (Nat.le_of_ble_eq_true rfl) (fun v24 T24 h24 X24 q24 => ?_)
    obtain ⟨rfl, rfl⟩ := q24
    show Wp _ _ _ _ _ _ _ _ (mkF m 406 #[.val (.int a), .val (.int b), .val (.long c0), .second, .val (.int d), .val (.int (Int32.ofNat N)), .val (.int sel), .val (.int sg), .val (.int stv), .val (.ref t), .val (.long pr), .second, .val (.ref t), .val (.int (st g N 10)), .unset] [(.int (st g N 11))])
    refine w_istore X24 D0_406 (l' := #[.val (.int a), .val (.int b), .val (.long c0), .second, .val (.int d), .val (.int (Int32.ofNat N)), .val (.int sel), .val (.int sg), .val (.int stv), .val (.ref t), .val (.long pr), .second, .val (.ref t), .val (.int (st g N 11)), .unset]) rfl ?_
    refine w_iload X24 D0_408 rfl ?_
    refine w_iload X24 D0_410 rfl ?_
    refine w_bipush X24 D0_412 (v := (11 : Int32)) rfl ?_
    refine w_aload X24 D0_414 rfl rfl ?_
    refine w_bipush X24 D0_416 (v := (11 : Int32)) rfl ?_
    refine w_baload X24 D0_418 B 11 rfl (by decide) ?_
    refine w_static X24 D0_419 (rm1 hw X24.sz _ _ _ _ N 11 hN (by decide) rfl rfl) (hw _ (List.mem_of_getElem? (i := 3) rfl)) (hw _ (List.mem_of_getElem? (i := 4) rfl)) (hw _ (List.mem_of_getElem? (i := 5) rfl)) (hw _ (List.mem_of_getElem? (i := 6) rfl)) (by decide) pd_0 rfl (S := []) rfl rfl (Nat.le_of_ble_eq_true rfl) (Nat.le_of_ble_eq_true rfl) (Nat.le_of_ble_eq_true rfl) (Nat.le_of_ble_eq_true rfl) (fun v25 T25 h25 X25 q25 => ?_)
    obtain ⟨rfl, rfl⟩ := q25
    show Wp _ _ _ _ _ _ _ _ (mkF m 422 #[.val (.int a), .val (.int b), .val (.long c0), .second, .val (.int d), .val (.int (Int32.ofNat N)), .val (.int sel), .val (.int sg), .val (.int stv), .val (.ref t), .val (.long pr), .second, .val (.ref t), .val (.int (st g N 11)), .unset] [(.int (st g N 12))])
    refine w_istore X25 D0_422 (l' := #[.val (.int a), .val (.int b), .val (.long c0), .second, .val (.int d), .val (.int (Int32.ofNat N)), .val (.int sel), .val (.int sg), .val (.int stv), .val (.ref t), .val (.long pr), .second, .val (.ref t), .val (.int (st g N 12)), .unset]) rfl ?_
    refine w_bipush X25 D0_424 (v := (31 : Int32)) rfl ?_
    refine w_iload X25 D0_426 rfl ?_
    refine w_imul X25 D0_428 ?_
    refine w_iload X25 D0_429 rfl ?_
    refine w_iadd X25 D0_431 ?_
    refine w_istore X25 D0_432 (l' := #[.val (.int a), .val (.int b), .val (.long c0), .second, .val (.int d), .val (.int (Int32.ofNat N)), .val (.int sel), .val (.int sg), .val (.int stv), .val (.ref t), .val (.long pr), .second, .val (.ref t), .val (.int (st g N 12)), .val (.int (((31 : Int32) * stv) + (st g N 12)))]) rfl ?_
    refine w_iload X25 D0_434 rfl ?_
    refine w_iload X25 D0_436 rfl ?_
    refine w_lload X25 D0_438 rfl ?_
    refine w_aload X25 D0_440 rfl rfl ?_
    refine w_static X25 D0_442 (rm2r hw X25.sz _ _ _ t N g rfl hN hp B) (hw _ (List.mem_of_getElem? (i := 7) rfl)) (hw _ (List.mem_of_getElem? (i := 8) rfl)) (hw _ (List.mem_of_getElem? (i := 9) rfl)) (hw _ (List.mem_of_getElem? (i := 10) rfl)) (by decide) pd_1 rfl (S := []) rfl rfl (Nat.le_of_ble_eq_true rfl) (Nat.le_of_ble_eq_true rfl) (Nat.le_of_ble_eq_true rfl) (Nat.le_of_ble_eq_true rfl) (fun v26 T26 h26 X26 q26 => ?_)
    obtain ⟨rfl, rfl⟩ := q26
    show Wp _ _ _ _ _ _ _ _ (mkF m 445 #[.val (.int a), .val (.int b), .val (.long c0), .second, .val (.int d), .val (.int (Int32.ofNat N)), .val (.int sel), .val (.int sg), .val (.int stv), .val (.ref t), .val (.long pr), .second, .val (.ref t), .val (.int (st g N 12)), .val (.int (((31 : Int32) * stv) + (st g N 12)))] [(.int (31 * sgt sg + hsh g N))])
    refine w_iload X26 D0_445 rfl ?_
    refine w_icmpne X26 D0_447 (fun hc447 => by exact absurd (by rw [hsg, own_st, show min 12 N = N by omega]) hc447) (fun hc447 => ?_)
    refine w_iconst X26 D0_450 (v := (1 : Int32)) rfl ?_
    refine w_goto X26 D0_451 ?_
    exact w_zreturn X26 D0_455 (by decide) (by decide) (rfl)
set_option maxRecDepth 65536 in
set_option maxHeartbeats 40000000 in
theorem law2 {Z : State} {a0 : Array Value} {n0 : Nat} {p : Program} {l : Launch} {e : Env} {s : State} {m : MethodId} {args : Array Value} {below : List Frame} {meth : Method} {c : Code} {T : State} {h : Heap}  (hw : ∀ d ∈ tables_1, d.before a0 Z = true) (X : Pos Z a0 n0 p l e room_1 s m args below meth c code maxLocals ret x T h 0 0) (a b : Int32) (c0 : Int64) (d sel sg stv : Int32) (N : Nat) (hN : N < 13) (hsg : sgt sg = stv) : Wp n0 p e room_1 s below (fun v _ => v = some (.int 1)) T (mkF m 60 #[.val (.int a), .val (.int b), .val (.long c0), .second, .val (.int d), .val (.int (Int32.ofNat N)), .val (.int sel), .val (.int sg), .val (.int stv), .unset, .unset, .unset, .unset, .unset, .unset] []) := by
  refine w_bipush X D0_60 (v := (12 : Int32)) rfl ?_
  refine w_newB X D0_62 (hw _ (List.mem_of_getElem? (i := 1) rfl)) 12 12 rfl (Nat.le_of_ble_eq_true rfl) (by decide) (Nat.le_of_ble_eq_true rfl) (Nat.le_of_ble_eq_true rfl) (fun T1 h1 a1 X1 g1 E1 B1 => ?_)
  refine w_astore X1 D0_64 (l' := #[.val (.int a), .val (.int b), .val (.long c0), .second, .val (.int d), .val (.int (Int32.ofNat N)), .val (.int sel), .val (.int sg), .val (.int stv), .val (.ref a1), .unset, .unset, .unset, .unset, .unset]) rfl rfl ?_
  refine w_aload X1 D0_66 rfl rfl ?_
  refine w_iconst X1 D0_68 (v := (0 : Int32)) rfl ?_
  refine w_lloadN X1 D0_69 rfl ?_
  refine w_bipush X1 D0_70 (v := (56 : Int32)) rfl ?_
  refine w_lushr X1 D0_72 ?_
  refine w_l2i X1 D0_73 ?_
  refine w_i2b X1 D0_74 ?_
  refine w_bastore X1 D0_75 B1 0 rfl (by decide) (fun T2 h2 X2 K2 B2 => ?_)
  refine w_aload X2 D0_76 rfl rfl ?_
  refine w_iconst X2 D0_78 (v := (1 : Int32)) rfl ?_
  refine w_lloadN X2 D0_79 rfl ?_
  refine w_bipush X2 D0_80 (v := (48 : Int32)) rfl ?_
  refine w_lushr X2 D0_82 ?_
  refine w_l2i X2 D0_83 ?_
  refine w_i2b X2 D0_84 ?_
  refine w_bastore X2 D0_85 B2 1 rfl (by decide) (fun T3 h3 X3 K3 B3 => ?_)
  refine w_aload X3 D0_86 rfl rfl ?_
  refine w_iconst X3 D0_88 (v := (2 : Int32)) rfl ?_
  refine w_lloadN X3 D0_89 rfl ?_
  refine w_bipush X3 D0_90 (v := (40 : Int32)) rfl ?_
  refine w_lushr X3 D0_92 ?_
  refine w_l2i X3 D0_93 ?_
  refine w_i2b X3 D0_94 ?_
  refine w_bastore X3 D0_95 B3 2 rfl (by decide) (fun T4 h4 X4 K4 B4 => ?_)
  refine w_aload X4 D0_96 rfl rfl ?_
  refine w_iconst X4 D0_98 (v := (3 : Int32)) rfl ?_
  refine w_lloadN X4 D0_99 rfl ?_
  refine w_bipush X4 D0_100 (v := (32 : Int32)) rfl ?_
  refine w_lushr X4 D0_102 ?_
  refine w_l2i X4 D0_103 ?_
  refine w_i2b X4 D0_104 ?_
  refine w_bastore X4 D0_105 B4 3 rfl (by decide) (fun T5 h5 X5 K5 B5 => ?_)
  refine w_aload X5 D0_106 rfl rfl ?_
  refine w_iconst X5 D0_108 (v := (4 : Int32)) rfl ?_
  refine w_lloadN X5 D0_109 rfl ?_
  refine w_bipush X5 D0_110 (v := (24 : Int32)) rfl ?_
  refine w_lushr X5 D0_112 ?_
  refine w_l2i X5 D0_113 ?_
  refine w_i2b X5 D0_114 ?_
  refine w_bastore X5 D0_115 B5 4 rfl (by decide) (fun T6 h6 X6 K6 B6 => ?_)
  refine w_aload X6 D0_116 rfl rfl ?_
  refine w_iconst X6 D0_118 (v := (5 : Int32)) rfl ?_
  refine w_lloadN X6 D0_119 rfl ?_
  refine w_bipush X6 D0_120 (v := (16 : Int32)) rfl ?_
  refine w_lushr X6 D0_122 ?_
  refine w_l2i X6 D0_123 ?_
  refine w_i2b X6 D0_124 ?_
  refine w_bastore X6 D0_125 B6 5 rfl (by decide) (fun T7 h7 X7 K7 B7 => ?_)
  refine w_aload X7 D0_126 rfl rfl ?_
  refine w_bipush X7 D0_128 (v := (6 : Int32)) rfl ?_
  refine w_lloadN X7 D0_130 rfl ?_
  refine w_bipush X7 D0_131 (v := (8 : Int32)) rfl ?_
  refine w_lushr X7 D0_133 ?_
  refine w_l2i X7 D0_134 ?_
  refine w_i2b X7 D0_135 ?_
  refine w_bastore X7 D0_136 B7 6 rfl (by decide) (fun T8 h8 X8 K8 B8 => ?_)
  refine w_aload X8 D0_137 rfl rfl ?_
  refine w_bipush X8 D0_139 (v := (7 : Int32)) rfl ?_
  refine w_lloadN X8 D0_141 rfl ?_
  refine w_l2i X8 D0_142 ?_
  refine w_i2b X8 D0_143 ?_
  refine w_bastore X8 D0_144 B8 7 rfl (by decide) (fun T9 h9 X9 K9 B9 => ?_)
  refine w_aload X9 D0_145 rfl rfl ?_
  refine w_bipush X9 D0_147 (v := (8 : Int32)) rfl ?_
  refine w_iload X9 D0_149 rfl ?_
  refine w_bipush X9 D0_151 (v := (24 : Int32)) rfl ?_
  refine w_iushr X9 D0_153 ?_
  refine w_i2b X9 D0_154 ?_
  refine w_bastore X9 D0_155 B9 8 rfl (by decide) (fun T10 h10 X10 K10 B10 => ?_)
  refine w_aload X10 D0_156 rfl rfl ?_
  refine w_bipush X10 D0_158 (v := (9 : Int32)) rfl ?_
  refine w_iload X10 D0_160 rfl ?_
  refine w_bipush X10 D0_162 (v := (16 : Int32)) rfl ?_
  refine w_iushr X10 D0_164 ?_
  refine w_i2b X10 D0_165 ?_
  refine w_bastore X10 D0_166 B10 9 rfl (by decide) (fun T11 h11 X11 K11 B11 => ?_)
  refine w_aload X11 D0_167 rfl rfl ?_
  refine w_bipush X11 D0_169 (v := (10 : Int32)) rfl ?_
  refine w_iload X11 D0_171 rfl ?_
  refine w_bipush X11 D0_173 (v := (8 : Int32)) rfl ?_
  refine w_iushr X11 D0_175 ?_
  refine w_i2b X11 D0_176 ?_
  refine w_bastore X11 D0_177 B11 10 rfl (by decide) (fun T12 h12 X12 K12 B12 => ?_)
  refine w_aload X12 D0_178 rfl rfl ?_
  refine w_bipush X12 D0_180 (v := (11 : Int32)) rfl ?_
  refine w_iload X12 D0_182 rfl ?_
  refine w_i2b X12 D0_184 ?_
  refine w_bastore X12 D0_185 B12 11 rfl (by decide) (fun T13 h13 X13 K13 B13 => ?_)
  obtain ⟨g, eg⟩ : ∃ g : Nat → Int32, g = (upd (upd (upd (upd (upd (upd (upd (upd (upd (upd (upd (upd (fun _ => 0) 0 (jbyte (jbyte ((jushrL c0 (56 : Int32)).toInt32)))) 1 (jbyte (jbyte ((jushrL c0 (48 : Int32)).toInt32)))) 2 (jbyte (jbyte ((jushrL c0 (40 : Int32)).toInt32)))) 3 (jbyte (jbyte ((jushrL c0 (32 : Int32)).toInt32)))) 4 (jbyte (jbyte ((jushrL c0 (24 : Int32)).toInt32)))) 5 (jbyte (jbyte ((jushrL c0 (16 : Int32)).toInt32)))) 6 (jbyte (jbyte ((jushrL c0 (8 : Int32)).toInt32)))) 7 (jbyte (jbyte (c0.toInt32)))) 8 (jbyte (jbyte (jushr d (24 : Int32))))) 9 (jbyte (jbyte (jushr d (16 : Int32))))) 10 (jbyte (jbyte (jushr d (8 : Int32))))) 11 (jbyte (jbyte d))) := ⟨_, rfl⟩
  have Bg : Ba Z n0 h13 a1 .byte 12 (bI g) := by rw [eg]; exact B13
  have hpa : ∀ i, i < 8 → jbyte ((jushrL c0 ((8 : Int32) * ((7 : Int32) - Int32.ofNat i))).toInt32) = g i := fun i hi => by
    have hc : i = 0 ∨ i = 1 ∨ i = 2 ∨ i = 3 ∨ i = 4 ∨ i = 5 ∨ i = 6 ∨ i = 7 := by omega
    rcases hc with rfl | rfl | rfl | rfl | rfl | rfl | rfl | rfl
    · rw [eg]; exact (jbyte_idem _).symm
    · rw [eg]; exact (jbyte_idem _).symm
    · rw [eg]; exact (jbyte_idem _).symm
    · rw [eg]; exact (jbyte_idem _).symm
    · rw [eg]; exact (jbyte_idem _).symm
    · rw [eg]; exact (jbyte_idem _).symm
    · rw [eg]; exact (jbyte_idem _).symm
    · rw [eg]; exact (show jbyte ((jushrL c0 0).toInt32) = jbyte (jbyte (c0.toInt32)) by rw [jbyte_idem, nL_ushr0])
  clear eg
  refine w_iload X13 D0_186 rfl ?_
  refine w_ifne X13 D0_188 (fun hc188 => ?_) (fun hc188 => ?_)
  · refine w_iload X13 D0_197 rfl ?_
    refine w_bipush X13 D0_199 (v := (8 : Int32)) rfl ?_
    refine w_icmplt X13 D0_201 (fun hc201 => ?_) (fun hc201 => ?_)
    · refine w_lloadN X13 D0_210 rfl ?_
      refine w_ldc2 X13 D0_211 (hw _ (List.mem_of_getElem? (i := 2) rfl)) ?_
      refine w_bipush X13 D0_214 (v := (8 : Int32)) rfl ?_
      refine w_bipush X13 D0_216 (v := (8 : Int32)) rfl ?_
      refine w_iload X13 D0_218 rfl ?_
      refine w_isub X13 D0_220 ?_
      refine w_imul X13 D0_221 ?_
      refine w_lshl X13 D0_222 ?_
      refine w_land X13 D0_223 ?_
      refine w_lstore X13 D0_224 (l' := #[.val (.int a), .val (.int b), .val (.long c0), .second, .val (.int d), .val (.int (Int32.ofNat N)), .val (.int sel), .val (.int sg), .val (.int stv), .val (.ref a1), .val (.long (c0 &&& (jshlL (-1 : Int64) ((8 : Int32) * ((8 : Int32) - (Int32.ofNat N)))))), .second, .unset, .unset, .unset]) rfl ?_
      have h8 : N < 8 := (ofNat_lt (b := 8) (by omega) (by decide)).mp hc201
      have h0 : ¬ N = 0 := fun z => by subst z; exact hc188 rfl
      refine law3 hw X13 a b c0 d sel sg stv a1 _ N g hN hsg (fun i hi hi8 => ?_) Bg
      rw [← hpa i hi8]
      have hNc : N = 1 ∨ N = 2 ∨ N = 3 ∨ N = 4 ∨ N = 5 ∨ N = 6 ∨ N = 7 := by omega
      rcases hNc with rfl | rfl | rfl | rfl | rfl | rfl | rfl
      · have hc : i = 0 := by omega
        rcases hc with rfl
        exact own_byte c0 72057594037927935 _ _ 56 56 (by decide) (by decide) (by decide) (by decide) (by decide) (by decide) (by decide)
      · have hc : i = 0 ∨ i = 1 := by omega
        rcases hc with rfl | rfl
        · exact own_byte c0 281474976710655 _ _ 48 56 (by decide) (by decide) (by decide) (by decide) (by decide) (by decide) (by decide)
        · exact own_byte c0 281474976710655 _ _ 48 48 (by decide) (by decide) (by decide) (by decide) (by decide) (by decide) (by decide)
      · have hc : i = 0 ∨ i = 1 ∨ i = 2 := by omega
        rcases hc with rfl | rfl | rfl
        · exact own_byte c0 1099511627775 _ _ 40 56 (by decide) (by decide) (by decide) (by decide) (by decide) (by decide) (by decide)
        · exact own_byte c0 1099511627775 _ _ 40 48 (by decide) (by decide) (by decide) (by decide) (by decide) (by decide) (by decide)
        · exact own_byte c0 1099511627775 _ _ 40 40 (by decide) (by decide) (by decide) (by decide) (by decide) (by decide) (by decide)
      · have hc : i = 0 ∨ i = 1 ∨ i = 2 ∨ i = 3 := by omega
        rcases hc with rfl | rfl | rfl | rfl
        · exact own_byte c0 4294967295 _ _ 32 56 (by decide) (by decide) (by decide) (by decide) (by decide) (by decide) (by decide)
        · exact own_byte c0 4294967295 _ _ 32 48 (by decide) (by decide) (by decide) (by decide) (by decide) (by decide) (by decide)
        · exact own_byte c0 4294967295 _ _ 32 40 (by decide) (by decide) (by decide) (by decide) (by decide) (by decide) (by decide)
        · exact own_byte c0 4294967295 _ _ 32 32 (by decide) (by decide) (by decide) (by decide) (by decide) (by decide) (by decide)
      · have hc : i = 0 ∨ i = 1 ∨ i = 2 ∨ i = 3 ∨ i = 4 := by omega
        rcases hc with rfl | rfl | rfl | rfl | rfl
        · exact own_byte c0 16777215 _ _ 24 56 (by decide) (by decide) (by decide) (by decide) (by decide) (by decide) (by decide)
        · exact own_byte c0 16777215 _ _ 24 48 (by decide) (by decide) (by decide) (by decide) (by decide) (by decide) (by decide)
        · exact own_byte c0 16777215 _ _ 24 40 (by decide) (by decide) (by decide) (by decide) (by decide) (by decide) (by decide)
        · exact own_byte c0 16777215 _ _ 24 32 (by decide) (by decide) (by decide) (by decide) (by decide) (by decide) (by decide)
        · exact own_byte c0 16777215 _ _ 24 24 (by decide) (by decide) (by decide) (by decide) (by decide) (by decide) (by decide)
      · have hc : i = 0 ∨ i = 1 ∨ i = 2 ∨ i = 3 ∨ i = 4 ∨ i = 5 := by omega
        rcases hc with rfl | rfl | rfl | rfl | rfl | rfl
        · exact own_byte c0 65535 _ _ 16 56 (by decide) (by decide) (by decide) (by decide) (by decide) (by decide) (by decide)
        · exact own_byte c0 65535 _ _ 16 48 (by decide) (by decide) (by decide) (by decide) (by decide) (by decide) (by decide)
        · exact own_byte c0 65535 _ _ 16 40 (by decide) (by decide) (by decide) (by decide) (by decide) (by decide) (by decide)
        · exact own_byte c0 65535 _ _ 16 32 (by decide) (by decide) (by decide) (by decide) (by decide) (by decide) (by decide)
        · exact own_byte c0 65535 _ _ 16 24 (by decide) (by decide) (by decide) (by decide) (by decide) (by decide) (by decide)
        · exact own_byte c0 65535 _ _ 16 16 (by decide) (by decide) (by decide) (by decide) (by decide) (by decide) (by decide)
      · have hc : i = 0 ∨ i = 1 ∨ i = 2 ∨ i = 3 ∨ i = 4 ∨ i = 5 ∨ i = 6 := by omega
        rcases hc with rfl | rfl | rfl | rfl | rfl | rfl | rfl
        · exact own_byte c0 255 _ _ 8 56 (by decide) (by decide) (by decide) (by decide) (by decide) (by decide) (by decide)
        · exact own_byte c0 255 _ _ 8 48 (by decide) (by decide) (by decide) (by decide) (by decide) (by decide) (by decide)
        · exact own_byte c0 255 _ _ 8 40 (by decide) (by decide) (by decide) (by decide) (by decide) (by decide) (by decide)
        · exact own_byte c0 255 _ _ 8 32 (by decide) (by decide) (by decide) (by decide) (by decide) (by decide) (by decide)
        · exact own_byte c0 255 _ _ 8 24 (by decide) (by decide) (by decide) (by decide) (by decide) (by decide) (by decide)
        · exact own_byte c0 255 _ _ 8 16 (by decide) (by decide) (by decide) (by decide) (by decide) (by decide) (by decide)
        · exact own_byte c0 255 _ _ 8 8 (by decide) (by decide) (by decide) (by decide) (by decide) (by decide) (by decide)
    · refine w_lloadN X13 D0_204 rfl ?_
      refine w_lstore X13 D0_205 (l' := #[.val (.int a), .val (.int b), .val (.long c0), .second, .val (.int d), .val (.int (Int32.ofNat N)), .val (.int sel), .val (.int sg), .val (.int stv), .val (.ref a1), .val (.long c0), .second, .unset, .unset, .unset]) rfl ?_
      refine w_goto X13 D0_207 ?_
      exact law3 hw X13 a b c0 d sel sg stv a1 c0 N g hN hsg (fun i _ hi => hpa i hi) Bg
  · refine w_lconst0 X13 D0_191 ?_
    refine w_lstore X13 D0_192 (l' := #[.val (.int a), .val (.int b), .val (.long c0), .second, .val (.int d), .val (.int (Int32.ofNat N)), .val (.int sel), .val (.int sg), .val (.int stv), .val (.ref a1), .val (.long (0 : Int64)), .second, .unset, .unset, .unset]) rfl ?_
    refine w_goto X13 D0_194 ?_
    obtain rfl : N = 0 := by
      have z1 := congrArg Int32.toInt hc188
      rw [ofNat_toInt (by omega), show (0 : Int32).toInt = 0 from rfl] at z1
      omega
    exact law3 hw X13 a b c0 d sel sg stv a1 0 0 g (by decide) hsg (fun i hi _ => by omega) Bg
theorem ef_0 (m : MethodId) (a : Int32) (b : Int32) (c0 : Int64) (d : Int32) : entryFrame m #[(.int a), (.int b), (.long c0), (.int d)] maxLocals = mkF m 0 #[.val (.int a), .val (.int b), .val (.long c0), .second, .val (.int d), .unset, .unset, .unset, .unset, .unset, .unset, .unset, .unset, .unset, .unset] [] := by first | (simp [entryFrame, mkF, argsToLocals, Value.category, maxLocals]; done) | rfl
theorem pn_0 : plainName "nestrel/engine/store/KeyHashPinLaw" = true := by first | (simp [plainName, overriddenIn]; done) | decide +kernel
set_option maxRecDepth 65536 in
set_option maxHeartbeats 40000000 in
theorem rm0 {l : Launch} {Z : State} {a0 : Array Value} {n0 : Nat} {h : Heap} (hw : ∀ d ∈ tables_1, d.before a0 Z = true) (hn : n0 ≤ h.size) (a : Int32) (b : Int32) (c0 : Int64) (d : Int32) :
    Ctr l Z n0 x code maxLocals ret room_1 tables_1 #[(.int a), (.int b), (.long c0), (.int d)] h (fun v h' => v = some (.int 1)) := by
  refine ctr_of (plainFor_of_name pn_0) hw hn ?_
  intro p e s m below meth c T X
  refine Wp.cast (ef_0 m a b c0 d) ?_
  refine w_iloadN X D0_0 rfl ?_
  refine w_ldc X D0_1 (hw _ (List.mem_of_getElem? (i := 0) rfl)) ?_
  refine w_iand X D0_3 ?_
  refine w_bipush X D0_4 (v := (13 : Int32)) rfl ?_
  refine w_irem X D0_6 (by decide) ?_
  refine w_istoreE X D0_7 (l' := fun z_ => #[.val (.int a), .val (.int b), .val (.long c0), .second, .val (.int d), .val (.int z_), .unset, .unset, .unset, .unset, .unset, .unset, .unset, .unset, .unset]) (fun _ => rfl) (fun ln e_ln => ?_)
  obtain ⟨N, hN, eN⟩ := own_len b
  rw [← e_ln] at eN
  subst eN
  refine w_iloadN X D0_9 rfl ?_
  refine w_iconst X D0_10 (v := (3 : Int32)) rfl ?_
  refine w_iand X D0_11 ?_
  refine w_istoreE X D0_12 (l' := fun z_ => #[.val (.int a), .val (.int b), .val (.long c0), .second, .val (.int d), .val (.int (Int32.ofNat N)), .val (.int z_), .unset, .unset, .unset, .unset, .unset, .unset, .unset, .unset]) (fun _ => rfl) (fun sel e_sel => ?_)
  refine w_iload X D0_14 rfl ?_
  refine w_ifne X D0_16 (fun hc16 => ?_) (fun hc16 => ?_)
  · refine w_iload X D0_23 rfl ?_
    refine w_iconst X D0_25 (v := (1 : Int32)) rfl ?_
    refine w_icmpne X D0_26 (fun hc26 => ?_) (fun hc26 => ?_)
    · refine w_iload X D0_33 rfl ?_
      refine w_iconst X D0_35 (v := (2 : Int32)) rfl ?_
      refine w_icmpne X D0_36 (fun hc36 => ?_) (fun hc36 => ?_)
      · refine w_iconst X D0_43 (v := (2 : Int32)) rfl ?_
        refine w_istore X D0_44 (l' := #[.val (.int a), .val (.int b), .val (.long c0), .second, .val (.int d), .val (.int (Int32.ofNat N)), .val (.int sel), .val (.int (2 : Int32)), .unset, .unset, .unset, .unset, .unset, .unset, .unset]) rfl ?_
        refine w_iload X D0_46 rfl ?_
        refine w_iconst X D0_48 (v := (3 : Int32)) rfl ?_
        refine w_icmpne X D0_49 (fun hc49 => by obtain ⟨A, hA, eA⟩ := own_at a; rw [← e_sel] at eA; subst eA; have hc : A = 0 ∨ A = 1 ∨ A = 2 ∨ A = 3 := (by omega); rcases hc with rfl | rfl | rfl | rfl <;> first | exact absurd rfl hc16 | exact absurd rfl hc26 | exact absurd rfl hc36 | exact absurd rfl hc49) (fun hc49 => ?_)
        refine w_iconst X D0_52 (v := (0 : Int32)) rfl ?_
        refine w_goto X D0_53 ?_
        refine w_istore X D0_58 (l' := #[.val (.int a), .val (.int b), .val (.long c0), .second, .val (.int d), .val (.int (Int32.ofNat N)), .val (.int sel), .val (.int (2 : Int32)), .val (.int (0 : Int32)), .unset, .unset, .unset, .unset, .unset, .unset]) rfl ?_
        exact law2 hw X a b c0 d sel _ _ N hN (by decide)
      · refine w_iconst X D0_39 (v := (1 : Int32)) rfl ?_
        refine w_goto X D0_40 ?_
        refine w_istore X D0_44 (l' := #[.val (.int a), .val (.int b), .val (.long c0), .second, .val (.int d), .val (.int (Int32.ofNat N)), .val (.int sel), .val (.int (1 : Int32)), .unset, .unset, .unset, .unset, .unset, .unset, .unset]) rfl ?_
        refine w_iload X D0_46 rfl ?_
        refine w_iconst X D0_48 (v := (3 : Int32)) rfl ?_
        refine w_icmpne X D0_49 (fun hc49 => ?_) (fun hc49 => by rw [hc36] at hc49; exact absurd hc49 (by decide))
        refine w_iload X D0_56 rfl ?_
        refine w_istore X D0_58 (l' := #[.val (.int a), .val (.int b), .val (.long c0), .second, .val (.int d), .val (.int (Int32.ofNat N)), .val (.int sel), .val (.int (1 : Int32)), .val (.int (1 : Int32)), .unset, .unset, .unset, .unset, .unset, .unset]) rfl ?_
        exact law2 hw X a b c0 d sel _ _ N hN (by decide)
    · refine w_iconst X D0_29 (v := (0 : Int32)) rfl ?_
      refine w_goto X D0_30 ?_
      refine w_istore X D0_44 (l' := #[.val (.int a), .val (.int b), .val (.long c0), .second, .val (.int d), .val (.int (Int32.ofNat N)), .val (.int sel), .val (.int (0 : Int32)), .unset, .unset, .unset, .unset, .unset, .unset, .unset]) rfl ?_
      refine w_iload X D0_46 rfl ?_
      refine w_iconst X D0_48 (v := (3 : Int32)) rfl ?_
      refine w_icmpne X D0_49 (fun hc49 => ?_) (fun hc49 => by rw [hc26] at hc49; exact absurd hc49 (by decide))
      refine w_iload X D0_56 rfl ?_
      refine w_istore X D0_58 (l' := #[.val (.int a), .val (.int b), .val (.long c0), .second, .val (.int d), .val (.int (Int32.ofNat N)), .val (.int sel), .val (.int (0 : Int32)), .val (.int (0 : Int32)), .unset, .unset, .unset, .unset, .unset, .unset]) rfl ?_
      exact law2 hw X a b c0 d sel _ _ N hN (by decide)
  · refine w_iconst X D0_19 (v := (-1 : Int32)) rfl ?_
    refine w_goto X D0_20 ?_
    refine w_istore X D0_44 (l' := #[.val (.int a), .val (.int b), .val (.long c0), .second, .val (.int d), .val (.int (Int32.ofNat N)), .val (.int sel), .val (.int (-1 : Int32)), .unset, .unset, .unset, .unset, .unset, .unset, .unset]) rfl ?_
    refine w_iload X D0_46 rfl ?_
    refine w_iconst X D0_48 (v := (3 : Int32)) rfl ?_
    refine w_icmpne X D0_49 (fun hc49 => ?_) (fun hc49 => by rw [hc16] at hc49; exact absurd hc49 (by decide))
    refine w_iload X D0_56 rfl ?_
    refine w_istore X D0_58 (l' := #[.val (.int a), .val (.int b), .val (.long c0), .second, .val (.int d), .val (.int (Int32.ofNat N)), .val (.int sel), .val (.int (-1 : Int32)), .val (.int (-1 : Int32)), .unset, .unset, .unset, .unset, .unset, .unset]) rfl ?_
    exact law2 hw X a b c0 d sel _ _ N hN (by decide)
set_option maxRecDepth 65536 in
set_option maxHeartbeats 40000000 in
theorem comes_1 {Post : Tables → Env → Array Value → State → Outcome → State → Prop} (hpost : ∀ tb e args s v u, (limb_1_1.after args s (.returned v) u = true ∧ limb_1_2.after args s (.returned v) u = true ∧ True) → FrameEnd s (.returned v) u (Jvm.fieldLocs frame_1_writes args s ++ Jvm.arrayLocs frame_1_arrays args s ++ Jvm.staticLocs frame_1_statics s) 16 128 → Post tb e args s (.returned v) u) :
    ArmFor flags0 classFile x code maxLocals ret World_1 tables_1 room_1 Calls_1 rest_1 Pre_1 Post := by
  intro l hfl _ _ p e ha hc hk s m args below hf hA hF happ hP
  obtain ⟨hcalls, hrest, hpre⟩ := hP
  obtain ⟨-, -, -, hnamed, -, -, -, hat⟩ := (Spec.applies_iff hf).mp happ
  obtain ⟨hg, hn⟩ := and_e (Cond.before_iff.mp (show (Jvm.Cond.and given_1 narrow_1).before args s = true from hpre))
  obtain ⟨hcount, g0⟩ := and_e hg
  obtain ⟨ga0, g1⟩ := and_e g0
  obtain ⟨ga1, g2⟩ := and_e g1
  obtain ⟨ga2, g3⟩ := and_e g2
  obtain ⟨w0, w1, w2, w3, rfl⟩ : ∃ w0 w1 w2 w3 : Value, args = #[w0, w1, w2, w3] := by
    have hs : args.size = 4 := by simpa [Cond.value, given_1] using hcount
    obtain ⟨L⟩ := args
    match L, hs with
    | [w0, w1, w2, w3], _ => exact ⟨w0, w1, w2, w3, rfl⟩
  have hw := fun d (hd : d ∈ tables_1) => atoms_spec (ws := Jvm.Cond.code x code maxLocals ret :: tables_1) hat d (List.mem_cons_of_mem _ hd)
  obtain ⟨i0, ei0⟩ := is_v ga0
  obtain rfl : w0 = (.int i0) := Option.some.inj ei0
  obtain ⟨i1, ei1⟩ := is_v ga1
  obtain rfl : w1 = (.int i1) := Option.some.inj ei1
  obtain ⟨i2, ei2⟩ := isL_v ga2
  obtain rfl : w2 = (.long i2) := Option.some.inj ei2
  obtain ⟨i3, ei3⟩ := is_v g3
  obtain rfl : w3 = (.int i3) := Option.some.inj ei3
  obtain ⟨n, o, h1, h2, h3, _, L, rfl, ⟨N, -, rfl⟩, hq⟩ := rm0 (l := l) (Z := s) (n0 := s.heap.size) (h := s.heap) hw (Nat.le_refl _) i0 i1 i2 i3 p e ha hc hk s m _ below hf ((Spec.applies_iff_loose hf).mp happ).1 ⟨rfl, State.Warmed39.refl s, rfl⟩ trivial
  refine ⟨n, _, h1, h2, h3, hpost _ _ _ _ _ _ ⟨Cond.after_iff.mpr rfl, Cond.after_iff.mpr (eq_i res_at (Term.int_eval (1)) rfl), trivial⟩ ⟨hq.1, hq.2.1, (hq.2.2.sift fun y hy => Or.inr (N y hy)).mono (by decide) (by decide)⟩⟩
theorem main_1_1 : Claimed_1_1 := comes_1 fun _ _ _ _ _ _ h hF => ⟨h.1, hF⟩
theorem main_1_2 : Claimed_1_2 := comes_1 fun _ _ _ _ _ _ h hF => ⟨h.2.1, hF⟩
end Jvm.Pilot.@@N@@
namespace Jvm.Pilot.@@N@@
open Jvm Jvm.ClassFile Sem Op Lib Jvm.Free Jvm.Stand Jvm.Pilot.@@N@@.Jvm.D
/-! MADE BY PROGRAM (witnessworld.py) out of the Statement's table words and the real class files: 10 classes; the members and pool entries that the words name. The judged class is class 1, her method 1. -/
namespace start1
open Jvm.ClassFile
def u (s : String) : CpInfo := .utf8 (stringToUtf16 s)
/-- a pool by its gaps: so many unusable entries, then the entry; so many at the end -/
def gap : Nat → List CpInfo → List CpInfo
  | 0, r => r
  | n + 1, r => .unusable :: gap n r
def poolList (es : List (Nat × CpInfo)) (last : Nat) : List CpInfo := es.foldr (fun e r => gap e.1 (e.2 :: r)) (gap last [])
def pool (es : List (Nat × CpInfo)) (last : Nat) : Array CpInfo := ⟨poolList es last⟩
def fileOf (pool : Array CpInfo) (this : Nat) (attrs : Array Attribute := #[]) (ms : Array MethodInfo := #[]) (fl : Nat := 33) (sup : Nat := 0) (ifs : Array Nat := #[]) (fds : Array FieldInfo := #[]) : ClassFile where
  minorVersion := 0
  majorVersion := 65
  constantPool := pool
  accessFlags := fl
  thisClass := this
  superClass := sup
  interfaces := ifs
  fields := fds
  methods := ms
  attributes := attrs
def plain (name : String) (sup : Option ClassId) : Class where
  name := name
  kind := .ordinary
  loader := none
  accessFlags := 33
  super := sup
  interfaces := #[]
  cf := none
  fields := #[]
  methods := #[]
  instanceTypes := #[]
  staticTypes := #[]
  resolved := #[]
  callSites := []
  init := .initialized
  statics := none
  mirror := none

def pool0 : Array CpInfo := pool [(5, u "<init>"), (0, u "()V"), (1, .class_ 10), (1, u "java/lang/Object")] 113

def k0m0 : Method := { name := "<init>", desc := "()V", sig := { parameters := [], returnType := none }, accessFlags := 1, code := none }
/-- java/lang/Object -/
def k0 : Class := { plain "java/lang/Object" none with
  accessFlags := 33
  interfaces := #[]
  cf := some (fileOf pool0 8 #[] #[{ accessFlags := 1, nameIndex := 5, descriptorIndex := 6, attributes := #[] }] 33 0 #[] #[])
  fields := #[]
  methods := #[k0m0]
  instanceTypes := #[]
  staticTypes := #[]
  resolved := Array.replicate 124 none
  statics := none }

def pool1 : Array CpInfo := pool [(2, .class_ 4), (1, u "java/lang/Object"), (0, u "<init>"), (0, u "()V"), (0, .integer 2147483647), (0, .class_ 9), (0, u "nestrel/engine/store/Key"), (0, .long 18446744073709551615), (1, .methodref 13 14), (0, .class_ 15), (0, .nameAndType 16 17), (0, u "nestrel/engine/store/KeyHashPinLaw"), (0, u "step"), (0, u "(IIIB)I"), (0, .methodref 8 19), (0, .nameAndType 20 21), (0, u "hash"), (0, u "(IIJ[B)I"), (2, u "law"), (0, u "(IIJI)Z")] 5

def k1m0 : Method := { name := "<init>", desc := "()V", sig := { parameters := [], returnType := none }, accessFlags := 1, code := none }
def k1c1 : Code := { maxStack := 7, maxLocals := 15, code := code, exceptionTable := #[], attributes := #[] }
def k1m1 : Method := { name := "law", desc := "(IIJI)Z", sig := { parameters := [.int, .int, .long, .int], returnType := some .boolean }, accessFlags := 9, code := some k1c1 }
def k1c2 : Code := { maxStack := 2, maxLocals := 4, code := method_3_code, exceptionTable := #[], attributes := #[] }
def k1m2 : Method := { name := "step", desc := "(IIIB)I", sig := { parameters := [.int, .int, .int, .byte], returnType := some .int }, accessFlags := 10, code := some k1c2 }
/-- nestrel/engine/store/KeyHashPinLaw -/
def k1 : Class := { plain "nestrel/engine/store/KeyHashPinLaw" (some 0) with
  accessFlags := 49
  interfaces := #[]
  cf := some (fileOf pool1 13 #[] #[{ accessFlags := 1, nameIndex := 5, descriptorIndex := 6, attributes := #[] }, { accessFlags := 9, nameIndex := 24, descriptorIndex := 25, attributes := #[] }, { accessFlags := 10, nameIndex := 16, descriptorIndex := 17, attributes := #[] }] 49 2 #[] #[])
  fields := #[]
  methods := #[k1m0, k1m1, k1m2]
  instanceTypes := #[]
  staticTypes := #[]
  resolved := Array.replicate 31 none
  statics := none }

def pool2 : Array CpInfo := pool [(1, .class_ 2), (0, u "java/lang/Comparable"), (0, .class_ 4), (0, u "java/lang/Object")] 7

/-- java/lang/Comparable -/
def k2 : Class := { plain "java/lang/Comparable" (some 0) with
  accessFlags := 1537
  interfaces := #[]
  cf := some (fileOf pool2 1 #[] #[] 1537 3 #[] #[])
  fields := #[]
  methods := #[]
  instanceTypes := #[]
  staticTypes := #[]
  resolved := Array.replicate 12 none
  statics := none }

def pool3 : Array CpInfo := pool [(2, .class_ 4), (1, u "nestrel/engine/store/Key"), (22, .class_ 29), (1, u "java/lang/Object"), (3, u "sign"), (0, u "I"), (2, u "length"), (2, u "prefix"), (0, u "J"), (2, u "bytes"), (0, u "[B"), (66, u "hash"), (2, u "hashIsZero"), (0, u "Z"), (2, u "(IIJ[B)I"), (53, .class_ 174), (0, u "java/lang/Comparable"), (0, u "STRING"), (2, u "PREFIX")] 40

def k3c0 : Code := { maxStack := 6, maxLocals := 7, code := prog_148_method_6_code, exceptionTable := #[], attributes := #[] }
def k3m0 : Method := { name := "hash", desc := "(IIJ[B)I", sig := { parameters := [.int, .int, .long, (.array .byte)], returnType := some .int }, accessFlags := 8, code := some k3c0 }
/-- nestrel/engine/store/Key -/
def k3 : Class := { plain "nestrel/engine/store/Key" (some 0) with
  accessFlags := 49
  interfaces := #[2]
  cf := some (fileOf pool3 2 #[] #[{ accessFlags := 8, nameIndex := 112, descriptorIndex := 119, attributes := #[] }] 49 27 #[173] #[{ accessFlags := 24, nameIndex := 175, descriptorIndex := 34, attributes := #[] }, { accessFlags := 24, nameIndex := 178, descriptorIndex := 34, attributes := #[] }, { accessFlags := 18, nameIndex := 33, descriptorIndex := 34, attributes := #[] }, { accessFlags := 18, nameIndex := 37, descriptorIndex := 34, attributes := #[] }, { accessFlags := 18, nameIndex := 40, descriptorIndex := 41, attributes := #[] }, { accessFlags := 18, nameIndex := 44, descriptorIndex := 45, attributes := #[] }, { accessFlags := 2, nameIndex := 112, descriptorIndex := 34, attributes := #[] }, { accessFlags := 2, nameIndex := 115, descriptorIndex := 116, attributes := #[] }])
  fields := #[{ name := "STRING", type := .int, accessFlags := 24, slot := 0, constantValue := 0 }, { name := "PREFIX", type := .int, accessFlags := 24, slot := 1, constantValue := 0 }, { name := "sign", type := .int, accessFlags := 18, slot := 0, constantValue := 0 }, { name := "length", type := .int, accessFlags := 18, slot := 1, constantValue := 0 }, { name := "prefix", type := .long, accessFlags := 18, slot := 2, constantValue := 0 }, { name := "bytes", type := (.array .byte), accessFlags := 18, slot := 3, constantValue := 0 }, { name := "hash", type := .int, accessFlags := 2, slot := 4, constantValue := 0 }, { name := "hashIsZero", type := .boolean, accessFlags := 2, slot := 5, constantValue := 0 }]
  methods := #[k3m0]
  instanceTypes := #[.int, .int, .long, (.array .byte), .int, .boolean]
  staticTypes := #[.int, .int]
  resolved := Array.replicate 219 none
  statics := none }

def pool4 : Array CpInfo := pool [(1, u "java/lang/Cloneable"), (0, .class_ 1), (0, u "java/lang/Object"), (0, .class_ 3)] 3

/-- java/lang/Cloneable -/
def k4 : Class := { plain "java/lang/Cloneable" (some 0) with
  accessFlags := 1537
  interfaces := #[]
  cf := some (fileOf pool4 2 #[] #[] 1537 4 #[] #[])
  fields := #[]
  methods := #[]
  instanceTypes := #[]
  staticTypes := #[]
  resolved := Array.replicate 8 none
  statics := none }

def pool5 : Array CpInfo := pool [(1, u "java/io/Serializable"), (0, .class_ 1), (0, u "java/lang/Object"), (0, .class_ 3)] 3

/-- java/io/Serializable -/
def k5 : Class := { plain "java/io/Serializable" (some 0) with
  accessFlags := 1537
  interfaces := #[]
  cf := some (fileOf pool5 2 #[] #[] 1537 4 #[] #[])
  fields := #[]
  methods := #[]
  instanceTypes := #[]
  staticTypes := #[]
  resolved := Array.replicate 8 none
  statics := none }

/-- the primitive byte -/
def k6 : Class := { plain "byte" none with kind := .primitive 'B', accessFlags := 0x411 }
/-- [B -/
def k7 : Class := { plain "[B" (some 0) with kind := .array 6 .byte, interfaces := #[4, 5], accessFlags := 1041 }

/-- the primitive int -/
def k8 : Class := { plain "int" none with kind := .primitive 'I', accessFlags := 0x411 }
/-- [I -/
def k9 : Class := { plain "[I" (some 0) with kind := .array 8 .int, interfaces := #[4, 5], accessFlags := 1041 }

def heap : Heap := #[]
def classes : Array Class := #[k0, k1, k2, k3, k4, k5, k6, k7, k8, k9]
def interned : List (Array UInt16 × Addr) := []
def slotsUsed : Nat := 0
def theMethod : MethodId := ⟨1, 1⟩
def args0 : Array Value := #[.int 2, .int 5, .long 77, .int 9]
def aboutOver (below : List Frame) : State where
  vm := { classes := classes, interned := interned.toArray }
  heap := heap
  slotsUsed := slotsUsed
  threads := #[{ frames := .invoking theMethod args0 :: below }]
def below0 : List Frame := [.native { method := ⟨0, 0⟩, args := #[] }]
def about1 : State := aboutOver below0
def p0 : Program := .bare "" "" ""
def e0 : Env := launch0.env 0 0 0
theorem w_frames : about1.frames = Frame.invoking theMethod args0 :: below0 := rfl
set_option maxRecDepth 65536 in
theorem w_args : argsFit about1.vm theMethod args0 = true := by decide +kernel
set_option maxRecDepth 65536 in
theorem w_heap : heapFits about1 = true := by decide +kernel
set_option maxRecDepth 65536 in
theorem w_runnable : about1.curStatus? = some .runnable := by decide +kernel
set_option maxRecDepth 65536 in
theorem w_alone : about1.alone = true := by decide +kernel
set_option maxRecDepth 65536 in
theorem w_named : about1.methodNamed? x = some theMethod := by decide +kernel
set_option maxRecDepth 65536 in
theorem w_hears : about1.hears theMethod below0 = true := by decide +kernel
set_option maxRecDepth 65536 in
theorem w_ripe : about1.ripe theMethod args0 below0 = true := by decide +kernel
theorem w_running : about1.status = .running := rfl
set_option maxRecDepth 65536 in
theorem w_room : about1.hasRoom e0.platform room_1 = true :=
  launch0.hasRoom_least _ room_1 (by decide +kernel) (by decide +kernel) (by decide +kernel) (by decide +kernel) (by decide +kernel) (by decide +kernel)
theorem allAtoms_all (ts : List Jvm.Cond) (a : Array Jvm.Value) (st : Jvm.State) : (allAtoms ts).before a st = ts.all (fun c => c.before a st) := by
  induction ts with
  | nil => rfl
  | cons c t ih =>
    show (Jvm.Cond.and c (allAtoms t)).before a st = _
    rw [Jvm.Cond.before_and, ih, List.all_cons]
def words1 : List Jvm.Cond := Jvm.Cond.code x code maxLocals ret :: tables_1
/-- a 'code' word, met by the world's own term for the bytes: nothing is compared byte by byte -/
theorem code_word {y : MethodName} {bytes : ByteArray} {mx : Nat} {rt : Option FieldType} {a : Array Value} {s : State} {m : MethodId} {meth : Method} {c : Code} (h1 : s.methodNamed? y = some m) (h2 : s.vm.method? m = some meth) (h3 : meth.code = some c) (h4 : c.code = bytes)
    (h5 : (c.maxLocals == mx && c.exceptionTable.isEmpty && decide (c.maxStack ≤ mostOperands) && decide (meth.sig.returnType = rt) && !meth.locks && decide (parseMethodDescriptor y.desc = some meth.sig)) = true) : (Jvm.Cond.code y bytes mx rt).before a s = true := by
  simp only [Bool.and_eq_true, beq_iff_eq, Bool.not_eq_true', decide_eq_true_eq] at h5
  obtain ⟨⟨⟨⟨⟨g1, g2⟩, g3⟩, g4⟩, g5⟩, g6⟩ := h5
  simp [Cond.before, Cond.holds, Cond.value, h1, h2, h3, h4, g1, g2, g3, g4, g5, g6]
def isCode : Jvm.Cond → Bool
  | .code _ _ _ _ => true
  | _ => false
theorem all_split {L : List Jvm.Cond} {P : Jvm.Cond → Bool} (h1 : L.all (fun c => isCode c || P c) = true) (h2 : ∀ c ∈ L.filter isCode, P c = true) : L.all P = true := by
  refine List.all_eq_true.mpr fun c hc => ?_
  have h := List.all_eq_true.mp h1 c hc
  rcases Bool.eq_false_or_eq_true (isCode c) with hi | hi
  · exact h2 c (List.mem_filter.mpr ⟨hc, hi⟩)
  · simpa [hi] using h
set_option maxRecDepth 65536 in
theorem w_c0 : (Jvm.Cond.code x code maxLocals ret).before args0 about1 = true := code_word (m := ⟨1, 1⟩) (meth := k1m1) (c := k1c1) (by decide +kernel) rfl rfl rfl (by decide +kernel)
set_option maxRecDepth 65536 in
theorem w_c1 : (Jvm.Cond.code ({ cls := "nestrel/engine/store/KeyHashPinLaw", name := "step", desc := "(IIIB)I" } : Jvm.MethodName) method_3_code (4 : Nat) (Option.some Jvm.ClassFile.FieldType.int)).before args0 about1 = true := code_word (m := ⟨1, 2⟩) (meth := k1m2) (c := k1c2) (by decide +kernel) rfl rfl rfl (by decide +kernel)
set_option maxRecDepth 65536 in
theorem w_c2 : (Jvm.Cond.code ({ cls := "nestrel/engine/store/Key", name := "hash", desc := "(IIJ[B)I" } : Jvm.MethodName) prog_148_method_6_code (7 : Nat) (Option.some Jvm.ClassFile.FieldType.int)).before args0 about1 = true := code_word (m := ⟨3, 0⟩) (meth := k3m0) (c := k3c0) (by decide +kernel) rfl rfl rfl (by decide +kernel)
def codes1 : List Jvm.Cond := [Jvm.Cond.code x code maxLocals ret, Jvm.Cond.code ({ cls := "nestrel/engine/store/KeyHashPinLaw", name := "step", desc := "(IIIB)I" } : Jvm.MethodName) method_3_code (4 : Nat) (Option.some Jvm.ClassFile.FieldType.int), Jvm.Cond.code ({ cls := "nestrel/engine/store/Key", name := "hash", desc := "(IIJ[B)I" } : Jvm.MethodName) prog_148_method_6_code (7 : Nat) (Option.some Jvm.ClassFile.FieldType.int)]
set_option maxRecDepth 65536 in
theorem codes_eq : words1.filter isCode = codes1 := rfl
theorem w_codes : ∀ c ∈ words1.filter isCode, c.before args0 about1 = true := by
  rw [codes_eq]
  intro c hc
  simp only [codes1, List.mem_cons, List.not_mem_nil, or_false] at hc
  rcases hc with rfl | rfl | rfl
  · exact w_c0
  · exact w_c1
  · exact w_c2
set_option maxRecDepth 65536 in
theorem w_t1 : words1.all (fun c => isCode c || c.before args0 about1) = true := by decide +kernel
theorem w_tables : (allAtoms (Jvm.Cond.code x code maxLocals ret :: tables_1)).before args0 about1 = true := by
  rw [allAtoms_all]
  show words1.all (fun c => c.before args0 about1) = true
  refine all_split ?_ w_codes
  rw [w_t1]
set_option maxRecDepth 65536 in
theorem w_case : (Jvm.Cond.and given_1 narrow_1).before args0 about1 = true := by decide +kernel
theorem w_applies : (headSpec (Jvm.Cond.code x code maxLocals ret :: tables_1) room_1).applies x e0.platform about1 = true :=
  (Spec.applies_iff w_frames).mpr ⟨w_running, w_runnable, w_alone, w_named, w_hears, w_ripe, w_room, w_tables⟩
theorem atStart : AtStart classFile x code maxLocals ret World_1 tables_1 room_1 Calls_1 rest_1 Pre_1 launch0 p0 e0 about1 theMethod args0 below0 :=
  ⟨lists_1, trivial, launch0.admits_env _ _ _, launch0.least_env, fairChoices_fair.cas, fairChoices_fair.clock, w_frames, w_args, w_heap, w_applies, trivial, trivial, w_case⟩
end start1
theorem witness_1 : WitnessClaimed_1 := ⟨start1.p0, start1.e0, start1.about1, start1.theMethod, start1.args0, start1.below0, start1.atStart⟩
end Jvm.Pilot.@@N@@
