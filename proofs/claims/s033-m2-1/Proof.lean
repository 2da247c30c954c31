import JvmDerived
import JvmDerived.Pilot.@@N@@Statement
import JvmDerived.Pilot.@@N@@Code
set_option linter.unusedVariables false
set_option linter.unusedSimpArgs false
namespace Jvm.RoadKit
open Sem ClassFile Op Lib Jvm.Stand Jvm.Free Jvm.LawKit
section New
variable {p : Program} {l : Launch} {e : Env} {R : Room} {s : State} {m : MethodId} {args : Array Value} {below : List Frame} {meth : Method} {c : Code} {T : State} {locs : List Loc} {cells slots : Nat}
theorem retI (X : Stand p l e R s m args below meth c T locs cells slots) (hx : p.tables.exec = Jvm.exec) {pc : Nat} {Ls : Array Slot} {z : Int32} {rest : List Value} (hret : meth.sig.returnType = some .int) (hd : decode c.code pc = .ok (.ireturn, 1)) {fs : List Frame}
    (hl : ∀ (f : JFrame) (acts : List Action), f.method = m → f.locked = none → f.entered = [] → (doReturn e (T.setTop f) acts (some (.int z))).1 = T.setFrames fs) : Steps p.tables e below (T.setTop (mkF m pc Ls (.int z :: rest))) (T.setFrames fs) := by
  have hm' : T.vm.method? m = some meth := X.method'
  have hn : narrow .int (.int z) = .int z := rfl
  show Steps p.tables e below (T.setTop { method := m, pc := pc, locals := Ls, stack := _ :: rest, locked := none }) _
  jvm_step X.here [X.here.top, hx, hd, hm', hret, hn]
  first | (intro acts; rw [hl _ acts rfl rfl rfl]) | rw [hl _ _ rfl rfl rfl]
  exact Steps.refl _
end New
end Jvm.RoadKit
namespace Jvm.Pilot.@@N@@
open Jvm Jvm.ClassFile Sem Op Lib Jvm.Free Jvm.Stand Jvm.LawKit Jvm.RoadKit Bundle Jvm.Pilot.@@N@@.Jvm.D
section OwnKit
variable {Z : State} {a0 : Array Value} {n0 : Nat} {p : Program} {l : Launch} {e : Env} {R : Room} {s : State} {m : MethodId} {args : Array Value} {below : List Frame} {meth : Method} {c : Code} {code : ByteArray} {ml : Nat} {ret : Option FieldType} {y : MethodName} {T : State} {h h' : Heap} {k j : Nat} {Q : Option Value → Heap → Prop} {pc nx tgt : Nat} {Ls : Array Slot} {S : List Value}
/-- Java's shifts -/
abbrev jshl (x q : Int32) : Int32 := x <<< (q &&& 31)
abbrev jshr (x q : Int32) : Int32 := x >>> (q &&& 31)
abbrev jushr (x q : Int32) : Int32 := (x.toUInt32 >>> (q &&& 31).toUInt32).toInt32
abbrev jshlL (x : Int64) (q : Int32) : Int64 := x <<< (q &&& 0x3f).toInt64
abbrev jshrL (x : Int64) (q : Int32) : Int64 := x >>> (q &&& 0x3f).toInt64
abbrev jushrL (x : Int64) (q : Int32) : Int64 := (x.toUInt64 >>> (q &&& 0x3f).toInt64.toUInt64).toInt64
abbrev jbyte (x : Int32) : Int32 := x.toInt8.toInt32
/-- the instruction at pc, and the pc behind it -/
def Dec (code : ByteArray) (pc : Nat) (i : Instr) (len nx : Nat) : Prop := decode code pc = .ok (i, len) ∧ nx = pc + len
/-- a jump at pc: the pc behind it, and where it goes -/
def Jmp (code : ByteArray) (pc : Nat) (i : Instr) (o : Int) (nx tgt : Nat) : Prop := decode code pc = .ok (i, 3) ∧ nx = pc + 3 ∧ 0 ≤ (pc : Int) + o ∧ ((pc : Int) + o).toNat = tgt
/-- where a body's run stands: the heap, the cells and slots made; nothing older than n0 was written -/
def Pos (Z : State) (a0 : Array Value) (n0 : Nat) (p : Program) (l : Launch) (e : Env) (R : Room) (s : State) (m : MethodId) (args : Array Value) (below : List Frame) (meth : Method) (c : Code) (code : ByteArray) (ml : Nat) (ret : Option FieldType) (y : MethodName) (T : State) (h : Heap) (k j : Nat) : Prop :=
  p.tables.exec = Jvm.exec ∧ Z.Warmed39 s.vm ∧ c.code = code ∧ c.maxLocals = ml ∧ meth.sig.returnType = ret ∧ s.vm.findClass y.cls = some m.cls ∧ meth.name = y.name ∧ meth.locks = false ∧ T.heap = h ∧ n0 ≤ h.size ∧ (∀ d ∈ tables_1, d.before a0 Z = true) ∧ ∃ locs, Fr n0 locs ∧ Stand p l e R s m args below meth c T locs k j
/-- from the frame f over T the body comes to its end, and Q says with what -/
def Wp (n0 : Nat) (p : Program) (e : Env) (R : Room) (s : State) (below : List Frame) (Q : Option Value → Heap → Prop) (T : State) (f : JFrame) : Prop :=
  ∃ t o, Steps p.tables e below (T.setTop f) t ∧ t.status = .running ∧ Ended t below o ∧ ∃ v L, o = .returned v ∧ (Fr n0 L ∧ n0 ≤ t.heap.size ∧ Q v t.heap) ∧ FrameEnd s o t L R.cells R.slots
/-- a body's contract at one array of arguments and one heap -/
def Ctr (l : Launch) (Z : State) (n0 : Nat) (y : MethodName) (code : ByteArray) (ml : Nat) (ret : Option FieldType) (R : Room) (ws : List Jvm.Cond) (as : Array Value) (h : Heap) (Q : Option Value → Heap → Prop) : Prop :=
  MetFree l y (head1 (Jvm.Cond.code y code ml ret :: ws) R) (fun a U => a = as ∧ Z.Warmed39 U.vm ∧ U.heap = h) (fun _ _ _ _ _ => True) (fun _ U o U' => ∃ v L, o = .returned v ∧ (Fr n0 L ∧ n0 ≤ U'.heap.size ∧ Q v U'.heap) ∧ FrameEnd U o U' L R.cells R.slots)
/-- an array of n places: place i holds g i; it is no older than n0 -/
def Ba (Z : State) (n0 : Nat) (h : Heap) (a : Addr) (ty : FieldType) (n : Nat) (g : Nat → Value) : Prop :=
  n0 ≤ a ∧ n < 2147483648 ∧ ∃ c : Cell, Arr Z h a c ty ∧ c.slots.size = n ∧ ∀ i, i < n → c.slots[i]? = some (g i)
def bI (b : Nat → Int32) : Nat → Value := fun i => .int (b i)
def bJ (b : Nat → Int64) : Nat → Value := fun i => .long (b i)
def upd {α : Type} (b : Nat → α) (i : Nat) (v : α) : Nat → α := fun q => if q = i then v else b q
theorem upd_at {α : Type} (b : Nat → α) (i : Nat) (v : α) : upd b i v i = v := if_pos rfl
theorem upd_ne {α : Type} (b : Nat → α) {i q : Nat} (v : α) (h : q ≠ i) : upd b i v q = b q := if_neg h
theorem Ba.lt {a : Addr} {ty : FieldType} {n : Nat} {g : Nat → Value} (B : Ba Z n0 h a ty n g) : a < h.size := by obtain ⟨-, -, c, A, -⟩ := B; exact A.lt
theorem Ba.ext {a : Addr} {ty : FieldType} {n : Nat} {g : Nat → Value} (B : Ba Z n0 h a ty n g) (E : Ext h h') : Ba Z n0 h' a ty n g := by obtain ⟨q1, q2, c, A, r⟩ := B; exact ⟨q1, q2, c, A.ext E, r⟩
theorem Ba.keep {a : Addr} {ty : FieldType} {n : Nat} {g : Nat → Value} {ws : List Addr} (B : Ba Z n0 h a ty n g) (K : Keep h h' ws) (q : a ∉ ws) : Ba Z n0 h' a ty n g := by obtain ⟨q1, q2, c, A, r⟩ := B; exact ⟨q1, q2, c, ⟨K.2.1 a c A.1 q, A.2⟩, r⟩
theorem Ba.congr {a : Addr} {ty : FieldType} {n : Nat} {g g' : Nat → Value} (B : Ba Z n0 h a ty n g) (q : ∀ i, i < n → g i = g' i) : Ba Z n0 h a ty n g' := by obtain ⟨q1, q2, c, A, r1, r2⟩ := B; exact ⟨q1, q2, c, A, r1, fun i hi => by rw [r2 i hi, q i hi]⟩
theorem ofNat_toInt {n : Nat} (h : n < 2147483648) : (Int32.ofNat n).toInt = n := Int32.toInt_ofNat_of_lt (by omega)
theorem ofNat_clamp {n : Nat} (h : n < 2147483648) : (Int32.ofNat n).toNatClampNeg = n := by rw [Int32.toNatClampNeg, ofNat_toInt h]; rfl
theorem ofNat_nn {n : Nat} (h : n < 2147483648) : ¬ Int32.ofNat n < 0 := by rw [Int32.lt_iff_toInt_lt, ofNat_toInt h, show (0 : Int32).toInt = 0 from rfl]; omega
theorem ofNat_lt {a b : Nat} (ha : a < 2147483648) (hb : b < 2147483648) : Int32.ofNat a < Int32.ofNat b ↔ a < b := by rw [Int32.lt_iff_toInt_lt, ofNat_toInt ha, ofNat_toInt hb]; omega
theorem eq_ofNat {x : Int32} {n : Nat} (hn : n < 2147483648) (h : x.toInt = n) : x = Int32.ofNat n := Int32.toInt_inj.mp (by rw [h, ofNat_toInt hn])
theorem inb {c : Cell} {n i : Nat} (hn : n < 2147483648) (hc : c.slots.size = n) (hi : i < n) : ¬ (Int32.ofNat i < 0 ∨ c.slots.size ≤ (Int32.ofNat i).toNatClampNeg) := by
  rw [hc, ofNat_clamp (by omega)]
  exact fun q => q.elim (ofNat_nn (by omega)) (fun q => by omega)
theorem Pos.sz (X : Pos Z a0 n0 p l e R s m args below meth c code ml ret y T h k j) : n0 ≤ h.size := X.2.2.2.2.2.2.2.2.2.1
theorem Wp.go {T' : State} {f f' : JFrame} (st : ∀ target, Steps p.tables e below (T'.setTop f') target → Steps p.tables e below (T.setTop f) target) (q : Wp n0 p e R s below Q T' f') : Wp n0 p e R s below Q T f := by
  obtain ⟨t, o, h1, r⟩ := q; exact ⟨t, o, st t h1, r⟩
theorem Wp.cast {f f' : JFrame} (q : f = f') (w : Wp n0 p e R s below Q T f') : Wp n0 p e R s below Q T f := q ▸ w
theorem ctr_of {ws : List Jvm.Cond} {as : Array Value} (hp : plainFor y = true) (hw : ∀ d ∈ tables_1, d.before a0 Z = true) (hn : n0 ≤ h.size)
    (body : ∀ p e s m below meth c T, Pos Z a0 n0 p l e R s m as below meth c code ml ret y T h 0 0 → Wp n0 p e R s below Q T (entryFrame m as ml)) : Ctr l Z n0 y code ml ret R ws as h Q := by
  refine MetFree.of_bodySF hp hisR ?_
  intro p e s m args below meth c s₁ Bd hml0 hP hK
  obtain ⟨rfl, hZ, hh⟩ := hP
  exact body p e s m below meth c s₁ ⟨Bd.exec, hZ, Bd.bytes, hml0, Bd.returns, findClass_of_methodNamed Bd.named, (name_of_methodNamed Bd.named Bd.method).1, Bd.notSynchronized, by rw [← hh, Bd.state]; rfl, hn, hw, [], Fr.nil _, Stand.of_body Bd⟩
theorem w_iadd (X : Pos Z a0 n0 p l e R s m args below meth c code ml ret y T h k j) {x z : Int32} (hd : Dec code pc .iadd 1 nx) (q : Wp n0 p e R s below Q T (mkF m nx Ls (.int (x + z) :: S))) : Wp n0 p e R s below Q T (mkF m pc Ls (.int z :: .int x :: S)) := by
  obtain ⟨hx, hZ, hby, hml, hret, hown, hnm, hlk, eT, hn0, hw, locs, N, Y⟩ := X
  obtain ⟨hd, rfl⟩ := hd
  exact Wp.go (fun _ q => XS.iadd Y.here hx rfl (hb hby hd) rfl q) q
theorem w_isub (X : Pos Z a0 n0 p l e R s m args below meth c code ml ret y T h k j) {x z : Int32} (hd : Dec code pc .isub 1 nx) (q : Wp n0 p e R s below Q T (mkF m nx Ls (.int (x - z) :: S))) : Wp n0 p e R s below Q T (mkF m pc Ls (.int z :: .int x :: S)) := by
  obtain ⟨hx, hZ, hby, hml, hret, hown, hnm, hlk, eT, hn0, hw, locs, N, Y⟩ := X
  obtain ⟨hd, rfl⟩ := hd
  exact Wp.go (fun _ q => XS.isub Y.here hx rfl (hb hby hd) rfl q) q
theorem w_imul (X : Pos Z a0 n0 p l e R s m args below meth c code ml ret y T h k j) {x z : Int32} (hd : Dec code pc .imul 1 nx) (q : Wp n0 p e R s below Q T (mkF m nx Ls (.int (x * z) :: S))) : Wp n0 p e R s below Q T (mkF m pc Ls (.int z :: .int x :: S)) := by
  obtain ⟨hx, hZ, hby, hml, hret, hown, hnm, hlk, eT, hn0, hw, locs, N, Y⟩ := X
  obtain ⟨hd, rfl⟩ := hd
  exact Wp.go (fun _ q => XS.imul Y.here hx rfl (hb hby hd) rfl q) q
theorem w_iand (X : Pos Z a0 n0 p l e R s m args below meth c code ml ret y T h k j) {x z : Int32} (hd : Dec code pc .iand 1 nx) (q : Wp n0 p e R s below Q T (mkF m nx Ls (.int (x &&& z) :: S))) : Wp n0 p e R s below Q T (mkF m pc Ls (.int z :: .int x :: S)) := by
  obtain ⟨hx, hZ, hby, hml, hret, hown, hnm, hlk, eT, hn0, hw, locs, N, Y⟩ := X
  obtain ⟨hd, rfl⟩ := hd
  exact Wp.go (fun _ q => XS.iand Y.here hx rfl (hb hby hd) rfl q) q
theorem w_ior (X : Pos Z a0 n0 p l e R s m args below meth c code ml ret y T h k j) {x z : Int32} (hd : Dec code pc .ior 1 nx) (q : Wp n0 p e R s below Q T (mkF m nx Ls (.int (x ||| z) :: S))) : Wp n0 p e R s below Q T (mkF m pc Ls (.int z :: .int x :: S)) := by
  obtain ⟨hx, hZ, hby, hml, hret, hown, hnm, hlk, eT, hn0, hw, locs, N, Y⟩ := X
  obtain ⟨hd, rfl⟩ := hd
  exact Wp.go (fun _ q => XS.ior Y.here hx rfl (hb hby hd) rfl q) q
theorem w_ixor (X : Pos Z a0 n0 p l e R s m args below meth c code ml ret y T h k j) {x z : Int32} (hd : Dec code pc .ixor 1 nx) (q : Wp n0 p e R s below Q T (mkF m nx Ls (.int (x ^^^ z) :: S))) : Wp n0 p e R s below Q T (mkF m pc Ls (.int z :: .int x :: S)) := by
  obtain ⟨hx, hZ, hby, hml, hret, hown, hnm, hlk, eT, hn0, hw, locs, N, Y⟩ := X
  obtain ⟨hd, rfl⟩ := hd
  exact Wp.go (fun _ q => XS.ixor Y.here hx rfl (hb hby hd) rfl q) q
theorem w_ishl (X : Pos Z a0 n0 p l e R s m args below meth c code ml ret y T h k j) {x z : Int32} (hd : Dec code pc .ishl 1 nx) (q : Wp n0 p e R s below Q T (mkF m nx Ls (.int (jshl x z) :: S))) : Wp n0 p e R s below Q T (mkF m pc Ls (.int z :: .int x :: S)) := by
  obtain ⟨hx, hZ, hby, hml, hret, hown, hnm, hlk, eT, hn0, hw, locs, N, Y⟩ := X
  obtain ⟨hd, rfl⟩ := hd
  exact Wp.go (fun _ q => XS.ishl Y.here hx rfl (hb hby hd) rfl q) q
theorem w_ishr (X : Pos Z a0 n0 p l e R s m args below meth c code ml ret y T h k j) {x z : Int32} (hd : Dec code pc .ishr 1 nx) (q : Wp n0 p e R s below Q T (mkF m nx Ls (.int (jshr x z) :: S))) : Wp n0 p e R s below Q T (mkF m pc Ls (.int z :: .int x :: S)) := by
  obtain ⟨hx, hZ, hby, hml, hret, hown, hnm, hlk, eT, hn0, hw, locs, N, Y⟩ := X
  obtain ⟨hd, rfl⟩ := hd
  exact Wp.go (fun _ q => XS.ishr Y.here hx rfl (hb hby hd) rfl q) q
theorem w_iushr (X : Pos Z a0 n0 p l e R s m args below meth c code ml ret y T h k j) {x z : Int32} (hd : Dec code pc .iushr 1 nx) (q : Wp n0 p e R s below Q T (mkF m nx Ls (.int (jushr x z) :: S))) : Wp n0 p e R s below Q T (mkF m pc Ls (.int z :: .int x :: S)) := by
  obtain ⟨hx, hZ, hby, hml, hret, hown, hnm, hlk, eT, hn0, hw, locs, N, Y⟩ := X
  obtain ⟨hd, rfl⟩ := hd
  exact Wp.go (fun _ q => XS.iushr Y.here hx rfl (hb hby hd) rfl q) q
theorem w_ladd (X : Pos Z a0 n0 p l e R s m args below meth c code ml ret y T h k j) {x z : Int64} (hd : Dec code pc .ladd 1 nx) (q : Wp n0 p e R s below Q T (mkF m nx Ls (.long (x + z) :: S))) : Wp n0 p e R s below Q T (mkF m pc Ls (.long z :: .long x :: S)) := by
  obtain ⟨hx, hZ, hby, hml, hret, hown, hnm, hlk, eT, hn0, hw, locs, N, Y⟩ := X
  obtain ⟨hd, rfl⟩ := hd
  exact Wp.go (fun _ q => XS.ladd Y.here hx rfl (hb hby hd) rfl q) q
theorem w_lsub (X : Pos Z a0 n0 p l e R s m args below meth c code ml ret y T h k j) {x z : Int64} (hd : Dec code pc .lsub 1 nx) (q : Wp n0 p e R s below Q T (mkF m nx Ls (.long (x - z) :: S))) : Wp n0 p e R s below Q T (mkF m pc Ls (.long z :: .long x :: S)) := by
  obtain ⟨hx, hZ, hby, hml, hret, hown, hnm, hlk, eT, hn0, hw, locs, N, Y⟩ := X
  obtain ⟨hd, rfl⟩ := hd
  exact Wp.go (fun _ q => XS.lsub Y.here hx rfl (hb hby hd) rfl q) q
theorem w_lmul (X : Pos Z a0 n0 p l e R s m args below meth c code ml ret y T h k j) {x z : Int64} (hd : Dec code pc .lmul 1 nx) (q : Wp n0 p e R s below Q T (mkF m nx Ls (.long (x * z) :: S))) : Wp n0 p e R s below Q T (mkF m pc Ls (.long z :: .long x :: S)) := by
  obtain ⟨hx, hZ, hby, hml, hret, hown, hnm, hlk, eT, hn0, hw, locs, N, Y⟩ := X
  obtain ⟨hd, rfl⟩ := hd
  exact Wp.go (fun _ q => XS.lmul Y.here hx rfl (hb hby hd) rfl q) q
theorem w_land (X : Pos Z a0 n0 p l e R s m args below meth c code ml ret y T h k j) {x z : Int64} (hd : Dec code pc .land 1 nx) (q : Wp n0 p e R s below Q T (mkF m nx Ls (.long (x &&& z) :: S))) : Wp n0 p e R s below Q T (mkF m pc Ls (.long z :: .long x :: S)) := by
  obtain ⟨hx, hZ, hby, hml, hret, hown, hnm, hlk, eT, hn0, hw, locs, N, Y⟩ := X
  obtain ⟨hd, rfl⟩ := hd
  exact Wp.go (fun _ q => XS.land Y.here hx rfl (hb hby hd) rfl q) q
theorem w_lor (X : Pos Z a0 n0 p l e R s m args below meth c code ml ret y T h k j) {x z : Int64} (hd : Dec code pc .lor 1 nx) (q : Wp n0 p e R s below Q T (mkF m nx Ls (.long (x ||| z) :: S))) : Wp n0 p e R s below Q T (mkF m pc Ls (.long z :: .long x :: S)) := by
  obtain ⟨hx, hZ, hby, hml, hret, hown, hnm, hlk, eT, hn0, hw, locs, N, Y⟩ := X
  obtain ⟨hd, rfl⟩ := hd
  exact Wp.go (fun _ q => XS.lor Y.here hx rfl (hb hby hd) rfl q) q
theorem w_lxor (X : Pos Z a0 n0 p l e R s m args below meth c code ml ret y T h k j) {x z : Int64} (hd : Dec code pc .lxor 1 nx) (q : Wp n0 p e R s below Q T (mkF m nx Ls (.long (x ^^^ z) :: S))) : Wp n0 p e R s below Q T (mkF m pc Ls (.long z :: .long x :: S)) := by
  obtain ⟨hx, hZ, hby, hml, hret, hown, hnm, hlk, eT, hn0, hw, locs, N, Y⟩ := X
  obtain ⟨hd, rfl⟩ := hd
  exact Wp.go (fun _ q => XS.lxor Y.here hx rfl (hb hby hd) rfl q) q
theorem w_lshl (X : Pos Z a0 n0 p l e R s m args below meth c code ml ret y T h k j) {x : Int64} {z : Int32} (hd : Dec code pc .lshl 1 nx) (q : Wp n0 p e R s below Q T (mkF m nx Ls (.long (jshlL x z) :: S))) : Wp n0 p e R s below Q T (mkF m pc Ls (.int z :: .long x :: S)) := by
  obtain ⟨hx, hZ, hby, hml, hret, hown, hnm, hlk, eT, hn0, hw, locs, N, Y⟩ := X
  obtain ⟨hd, rfl⟩ := hd
  exact Wp.go (fun _ q => XS.lshl Y.here hx rfl (hb hby hd) rfl q) q
theorem w_lshr (X : Pos Z a0 n0 p l e R s m args below meth c code ml ret y T h k j) {x : Int64} {z : Int32} (hd : Dec code pc .lshr 1 nx) (q : Wp n0 p e R s below Q T (mkF m nx Ls (.long (jshrL x z) :: S))) : Wp n0 p e R s below Q T (mkF m pc Ls (.int z :: .long x :: S)) := by
  obtain ⟨hx, hZ, hby, hml, hret, hown, hnm, hlk, eT, hn0, hw, locs, N, Y⟩ := X
  obtain ⟨hd, rfl⟩ := hd
  exact Wp.go (fun _ q => XS.lshr Y.here hx rfl (hb hby hd) rfl q) q
theorem w_lushr (X : Pos Z a0 n0 p l e R s m args below meth c code ml ret y T h k j) {x : Int64} {z : Int32} (hd : Dec code pc .lushr 1 nx) (q : Wp n0 p e R s below Q T (mkF m nx Ls (.long (jushrL x z) :: S))) : Wp n0 p e R s below Q T (mkF m pc Ls (.int z :: .long x :: S)) := by
  obtain ⟨hx, hZ, hby, hml, hret, hown, hnm, hlk, eT, hn0, hw, locs, N, Y⟩ := X
  obtain ⟨hd, rfl⟩ := hd
  exact Wp.go (fun _ q => XS.lushr Y.here hx rfl (hb hby hd) rfl q) q
theorem w_idiv (X : Pos Z a0 n0 p l e R s m args below meth c code ml ret y T h k j) {x z : Int32} (hd : Dec code pc .idiv 1 nx) (hz : z ≠ 0) (q : Wp n0 p e R s below Q T (mkF m nx Ls (.int (x / z) :: S))) : Wp n0 p e R s below Q T (mkF m pc Ls (.int z :: .int x :: S)) := by
  obtain ⟨hx, hZ, hby, hml, hret, hown, hnm, hlk, eT, hn0, hw, locs, N, Y⟩ := X
  obtain ⟨hd, rfl⟩ := hd
  exact Wp.go (fun _ q => XS.idiv Y.here hx rfl (hb hby hd) rfl hz q) q
theorem w_irem (X : Pos Z a0 n0 p l e R s m args below meth c code ml ret y T h k j) {x z : Int32} (hd : Dec code pc .irem 1 nx) (hz : z ≠ 0) (q : Wp n0 p e R s below Q T (mkF m nx Ls (.int (x % z) :: S))) : Wp n0 p e R s below Q T (mkF m pc Ls (.int z :: .int x :: S)) := by
  obtain ⟨hx, hZ, hby, hml, hret, hown, hnm, hlk, eT, hn0, hw, locs, N, Y⟩ := X
  obtain ⟨hd, rfl⟩ := hd
  exact Wp.go (fun _ q => iremM Y hx rfl (hb hby hd) rfl hz q) q
theorem w_ldiv (X : Pos Z a0 n0 p l e R s m args below meth c code ml ret y T h k j) {x z : Int64} (hd : Dec code pc .ldiv 1 nx) (hz : z ≠ 0) (q : Wp n0 p e R s below Q T (mkF m nx Ls (.long (x / z) :: S))) : Wp n0 p e R s below Q T (mkF m pc Ls (.long z :: .long x :: S)) := by
  obtain ⟨hx, hZ, hby, hml, hret, hown, hnm, hlk, eT, hn0, hw, locs, N, Y⟩ := X
  obtain ⟨hd, rfl⟩ := hd
  exact Wp.go (fun _ q => XS.ldiv Y.here hx rfl (hb hby hd) rfl hz q) q
theorem w_lrem (X : Pos Z a0 n0 p l e R s m args below meth c code ml ret y T h k j) {x z : Int64} (hd : Dec code pc .lrem 1 nx) (hz : z ≠ 0) (q : Wp n0 p e R s below Q T (mkF m nx Ls (.long (x - (x / z) * z) :: S))) : Wp n0 p e R s below Q T (mkF m pc Ls (.long z :: .long x :: S)) := by
  obtain ⟨hx, hZ, hby, hml, hret, hown, hnm, hlk, eT, hn0, hw, locs, N, Y⟩ := X
  obtain ⟨hd, rfl⟩ := hd
  exact Wp.go (fun _ q => XS.lrem Y.here hx rfl (hb hby hd) rfl hz q) q
theorem w_ineg (X : Pos Z a0 n0 p l e R s m args below meth c code ml ret y T h k j) {x : Int32} (hd : Dec code pc .ineg 1 nx) (q : Wp n0 p e R s below Q T (mkF m nx Ls (.int (-x) :: S))) : Wp n0 p e R s below Q T (mkF m pc Ls (.int x :: S)) := by
  obtain ⟨hx, hZ, hby, hml, hret, hown, hnm, hlk, eT, hn0, hw, locs, N, Y⟩ := X
  obtain ⟨hd, rfl⟩ := hd
  exact Wp.go (fun _ q => XS.ineg Y.here hx rfl (hb hby hd) rfl q) q
theorem w_lneg (X : Pos Z a0 n0 p l e R s m args below meth c code ml ret y T h k j) {x : Int64} (hd : Dec code pc .lneg 1 nx) (q : Wp n0 p e R s below Q T (mkF m nx Ls (.long (-x) :: S))) : Wp n0 p e R s below Q T (mkF m pc Ls (.long x :: S)) := by
  obtain ⟨hx, hZ, hby, hml, hret, hown, hnm, hlk, eT, hn0, hw, locs, N, Y⟩ := X
  obtain ⟨hd, rfl⟩ := hd
  exact Wp.go (fun _ q => XS.lneg Y.here hx rfl (hb hby hd) rfl q) q
theorem w_i2l (X : Pos Z a0 n0 p l e R s m args below meth c code ml ret y T h k j) {x : Int32} (hd : Dec code pc .i2l 1 nx) (q : Wp n0 p e R s below Q T (mkF m nx Ls (.long (x.toInt64) :: S))) : Wp n0 p e R s below Q T (mkF m pc Ls (.int x :: S)) := by
  obtain ⟨hx, hZ, hby, hml, hret, hown, hnm, hlk, eT, hn0, hw, locs, N, Y⟩ := X
  obtain ⟨hd, rfl⟩ := hd
  exact Wp.go (fun _ q => XS.i2l Y.here hx rfl (hb hby hd) rfl q) q
theorem w_l2i (X : Pos Z a0 n0 p l e R s m args below meth c code ml ret y T h k j) {x : Int64} (hd : Dec code pc .l2i 1 nx) (q : Wp n0 p e R s below Q T (mkF m nx Ls (.int (x.toInt32) :: S))) : Wp n0 p e R s below Q T (mkF m pc Ls (.long x :: S)) := by
  obtain ⟨hx, hZ, hby, hml, hret, hown, hnm, hlk, eT, hn0, hw, locs, N, Y⟩ := X
  obtain ⟨hd, rfl⟩ := hd
  exact Wp.go (fun _ q => XS.l2i Y.here hx rfl (hb hby hd) rfl q) q
theorem w_i2b (X : Pos Z a0 n0 p l e R s m args below meth c code ml ret y T h k j) {x : Int32} (hd : Dec code pc .i2b 1 nx) (q : Wp n0 p e R s below Q T (mkF m nx Ls (.int (jbyte x) :: S))) : Wp n0 p e R s below Q T (mkF m pc Ls (.int x :: S)) := by
  obtain ⟨hx, hZ, hby, hml, hret, hown, hnm, hlk, eT, hn0, hw, locs, N, Y⟩ := X
  obtain ⟨hd, rfl⟩ := hd
  exact Wp.go (fun _ q => XS.i2b Y.here hx rfl (hb hby hd) rfl q) q
theorem w_iconst (X : Pos Z a0 n0 p l e R s m args below meth c code ml ret y T h k j) {i : Int} {v : Int32} (hd : Dec code pc (.iconst i) 1 nx) (hv : Int32.ofInt i = v) (q : Wp n0 p e R s below Q T (mkF m nx Ls (.int v :: S))) : Wp n0 p e R s below Q T (mkF m pc Ls S) := by
  obtain ⟨hx, hZ, hby, hml, hret, hown, hnm, hlk, eT, hn0, hw, locs, N, Y⟩ := X
  obtain ⟨hd, rfl⟩ := hd
  subst hv
  exact Wp.go (fun _ q => XS.iconst Y.here hx rfl (hb hby hd) q) q
theorem w_bipush (X : Pos Z a0 n0 p l e R s m args below meth c code ml ret y T h k j) {i : Int} {v : Int32} (hd : Dec code pc (.bipush i) 2 nx) (hv : (Int8.ofInt i).toInt32 = v) (q : Wp n0 p e R s below Q T (mkF m nx Ls (.int v :: S))) : Wp n0 p e R s below Q T (mkF m pc Ls S) := by
  obtain ⟨hx, hZ, hby, hml, hret, hown, hnm, hlk, eT, hn0, hw, locs, N, Y⟩ := X
  obtain ⟨hd, rfl⟩ := hd
  subst hv
  exact Wp.go (fun _ q => XS.bipush Y.here hx rfl (hb hby hd) q) q
theorem w_sipush (X : Pos Z a0 n0 p l e R s m args below meth c code ml ret y T h k j) {i : Int} {v : Int32} (hd : Dec code pc (.sipush i) 3 nx) (hv : (Int16.ofInt i).toInt32 = v) (q : Wp n0 p e R s below Q T (mkF m nx Ls (.int v :: S))) : Wp n0 p e R s below Q T (mkF m pc Ls S) := by
  obtain ⟨hx, hZ, hby, hml, hret, hown, hnm, hlk, eT, hn0, hw, locs, N, Y⟩ := X
  obtain ⟨hd, rfl⟩ := hd
  subst hv
  exact Wp.go (fun _ q => XS.sipush Y.here hx rfl (hb hby hd) q) q
theorem w_lconst0 (X : Pos Z a0 n0 p l e R s m args below meth c code ml ret y T h k j) (hd : Dec code pc (.lconst 0) 1 nx) (q : Wp n0 p e R s below Q T (mkF m nx Ls (.long 0 :: S))) : Wp n0 p e R s below Q T (mkF m pc Ls S) := by
  obtain ⟨hx, hZ, hby, hml, hret, hown, hnm, hlk, eT, hn0, hw, locs, N, Y⟩ := X
  obtain ⟨hd, rfl⟩ := hd
  exact Wp.go (fun _ q => XS.lconst Y.here hx rfl (hb hby hd) q) q
theorem w_lconst1 (X : Pos Z a0 n0 p l e R s m args below meth c code ml ret y T h k j) (hd : Dec code pc (.lconst 1) 1 nx) (q : Wp n0 p e R s below Q T (mkF m nx Ls (.long 1 :: S))) : Wp n0 p e R s below Q T (mkF m pc Ls S) := by
  obtain ⟨hx, hZ, hby, hml, hret, hown, hnm, hlk, eT, hn0, hw, locs, N, Y⟩ := X
  obtain ⟨hd, rfl⟩ := hd
  exact Wp.go (fun _ q => XS.lconst Y.here hx rfl (hb hby hd) q) q
theorem w_null (X : Pos Z a0 n0 p l e R s m args below meth c code ml ret y T h k j) (hd : Dec code pc .aconst_null 1 nx) (q : Wp n0 p e R s below Q T (mkF m nx Ls (.null :: S))) : Wp n0 p e R s below Q T (mkF m pc Ls S) := by
  obtain ⟨hx, hZ, hby, hml, hret, hown, hnm, hlk, eT, hn0, hw, locs, N, Y⟩ := X
  obtain ⟨hd, rfl⟩ := hd
  exact Wp.go (fun _ q => XS.aconstNull Y.here hx rfl (hb hby hd) q) q
theorem w_iloadN (X : Pos Z a0 n0 p l e R s m args below meth c code ml ret y T h k j) {w : Fin 4} {v : Int32} (hd : Dec code pc (.iload_n w) 1 nx) (hl : Ls[w.val]? = some (.val (.int v))) (q : Wp n0 p e R s below Q T (mkF m nx Ls (.int v :: S))) : Wp n0 p e R s below Q T (mkF m pc Ls S) := by
  obtain ⟨hx, hZ, hby, hml, hret, hown, hnm, hlk, eT, hn0, hw, locs, N, Y⟩ := X
  obtain ⟨hd, rfl⟩ := hd
  exact Wp.go (fun _ q => XS.iloadN Y.here hx rfl (hb hby hd) hl q) q
theorem w_iload (X : Pos Z a0 n0 p l e R s m args below meth c code ml ret y T h k j) {w : Nat} {v : Int32} (hd : Dec code pc (.iload w) 2 nx) (hl : Ls[w]? = some (.val (.int v))) (q : Wp n0 p e R s below Q T (mkF m nx Ls (.int v :: S))) : Wp n0 p e R s below Q T (mkF m pc Ls S) := by
  obtain ⟨hx, hZ, hby, hml, hret, hown, hnm, hlk, eT, hn0, hw, locs, N, Y⟩ := X
  obtain ⟨hd, rfl⟩ := hd
  exact Wp.go (fun _ q => XS.iload Y.here hx rfl (hb hby hd) hl q) q
theorem w_lloadN (X : Pos Z a0 n0 p l e R s m args below meth c code ml ret y T h k j) {w : Fin 4} {v : Int64} (hd : Dec code pc (.lload_n w) 1 nx) (hl : Ls[w.val]? = some (.val (.long v))) (q : Wp n0 p e R s below Q T (mkF m nx Ls (.long v :: S))) : Wp n0 p e R s below Q T (mkF m pc Ls S) := by
  obtain ⟨hx, hZ, hby, hml, hret, hown, hnm, hlk, eT, hn0, hw, locs, N, Y⟩ := X
  obtain ⟨hd, rfl⟩ := hd
  exact Wp.go (fun _ q => XS.lloadN Y.here hx rfl (hb hby hd) hl q) q
theorem w_lload (X : Pos Z a0 n0 p l e R s m args below meth c code ml ret y T h k j) {w : Nat} {v : Int64} (hd : Dec code pc (.lload w) 2 nx) (hl : Ls[w]? = some (.val (.long v))) (q : Wp n0 p e R s below Q T (mkF m nx Ls (.long v :: S))) : Wp n0 p e R s below Q T (mkF m pc Ls S) := by
  obtain ⟨hx, hZ, hby, hml, hret, hown, hnm, hlk, eT, hn0, hw, locs, N, Y⟩ := X
  obtain ⟨hd, rfl⟩ := hd
  exact Wp.go (fun _ q => XS.lload Y.here hx rfl (hb hby hd) hl q) q
theorem w_aloadN (X : Pos Z a0 n0 p l e R s m args below meth c code ml ret y T h k j) {w : Fin 4} {v : Value} (hd : Dec code pc (.aload_n w) 1 nx) (hl : Ls[w.val]? = some (.val v)) (hv : v.isRef = true) (q : Wp n0 p e R s below Q T (mkF m nx Ls (v :: S))) : Wp n0 p e R s below Q T (mkF m pc Ls S) := by
  obtain ⟨hx, hZ, hby, hml, hret, hown, hnm, hlk, eT, hn0, hw, locs, N, Y⟩ := X
  obtain ⟨hd, rfl⟩ := hd
  exact Wp.go (fun _ q => XS.aloadN Y.here hx rfl (hb hby hd) hl hv q) q
theorem w_astoreN (X : Pos Z a0 n0 p l e R s m args below meth c code ml ret y T h k j) {w : Fin 4} {v : Value} {l' : Array Slot} (hd : Dec code pc (.astore_n w) 1 nx) (hv : v.isRef = true) (hl : storeLocals Ls w.val v = some l') (q : Wp n0 p e R s below Q T (mkF m nx l' S)) : Wp n0 p e R s below Q T (mkF m pc Ls (v :: S)) := by
  obtain ⟨hx, hZ, hby, hml, hret, hown, hnm, hlk, eT, hn0, hw, locs, N, Y⟩ := X
  obtain ⟨hd, rfl⟩ := hd
  exact Wp.go (fun _ q => XS.astoreN Y.here hx rfl (hb hby hd) rfl hv hl q) q
theorem w_istoreN (X : Pos Z a0 n0 p l e R s m args below meth c code ml ret y T h k j) {w : Fin 4} {v : Int32} {l' : Array Slot} (hd : Dec code pc (.istore_n w) 1 nx) (hl : storeLocals Ls w.val (.int v) = some l') (q : Wp n0 p e R s below Q T (mkF m nx l' S)) : Wp n0 p e R s below Q T (mkF m pc Ls (.int v :: S)) := by
  obtain ⟨hx, hZ, hby, hml, hret, hown, hnm, hlk, eT, hn0, hw, locs, N, Y⟩ := X
  obtain ⟨hd, rfl⟩ := hd
  exact Wp.go (fun _ q => XS.istoreN Y.here hx rfl (hb hby hd) rfl hl q) q
theorem w_istoreNE (X : Pos Z a0 n0 p l e R s m args below meth c code ml ret y T h k j) {w : Fin 4} {v : Int32} {l' : Int32 → Array Slot} (hd : Dec code pc (.istore_n w) 1 nx) (hl : ∀ z, storeLocals Ls w.val (.int z) = some (l' z)) (q : ∀ z, z = v → Wp n0 p e R s below Q T (mkF m nx (l' z) S)) : Wp n0 p e R s below Q T (mkF m pc Ls (.int v :: S)) := w_istoreN X hd (hl v) (q v rfl)
theorem w_lstoreN (X : Pos Z a0 n0 p l e R s m args below meth c code ml ret y T h k j) {w : Fin 4} {v : Int64} {l' : Array Slot} (hd : Dec code pc (.lstore_n w) 1 nx) (hl : storeLocals Ls w.val (.long v) = some l') (q : Wp n0 p e R s below Q T (mkF m nx l' S)) : Wp n0 p e R s below Q T (mkF m pc Ls (.long v :: S)) := by
  obtain ⟨hx, hZ, hby, hml, hret, hown, hnm, hlk, eT, hn0, hw, locs, N, Y⟩ := X
  obtain ⟨hd, rfl⟩ := hd
  exact Wp.go (fun _ q => XS.lstoreN Y.here hx rfl (hb hby hd) rfl hl q) q
theorem w_lstoreNE (X : Pos Z a0 n0 p l e R s m args below meth c code ml ret y T h k j) {w : Fin 4} {v : Int64} {l' : Int64 → Array Slot} (hd : Dec code pc (.lstore_n w) 1 nx) (hl : ∀ z, storeLocals Ls w.val (.long z) = some (l' z)) (q : ∀ z, z = v → Wp n0 p e R s below Q T (mkF m nx (l' z) S)) : Wp n0 p e R s below Q T (mkF m pc Ls (.long v :: S)) := w_lstoreN X hd (hl v) (q v rfl)
theorem w_aload (X : Pos Z a0 n0 p l e R s m args below meth c code ml ret y T h k j) {w : Nat} {v : Value} (hd : Dec code pc (.aload w) 2 nx) (hl : Ls[w]? = some (.val v)) (hv : v.isRef = true) (q : Wp n0 p e R s below Q T (mkF m nx Ls (v :: S))) : Wp n0 p e R s below Q T (mkF m pc Ls S) := by
  obtain ⟨hx, hZ, hby, hml, hret, hown, hnm, hlk, eT, hn0, hw, locs, N, Y⟩ := X
  obtain ⟨hd, rfl⟩ := hd
  exact Wp.go (fun _ q => XS.aload Y.here hx rfl (hb hby hd) hl hv q) q
theorem w_astore (X : Pos Z a0 n0 p l e R s m args below meth c code ml ret y T h k j) {w : Nat} {v : Value} {l' : Array Slot} (hd : Dec code pc (.astore w) 2 nx) (hv : v.isRef = true) (hl : storeLocals Ls w v = some l') (q : Wp n0 p e R s below Q T (mkF m nx l' S)) : Wp n0 p e R s below Q T (mkF m pc Ls (v :: S)) := by
  obtain ⟨hx, hZ, hby, hml, hret, hown, hnm, hlk, eT, hn0, hw, locs, N, Y⟩ := X
  obtain ⟨hd, rfl⟩ := hd
  exact Wp.go (fun _ q => XS.astore Y.here hx rfl (hb hby hd) rfl hv hl q) q
theorem w_istore (X : Pos Z a0 n0 p l e R s m args below meth c code ml ret y T h k j) {w : Nat} {v : Int32} {l' : Array Slot} (hd : Dec code pc (.istore w) 2 nx) (hl : storeLocals Ls w (.int v) = some l') (q : Wp n0 p e R s below Q T (mkF m nx l' S)) : Wp n0 p e R s below Q T (mkF m pc Ls (.int v :: S)) := by
  obtain ⟨hx, hZ, hby, hml, hret, hown, hnm, hlk, eT, hn0, hw, locs, N, Y⟩ := X
  obtain ⟨hd, rfl⟩ := hd
  exact Wp.go (fun _ q => XS.istore Y.here hx rfl (hb hby hd) rfl hl q) q
theorem w_istoreE (X : Pos Z a0 n0 p l e R s m args below meth c code ml ret y T h k j) {w : Nat} {v : Int32} {l' : Int32 → Array Slot} (hd : Dec code pc (.istore w) 2 nx) (hl : ∀ z, storeLocals Ls w (.int z) = some (l' z)) (q : ∀ z, z = v → Wp n0 p e R s below Q T (mkF m nx (l' z) S)) : Wp n0 p e R s below Q T (mkF m pc Ls (.int v :: S)) := w_istore X hd (hl v) (q v rfl)
theorem w_lstore (X : Pos Z a0 n0 p l e R s m args below meth c code ml ret y T h k j) {w : Nat} {v : Int64} {l' : Array Slot} (hd : Dec code pc (.lstore w) 2 nx) (hl : storeLocals Ls w (.long v) = some l') (q : Wp n0 p e R s below Q T (mkF m nx l' S)) : Wp n0 p e R s below Q T (mkF m pc Ls (.long v :: S)) := by
  obtain ⟨hx, hZ, hby, hml, hret, hown, hnm, hlk, eT, hn0, hw, locs, N, Y⟩ := X
  obtain ⟨hd, rfl⟩ := hd
  exact Wp.go (fun _ q => XS.lstore Y.here hx rfl (hb hby hd) rfl hl q) q
theorem w_lstoreE (X : Pos Z a0 n0 p l e R s m args below meth c code ml ret y T h k j) {w : Nat} {v : Int64} {l' : Int64 → Array Slot} (hd : Dec code pc (.lstore w) 2 nx) (hl : ∀ z, storeLocals Ls w (.long z) = some (l' z)) (q : ∀ z, z = v → Wp n0 p e R s below Q T (mkF m nx (l' z) S)) : Wp n0 p e R s below Q T (mkF m pc Ls (.long v :: S)) := w_lstore X hd (hl v) (q v rfl)
theorem w_istoreNS (X : Pos Z a0 n0 p l e R s m args below meth c code ml ret y T h k j) {w : Fin 4} {v : Int32} {l' : Array Slot} {o : Slot} (hd : Dec code pc (.istore_n w) 1 nx) (hold : Ls[w.val]? = some o) (ho : One o) (hl : Ls.setIfInBounds w.val (.val (.int v)) = l') (q : Wp n0 p e R s below Q T (mkF m nx l' S)) : Wp n0 p e R s below Q T (mkF m pc Ls (.int v :: S)) := w_istoreN X hd ((XS.store1 hold ho rfl).trans (congrArg some hl)) q
theorem w_istoreS (X : Pos Z a0 n0 p l e R s m args below meth c code ml ret y T h k j) {w : Nat} {v : Int32} {l' : Array Slot} {o : Slot} (hd : Dec code pc (.istore w) 2 nx) (hold : Ls[w]? = some o) (ho : One o) (hl : Ls.setIfInBounds w (.val (.int v)) = l') (q : Wp n0 p e R s below Q T (mkF m nx l' S)) : Wp n0 p e R s below Q T (mkF m pc Ls (.int v :: S)) := w_istore X hd ((XS.store1 hold ho rfl).trans (congrArg some hl)) q
theorem w_iinc (X : Pos Z a0 n0 p l e R s m args below meth c code ml ret y T h k j) {w : Nat} {i : Int} {d v r : Int32} {l' : Array Slot} (hd : Dec code pc (.iinc w i) 3 nx) (hl : Ls[w]? = some (.val (.int v))) (hi : Int32.ofInt i = d) (hr : v + d = r) (hl' : storeLocals Ls w (.int r) = some l') (q : Wp n0 p e R s below Q T (mkF m nx l' S)) : Wp n0 p e R s below Q T (mkF m pc Ls S) := by
  obtain ⟨hx, hZ, hby, hml, hret, hown, hnm, hlk, eT, hn0, hw, locs, N, Y⟩ := X
  obtain ⟨hd, rfl⟩ := hd
  subst hi hr
  exact Wp.go (fun _ q => XS.iinc Y.here hx rfl (hb hby hd) hl hl' q) q
theorem w_dup (X : Pos Z a0 n0 p l e R s m args below meth c code ml ret y T h k j) {v : Value} (hd : Dec code pc .dup 1 nx) (hv : v.category = 1) (q : Wp n0 p e R s below Q T (mkF m nx Ls (v :: v :: S))) : Wp n0 p e R s below Q T (mkF m pc Ls (v :: S)) := by
  obtain ⟨hx, hZ, hby, hml, hret, hown, hnm, hlk, eT, hn0, hw, locs, N, Y⟩ := X
  obtain ⟨hd, rfl⟩ := hd
  exact Wp.go (fun _ q => XS.dup Y.here hx rfl (hb hby hd) rfl hv q) q
theorem w_pop (X : Pos Z a0 n0 p l e R s m args below meth c code ml ret y T h k j) {v : Value} (hd : Dec code pc .pop 1 nx) (hv : v.category = 1) (q : Wp n0 p e R s below Q T (mkF m nx Ls S)) : Wp n0 p e R s below Q T (mkF m pc Ls (v :: S)) := by
  obtain ⟨hx, hZ, hby, hml, hret, hown, hnm, hlk, eT, hn0, hw, locs, N, Y⟩ := X
  obtain ⟨hd, rfl⟩ := hd
  exact Wp.go (fun _ q => XS.pop Y.here hx rfl (hb hby hd) rfl hv q) q
theorem w_dupX1 (X : Pos Z a0 n0 p l e R s m args below meth c code ml ret y T h k j) {v w : Value} (hd : Dec code pc .dup_x1 1 nx) (hv : v.category = 1) (hw' : w.category = 1) (q : Wp n0 p e R s below Q T (mkF m nx Ls (v :: w :: v :: S))) : Wp n0 p e R s below Q T (mkF m pc Ls (v :: w :: S)) := by
  obtain ⟨hx, hZ, hby, hml, hret, hown, hnm, hlk, eT, hn0, hw, locs, N, Y⟩ := X
  obtain ⟨hd, rfl⟩ := hd
  exact Wp.go (fun _ q => XS.dupX1 Y.here hx rfl (hb hby hd) rfl hv hw' q) q
theorem w_dup2 (X : Pos Z a0 n0 p l e R s m args below meth c code ml ret y T h k j) {v w : Value} (hd : Dec code pc .dup2 1 nx) (hv : v.category = 1) (hw' : w.category = 1) (q : Wp n0 p e R s below Q T (mkF m nx Ls (v :: w :: v :: w :: S))) : Wp n0 p e R s below Q T (mkF m pc Ls (v :: w :: S)) := by
  obtain ⟨hx, hZ, hby, hml, hret, hown, hnm, hlk, eT, hn0, hw, locs, N, Y⟩ := X
  obtain ⟨hd, rfl⟩ := hd
  exact Wp.go (fun _ q => Jvm.Free.XT.dup2 Y.here hx rfl (hb hby hd) rfl hv hw' q) q
theorem w_goto (X : Pos Z a0 n0 p l e R s m args below meth c code ml ret y T h k j) {o : Int} (hd : Jmp code pc (.goto o) o nx tgt) (q : Wp n0 p e R s below Q T (mkF m tgt Ls S)) : Wp n0 p e R s below Q T (mkF m pc Ls S) := by
  obtain ⟨hx, hZ, hby, hml, hret, hown, hnm, hlk, eT, hn0, hw, locs, N, Y⟩ := X
  obtain ⟨hd, -, ho, hp⟩ := hd
  exact Wp.go (fun _ q => XS.goto Y.here hx rfl (pc0 := pc) (pc' := tgt) rfl (hb hby hd) ho hp q) q
theorem w_icmpeq (X : Pos Z a0 n0 p l e R s m args below meth c code ml ret y T h k j) {x z : Int32} {o : Int} (hd : Jmp code pc (.if_icmp .eq o) o nx tgt) (qt : x = z → Wp n0 p e R s below Q T (mkF m tgt Ls S)) (qf : ¬ x = z → Wp n0 p e R s below Q T (mkF m nx Ls S)) : Wp n0 p e R s below Q T (mkF m pc Ls (.int z :: .int x :: S)) := by
  obtain ⟨hx, hZ, hby, hml, hret, hown, hnm, hlk, eT, hn0, hw, locs, N, Y⟩ := X
  obtain ⟨hd, rfl, ho, hp⟩ := hd
  by_cases hc : x = z
  · exact Wp.go (fun _ q => XS.icmpYes Y.here hx rfl (pc0 := pc) (pc' := tgt) rfl (hb hby hd) rfl (Jvm.Free.XT.ii_eq_t hc) ho hp q) (qt hc)
  · exact Wp.go (fun _ q => XS.icmpNo Y.here hx rfl (hb hby hd) rfl (Jvm.Free.XT.ii_eq_f hc) q) (qf hc)
theorem w_ifeq (X : Pos Z a0 n0 p l e R s m args below meth c code ml ret y T h k j) {x : Int32} {o : Int} (hd : Jmp code pc (.ifCond .eq o) o nx tgt) (qt : x = 0 → Wp n0 p e R s below Q T (mkF m tgt Ls S)) (qf : ¬ x = 0 → Wp n0 p e R s below Q T (mkF m nx Ls S)) : Wp n0 p e R s below Q T (mkF m pc Ls (.int x :: S)) := by
  obtain ⟨hx, hZ, hby, hml, hret, hown, hnm, hlk, eT, hn0, hw, locs, N, Y⟩ := X
  obtain ⟨hd, rfl, ho, hp⟩ := hd
  by_cases hc : x = 0
  · exact Wp.go (fun _ q => XS.ifYes Y.here hx rfl (pc0 := pc) (pc' := tgt) rfl (hb hby hd) rfl (Jvm.Free.XT.i0_eq_t hc) ho hp q) (qt hc)
  · exact Wp.go (fun _ q => XS.ifNo Y.here hx rfl (hb hby hd) rfl (Jvm.Free.XT.i0_eq_f hc) q) (qf hc)
theorem w_lcmpeq (X : Pos Z a0 n0 p l e R s m args below meth c code ml ret y T h k j) {x z : Int64} {o : Int} {mid : Nat} (hd0 : Dec code pc .lcmp 1 mid) (hd : Jmp code mid (.ifCond .eq o) o nx tgt) (qt : x = z → Wp n0 p e R s below Q T (mkF m tgt Ls S)) (qf : ¬ x = z → Wp n0 p e R s below Q T (mkF m nx Ls S)) : Wp n0 p e R s below Q T (mkF m pc Ls (.long z :: .long x :: S)) := by
  obtain ⟨hx, hZ, hby, hml, hret, hown, hnm, hlk, eT, hn0, hw, locs, N, Y⟩ := X
  obtain ⟨hd0, rfl⟩ := hd0
  obtain ⟨hd, rfl, ho, hp⟩ := hd
  refine Wp.go (fun _ q => Jvm.Free.XT.lcmp Y.here hx rfl (hb hby hd0) rfl q) ?_
  by_cases hc : x = z
  · exact Wp.go (fun _ q => XS.ifYes Y.here hx rfl (pc0 := pc + 1) (pc' := tgt) rfl (hb hby hd) rfl (Jvm.Free.XT.ll_eq_t hc) ho hp q) (qt hc)
  · exact Wp.go (fun _ q => XS.ifNo Y.here hx rfl (hb hby hd) rfl (Jvm.Free.XT.ll_eq_f hc) q) (qf hc)
theorem w_icmpne (X : Pos Z a0 n0 p l e R s m args below meth c code ml ret y T h k j) {x z : Int32} {o : Int} (hd : Jmp code pc (.if_icmp .ne o) o nx tgt) (qt : ¬ x = z → Wp n0 p e R s below Q T (mkF m tgt Ls S)) (qf : x = z → Wp n0 p e R s below Q T (mkF m nx Ls S)) : Wp n0 p e R s below Q T (mkF m pc Ls (.int z :: .int x :: S)) := by
  obtain ⟨hx, hZ, hby, hml, hret, hown, hnm, hlk, eT, hn0, hw, locs, N, Y⟩ := X
  obtain ⟨hd, rfl, ho, hp⟩ := hd
  by_cases hc : x = z
  · exact Wp.go (fun _ q => XS.icmpNo Y.here hx rfl (hb hby hd) rfl (Jvm.Free.XT.ii_ne_f hc) q) (qf hc)
  · exact Wp.go (fun _ q => XS.icmpYes Y.here hx rfl (pc0 := pc) (pc' := tgt) rfl (hb hby hd) rfl (Jvm.Free.XT.ii_ne_t hc) ho hp q) (qt hc)
theorem w_ifne (X : Pos Z a0 n0 p l e R s m args below meth c code ml ret y T h k j) {x : Int32} {o : Int} (hd : Jmp code pc (.ifCond .ne o) o nx tgt) (qt : ¬ x = 0 → Wp n0 p e R s below Q T (mkF m tgt Ls S)) (qf : x = 0 → Wp n0 p e R s below Q T (mkF m nx Ls S)) : Wp n0 p e R s below Q T (mkF m pc Ls (.int x :: S)) := by
  obtain ⟨hx, hZ, hby, hml, hret, hown, hnm, hlk, eT, hn0, hw, locs, N, Y⟩ := X
  obtain ⟨hd, rfl, ho, hp⟩ := hd
  by_cases hc : x = 0
  · exact Wp.go (fun _ q => XS.ifNo Y.here hx rfl (hb hby hd) rfl (Jvm.Free.XT.i0_ne_f hc) q) (qf hc)
  · exact Wp.go (fun _ q => XS.ifYes Y.here hx rfl (pc0 := pc) (pc' := tgt) rfl (hb hby hd) rfl (Jvm.Free.XT.i0_ne_t hc) ho hp q) (qt hc)
theorem w_lcmpne (X : Pos Z a0 n0 p l e R s m args below meth c code ml ret y T h k j) {x z : Int64} {o : Int} {mid : Nat} (hd0 : Dec code pc .lcmp 1 mid) (hd : Jmp code mid (.ifCond .ne o) o nx tgt) (qt : ¬ x = z → Wp n0 p e R s below Q T (mkF m tgt Ls S)) (qf : x = z → Wp n0 p e R s below Q T (mkF m nx Ls S)) : Wp n0 p e R s below Q T (mkF m pc Ls (.long z :: .long x :: S)) := by
  obtain ⟨hx, hZ, hby, hml, hret, hown, hnm, hlk, eT, hn0, hw, locs, N, Y⟩ := X
  obtain ⟨hd0, rfl⟩ := hd0
  obtain ⟨hd, rfl, ho, hp⟩ := hd
  refine Wp.go (fun _ q => Jvm.Free.XT.lcmp Y.here hx rfl (hb hby hd0) rfl q) ?_
  by_cases hc : x = z
  · exact Wp.go (fun _ q => XS.ifNo Y.here hx rfl (hb hby hd) rfl (Jvm.Free.XT.ll_ne_f hc) q) (qf hc)
  · exact Wp.go (fun _ q => XS.ifYes Y.here hx rfl (pc0 := pc + 1) (pc' := tgt) rfl (hb hby hd) rfl (Jvm.Free.XT.ll_ne_t hc) ho hp q) (qt hc)
theorem w_icmplt (X : Pos Z a0 n0 p l e R s m args below meth c code ml ret y T h k j) {x z : Int32} {o : Int} (hd : Jmp code pc (.if_icmp .lt o) o nx tgt) (qt : x < z → Wp n0 p e R s below Q T (mkF m tgt Ls S)) (qf : ¬ x < z → Wp n0 p e R s below Q T (mkF m nx Ls S)) : Wp n0 p e R s below Q T (mkF m pc Ls (.int z :: .int x :: S)) := by
  obtain ⟨hx, hZ, hby, hml, hret, hown, hnm, hlk, eT, hn0, hw, locs, N, Y⟩ := X
  obtain ⟨hd, rfl, ho, hp⟩ := hd
  by_cases hc : x < z
  · exact Wp.go (fun _ q => XS.icmpYes Y.here hx rfl (pc0 := pc) (pc' := tgt) rfl (hb hby hd) rfl (Jvm.Free.XT.ii_lt_t hc) ho hp q) (qt hc)
  · exact Wp.go (fun _ q => XS.icmpNo Y.here hx rfl (hb hby hd) rfl (Jvm.Free.XT.ii_lt_f hc) q) (qf hc)
theorem w_iflt (X : Pos Z a0 n0 p l e R s m args below meth c code ml ret y T h k j) {x : Int32} {o : Int} (hd : Jmp code pc (.ifCond .lt o) o nx tgt) (qt : x < 0 → Wp n0 p e R s below Q T (mkF m tgt Ls S)) (qf : ¬ x < 0 → Wp n0 p e R s below Q T (mkF m nx Ls S)) : Wp n0 p e R s below Q T (mkF m pc Ls (.int x :: S)) := by
  obtain ⟨hx, hZ, hby, hml, hret, hown, hnm, hlk, eT, hn0, hw, locs, N, Y⟩ := X
  obtain ⟨hd, rfl, ho, hp⟩ := hd
  by_cases hc : x < 0
  · exact Wp.go (fun _ q => XS.ifYes Y.here hx rfl (pc0 := pc) (pc' := tgt) rfl (hb hby hd) rfl (Jvm.Free.XT.i0_lt_t hc) ho hp q) (qt hc)
  · exact Wp.go (fun _ q => XS.ifNo Y.here hx rfl (hb hby hd) rfl (Jvm.Free.XT.i0_lt_f hc) q) (qf hc)
theorem w_lcmplt (X : Pos Z a0 n0 p l e R s m args below meth c code ml ret y T h k j) {x z : Int64} {o : Int} {mid : Nat} (hd0 : Dec code pc .lcmp 1 mid) (hd : Jmp code mid (.ifCond .lt o) o nx tgt) (qt : x < z → Wp n0 p e R s below Q T (mkF m tgt Ls S)) (qf : ¬ x < z → Wp n0 p e R s below Q T (mkF m nx Ls S)) : Wp n0 p e R s below Q T (mkF m pc Ls (.long z :: .long x :: S)) := by
  obtain ⟨hx, hZ, hby, hml, hret, hown, hnm, hlk, eT, hn0, hw, locs, N, Y⟩ := X
  obtain ⟨hd0, rfl⟩ := hd0
  obtain ⟨hd, rfl, ho, hp⟩ := hd
  refine Wp.go (fun _ q => Jvm.Free.XT.lcmp Y.here hx rfl (hb hby hd0) rfl q) ?_
  by_cases hc : x < z
  · exact Wp.go (fun _ q => XS.ifYes Y.here hx rfl (pc0 := pc + 1) (pc' := tgt) rfl (hb hby hd) rfl (Jvm.Free.XT.ll_lt_t hc) ho hp q) (qt hc)
  · exact Wp.go (fun _ q => XS.ifNo Y.here hx rfl (hb hby hd) rfl (Jvm.Free.XT.ll_lt_f hc) q) (qf hc)
theorem w_icmpge (X : Pos Z a0 n0 p l e R s m args below meth c code ml ret y T h k j) {x z : Int32} {o : Int} (hd : Jmp code pc (.if_icmp .ge o) o nx tgt) (qt : ¬ x < z → Wp n0 p e R s below Q T (mkF m tgt Ls S)) (qf : x < z → Wp n0 p e R s below Q T (mkF m nx Ls S)) : Wp n0 p e R s below Q T (mkF m pc Ls (.int z :: .int x :: S)) := by
  obtain ⟨hx, hZ, hby, hml, hret, hown, hnm, hlk, eT, hn0, hw, locs, N, Y⟩ := X
  obtain ⟨hd, rfl, ho, hp⟩ := hd
  by_cases hc : x < z
  · exact Wp.go (fun _ q => XS.icmpNo Y.here hx rfl (hb hby hd) rfl (Jvm.Free.XT.ii_ge_f hc) q) (qf hc)
  · exact Wp.go (fun _ q => XS.icmpYes Y.here hx rfl (pc0 := pc) (pc' := tgt) rfl (hb hby hd) rfl (Jvm.Free.XT.ii_ge_t hc) ho hp q) (qt hc)
theorem w_ifge (X : Pos Z a0 n0 p l e R s m args below meth c code ml ret y T h k j) {x : Int32} {o : Int} (hd : Jmp code pc (.ifCond .ge o) o nx tgt) (qt : ¬ x < 0 → Wp n0 p e R s below Q T (mkF m tgt Ls S)) (qf : x < 0 → Wp n0 p e R s below Q T (mkF m nx Ls S)) : Wp n0 p e R s below Q T (mkF m pc Ls (.int x :: S)) := by
  obtain ⟨hx, hZ, hby, hml, hret, hown, hnm, hlk, eT, hn0, hw, locs, N, Y⟩ := X
  obtain ⟨hd, rfl, ho, hp⟩ := hd
  by_cases hc : x < 0
  · exact Wp.go (fun _ q => XS.ifNo Y.here hx rfl (hb hby hd) rfl (Jvm.Free.XT.i0_ge_f hc) q) (qf hc)
  · exact Wp.go (fun _ q => XS.ifYes Y.here hx rfl (pc0 := pc) (pc' := tgt) rfl (hb hby hd) rfl (Jvm.Free.XT.i0_ge_t hc) ho hp q) (qt hc)
theorem w_lcmpge (X : Pos Z a0 n0 p l e R s m args below meth c code ml ret y T h k j) {x z : Int64} {o : Int} {mid : Nat} (hd0 : Dec code pc .lcmp 1 mid) (hd : Jmp code mid (.ifCond .ge o) o nx tgt) (qt : ¬ x < z → Wp n0 p e R s below Q T (mkF m tgt Ls S)) (qf : x < z → Wp n0 p e R s below Q T (mkF m nx Ls S)) : Wp n0 p e R s below Q T (mkF m pc Ls (.long z :: .long x :: S)) := by
  obtain ⟨hx, hZ, hby, hml, hret, hown, hnm, hlk, eT, hn0, hw, locs, N, Y⟩ := X
  obtain ⟨hd0, rfl⟩ := hd0
  obtain ⟨hd, rfl, ho, hp⟩ := hd
  refine Wp.go (fun _ q => Jvm.Free.XT.lcmp Y.here hx rfl (hb hby hd0) rfl q) ?_
  by_cases hc : x < z
  · exact Wp.go (fun _ q => XS.ifNo Y.here hx rfl (hb hby hd) rfl (Jvm.Free.XT.ll_ge_f hc) q) (qf hc)
  · exact Wp.go (fun _ q => XS.ifYes Y.here hx rfl (pc0 := pc + 1) (pc' := tgt) rfl (hb hby hd) rfl (Jvm.Free.XT.ll_ge_t hc) ho hp q) (qt hc)
theorem w_icmpgt (X : Pos Z a0 n0 p l e R s m args below meth c code ml ret y T h k j) {x z : Int32} {o : Int} (hd : Jmp code pc (.if_icmp .gt o) o nx tgt) (qt : z < x → Wp n0 p e R s below Q T (mkF m tgt Ls S)) (qf : ¬ z < x → Wp n0 p e R s below Q T (mkF m nx Ls S)) : Wp n0 p e R s below Q T (mkF m pc Ls (.int z :: .int x :: S)) := by
  obtain ⟨hx, hZ, hby, hml, hret, hown, hnm, hlk, eT, hn0, hw, locs, N, Y⟩ := X
  obtain ⟨hd, rfl, ho, hp⟩ := hd
  by_cases hc : z < x
  · exact Wp.go (fun _ q => XS.icmpYes Y.here hx rfl (pc0 := pc) (pc' := tgt) rfl (hb hby hd) rfl (Jvm.Free.XT.ii_gt_t hc) ho hp q) (qt hc)
  · exact Wp.go (fun _ q => XS.icmpNo Y.here hx rfl (hb hby hd) rfl (Jvm.Free.XT.ii_gt_f hc) q) (qf hc)
theorem w_ifgt (X : Pos Z a0 n0 p l e R s m args below meth c code ml ret y T h k j) {x : Int32} {o : Int} (hd : Jmp code pc (.ifCond .gt o) o nx tgt) (qt : 0 < x → Wp n0 p e R s below Q T (mkF m tgt Ls S)) (qf : ¬ 0 < x → Wp n0 p e R s below Q T (mkF m nx Ls S)) : Wp n0 p e R s below Q T (mkF m pc Ls (.int x :: S)) := by
  obtain ⟨hx, hZ, hby, hml, hret, hown, hnm, hlk, eT, hn0, hw, locs, N, Y⟩ := X
  obtain ⟨hd, rfl, ho, hp⟩ := hd
  by_cases hc : 0 < x
  · exact Wp.go (fun _ q => XS.ifYes Y.here hx rfl (pc0 := pc) (pc' := tgt) rfl (hb hby hd) rfl (Jvm.Free.XT.i0_gt_t hc) ho hp q) (qt hc)
  · exact Wp.go (fun _ q => XS.ifNo Y.here hx rfl (hb hby hd) rfl (Jvm.Free.XT.i0_gt_f hc) q) (qf hc)
theorem w_lcmpgt (X : Pos Z a0 n0 p l e R s m args below meth c code ml ret y T h k j) {x z : Int64} {o : Int} {mid : Nat} (hd0 : Dec code pc .lcmp 1 mid) (hd : Jmp code mid (.ifCond .gt o) o nx tgt) (qt : z < x → Wp n0 p e R s below Q T (mkF m tgt Ls S)) (qf : ¬ z < x → Wp n0 p e R s below Q T (mkF m nx Ls S)) : Wp n0 p e R s below Q T (mkF m pc Ls (.long z :: .long x :: S)) := by
  obtain ⟨hx, hZ, hby, hml, hret, hown, hnm, hlk, eT, hn0, hw, locs, N, Y⟩ := X
  obtain ⟨hd0, rfl⟩ := hd0
  obtain ⟨hd, rfl, ho, hp⟩ := hd
  refine Wp.go (fun _ q => Jvm.Free.XT.lcmp Y.here hx rfl (hb hby hd0) rfl q) ?_
  by_cases hc : z < x
  · exact Wp.go (fun _ q => XS.ifYes Y.here hx rfl (pc0 := pc + 1) (pc' := tgt) rfl (hb hby hd) rfl (Jvm.Free.XT.ll_gt_t hc) ho hp q) (qt hc)
  · exact Wp.go (fun _ q => XS.ifNo Y.here hx rfl (hb hby hd) rfl (Jvm.Free.XT.ll_gt_f hc) q) (qf hc)
theorem w_icmple (X : Pos Z a0 n0 p l e R s m args below meth c code ml ret y T h k j) {x z : Int32} {o : Int} (hd : Jmp code pc (.if_icmp .le o) o nx tgt) (qt : ¬ z < x → Wp n0 p e R s below Q T (mkF m tgt Ls S)) (qf : z < x → Wp n0 p e R s below Q T (mkF m nx Ls S)) : Wp n0 p e R s below Q T (mkF m pc Ls (.int z :: .int x :: S)) := by
  obtain ⟨hx, hZ, hby, hml, hret, hown, hnm, hlk, eT, hn0, hw, locs, N, Y⟩ := X
  obtain ⟨hd, rfl, ho, hp⟩ := hd
  by_cases hc : z < x
  · exact Wp.go (fun _ q => XS.icmpNo Y.here hx rfl (hb hby hd) rfl (Jvm.Free.XT.ii_le_f hc) q) (qf hc)
  · exact Wp.go (fun _ q => XS.icmpYes Y.here hx rfl (pc0 := pc) (pc' := tgt) rfl (hb hby hd) rfl (Jvm.Free.XT.ii_le_t hc) ho hp q) (qt hc)
theorem w_ifle (X : Pos Z a0 n0 p l e R s m args below meth c code ml ret y T h k j) {x : Int32} {o : Int} (hd : Jmp code pc (.ifCond .le o) o nx tgt) (qt : ¬ 0 < x → Wp n0 p e R s below Q T (mkF m tgt Ls S)) (qf : 0 < x → Wp n0 p e R s below Q T (mkF m nx Ls S)) : Wp n0 p e R s below Q T (mkF m pc Ls (.int x :: S)) := by
  obtain ⟨hx, hZ, hby, hml, hret, hown, hnm, hlk, eT, hn0, hw, locs, N, Y⟩ := X
  obtain ⟨hd, rfl, ho, hp⟩ := hd
  by_cases hc : 0 < x
  · exact Wp.go (fun _ q => XS.ifNo Y.here hx rfl (hb hby hd) rfl (Jvm.Free.XT.i0_le_f hc) q) (qf hc)
  · exact Wp.go (fun _ q => XS.ifYes Y.here hx rfl (pc0 := pc) (pc' := tgt) rfl (hb hby hd) rfl (Jvm.Free.XT.i0_le_t hc) ho hp q) (qt hc)
theorem w_lcmple (X : Pos Z a0 n0 p l e R s m args below meth c code ml ret y T h k j) {x z : Int64} {o : Int} {mid : Nat} (hd0 : Dec code pc .lcmp 1 mid) (hd : Jmp code mid (.ifCond .le o) o nx tgt) (qt : ¬ z < x → Wp n0 p e R s below Q T (mkF m tgt Ls S)) (qf : z < x → Wp n0 p e R s below Q T (mkF m nx Ls S)) : Wp n0 p e R s below Q T (mkF m pc Ls (.long z :: .long x :: S)) := by
  obtain ⟨hx, hZ, hby, hml, hret, hown, hnm, hlk, eT, hn0, hw, locs, N, Y⟩ := X
  obtain ⟨hd0, rfl⟩ := hd0
  obtain ⟨hd, rfl, ho, hp⟩ := hd
  refine Wp.go (fun _ q => Jvm.Free.XT.lcmp Y.here hx rfl (hb hby hd0) rfl q) ?_
  by_cases hc : z < x
  · exact Wp.go (fun _ q => XS.ifNo Y.here hx rfl (hb hby hd) rfl (Jvm.Free.XT.ll_le_f hc) q) (qf hc)
  · exact Wp.go (fun _ q => XS.ifYes Y.here hx rfl (pc0 := pc + 1) (pc' := tgt) rfl (hb hby hd) rfl (Jvm.Free.XT.ll_le_t hc) ho hp q) (qt hc)
theorem w_ldc (X : Pos Z a0 n0 p l e R s m args below meth c code ml ret y T h k j) {i : Nat} {v : Int32} (hd : Dec code pc (.ldc i) 2 nx) (wc : (Jvm.Cond.constant y.cls i v).before a0 Z = true) (q : Wp n0 p e R s below Q T (mkF m nx Ls (.int v :: S))) : Wp n0 p e R s below Q T (mkF m pc Ls S) := by
  obtain ⟨hx, hZ, hby, hml, hret, hown, hnm, hlk, eT, hn0, hw, locs, N, Y⟩ := X
  obtain ⟨hd, rfl⟩ := hd
  exact Wp.go (Y.ldcInt hx hown (mvT hZ wc) rfl (hb hby hd)) q
theorem w_ldc2 (X : Pos Z a0 n0 p l e R s m args below meth c code ml ret y T h k j) {i : Nat} {v : Int64} (hd : Dec code pc (.ldc2_w i) 3 nx) (wc : (Jvm.Cond.constantLong y.cls i v).before a0 Z = true) (q : Wp n0 p e R s below Q T (mkF m nx Ls (.long v :: S))) : Wp n0 p e R s below Q T (mkF m pc Ls S) := by
  obtain ⟨hx, hZ, hby, hml, hret, hown, hnm, hlk, eT, hn0, hw, locs, N, Y⟩ := X
  obtain ⟨hd, rfl⟩ := hd
  exact Wp.go (Y.ldc2Long hx hown (mvT hZ wc) rfl (hb hby hd)) q
theorem w_ldcw (X : Pos Z a0 n0 p l e R s m args below meth c code ml ret y T h k j) {i : Nat} {v : Int32} (hd : Dec code pc (.ldc_w i) 3 nx) (wc : (Jvm.Cond.constant y.cls i v).before a0 Z = true) (q : Wp n0 p e R s below Q T (mkF m nx Ls (.int v :: S))) : Wp n0 p e R s below Q T (mkF m pc Ls S) := by
  obtain ⟨hx, hZ, hby, hml, hret, hown, hnm, hlk, eT, hn0, hw, locs, N, Y⟩ := X
  obtain ⟨hd, rfl⟩ := hd
  exact Wp.go (Y.ldcwInt hx hown (mvT hZ wc) rfl (hb hby hd)) q
theorem w_wiinc (X : Pos Z a0 n0 p l e R s m args below meth c code ml ret y T h k j) {w : Nat} {i : Int} {d v r : Int32} {l' : Array Slot} (hd : Dec code pc (.iinc w i) 6 nx) (hl : Ls[w]? = some (.val (.int v))) (hi : Int32.ofInt i = d) (hr : v + d = r) (hl' : storeLocals Ls w (.int r) = some l') (q : Wp n0 p e R s below Q T (mkF m nx l' S)) : Wp n0 p e R s below Q T (mkF m pc Ls S) := by
  obtain ⟨hx, hZ, hby, hml, hret, hown, hnm, hlk, eT, hn0, hw, locs, N, Y⟩ := X
  obtain ⟨hd, rfl⟩ := hd
  subst hi hr
  refine Wp.go (fun _ q => ?_) q
  have hd' := hb hby hd
  have h := Y.here
  jvm_step h [h.top, hx, hd', hl, hl']
  exact q
theorem w_ireturn (X : Pos Z a0 n0 p l e R s m args below meth c code ml (some .int) y T h k j) {z : Int32} (hd : Dec code pc .ireturn 1 nx) (hk : k ≤ R.cells) (hj : j ≤ R.slots) (hq : Q (some (.int z)) h) : Wp n0 p e R s below Q T (mkF m pc Ls (.int z :: S)) := by
  obtain ⟨hx, hZ, hby, hml, hret, hown, hnm, hlk, eT, hn0, hw, locs, N, Y⟩ := X
  obtain ⟨hd, -⟩ := hd
  obtain ⟨fs, hr, hrun, hended, hW, hsame⟩ := Y.leave (v := (some (.int z))) (fun h => by rw [hret] at h; cases h) hlk
  exact ⟨_, _, retI Y hx hret (hb hby hd) hr, hrun, hended, _, _, rfl, ⟨N, by show n0 ≤ T.heap.size; rw [eT]; exact hn0, by show Q _ T.heap; rw [eT]; exact hq⟩, ⟨_, rfl⟩, hW, hsame.mono hk hj⟩
theorem w_breturn (X : Pos Z a0 n0 p l e R s m args below meth c code ml (some .byte) y T h k j) {z : Int32} (hd : Dec code pc .ireturn 1 nx) (hk : k ≤ R.cells) (hj : j ≤ R.slots) (hq : Q (some (.int (nar .byte z))) h) : Wp n0 p e R s below Q T (mkF m pc Ls (.int z :: S)) := by
  obtain ⟨hx, hZ, hby, hml, hret, hown, hnm, hlk, eT, hn0, hw, locs, N, Y⟩ := X
  obtain ⟨hd, -⟩ := hd
  obtain ⟨fs, hr, hrun, hended, hW, hsame⟩ := Y.leave (v := (some (.int (nar .byte z)))) (fun h => by rw [hret] at h; cases h) hlk
  exact ⟨_, _, retN Y hx (t := .byte) hret (by simp) (hb hby hd) hr, hrun, hended, _, _, rfl, ⟨N, by show n0 ≤ T.heap.size; rw [eT]; exact hn0, by show Q _ T.heap; rw [eT]; exact hq⟩, ⟨_, rfl⟩, hW, hsame.mono hk hj⟩
theorem w_zreturn (X : Pos Z a0 n0 p l e R s m args below meth c code ml (some .boolean) y T h k j) {z : Int32} (hd : Dec code pc .ireturn 1 nx) (hk : k ≤ R.cells) (hj : j ≤ R.slots) (hq : Q (some (.int (nar .boolean z))) h) : Wp n0 p e R s below Q T (mkF m pc Ls (.int z :: S)) := by
  obtain ⟨hx, hZ, hby, hml, hret, hown, hnm, hlk, eT, hn0, hw, locs, N, Y⟩ := X
  obtain ⟨hd, -⟩ := hd
  obtain ⟨fs, hr, hrun, hended, hW, hsame⟩ := Y.leave (v := (some (.int (nar .boolean z)))) (fun h => by rw [hret] at h; cases h) hlk
  exact ⟨_, _, retN Y hx (t := .boolean) hret (by simp) (hb hby hd) hr, hrun, hended, _, _, rfl, ⟨N, by show n0 ≤ T.heap.size; rw [eT]; exact hn0, by show Q _ T.heap; rw [eT]; exact hq⟩, ⟨_, rfl⟩, hW, hsame.mono hk hj⟩
theorem w_lreturn (X : Pos Z a0 n0 p l e R s m args below meth c code ml (some .long) y T h k j) {z : Int64} (hd : Dec code pc .lreturn 1 nx) (hk : k ≤ R.cells) (hj : j ≤ R.slots) (hq : Q (some (.long z)) h) : Wp n0 p e R s below Q T (mkF m pc Ls [.long z]) := by
  obtain ⟨hx, hZ, hby, hml, hret, hown, hnm, hlk, eT, hn0, hw, locs, N, Y⟩ := X
  obtain ⟨hd, -⟩ := hd
  obtain ⟨fs, hr, hrun, hended, hW, hsame⟩ := Y.leave (v := (some (.long z))) (fun h => by rw [hret] at h; cases h) hlk
  exact ⟨_, _, Y.lreturnOut hx hret (hb hby hd) hr, hrun, hended, _, _, rfl, ⟨N, by show n0 ≤ T.heap.size; rw [eT]; exact hn0, by show Q _ T.heap; rw [eT]; exact hq⟩, ⟨_, rfl⟩, hW, hsame.mono hk hj⟩
theorem w_return (X : Pos Z a0 n0 p l e R s m args below meth c code ml none y T h k j)  (hd : Dec code pc .return_ 1 nx) (hk : k ≤ R.cells) (hj : j ≤ R.slots) (hq : Q none h) : Wp n0 p e R s below Q T (mkF m pc Ls []) := by
  obtain ⟨hx, hZ, hby, hml, hret, hown, hnm, hlk, eT, hn0, hw, locs, N, Y⟩ := X
  obtain ⟨hd, -⟩ := hd
  obtain ⟨fs, hr, hrun, hended, hW, hsame⟩ := Y.leave (v := none) (fun _ => rfl) hlk
  exact ⟨_, _, Y.returnOut hx hret (hb hby hd) hr, hrun, hended, _, _, rfl, ⟨N, by show n0 ≤ T.heap.size; rw [eT]; exact hn0, by show Q _ T.heap; rw [eT]; exact hq⟩, ⟨_, rfl⟩, hW, hsame.mono hk hj⟩
theorem w_arraylength (X : Pos Z a0 n0 p l e R s m args below meth c code ml ret y T h k j) {a : Addr} {ty : FieldType} {n : Nat} {g : Nat → Value} (hd : Dec code pc .arraylength 1 nx) (B : Ba Z n0 h a ty n g) (q : Wp n0 p e R s below Q T (mkF m nx Ls (.int (Int32.ofNat n) :: S))) : Wp n0 p e R s below Q T (mkF m pc Ls (.ref a :: S)) := by
  obtain ⟨hx, hZ, hby, hml, hret, hown, hnm, hlk, eT, hn0, hw, locs, N, Y⟩ := X
  obtain ⟨hd, rfl⟩ := hd
  obtain ⟨-, hn, cl, A, hs, -⟩ := B
  subst hs
  exact Wp.go (fun _ q => Y.arraylength hx (g := mkF m pc Ls (.ref a :: S)) (cell := cl) (by rw [eT]; exact A.1) (State.isArrayOf_alike hZ.alike A.2.1) rfl rfl (hb hby hd) _ q) q
theorem w_baload (X : Pos Z a0 n0 p l e R s m args below meth c code ml ret y T h k j) {a : Addr} {n : Nat} {b : Nat → Int32} {x : Int32} (hd : Dec code pc .baload 1 nx) (B : Ba Z n0 h a .byte n (bI b)) (i : Nat) (hi : x = Int32.ofNat i) (hlt : i < n) (q : Wp n0 p e R s below Q T (mkF m nx Ls (.int (b i) :: S))) : Wp n0 p e R s below Q T (mkF m pc Ls (.int x :: .ref a :: S)) := by
  obtain ⟨hx, hZ, hby, hml, hret, hown, hnm, hlk, eT, hn0, hw, locs, N, Y⟩ := X
  obtain ⟨hd, rfl⟩ := hd
  obtain ⟨-, hn, cl, A, hs, hv⟩ := B
  subst hi
  exact Wp.go (fun _ q => Y.baloadBytes hx (g := mkF m pc Ls (.int (Int32.ofNat i) :: .ref a :: S)) (j := Int32.ofNat i) (v := .int (b i)) (by rw [eT]; exact A.1) (State.isArrayOf_alike hZ.alike A.2.1) A.2.2 (inb hn hs hlt) (by rw [ofNat_clamp (by omega)]; exact hv i hlt) rfl rfl (hb hby hd) _ q) q
theorem w_iaload (X : Pos Z a0 n0 p l e R s m args below meth c code ml ret y T h k j) {a : Addr} {n : Nat} {b : Nat → Int32} {x : Int32} (hd : Dec code pc .iaload 1 nx) (B : Ba Z n0 h a .int n (bI b)) (i : Nat) (hi : x = Int32.ofNat i) (hlt : i < n) (q : Wp n0 p e R s below Q T (mkF m nx Ls (.int (b i) :: S))) : Wp n0 p e R s below Q T (mkF m pc Ls (.int x :: .ref a :: S)) := by
  obtain ⟨hx, hZ, hby, hml, hret, hown, hnm, hlk, eT, hn0, hw, locs, N, Y⟩ := X
  obtain ⟨hd, rfl⟩ := hd
  obtain ⟨-, hn, cl, A, hs, hv⟩ := B
  subst hi
  exact Wp.go (fun _ q => Y.iaload hx (g := mkF m pc Ls (.int (Int32.ofNat i) :: .ref a :: S)) (j := Int32.ofNat i) (v := .int (b i)) (by rw [eT]; exact A.1) (State.isArrayOf_alike hZ.alike A.2.1) A.2.2 (inb hn hs hlt) (by rw [ofNat_clamp (by omega)]; exact hv i hlt) rfl rfl (hb hby hd) _ q) q
theorem w_laload (X : Pos Z a0 n0 p l e R s m args below meth c code ml ret y T h k j) {a : Addr} {n : Nat} {b : Nat → Int64} {x : Int32} (hd : Dec code pc .laload 1 nx) (B : Ba Z n0 h a .long n (bJ b)) (i : Nat) (hi : x = Int32.ofNat i) (hlt : i < n) (q : Wp n0 p e R s below Q T (mkF m nx Ls (.long (b i) :: S))) : Wp n0 p e R s below Q T (mkF m pc Ls (.int x :: .ref a :: S)) := by
  obtain ⟨hx, hZ, hby, hml, hret, hown, hnm, hlk, eT, hn0, hw, locs, N, Y⟩ := X
  obtain ⟨hd, rfl⟩ := hd
  obtain ⟨-, hn, cl, A, hs, hv⟩ := B
  subst hi
  exact Wp.go (fun _ q => Y.laload hx (g := mkF m pc Ls (.int (Int32.ofNat i) :: .ref a :: S)) (j := Int32.ofNat i) (v := .long (b i)) (by rw [eT]; exact A.1) (State.isArrayOf_alike hZ.alike A.2.1) A.2.2 (inb hn hs hlt) (by rw [ofNat_clamp (by omega)]; exact hv i hlt) rfl rfl (hb hby hd) _ q) q
theorem w_bastore (X : Pos Z a0 n0 p l e R s m args below meth c code ml ret y T h k j) {a : Addr} {n : Nat} {b : Nat → Int32} {x : Int32} {v : Int32} (hd : Dec code pc .bastore 1 nx) (B : Ba Z n0 h a .byte n (bI b)) (i : Nat) (hi : x = Int32.ofNat i) (hlt : i < n)
    (q : ∀ T' h', Pos Z a0 n0 p l e R s m args below meth c code ml ret y T' h' k j → Keep h h' [a] → Ba Z n0 h' a .byte n (bI (upd b i (jbyte v))) → Wp n0 p e R s below Q T' (mkF m nx Ls S)) : Wp n0 p e R s below Q T (mkF m pc Ls (.int v :: .int x :: .ref a :: S)) := by
  obtain ⟨hx, hZ, hby, hml, hret, hown, hnm, hlk, eT, hn0, hw, locs, N, Y⟩ := X
  obtain ⟨hd, rfl⟩ := hd
  obtain ⟨hna, hn, cl, A, hs, hv⟩ := B
  subst hi
  obtain ⟨T', h', Y', e', W', st⟩ := stB Y hx hZ eT A (j := Int32.ofNat i) (inb hn hs hlt) (g := mkF m pc Ls (.int v :: .int (Int32.ofNat i) :: .ref a :: S)) rfl rfl (hb hby hd)
  refine Wp.go st (q T' h' ⟨hx, hZ, hby, hml, hret, hown, hnm, hlk, e', by rw [W'.size]; exact hn0, hw, _, Fr.snoc Y' N hna, Y'⟩ (Keep.of_wr W') ⟨hna, hn, _, A.same W', (sz_set _ _ _).trans hs, fun q hq => ?_⟩)
  rw [ofNat_clamp (by omega)]
  by_cases hqi : q = i
  · subst hqi
    simp [Cell.setSlot, hs, hq, upd, bI, nar]
  · simp [Cell.setSlot, upd, hqi, bI, Array.getElem?_setIfInBounds_ne (Ne.symm hqi), hv q hq]
theorem w_iastore (X : Pos Z a0 n0 p l e R s m args below meth c code ml ret y T h k j) {a : Addr} {n : Nat} {b : Nat → Int32} {x : Int32} {v : Int32} (hd : Dec code pc .iastore 1 nx) (B : Ba Z n0 h a .int n (bI b)) (i : Nat) (hi : x = Int32.ofNat i) (hlt : i < n)
    (q : ∀ T' h', Pos Z a0 n0 p l e R s m args below meth c code ml ret y T' h' k j → Keep h h' [a] → Ba Z n0 h' a .int n (bI (upd b i (v))) → Wp n0 p e R s below Q T' (mkF m nx Ls S)) : Wp n0 p e R s below Q T (mkF m pc Ls (.int v :: .int x :: .ref a :: S)) := by
  obtain ⟨hx, hZ, hby, hml, hret, hown, hnm, hlk, eT, hn0, hw, locs, N, Y⟩ := X
  obtain ⟨hd, rfl⟩ := hd
  obtain ⟨hna, hn, cl, A, hs, hv⟩ := B
  subst hi
  obtain ⟨T', h', Y', e', W', st⟩ := stI Y hx hZ eT A (j := Int32.ofNat i) (inb hn hs hlt) (g := mkF m pc Ls (.int v :: .int (Int32.ofNat i) :: .ref a :: S)) rfl rfl (hb hby hd)
  refine Wp.go st (q T' h' ⟨hx, hZ, hby, hml, hret, hown, hnm, hlk, e', by rw [W'.size]; exact hn0, hw, _, Fr.snoc Y' N hna, Y'⟩ (Keep.of_wr W') ⟨hna, hn, _, A.same W', (sz_set _ _ _).trans hs, fun q hq => ?_⟩)
  rw [ofNat_clamp (by omega)]
  by_cases hqi : q = i
  · subst hqi
    simp [Cell.setSlot, hs, hq, upd, bI]
  · simp [Cell.setSlot, upd, hqi, bI, Array.getElem?_setIfInBounds_ne (Ne.symm hqi), hv q hq]
theorem w_lastore (X : Pos Z a0 n0 p l e R s m args below meth c code ml ret y T h k j) {a : Addr} {n : Nat} {b : Nat → Int64} {x : Int32} {v : Int64} (hd : Dec code pc .lastore 1 nx) (B : Ba Z n0 h a .long n (bJ b)) (i : Nat) (hi : x = Int32.ofNat i) (hlt : i < n)
    (q : ∀ T' h', Pos Z a0 n0 p l e R s m args below meth c code ml ret y T' h' k j → Keep h h' [a] → Ba Z n0 h' a .long n (bJ (upd b i (v))) → Wp n0 p e R s below Q T' (mkF m nx Ls S)) : Wp n0 p e R s below Q T (mkF m pc Ls (.long v :: .int x :: .ref a :: S)) := by
  obtain ⟨hx, hZ, hby, hml, hret, hown, hnm, hlk, eT, hn0, hw, locs, N, Y⟩ := X
  obtain ⟨hd, rfl⟩ := hd
  obtain ⟨hna, hn, cl, A, hs, hv⟩ := B
  subst hi
  obtain ⟨T', h', Y', e', W', st⟩ := stJ Y hx hZ eT A (j := Int32.ofNat i) (inb hn hs hlt) (g := mkF m pc Ls (.long v :: .int (Int32.ofNat i) :: .ref a :: S)) rfl rfl (hb hby hd)
  refine Wp.go st (q T' h' ⟨hx, hZ, hby, hml, hret, hown, hnm, hlk, e', by rw [W'.size]; exact hn0, hw, _, Fr.snoc Y' N hna, Y'⟩ (Keep.of_wr W') ⟨hna, hn, _, A.same W', (sz_set _ _ _).trans hs, fun q hq => ?_⟩)
  rw [ofNat_clamp (by omega)]
  by_cases hqi : q = i
  · subst hqi
    simp [Cell.setSlot, hs, hq, upd, bJ]
  · simp [Cell.setSlot, upd, hqi, bJ, Array.getElem?_setIfInBounds_ne (Ne.symm hqi), hv q hq]
theorem w_newB (X : Pos Z a0 n0 p l e R s m args below meth c code ml ret y T h k j) {x : Int32} (hd : Dec code pc (.newarray .byte) 2 nx) (wa : (Jvm.Cond.arrayClass .byte).before a0 Z = true) (n cap : Nat) (hx' : x = Int32.ofNat n) (hcap : n ≤ cap) (hb' : cap * 8 ≤ 536870912) (hk : k + 1 ≤ R.cells) (hj : j + cap ≤ R.slots)
    (q : ∀ T' h' a, Pos Z a0 n0 p l e R s m args below meth c code ml ret y T' h' (k + 1) (j + cap) → a = h.size → Ext h h' → Ba Z n0 h' a .byte n (bI fun _ => 0) → Wp n0 p e R s below Q T' (mkF m nx Ls (.ref a :: S))) : Wp n0 p e R s below Q T (mkF m pc Ls (.int x :: S)) := by
  obtain ⟨hx, hZ, hby, hml, hret, hown, hnm, hlk, eT, hn0, hw, locs, N, Y⟩ := X
  obtain ⟨hd, rfl⟩ := hd
  subst hx'
  obtain ⟨T', h', cA, Y', e', E', A', st⟩ := newP Y hx hZ (aty := .byte) wa eT (g := mkF m pc Ls (.int (Int32.ofNat n) :: S)) rfl (hb hby hd) rfl (ofNat_nn (by omega)) (cap := cap) (by rw [ofNat_clamp (by omega)]; exact hcap) hb' hk hj
  refine Wp.go st (q T' h' _ ⟨hx, hZ, hby, hml, hret, hown, hnm, hlk, e', Nat.le_trans hn0 E'.1, hw, _, N, Y'⟩ rfl E' ⟨hn0, by omega, _, A', by rw [sz_new, ofNat_clamp (by omega)], fun i hi => ?_⟩)
  have := get_new (cA := cA) (ty := .byte) (n := Int32.ofNat n) (k := Int32.ofNat i) (by rw [ofNat_clamp (by omega), ofNat_clamp (by omega)]; exact fun q => q.elim (ofNat_nn (by omega)) (fun q => by omega))
  rw [ofNat_clamp (by omega)] at this
  exact this
theorem w_newI (X : Pos Z a0 n0 p l e R s m args below meth c code ml ret y T h k j) {x : Int32} (hd : Dec code pc (.newarray .int) 2 nx) (wa : (Jvm.Cond.arrayClass .int).before a0 Z = true) (n cap : Nat) (hx' : x = Int32.ofNat n) (hcap : n ≤ cap) (hb' : cap * 8 ≤ 536870912) (hk : k + 1 ≤ R.cells) (hj : j + cap ≤ R.slots)
    (q : ∀ T' h' a, Pos Z a0 n0 p l e R s m args below meth c code ml ret y T' h' (k + 1) (j + cap) → a = h.size → Ext h h' → Ba Z n0 h' a .int n (bI fun _ => 0) → Wp n0 p e R s below Q T' (mkF m nx Ls (.ref a :: S))) : Wp n0 p e R s below Q T (mkF m pc Ls (.int x :: S)) := by
  obtain ⟨hx, hZ, hby, hml, hret, hown, hnm, hlk, eT, hn0, hw, locs, N, Y⟩ := X
  obtain ⟨hd, rfl⟩ := hd
  subst hx'
  obtain ⟨T', h', cA, Y', e', E', A', st⟩ := newP Y hx hZ (aty := .int) wa eT (g := mkF m pc Ls (.int (Int32.ofNat n) :: S)) rfl (hb hby hd) rfl (ofNat_nn (by omega)) (cap := cap) (by rw [ofNat_clamp (by omega)]; exact hcap) hb' hk hj
  refine Wp.go st (q T' h' _ ⟨hx, hZ, hby, hml, hret, hown, hnm, hlk, e', Nat.le_trans hn0 E'.1, hw, _, N, Y'⟩ rfl E' ⟨hn0, by omega, _, A', by rw [sz_new, ofNat_clamp (by omega)], fun i hi => ?_⟩)
  have := get_new (cA := cA) (ty := .int) (n := Int32.ofNat n) (k := Int32.ofNat i) (by rw [ofNat_clamp (by omega), ofNat_clamp (by omega)]; exact fun q => q.elim (ofNat_nn (by omega)) (fun q => by omega))
  rw [ofNat_clamp (by omega)] at this
  exact this
theorem w_newJ (X : Pos Z a0 n0 p l e R s m args below meth c code ml ret y T h k j) {x : Int32} (hd : Dec code pc (.newarray .long) 2 nx) (wa : (Jvm.Cond.arrayClass .long).before a0 Z = true) (n cap : Nat) (hx' : x = Int32.ofNat n) (hcap : n ≤ cap) (hb' : cap * 8 ≤ 536870912) (hk : k + 1 ≤ R.cells) (hj : j + cap ≤ R.slots)
    (q : ∀ T' h' a, Pos Z a0 n0 p l e R s m args below meth c code ml ret y T' h' (k + 1) (j + cap) → a = h.size → Ext h h' → Ba Z n0 h' a .long n (bJ fun _ => 0) → Wp n0 p e R s below Q T' (mkF m nx Ls (.ref a :: S))) : Wp n0 p e R s below Q T (mkF m pc Ls (.int x :: S)) := by
  obtain ⟨hx, hZ, hby, hml, hret, hown, hnm, hlk, eT, hn0, hw, locs, N, Y⟩ := X
  obtain ⟨hd, rfl⟩ := hd
  subst hx'
  obtain ⟨T', h', cA, Y', e', E', A', st⟩ := newP Y hx hZ (aty := .long) wa eT (g := mkF m pc Ls (.int (Int32.ofNat n) :: S)) rfl (hb hby hd) rfl (ofNat_nn (by omega)) (cap := cap) (by rw [ofNat_clamp (by omega)]; exact hcap) hb' hk hj
  refine Wp.go st (q T' h' _ ⟨hx, hZ, hby, hml, hret, hown, hnm, hlk, e', Nat.le_trans hn0 E'.1, hw, _, N, Y'⟩ rfl E' ⟨hn0, by omega, _, A', by rw [sz_new, ofNat_clamp (by omega)], fun i hi => ?_⟩)
  have := get_new (cA := cA) (ty := .long) (n := Int32.ofNat n) (k := Int32.ofNat i) (by rw [ofNat_clamp (by omega), ofNat_clamp (by omega)]; exact fun q => q.elim (ofNat_nn (by omega)) (fun q => by omega))
  rw [ofNat_clamp (by omega)] at this
  exact this
theorem w_static (X : Pos Z a0 n0 p l e R s m args below meth c code ml ret y T h k j) {z : MethodName} {cz : ByteArray} {mz : Nat} {rz : Option FieldType} {rm : Room} {Qz : Option Value → Heap → Prop} {ps : List FieldType} {rr : Option FieldType} {i : Nat} {argsL : List Value} (hd : Dec code pc (.invokestatic i) 3 nx) (C : Ctr l Z n0 z cz mz rz rm [] argsL.toArray h Qz) (wl : (Jvm.Cond.methodLink y.cls i z).before a0 Z = true) (ws : (Jvm.Cond.static z).before a0 Z = true) (wi : (Jvm.Cond.initialized z.cls).before a0 Z = true) (wc : (Jvm.Cond.code z cz mz rz).before a0 Z = true)
    (hz : z.cls ≠ "java/lang/invoke/MethodHandle" ∧ z.cls ≠ "java/lang/invoke/VarHandle") (hpd : parseMethodDescriptor z.desc = some ⟨ps, rr⟩) (hlen : argsL.length = ps.length) {S0 : List Value} (hS : S0 = argsL.reverse ++ S) (hsz : Ls.size = ml)
    (hf : rm.frames + 1 ≤ R.frames) (hlo : (S.map fun v => v.category).sum + (mz + 11) + rm.locals ≤ R.locals) (hk : k + rm.cells ≤ R.cells) (hj : j + rm.slots ≤ R.slots)
    (q : ∀ v T' h', Pos Z a0 n0 p l e R s m args below meth c code ml ret y T' h' (k + rm.cells) (j + rm.slots) → Qz v h' → Wp n0 p e R s below Q T' (mkF m nx Ls (v.toList ++ S))) : Wp n0 p e R s below Q T (mkF m pc Ls S0) := by
  obtain ⟨hx, hZ, hby, hml, hret, hown, hnm, hlk, eT, hn0, hw, locs, N, Y⟩ := X
  obtain ⟨hd, rfl⟩ := hd
  obtain ⟨v, _, ⟨T', L', k', j'⟩, -, Y', ⟨Lc, hQ, l1, l2, l3⟩, st⟩ := Jvm.LawKit.callS Y hx (y := z) hown (mvT hZ wl) (mvT hZ ws) (mvT hZ wi) (mvT hZ wc) hz (backOf (W := (S.map fun v => v.category).sum) (Q := fun v h L => Fr n0 L ∧ n0 ≤ h.size ∧ Qz v h) C hZ wc wi hf hlo) (g := mkF m pc Ls S0) rfl (by rw [hml]; exact hsz) (argsL := argsL) (rest := S) (lenOf hpd hlen) hS (by show 2 * 0 + _ ≤ _; omega) (hb hby hd) (fun _ _ => ⟨rfl, eT, hk, hj⟩)
  dsimp only [Pt.U, Pt.locs, Pt.cells, Pt.slots] at Y' l1 l2 l3 st hQ
  subst l1 l2 l3
  obtain ⟨N', hn', hQ⟩ := hQ
  exact Wp.go st (q v T' _ ⟨hx, hZ, hby, hml, hret, hown, hnm, hlk, rfl, hn', hw, _, Fr.app N N', Y'⟩ hQ)
theorem w_virtual (X : Pos Z a0 n0 p l e R s m args below meth c code ml ret y T h k j) {z : MethodName} {cz : ByteArray} {mz : Nat} {rz : Option FieldType} {rm : Room} {Qz : Option Value → Heap → Prop} {ps : List FieldType} {rr : Option FieldType} {i : Nat} {argsL : List Value} {a : Addr} (hd : Dec code pc (.invokevirtual i) 3 nx) (C : Ctr l Z n0 z cz mz rz rm [] (.ref a :: argsL).toArray h Qz) (E : Exa Z h a z.cls) (wl : (Jvm.Cond.methodLink y.cls i z).before a0 Z = true) (wdc : (Jvm.Cond.declares z).before a0 Z = true) (wse : (Jvm.Cond.selects z.cls z z).before a0 Z = true) (wim : (Jvm.Cond.instanceMethod z).before a0 Z = true) (wi : (Jvm.Cond.initialized z.cls).before a0 Z = true) (wc : (Jvm.Cond.code z cz mz rz).before a0 Z = true)
    (hz : z.cls ≠ "java/lang/invoke/MethodHandle" ∧ z.cls ≠ "java/lang/invoke/VarHandle") (hpd : parseMethodDescriptor z.desc = some ⟨ps, rr⟩) (hlen : argsL.length = ps.length) {S0 : List Value} (hS : S0 = argsL.reverse ++ .ref a :: S) (hsz : Ls.size = ml)
    (hf : rm.frames + 1 ≤ R.frames) (hlo : (S.map fun v => v.category).sum + (mz + 11) + rm.locals ≤ R.locals) (hk : k + rm.cells ≤ R.cells) (hj : j + rm.slots ≤ R.slots)
    (q : ∀ v T' h', Pos Z a0 n0 p l e R s m args below meth c code ml ret y T' h' (k + rm.cells) (j + rm.slots) → Qz v h' → Wp n0 p e R s below Q T' (mkF m nx Ls (v.toList ++ S))) : Wp n0 p e R s below Q T (mkF m pc Ls S0) := by
  obtain ⟨hx, hZ, hby, hml, hret, hown, hnm, hlk, eT, hn0, hw, locs, N, Y⟩ := X
  obtain ⟨hd, rfl⟩ := hd
  obtain ⟨cq, kq, qa, qb, qc⟩ := isOf hZ eT E
  have Ctr' := backOf (l := l) (R := R) (p := p) (e := e) (below := below) (s := s) (args := args) (len := 3) (W := (S.map fun v => v.category).sum) (Q := fun v h L => Fr n0 L ∧ n0 ≤ h.size ∧ Qz v h) C hZ wc wi hf hlo
  obtain ⟨v, _, ⟨T', L', k', j'⟩, -, Y', ⟨Lc, hQ, l1, l2, l3⟩, st⟩ := Y.virtualBack hx (y := z) (z := z) hown (mvT hZ wl) (mvT hZ wdc) (notFace_of_selects (args := #[]) (mvT hZ wse)) (mvT hZ wse) (mvT hZ wim) hz Ctr' qa qc (g := mkF m pc Ls S0) rfl (by rw [hml]; exact hsz) (Steps.refl _) (argsL := argsL) (rest := S) (lenOf hpd hlen) hS (by show 2 * 0 + _ ≤ _; omega) (hb hby hd) (fun _ _ => ⟨rfl, eT, hk, hj⟩)
  dsimp only [Pt.U, Pt.locs, Pt.cells, Pt.slots] at Y' l1 l2 l3 st hQ
  subst l1 l2 l3
  obtain ⟨N', hn', hQ⟩ := hQ
  exact Wp.go (fun _ t => st.trans t) (q v T' _ ⟨hx, hZ, hby, hml, hret, hown, hnm, hlk, rfl, hn', hw, _, Fr.app N N', Y'⟩ hQ)
theorem w_special (X : Pos Z a0 n0 p l e R s m args below meth c code ml ret y T h k j) {z : MethodName} {cz : ByteArray} {mz : Nat} {rm : Room} {Qz : Option Value → Heap → Prop} {ps : List FieldType} {rr : Option FieldType} {i : Nat} {argsL : List Value} {a : Addr} (hd : Dec code pc (.invokespecial i) 3 nx) (C : Ctr l Z n0 z cz mz none rm [] (.ref a :: argsL).toArray h Qz) (hz1 : z.name = "<init>") (wl : (Jvm.Cond.methodLink y.cls i z).before a0 Z = true) (wim : (Jvm.Cond.instanceMethod z).before a0 Z = true) (wi : (Jvm.Cond.initialized z.cls).before a0 Z = true) (wc : (Jvm.Cond.code z cz mz none).before a0 Z = true)
    (hz : z.cls ≠ "java/lang/invoke/MethodHandle" ∧ z.cls ≠ "java/lang/invoke/VarHandle") (hpd : parseMethodDescriptor z.desc = some ⟨ps, rr⟩) (hlen : argsL.length = ps.length) {S0 : List Value} (hS : S0 = argsL.reverse ++ .ref a :: S) (hsz : Ls.size = ml)
    (hf : rm.frames + 1 ≤ R.frames) (hlo : (S.map fun v => v.category).sum + (mz + 11) + rm.locals ≤ R.locals) (hk : k + rm.cells ≤ R.cells) (hj : j + rm.slots ≤ R.slots)
    (q : ∀ v T' h', Pos Z a0 n0 p l e R s m args below meth c code ml ret y T' h' (k + rm.cells) (j + rm.slots) → Qz v h' → Wp n0 p e R s below Q T' (mkF m nx Ls (v.toList ++ S))) : Wp n0 p e R s below Q T (mkF m pc Ls S0) := by
  obtain ⟨hx, hZ, hby, hml, hret, hown, hnm, hlk, eT, hn0, hw, locs, N, Y⟩ := X
  obtain ⟨hd, rfl⟩ := hd
  have Ctr' := backOf (l := l) (R := R) (p := p) (e := e) (below := below) (s := s) (args := args) (len := 3) (W := (S.map fun v => v.category).sum) (Q := fun v h L => Fr n0 L ∧ n0 ≤ h.size ∧ Qz v h) C hZ wc wi hf hlo
  obtain ⟨v, _, ⟨T', L', k', j'⟩, -, Y', ⟨Lc, hQ, l1, l2, l3⟩, st⟩ := Y.specialBack hx (y := z) hz1 hown (mvT hZ wl) (mvT hZ wim) (mvT hZ wc) hz Ctr' (g := mkF m pc Ls S0) rfl (by rw [hml]; exact hsz) (Steps.refl _) (a := a) (argsL := argsL) (rest := S) (lenOf hpd hlen) hS (by show 2 * 0 + _ ≤ _; omega) (hb hby hd) (fun _ _ => ⟨rfl, eT, hk, hj⟩)
  dsimp only [Pt.U, Pt.locs, Pt.cells, Pt.slots] at Y' l1 l2 l3 st hQ
  subst l1 l2 l3
  obtain ⟨N', hn', hQ⟩ := hQ
  exact Wp.go (fun _ t => st.trans t) (q v T' _ ⟨hx, hZ, hby, hml, hret, hown, hnm, hlk, rfl, hn', hw, _, Fr.app N N', Y'⟩ hQ)
theorem w_new (X : Pos Z a0 n0 p l e R s m args below meth c code ml ret y T h k j) {i n : Nat} {C : String} (hd : Dec code pc (.new i) 3 nx) (w : (Jvm.Cond.classLink y.cls i C).before a0 Z = true) (wi : (Jvm.Cond.instantiable C n).before a0 Z = true) (wz : (Jvm.Cond.initialized C).before a0 Z = true) (hk : k + 1 ≤ R.cells) (hj : j + n ≤ R.slots)
    (q : ∀ T' h' a, Pos Z a0 n0 p l e R s m args below meth c code ml ret y T' h' (k + 1) (j + n) → a = h.size → n0 ≤ a → Ext h h' → Exa Z h' a C → (∀ {O nm d : String} {ty : FieldType}, Laid Z a0 C O nm d → parseFieldDescriptor d = some ty → Fld Z h' a O nm d (defaultValue ty)) → Wp n0 p e R s below Q T' (mkF m nx Ls (.ref a :: S))) : Wp n0 p e R s below Q T (mkF m pc Ls S) := by
  obtain ⟨hx, hZ, hby, hml, hret, hown, hnm, hlk, eT, hn0, hw, locs, N, Y⟩ := X
  obtain ⟨hd, rfl⟩ := hd
  obtain ⟨T', h', Y', e', E', A', D', -, st⟩ := newO Y hx hZ hown w wi wz eT (g := mkF m pc Ls S) rfl (hb hby hd) hk hj
  exact Wp.go st (q T' h' _ ⟨hx, hZ, hby, hml, hret, hown, hnm, hlk, e', Nat.le_trans hn0 E'.1, hw, _, N, Y'⟩ rfl hn0 E' A' D')
theorem w_getF (X : Pos Z a0 n0 p l e R s m args below meth c code ml ret y T h k j) {i : Nat} {O nm d : String} {a : Addr} {v : Value} (hd : Dec code pc (.getfield i) 3 nx) (w : (Jvm.Cond.fieldLink y.cls i O nm d).before a0 Z = true) (F : Fld Z h a O nm d v)
    (q : ∀ T', Pos Z a0 n0 p l e R s m args below meth c code ml ret y T' h k j → Wp n0 p e R s below Q T' (mkF m nx Ls (v :: S))) : Wp n0 p e R s below Q T (mkF m pc Ls (.ref a :: S)) := by
  obtain ⟨hx, hZ, hby, hml, hret, hown, hnm, hlk, eT, hn0, hw, locs, N, Y⟩ := X
  obtain ⟨hd, rfl⟩ := hd
  obtain ⟨T', Y', e', st⟩ := getF Y hx hZ hown (host := "") (Or.inl w) Via.refl eT F (g := mkF m pc Ls (.ref a :: S)) rfl rfl (hb hby hd)
  exact Wp.go st (q T' ⟨hx, hZ, hby, hml, hret, hown, hnm, hlk, e', hn0, hw, _, N, Y'⟩)
theorem w_putF (X : Pos Z a0 n0 p l e R s m args below meth c code ml ret y T h k j) {i kk : Nat} {C O nm d : String} {ty : FieldType} {a : Addr} {v old : Value} (hd : Dec code pc (.putfield i) 3 nx) (w : (Jvm.Cond.fieldLink y.cls i O nm d).before a0 Z = true) (F : Fld Z h a O nm d old) (E : Exa Z h a C) (hna : n0 ≤ a) (L : (Jvm.Cond.lays C O nm d).before a0 Z = true ∨ ((Jvm.Cond.laysFinal C O nm d).before a0 Z = true ∧ y.cls = O ∧ y.name = "<init>")) (wi : (Jvm.Cond.instantiable C kk).before a0 Z = true) (hty : parseFieldDescriptor d = some ty) (hn : narrow ty v = v) (hf : fits ty v = true)
    (q : ∀ T' h', Pos Z a0 n0 p l e R s m args below meth c code ml ret y T' h' k j → Wr h h' a (Jvm.RoadKit.slotOf Z O nm d) v → Wp n0 p e R s below Q T' (mkF m nx Ls S)) : Wp n0 p e R s below Q T (mkF m pc Ls (v :: .ref a :: S)) := by
  obtain ⟨hx, hZ, hby, hml, hret, hown, hnm, hlk, eT, hn0, hw, locs, N, Y⟩ := X
  obtain ⟨hd, rfl⟩ := hd
  obtain ⟨T', h', Y', e', W', st⟩ := putF Y hx hZ hown (host := "") (Or.inl w) Via.refl eT F E (L.imp id fun q => ⟨q.1, q.2.1, hnm.trans q.2.2⟩) wi hty hn hf (g := mkF m pc Ls (v :: .ref a :: S)) rfl rfl (hb hby hd)
  exact Wp.go st (q T' h' ⟨hx, hZ, hby, hml, hret, hown, hnm, hlk, e', by rw [W'.size]; exact hn0, hw, _, Fr.snoc Y' N hna, Y'⟩ W')
end OwnKit
theorem D0_0 : Dec code 0 (.lload_n 0) 1 1 := ⟨at_0, rfl⟩
theorem D0_1 : Dec code 1 (.ldc2_w 9) 3 4 := ⟨at_1, rfl⟩
theorem D0_4 : Dec code 4 .land 1 5 := ⟨at_4, rfl⟩
theorem D0_5 : Dec code 5 (.iload_n 2) 1 6 := ⟨at_5, rfl⟩
theorem D0_6 : Dec code 6 (.bipush 63) 2 8 := ⟨at_6, rfl⟩
theorem D0_8 : Dec code 8 .iand 1 9 := ⟨at_8, rfl⟩
theorem D0_9 : Dec code 9 .lushr 1 10 := ⟨at_9, rfl⟩
theorem D0_10 : Dec code 10 (.lstore 5) 2 12 := ⟨at_10, rfl⟩
theorem D0_12 : Dec code 12 (.iload_n 3) 1 13 := ⟨at_12, rfl⟩
theorem D0_13 : Dec code 13 (.iconst 3) 1 14 := ⟨at_13, rfl⟩
theorem D0_14 : Dec code 14 .iand 1 15 := ⟨at_14, rfl⟩
theorem D0_15 : Dec code 15 (.istore 7) 2 17 := ⟨at_15, rfl⟩
theorem D0_17 : Dec code 17 (.iload 4) 2 19 := ⟨at_17, rfl⟩
theorem D0_19 : Dec code 19 .i2b 1 20 := ⟨at_19, rfl⟩
theorem D0_20 : Dec code 20 (.istore 8) 2 22 := ⟨at_20, rfl⟩
theorem D0_22 : Dec code 22 (.bipush 13) 2 24 := ⟨at_22, rfl⟩
theorem D0_24 : Dec code 24 (.newarray .byte) 2 26 := ⟨at_24, rfl⟩
theorem D0_26 : Dec code 26 .dup 1 27 := ⟨at_26, rfl⟩
theorem D0_27 : Dec code 27 (.iconst 0) 1 28 := ⟨at_27, rfl⟩
theorem D0_28 : Dec code 28 (.iload 8) 2 30 := ⟨at_28, rfl⟩
theorem D0_30 : Dec code 30 .bastore 1 31 := ⟨at_30, rfl⟩
theorem D0_31 : Dec code 31 .dup 1 32 := ⟨at_31, rfl⟩
theorem D0_32 : Dec code 32 (.iconst 1) 1 33 := ⟨at_32, rfl⟩
theorem D0_33 : Dec code 33 (.iload 8) 2 35 := ⟨at_33, rfl⟩
theorem D0_35 : Dec code 35 .bastore 1 36 := ⟨at_35, rfl⟩
theorem D0_36 : Dec code 36 .dup 1 37 := ⟨at_36, rfl⟩
theorem D0_37 : Dec code 37 (.iconst 2) 1 38 := ⟨at_37, rfl⟩
theorem D0_38 : Dec code 38 (.iload 8) 2 40 := ⟨at_38, rfl⟩
theorem D0_40 : Dec code 40 .bastore 1 41 := ⟨at_40, rfl⟩
theorem D0_41 : Dec code 41 .dup 1 42 := ⟨at_41, rfl⟩
theorem D0_42 : Dec code 42 (.iconst 3) 1 43 := ⟨at_42, rfl⟩
theorem D0_43 : Dec code 43 (.iload 8) 2 45 := ⟨at_43, rfl⟩
theorem D0_45 : Dec code 45 .bastore 1 46 := ⟨at_45, rfl⟩
theorem D0_46 : Dec code 46 .dup 1 47 := ⟨at_46, rfl⟩
theorem D0_47 : Dec code 47 (.iconst 4) 1 48 := ⟨at_47, rfl⟩
theorem D0_48 : Dec code 48 (.iload 8) 2 50 := ⟨at_48, rfl⟩
theorem D0_50 : Dec code 50 .bastore 1 51 := ⟨at_50, rfl⟩
theorem D0_51 : Dec code 51 .dup 1 52 := ⟨at_51, rfl⟩
theorem D0_52 : Dec code 52 (.iconst 5) 1 53 := ⟨at_52, rfl⟩
theorem D0_53 : Dec code 53 (.iload 8) 2 55 := ⟨at_53, rfl⟩
theorem D0_55 : Dec code 55 .bastore 1 56 := ⟨at_55, rfl⟩
theorem D0_56 : Dec code 56 .dup 1 57 := ⟨at_56, rfl⟩
theorem D0_57 : Dec code 57 (.bipush 6) 2 59 := ⟨at_57, rfl⟩
theorem D0_59 : Dec code 59 (.iload 8) 2 61 := ⟨at_59, rfl⟩
theorem D0_61 : Dec code 61 .bastore 1 62 := ⟨at_61, rfl⟩
theorem D0_62 : Dec code 62 .dup 1 63 := ⟨at_62, rfl⟩
theorem D0_63 : Dec code 63 (.bipush 7) 2 65 := ⟨at_63, rfl⟩
theorem D0_65 : Dec code 65 (.iload 8) 2 67 := ⟨at_65, rfl⟩
theorem D0_67 : Dec code 67 .bastore 1 68 := ⟨at_67, rfl⟩
theorem D0_68 : Dec code 68 .dup 1 69 := ⟨at_68, rfl⟩
theorem D0_69 : Dec code 69 (.bipush 8) 2 71 := ⟨at_69, rfl⟩
theorem D0_71 : Dec code 71 (.iload 8) 2 73 := ⟨at_71, rfl⟩
theorem D0_73 : Dec code 73 .bastore 1 74 := ⟨at_73, rfl⟩
theorem D0_74 : Dec code 74 .dup 1 75 := ⟨at_74, rfl⟩
theorem D0_75 : Dec code 75 (.bipush 9) 2 77 := ⟨at_75, rfl⟩
theorem D0_77 : Dec code 77 (.iload 8) 2 79 := ⟨at_77, rfl⟩
theorem D0_79 : Dec code 79 .bastore 1 80 := ⟨at_79, rfl⟩
theorem D0_80 : Dec code 80 .dup 1 81 := ⟨at_80, rfl⟩
theorem D0_81 : Dec code 81 (.bipush 10) 2 83 := ⟨at_81, rfl⟩
theorem D0_83 : Dec code 83 (.iload 8) 2 85 := ⟨at_83, rfl⟩
theorem D0_85 : Dec code 85 .bastore 1 86 := ⟨at_85, rfl⟩
theorem D0_86 : Dec code 86 .dup 1 87 := ⟨at_86, rfl⟩
theorem D0_87 : Dec code 87 (.bipush 11) 2 89 := ⟨at_87, rfl⟩
theorem D0_89 : Dec code 89 (.iload 8) 2 91 := ⟨at_89, rfl⟩
theorem D0_91 : Dec code 91 .bastore 1 92 := ⟨at_91, rfl⟩
theorem D0_92 : Dec code 92 .dup 1 93 := ⟨at_92, rfl⟩
theorem D0_93 : Dec code 93 (.bipush 12) 2 95 := ⟨at_93, rfl⟩
theorem D0_95 : Dec code 95 (.iload 8) 2 97 := ⟨at_95, rfl⟩
theorem D0_97 : Dec code 97 .bastore 1 98 := ⟨at_97, rfl⟩
theorem D0_98 : Dec code 98 (.astore 9) 2 100 := ⟨at_98, rfl⟩
theorem D0_100 : Dec code 100 (.lload 5) 2 102 := ⟨at_100, rfl⟩
theorem D0_102 : Dec code 102 (.aload 9) 2 104 := ⟨at_102, rfl⟩
theorem D0_104 : Dec code 104 (.iload 7) 2 106 := ⟨at_104, rfl⟩
theorem D0_106 : Dec code 106 (.invokestatic 11) 3 109 := ⟨at_106, rfl⟩
theorem D0_109 : Dec code 109 (.istore 10) 2 111 := ⟨at_109, rfl⟩
theorem D0_111 : Dec code 111 (.lload 5) 2 113 := ⟨at_111, rfl⟩
theorem D0_113 : Dec code 113 (.invokestatic 17) 3 116 := ⟨at_113, rfl⟩
theorem D0_116 : Dec code 116 (.istore 11) 2 118 := ⟨at_116, rfl⟩
theorem D0_118 : Dec code 118 (.iload 10) 2 120 := ⟨at_118, rfl⟩
theorem D0_120 : Dec code 120 (.iload 7) 2 122 := ⟨at_120, rfl⟩
theorem D0_122 : Dec code 122 (.iload 11) 2 124 := ⟨at_122, rfl⟩
theorem D0_124 : Dec code 124 .iadd 1 125 := ⟨at_124, rfl⟩
theorem D0_125 : Jmp code 125 (.if_icmp .ne 7) 7 128 132 := ⟨at_125, rfl, by decide, by decide⟩
theorem D0_128 : Dec code 128 (.iconst 1) 1 129 := ⟨at_128, rfl⟩
theorem D0_129 : Jmp code 129 (.goto 4) 4 132 133 := ⟨at_129, rfl, by decide, by decide⟩
theorem D0_133 : Dec code 133 (.istore 12) 2 135 := ⟨at_133, rfl⟩
theorem D0_135 : Dec code 135 (.iload 12) 2 137 := ⟨at_135, rfl⟩
theorem D0_137 : Jmp code 137 (.ifCond .eq 24) 24 140 161 := ⟨at_137, rfl, by decide, by decide⟩
theorem D0_140 : Dec code 140 (.aload 9) 2 142 := ⟨at_140, rfl⟩
theorem D0_142 : Dec code 142 (.iconst 0) 1 143 := ⟨at_142, rfl⟩
theorem D0_143 : Dec code 143 (.lload 5) 2 145 := ⟨at_143, rfl⟩
theorem D0_145 : Dec code 145 (.iload 7) 2 147 := ⟨at_145, rfl⟩
theorem D0_147 : Dec code 147 (.iload 11) 2 149 := ⟨at_147, rfl⟩
theorem D0_149 : Dec code 149 (.iload 8) 2 151 := ⟨at_149, rfl⟩
theorem D0_151 : Dec code 151 (.invokestatic 23) 3 154 := ⟨at_151, rfl⟩
theorem D0_154 : Jmp code 154 (.ifCond .eq 7) 7 157 161 := ⟨at_154, rfl, by decide, by decide⟩
theorem D0_157 : Dec code 157 (.iconst 1) 1 158 := ⟨at_157, rfl⟩
theorem D0_158 : Jmp code 158 (.goto 4) 4 161 162 := ⟨at_158, rfl, by decide, by decide⟩
theorem D0_162 : Dec code 162 (.istore 12) 2 164 := ⟨at_162, rfl⟩
theorem D0_164 : Dec code 164 (.iload 12) 2 166 := ⟨at_164, rfl⟩
theorem D0_166 : Jmp code 166 (.ifCond .eq 24) 24 169 190 := ⟨at_166, rfl, by decide, by decide⟩
theorem D0_169 : Dec code 169 (.aload 9) 2 171 := ⟨at_169, rfl⟩
theorem D0_171 : Dec code 171 (.iconst 1) 1 172 := ⟨at_171, rfl⟩
theorem D0_172 : Dec code 172 (.lload 5) 2 174 := ⟨at_172, rfl⟩
theorem D0_174 : Dec code 174 (.iload 7) 2 176 := ⟨at_174, rfl⟩
theorem D0_176 : Dec code 176 (.iload 11) 2 178 := ⟨at_176, rfl⟩
theorem D0_178 : Dec code 178 (.iload 8) 2 180 := ⟨at_178, rfl⟩
theorem D0_180 : Dec code 180 (.invokestatic 23) 3 183 := ⟨at_180, rfl⟩
theorem D0_183 : Jmp code 183 (.ifCond .eq 7) 7 186 190 := ⟨at_183, rfl, by decide, by decide⟩
theorem D0_186 : Dec code 186 (.iconst 1) 1 187 := ⟨at_186, rfl⟩
theorem D0_187 : Jmp code 187 (.goto 4) 4 190 191 := ⟨at_187, rfl, by decide, by decide⟩
theorem D0_191 : Dec code 191 (.istore 12) 2 193 := ⟨at_191, rfl⟩
theorem D0_193 : Dec code 193 (.iload 12) 2 195 := ⟨at_193, rfl⟩
theorem D0_195 : Jmp code 195 (.ifCond .eq 24) 24 198 219 := ⟨at_195, rfl, by decide, by decide⟩
theorem D0_198 : Dec code 198 (.aload 9) 2 200 := ⟨at_198, rfl⟩
theorem D0_200 : Dec code 200 (.iconst 2) 1 201 := ⟨at_200, rfl⟩
theorem D0_201 : Dec code 201 (.lload 5) 2 203 := ⟨at_201, rfl⟩
theorem D0_203 : Dec code 203 (.iload 7) 2 205 := ⟨at_203, rfl⟩
theorem D0_205 : Dec code 205 (.iload 11) 2 207 := ⟨at_205, rfl⟩
theorem D0_207 : Dec code 207 (.iload 8) 2 209 := ⟨at_207, rfl⟩
theorem D0_209 : Dec code 209 (.invokestatic 23) 3 212 := ⟨at_209, rfl⟩
theorem D0_212 : Jmp code 212 (.ifCond .eq 7) 7 215 219 := ⟨at_212, rfl, by decide, by decide⟩
theorem D0_215 : Dec code 215 (.iconst 1) 1 216 := ⟨at_215, rfl⟩
theorem D0_216 : Jmp code 216 (.goto 4) 4 219 220 := ⟨at_216, rfl, by decide, by decide⟩
theorem D0_220 : Dec code 220 (.istore 12) 2 222 := ⟨at_220, rfl⟩
theorem D0_222 : Dec code 222 (.iload 12) 2 224 := ⟨at_222, rfl⟩
theorem D0_224 : Jmp code 224 (.ifCond .eq 24) 24 227 248 := ⟨at_224, rfl, by decide, by decide⟩
theorem D0_227 : Dec code 227 (.aload 9) 2 229 := ⟨at_227, rfl⟩
theorem D0_229 : Dec code 229 (.iconst 3) 1 230 := ⟨at_229, rfl⟩
theorem D0_230 : Dec code 230 (.lload 5) 2 232 := ⟨at_230, rfl⟩
theorem D0_232 : Dec code 232 (.iload 7) 2 234 := ⟨at_232, rfl⟩
theorem D0_234 : Dec code 234 (.iload 11) 2 236 := ⟨at_234, rfl⟩
theorem D0_236 : Dec code 236 (.iload 8) 2 238 := ⟨at_236, rfl⟩
theorem D0_238 : Dec code 238 (.invokestatic 23) 3 241 := ⟨at_238, rfl⟩
theorem D0_241 : Jmp code 241 (.ifCond .eq 7) 7 244 248 := ⟨at_241, rfl, by decide, by decide⟩
theorem D0_244 : Dec code 244 (.iconst 1) 1 245 := ⟨at_244, rfl⟩
theorem D0_245 : Jmp code 245 (.goto 4) 4 248 249 := ⟨at_245, rfl, by decide, by decide⟩
theorem D0_249 : Dec code 249 (.istore 12) 2 251 := ⟨at_249, rfl⟩
theorem D0_251 : Dec code 251 (.iload 12) 2 253 := ⟨at_251, rfl⟩
theorem D0_253 : Jmp code 253 (.ifCond .eq 24) 24 256 277 := ⟨at_253, rfl, by decide, by decide⟩
theorem D0_256 : Dec code 256 (.aload 9) 2 258 := ⟨at_256, rfl⟩
theorem D0_258 : Dec code 258 (.iconst 4) 1 259 := ⟨at_258, rfl⟩
theorem D0_259 : Dec code 259 (.lload 5) 2 261 := ⟨at_259, rfl⟩
theorem D0_261 : Dec code 261 (.iload 7) 2 263 := ⟨at_261, rfl⟩
theorem D0_263 : Dec code 263 (.iload 11) 2 265 := ⟨at_263, rfl⟩
theorem D0_265 : Dec code 265 (.iload 8) 2 267 := ⟨at_265, rfl⟩
theorem D0_267 : Dec code 267 (.invokestatic 23) 3 270 := ⟨at_267, rfl⟩
theorem D0_270 : Jmp code 270 (.ifCond .eq 7) 7 273 277 := ⟨at_270, rfl, by decide, by decide⟩
theorem D0_273 : Dec code 273 (.iconst 1) 1 274 := ⟨at_273, rfl⟩
theorem D0_274 : Jmp code 274 (.goto 4) 4 277 278 := ⟨at_274, rfl, by decide, by decide⟩
theorem D0_278 : Dec code 278 (.istore 12) 2 280 := ⟨at_278, rfl⟩
theorem D0_280 : Dec code 280 (.iload 12) 2 282 := ⟨at_280, rfl⟩
theorem D0_282 : Jmp code 282 (.ifCond .eq 24) 24 285 306 := ⟨at_282, rfl, by decide, by decide⟩
theorem D0_285 : Dec code 285 (.aload 9) 2 287 := ⟨at_285, rfl⟩
theorem D0_287 : Dec code 287 (.iconst 5) 1 288 := ⟨at_287, rfl⟩
theorem D0_288 : Dec code 288 (.lload 5) 2 290 := ⟨at_288, rfl⟩
theorem D0_290 : Dec code 290 (.iload 7) 2 292 := ⟨at_290, rfl⟩
theorem D0_292 : Dec code 292 (.iload 11) 2 294 := ⟨at_292, rfl⟩
theorem D0_294 : Dec code 294 (.iload 8) 2 296 := ⟨at_294, rfl⟩
theorem D0_296 : Dec code 296 (.invokestatic 23) 3 299 := ⟨at_296, rfl⟩
theorem D0_299 : Jmp code 299 (.ifCond .eq 7) 7 302 306 := ⟨at_299, rfl, by decide, by decide⟩
theorem D0_302 : Dec code 302 (.iconst 1) 1 303 := ⟨at_302, rfl⟩
theorem D0_303 : Jmp code 303 (.goto 4) 4 306 307 := ⟨at_303, rfl, by decide, by decide⟩
theorem D0_307 : Dec code 307 (.istore 12) 2 309 := ⟨at_307, rfl⟩
theorem D0_309 : Dec code 309 (.iload 12) 2 311 := ⟨at_309, rfl⟩
theorem D0_311 : Jmp code 311 (.ifCond .eq 25) 25 314 336 := ⟨at_311, rfl, by decide, by decide⟩
theorem D0_314 : Dec code 314 (.aload 9) 2 316 := ⟨at_314, rfl⟩
theorem D0_316 : Dec code 316 (.bipush 6) 2 318 := ⟨at_316, rfl⟩
theorem D0_318 : Dec code 318 (.lload 5) 2 320 := ⟨at_318, rfl⟩
theorem D0_320 : Dec code 320 (.iload 7) 2 322 := ⟨at_320, rfl⟩
theorem D0_322 : Dec code 322 (.iload 11) 2 324 := ⟨at_322, rfl⟩
theorem D0_324 : Dec code 324 (.iload 8) 2 326 := ⟨at_324, rfl⟩
theorem D0_326 : Dec code 326 (.invokestatic 23) 3 329 := ⟨at_326, rfl⟩
theorem D0_329 : Jmp code 329 (.ifCond .eq 7) 7 332 336 := ⟨at_329, rfl, by decide, by decide⟩
theorem D0_332 : Dec code 332 (.iconst 1) 1 333 := ⟨at_332, rfl⟩
theorem D0_333 : Jmp code 333 (.goto 4) 4 336 337 := ⟨at_333, rfl, by decide, by decide⟩
theorem D0_337 : Dec code 337 (.istore 12) 2 339 := ⟨at_337, rfl⟩
theorem D0_339 : Dec code 339 (.iload 12) 2 341 := ⟨at_339, rfl⟩
theorem D0_341 : Jmp code 341 (.ifCond .eq 25) 25 344 366 := ⟨at_341, rfl, by decide, by decide⟩
theorem D0_344 : Dec code 344 (.aload 9) 2 346 := ⟨at_344, rfl⟩
theorem D0_346 : Dec code 346 (.bipush 7) 2 348 := ⟨at_346, rfl⟩
theorem D0_348 : Dec code 348 (.lload 5) 2 350 := ⟨at_348, rfl⟩
theorem D0_350 : Dec code 350 (.iload 7) 2 352 := ⟨at_350, rfl⟩
theorem D0_352 : Dec code 352 (.iload 11) 2 354 := ⟨at_352, rfl⟩
theorem D0_354 : Dec code 354 (.iload 8) 2 356 := ⟨at_354, rfl⟩
theorem D0_356 : Dec code 356 (.invokestatic 23) 3 359 := ⟨at_356, rfl⟩
theorem D0_359 : Jmp code 359 (.ifCond .eq 7) 7 362 366 := ⟨at_359, rfl, by decide, by decide⟩
theorem D0_362 : Dec code 362 (.iconst 1) 1 363 := ⟨at_362, rfl⟩
theorem D0_363 : Jmp code 363 (.goto 4) 4 366 367 := ⟨at_363, rfl, by decide, by decide⟩
theorem D0_367 : Dec code 367 (.istore 12) 2 369 := ⟨at_367, rfl⟩
theorem D0_369 : Dec code 369 (.iload 12) 2 371 := ⟨at_369, rfl⟩
theorem D0_371 : Jmp code 371 (.ifCond .eq 25) 25 374 396 := ⟨at_371, rfl, by decide, by decide⟩
theorem D0_374 : Dec code 374 (.aload 9) 2 376 := ⟨at_374, rfl⟩
theorem D0_376 : Dec code 376 (.bipush 8) 2 378 := ⟨at_376, rfl⟩
theorem D0_378 : Dec code 378 (.lload 5) 2 380 := ⟨at_378, rfl⟩
theorem D0_380 : Dec code 380 (.iload 7) 2 382 := ⟨at_380, rfl⟩
theorem D0_382 : Dec code 382 (.iload 11) 2 384 := ⟨at_382, rfl⟩
theorem D0_384 : Dec code 384 (.iload 8) 2 386 := ⟨at_384, rfl⟩
theorem D0_386 : Dec code 386 (.invokestatic 23) 3 389 := ⟨at_386, rfl⟩
theorem D0_389 : Jmp code 389 (.ifCond .eq 7) 7 392 396 := ⟨at_389, rfl, by decide, by decide⟩
theorem D0_392 : Dec code 392 (.iconst 1) 1 393 := ⟨at_392, rfl⟩
theorem D0_393 : Jmp code 393 (.goto 4) 4 396 397 := ⟨at_393, rfl, by decide, by decide⟩
theorem D0_397 : Dec code 397 (.istore 12) 2 399 := ⟨at_397, rfl⟩
theorem D0_399 : Dec code 399 (.iload 12) 2 401 := ⟨at_399, rfl⟩
theorem D0_401 : Jmp code 401 (.ifCond .eq 25) 25 404 426 := ⟨at_401, rfl, by decide, by decide⟩
theorem D0_404 : Dec code 404 (.aload 9) 2 406 := ⟨at_404, rfl⟩
theorem D0_406 : Dec code 406 (.bipush 9) 2 408 := ⟨at_406, rfl⟩
theorem D0_408 : Dec code 408 (.lload 5) 2 410 := ⟨at_408, rfl⟩
theorem D0_410 : Dec code 410 (.iload 7) 2 412 := ⟨at_410, rfl⟩
theorem D0_412 : Dec code 412 (.iload 11) 2 414 := ⟨at_412, rfl⟩
theorem D0_414 : Dec code 414 (.iload 8) 2 416 := ⟨at_414, rfl⟩
theorem D0_416 : Dec code 416 (.invokestatic 23) 3 419 := ⟨at_416, rfl⟩
theorem D0_419 : Jmp code 419 (.ifCond .eq 7) 7 422 426 := ⟨at_419, rfl, by decide, by decide⟩
theorem D0_422 : Dec code 422 (.iconst 1) 1 423 := ⟨at_422, rfl⟩
theorem D0_423 : Jmp code 423 (.goto 4) 4 426 427 := ⟨at_423, rfl, by decide, by decide⟩
theorem D0_427 : Dec code 427 (.istore 12) 2 429 := ⟨at_427, rfl⟩
theorem D0_429 : Dec code 429 (.iload 12) 2 431 := ⟨at_429, rfl⟩
theorem D0_431 : Jmp code 431 (.ifCond .eq 25) 25 434 456 := ⟨at_431, rfl, by decide, by decide⟩
theorem D0_434 : Dec code 434 (.aload 9) 2 436 := ⟨at_434, rfl⟩
theorem D0_436 : Dec code 436 (.bipush 10) 2 438 := ⟨at_436, rfl⟩
theorem D0_438 : Dec code 438 (.lload 5) 2 440 := ⟨at_438, rfl⟩
theorem D0_440 : Dec code 440 (.iload 7) 2 442 := ⟨at_440, rfl⟩
theorem D0_442 : Dec code 442 (.iload 11) 2 444 := ⟨at_442, rfl⟩
theorem D0_444 : Dec code 444 (.iload 8) 2 446 := ⟨at_444, rfl⟩
theorem D0_446 : Dec code 446 (.invokestatic 23) 3 449 := ⟨at_446, rfl⟩
theorem D0_449 : Jmp code 449 (.ifCond .eq 7) 7 452 456 := ⟨at_449, rfl, by decide, by decide⟩
theorem D0_452 : Dec code 452 (.iconst 1) 1 453 := ⟨at_452, rfl⟩
theorem D0_453 : Jmp code 453 (.goto 4) 4 456 457 := ⟨at_453, rfl, by decide, by decide⟩
theorem D0_457 : Dec code 457 (.istore 12) 2 459 := ⟨at_457, rfl⟩
theorem D0_459 : Dec code 459 (.iload 12) 2 461 := ⟨at_459, rfl⟩
theorem D0_461 : Jmp code 461 (.ifCond .eq 25) 25 464 486 := ⟨at_461, rfl, by decide, by decide⟩
theorem D0_464 : Dec code 464 (.aload 9) 2 466 := ⟨at_464, rfl⟩
theorem D0_466 : Dec code 466 (.bipush 11) 2 468 := ⟨at_466, rfl⟩
theorem D0_468 : Dec code 468 (.lload 5) 2 470 := ⟨at_468, rfl⟩
theorem D0_470 : Dec code 470 (.iload 7) 2 472 := ⟨at_470, rfl⟩
theorem D0_472 : Dec code 472 (.iload 11) 2 474 := ⟨at_472, rfl⟩
theorem D0_474 : Dec code 474 (.iload 8) 2 476 := ⟨at_474, rfl⟩
theorem D0_476 : Dec code 476 (.invokestatic 23) 3 479 := ⟨at_476, rfl⟩
theorem D0_479 : Jmp code 479 (.ifCond .eq 7) 7 482 486 := ⟨at_479, rfl, by decide, by decide⟩
theorem D0_482 : Dec code 482 (.iconst 1) 1 483 := ⟨at_482, rfl⟩
theorem D0_483 : Jmp code 483 (.goto 4) 4 486 487 := ⟨at_483, rfl, by decide, by decide⟩
theorem D0_487 : Dec code 487 (.istore 12) 2 489 := ⟨at_487, rfl⟩
theorem D0_489 : Dec code 489 (.iload 12) 2 491 := ⟨at_489, rfl⟩
theorem D0_491 : Jmp code 491 (.ifCond .eq 25) 25 494 516 := ⟨at_491, rfl, by decide, by decide⟩
theorem D0_494 : Dec code 494 (.aload 9) 2 496 := ⟨at_494, rfl⟩
theorem D0_496 : Dec code 496 (.bipush 12) 2 498 := ⟨at_496, rfl⟩
theorem D0_498 : Dec code 498 (.lload 5) 2 500 := ⟨at_498, rfl⟩
theorem D0_500 : Dec code 500 (.iload 7) 2 502 := ⟨at_500, rfl⟩
theorem D0_502 : Dec code 502 (.iload 11) 2 504 := ⟨at_502, rfl⟩
theorem D0_504 : Dec code 504 (.iload 8) 2 506 := ⟨at_504, rfl⟩
theorem D0_506 : Dec code 506 (.invokestatic 23) 3 509 := ⟨at_506, rfl⟩
theorem D0_509 : Jmp code 509 (.ifCond .eq 7) 7 512 516 := ⟨at_509, rfl, by decide, by decide⟩
theorem D0_512 : Dec code 512 (.iconst 1) 1 513 := ⟨at_512, rfl⟩
theorem D0_513 : Jmp code 513 (.goto 4) 4 516 517 := ⟨at_513, rfl, by decide, by decide⟩
theorem D0_517 : Dec code 517 (.istore 12) 2 519 := ⟨at_517, rfl⟩
theorem D0_519 : Dec code 519 (.iload 12) 2 521 := ⟨at_519, rfl⟩
theorem D0_521 : Dec code 521 .ireturn 1 522 := ⟨at_521, rfl⟩
theorem D1_0 : Dec prog_1_method_4_code 0 (.lload_n 0) 1 1 := ⟨by decide +kernel, rfl⟩
theorem D1_1 : Dec prog_1_method_4_code 1 (.lstore 4) 2 3 := ⟨by decide +kernel, rfl⟩
theorem D1_3 : Dec prog_1_method_4_code 3 (.iload_n 3) 1 4 := ⟨by decide +kernel, rfl⟩
theorem D1_4 : Dec prog_1_method_4_code 4 (.istore 6) 2 6 := ⟨by decide +kernel, rfl⟩
theorem D1_6 : Dec prog_1_method_4_code 6 (.lload 4) 2 8 := ⟨by decide +kernel, rfl⟩
theorem D1_8 : Dec prog_1_method_4_code 8 (.ldc2_w 25) 3 11 := ⟨by decide +kernel, rfl⟩
theorem D1_11 : Dec prog_1_method_4_code 11 .lcmp 1 12 := ⟨by decide +kernel, rfl⟩
theorem D1_12 : Jmp prog_1_method_4_code 12 (.ifCond .le 32) 32 15 44 := ⟨by decide +kernel, rfl, by decide, by decide⟩
theorem D1_15 : Dec prog_1_method_4_code 15 (.aload_n 2) 1 16 := ⟨by decide +kernel, rfl⟩
theorem D1_16 : Dec prog_1_method_4_code 16 (.iload 6) 2 18 := ⟨by decide +kernel, rfl⟩
theorem D1_18 : Dec prog_1_method_4_code 18 (.lload 4) 2 20 := ⟨by decide +kernel, rfl⟩
theorem D1_20 : Dec prog_1_method_4_code 20 (.ldc2_w 25) 3 23 := ⟨by decide +kernel, rfl⟩
theorem D1_23 : Dec prog_1_method_4_code 23 .land 1 24 := ⟨by decide +kernel, rfl⟩
theorem D1_24 : Dec prog_1_method_4_code 24 (.ldc2_w 27) 3 27 := ⟨by decide +kernel, rfl⟩
theorem D1_27 : Dec prog_1_method_4_code 27 .lor 1 28 := ⟨by decide +kernel, rfl⟩
theorem D1_28 : Dec prog_1_method_4_code 28 .l2i 1 29 := ⟨by decide +kernel, rfl⟩
theorem D1_29 : Dec prog_1_method_4_code 29 .i2b 1 30 := ⟨by decide +kernel, rfl⟩
theorem D1_30 : Dec prog_1_method_4_code 30 .bastore 1 31 := ⟨by decide +kernel, rfl⟩
theorem D1_31 : Dec prog_1_method_4_code 31 (.lload 4) 2 33 := ⟨by decide +kernel, rfl⟩
theorem D1_33 : Dec prog_1_method_4_code 33 (.bipush 7) 2 35 := ⟨by decide +kernel, rfl⟩
theorem D1_35 : Dec prog_1_method_4_code 35 .lushr 1 36 := ⟨by decide +kernel, rfl⟩
theorem D1_36 : Dec prog_1_method_4_code 36 (.lstore 4) 2 38 := ⟨by decide +kernel, rfl⟩
theorem D1_38 : Dec prog_1_method_4_code 38 (.iinc 6 1) 3 41 := ⟨by decide +kernel, rfl⟩
theorem D1_41 : Jmp prog_1_method_4_code 41 (.goto (-35)) (-35) 44 6 := ⟨by decide +kernel, rfl, by decide, by decide⟩
theorem D1_44 : Dec prog_1_method_4_code 44 (.aload_n 2) 1 45 := ⟨by decide +kernel, rfl⟩
theorem D1_45 : Dec prog_1_method_4_code 45 (.iload 6) 2 47 := ⟨by decide +kernel, rfl⟩
theorem D1_47 : Dec prog_1_method_4_code 47 (.lload 4) 2 49 := ⟨by decide +kernel, rfl⟩
theorem D1_49 : Dec prog_1_method_4_code 49 .l2i 1 50 := ⟨by decide +kernel, rfl⟩
theorem D1_50 : Dec prog_1_method_4_code 50 .i2b 1 51 := ⟨by decide +kernel, rfl⟩
theorem D1_51 : Dec prog_1_method_4_code 51 .bastore 1 52 := ⟨by decide +kernel, rfl⟩
theorem D1_52 : Dec prog_1_method_4_code 52 (.iload 6) 2 54 := ⟨by decide +kernel, rfl⟩
theorem D1_54 : Dec prog_1_method_4_code 54 (.iconst 1) 1 55 := ⟨by decide +kernel, rfl⟩
theorem D1_55 : Dec prog_1_method_4_code 55 .iadd 1 56 := ⟨by decide +kernel, rfl⟩
theorem D1_56 : Dec prog_1_method_4_code 56 .ireturn 1 57 := ⟨by decide +kernel, rfl⟩
theorem D2_0 : Dec method_3_code 0 (.lload_n 0) 1 1 := ⟨by decide +kernel, rfl⟩
theorem D2_1 : Dec method_3_code 1 (.ldc2_w 27) 3 4 := ⟨by decide +kernel, rfl⟩
theorem D2_4 : Dec method_3_code 4 .lcmp 1 5 := ⟨by decide +kernel, rfl⟩
theorem D2_5 : Jmp method_3_code 5 (.ifCond .ge 5) 5 8 10 := ⟨by decide +kernel, rfl, by decide, by decide⟩
theorem D2_8 : Dec method_3_code 8 (.iconst 1) 1 9 := ⟨by decide +kernel, rfl⟩
theorem D2_9 : Dec method_3_code 9 .ireturn 1 10 := ⟨by decide +kernel, rfl⟩
theorem D2_10 : Dec method_3_code 10 (.lload_n 0) 1 11 := ⟨by decide +kernel, rfl⟩
theorem D2_11 : Dec method_3_code 11 (.ldc2_w 29) 3 14 := ⟨by decide +kernel, rfl⟩
theorem D2_14 : Dec method_3_code 14 .lcmp 1 15 := ⟨by decide +kernel, rfl⟩
theorem D2_15 : Jmp method_3_code 15 (.ifCond .ge 5) 5 18 20 := ⟨by decide +kernel, rfl, by decide, by decide⟩
theorem D2_18 : Dec method_3_code 18 (.iconst 2) 1 19 := ⟨by decide +kernel, rfl⟩
theorem D2_19 : Dec method_3_code 19 .ireturn 1 20 := ⟨by decide +kernel, rfl⟩
theorem D2_20 : Dec method_3_code 20 (.lload_n 0) 1 21 := ⟨by decide +kernel, rfl⟩
theorem D2_21 : Dec method_3_code 21 (.ldc2_w 31) 3 24 := ⟨by decide +kernel, rfl⟩
theorem D2_24 : Dec method_3_code 24 .lcmp 1 25 := ⟨by decide +kernel, rfl⟩
theorem D2_25 : Jmp method_3_code 25 (.ifCond .ge 5) 5 28 30 := ⟨by decide +kernel, rfl, by decide, by decide⟩
theorem D2_28 : Dec method_3_code 28 (.iconst 3) 1 29 := ⟨by decide +kernel, rfl⟩
theorem D2_29 : Dec method_3_code 29 .ireturn 1 30 := ⟨by decide +kernel, rfl⟩
theorem D2_30 : Dec method_3_code 30 (.lload_n 0) 1 31 := ⟨by decide +kernel, rfl⟩
theorem D2_31 : Dec method_3_code 31 (.ldc2_w 33) 3 34 := ⟨by decide +kernel, rfl⟩
theorem D2_34 : Dec method_3_code 34 .lcmp 1 35 := ⟨by decide +kernel, rfl⟩
theorem D2_35 : Jmp method_3_code 35 (.ifCond .ge 5) 5 38 40 := ⟨by decide +kernel, rfl, by decide, by decide⟩
theorem D2_38 : Dec method_3_code 38 (.iconst 4) 1 39 := ⟨by decide +kernel, rfl⟩
theorem D2_39 : Dec method_3_code 39 .ireturn 1 40 := ⟨by decide +kernel, rfl⟩
theorem D2_40 : Dec method_3_code 40 (.lload_n 0) 1 41 := ⟨by decide +kernel, rfl⟩
theorem D2_41 : Dec method_3_code 41 (.ldc2_w 35) 3 44 := ⟨by decide +kernel, rfl⟩
theorem D2_44 : Dec method_3_code 44 .lcmp 1 45 := ⟨by decide +kernel, rfl⟩
theorem D2_45 : Jmp method_3_code 45 (.ifCond .ge 5) 5 48 50 := ⟨by decide +kernel, rfl, by decide, by decide⟩
theorem D2_48 : Dec method_3_code 48 (.iconst 5) 1 49 := ⟨by decide +kernel, rfl⟩
theorem D2_49 : Dec method_3_code 49 .ireturn 1 50 := ⟨by decide +kernel, rfl⟩
theorem D2_50 : Dec method_3_code 50 (.lload_n 0) 1 51 := ⟨by decide +kernel, rfl⟩
theorem D2_51 : Dec method_3_code 51 (.ldc2_w 37) 3 54 := ⟨by decide +kernel, rfl⟩
theorem D2_54 : Dec method_3_code 54 .lcmp 1 55 := ⟨by decide +kernel, rfl⟩
theorem D2_55 : Jmp method_3_code 55 (.ifCond .ge 6) 6 58 61 := ⟨by decide +kernel, rfl, by decide, by decide⟩
theorem D2_58 : Dec method_3_code 58 (.bipush 6) 2 60 := ⟨by decide +kernel, rfl⟩
theorem D2_60 : Dec method_3_code 60 .ireturn 1 61 := ⟨by decide +kernel, rfl⟩
theorem D2_61 : Dec method_3_code 61 (.lload_n 0) 1 62 := ⟨by decide +kernel, rfl⟩
theorem D2_62 : Dec method_3_code 62 (.ldc2_w 39) 3 65 := ⟨by decide +kernel, rfl⟩
theorem D2_65 : Dec method_3_code 65 .lcmp 1 66 := ⟨by decide +kernel, rfl⟩
theorem D2_66 : Jmp method_3_code 66 (.ifCond .ge 6) 6 69 72 := ⟨by decide +kernel, rfl, by decide, by decide⟩
theorem D2_69 : Dec method_3_code 69 (.bipush 7) 2 71 := ⟨by decide +kernel, rfl⟩
theorem D2_71 : Dec method_3_code 71 .ireturn 1 72 := ⟨by decide +kernel, rfl⟩
theorem D2_72 : Dec method_3_code 72 (.lload_n 0) 1 73 := ⟨by decide +kernel, rfl⟩
theorem D2_73 : Dec method_3_code 73 (.ldc2_w 41) 3 76 := ⟨by decide +kernel, rfl⟩
theorem D2_76 : Dec method_3_code 76 .lcmp 1 77 := ⟨by decide +kernel, rfl⟩
theorem D2_77 : Jmp method_3_code 77 (.ifCond .ge 6) 6 80 83 := ⟨by decide +kernel, rfl, by decide, by decide⟩
theorem D2_80 : Dec method_3_code 80 (.bipush 8) 2 82 := ⟨by decide +kernel, rfl⟩
theorem D2_82 : Dec method_3_code 82 .ireturn 1 83 := ⟨by decide +kernel, rfl⟩
theorem D2_83 : Dec method_3_code 83 (.bipush 9) 2 85 := ⟨by decide +kernel, rfl⟩
theorem D2_85 : Dec method_3_code 85 .ireturn 1 86 := ⟨by decide +kernel, rfl⟩
theorem D3_0 : Dec method_4_code 0 (.iload_n 1) 1 1 := ⟨by decide +kernel, rfl⟩
theorem D3_1 : Dec method_4_code 1 (.iload 4) 2 3 := ⟨by decide +kernel, rfl⟩
theorem D3_3 : Dec method_4_code 3 .isub 1 4 := ⟨by decide +kernel, rfl⟩
theorem D3_4 : Dec method_4_code 4 (.istore 7) 2 6 := ⟨by decide +kernel, rfl⟩
theorem D3_6 : Dec method_4_code 6 (.iload 7) 2 8 := ⟨by decide +kernel, rfl⟩
theorem D3_8 : Jmp method_4_code 8 (.ifCond .lt 10) 10 11 18 := ⟨by decide +kernel, rfl, by decide, by decide⟩
theorem D3_11 : Dec method_4_code 11 (.iload 7) 2 13 := ⟨by decide +kernel, rfl⟩
theorem D3_13 : Dec method_4_code 13 (.iload 5) 2 15 := ⟨by decide +kernel, rfl⟩
theorem D3_15 : Jmp method_4_code 15 (.if_icmp .lt 10) 10 18 25 := ⟨by decide +kernel, rfl, by decide, by decide⟩
theorem D3_18 : Dec method_4_code 18 (.iload 6) 2 20 := ⟨by decide +kernel, rfl⟩
theorem D3_20 : Dec method_4_code 20 (.istore 8) 2 22 := ⟨by decide +kernel, rfl⟩
theorem D3_22 : Jmp method_4_code 22 (.goto 39) 39 25 61 := ⟨by decide +kernel, rfl, by decide, by decide⟩
theorem D3_25 : Dec method_4_code 25 (.lload_n 2) 1 26 := ⟨by decide +kernel, rfl⟩
theorem D3_26 : Dec method_4_code 26 (.bipush 7) 2 28 := ⟨by decide +kernel, rfl⟩
theorem D3_28 : Dec method_4_code 28 (.iload 7) 2 30 := ⟨by decide +kernel, rfl⟩
theorem D3_30 : Dec method_4_code 30 .imul 1 31 := ⟨by decide +kernel, rfl⟩
theorem D3_31 : Dec method_4_code 31 .lushr 1 32 := ⟨by decide +kernel, rfl⟩
theorem D3_32 : Dec method_4_code 32 (.ldc2_w 43) 3 35 := ⟨by decide +kernel, rfl⟩
theorem D3_35 : Dec method_4_code 35 .land 1 36 := ⟨by decide +kernel, rfl⟩
theorem D3_36 : Dec method_4_code 36 .l2i 1 37 := ⟨by decide +kernel, rfl⟩
theorem D3_37 : Dec method_4_code 37 (.istore 9) 2 39 := ⟨by decide +kernel, rfl⟩
theorem D3_39 : Dec method_4_code 39 (.iload 7) 2 41 := ⟨by decide +kernel, rfl⟩
theorem D3_41 : Dec method_4_code 41 (.iload 5) 2 43 := ⟨by decide +kernel, rfl⟩
theorem D3_43 : Dec method_4_code 43 (.iconst 1) 1 44 := ⟨by decide +kernel, rfl⟩
theorem D3_44 : Dec method_4_code 44 .isub 1 45 := ⟨by decide +kernel, rfl⟩
theorem D3_45 : Jmp method_4_code 45 (.if_icmp .ge 11) 11 48 56 := ⟨by decide +kernel, rfl, by decide, by decide⟩
theorem D3_48 : Dec method_4_code 48 (.iload 9) 2 50 := ⟨by decide +kernel, rfl⟩
theorem D3_50 : Dec method_4_code 50 (.sipush 128) 3 53 := ⟨by decide +kernel, rfl⟩
theorem D3_53 : Dec method_4_code 53 .ior 1 54 := ⟨by decide +kernel, rfl⟩
theorem D3_54 : Dec method_4_code 54 (.istore 9) 2 56 := ⟨by decide +kernel, rfl⟩
theorem D3_56 : Dec method_4_code 56 (.iload 9) 2 58 := ⟨by decide +kernel, rfl⟩
theorem D3_58 : Dec method_4_code 58 .i2b 1 59 := ⟨by decide +kernel, rfl⟩
theorem D3_59 : Dec method_4_code 59 (.istore 8) 2 61 := ⟨by decide +kernel, rfl⟩
theorem D3_61 : Dec method_4_code 61 (.aload_n 0) 1 62 := ⟨by decide +kernel, rfl⟩
theorem D3_62 : Dec method_4_code 62 (.iload_n 1) 1 63 := ⟨by decide +kernel, rfl⟩
theorem D3_63 : Dec method_4_code 63 .baload 1 64 := ⟨by decide +kernel, rfl⟩
theorem D3_64 : Dec method_4_code 64 (.iload 8) 2 66 := ⟨by decide +kernel, rfl⟩
theorem D3_66 : Jmp method_4_code 66 (.if_icmp .ne 7) 7 69 73 := ⟨by decide +kernel, rfl, by decide, by decide⟩
theorem D3_69 : Dec method_4_code 69 (.iconst 1) 1 70 := ⟨by decide +kernel, rfl⟩
theorem D3_70 : Jmp method_4_code 70 (.goto 4) 4 73 74 := ⟨by decide +kernel, rfl, by decide, by decide⟩
theorem D3_74 : Dec method_4_code 74 .ireturn 1 75 := ⟨by decide +kernel, rfl⟩
theorem pd_0 : parseMethodDescriptor "(J[BI)I" = some ⟨[.long, (.array .byte), .int], some .int⟩ := by decide +kernel
theorem pd_1 : parseMethodDescriptor "(J)I" = some ⟨[.long], some .int⟩ := by decide +kernel
theorem pd_2 : parseMethodDescriptor "([BIJIIB)Z" = some ⟨[(.array .byte), .int, .long, .int, .int, .byte], some .boolean⟩ := by decide +kernel
section OwnNums
theorem n_bv (a : Nat) : (Int32.ofNat a).toBitVec = BitVec.ofNat 32 a := rfl
theorem eq_mod {x y : Int32} (h : (x.toInt - y.toInt) % 4294967296 = 0) : x = y := Int32.toInt_inj.mp (by have := rng32 x; have := rng32 y; omega)
theorem eq_modL {x y : Int64} (h : (x.toInt - y.toInt) % 18446744073709551616 = 0) : x = y := Int64.toInt_inj.mp (by have := rng64 x; have := rng64 y; omega)
theorem n_add (a b : Nat) : Int32.ofNat a + Int32.ofNat b = Int32.ofNat (a + b) := (Int32.ofNat_add a b).symm
theorem n_mul (a b : Nat) : Int32.ofNat a * Int32.ofNat b = Int32.ofNat (a * b) := (Int32.ofNat_mul a b).symm
theorem n_sub {a b : Nat} (h : b ≤ a) : Int32.ofNat a - Int32.ofNat b = Int32.ofNat (a - b) := by
  have := n_add (a - b) b
  rw [Nat.sub_add_cancel h] at this
  rw [← this, Int32.add_sub_cancel]
theorem n_and (a b : Nat) : Int32.ofNat a &&& Int32.ofNat b = Int32.ofNat (a &&& b) := by
  apply Int32.toBitVec_inj.mp
  rw [Int32.toBitVec_and, n_bv, n_bv, n_bv]
  exact BitVec.ofNat_and.symm
theorem n_or (a b : Nat) : Int32.ofNat a ||| Int32.ofNat b = Int32.ofNat (a ||| b) := by
  apply Int32.toBitVec_inj.mp
  rw [Int32.toBitVec_or, n_bv, n_bv, n_bv]
  exact BitVec.ofNat_or.symm
theorem n_q {k : Nat} (hk : k < 32) : (Int32.ofNat k).toBitVec.toNat % 32 = k := by
  rw [n_bv, BitVec.toNat_ofNat]; omega
theorem n_q64 {k : Nat} (hk : k < 64) : (Int32.ofNat k).toBitVec.toNat % 64 = k := by
  rw [n_bv, BitVec.toNat_ofNat]; omega
theorem toInt_mod (a : Nat) : ((Int32.ofNat a).toInt - a) % 4294967296 = 0 := by
  have h := bm32 (((BitVec.ofNat 32 a).toNat : Nat) : Int)
  rw [show (Int32.ofNat a).toInt = (BitVec.ofNat 32 a).toInt from rfl, BitVec.toInt_eq_toNat_bmod]
  rw [BitVec.toNat_ofNat] at *
  generalize Int.bmod ((a % 2 ^ 32 : Nat) : Int) (2 ^ 32) = w1 at *
  omega
theorem n_inj {a b : Nat} (ha : a < 2147483648) (hb : b < 2147483648) : Int32.ofNat a = Int32.ofNat b ↔ a = b := ⟨fun h => by have := congrArg Int32.toInt h; rw [ofNat_toInt ha, ofNat_toInt hb] at this; omega, fun h => by rw [h]⟩
theorem n_shl (a : Nat) {k : Nat} (hk : k < 32) : jshl (Int32.ofNat a) (Int32.ofNat k) = Int32.ofNat (a * 2 ^ k) := by
  apply eq_mod
  have h1 : ((jshl (Int32.ofNat a) (Int32.ofNat k)).toInt - (Int32.ofNat a).toInt * ((2 ^ k : Nat) : Int)) % 4294967296 = 0 := c_ishl (Int32.ofNat a) (Int32.ofNat k) k (n_q hk)
  generalize (jshl (Int32.ofNat a) (Int32.ofNat k)).toInt = w1 at *
  have h2 := toInt_mod (a * 2 ^ k)
  have h3 := toInt_mod a
  obtain ⟨q, hq⟩ := Int.dvd_of_emod_eq_zero h3
  have h4 : (Int32.ofNat a).toInt * ((2 ^ k : Nat) : Int) - ((a * 2 ^ k : Nat) : Int) = 4294967296 * (q * ((2 ^ k : Nat) : Int)) := by
    rw [Int.natCast_mul, ← Int.sub_mul, hq, Int.mul_assoc]
  omega
theorem n_ushr0 (x : Int32) : jushr x 0 = x := by
  apply Int32.toBitVec_inj.mp
  simp [jushr]
theorem n_ushr {a k : Nat} (ha : a < 2147483648) (hk : k < 32) : jushr (Int32.ofNat a) (Int32.ofNat k) = Int32.ofNat (a / 2 ^ k) := by
  rcases Nat.eq_zero_or_pos k with rfl | h0
  · rw [Nat.pow_zero, Nat.div_one]; exact n_ushr0 _
  · have hd : a / 2 ^ k ≤ a := Nat.div_le_self _ _
    refine eq_ofNat (by omega) ?_
    rw [c_iushr (Int32.ofNat a) (Int32.ofNat k) k (n_q hk) h0, ofNat_toInt ha, show ((a : Int) % 4294967296) = a by omega]
    exact (Int.natCast_ediv _ _).symm
theorem n_shr {a k : Nat} (ha : a < 2147483648) (hk : k < 32) : jshr (Int32.ofNat a) (Int32.ofNat k) = Int32.ofNat (a / 2 ^ k) := by
  have hd : a / 2 ^ k ≤ a := Nat.div_le_self _ _
  refine eq_ofNat (by omega) ?_
  rw [c_ishr (Int32.ofNat a) (Int32.ofNat k) k (n_q hk), ofNat_toInt ha]
  exact (Int.natCast_ediv _ _).symm
theorem n_low (a k : Nat) : Int32.ofNat a &&& Int32.ofNat (2 ^ k - 1) = Int32.ofNat (a % 2 ^ k) := by rw [n_and, Nat.and_two_pow_sub_one_eq_mod]
theorem n_orlow (a : Nat) {i t : Nat} (ht : t < 2 ^ i) : Int32.ofNat (2 ^ i * a) ||| Int32.ofNat t = Int32.ofNat (2 ^ i * a + t) := by rw [n_or, Nat.two_pow_add_eq_or_of_lt ht]
theorem n_rem {a k : Nat} (ha : a < 2147483648) (h1 : 0 < k) (hk : k < 2147483648) : Int32.ofNat a % Int32.ofNat k = Int32.ofNat (a % k) := by
  have hm := Nat.mod_lt a h1
  refine eq_ofNat (by omega) ?_
  rw [(c_irem (Int32.ofNat a) (Int32.ofNat k) k (ofNat_toInt hk)).1 (by rw [ofNat_toInt ha]; omega), ofNat_toInt ha]
  exact (Int.natCast_emod _ _).symm
theorem n_nn (x : Int32) (h : 0 ≤ x.toInt) : ∃ u : Nat, u < 2147483648 ∧ x = Int32.ofNat u := by
  have := rng32 x
  exact ⟨x.toInt.toNat, by omega, eq_ofNat (by omega) (by omega)⟩
theorem n_mask31 (x : Int32) : ∃ u : Nat, u < 2147483648 ∧ x &&& 2147483647 = Int32.ofNat u := n_nn _ (c_and x 2147483647 (by decide)).1
theorem n_mask (x : Int32) (k : Nat) (hk : k ≤ 31) {m : Int32} (hm : m.toBitVec.toNat = 2 ^ k - 1) : x &&& m = Int32.ofNat ((x.toInt % (2 ^ k : Nat)).toNat) := by
  have h1 : (0 : Int) < ((2 ^ k : Nat) : Int) := by
    have := Nat.two_pow_pos k
    omega
  have h2 : ((2 ^ k : Nat) : Int) ≤ 2147483648 := by
    have : 2 ^ k ≤ 2147483648 := Nat.pow_le_pow_right (n := 2) (by decide) hk
    omega
  have h3 := Int.emod_nonneg x.toInt (Int.ne_of_gt h1)
  have h4 := Int.emod_lt_of_pos x.toInt h1
  exact eq_ofNat (by omega) (by rw [c_mask x m k hk hm]; omega)
theorem jbyte_idem (x : Int32) : jbyte (jbyte x) = jbyte x := by
  have h1 := c_i2b x
  have h2 := c_i2b (jbyte x)
  exact Int32.toInt_inj.mp (by simp only [jbyte] at *; omega)
theorem jbyte_and (x : Int32) (k : Nat) (hk : k ≤ 8) {m : Int32} (hm : m.toBitVec.toNat = 2 ^ k - 1) : jbyte x &&& m = x &&& m := by
  have h1 := (c_i2b x).1
  apply Int32.toInt_inj.mp
  rw [c_mask _ m k (by omega) hm, c_mask _ m k (by omega) hm]
  have : ∃ c : Nat, 256 = 2 ^ k * c := ⟨2 ^ (8 - k), by rw [← Nat.pow_add, show k + (8 - k) = 8 by omega]⟩
  obtain ⟨c, hc⟩ := this
  obtain ⟨q, hq⟩ := Int.dvd_of_emod_eq_zero h1
  have h2 : (jbyte x).toInt = x.toInt + ((2 ^ k : Nat) : Int) * ((c : Int) * q) := by
    have h3 : (256 : Int) = ((2 ^ k : Nat) : Int) * (c : Int) := by rw [← Int.natCast_mul, ← hc]; rfl
    rw [h3, Int.mul_assoc] at hq
    simp only [jbyte]; omega
  rw [h2, Int.add_mul_emod_self_left]
end OwnNums

section OwnNumsL
theorem nl_bv (a : Nat) : (Int64.ofNat a).toBitVec = BitVec.ofNat 64 a := rfl
theorem ofNatL_toInt {n : Nat} (h : n < 9223372036854775808) : (Int64.ofNat n).toInt = n := Int64.toInt_ofNat_of_lt (by omega)
theorem eq_ofNatL {x : Int64} {n : Nat} (hn : n < 9223372036854775808) (h : x.toInt = n) : x = Int64.ofNat n := Int64.toInt_inj.mp (by rw [h, ofNatL_toInt hn])
theorem nL_add (a b : Nat) : Int64.ofNat a + Int64.ofNat b = Int64.ofNat (a + b) := (Int64.ofNat_add a b).symm
theorem nL_mul (a b : Nat) : Int64.ofNat a * Int64.ofNat b = Int64.ofNat (a * b) := (Int64.ofNat_mul a b).symm
theorem nL_sub {a b : Nat} (h : b ≤ a) : Int64.ofNat a - Int64.ofNat b = Int64.ofNat (a - b) := by
  have := nL_add (a - b) b
  rw [Nat.sub_add_cancel h] at this
  rw [← this, Int64.add_sub_cancel]
theorem nL_and (a b : Nat) : Int64.ofNat a &&& Int64.ofNat b = Int64.ofNat (a &&& b) := by
  apply Int64.toBitVec_inj.mp
  rw [Int64.toBitVec_and, nl_bv, nl_bv, nl_bv]
  exact BitVec.ofNat_and.symm
theorem nL_or (a b : Nat) : Int64.ofNat a ||| Int64.ofNat b = Int64.ofNat (a ||| b) := by
  apply Int64.toBitVec_inj.mp
  rw [Int64.toBitVec_or, nl_bv, nl_bv, nl_bv]
  exact BitVec.ofNat_or.symm
theorem nL_inj {a b : Nat} (ha : a < 9223372036854775808) (hb : b < 9223372036854775808) : Int64.ofNat a = Int64.ofNat b ↔ a = b := ⟨fun h => by have := congrArg Int64.toInt h; rw [ofNatL_toInt ha, ofNatL_toInt hb] at this; omega, fun h => by rw [h]⟩
theorem nL_lt {a b : Nat} (ha : a < 9223372036854775808) (hb : b < 9223372036854775808) : Int64.ofNat a < Int64.ofNat b ↔ a < b := by rw [Int64.lt_iff_toInt_lt, ofNatL_toInt ha, ofNatL_toInt hb]; omega
theorem toInt_modL (a : Nat) : ((Int64.ofNat a).toInt - a) % 18446744073709551616 = 0 := by
  have h := bm64 (((BitVec.ofNat 64 a).toNat : Nat) : Int)
  rw [show (Int64.ofNat a).toInt = (BitVec.ofNat 64 a).toInt from rfl, BitVec.toInt_eq_toNat_bmod]
  rw [BitVec.toNat_ofNat] at *
  generalize Int.bmod ((a % 2 ^ 64 : Nat) : Int) (2 ^ 64) = w1 at *
  omega
theorem nL_shl (a : Nat) {k : Nat} (hk : k < 64) : jshlL (Int64.ofNat a) (Int32.ofNat k) = Int64.ofNat (a * 2 ^ k) := by
  apply eq_modL
  have h1 : ((jshlL (Int64.ofNat a) (Int32.ofNat k)).toInt - (Int64.ofNat a).toInt * ((2 ^ k : Nat) : Int)) % 18446744073709551616 = 0 := c_lshl (Int64.ofNat a) (Int32.ofNat k) k (n_q64 hk)
  generalize (jshlL (Int64.ofNat a) (Int32.ofNat k)).toInt = w1 at *
  have h2 := toInt_modL (a * 2 ^ k)
  have h3 := toInt_modL a
  obtain ⟨q, hq⟩ := Int.dvd_of_emod_eq_zero h3
  have h4 : (Int64.ofNat a).toInt * ((2 ^ k : Nat) : Int) - ((a * 2 ^ k : Nat) : Int) = 18446744073709551616 * (q * ((2 ^ k : Nat) : Int)) := by
    rw [Int.natCast_mul, ← Int.sub_mul, hq, Int.mul_assoc]
  omega
theorem nL_ushr0 (x : Int64) : jushrL x 0 = x := by
  apply Int64.toBitVec_inj.mp
  simp [jushrL]
theorem nL_ushr {a k : Nat} (ha : a < 9223372036854775808) (hk : k < 64) : jushrL (Int64.ofNat a) (Int32.ofNat k) = Int64.ofNat (a / 2 ^ k) := by
  rcases Nat.eq_zero_or_pos k with rfl | h0
  · rw [Nat.pow_zero, Nat.div_one]; exact nL_ushr0 _
  · have hd : a / 2 ^ k ≤ a := Nat.div_le_self _ _
    refine eq_ofNatL (by omega) ?_
    rw [c_lushr (Int64.ofNat a) (Int32.ofNat k) k (n_q64 hk) h0, ofNatL_toInt ha, show ((a : Int) % 18446744073709551616) = a by omega]
    exact (Int.natCast_ediv _ _).symm
theorem nL_low (a k : Nat) : Int64.ofNat a &&& Int64.ofNat (2 ^ k - 1) = Int64.ofNat (a % 2 ^ k) := by rw [nL_and, Nat.and_two_pow_sub_one_eq_mod]
theorem nL_orlow (a : Nat) {i t : Nat} (ht : t < 2 ^ i) : Int64.ofNat (2 ^ i * a) ||| Int64.ofNat t = Int64.ofNat (2 ^ i * a + t) := by rw [nL_or, Nat.two_pow_add_eq_or_of_lt ht]
theorem n_i2l {a : Nat} (h : a < 2147483648) : (Int32.ofNat a).toInt64 = Int64.ofNat a := eq_ofNatL (by omega) (by rw [c_i2l, ofNat_toInt h])
theorem n_l2i (a : Nat) : (Int64.ofNat a).toInt32 = Int32.ofNat a := by
  apply eq_mod
  have h1 := c_l2i (Int64.ofNat a)
  have h2 := toInt_modL a
  have h3 := toInt_mod a
  omega
theorem nL_nn (x : Int64) (h : 0 ≤ x.toInt) : ∃ u : Nat, u < 9223372036854775808 ∧ x = Int64.ofNat u := by
  have := rng64 x
  exact ⟨x.toInt.toNat, by omega, eq_ofNatL (by omega) (by omega)⟩
end OwnNumsL

/-- write on the array's values -/
def pl : Nat → (Nat → Int32) → Nat → Nat → (Nat → Int32)
  | 0, g, A, u => upd g A (jbyte (jbyte (Int32.ofNat u)))
  | n + 1, g, A, u => if u < 128 then upd g A (jbyte (jbyte (Int32.ofNat u))) else pl n (upd g A (jbyte (jbyte (Int32.ofNat (128 + u % 128))))) (A + 1) (u / 128)
def sz : Nat → Nat → Nat
  | 0, _ => 1
  | n + 1, u => if u < 128 then 1 else sz n (u / 128) + 1
theorem sz_pos : ∀ n u, 1 ≤ sz n u
  | 0, _ => Nat.le_refl _
  | n + 1, u => by rw [sz]; split <;> omega
theorem sz_le : ∀ n u, sz n u ≤ n + 1
  | 0, _ => Nat.le_refl _
  | n + 1, u => by have := sz_le n (u / 128); rw [sz]; split <;> omega
def dig (u k N : Nat) : Nat := if k + 1 < N then 128 + u / 128 ^ k % 128 else u / 128 ^ k % 128
theorem pl_at : ∀ (n : Nat) (g : Nat → Int32) (A u I : Nat), u < 128 ^ (n + 1) → pl n g A u I = if I < A ∨ A + sz n u ≤ I then g I else jbyte (Int32.ofNat (dig u (I - A) (sz n u))) := by
  intro n
  have base : ∀ (g : Nat → Int32) (A u I : Nat), u < 128 → upd g A (jbyte (jbyte (Int32.ofNat u))) I = if I < A ∨ A + 1 ≤ I then g I else jbyte (Int32.ofNat (dig u (I - A) 1)) := by
    intro g A u I hu
    by_cases hI : I = A
    · subst hI
      rw [upd_at, if_neg (by omega), dig, if_neg (by omega), Nat.sub_self, Nat.pow_zero, Nat.div_one, jbyte_idem, Nat.mod_eq_of_lt hu]
    · rw [upd_ne _ _ hI, if_pos (by omega)]
  induction n with
  | zero => intro g A u I hu; exact base g A u I (by simpa using hu)
  | succ n ih =>
    intro g A u I hu
    by_cases h1 : u < 128
    · rw [pl, if_pos h1, sz, if_pos h1]; exact base g A u I h1
    · rw [Nat.pow_succ] at hu
      have hp := sz_pos n (u / 128)
      rw [pl, if_neg h1, sz, if_neg h1, ih _ _ _ _ (by omega)]
      by_cases hA : I < A
      · rw [if_pos (by omega), if_pos (by omega), upd_ne _ _ (by omega)]
      · by_cases hI : I = A
        · subst hI
          rw [if_pos (by omega), if_neg (by omega), upd_at, dig, if_pos (by omega), Nat.sub_self, Nat.pow_zero, Nat.div_one, jbyte_idem]
        · by_cases h2 : A + 1 + sz n (u / 128) ≤ I
          · rw [if_pos (by omega), if_pos (by omega), upd_ne _ _ hI]
          · rw [if_neg (by omega), if_neg (by omega)]
            have e1 : u / 128 / 128 ^ (I - (A + 1)) = u / 128 ^ (I - A) := by
              rw [Nat.div_div_eq_div_mul, show I - A = (I - (A + 1)) + 1 by omega, Nat.pow_succ, Nat.mul_comm]
            simp only [dig, e1]
            by_cases h3 : I - A + 1 < sz n (u / 128) + 1
            · rw [if_pos h3, if_pos (by omega)]
            · rw [if_neg h3, if_neg (by omega)]
/-- what the law expects at place I -/
def ck (I A N u : Nat) (f : Int32) : Int32 := if I < A ∨ A + N ≤ I then f else jbyte (Int32.ofNat (dig u (I - A) N))
theorem own_check (I A u : Nat) (f : Int32) (hu : u < 9223372036854775808) : pl 8 (fun _ => f) A u I = ck I A (sz 8 u) u f := by
  rw [pl_at 8 _ A u I (by omega)]; rfl
theorem own_len (x : Int64) (q : Int32) : ∃ u : Nat, u < 9223372036854775808 ∧ jushrL (x &&& 9223372036854775807) (q &&& 63) = Int64.ofNat u := by
  obtain ⟨v, hv, ev⟩ := nL_nn (x &&& 9223372036854775807) (by rw [c_maskL x _ 63 (by decide) (by decide)]; omega)
  have e1 := n_mask q 6 (by decide) (m := 63) (by decide)
  have hk : (q.toInt % (2 ^ 6 : Nat)).toNat < 64 := by omega
  rw [ev, e1, nL_ushr hv hk]
  exact ⟨_, Nat.lt_of_le_of_lt (Nat.div_le_self _ _) hv, rfl⟩
theorem own_at (x : Int32) : ∃ A : Nat, A < 4 ∧ x &&& 3 = Int32.ofNat A := ⟨_, by omega, n_mask x 2 (by decide) (m := 3) (by decide)⟩
theorem own_end (u : Nat) (hu : u < 9223372036854775808) : sz 8 u = if u < 128 then 1 else if u < 16384 then 2 else if u < 2097152 then 3 else if u < 268435456 then 4 else if u < 34359738368 then 5 else if u < 4398046511104 then 6 else if u < 562949953421312 then 7 else if u < 72057594037927936 then 8 else 9 := by
  simp only [sz]
  repeat' split
  all_goals first | rfl | omega
theorem sub_neg {I A : Nat} (hI : I < 1000) (hA : A < 1000) (h : I < A) : Int32.ofNat I - Int32.ofNat A < 0 := by
  have h1 := c_isub (Int32.ofNat I) (Int32.ofNat A)
  have h2 := rng32 (Int32.ofNat I - Int32.ofNat A)
  rw [Int32.lt_iff_toInt_lt, show (0 : Int32).toInt = 0 from rfl]
  rw [ofNat_toInt (by omega), ofNat_toInt (by omega)] at h1
  omega
theorem own_more (u : Nat) : Int64.ofNat (u % 2 ^ 7) ||| 128 = Int64.ofNat (128 + u % 128) := by
  rw [Int64.or_comm]; exact nL_orlow (i := 7) 1 (Nat.mod_lt _ (by decide))
set_option maxRecDepth 65536 in
set_option maxHeartbeats 40000000 in
theorem loopW {Z : State} {a0 : Array Value} {n0 : Nat} {p : Program} {l : Launch} {e : Env} {R : Room} {s : State} {m : MethodId} {args : Array Value} {below : List Frame} {meth : Method} {c : Code} {k j : Nat} {Q : Option Value → Heap → Prop} (hw : ∀ d ∈ tables_1, d.before a0 Z = true) (hk : k ≤ R.cells) (hj : j ≤ R.slots) (a : Addr) (u0 : Int64) (at0 : Int32) (N : Nat) : ∀ (n A u : Nat) (g : Nat → Int32) (T : State) (h : Heap), u < 128 ^ (n + 1) → u < 9223372036854775808 → A + n < N → A + n < 1000 → Pos Z a0 n0 p l e R s m args below meth c prog_1_method_4_code 7 (some .int) (⟨"com/example/reducer/reducer/analysis/Base128", "write", "(J[BI)I"⟩ : MethodName) T h k j → Ba Z n0 h a .byte N (bI g) →
    (∀ h', Keep h h' [a] → Ba Z n0 h' a .byte N (bI (pl n g A u)) → Q (some (.int (Int32.ofNat (A + sz n u)))) h') → Wp n0 p e R s below Q T (mkF m 6 #[.val (.long u0), .second, .val (.ref a), .val (.int at0), .val (.long (Int64.ofNat u)), .second, .val (.int (Int32.ofNat A))] []) := by
  intro n
  induction n with
  | zero =>
    intro A u g T h hu hu' hA hA' X B q
    have hu1 : u < 128 := by simpa using hu
    refine w_lload X D1_6 rfl ?_
    refine w_ldc2 X D1_8 (hw _ (List.mem_of_getElem? (i := 6) rfl)) ?_
    refine w_lcmple X D1_11 D1_12 (fun hc12 => ?_) (fun hc12 => by have z1 := (nL_lt (a := 127) (by decide) hu').mp hc12; omega)
    refine w_aloadN X D1_44 rfl rfl ?_
    refine w_iload X D1_45 rfl ?_
    refine w_lload X D1_47 rfl ?_
    refine w_l2i X D1_49 ?_
    rw [n_l2i]
    refine w_i2b X D1_50 ?_
    refine w_bastore X D1_51 B A rfl (by omega) (fun T1 h1 X1 K1 B1 => ?_)
    refine w_iload X1 D1_52 rfl ?_
    refine w_iconst X1 D1_54 (v := (1 : Int32)) rfl ?_
    refine w_iadd X1 D1_55 ?_
    rw [show Int32.ofNat A + 1 = Int32.ofNat (A + 1) from n_add A 1]
    exact w_ireturn X1 D1_56 hk hj (q _ K1 B1)
  | succ n ih =>
    intro A u g T h hu hu' hA hA' X B q
    rw [Nat.pow_succ] at hu
    refine w_lload X D1_6 rfl ?_
    refine w_ldc2 X D1_8 (hw _ (List.mem_of_getElem? (i := 6) rfl)) ?_
    refine w_lcmple X D1_11 D1_12 (fun hc12 => ?_) (fun hc12 => ?_)
    · refine w_aloadN X D1_44 rfl rfl ?_
      refine w_iload X D1_45 rfl ?_
      refine w_lload X D1_47 rfl ?_
      refine w_l2i X D1_49 ?_
      rw [n_l2i]
      refine w_i2b X D1_50 ?_
      refine w_bastore X D1_51 B A rfl (by omega) (fun T1 h1 X1 K1 B1 => ?_)
      refine w_iload X1 D1_52 rfl ?_
      refine w_iconst X1 D1_54 (v := (1 : Int32)) rfl ?_
      refine w_iadd X1 D1_55 ?_
      rw [show Int32.ofNat A + 1 = Int32.ofNat (A + 1) from n_add A 1]
      exact w_ireturn X1 D1_56 hk hj (by
                have hu1 : u < 128 := Nat.lt_of_not_le fun z => hc12 ((nL_lt (a := 127) (by decide) hu').mpr (by omega))
                have q' := q _ K1
                rw [pl, if_pos hu1, sz, if_pos hu1] at q'
                exact q' B1)
    · refine w_aloadN X D1_15 rfl rfl ?_
      refine w_iload X D1_16 rfl ?_
      refine w_lload X D1_18 rfl ?_
      refine w_ldc2 X D1_20 (hw _ (List.mem_of_getElem? (i := 6) rfl)) ?_
      refine w_land X D1_23 ?_
      rw [show Int64.ofNat u &&& 127 = Int64.ofNat (u % 2 ^ 7) from nL_low u 7]
      refine w_ldc2 X D1_24 (hw _ (List.mem_of_getElem? (i := 16) rfl)) ?_
      refine w_lor X D1_27 ?_
      rw [own_more]
      refine w_l2i X D1_28 ?_
      rw [n_l2i]
      refine w_i2b X D1_29 ?_
      refine w_bastore X D1_30 B A rfl (by omega) (fun T2 h2 X2 K2 B2 => ?_)
      refine w_lload X2 D1_31 rfl ?_
      refine w_bipush X2 D1_33 (v := (7 : Int32)) rfl ?_
      refine w_lushr X2 D1_35 ?_
      refine w_lstore X2 D1_36 (l' := #[.val (.long u0), .second, .val (.ref a), .val (.int at0), .val (.long (jushrL (Int64.ofNat u) (7 : Int32))), .second, .val (.int (Int32.ofNat A))]) rfl ?_
      refine w_iinc X2 D1_38 (d := (1 : Int32)) (r := (Int32.ofNat (A + 1))) (l' := #[.val (.long u0), .second, .val (.ref a), .val (.int at0), .val (.long (jushrL (Int64.ofNat u) (7 : Int32))), .second, .val (.int (Int32.ofNat (A + 1)))]) rfl rfl (n_add _ _) rfl ?_
      refine w_goto X2 D1_41 ?_
      rw [show jushrL (Int64.ofNat u) 7 = Int64.ofNat (u / 128) from nL_ushr hu' (k := 7) (by decide)]
      have hu1 : ¬ u < 128 := fun q => by have z1 := (nL_lt (a := 127) (by decide) hu').mp hc12; omega
      refine ih (A + 1) (u / 128) _ T2 h2 (by omega) (by omega) (by omega) (by omega) X2 B2 (fun h' K B => ?_)
      have q' := q h' (K2.trans K (fun x hx => Or.inl hx))
      rw [pl, if_neg hu1, sz, if_neg hu1, show A + (sz n (u / 128) + 1) = A + 1 + sz n (u / 128) by omega] at q'
      exact q' B
theorem ef_1 (m : MethodId) (u0 : Int64) (a : Addr) (at0 : Int32) : entryFrame m #[(.long u0), (.ref a), (.int at0)] 7 = mkF m 0 #[.val (.long u0), .second, .val (.ref a), .val (.int at0), .unset, .unset, .unset] [] := by first | (simp [entryFrame, mkF, argsToLocals, Value.category]; done) | rfl
theorem pn_1 : plainName "com/example/reducer/reducer/analysis/Base128" = true := by first | (simp [plainName, overriddenIn]; done) | decide +kernel
set_option maxRecDepth 65536 in
set_option maxHeartbeats 40000000 in
theorem rm1 {l : Launch} {Z : State} {a0 : Array Value} {n0 : Nat} {h : Heap} (hw : ∀ d ∈ tables_1, d.before a0 Z = true) (hn : n0 ≤ h.size) (u0 : Int64) (a : Addr) (at0 : Int32) (A u : Nat) (g : Nat → Int32) (eu : u0 = Int64.ofNat u) (eA : at0 = Int32.ofNat A) (hA : A < 4) (hu : u < 9223372036854775808) (B : Ba Z n0 h a .byte 13 (bI g)) :
    Ctr l Z n0 (⟨"com/example/reducer/reducer/analysis/Base128", "write", "(J[BI)I"⟩ : MethodName) prog_1_method_4_code 7 (some .int) ({ frames := 0, cells := 0, slots := 0, locals := 0 } : Room) [] #[(.long u0), (.ref a), (.int at0)] h (fun v h' => v = some (.int (Int32.ofNat (A + sz 8 u))) ∧ Keep h h' [a] ∧ Ba Z n0 h' a .byte 13 (bI (pl 8 g A u))) := by
  refine ctr_of (plainFor_of_name pn_1) hw hn ?_
  intro p e s m below meth c T X
  refine Wp.cast (ef_1 m u0 a at0) ?_
  subst eA eu
  refine w_lloadN X D1_0 rfl ?_
  refine w_lstore X D1_1 (l' := #[.val (.long (Int64.ofNat u)), .second, .val (.ref a), .val (.int (Int32.ofNat A)), .val (.long (Int64.ofNat u)), .second, .unset]) rfl ?_
  refine w_iloadN X D1_3 rfl ?_
  refine w_istore X D1_4 (l' := #[.val (.long (Int64.ofNat u)), .second, .val (.ref a), .val (.int (Int32.ofNat A)), .val (.long (Int64.ofNat u)), .second, .val (.int (Int32.ofNat A))]) rfl ?_
  exact loopW hw (by decide) (by decide) a _ _ 13 8 A u g T h (by omega) hu (by omega) (by omega) X B (fun h' K B => ⟨rfl, K, B⟩)
theorem ef_2 (m : MethodId) (u0 : Int64) : entryFrame m #[(.long u0)] 2 = mkF m 0 #[.val (.long u0), .second] [] := by first | (simp [entryFrame, mkF, argsToLocals, Value.category]; done) | rfl
theorem pn_2 : plainName "com/example/reducer/reducer/analysis/Base128WritePinLaw" = true := by first | (simp [plainName, overriddenIn]; done) | decide +kernel
set_option maxRecDepth 65536 in
set_option maxHeartbeats 40000000 in
theorem rm2 {l : Launch} {Z : State} {a0 : Array Value} {n0 : Nat} {h : Heap} (hw : ∀ d ∈ tables_1, d.before a0 Z = true) (hn : n0 ≤ h.size) (u0 : Int64) (u : Nat) (hu : u < 9223372036854775808) (eu : u0 = Int64.ofNat u) :
    Ctr l Z n0 (⟨"com/example/reducer/reducer/analysis/Base128WritePinLaw", "digits", "(J)I"⟩ : MethodName) method_3_code 2 (some .int) ({ frames := 0, cells := 0, slots := 0, locals := 0 } : Room) [] #[(.long u0)] h (fun v h' => v = some (.int (Int32.ofNat (sz 8 u))) ∧ h = h') := by
  refine ctr_of (plainFor_of_name pn_2) hw hn ?_
  intro p e s m below meth c T X
  refine Wp.cast (ef_2 m u0) ?_
  subst eu
  refine w_lloadN X D2_0 rfl ?_
  refine w_ldc2 X D2_1 (hw _ (List.mem_of_getElem? (i := 11) rfl)) ?_
  refine w_lcmpge X D2_4 D2_5 (fun hc5 => ?_) (fun hc5 => ?_)
  · refine w_lloadN X D2_10 rfl ?_
    refine w_ldc2 X D2_11 (hw _ (List.mem_of_getElem? (i := 17) rfl)) ?_
    refine w_lcmpge X D2_14 D2_15 (fun hc15 => ?_) (fun hc15 => ?_)
    · refine w_lloadN X D2_20 rfl ?_
      refine w_ldc2 X D2_21 (hw _ (List.mem_of_getElem? (i := 18) rfl)) ?_
      refine w_lcmpge X D2_24 D2_25 (fun hc25 => ?_) (fun hc25 => ?_)
      · refine w_lloadN X D2_30 rfl ?_
        refine w_ldc2 X D2_31 (hw _ (List.mem_of_getElem? (i := 19) rfl)) ?_
        refine w_lcmpge X D2_34 D2_35 (fun hc35 => ?_) (fun hc35 => ?_)
        · refine w_lloadN X D2_40 rfl ?_
          refine w_ldc2 X D2_41 (hw _ (List.mem_of_getElem? (i := 20) rfl)) ?_
          refine w_lcmpge X D2_44 D2_45 (fun hc45 => ?_) (fun hc45 => ?_)
          · refine w_lloadN X D2_50 rfl ?_
            refine w_ldc2 X D2_51 (hw _ (List.mem_of_getElem? (i := 21) rfl)) ?_
            refine w_lcmpge X D2_54 D2_55 (fun hc55 => ?_) (fun hc55 => ?_)
            · refine w_lloadN X D2_61 rfl ?_
              refine w_ldc2 X D2_62 (hw _ (List.mem_of_getElem? (i := 22) rfl)) ?_
              refine w_lcmpge X D2_65 D2_66 (fun hc66 => ?_) (fun hc66 => ?_)
              · refine w_lloadN X D2_72 rfl ?_
                refine w_ldc2 X D2_73 (hw _ (List.mem_of_getElem? (i := 23) rfl)) ?_
                refine w_lcmpge X D2_76 D2_77 (fun hc77 => ?_) (fun hc77 => ?_)
                · refine w_bipush X D2_83 (v := (9 : Int32)) rfl ?_
                  exact w_ireturn X D2_85 (by decide) (by decide) (⟨by
                                        have f5 : ¬ u < 128 := fun z => hc5 ((nL_lt (b := 128) hu (by decide)).mpr z)
                                        have f15 : ¬ u < 16384 := fun z => hc15 ((nL_lt (b := 16384) hu (by decide)).mpr z)
                                        have f25 : ¬ u < 2097152 := fun z => hc25 ((nL_lt (b := 2097152) hu (by decide)).mpr z)
                                        have f35 : ¬ u < 268435456 := fun z => hc35 ((nL_lt (b := 268435456) hu (by decide)).mpr z)
                                        have f45 : ¬ u < 34359738368 := fun z => hc45 ((nL_lt (b := 34359738368) hu (by decide)).mpr z)
                                        have f55 : ¬ u < 4398046511104 := fun z => hc55 ((nL_lt (b := 4398046511104) hu (by decide)).mpr z)
                                        have f66 : ¬ u < 562949953421312 := fun z => hc66 ((nL_lt (b := 562949953421312) hu (by decide)).mpr z)
                                        have f77 : ¬ u < 72057594037927936 := fun z => hc77 ((nL_lt (b := 72057594037927936) hu (by decide)).mpr z)
                                        rw [own_end u hu]
                                        simp only [f5, f15, f25, f35, f45, f55, f66, f77, if_true, if_false]
                                        rfl, rfl⟩)
                · refine w_bipush X D2_80 (v := (8 : Int32)) rfl ?_
                  exact w_ireturn X D2_82 (by decide) (by decide) (⟨by
                                        have f5 : ¬ u < 128 := fun z => hc5 ((nL_lt (b := 128) hu (by decide)).mpr z)
                                        have f15 : ¬ u < 16384 := fun z => hc15 ((nL_lt (b := 16384) hu (by decide)).mpr z)
                                        have f25 : ¬ u < 2097152 := fun z => hc25 ((nL_lt (b := 2097152) hu (by decide)).mpr z)
                                        have f35 : ¬ u < 268435456 := fun z => hc35 ((nL_lt (b := 268435456) hu (by decide)).mpr z)
                                        have f45 : ¬ u < 34359738368 := fun z => hc45 ((nL_lt (b := 34359738368) hu (by decide)).mpr z)
                                        have f55 : ¬ u < 4398046511104 := fun z => hc55 ((nL_lt (b := 4398046511104) hu (by decide)).mpr z)
                                        have f66 : ¬ u < 562949953421312 := fun z => hc66 ((nL_lt (b := 562949953421312) hu (by decide)).mpr z)
                                        have f77 : u < 72057594037927936 := (nL_lt (b := 72057594037927936) hu (by decide)).mp hc77
                                        rw [own_end u hu]
                                        simp only [f5, f15, f25, f35, f45, f55, f66, f77, if_true, if_false]
                                        rfl, rfl⟩)
              · refine w_bipush X D2_69 (v := (7 : Int32)) rfl ?_
                exact w_ireturn X D2_71 (by decide) (by decide) (⟨by
                                    have f5 : ¬ u < 128 := fun z => hc5 ((nL_lt (b := 128) hu (by decide)).mpr z)
                                    have f15 : ¬ u < 16384 := fun z => hc15 ((nL_lt (b := 16384) hu (by decide)).mpr z)
                                    have f25 : ¬ u < 2097152 := fun z => hc25 ((nL_lt (b := 2097152) hu (by decide)).mpr z)
                                    have f35 : ¬ u < 268435456 := fun z => hc35 ((nL_lt (b := 268435456) hu (by decide)).mpr z)
                                    have f45 : ¬ u < 34359738368 := fun z => hc45 ((nL_lt (b := 34359738368) hu (by decide)).mpr z)
                                    have f55 : ¬ u < 4398046511104 := fun z => hc55 ((nL_lt (b := 4398046511104) hu (by decide)).mpr z)
                                    have f66 : u < 562949953421312 := (nL_lt (b := 562949953421312) hu (by decide)).mp hc66
                                    rw [own_end u hu]
                                    simp only [f5, f15, f25, f35, f45, f55, f66, if_true, if_false]
                                    rfl, rfl⟩)
            · refine w_bipush X D2_58 (v := (6 : Int32)) rfl ?_
              exact w_ireturn X D2_60 (by decide) (by decide) (⟨by
                                have f5 : ¬ u < 128 := fun z => hc5 ((nL_lt (b := 128) hu (by decide)).mpr z)
                                have f15 : ¬ u < 16384 := fun z => hc15 ((nL_lt (b := 16384) hu (by decide)).mpr z)
                                have f25 : ¬ u < 2097152 := fun z => hc25 ((nL_lt (b := 2097152) hu (by decide)).mpr z)
                                have f35 : ¬ u < 268435456 := fun z => hc35 ((nL_lt (b := 268435456) hu (by decide)).mpr z)
                                have f45 : ¬ u < 34359738368 := fun z => hc45 ((nL_lt (b := 34359738368) hu (by decide)).mpr z)
                                have f55 : u < 4398046511104 := (nL_lt (b := 4398046511104) hu (by decide)).mp hc55
                                rw [own_end u hu]
                                simp only [f5, f15, f25, f35, f45, f55, if_true, if_false]
                                rfl, rfl⟩)
          · refine w_iconst X D2_48 (v := (5 : Int32)) rfl ?_
            exact w_ireturn X D2_49 (by decide) (by decide) (⟨by
                            have f5 : ¬ u < 128 := fun z => hc5 ((nL_lt (b := 128) hu (by decide)).mpr z)
                            have f15 : ¬ u < 16384 := fun z => hc15 ((nL_lt (b := 16384) hu (by decide)).mpr z)
                            have f25 : ¬ u < 2097152 := fun z => hc25 ((nL_lt (b := 2097152) hu (by decide)).mpr z)
                            have f35 : ¬ u < 268435456 := fun z => hc35 ((nL_lt (b := 268435456) hu (by decide)).mpr z)
                            have f45 : u < 34359738368 := (nL_lt (b := 34359738368) hu (by decide)).mp hc45
                            rw [own_end u hu]
                            simp only [f5, f15, f25, f35, f45, if_true, if_false]
                            rfl, rfl⟩)
        · refine w_iconst X D2_38 (v := (4 : Int32)) rfl ?_
          exact w_ireturn X D2_39 (by decide) (by decide) (⟨by
                        have f5 : ¬ u < 128 := fun z => hc5 ((nL_lt (b := 128) hu (by decide)).mpr z)
                        have f15 : ¬ u < 16384 := fun z => hc15 ((nL_lt (b := 16384) hu (by decide)).mpr z)
                        have f25 : ¬ u < 2097152 := fun z => hc25 ((nL_lt (b := 2097152) hu (by decide)).mpr z)
                        have f35 : u < 268435456 := (nL_lt (b := 268435456) hu (by decide)).mp hc35
                        rw [own_end u hu]
                        simp only [f5, f15, f25, f35, if_true, if_false]
                        rfl, rfl⟩)
      · refine w_iconst X D2_28 (v := (3 : Int32)) rfl ?_
        exact w_ireturn X D2_29 (by decide) (by decide) (⟨by
                    have f5 : ¬ u < 128 := fun z => hc5 ((nL_lt (b := 128) hu (by decide)).mpr z)
                    have f15 : ¬ u < 16384 := fun z => hc15 ((nL_lt (b := 16384) hu (by decide)).mpr z)
                    have f25 : u < 2097152 := (nL_lt (b := 2097152) hu (by decide)).mp hc25
                    rw [own_end u hu]
                    simp only [f5, f15, f25, if_true, if_false]
                    rfl, rfl⟩)
    · refine w_iconst X D2_18 (v := (2 : Int32)) rfl ?_
      exact w_ireturn X D2_19 (by decide) (by decide) (⟨by
                have f5 : ¬ u < 128 := fun z => hc5 ((nL_lt (b := 128) hu (by decide)).mpr z)
                have f15 : u < 16384 := (nL_lt (b := 16384) hu (by decide)).mp hc15
                rw [own_end u hu]
                simp only [f5, f15, if_true, if_false]
                rfl, rfl⟩)
  · refine w_iconst X D2_8 (v := (1 : Int32)) rfl ?_
    exact w_ireturn X D2_9 (by decide) (by decide) (⟨by
            have f5 : u < 128 := (nL_lt (b := 128) hu (by decide)).mp hc5
            rw [own_end u hu]
            simp only [f5, if_true, if_false]
            rfl, rfl⟩)
theorem ef_3 (m : MethodId) (a : Addr) (i0 : Int32) (u0 : Int64) (at0 : Int32) (nn : Int32) (f : Int32) : entryFrame m #[(.ref a), (.int i0), (.long u0), (.int at0), (.int nn), (.int f)] 10 = mkF m 0 #[.val (.ref a), .val (.int i0), .val (.long u0), .second, .val (.int at0), .val (.int nn), .val (.int f), .unset, .unset, .unset] [] := by first | (simp [entryFrame, mkF, argsToLocals, Value.category]; done) | rfl
theorem pn_3 : plainName "com/example/reducer/reducer/analysis/Base128WritePinLaw" = true := by first | (simp [plainName, overriddenIn]; done) | decide +kernel
set_option maxRecDepth 65536 in
set_option maxHeartbeats 40000000 in
theorem rm3 {l : Launch} {Z : State} {a0 : Array Value} {n0 : Nat} {h : Heap} (hw : ∀ d ∈ tables_1, d.before a0 Z = true) (hn : n0 ≤ h.size) (a : Addr) (i0 : Int32) (u0 : Int64) (at0 : Int32) (nn : Int32) (f : Int32) (I A N u : Nat) (g : Nat → Int32) (hI : I < 13) (hA : A < 4) (hN : N ≤ 9) (hu : u < 9223372036854775808) (eI : i0 = Int32.ofNat I) (eA : at0 = Int32.ofNat A) (eN : nn = Int32.ofNat N) (eu : u0 = Int64.ofNat u) (hg : g I = ck I A N u f) (B : Ba Z n0 h a .byte 13 (bI g)) :
    Ctr l Z n0 (⟨"com/example/reducer/reducer/analysis/Base128WritePinLaw", "check", "([BIJIIB)Z"⟩ : MethodName) method_4_code 10 (some .boolean) ({ frames := 0, cells := 0, slots := 0, locals := 0 } : Room) [] #[(.ref a), (.int i0), (.long u0), (.int at0), (.int nn), (.int f)] h (fun v h' => v = some (.int 1) ∧ h = h') := by
  refine ctr_of (plainFor_of_name pn_3) hw hn ?_
  intro p e s m below meth c T X
  refine Wp.cast (ef_3 m a i0 u0 at0 nn f) ?_
  subst eI eA eN eu
  by_cases hIA : I < A
  · refine w_iloadN X D3_0 rfl ?_
    refine w_iload X D3_1 rfl ?_
    refine w_isub X D3_3 ?_
    refine w_istore X D3_4 (l' := #[.val (.ref a), .val (.int (Int32.ofNat I)), .val (.long (Int64.ofNat u)), .second, .val (.int (Int32.ofNat A)), .val (.int (Int32.ofNat N)), .val (.int f), .val (.int ((Int32.ofNat I) - (Int32.ofNat A))), .unset, .unset]) rfl ?_
    refine w_iload X D3_6 rfl ?_
    refine w_iflt X D3_8 (fun hc8 => ?_) (fun hc8 => by exact absurd (sub_neg (by omega) (by omega) hIA) hc8)
    refine w_iload X D3_18 rfl ?_
    refine w_istore X D3_20 (l' := #[.val (.ref a), .val (.int (Int32.ofNat I)), .val (.long (Int64.ofNat u)), .second, .val (.int (Int32.ofNat A)), .val (.int (Int32.ofNat N)), .val (.int f), .val (.int ((Int32.ofNat I) - (Int32.ofNat A))), .val (.int f), .unset]) rfl ?_
    refine w_goto X D3_22 ?_
    refine w_aloadN X D3_61 rfl rfl ?_
    refine w_iloadN X D3_62 rfl ?_
    refine w_baload X D3_63 B I rfl (by omega) ?_
    refine w_iload X D3_64 rfl ?_
    refine w_icmpne X D3_66 (fun hc66 => by exact absurd (hg.trans (by rw [ck, if_pos (Or.inl hIA)])) hc66) (fun hc66 => ?_)
    refine w_iconst X D3_69 (v := (1 : Int32)) rfl ?_
    refine w_goto X D3_70 ?_
    exact w_zreturn X D3_74 (by decide) (by decide) (⟨rfl, rfl⟩)
  · refine w_iloadN X D3_0 rfl ?_
    refine w_iload X D3_1 rfl ?_
    refine w_isub X D3_3 ?_
    rw [n_sub (show A ≤ I by omega)]
    refine w_istore X D3_4 (l' := #[.val (.ref a), .val (.int (Int32.ofNat I)), .val (.long (Int64.ofNat u)), .second, .val (.int (Int32.ofNat A)), .val (.int (Int32.ofNat N)), .val (.int f), .val (.int (Int32.ofNat (I - A))), .unset, .unset]) rfl ?_
    refine w_iload X D3_6 rfl ?_
    refine w_iflt X D3_8 (fun hc8 => by exact absurd hc8 (ofNat_nn (by omega))) (fun hc8 => ?_)
    refine w_iload X D3_11 rfl ?_
    refine w_iload X D3_13 rfl ?_
    refine w_icmplt X D3_15 (fun hc15 => ?_) (fun hc15 => ?_)
    · refine w_lloadN X D3_25 rfl ?_
      refine w_bipush X D3_26 (v := (7 : Int32)) rfl ?_
      refine w_iload X D3_28 rfl ?_
      refine w_imul X D3_30 ?_
      rw [show (7 : Int32) * Int32.ofNat (I - A) = Int32.ofNat (7 * (I - A)) from n_mul 7 (I - A)]
      refine w_lushr X D3_31 ?_
      have h2 : I - A < N := (ofNat_lt (by omega) (by omega)).mp hc15
      rw [nL_ushr hu (show 7 * (I - A) < 64 by omega), Nat.pow_mul, show 2 ^ 7 = 128 from rfl]
      refine w_ldc2 X D3_32 (hw _ (List.mem_of_getElem? (i := 15) rfl)) ?_
      refine w_land X D3_35 ?_
      rw [show Int64.ofNat (u / 128 ^ (I - A)) &&& 127 = Int64.ofNat (u / 128 ^ (I - A) % 128) from nL_low _ 7]
      refine w_l2i X D3_36 ?_
      rw [n_l2i]
      refine w_istore X D3_37 (l' := #[.val (.ref a), .val (.int (Int32.ofNat I)), .val (.long (Int64.ofNat u)), .second, .val (.int (Int32.ofNat A)), .val (.int (Int32.ofNat N)), .val (.int f), .val (.int (Int32.ofNat (I - A))), .unset, .val (.int (Int32.ofNat (u / 128 ^ (I - A) % 128)))]) rfl ?_
      refine w_iload X D3_39 rfl ?_
      refine w_iload X D3_41 rfl ?_
      refine w_iconst X D3_43 (v := (1 : Int32)) rfl ?_
      refine w_isub X D3_44 ?_
      rw [show Int32.ofNat N - 1 = Int32.ofNat (N - 1) from n_sub (b := 1) (by omega)]
      refine w_icmpge X D3_45 (fun hc45 => ?_) (fun hc45 => ?_)
      · refine w_iload X D3_56 rfl ?_
        refine w_i2b X D3_58 ?_
        refine w_istore X D3_59 (l' := #[.val (.ref a), .val (.int (Int32.ofNat I)), .val (.long (Int64.ofNat u)), .second, .val (.int (Int32.ofNat A)), .val (.int (Int32.ofNat N)), .val (.int f), .val (.int (Int32.ofNat (I - A))), .val (.int (jbyte (Int32.ofNat (u / 128 ^ (I - A) % 128)))), .val (.int (Int32.ofNat (u / 128 ^ (I - A) % 128)))]) rfl ?_
        refine w_aloadN X D3_61 rfl rfl ?_
        refine w_iloadN X D3_62 rfl ?_
        refine w_baload X D3_63 B I rfl (by omega) ?_
        refine w_iload X D3_64 rfl ?_
        refine w_icmpne X D3_66 (fun hc66 => by have h3 : ¬ (I - A < N - 1) := (fun z => hc45 ((ofNat_lt (by omega) (by omega)).mpr z)); exact absurd (hg.trans (by rw [ck, if_neg (by omega), dig, if_neg (by omega)])) hc66) (fun hc66 => ?_)
        refine w_iconst X D3_69 (v := (1 : Int32)) rfl ?_
        refine w_goto X D3_70 ?_
        exact w_zreturn X D3_74 (by decide) (by decide) (⟨rfl, rfl⟩)
      · refine w_iload X D3_48 rfl ?_
        refine w_sipush X D3_50 (v := (128 : Int32)) rfl ?_
        refine w_ior X D3_53 ?_
        rw [show Int32.ofNat (u / 128 ^ (I - A) % 128) ||| 128 = Int32.ofNat (128 + u / 128 ^ (I - A) % 128) from (Int32.or_comm _ _).trans (n_orlow (i := 7) 1 (Nat.mod_lt _ (by decide)))]
        refine w_istore X D3_54 (l' := #[.val (.ref a), .val (.int (Int32.ofNat I)), .val (.long (Int64.ofNat u)), .second, .val (.int (Int32.ofNat A)), .val (.int (Int32.ofNat N)), .val (.int f), .val (.int (Int32.ofNat (I - A))), .unset, .val (.int (Int32.ofNat (128 + u / 128 ^ (I - A) % 128)))]) rfl ?_
        refine w_iload X D3_56 rfl ?_
        refine w_i2b X D3_58 ?_
        refine w_istore X D3_59 (l' := #[.val (.ref a), .val (.int (Int32.ofNat I)), .val (.long (Int64.ofNat u)), .second, .val (.int (Int32.ofNat A)), .val (.int (Int32.ofNat N)), .val (.int f), .val (.int (Int32.ofNat (I - A))), .val (.int (jbyte (Int32.ofNat (128 + u / 128 ^ (I - A) % 128)))), .val (.int (Int32.ofNat (128 + u / 128 ^ (I - A) % 128)))]) rfl ?_
        refine w_aloadN X D3_61 rfl rfl ?_
        refine w_iloadN X D3_62 rfl ?_
        refine w_baload X D3_63 B I rfl (by omega) ?_
        refine w_iload X D3_64 rfl ?_
        refine w_icmpne X D3_66 (fun hc66 => by have h3 : I - A < N - 1 := (ofNat_lt (by omega) (by omega)).mp hc45; exact absurd (hg.trans (by rw [ck, if_neg (by omega), dig, if_pos (by omega)])) hc66) (fun hc66 => ?_)
        refine w_iconst X D3_69 (v := (1 : Int32)) rfl ?_
        refine w_goto X D3_70 ?_
        exact w_zreturn X D3_74 (by decide) (by decide) (⟨rfl, rfl⟩)
    · refine w_iload X D3_18 rfl ?_
      refine w_istore X D3_20 (l' := #[.val (.ref a), .val (.int (Int32.ofNat I)), .val (.long (Int64.ofNat u)), .second, .val (.int (Int32.ofNat A)), .val (.int (Int32.ofNat N)), .val (.int f), .val (.int (Int32.ofNat (I - A))), .val (.int f), .unset]) rfl ?_
      refine w_goto X D3_22 ?_
      refine w_aloadN X D3_61 rfl rfl ?_
      refine w_iloadN X D3_62 rfl ?_
      refine w_baload X D3_63 B I rfl (by omega) ?_
      refine w_iload X D3_64 rfl ?_
      refine w_icmpne X D3_66 (fun hc66 => by exact absurd (hg.trans (by rw [ck, if_pos (Or.inr (Nat.le_of_not_lt fun z => hc15 ((ofNat_lt (by omega) (by omega)).mpr (by omega))))])) hc66) (fun hc66 => ?_)
      refine w_iconst X D3_69 (v := (1 : Int32)) rfl ?_
      refine w_goto X D3_70 ?_
      exact w_zreturn X D3_74 (by decide) (by decide) (⟨rfl, rfl⟩)
theorem ef_0 (m : MethodId) (a : Int64) (b : Int32) (c0 : Int32) (d : Int32) : entryFrame m #[(.long a), (.int b), (.int c0), (.int d)] maxLocals = mkF m 0 #[.val (.long a), .second, .val (.int b), .val (.int c0), .val (.int d), .unset, .unset, .unset, .unset, .unset, .unset, .unset, .unset] [] := by first | (simp [entryFrame, mkF, argsToLocals, Value.category, maxLocals]; done) | rfl
theorem pn_0 : plainName "com/example/reducer/reducer/analysis/Base128WritePinLaw" = true := by first | (simp [plainName, overriddenIn]; done) | decide +kernel
set_option maxRecDepth 65536 in
set_option maxHeartbeats 40000000 in
theorem rm0 {l : Launch} {Z : State} {a0 : Array Value} {n0 : Nat} {h : Heap} (hw : ∀ d ∈ tables_1, d.before a0 Z = true) (hn : n0 ≤ h.size) (a : Int64) (b : Int32) (c0 : Int32) (d : Int32) :
    Ctr l Z n0 x code maxLocals ret room_1 tables_1 #[(.long a), (.int b), (.int c0), (.int d)] h (fun v h' => v = some (.int 1)) := by
  refine ctr_of (plainFor_of_name pn_0) hw hn ?_
  intro p e s m below meth c T X
  refine Wp.cast (ef_0 m a b c0 d) ?_
  refine w_lloadN X D0_0 rfl ?_
  refine w_ldc2 X D0_1 (hw _ (List.mem_of_getElem? (i := 0) rfl)) ?_
  refine w_land X D0_4 ?_
  refine w_iloadN X D0_5 rfl ?_
  refine w_bipush X D0_6 (v := (63 : Int32)) rfl ?_
  refine w_iand X D0_8 ?_
  refine w_lushr X D0_9 ?_
  refine w_lstoreE X D0_10 (l' := fun z_ => #[.val (.long a), .second, .val (.int b), .val (.int c0), .val (.int d), .val (.long z_), .second, .unset, .unset, .unset, .unset, .unset, .unset]) (fun _ => rfl) (fun ln e_ln => ?_)
  obtain ⟨u, hu, eu⟩ := own_len a b
  rw [← e_ln] at eu
  subst eu
  refine w_iloadN X D0_12 rfl ?_
  refine w_iconst X D0_13 (v := (3 : Int32)) rfl ?_
  refine w_iand X D0_14 ?_
  refine w_istoreE X D0_15 (l' := fun z_ => #[.val (.long a), .second, .val (.int b), .val (.int c0), .val (.int d), .val (.long (Int64.ofNat u)), .second, .val (.int z_), .unset, .unset, .unset, .unset, .unset]) (fun _ => rfl) (fun at1 e_at1 => ?_)
  obtain ⟨A, hA, eA⟩ := own_at c0
  rw [← e_at1] at eA
  subst eA
  refine w_iload X D0_17 rfl ?_
  refine w_i2b X D0_19 ?_
  refine w_istoreE X D0_20 (l' := fun z_ => #[.val (.long a), .second, .val (.int b), .val (.int c0), .val (.int d), .val (.long (Int64.ofNat u)), .second, .val (.int (Int32.ofNat A)), .val (.int z_), .unset, .unset, .unset, .unset]) (fun _ => rfl) (fun f e_f => ?_)
  refine w_bipush X D0_22 (v := (13 : Int32)) rfl ?_
  refine w_newB X D0_24 (hw _ (List.mem_of_getElem? (i := 1) rfl)) 13 13 rfl (Nat.le_of_ble_eq_true rfl) (by decide) (Nat.le_of_ble_eq_true rfl) (Nat.le_of_ble_eq_true rfl) (fun T1 h1 a1 X1 g1 E1 B1 => ?_)
  refine w_dup X1 D0_26 rfl ?_
  refine w_iconst X1 D0_27 (v := (0 : Int32)) rfl ?_
  refine w_iload X1 D0_28 rfl ?_
  refine w_bastore X1 D0_30 B1 0 rfl (by decide) (fun T2 h2 X2 K2 B2 => ?_)
  refine w_dup X2 D0_31 rfl ?_
  refine w_iconst X2 D0_32 (v := (1 : Int32)) rfl ?_
  refine w_iload X2 D0_33 rfl ?_
  refine w_bastore X2 D0_35 B2 1 rfl (by decide) (fun T3 h3 X3 K3 B3 => ?_)
  refine w_dup X3 D0_36 rfl ?_
  refine w_iconst X3 D0_37 (v := (2 : Int32)) rfl ?_
  refine w_iload X3 D0_38 rfl ?_
  refine w_bastore X3 D0_40 B3 2 rfl (by decide) (fun T4 h4 X4 K4 B4 => ?_)
  refine w_dup X4 D0_41 rfl ?_
  refine w_iconst X4 D0_42 (v := (3 : Int32)) rfl ?_
  refine w_iload X4 D0_43 rfl ?_
  refine w_bastore X4 D0_45 B4 3 rfl (by decide) (fun T5 h5 X5 K5 B5 => ?_)
  refine w_dup X5 D0_46 rfl ?_
  refine w_iconst X5 D0_47 (v := (4 : Int32)) rfl ?_
  refine w_iload X5 D0_48 rfl ?_
  refine w_bastore X5 D0_50 B5 4 rfl (by decide) (fun T6 h6 X6 K6 B6 => ?_)
  refine w_dup X6 D0_51 rfl ?_
  refine w_iconst X6 D0_52 (v := (5 : Int32)) rfl ?_
  refine w_iload X6 D0_53 rfl ?_
  refine w_bastore X6 D0_55 B6 5 rfl (by decide) (fun T7 h7 X7 K7 B7 => ?_)
  refine w_dup X7 D0_56 rfl ?_
  refine w_bipush X7 D0_57 (v := (6 : Int32)) rfl ?_
  refine w_iload X7 D0_59 rfl ?_
  refine w_bastore X7 D0_61 B7 6 rfl (by decide) (fun T8 h8 X8 K8 B8 => ?_)
  refine w_dup X8 D0_62 rfl ?_
  refine w_bipush X8 D0_63 (v := (7 : Int32)) rfl ?_
  refine w_iload X8 D0_65 rfl ?_
  refine w_bastore X8 D0_67 B8 7 rfl (by decide) (fun T9 h9 X9 K9 B9 => ?_)
  refine w_dup X9 D0_68 rfl ?_
  refine w_bipush X9 D0_69 (v := (8 : Int32)) rfl ?_
  refine w_iload X9 D0_71 rfl ?_
  refine w_bastore X9 D0_73 B9 8 rfl (by decide) (fun T10 h10 X10 K10 B10 => ?_)
  refine w_dup X10 D0_74 rfl ?_
  refine w_bipush X10 D0_75 (v := (9 : Int32)) rfl ?_
  refine w_iload X10 D0_77 rfl ?_
  refine w_bastore X10 D0_79 B10 9 rfl (by decide) (fun T11 h11 X11 K11 B11 => ?_)
  refine w_dup X11 D0_80 rfl ?_
  refine w_bipush X11 D0_81 (v := (10 : Int32)) rfl ?_
  refine w_iload X11 D0_83 rfl ?_
  refine w_bastore X11 D0_85 B11 10 rfl (by decide) (fun T12 h12 X12 K12 B12 => ?_)
  refine w_dup X12 D0_86 rfl ?_
  refine w_bipush X12 D0_87 (v := (11 : Int32)) rfl ?_
  refine w_iload X12 D0_89 rfl ?_
  refine w_bastore X12 D0_91 B12 11 rfl (by decide) (fun T13 h13 X13 K13 B13 => ?_)
  refine w_dup X13 D0_92 rfl ?_
  refine w_bipush X13 D0_93 (v := (12 : Int32)) rfl ?_
  refine w_iload X13 D0_95 rfl ?_
  refine w_bastore X13 D0_97 B13 12 rfl (by decide) (fun T14 h14 X14 K14 B14 => ?_)
  have hf : jbyte f = f := by rw [e_f]; exact jbyte_idem d
  have Bg : Ba Z n0 h14 a1 .byte 13 (bI (fun _ => f)) := B14.congr (fun i hi => by
    have hc : i = 0 ∨ i = 1 ∨ i = 2 ∨ i = 3 ∨ i = 4 ∨ i = 5 ∨ i = 6 ∨ i = 7 ∨ i = 8 ∨ i = 9 ∨ i = 10 ∨ i = 11 ∨ i = 12 := by omega
    rcases hc with rfl | rfl | rfl | rfl | rfl | rfl | rfl | rfl | rfl | rfl | rfl | rfl | rfl <;> exact congrArg Value.int hf)
  refine w_astore X14 D0_98 (l' := #[.val (.long a), .second, .val (.int b), .val (.int c0), .val (.int d), .val (.long (Int64.ofNat u)), .second, .val (.int (Int32.ofNat A)), .val (.int f), .val (.ref a1), .unset, .unset, .unset]) rfl rfl ?_
  refine w_lload X14 D0_100 rfl ?_
  refine w_aload X14 D0_102 rfl rfl ?_
  refine w_iload X14 D0_104 rfl ?_
  refine w_static X14 D0_106 (rm1 hw X14.sz _ a1 _ A u _ rfl rfl hA hu Bg) (hw _ (List.mem_of_getElem? (i := 2) rfl)) (hw _ (List.mem_of_getElem? (i := 3) rfl)) (hw _ (List.mem_of_getElem? (i := 4) rfl)) (hw _ (List.mem_of_getElem? (i := 5) rfl)) (by decide) pd_0 rfl (S := []) rfl rfl (Nat.le_of_ble_eq_true rfl) (Nat.le_of_ble_eq_true rfl) (Nat.le_of_ble_eq_true rfl) (Nat.le_of_ble_eq_true rfl) (fun v15 T15 h15 X15 q15 => ?_)
  obtain ⟨rfl, Kp, Bp⟩ := q15
  have hsz := sz_le 8 u
  show Wp _ _ _ _ _ _ _ _ (mkF m 109 #[.val (.long a), .second, .val (.int b), .val (.int c0), .val (.int d), .val (.long (Int64.ofNat u)), .second, .val (.int (Int32.ofNat A)), .val (.int f), .val (.ref a1), .unset, .unset, .unset] [(.int (Int32.ofNat (A + sz 8 u)))])
  refine w_istore X15 D0_109 (l' := #[.val (.long a), .second, .val (.int b), .val (.int c0), .val (.int d), .val (.long (Int64.ofNat u)), .second, .val (.int (Int32.ofNat A)), .val (.int f), .val (.ref a1), .val (.int (Int32.ofNat (A + sz 8 u))), .unset, .unset]) rfl ?_
  refine w_lload X15 D0_111 rfl ?_
  refine w_static X15 D0_113 (rm2 hw X15.sz _ u hu rfl) (hw _ (List.mem_of_getElem? (i := 7) rfl)) (hw _ (List.mem_of_getElem? (i := 8) rfl)) (hw _ (List.mem_of_getElem? (i := 9) rfl)) (hw _ (List.mem_of_getElem? (i := 10) rfl)) (by decide) pd_1 rfl (S := []) rfl rfl (Nat.le_of_ble_eq_true rfl) (Nat.le_of_ble_eq_true rfl) (Nat.le_of_ble_eq_true rfl) (Nat.le_of_ble_eq_true rfl) (fun v16 T16 h16 X16 q16 => ?_)
  obtain ⟨rfl, rfl⟩ := q16
  show Wp _ _ _ _ _ _ _ _ (mkF m 116 #[.val (.long a), .second, .val (.int b), .val (.int c0), .val (.int d), .val (.long (Int64.ofNat u)), .second, .val (.int (Int32.ofNat A)), .val (.int f), .val (.ref a1), .val (.int (Int32.ofNat (A + sz 8 u))), .unset, .unset] [(.int (Int32.ofNat (sz 8 u)))])
  refine w_istore X16 D0_116 (l' := #[.val (.long a), .second, .val (.int b), .val (.int c0), .val (.int d), .val (.long (Int64.ofNat u)), .second, .val (.int (Int32.ofNat A)), .val (.int f), .val (.ref a1), .val (.int (Int32.ofNat (A + sz 8 u))), .val (.int (Int32.ofNat (sz 8 u))), .unset]) rfl ?_
  refine w_iload X16 D0_118 rfl ?_
  refine w_iload X16 D0_120 rfl ?_
  refine w_iload X16 D0_122 rfl ?_
  refine w_iadd X16 D0_124 ?_
  refine w_icmpne X16 D0_125 (fun hc125 => by exact absurd (n_add _ _).symm hc125) (fun hc125 => ?_)
  refine w_iconst X16 D0_128 (v := (1 : Int32)) rfl ?_
  refine w_goto X16 D0_129 ?_
  refine w_istore X16 D0_133 (l' := #[.val (.long a), .second, .val (.int b), .val (.int c0), .val (.int d), .val (.long (Int64.ofNat u)), .second, .val (.int (Int32.ofNat A)), .val (.int f), .val (.ref a1), .val (.int (Int32.ofNat (A + sz 8 u))), .val (.int (Int32.ofNat (sz 8 u))), .val (.int (1 : Int32))]) rfl ?_
  refine w_iload X16 D0_135 rfl ?_
  refine w_ifeq X16 D0_137 (fun hc137 => by exact absurd hc137 (by decide)) (fun hc137 => ?_)
  refine w_aload X16 D0_140 rfl rfl ?_
  refine w_iconst X16 D0_142 (v := (0 : Int32)) rfl ?_
  refine w_lload X16 D0_143 rfl ?_
  refine w_iload X16 D0_145 rfl ?_
  refine w_iload X16 D0_147 rfl ?_
  refine w_iload X16 D0_149 rfl ?_
  refine w_static X16 D0_151 (rm3 hw X16.sz a1 _ _ _ _ f 0 A (sz 8 u) u _ (by decide) hA hsz hu rfl rfl rfl rfl (own_check 0 A u f hu) Bp) (hw _ (List.mem_of_getElem? (i := 12) rfl)) (hw _ (List.mem_of_getElem? (i := 13) rfl)) (hw _ (List.mem_of_getElem? (i := 9) rfl)) (hw _ (List.mem_of_getElem? (i := 14) rfl)) (by decide) pd_2 rfl (S := []) rfl rfl (Nat.le_of_ble_eq_true rfl) (Nat.le_of_ble_eq_true rfl) (Nat.le_of_ble_eq_true rfl) (Nat.le_of_ble_eq_true rfl) (fun v17 T17 h17 X17 q17 => ?_)
  obtain ⟨rfl, rfl⟩ := q17
  show Wp _ _ _ _ _ _ _ _ (mkF m 154 #[.val (.long a), .second, .val (.int b), .val (.int c0), .val (.int d), .val (.long (Int64.ofNat u)), .second, .val (.int (Int32.ofNat A)), .val (.int f), .val (.ref a1), .val (.int (Int32.ofNat (A + sz 8 u))), .val (.int (Int32.ofNat (sz 8 u))), .val (.int (1 : Int32))] [(.int (1 : Int32))])
  refine w_ifeq X17 D0_154 (fun hc154 => by exact absurd hc154 (by decide)) (fun hc154 => ?_)
  refine w_iconst X17 D0_157 (v := (1 : Int32)) rfl ?_
  refine w_goto X17 D0_158 ?_
  refine w_istore X17 D0_162 (l' := #[.val (.long a), .second, .val (.int b), .val (.int c0), .val (.int d), .val (.long (Int64.ofNat u)), .second, .val (.int (Int32.ofNat A)), .val (.int f), .val (.ref a1), .val (.int (Int32.ofNat (A + sz 8 u))), .val (.int (Int32.ofNat (sz 8 u))), .val (.int (1 : Int32))]) rfl ?_
  refine w_iload X17 D0_164 rfl ?_
  refine w_ifeq X17 D0_166 (fun hc166 => by exact absurd hc166 (by decide)) (fun hc166 => ?_)
  refine w_aload X17 D0_169 rfl rfl ?_
  refine w_iconst X17 D0_171 (v := (1 : Int32)) rfl ?_
  refine w_lload X17 D0_172 rfl ?_
  refine w_iload X17 D0_174 rfl ?_
  refine w_iload X17 D0_176 rfl ?_
  refine w_iload X17 D0_178 rfl ?_
  refine w_static X17 D0_180 (rm3 hw X17.sz a1 _ _ _ _ f 1 A (sz 8 u) u _ (by decide) hA hsz hu rfl rfl rfl rfl (own_check 1 A u f hu) Bp) (hw _ (List.mem_of_getElem? (i := 12) rfl)) (hw _ (List.mem_of_getElem? (i := 13) rfl)) (hw _ (List.mem_of_getElem? (i := 9) rfl)) (hw _ (List.mem_of_getElem? (i := 14) rfl)) (by decide) pd_2 rfl (S := []) rfl rfl (Nat.le_of_ble_eq_true rfl) (Nat.le_of_ble_eq_true rfl) (Nat.le_of_ble_eq_true rfl) (Nat.le_of_ble_eq_true rfl) (fun v18 T18 h18 X18 q18 => ?_)
  obtain ⟨rfl, rfl⟩ := q18
  show Wp _ _ _ _ _ _ _ _ (mkF m 183 #[.val (.long a), .second, .val (.int b), .val (.int c0), .val (.int d), .val (.long (Int64.ofNat u)), .second, .val (.int (Int32.ofNat A)), .val (.int f), .val (.ref a1), .val (.int (Int32.ofNat (A + sz 8 u))), .val (.int (Int32.ofNat (sz 8 u))), .val (.int (1 : Int32))] [(.int (1 : Int32))])
  refine w_ifeq X18 D0_183 (fun hc183 => by exact absurd hc183 (by decide)) (fun hc183 => ?_)
  refine w_iconst X18 D0_186 (v := (1 : Int32)) rfl ?_
  refine w_goto X18 D0_187 ?_
  refine w_istore X18 D0_191 (l' := #[.val (.long a), .second, .val (.int b), .val (.int c0), .val (.int d), .val (.long (Int64.ofNat u)), .second, .val (.int (Int32.ofNat A)), .val (.int f), .val (.ref a1), .val (.int (Int32.ofNat (A + sz 8 u))), .val (.int (Int32.ofNat (sz 8 u))), .val (.int (1 : Int32))]) rfl ?_
  refine w_iload X18 D0_193 rfl ?_
  refine w_ifeq X18 D0_195 (fun hc195 => by exact absurd hc195 (by decide)) (fun hc195 => ?_)
  refine w_aload X18 D0_198 rfl rfl ?_
  refine w_iconst X18 D0_200 (v := (2 : Int32)) rfl ?_
  refine w_lload X18 D0_201 rfl ?_
  refine w_iload X18 D0_203 rfl ?_
  refine w_iload X18 D0_205 rfl ?_
  refine w_iload X18 D0_207 rfl ?_
  refine w_static X18 D0_209 (rm3 hw X18.sz a1 _ _ _ _ f 2 A (sz 8 u) u _ (by decide) hA hsz hu rfl rfl rfl rfl (own_check 2 A u f hu) Bp) (hw _ (List.mem_of_getElem? (i := 12) rfl)) (hw _ (List.mem_of_getElem? (i := 13) rfl)) (hw _ (List.mem_of_getElem? (i := 9) rfl)) (hw _ (List.mem_of_getElem? (i := 14) rfl)) (by decide) pd_2 rfl (S := []) rfl rfl (Nat.le_of_ble_eq_true rfl) (Nat.le_of_ble_eq_true rfl) (Nat.le_of_ble_eq_true rfl) (Nat.le_of_ble_eq_true rfl) (fun v19 T19 h19 X19 q19 => ?_)
  obtain ⟨rfl, rfl⟩ := q19
  show Wp _ _ _ _ _ _ _ _ (mkF m 212 #[.val (.long a), .second, .val (.int b), .val (.int c0), .val (.int d), .val (.long (Int64.ofNat u)), .second, .val (.int (Int32.ofNat A)), .val (.int f), .val (.ref a1), .val (.int (Int32.ofNat (A + sz 8 u))), .val (.int (Int32.ofNat (sz 8 u))), .val (.int (1 : Int32))] [(.int (1 : Int32))])
  refine w_ifeq X19 D0_212 (fun hc212 => by exact absurd hc212 (by decide)) (fun hc212 => ?_)
  refine w_iconst X19 D0_215 (v := (1 : Int32)) rfl ?_
  refine w_goto X19 D0_216 ?_
  refine w_istore X19 D0_220 (l' := #[.val (.long a), .second, .val (.int b), .val (.int c0), .val (.int d), .val (.long (Int64.ofNat u)), .second, .val (.int (Int32.ofNat A)), .val (.int f), .val (.ref a1), .val (.int (Int32.ofNat (A + sz 8 u))), .val (.int (Int32.ofNat (sz 8 u))), .val (.int (1 : Int32))]) rfl ?_
  refine w_iload X19 D0_222 rfl ?_
  refine w_ifeq X19 D0_224 (fun hc224 => by exact absurd hc224 (by decide)) (fun hc224 => ?_)
  refine w_aload X19 D0_227 rfl rfl ?_
  refine w_iconst X19 D0_229 (v := (3 : Int32)) rfl ?_
  refine w_lload X19 D0_230 rfl ?_
  refine w_iload X19 D0_232 rfl ?_
  refine w_iload X19 D0_234 rfl ?_
  refine w_iload X19 D0_236 rfl ?_
  refine w_static X19 D0_238 (rm3 hw X19.sz a1 _ _ _ _ f 3 A (sz 8 u) u _ (by decide) hA hsz hu rfl rfl rfl rfl (own_check 3 A u f hu) Bp) (hw _ (List.mem_of_getElem? (i := 12) rfl)) (hw _ (List.mem_of_getElem? (i := 13) rfl)) (hw _ (List.mem_of_getElem? (i := 9) rfl)) (hw _ (List.mem_of_getElem? (i := 14) rfl)) (by decide) pd_2 rfl (S := []) rfl rfl (Nat.le_of_ble_eq_true rfl) (Nat.le_of_ble_eq_true rfl) (Nat.le_of_ble_eq_true rfl) (Nat.le_of_ble_eq_true rfl) (fun v20 T20 h20 X20 q20 => ?_)
  obtain ⟨rfl, rfl⟩ := q20
  show Wp _ _ _ _ _ _ _ _ (mkF m 241 #[.val (.long a), .second, .val (.int b), .val (.int c0), .val (.int d), .val (.long (Int64.ofNat u)), .second, .val (.int (Int32.ofNat A)), .val (.int f), .val (.ref a1), .val (.int (Int32.ofNat (A + sz 8 u))), .val (.int (Int32.ofNat (sz 8 u))), .val (.int (1 : Int32))] [(.int (1 : Int32))])
  refine w_ifeq X20 D0_241 (fun hc241 => by exact absurd hc241 (by decide)) (fun hc241 => ?_)
  refine w_iconst X20 D0_244 (v := (1 : Int32)) rfl ?_
  refine w_goto X20 D0_245 ?_
  refine w_istore X20 D0_249 (l' := #[.val (.long a), .second, .val (.int b), .val (.int c0), .val (.int d), .val (.long (Int64.ofNat u)), .second, .val (.int (Int32.ofNat A)), .val (.int f), .val (.ref a1), .val (.int (Int32.ofNat (A + sz 8 u))), .val (.int (Int32.ofNat (sz 8 u))), .val (.int (1 : Int32))]) rfl ?_
  refine w_iload X20 D0_251 rfl ?_
  refine w_ifeq X20 D0_253 (fun hc253 => by exact absurd hc253 (by decide)) (fun hc253 => ?_)
  refine w_aload X20 D0_256 rfl rfl ?_
  refine w_iconst X20 D0_258 (v := (4 : Int32)) rfl ?_
  refine w_lload X20 D0_259 rfl ?_
  refine w_iload X20 D0_261 rfl ?_
  refine w_iload X20 D0_263 rfl ?_
  refine w_iload X20 D0_265 rfl ?_
  refine w_static X20 D0_267 (rm3 hw X20.sz a1 _ _ _ _ f 4 A (sz 8 u) u _ (by decide) hA hsz hu rfl rfl rfl rfl (own_check 4 A u f hu) Bp) (hw _ (List.mem_of_getElem? (i := 12) rfl)) (hw _ (List.mem_of_getElem? (i := 13) rfl)) (hw _ (List.mem_of_getElem? (i := 9) rfl)) (hw _ (List.mem_of_getElem? (i := 14) rfl)) (by decide) pd_2 rfl (S := []) rfl rfl (Nat.le_of_ble_eq_true rfl) (Nat.le_of_ble_eq_true rfl) (Nat.le_of_ble_eq_true rfl) (Nat.le_of_ble_eq_true rfl) (fun v21 T21 h21 X21 q21 => ?_)
  obtain ⟨rfl, rfl⟩ := q21
  show Wp _ _ _ _ _ _ _ _ (mkF m 270 #[.val (.long a), .second, .val (.int b), .val (.int c0), .val (.int d), .val (.long (Int64.ofNat u)), .second, .val (.int (Int32.ofNat A)), .val (.int f), .val (.ref a1), .val (.int (Int32.ofNat (A + sz 8 u))), .val (.int (Int32.ofNat (sz 8 u))), .val (.int (1 : Int32))] [(.int (1 : Int32))])
  refine w_ifeq X21 D0_270 (fun hc270 => by exact absurd hc270 (by decide)) (fun hc270 => ?_)
  refine w_iconst X21 D0_273 (v := (1 : Int32)) rfl ?_
  refine w_goto X21 D0_274 ?_
  refine w_istore X21 D0_278 (l' := #[.val (.long a), .second, .val (.int b), .val (.int c0), .val (.int d), .val (.long (Int64.ofNat u)), .second, .val (.int (Int32.ofNat A)), .val (.int f), .val (.ref a1), .val (.int (Int32.ofNat (A + sz 8 u))), .val (.int (Int32.ofNat (sz 8 u))), .val (.int (1 : Int32))]) rfl ?_
  refine w_iload X21 D0_280 rfl ?_
  refine w_ifeq X21 D0_282 (fun hc282 => by exact absurd hc282 (by decide)) (fun hc282 => ?_)
  refine w_aload X21 D0_285 rfl rfl ?_
  refine w_iconst X21 D0_287 (v := (5 : Int32)) rfl ?_
  refine w_lload X21 D0_288 rfl ?_
  refine w_iload X21 D0_290 rfl ?_
  refine w_iload X21 D0_292 rfl ?_
  refine w_iload X21 D0_294 rfl ?_
  refine w_static X21 D0_296 (rm3 hw X21.sz a1 _ _ _ _ f 5 A (sz 8 u) u _ (by decide) hA hsz hu rfl rfl rfl rfl (own_check 5 A u f hu) Bp) (hw _ (List.mem_of_getElem? (i := 12) rfl)) (hw _ (List.mem_of_getElem? (i := 13) rfl)) (hw _ (List.mem_of_getElem? (i := 9) rfl)) (hw _ (List.mem_of_getElem? (i := 14) rfl)) (by decide) pd_2 rfl (S := []) rfl rfl (Nat.le_of_ble_eq_true rfl) (Nat.le_of_ble_eq_true rfl) (Nat.le_of_ble_eq_true rfl) (Nat.le_of_ble_eq_true rfl) (fun v22 T22 h22 X22 q22 => ?_)
  obtain ⟨rfl, rfl⟩ := q22
  show Wp _ _ _ _ _ _ _ _ (mkF m 299 #[.val (.long a), .second, .val (.int b), .val (.int c0), .val (.int d), .val (.long (Int64.ofNat u)), .second, .val (.int (Int32.ofNat A)), .val (.int f), .val (.ref a1), .val (.int (Int32.ofNat (A + sz 8 u))), .val (.int (Int32.ofNat (sz 8 u))), .val (.int (1 : Int32))] [(.int (1 : Int32))])
  refine w_ifeq X22 D0_299 (fun hc299 => by exact absurd hc299 (by decide)) (fun hc299 => ?_)
  refine w_iconst X22 D0_302 (v := (1 : Int32)) rfl ?_
  refine w_goto X22 D0_303 ?_
  refine w_istore X22 D0_307 (l' := #[.val (.long a), .second, .val (.int b), .val (.int c0), .val (.int d), .val (.long (Int64.ofNat u)), .second, .val (.int (Int32.ofNat A)), .val (.int f), .val (.ref a1), .val (.int (Int32.ofNat (A + sz 8 u))), .val (.int (Int32.ofNat (sz 8 u))), .val (.int (1 : Int32))]) rfl ?_
  refine w_iload X22 D0_309 rfl ?_
  refine w_ifeq X22 D0_311 (fun hc311 => by exact absurd hc311 (by decide)) (fun hc311 => ?_)
  refine w_aload X22 D0_314 rfl rfl ?_
  refine w_bipush X22 D0_316 (v := (6 : Int32)) rfl ?_
  refine w_lload X22 D0_318 rfl ?_
  refine w_iload X22 D0_320 rfl ?_
  refine w_iload X22 D0_322 rfl ?_
  refine w_iload X22 D0_324 rfl ?_
  refine w_static X22 D0_326 (rm3 hw X22.sz a1 _ _ _ _ f 6 A (sz 8 u) u _ (by decide) hA hsz hu rfl rfl rfl rfl (own_check 6 A u f hu) Bp) (hw _ (List.mem_of_getElem? (i := 12) rfl)) (hw _ (List.mem_of_getElem? (i := 13) rfl)) (hw _ (List.mem_of_getElem? (i := 9) rfl)) (hw _ (List.mem_of_getElem? (i := 14) rfl)) (by decide) pd_2 rfl (S := []) rfl rfl (Nat.le_of_ble_eq_true rfl) (Nat.le_of_ble_eq_true rfl) (Nat.le_of_ble_eq_true rfl) (Nat.le_of_ble_eq_true rfl) (fun v23 T23 h23 X23 q23 => ?_)
  obtain ⟨rfl, rfl⟩ := q23
  show Wp _ _ _ _ _ _ _ _ (mkF m 329 #[.val (.long a), .second, .val (.int b), .val (.int c0), .val (.int d), .val (.long (Int64.ofNat u)), .second, .val (.int (Int32.ofNat A)), .val (.int f), .val (.ref a1), .val (.int (Int32.ofNat (A + sz 8 u))), .val (.int (Int32.ofNat (sz 8 u))), .val (.int (1 : Int32))] [(.int (1 : Int32))])
  refine w_ifeq X23 D0_329 (fun hc329 => by exact absurd hc329 (by decide)) (fun hc329 => ?_)
  refine w_iconst X23 D0_332 (v := (1 : Int32)) rfl ?_
  refine w_goto X23 D0_333 ?_
  refine w_istore X23 D0_337 (l' := #[.val (.long a), .second, .val (.int b), .val (.int c0), .val (.int d), .val (.long (Int64.ofNat u)), .second, .val (.int (Int32.ofNat A)), .val (.int f), .val (.ref a1), .val (.int (Int32.ofNat (A + sz 8 u))), .val (.int (Int32.ofNat (sz 8 u))), .val (.int (1 : Int32))]) rfl ?_
  refine w_iload X23 D0_339 rfl ?_
  refine w_ifeq X23 D0_341 (fun hc341 => by exact absurd hc341 (by decide)) (fun hc341 => ?_)
  refine w_aload X23 D0_344 rfl rfl ?_
  refine w_bipush X23 D0_346 (v := (7 : Int32)) rfl ?_
  refine w_lload X23 D0_348 rfl ?_
  refine w_iload X23 D0_350 rfl ?_
  refine w_iload X23 D0_352 rfl ?_
  refine w_iload X23 D0_354 rfl ?_
  refine w_static X23 D0_356 (rm3 hw X23.sz a1 _ _ _ _ f 7 A (sz 8 u) u _ (by decide) hA hsz hu rfl rfl rfl rfl (own_check 7 A u f hu) Bp) (hw _ (List.mem_of_getElem? (i := 12) rfl)) (hw _ (List.mem_of_getElem? (i := 13) rfl)) (hw _ (List.mem_of_getElem? (i := 9) rfl)) (hw _ (List.mem_of_getElem? (i := 14) rfl)) (by decide) pd_2 rfl (S := []) rfl rfl (Nat.le_of_ble_eq_true rfl) (Nat.le_of_ble_eq_true rfl) (Nat.le_of_ble_eq_true rfl) (Nat.le_of_ble_eq_true rfl) (fun v24 T24 h24 X24 q24 => ?_)
  obtain ⟨rfl, rfl⟩ := q24
  show Wp _ _ _ _ _ _ _ _ (mkF m 359 #[.val (.long a), .second, .val (.int b), .val (.int c0), .val (.int d), .val (.long (Int64.ofNat u)), .second, .val (.int (Int32.ofNat A)), .val (.int f), .val (.ref a1), .val (.int (Int32.ofNat (A + sz 8 u))), .val (.int (Int32.ofNat (sz 8 u))), .val (.int (1 : Int32))] [(.int (1 : Int32))])
  refine w_ifeq X24 D0_359 (fun hc359 => by exact absurd hc359 (by decide)) (fun hc359 => ?_)
  refine w_iconst X24 D0_362 (v := (1 : Int32)) rfl ?_
  refine w_goto X24 D0_363 ?_
  refine w_istore X24 D0_367 (l' := #[.val (.long a), .second, .val (.int b), .val (.int c0), .val (.int d), .val (.long (Int64.ofNat u)), .second, .val (.int (Int32.ofNat A)), .val (.int f), .val (.ref a1), .val (.int (Int32.ofNat (A + sz 8 u))), .val (.int (Int32.ofNat (sz 8 u))), .val (.int (1 : Int32))]) rfl ?_
  refine w_iload X24 D0_369 rfl ?_
  refine w_ifeq X24 D0_371 (fun hc371 => by exact absurd hc371 (by decide)) (fun hc371 => ?_)
  refine w_aload X24 D0_374 rfl rfl ?_
  refine w_bipush X24 D0_376 (v := (8 : Int32)) rfl ?_
  refine w_lload X24 D0_378 rfl ?_
  refine w_iload X24 D0_380 rfl ?_
  refine w_iload X24 D0_382 rfl ?_
  refine w_iload X24 D0_384 rfl ?_
  refine w_static X24 D0_386 (rm3 hw X24.sz a1 _ _ _ _ f 8 A (sz 8 u) u _ (by decide) hA hsz hu rfl rfl rfl rfl (own_check 8 A u f hu) Bp) (hw _ (List.mem_of_getElem? (i := 12) rfl)) (hw _ (List.mem_of_getElem? (i := 13) rfl)) (hw _ (List.mem_of_getElem? (i := 9) rfl)) (hw _ (List.mem_of_getElem? (i := 14) rfl)) (by decide) pd_2 rfl (S := []) rfl rfl (Nat.le_of_ble_eq_true rfl) (Nat.le_of_ble_eq_true rfl) (Nat.le_of_ble_eq_true rfl) (Nat.le_of_ble_eq_true rfl) (fun v25 T25 h25 X25 q25 => ?_)
  obtain ⟨rfl, rfl⟩ := q25
  show Wp _ _ _ _ _ _ _ _ (mkF m 389 #[.val (.long a), .second, .val (.int b), .val (.int c0), .val (.int d), .val (.long (Int64.ofNat u)), .second, .val (.int (Int32.ofNat A)), .val (.int f), .val (.ref a1), .val (.int (Int32.ofNat (A + sz 8 u))), .val (.int (Int32.ofNat (sz 8 u))), .val (.int (1 : Int32))] [(.int (1 : Int32))])
  refine w_ifeq X25 D0_389 (fun hc389 => by exact absurd hc389 (by decide)) (fun hc389 => ?_)
  refine w_iconst X25 D0_392 (v := (1 : Int32)) rfl ?_
  refine w_goto X25 D0_393 ?_
  refine w_istore X25 D0_397 (l' := #[.val (.long a), .second, .val (.int b), .val (.int c0), .val (.int d), .val (.long (Int64.ofNat u)), .second, .val (.int (Int32.ofNat A)), .val (.int f), .val (.ref a1), .val (.int (Int32.ofNat (A + sz 8 u))), .val (.int (Int32.ofNat (sz 8 u))), .val (.int (1 : Int32))]) rfl ?_
  refine w_iload X25 D0_399 rfl ?_
  refine w_ifeq X25 D0_401 (fun hc401 => by exact absurd hc401 (by decide)) (fun hc401 => ?_)
  refine w_aload X25 D0_404 rfl rfl ?_
  refine w_bipush X25 D0_406 (v := (9 : Int32)) rfl ?_
  refine w_lload X25 D0_408 rfl ?_
  refine w_iload X25 D0_410 rfl ?_
  refine w_iload X25 D0_412 rfl ?_
  refine w_iload X25 D0_414 rfl ?_
  refine w_static X25 D0_416 (rm3 hw X25.sz a1 _ _ _ _ f 9 A (sz 8 u) u _ (by decide) hA hsz hu rfl rfl rfl rfl (own_check 9 A u f hu) Bp) (hw _ (List.mem_of_getElem? (i := 12) rfl)) (hw _ (List.mem_of_getElem? (i := 13) rfl)) (hw _ (List.mem_of_getElem? (i := 9) rfl)) (hw _ (List.mem_of_getElem? (i := 14) rfl)) (by decide) pd_2 rfl (S := []) rfl rfl (Nat.le_of_ble_eq_true rfl) (Nat.le_of_ble_eq_true rfl) (Nat.le_of_ble_eq_true rfl) (Nat.le_of_ble_eq_true rfl) (fun v26 T26 h26 X26 q26 => ?_)
  obtain ⟨rfl, rfl⟩ := q26
  show Wp _ _ _ _ _ _ _ _ (mkF m 419 #[.val (.long a), .second, .val (.int b), .val (.int c0), .val (.int d), .val (.long (Int64.ofNat u)), .second, .val (.int (Int32.ofNat A)), .val (.int f), .val (.ref a1), .val (.int (Int32.ofNat (A + sz 8 u))), .val (.int (Int32.ofNat (sz 8 u))), .val (.int (1 : Int32))] [(.int (1 : Int32))])
  refine w_ifeq X26 D0_419 (fun hc419 => by exact absurd hc419 (by decide)) (fun hc419 => ?_)
  refine w_iconst X26 D0_422 (v := (1 : Int32)) rfl ?_
  refine w_goto X26 D0_423 ?_
  refine w_istore X26 D0_427 (l' := #[.val (.long a), .second, .val (.int b), .val (.int c0), .val (.int d), .val (.long (Int64.ofNat u)), .second, .val (.int (Int32.ofNat A)), .val (.int f), .val (.ref a1), .val (.int (Int32.ofNat (A + sz 8 u))), .val (.int (Int32.ofNat (sz 8 u))), .val (.int (1 : Int32))]) rfl ?_
  refine w_iload X26 D0_429 rfl ?_
  refine w_ifeq X26 D0_431 (fun hc431 => by exact absurd hc431 (by decide)) (fun hc431 => ?_)
  refine w_aload X26 D0_434 rfl rfl ?_
  refine w_bipush X26 D0_436 (v := (10 : Int32)) rfl ?_
  refine w_lload X26 D0_438 rfl ?_
  refine w_iload X26 D0_440 rfl ?_
  refine w_iload X26 D0_442 rfl ?_
  refine w_iload X26 D0_444 rfl ?_
  refine w_static X26 D0_446 (rm3 hw X26.sz a1 _ _ _ _ f 10 A (sz 8 u) u _ (by decide) hA hsz hu rfl rfl rfl rfl (own_check 10 A u f hu) Bp) (hw _ (List.mem_of_getElem? (i := 12) rfl)) (hw _ (List.mem_of_getElem? (i := 13) rfl)) (hw _ (List.mem_of_getElem? (i := 9) rfl)) (hw _ (List.mem_of_getElem? (i := 14) rfl)) (by decide) pd_2 rfl (S := []) rfl rfl (Nat.le_of_ble_eq_true rfl) (Nat.le_of_ble_eq_true rfl) (Nat.le_of_ble_eq_true rfl) (Nat.le_of_ble_eq_true rfl) (fun v27 T27 h27 X27 q27 => ?_)
  obtain ⟨rfl, rfl⟩ := q27
  show Wp _ _ _ _ _ _ _ _ (mkF m 449 #[.val (.long a), .second, .val (.int b), .val (.int c0), .val (.int d), .val (.long (Int64.ofNat u)), .second, .val (.int (Int32.ofNat A)), .val (.int f), .val (.ref a1), .val (.int (Int32.ofNat (A + sz 8 u))), .val (.int (Int32.ofNat (sz 8 u))), .val (.int (1 : Int32))] [(.int (1 : Int32))])
  refine w_ifeq X27 D0_449 (fun hc449 => by exact absurd hc449 (by decide)) (fun hc449 => ?_)
  refine w_iconst X27 D0_452 (v := (1 : Int32)) rfl ?_
  refine w_goto X27 D0_453 ?_
  refine w_istore X27 D0_457 (l' := #[.val (.long a), .second, .val (.int b), .val (.int c0), .val (.int d), .val (.long (Int64.ofNat u)), .second, .val (.int (Int32.ofNat A)), .val (.int f), .val (.ref a1), .val (.int (Int32.ofNat (A + sz 8 u))), .val (.int (Int32.ofNat (sz 8 u))), .val (.int (1 : Int32))]) rfl ?_
  refine w_iload X27 D0_459 rfl ?_
  refine w_ifeq X27 D0_461 (fun hc461 => by exact absurd hc461 (by decide)) (fun hc461 => ?_)
  refine w_aload X27 D0_464 rfl rfl ?_
  refine w_bipush X27 D0_466 (v := (11 : Int32)) rfl ?_
  refine w_lload X27 D0_468 rfl ?_
  refine w_iload X27 D0_470 rfl ?_
  refine w_iload X27 D0_472 rfl ?_
  refine w_iload X27 D0_474 rfl ?_
  refine w_static X27 D0_476 (rm3 hw X27.sz a1 _ _ _ _ f 11 A (sz 8 u) u _ (by decide) hA hsz hu rfl rfl rfl rfl (own_check 11 A u f hu) Bp) (hw _ (List.mem_of_getElem? (i := 12) rfl)) (hw _ (List.mem_of_getElem? (i := 13) rfl)) (hw _ (List.mem_of_getElem? (i := 9) rfl)) (hw _ (List.mem_of_getElem? (i := 14) rfl)) (by decide) pd_2 rfl (S := []) rfl rfl (Nat.le_of_ble_eq_true rfl) (Nat.le_of_ble_eq_true rfl) (Nat.le_of_ble_eq_true rfl) (Nat.le_of_ble_eq_true rfl) (fun v28 T28 h28 X28 q28 => ?_)
  obtain ⟨rfl, rfl⟩ := q28
  show Wp _ _ _ _ _ _ _ _ (mkF m 479 #[.val (.long a), .second, .val (.int b), .val (.int c0), .val (.int d), .val (.long (Int64.ofNat u)), .second, .val (.int (Int32.ofNat A)), .val (.int f), .val (.ref a1), .val (.int (Int32.ofNat (A + sz 8 u))), .val (.int (Int32.ofNat (sz 8 u))), .val (.int (1 : Int32))] [(.int (1 : Int32))])
  refine w_ifeq X28 D0_479 (fun hc479 => by exact absurd hc479 (by decide)) (fun hc479 => ?_)
  refine w_iconst X28 D0_482 (v := (1 : Int32)) rfl ?_
  refine w_goto X28 D0_483 ?_
  refine w_istore X28 D0_487 (l' := #[.val (.long a), .second, .val (.int b), .val (.int c0), .val (.int d), .val (.long (Int64.ofNat u)), .second, .val (.int (Int32.ofNat A)), .val (.int f), .val (.ref a1), .val (.int (Int32.ofNat (A + sz 8 u))), .val (.int (Int32.ofNat (sz 8 u))), .val (.int (1 : Int32))]) rfl ?_
  refine w_iload X28 D0_489 rfl ?_
  refine w_ifeq X28 D0_491 (fun hc491 => by exact absurd hc491 (by decide)) (fun hc491 => ?_)
  refine w_aload X28 D0_494 rfl rfl ?_
  refine w_bipush X28 D0_496 (v := (12 : Int32)) rfl ?_
  refine w_lload X28 D0_498 rfl ?_
  refine w_iload X28 D0_500 rfl ?_
  refine w_iload X28 D0_502 rfl ?_
  refine w_iload X28 D0_504 rfl ?_
  refine w_static X28 D0_506 (rm3 hw X28.sz a1 _ _ _ _ f 12 A (sz 8 u) u _ (by decide) hA hsz hu rfl rfl rfl rfl (own_check 12 A u f hu) Bp) (hw _ (List.mem_of_getElem? (i := 12) rfl)) (hw _ (List.mem_of_getElem? (i := 13) rfl)) (hw _ (List.mem_of_getElem? (i := 9) rfl)) (hw _ (List.mem_of_getElem? (i := 14) rfl)) (by decide) pd_2 rfl (S := []) rfl rfl (Nat.le_of_ble_eq_true rfl) (Nat.le_of_ble_eq_true rfl) (Nat.le_of_ble_eq_true rfl) (Nat.le_of_ble_eq_true rfl) (fun v29 T29 h29 X29 q29 => ?_)
  obtain ⟨rfl, rfl⟩ := q29
  show Wp _ _ _ _ _ _ _ _ (mkF m 509 #[.val (.long a), .second, .val (.int b), .val (.int c0), .val (.int d), .val (.long (Int64.ofNat u)), .second, .val (.int (Int32.ofNat A)), .val (.int f), .val (.ref a1), .val (.int (Int32.ofNat (A + sz 8 u))), .val (.int (Int32.ofNat (sz 8 u))), .val (.int (1 : Int32))] [(.int (1 : Int32))])
  refine w_ifeq X29 D0_509 (fun hc509 => by exact absurd hc509 (by decide)) (fun hc509 => ?_)
  refine w_iconst X29 D0_512 (v := (1 : Int32)) rfl ?_
  refine w_goto X29 D0_513 ?_
  refine w_istore X29 D0_517 (l' := #[.val (.long a), .second, .val (.int b), .val (.int c0), .val (.int d), .val (.long (Int64.ofNat u)), .second, .val (.int (Int32.ofNat A)), .val (.int f), .val (.ref a1), .val (.int (Int32.ofNat (A + sz 8 u))), .val (.int (Int32.ofNat (sz 8 u))), .val (.int (1 : Int32))]) rfl ?_
  refine w_iload X29 D0_519 rfl ?_
  exact w_zreturn X29 D0_521 (by decide) (by decide) (rfl)
set_option maxRecDepth 65536 in
set_option maxHeartbeats 40000000 in
theorem comes_1 {Post : Tables → Env → Array Value → State → Outcome → State → Prop} (hpost : ∀ tb e args s v u, (limb_1_1.after args s (.returned v) u = true ∧ limb_1_2.after args s (.returned v) u = true ∧ True) → FrameEnd s (.returned v) u (Jvm.fieldLocs frame_1_writes args s ++ Jvm.arrayLocs frame_1_arrays args s ++ Jvm.staticLocs frame_1_statics s) 16 128 → Post tb e args s (.returned v) u) :
    ArmFor flags0 classFile x code maxLocals ret World_1 tables_1 room_1 Calls_1 rest_1 Pre_1 Post := by
  intro l hfl _ _ p e ha hc hk s m args below hf hA hF happ hP
  obtain ⟨hcalls, hrest, hpre⟩ := hP
  obtain ⟨-, -, -, hnamed, -, -, -, hat⟩ := (Spec.applies_iff hf).mp happ
  obtain ⟨hg, hn⟩ := and_e (Cond.before_iff.mp (show (Jvm.Cond.and given_1 narrow_1).before args s = true from hpre))
  obtain ⟨hcount, g0⟩ := and_e hg
  obtain ⟨ga0, g1⟩ := and_e g0
  obtain ⟨ga1, g2⟩ := and_e g1
  obtain ⟨ga2, g3⟩ := and_e g2
  obtain ⟨w0, w1, w2, w3, rfl⟩ : ∃ w0 w1 w2 w3 : Value, args = #[w0, w1, w2, w3] := by
    have hs : args.size = 4 := by simpa [Cond.value, given_1] using hcount
    obtain ⟨L⟩ := args
    match L, hs with
    | [w0, w1, w2, w3], _ => exact ⟨w0, w1, w2, w3, rfl⟩
  have hw := fun d (hd : d ∈ tables_1) => atoms_spec (ws := Jvm.Cond.code x code maxLocals ret :: tables_1) hat d (List.mem_cons_of_mem _ hd)
  obtain ⟨i0, ei0⟩ := isL_v ga0
  obtain rfl : w0 = (.long i0) := Option.some.inj ei0
  obtain ⟨i1, ei1⟩ := is_v ga1
  obtain rfl : w1 = (.int i1) := Option.some.inj ei1
  obtain ⟨i2, ei2⟩ := is_v ga2
  obtain rfl : w2 = (.int i2) := Option.some.inj ei2
  obtain ⟨i3, ei3⟩ := is_v g3
  obtain rfl : w3 = (.int i3) := Option.some.inj ei3
  obtain ⟨n, o, h1, h2, h3, _, L, rfl, ⟨N, -, rfl⟩, hq⟩ := rm0 (l := l) (Z := s) (n0 := s.heap.size) (h := s.heap) hw (Nat.le_refl _) i0 i1 i2 i3 p e ha hc hk s m _ below hf ((Spec.applies_iff_loose hf).mp happ).1 ⟨rfl, State.Warmed39.refl s, rfl⟩ trivial
  refine ⟨n, _, h1, h2, h3, hpost _ _ _ _ _ _ ⟨Cond.after_iff.mpr rfl, Cond.after_iff.mpr (eq_i res_at (Term.int_eval (1)) rfl), trivial⟩ ⟨hq.1, hq.2.1, (hq.2.2.sift fun y hy => Or.inr (N y hy)).mono (by decide) (by decide)⟩⟩
theorem main_1_1 : Claimed_1_1 := comes_1 fun _ _ _ _ _ _ h hF => ⟨h.1, hF⟩
theorem main_1_2 : Claimed_1_2 := comes_1 fun _ _ _ _ _ _ h hF => ⟨h.2.1, hF⟩
end Jvm.Pilot.@@N@@
namespace Jvm.Pilot.@@N@@
open Jvm Jvm.ClassFile Sem Op Lib Jvm.Free Jvm.Stand Jvm.Pilot.@@N@@.Jvm.D
/-! MADE BY PROGRAM (witnessworld.py) out of the Statement's table words and the real class files: 9 classes; the members and pool entries that the words name. The judged class is class 1, her method 1. -/
namespace start1
open Jvm.ClassFile
def u (s : String) : CpInfo := .utf8 (stringToUtf16 s)
/-- a pool by its gaps: so many unusable entries, then the entry; so many at the end -/
def gap : Nat → List CpInfo → List CpInfo
  | 0, r => r
  | n + 1, r => .unusable :: gap n r
def poolList (es : List (Nat × CpInfo)) (last : Nat) : List CpInfo := es.foldr (fun e r => gap e.1 (e.2 :: r)) (gap last [])
def pool (es : List (Nat × CpInfo)) (last : Nat) : Array CpInfo := ⟨poolList es last⟩
def fileOf (pool : Array CpInfo) (this : Nat) (attrs : Array Attribute := #[]) (ms : Array MethodInfo := #[]) (fl : Nat := 33) (sup : Nat := 0) (ifs : Array Nat := #[]) (fds : Array FieldInfo := #[]) : ClassFile where
  minorVersion := 0
  majorVersion := 65
  constantPool := pool
  accessFlags := fl
  thisClass := this
  superClass := sup
  interfaces := ifs
  fields := fds
  methods := ms
  attributes := attrs
def plain (name : String) (sup : Option ClassId) : Class where
  name := name
  kind := .ordinary
  loader := none
  accessFlags := 33
  super := sup
  interfaces := #[]
  cf := none
  fields := #[]
  methods := #[]
  instanceTypes := #[]
  staticTypes := #[]
  resolved := #[]
  callSites := []
  init := .initialized
  statics := none
  mirror := none

def pool0 : Array CpInfo := pool [(5, u "<init>"), (0, u "()V"), (1, .class_ 10), (1, u "java/lang/Object")] 113

def k0m0 : Method := { name := "<init>", desc := "()V", sig := { parameters := [], returnType := none }, accessFlags := 1, code := none }
/-- java/lang/Object -/
def k0 : Class := { plain "java/lang/Object" none with
  accessFlags := 33
  interfaces := #[]
  cf := some (fileOf pool0 8 #[] #[{ accessFlags := 1, nameIndex := 5, descriptorIndex := 6, attributes := #[] }] 33 0 #[] #[])
  fields := #[]
  methods := #[k0m0]
  instanceTypes := #[]
  staticTypes := #[]
  resolved := Array.replicate 124 none
  statics := none }

def pool1 : Array CpInfo := pool [(2, .class_ 4), (1, u "java/lang/Object"), (0, u "<init>"), (0, u "()V"), (2, .long 9223372036854775807), (1, .methodref 12 13), (0, .class_ 14), (0, .nameAndType 15 16), (0, u "com/example/reducer/reducer/analysis/Base128"), (0, u "write"), (0, u "(J[BI)I"), (0, .methodref 18 19), (0, .class_ 20), (0, .nameAndType 21 22), (0, u "com/example/reducer/reducer/analysis/Base128WritePinLaw"), (0, u "digits"), (0, u "(J)I"), (0, .methodref 18 24), (0, .nameAndType 25 26), (0, u "check"), (0, u "([BIJIIB)Z"), (0, .long 128), (1, .long 16384), (1, .long 2097152), (1, .long 268435456), (1, .long 34359738368), (1, .long 4398046511104), (1, .long 562949953421312), (1, .long 72057594037927936), (1, .long 127), (3, u "law"), (0, u "(JIII)Z")] 5

def k1m0 : Method := { name := "<init>", desc := "()V", sig := { parameters := [], returnType := none }, accessFlags := 1, code := none }
def k1c1 : Code := { maxStack := 7, maxLocals := 13, code := code, exceptionTable := #[], attributes := #[] }
def k1m1 : Method := { name := "law", desc := "(JIII)Z", sig := { parameters := [.long, .int, .int, .int], returnType := some .boolean }, accessFlags := 9, code := some k1c1 }
def k1c2 : Code := { maxStack := 4, maxLocals := 2, code := method_3_code, exceptionTable := #[], attributes := #[] }
def k1m2 : Method := { name := "digits", desc := "(J)I", sig := { parameters := [.long], returnType := some .int }, accessFlags := 10, code := some k1c2 }
def k1c3 : Code := { maxStack := 4, maxLocals := 10, code := method_4_code, exceptionTable := #[], attributes := #[] }
def k1m3 : Method := { name := "check", desc := "([BIJIIB)Z", sig := { parameters := [(.array .byte), .int, .long, .int, .int, .byte], returnType := some .boolean }, accessFlags := 10, code := some k1c3 }
/-- com/example/reducer/reducer/analysis/Base128WritePinLaw -/
def k1 : Class := { plain "com/example/reducer/reducer/analysis/Base128WritePinLaw" (some 0) with
  accessFlags := 49
  interfaces := #[]
  cf := some (fileOf pool1 18 #[] #[{ accessFlags := 1, nameIndex := 5, descriptorIndex := 6, attributes := #[] }, { accessFlags := 9, nameIndex := 47, descriptorIndex := 48, attributes := #[] }, { accessFlags := 10, nameIndex := 21, descriptorIndex := 22, attributes := #[] }, { accessFlags := 10, nameIndex := 25, descriptorIndex := 26, attributes := #[] }] 49 2 #[] #[])
  fields := #[]
  methods := #[k1m0, k1m1, k1m2, k1m3]
  instanceTypes := #[]
  staticTypes := #[]
  resolved := Array.replicate 54 none
  statics := none }

def pool2 : Array CpInfo := pool [(2, .class_ 4), (1, u "java/lang/Object"), (0, u "<init>"), (0, u "()V"), (0, .class_ 8), (0, u "com/example/reducer/reducer/analysis/Base128"), (16, .long 127), (1, .long 128), (17, u "LONG_DIGITS"), (0, u "I"), (2, u "DIGIT"), (1, u "MORE"), (1, u "BITS"), (10, u "write"), (0, u "(J[BI)I")] 13

def k2m0 : Method := { name := "<init>", desc := "()V", sig := { parameters := [], returnType := none }, accessFlags := 2, code := none }
def k2c1 : Code := { maxStack := 6, maxLocals := 7, code := prog_1_method_4_code, exceptionTable := #[], attributes := #[] }
def k2m1 : Method := { name := "write", desc := "(J[BI)I", sig := { parameters := [.long, (.array .byte), .int], returnType := some .int }, accessFlags := 8, code := some k2c1 }
/-- com/example/reducer/reducer/analysis/Base128 -/
def k2 : Class := { plain "com/example/reducer/reducer/analysis/Base128" (some 0) with
  accessFlags := 32
  interfaces := #[]
  cf := some (fileOf pool2 7 #[] #[{ accessFlags := 2, nameIndex := 5, descriptorIndex := 6, attributes := #[] }, { accessFlags := 8, nameIndex := 64, descriptorIndex := 65, attributes := #[] }] 32 2 #[] #[{ accessFlags := 24, nameIndex := 45, descriptorIndex := 46, attributes := #[] }, { accessFlags := 26, nameIndex := 49, descriptorIndex := 46, attributes := #[] }, { accessFlags := 26, nameIndex := 51, descriptorIndex := 46, attributes := #[] }, { accessFlags := 26, nameIndex := 53, descriptorIndex := 46, attributes := #[] }])
  fields := #[{ name := "LONG_DIGITS", type := .int, accessFlags := 24, slot := 0, constantValue := 0 }, { name := "DIGIT", type := .int, accessFlags := 26, slot := 1, constantValue := 0 }, { name := "MORE", type := .int, accessFlags := 26, slot := 2, constantValue := 0 }, { name := "BITS", type := .int, accessFlags := 26, slot := 3, constantValue := 0 }]
  methods := #[k2m0, k2m1]
  instanceTypes := #[]
  staticTypes := #[.int, .int, .int, .int]
  resolved := Array.replicate 79 none
  statics := none }

def pool3 : Array CpInfo := pool [(1, u "java/lang/Cloneable"), (0, .class_ 1), (0, u "java/lang/Object"), (0, .class_ 3)] 3

/-- java/lang/Cloneable -/
def k3 : Class := { plain "java/lang/Cloneable" (some 0) with
  accessFlags := 1537
  interfaces := #[]
  cf := some (fileOf pool3 2 #[] #[] 1537 4 #[] #[])
  fields := #[]
  methods := #[]
  instanceTypes := #[]
  staticTypes := #[]
  resolved := Array.replicate 8 none
  statics := none }

def pool4 : Array CpInfo := pool [(1, u "java/io/Serializable"), (0, .class_ 1), (0, u "java/lang/Object"), (0, .class_ 3)] 3

/-- java/io/Serializable -/
def k4 : Class := { plain "java/io/Serializable" (some 0) with
  accessFlags := 1537
  interfaces := #[]
  cf := some (fileOf pool4 2 #[] #[] 1537 4 #[] #[])
  fields := #[]
  methods := #[]
  instanceTypes := #[]
  staticTypes := #[]
  resolved := Array.replicate 8 none
  statics := none }

/-- the primitive byte -/
def k5 : Class := { plain "byte" none with kind := .primitive 'B', accessFlags := 0x411 }
/-- [B -/
def k6 : Class := { plain "[B" (some 0) with kind := .array 5 .byte, interfaces := #[3, 4], accessFlags := 1041 }

/-- the primitive int -/
def k7 : Class := { plain "int" none with kind := .primitive 'I', accessFlags := 0x411 }
/-- [I -/
def k8 : Class := { plain "[I" (some 0) with kind := .array 7 .int, interfaces := #[3, 4], accessFlags := 1041 }

def heap : Heap := #[]
def classes : Array Class := #[k0, k1, k2, k3, k4, k5, k6, k7, k8]
def interned : List (Array UInt16 × Addr) := []
def slotsUsed : Nat := 0
def theMethod : MethodId := ⟨1, 1⟩
def args0 : Array Value := #[.long 300, .int 1, .int 2, .int 7]
def aboutOver (below : List Frame) : State where
  vm := { classes := classes, interned := interned.toArray }
  heap := heap
  slotsUsed := slotsUsed
  threads := #[{ frames := .invoking theMethod args0 :: below }]
def below0 : List Frame := [.native { method := ⟨0, 0⟩, args := #[] }]
def about1 : State := aboutOver below0
def p0 : Program := .bare "" "" ""
def e0 : Env := launch0.env 0 0 0
theorem w_frames : about1.frames = Frame.invoking theMethod args0 :: below0 := rfl
set_option maxRecDepth 65536 in
theorem w_args : argsFit about1.vm theMethod args0 = true := by decide +kernel
set_option maxRecDepth 65536 in
theorem w_heap : heapFits about1 = true := by decide +kernel
set_option maxRecDepth 65536 in
theorem w_runnable : about1.curStatus? = some .runnable := by decide +kernel
set_option maxRecDepth 65536 in
theorem w_alone : about1.alone = true := by decide +kernel
set_option maxRecDepth 65536 in
theorem w_named : about1.methodNamed? x = some theMethod := by decide +kernel
set_option maxRecDepth 65536 in
theorem w_hears : about1.hears theMethod below0 = true := by decide +kernel
set_option maxRecDepth 65536 in
theorem w_ripe : about1.ripe theMethod args0 below0 = true := by decide +kernel
theorem w_running : about1.status = .running := rfl
set_option maxRecDepth 65536 in
theorem w_room : about1.hasRoom e0.platform room_1 = true :=
  launch0.hasRoom_least _ room_1 (by decide +kernel) (by decide +kernel) (by decide +kernel) (by decide +kernel) (by decide +kernel) (by decide +kernel)
theorem allAtoms_all (ts : List Jvm.Cond) (a : Array Jvm.Value) (st : Jvm.State) : (allAtoms ts).before a st = ts.all (fun c => c.before a st) := by
  induction ts with
  | nil => rfl
  | cons c t ih =>
    show (Jvm.Cond.and c (allAtoms t)).before a st = _
    rw [Jvm.Cond.before_and, ih, List.all_cons]
def words1 : List Jvm.Cond := Jvm.Cond.code x code maxLocals ret :: tables_1
/-- a 'code' word, met by the world's own term for the bytes: nothing is compared byte by byte -/
theorem code_word {y : MethodName} {bytes : ByteArray} {mx : Nat} {rt : Option FieldType} {a : Array Value} {s : State} {m : MethodId} {meth : Method} {c : Code} (h1 : s.methodNamed? y = some m) (h2 : s.vm.method? m = some meth) (h3 : meth.code = some c) (h4 : c.code = bytes)
    (h5 : (c.maxLocals == mx && c.exceptionTable.isEmpty && decide (c.maxStack ≤ mostOperands) && decide (meth.sig.returnType = rt) && !meth.locks && decide (parseMethodDescriptor y.desc = some meth.sig)) = true) : (Jvm.Cond.code y bytes mx rt).before a s = true := by
  simp only [Bool.and_eq_true, beq_iff_eq, Bool.not_eq_true', decide_eq_true_eq] at h5
  obtain ⟨⟨⟨⟨⟨g1, g2⟩, g3⟩, g4⟩, g5⟩, g6⟩ := h5
  simp [Cond.before, Cond.holds, Cond.value, h1, h2, h3, h4, g1, g2, g3, g4, g5, g6]
def isCode : Jvm.Cond → Bool
  | .code _ _ _ _ => true
  | _ => false
theorem all_split {L : List Jvm.Cond} {P : Jvm.Cond → Bool} (h1 : L.all (fun c => isCode c || P c) = true) (h2 : ∀ c ∈ L.filter isCode, P c = true) : L.all P = true := by
  refine List.all_eq_true.mpr fun c hc => ?_
  have h := List.all_eq_true.mp h1 c hc
  rcases Bool.eq_false_or_eq_true (isCode c) with hi | hi
  · exact h2 c (List.mem_filter.mpr ⟨hc, hi⟩)
  · simpa [hi] using h
set_option maxRecDepth 65536 in
theorem w_c0 : (Jvm.Cond.code x code maxLocals ret).before args0 about1 = true := code_word (m := ⟨1, 1⟩) (meth := k1m1) (c := k1c1) (by decide +kernel) rfl rfl rfl (by decide +kernel)
set_option maxRecDepth 65536 in
theorem w_c1 : (Jvm.Cond.code ({ cls := "com/example/reducer/reducer/analysis/Base128", name := "write", desc := "(J[BI)I" } : Jvm.MethodName) prog_1_method_4_code (7 : Nat) (Option.some Jvm.ClassFile.FieldType.int)).before args0 about1 = true := code_word (m := ⟨2, 1⟩) (meth := k2m1) (c := k2c1) (by decide +kernel) rfl rfl rfl (by decide +kernel)
set_option maxRecDepth 65536 in
theorem w_c2 : (Jvm.Cond.code ({ cls := "com/example/reducer/reducer/analysis/Base128WritePinLaw", name := "digits", desc := "(J)I" } : Jvm.MethodName) method_3_code (2 : Nat) (Option.some Jvm.ClassFile.FieldType.int)).before args0 about1 = true := code_word (m := ⟨1, 2⟩) (meth := k1m2) (c := k1c2) (by decide +kernel) rfl rfl rfl (by decide +kernel)
set_option maxRecDepth 65536 in
theorem w_c3 : (Jvm.Cond.code ({ cls := "com/example/reducer/reducer/analysis/Base128WritePinLaw", name := "check", desc := "([BIJIIB)Z" } : Jvm.MethodName) method_4_code (10 : Nat) (Option.some Jvm.ClassFile.FieldType.boolean)).before args0 about1 = true := code_word (m := ⟨1, 3⟩) (meth := k1m3) (c := k1c3) (by decide +kernel) rfl rfl rfl (by decide +kernel)
def codes1 : List Jvm.Cond := [Jvm.Cond.code x code maxLocals ret, Jvm.Cond.code ({ cls := "com/example/reducer/reducer/analysis/Base128", name := "write", desc := "(J[BI)I" } : Jvm.MethodName) prog_1_method_4_code (7 : Nat) (Option.some Jvm.ClassFile.FieldType.int), Jvm.Cond.code ({ cls := "com/example/reducer/reducer/analysis/Base128WritePinLaw", name := "digits", desc := "(J)I" } : Jvm.MethodName) method_3_code (2 : Nat) (Option.some Jvm.ClassFile.FieldType.int), Jvm.Cond.code ({ cls := "com/example/reducer/reducer/analysis/Base128WritePinLaw", name := "check", desc := "([BIJIIB)Z" } : Jvm.MethodName) method_4_code (10 : Nat) (Option.some Jvm.ClassFile.FieldType.boolean)]
set_option maxRecDepth 65536 in
theorem codes_eq : words1.filter isCode = codes1 := rfl
theorem w_codes : ∀ c ∈ words1.filter isCode, c.before args0 about1 = true := by
  rw [codes_eq]
  intro c hc
  simp only [codes1, List.mem_cons, List.not_mem_nil, or_false] at hc
  rcases hc with rfl | rfl | rfl | rfl
  · exact w_c0
  · exact w_c1
  · exact w_c2
  · exact w_c3
set_option maxRecDepth 65536 in
theorem w_t1 : (words1.take 24).all (fun c => isCode c || c.before args0 about1) = true := by decide +kernel
set_option maxRecDepth 65536 in
theorem w_t2 : (words1.drop 24).all (fun c => isCode c || c.before args0 about1) = true := by decide +kernel
theorem w_tables : (allAtoms (Jvm.Cond.code x code maxLocals ret :: tables_1)).before args0 about1 = true := by
  rw [allAtoms_all]
  show words1.all (fun c => c.before args0 about1) = true
  refine all_split ?_ w_codes
  rw [← List.take_append_drop 24 words1, List.all_append, w_t1, w_t2]
  rfl
set_option maxRecDepth 65536 in
theorem w_case : (Jvm.Cond.and given_1 narrow_1).before args0 about1 = true := by decide +kernel
theorem w_applies : (headSpec (Jvm.Cond.code x code maxLocals ret :: tables_1) room_1).applies x e0.platform about1 = true :=
  (Spec.applies_iff w_frames).mpr ⟨w_running, w_runnable, w_alone, w_named, w_hears, w_ripe, w_room, w_tables⟩
theorem atStart : AtStart classFile x code maxLocals ret World_1 tables_1 room_1 Calls_1 rest_1 Pre_1 launch0 p0 e0 about1 theMethod args0 below0 :=
  ⟨lists_1, trivial, launch0.admits_env _ _ _, launch0.least_env, fairChoices_fair.cas, fairChoices_fair.clock, w_frames, w_args, w_heap, w_applies, trivial, trivial, w_case⟩
end start1
theorem witness_1 : WitnessClaimed_1 := ⟨start1.p0, start1.e0, start1.about1, start1.theMethod, start1.args0, start1.below0, start1.atStart⟩
end Jvm.Pilot.@@N@@
