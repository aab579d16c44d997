import JvmDerived
import JvmDerived.Pilot.@@N@@Statement
import JvmDerived.Pilot.@@N@@Code
set_option linter.unusedVariables false
set_option linter.unusedSimpArgs false
namespace Jvm.Pilot.@@N@@
open Jvm Jvm.ClassFile Sem Op Lib Jvm.Free Jvm.Stand Jvm.LawKit Jvm.RoadKit Bundle Jvm.Pilot.@@N@@.Jvm.D
/-! 1. the walk's own words -/
def OG (tb : Tables) (e : Env) (below : List Frame) (P : Outcome → State → Prop) (A : State) : Prop :=
  ∃ s₂ o, Steps tb e below A s₂ ∧ s₂.status = .running ∧ Ended s₂ below o ∧ P o s₂
theorem mi {α : Type} {L : List α} {x : α} (i : Nat) (h : L[i]? = some x) : x ∈ L := List.mem_of_getElem? h
abbrev vi (x : Int32) : Slot := .val (.int x)
abbrev vj (x : Int64) : Slot := .val (.long x)
abbrev vr (x : Addr) : Slot := .val (.ref x)
abbrev us : Slot := .unset
abbrev s2 : Slot := .second
theorem OG.of {tb : Tables} {e : Env} {below : List Frame} {P : Outcome → State → Prop} {A B : State} (h : OG tb e below P B) (k : ∀ t, Steps tb e below B t → Steps tb e below A t) : OG tb e below P A := by
  obtain ⟨t, o, st, r⟩ := h
  exact ⟨t, o, k t st, r⟩
def Bx (own : String) (bs : ByteArray) (ml : Nat) (Z : State) (p : Program) (l : Launch) (e : Env) (R : Room) (s : State) (m : MethodId) (args : Array Value) (below : List Frame) (meth : Method) (c : Code) (T : State) (h : Heap) (locs : List Loc) (cells slots : Nat) : Prop :=
  Stand p l e R s m args below meth c T locs cells slots ∧ p.tables.exec = Jvm.exec ∧ c.code = bs ∧ c.maxLocals = ml ∧ s.vm.findClass own = some m.cls ∧ Z.Warmed39 s.vm ∧ T.heap = h
section Walk
variable {own : String} {bs : ByteArray} {ml : Nat} {Z : State} {p : Program} {l : Launch} {e : Env} {R : Room} {s : State} {m : MethodId} {args : Array Value} {below : List Frame} {meth : Method} {c : Code} {T : State} {h : Heap} {locs : List Loc} {cells slots : Nat} {P : Outcome → State → Prop} {Ls : Array Slot} {rest : List Value} {a0 : Array Value}
theorem o_iadd (B : Bx own bs ml Z p l e R s m args below meth c T h locs cells slots) (pc pc' : Nat) {x y : Int32} (hd : decode bs pc = .ok (.iadd, 1)) (hp : pc + 1 = pc') 
    (hr : OG p.tables e below P (T.setTop (mkF m pc' Ls (.int (x + y) :: rest)))) : OG p.tables e below P (T.setTop (mkF m pc Ls (.int y :: .int x :: rest))) := by
  subst hp
  obtain ⟨X, hx, hby, hml, hown, hZ, eT⟩ := B
  exact hr.of fun t k => XS.iadd X.here hx rfl (hb hby hd) rfl k
theorem o_isub (B : Bx own bs ml Z p l e R s m args below meth c T h locs cells slots) (pc pc' : Nat) {x y : Int32} (hd : decode bs pc = .ok (.isub, 1)) (hp : pc + 1 = pc') 
    (hr : OG p.tables e below P (T.setTop (mkF m pc' Ls (.int (x - y) :: rest)))) : OG p.tables e below P (T.setTop (mkF m pc Ls (.int y :: .int x :: rest))) := by
  subst hp
  obtain ⟨X, hx, hby, hml, hown, hZ, eT⟩ := B
  exact hr.of fun t k => XS.isub X.here hx rfl (hb hby hd) rfl k
theorem o_imul (B : Bx own bs ml Z p l e R s m args below meth c T h locs cells slots) (pc pc' : Nat) {x y : Int32} (hd : decode bs pc = .ok (.imul, 1)) (hp : pc + 1 = pc') 
    (hr : OG p.tables e below P (T.setTop (mkF m pc' Ls (.int (x * y) :: rest)))) : OG p.tables e below P (T.setTop (mkF m pc Ls (.int y :: .int x :: rest))) := by
  subst hp
  obtain ⟨X, hx, hby, hml, hown, hZ, eT⟩ := B
  exact hr.of fun t k => XS.imul X.here hx rfl (hb hby hd) rfl k
theorem o_iand (B : Bx own bs ml Z p l e R s m args below meth c T h locs cells slots) (pc pc' : Nat) {x y : Int32} (hd : decode bs pc = .ok (.iand, 1)) (hp : pc + 1 = pc') 
    (hr : OG p.tables e below P (T.setTop (mkF m pc' Ls (.int (x &&& y) :: rest)))) : OG p.tables e below P (T.setTop (mkF m pc Ls (.int y :: .int x :: rest))) := by
  subst hp
  obtain ⟨X, hx, hby, hml, hown, hZ, eT⟩ := B
  exact hr.of fun t k => XS.iand X.here hx rfl (hb hby hd) rfl k
theorem o_ior (B : Bx own bs ml Z p l e R s m args below meth c T h locs cells slots) (pc pc' : Nat) {x y : Int32} (hd : decode bs pc = .ok (.ior, 1)) (hp : pc + 1 = pc') 
    (hr : OG p.tables e below P (T.setTop (mkF m pc' Ls (.int (x ||| y) :: rest)))) : OG p.tables e below P (T.setTop (mkF m pc Ls (.int y :: .int x :: rest))) := by
  subst hp
  obtain ⟨X, hx, hby, hml, hown, hZ, eT⟩ := B
  exact hr.of fun t k => XT.ior X.here hx rfl (hb hby hd) rfl k
theorem o_ixor (B : Bx own bs ml Z p l e R s m args below meth c T h locs cells slots) (pc pc' : Nat) {x y : Int32} (hd : decode bs pc = .ok (.ixor, 1)) (hp : pc + 1 = pc') 
    (hr : OG p.tables e below P (T.setTop (mkF m pc' Ls (.int (x ^^^ y) :: rest)))) : OG p.tables e below P (T.setTop (mkF m pc Ls (.int y :: .int x :: rest))) := by
  subst hp
  obtain ⟨X, hx, hby, hml, hown, hZ, eT⟩ := B
  exact hr.of fun t k => XT.ixor X.here hx rfl (hb hby hd) rfl k
theorem o_ishl (B : Bx own bs ml Z p l e R s m args below meth c T h locs cells slots) (pc pc' : Nat) {x y : Int32} (hd : decode bs pc = .ok (.ishl, 1)) (hp : pc + 1 = pc') 
    (hr : OG p.tables e below P (T.setTop (mkF m pc' Ls (.int (x <<< (y &&& 31)) :: rest)))) : OG p.tables e below P (T.setTop (mkF m pc Ls (.int y :: .int x :: rest))) := by
  subst hp
  obtain ⟨X, hx, hby, hml, hown, hZ, eT⟩ := B
  exact hr.of fun t k => XT.ishl X.here hx rfl (hb hby hd) rfl k
theorem o_ishr (B : Bx own bs ml Z p l e R s m args below meth c T h locs cells slots) (pc pc' : Nat) {x y : Int32} (hd : decode bs pc = .ok (.ishr, 1)) (hp : pc + 1 = pc') 
    (hr : OG p.tables e below P (T.setTop (mkF m pc' Ls (.int (x >>> (y &&& 31)) :: rest)))) : OG p.tables e below P (T.setTop (mkF m pc Ls (.int y :: .int x :: rest))) := by
  subst hp
  obtain ⟨X, hx, hby, hml, hown, hZ, eT⟩ := B
  exact hr.of fun t k => XT.ishr X.here hx rfl (hb hby hd) rfl k
theorem o_iushr (B : Bx own bs ml Z p l e R s m args below meth c T h locs cells slots) (pc pc' : Nat) {x y : Int32} (hd : decode bs pc = .ok (.iushr, 1)) (hp : pc + 1 = pc') 
    (hr : OG p.tables e below P (T.setTop (mkF m pc' Ls (.int (XT.ushr x y) :: rest)))) : OG p.tables e below P (T.setTop (mkF m pc Ls (.int y :: .int x :: rest))) := by
  subst hp
  obtain ⟨X, hx, hby, hml, hown, hZ, eT⟩ := B
  exact hr.of fun t k => XT.iushr X.here hx rfl (hb hby hd) rfl k
theorem o_idiv (B : Bx own bs ml Z p l e R s m args below meth c T h locs cells slots) (pc pc' : Nat) {x y : Int32} (hd : decode bs pc = .ok (.idiv, 1)) (hp : pc + 1 = pc') (hy : y ≠ 0)
    (hr : OG p.tables e below P (T.setTop (mkF m pc' Ls (.int (x / y) :: rest)))) : OG p.tables e below P (T.setTop (mkF m pc Ls (.int y :: .int x :: rest))) := by
  subst hp
  obtain ⟨X, hx, hby, hml, hown, hZ, eT⟩ := B
  exact hr.of fun t k => XS.idiv X.here hx rfl (hb hby hd) rfl hy k
theorem o_irem (B : Bx own bs ml Z p l e R s m args below meth c T h locs cells slots) (pc pc' : Nat) {x y : Int32} (hd : decode bs pc = .ok (.irem, 1)) (hp : pc + 1 = pc') (hy : y ≠ 0)
    (hr : OG p.tables e below P (T.setTop (mkF m pc' Ls (.int (x % y) :: rest)))) : OG p.tables e below P (T.setTop (mkF m pc Ls (.int y :: .int x :: rest))) := by
  subst hp
  obtain ⟨X, hx, hby, hml, hown, hZ, eT⟩ := B
  exact hr.of fun t k => XS.irem X.here hx rfl (hb hby hd) rfl hy (by rw [irem_eq_mod]; exact k)
theorem o_ladd (B : Bx own bs ml Z p l e R s m args below meth c T h locs cells slots) (pc pc' : Nat) {x y : Int64} (hd : decode bs pc = .ok (.ladd, 1)) (hp : pc + 1 = pc') 
    (hr : OG p.tables e below P (T.setTop (mkF m pc' Ls (.long (x + y) :: rest)))) : OG p.tables e below P (T.setTop (mkF m pc Ls (.long y :: .long x :: rest))) := by
  subst hp
  obtain ⟨X, hx, hby, hml, hown, hZ, eT⟩ := B
  exact hr.of fun t k => XT.ladd X.here hx rfl (hb hby hd) rfl k
theorem o_lsub (B : Bx own bs ml Z p l e R s m args below meth c T h locs cells slots) (pc pc' : Nat) {x y : Int64} (hd : decode bs pc = .ok (.lsub, 1)) (hp : pc + 1 = pc') 
    (hr : OG p.tables e below P (T.setTop (mkF m pc' Ls (.long (x - y) :: rest)))) : OG p.tables e below P (T.setTop (mkF m pc Ls (.long y :: .long x :: rest))) := by
  subst hp
  obtain ⟨X, hx, hby, hml, hown, hZ, eT⟩ := B
  exact hr.of fun t k => XT.lsub X.here hx rfl (hb hby hd) rfl k
theorem o_lmul (B : Bx own bs ml Z p l e R s m args below meth c T h locs cells slots) (pc pc' : Nat) {x y : Int64} (hd : decode bs pc = .ok (.lmul, 1)) (hp : pc + 1 = pc') 
    (hr : OG p.tables e below P (T.setTop (mkF m pc' Ls (.long (x * y) :: rest)))) : OG p.tables e below P (T.setTop (mkF m pc Ls (.long y :: .long x :: rest))) := by
  subst hp
  obtain ⟨X, hx, hby, hml, hown, hZ, eT⟩ := B
  exact hr.of fun t k => XT.lmul X.here hx rfl (hb hby hd) rfl k
theorem o_land (B : Bx own bs ml Z p l e R s m args below meth c T h locs cells slots) (pc pc' : Nat) {x y : Int64} (hd : decode bs pc = .ok (.land, 1)) (hp : pc + 1 = pc') 
    (hr : OG p.tables e below P (T.setTop (mkF m pc' Ls (.long (x &&& y) :: rest)))) : OG p.tables e below P (T.setTop (mkF m pc Ls (.long y :: .long x :: rest))) := by
  subst hp
  obtain ⟨X, hx, hby, hml, hown, hZ, eT⟩ := B
  exact hr.of fun t k => XT.land X.here hx rfl (hb hby hd) rfl k
theorem o_lor (B : Bx own bs ml Z p l e R s m args below meth c T h locs cells slots) (pc pc' : Nat) {x y : Int64} (hd : decode bs pc = .ok (.lor, 1)) (hp : pc + 1 = pc') 
    (hr : OG p.tables e below P (T.setTop (mkF m pc' Ls (.long (x ||| y) :: rest)))) : OG p.tables e below P (T.setTop (mkF m pc Ls (.long y :: .long x :: rest))) := by
  subst hp
  obtain ⟨X, hx, hby, hml, hown, hZ, eT⟩ := B
  exact hr.of fun t k => XT.lor X.here hx rfl (hb hby hd) rfl k
theorem o_lxor (B : Bx own bs ml Z p l e R s m args below meth c T h locs cells slots) (pc pc' : Nat) {x y : Int64} (hd : decode bs pc = .ok (.lxor, 1)) (hp : pc + 1 = pc') 
    (hr : OG p.tables e below P (T.setTop (mkF m pc' Ls (.long (x ^^^ y) :: rest)))) : OG p.tables e below P (T.setTop (mkF m pc Ls (.long y :: .long x :: rest))) := by
  subst hp
  obtain ⟨X, hx, hby, hml, hown, hZ, eT⟩ := B
  exact hr.of fun t k => XT.lxor X.here hx rfl (hb hby hd) rfl k
theorem o_ldiv (B : Bx own bs ml Z p l e R s m args below meth c T h locs cells slots) (pc pc' : Nat) {x y : Int64} (hd : decode bs pc = .ok (.ldiv, 1)) (hp : pc + 1 = pc') (hy : y ≠ 0)
    (hr : OG p.tables e below P (T.setTop (mkF m pc' Ls (.long (x / y) :: rest)))) : OG p.tables e below P (T.setTop (mkF m pc Ls (.long y :: .long x :: rest))) := by
  subst hp
  obtain ⟨X, hx, hby, hml, hown, hZ, eT⟩ := B
  exact hr.of fun t k => XT.ldiv X.here hx rfl (hb hby hd) rfl hy k
theorem o_lrem (B : Bx own bs ml Z p l e R s m args below meth c T h locs cells slots) (pc pc' : Nat) {x y : Int64} (hd : decode bs pc = .ok (.lrem, 1)) (hp : pc + 1 = pc') (hy : y ≠ 0)
    (hr : OG p.tables e below P (T.setTop (mkF m pc' Ls (.long (x % y) :: rest)))) : OG p.tables e below P (T.setTop (mkF m pc Ls (.long y :: .long x :: rest))) := by
  subst hp
  obtain ⟨X, hx, hby, hml, hown, hZ, eT⟩ := B
  exact hr.of fun t k => XT.lrem X.here hx rfl (hb hby hd) rfl hy (by rw [lrem_mod]; exact k)
theorem o_lshl (B : Bx own bs ml Z p l e R s m args below meth c T h locs cells slots) (pc pc' : Nat) {x : Int64} {y : Int32} (hd : decode bs pc = .ok (.lshl, 1)) (hp : pc + 1 = pc') 
    (hr : OG p.tables e below P (T.setTop (mkF m pc' Ls (.long (x <<< (y.toInt64 &&& 63)) :: rest)))) : OG p.tables e below P (T.setTop (mkF m pc Ls (.int y :: .long x :: rest))) := by
  subst hp
  obtain ⟨X, hx, hby, hml, hown, hZ, eT⟩ := B
  exact hr.of fun t k => XT.lshl X.here hx rfl (hb hby hd) rfl k
theorem o_lshr (B : Bx own bs ml Z p l e R s m args below meth c T h locs cells slots) (pc pc' : Nat) {x : Int64} {y : Int32} (hd : decode bs pc = .ok (.lshr, 1)) (hp : pc + 1 = pc') 
    (hr : OG p.tables e below P (T.setTop (mkF m pc' Ls (.long (x >>> (y.toInt64 &&& 63)) :: rest)))) : OG p.tables e below P (T.setTop (mkF m pc Ls (.int y :: .long x :: rest))) := by
  subst hp
  obtain ⟨X, hx, hby, hml, hown, hZ, eT⟩ := B
  exact hr.of fun t k => XT.lshr X.here hx rfl (hb hby hd) rfl k
theorem o_lushr (B : Bx own bs ml Z p l e R s m args below meth c T h locs cells slots) (pc pc' : Nat) {x : Int64} {y : Int32} (hd : decode bs pc = .ok (.lushr, 1)) (hp : pc + 1 = pc') 
    (hr : OG p.tables e below P (T.setTop (mkF m pc' Ls (.long (XT.ushrL x y) :: rest)))) : OG p.tables e below P (T.setTop (mkF m pc Ls (.int y :: .long x :: rest))) := by
  subst hp
  obtain ⟨X, hx, hby, hml, hown, hZ, eT⟩ := B
  exact hr.of fun t k => XT.lushr X.here hx rfl (hb hby hd) rfl k
theorem o_lcmp (B : Bx own bs ml Z p l e R s m args below meth c T h locs cells slots) (pc pc' : Nat) {x y : Int64} (hd : decode bs pc = .ok (.lcmp, 1)) (hp : pc + 1 = pc') 
    (hr : OG p.tables e below P (T.setTop (mkF m pc' Ls (.int (XT.cmpL x y) :: rest)))) : OG p.tables e below P (T.setTop (mkF m pc Ls (.long y :: .long x :: rest))) := by
  subst hp
  obtain ⟨X, hx, hby, hml, hown, hZ, eT⟩ := B
  exact hr.of fun t k => XT.lcmp X.here hx rfl (hb hby hd) rfl k
theorem o_ineg (B : Bx own bs ml Z p l e R s m args below meth c T h locs cells slots) (pc pc' : Nat) {x : Int32} (hd : decode bs pc = .ok (.ineg, 1)) (hp : pc + 1 = pc') 
    (hr : OG p.tables e below P (T.setTop (mkF m pc' Ls (.int (-x) :: rest)))) : OG p.tables e below P (T.setTop (mkF m pc Ls (.int x :: rest))) := by
  subst hp
  obtain ⟨X, hx, hby, hml, hown, hZ, eT⟩ := B
  exact hr.of fun t k => XS.ineg X.here hx rfl (hb hby hd) rfl k
theorem o_lneg (B : Bx own bs ml Z p l e R s m args below meth c T h locs cells slots) (pc pc' : Nat) {x : Int64} (hd : decode bs pc = .ok (.lneg, 1)) (hp : pc + 1 = pc') 
    (hr : OG p.tables e below P (T.setTop (mkF m pc' Ls (.long (-x) :: rest)))) : OG p.tables e below P (T.setTop (mkF m pc Ls (.long x :: rest))) := by
  subst hp
  obtain ⟨X, hx, hby, hml, hown, hZ, eT⟩ := B
  exact hr.of fun t k => XT.lneg X.here hx rfl (hb hby hd) rfl k
theorem o_i2l (B : Bx own bs ml Z p l e R s m args below meth c T h locs cells slots) (pc pc' : Nat) {x : Int32} (hd : decode bs pc = .ok (.i2l, 1)) (hp : pc + 1 = pc') 
    (hr : OG p.tables e below P (T.setTop (mkF m pc' Ls (.long (x.toInt64) :: rest)))) : OG p.tables e below P (T.setTop (mkF m pc Ls (.int x :: rest))) := by
  subst hp
  obtain ⟨X, hx, hby, hml, hown, hZ, eT⟩ := B
  exact hr.of fun t k => XT.i2l X.here hx rfl (hb hby hd) rfl k
theorem o_l2i (B : Bx own bs ml Z p l e R s m args below meth c T h locs cells slots) (pc pc' : Nat) {x : Int64} (hd : decode bs pc = .ok (.l2i, 1)) (hp : pc + 1 = pc') 
    (hr : OG p.tables e below P (T.setTop (mkF m pc' Ls (.int (x.toInt32) :: rest)))) : OG p.tables e below P (T.setTop (mkF m pc Ls (.long x :: rest))) := by
  subst hp
  obtain ⟨X, hx, hby, hml, hown, hZ, eT⟩ := B
  exact hr.of fun t k => XT.l2i X.here hx rfl (hb hby hd) rfl k
theorem o_i2b (B : Bx own bs ml Z p l e R s m args below meth c T h locs cells slots) (pc pc' : Nat) {x : Int32} (hd : decode bs pc = .ok (.i2b, 1)) (hp : pc + 1 = pc') 
    (hr : OG p.tables e below P (T.setTop (mkF m pc' Ls (.int (x.toInt8.toInt32) :: rest)))) : OG p.tables e below P (T.setTop (mkF m pc Ls (.int x :: rest))) := by
  subst hp
  obtain ⟨X, hx, hby, hml, hown, hZ, eT⟩ := B
  exact hr.of fun t k => XT.i2b X.here hx rfl (hb hby hd) rfl k
theorem o_i2c (B : Bx own bs ml Z p l e R s m args below meth c T h locs cells slots) (pc pc' : Nat) {x : Int32} (hd : decode bs pc = .ok (.i2c, 1)) (hp : pc + 1 = pc') 
    (hr : OG p.tables e below P (T.setTop (mkF m pc' Ls (.int (x.toUInt32.toUInt16.toUInt32.toInt32) :: rest)))) : OG p.tables e below P (T.setTop (mkF m pc Ls (.int x :: rest))) := by
  subst hp
  obtain ⟨X, hx, hby, hml, hown, hZ, eT⟩ := B
  exact hr.of fun t k => XT.i2c X.here hx rfl (hb hby hd) rfl k
theorem o_i2s (B : Bx own bs ml Z p l e R s m args below meth c T h locs cells slots) (pc pc' : Nat) {x : Int32} (hd : decode bs pc = .ok (.i2s, 1)) (hp : pc + 1 = pc') 
    (hr : OG p.tables e below P (T.setTop (mkF m pc' Ls (.int (x.toInt16.toInt32) :: rest)))) : OG p.tables e below P (T.setTop (mkF m pc Ls (.int x :: rest))) := by
  subst hp
  obtain ⟨X, hx, hby, hml, hown, hZ, eT⟩ := B
  exact hr.of fun t k => XT.i2s X.here hx rfl (hb hby hd) rfl k
theorem o_iconst (B : Bx own bs ml Z p l e R s m args below meth c T h locs cells slots) (pc pc' : Nat) {i : Int} (v : Int32) (hd : decode bs pc = .ok (.iconst i, 1)) (hp : pc + 1 = pc') (hv : Int32.ofInt i = v)
    (hr : OG p.tables e below P (T.setTop (mkF m pc' Ls (.int v :: rest)))) : OG p.tables e below P (T.setTop (mkF m pc Ls rest)) := by
  subst hp
  obtain ⟨X, hx, hby, hml, hown, hZ, eT⟩ := B
  exact hr.of fun t k => XT.iconstV X.here hx rfl v (hb hby hd) hv k
theorem o_bipush (B : Bx own bs ml Z p l e R s m args below meth c T h locs cells slots) (pc pc' : Nat) {i : Int} (v : Int32) (hd : decode bs pc = .ok (.bipush i, 2)) (hp : pc + 2 = pc') (hv : (Int8.ofInt i).toInt32 = v)
    (hr : OG p.tables e below P (T.setTop (mkF m pc' Ls (.int v :: rest)))) : OG p.tables e below P (T.setTop (mkF m pc Ls rest)) := by
  subst hp
  obtain ⟨X, hx, hby, hml, hown, hZ, eT⟩ := B
  exact hr.of fun t k => XT.bipushV X.here hx rfl v (hb hby hd) hv k
theorem o_sipush (B : Bx own bs ml Z p l e R s m args below meth c T h locs cells slots) (pc pc' : Nat) {i : Int} (v : Int32) (hd : decode bs pc = .ok (.sipush i, 3)) (hp : pc + 3 = pc') (hv : (Int16.ofInt i).toInt32 = v)
    (hr : OG p.tables e below P (T.setTop (mkF m pc' Ls (.int v :: rest)))) : OG p.tables e below P (T.setTop (mkF m pc Ls rest)) := by
  subst hp
  obtain ⟨X, hx, hby, hml, hown, hZ, eT⟩ := B
  exact hr.of fun t k => XT.sipushV X.here hx rfl v (hb hby hd) hv k
theorem o_lconst (B : Bx own bs ml Z p l e R s m args below meth c T h locs cells slots) (pc pc' : Nat) {i : Fin 2} (v : Int64) (hd : decode bs pc = .ok (.lconst i, 1)) (hp : pc + 1 = pc') (hv : Int64.ofNat i = v)
    (hr : OG p.tables e below P (T.setTop (mkF m pc' Ls (.long v :: rest)))) : OG p.tables e below P (T.setTop (mkF m pc Ls rest)) := by
  subst hp
  obtain ⟨X, hx, hby, hml, hown, hZ, eT⟩ := B
  exact hr.of fun t k => XT.lconstV X.here hx rfl v (hb hby hd) hv k
theorem o_aconst_null (B : Bx own bs ml Z p l e R s m args below meth c T h locs cells slots) (pc pc' : Nat)  (hd : decode bs pc = .ok (.aconst_null, 1)) (hp : pc + 1 = pc') 
    (hr : OG p.tables e below P (T.setTop (mkF m pc' Ls (.null :: rest)))) : OG p.tables e below P (T.setTop (mkF m pc Ls rest)) := by
  subst hp
  obtain ⟨X, hx, hby, hml, hown, hZ, eT⟩ := B
  exact hr.of fun t k => XS.aconstNull X.here hx rfl (hb hby hd) k
theorem o_iloadN (B : Bx own bs ml Z p l e R s m args below meth c T h locs cells slots) (pc pc' : Nat) {k : Fin 4} {v : Int32} (hd : decode bs pc = .ok (.iload_n k, 1)) (hp : pc + 1 = pc') (hl : Ls[k.val]? = some (.val (.int v)))
    (hr : OG p.tables e below P (T.setTop (mkF m pc' Ls (.int v :: rest)))) : OG p.tables e below P (T.setTop (mkF m pc Ls rest)) := by
  subst hp
  obtain ⟨X, hx, hby, hml, hown, hZ, eT⟩ := B
  exact hr.of fun t k => XS.iloadN X.here hx rfl (hb hby hd) hl k
theorem o_iload (B : Bx own bs ml Z p l e R s m args below meth c T h locs cells slots) (pc pc' : Nat) {k : Nat} {v : Int32} (hd : decode bs pc = .ok (.iload k, 2)) (hp : pc + 2 = pc') (hl : Ls[k]? = some (.val (.int v)))
    (hr : OG p.tables e below P (T.setTop (mkF m pc' Ls (.int v :: rest)))) : OG p.tables e below P (T.setTop (mkF m pc Ls rest)) := by
  subst hp
  obtain ⟨X, hx, hby, hml, hown, hZ, eT⟩ := B
  exact hr.of fun t k => XS.iload X.here hx rfl (hb hby hd) hl k
theorem o_lloadN (B : Bx own bs ml Z p l e R s m args below meth c T h locs cells slots) (pc pc' : Nat) {k : Fin 4} {v : Int64} (hd : decode bs pc = .ok (.lload_n k, 1)) (hp : pc + 1 = pc') (hl : Ls[k.val]? = some (.val (.long v)))
    (hr : OG p.tables e below P (T.setTop (mkF m pc' Ls (.long v :: rest)))) : OG p.tables e below P (T.setTop (mkF m pc Ls rest)) := by
  subst hp
  obtain ⟨X, hx, hby, hml, hown, hZ, eT⟩ := B
  exact hr.of fun t k => XT.lloadN X.here hx rfl (hb hby hd) hl k
theorem o_lload (B : Bx own bs ml Z p l e R s m args below meth c T h locs cells slots) (pc pc' : Nat) {k : Nat} {v : Int64} (hd : decode bs pc = .ok (.lload k, 2)) (hp : pc + 2 = pc') (hl : Ls[k]? = some (.val (.long v)))
    (hr : OG p.tables e below P (T.setTop (mkF m pc' Ls (.long v :: rest)))) : OG p.tables e below P (T.setTop (mkF m pc Ls rest)) := by
  subst hp
  obtain ⟨X, hx, hby, hml, hown, hZ, eT⟩ := B
  exact hr.of fun t k => XT.lload X.here hx rfl (hb hby hd) hl k
theorem o_aloadN (B : Bx own bs ml Z p l e R s m args below meth c T h locs cells slots) (pc pc' : Nat) {k : Fin 4} {v : Value} (hd : decode bs pc = .ok (.aload_n k, 1)) (hp : pc + 1 = pc') (hl : Ls[k.val]? = some (.val v)) (hv : v.isRef = true)
    (hr : OG p.tables e below P (T.setTop (mkF m pc' Ls (v :: rest)))) : OG p.tables e below P (T.setTop (mkF m pc Ls rest)) := by
  subst hp
  obtain ⟨X, hx, hby, hml, hown, hZ, eT⟩ := B
  exact hr.of fun t k => XS.aloadN X.here hx rfl (hb hby hd) hl hv k
theorem o_aload (B : Bx own bs ml Z p l e R s m args below meth c T h locs cells slots) (pc pc' : Nat) {k : Nat} {v : Value} (hd : decode bs pc = .ok (.aload k, 2)) (hp : pc + 2 = pc') (hl : Ls[k]? = some (.val v)) (hv : v.isRef = true)
    (hr : OG p.tables e below P (T.setTop (mkF m pc' Ls (v :: rest)))) : OG p.tables e below P (T.setTop (mkF m pc Ls rest)) := by
  subst hp
  obtain ⟨X, hx, hby, hml, hown, hZ, eT⟩ := B
  exact hr.of fun t k => XS.aload X.here hx rfl (hb hby hd) hl hv k
theorem o_istoreN (B : Bx own bs ml Z p l e R s m args below meth c T h locs cells slots) (pc pc' : Nat) {k : Fin 4} {x : Int32} {l' : Array Slot} (hd : decode bs pc = .ok (.istore_n k, 1)) (hp : pc + 1 = pc') (hl : storeLocals Ls k.val (.int x) = some l')
    (hr : OG p.tables e below P (T.setTop (mkF m pc' l' rest))) : OG p.tables e below P (T.setTop (mkF m pc Ls (.int x :: rest))) := by
  subst hp
  obtain ⟨X, hx, hby, hml, hown, hZ, eT⟩ := B
  exact hr.of fun t k => XS.istoreN X.here hx rfl (hb hby hd) rfl hl k
theorem o_istore (B : Bx own bs ml Z p l e R s m args below meth c T h locs cells slots) (pc pc' : Nat) {k : Nat} {x : Int32} {l' : Array Slot} (hd : decode bs pc = .ok (.istore k, 2)) (hp : pc + 2 = pc') (hl : storeLocals Ls k (.int x) = some l')
    (hr : OG p.tables e below P (T.setTop (mkF m pc' l' rest))) : OG p.tables e below P (T.setTop (mkF m pc Ls (.int x :: rest))) := by
  subst hp
  obtain ⟨X, hx, hby, hml, hown, hZ, eT⟩ := B
  exact hr.of fun t k => XS.istore X.here hx rfl (hb hby hd) rfl hl k
theorem o_lstoreN (B : Bx own bs ml Z p l e R s m args below meth c T h locs cells slots) (pc pc' : Nat) {k : Fin 4} {x : Int64} {l' : Array Slot} (hd : decode bs pc = .ok (.lstore_n k, 1)) (hp : pc + 1 = pc') (hl : storeLocals Ls k.val (.long x) = some l')
    (hr : OG p.tables e below P (T.setTop (mkF m pc' l' rest))) : OG p.tables e below P (T.setTop (mkF m pc Ls (.long x :: rest))) := by
  subst hp
  obtain ⟨X, hx, hby, hml, hown, hZ, eT⟩ := B
  exact hr.of fun t k => XT.lstoreN X.here hx rfl (hb hby hd) rfl hl k
theorem o_lstore (B : Bx own bs ml Z p l e R s m args below meth c T h locs cells slots) (pc pc' : Nat) {k : Nat} {x : Int64} {l' : Array Slot} (hd : decode bs pc = .ok (.lstore k, 2)) (hp : pc + 2 = pc') (hl : storeLocals Ls k (.long x) = some l')
    (hr : OG p.tables e below P (T.setTop (mkF m pc' l' rest))) : OG p.tables e below P (T.setTop (mkF m pc Ls (.long x :: rest))) := by
  subst hp
  obtain ⟨X, hx, hby, hml, hown, hZ, eT⟩ := B
  exact hr.of fun t k => XT.lstore X.here hx rfl (hb hby hd) rfl hl k
theorem o_astoreN (B : Bx own bs ml Z p l e R s m args below meth c T h locs cells slots) (pc pc' : Nat) {k : Fin 4} {x : Value} {l' : Array Slot} (hd : decode bs pc = .ok (.astore_n k, 1)) (hp : pc + 1 = pc') (hv : x.isRef = true) (hl : storeLocals Ls k.val x = some l')
    (hr : OG p.tables e below P (T.setTop (mkF m pc' l' rest))) : OG p.tables e below P (T.setTop (mkF m pc Ls (x :: rest))) := by
  subst hp
  obtain ⟨X, hx, hby, hml, hown, hZ, eT⟩ := B
  exact hr.of fun t k => XS.astoreN X.here hx rfl (hb hby hd) rfl hv hl k
theorem o_astore (B : Bx own bs ml Z p l e R s m args below meth c T h locs cells slots) (pc pc' : Nat) {k : Nat} {x : Value} {l' : Array Slot} (hd : decode bs pc = .ok (.astore k, 2)) (hp : pc + 2 = pc') (hv : x.isRef = true) (hl : storeLocals Ls k x = some l')
    (hr : OG p.tables e below P (T.setTop (mkF m pc' l' rest))) : OG p.tables e below P (T.setTop (mkF m pc Ls (x :: rest))) := by
  subst hp
  obtain ⟨X, hx, hby, hml, hown, hZ, eT⟩ := B
  exact hr.of fun t k => XS.astore X.here hx rfl (hb hby hd) rfl hv hl k
theorem o_iinc (B : Bx own bs ml Z p l e R s m args below meth c T h locs cells slots) (pc pc' : Nat) {k : Nat} {cst : Int} {x : Int32} {l' : Array Slot} (v : Int32) (hd : decode bs pc = .ok (.iinc k cst, 3)) (hp : pc + 3 = pc') (hv : Int32.ofInt cst = v) (hl : Ls[k]? = some (.val (.int x))) (hl' : storeLocals Ls k (.int (x + v)) = some l')
    (hr : OG p.tables e below P (T.setTop (mkF m pc' l' rest))) : OG p.tables e below P (T.setTop (mkF m pc Ls rest)) := by
  subst hp
  obtain ⟨X, hx, hby, hml, hown, hZ, eT⟩ := B
  exact hr.of fun t k => XT.iincV X.here hx rfl v (hb hby hd) hv hl hl' k
theorem o_goto (B : Bx own bs ml Z p l e R s m args below meth c T h locs cells slots) (pc pc' : Nat) {o : Int} (hd : decode bs pc = .ok (.goto o, 3))  (ho : 0 ≤ (pc : Int) + o) (hp : ((pc : Int) + o).toNat = pc')
    (hr : OG p.tables e below P (T.setTop (mkF m pc' Ls rest))) : OG p.tables e below P (T.setTop (mkF m pc Ls rest)) := by
  obtain ⟨X, hx, hby, hml, hown, hZ, eT⟩ := B
  exact hr.of fun t k => XS.goto X.here hx rfl (pc0 := pc) (pc' := pc') rfl (hb hby hd) ho hp k
theorem o_ifY (B : Bx own bs ml Z p l e R s m args below meth c T h locs cells slots) (pc pc' : Nat) {cd : ClassFile.Cond} {o : Int} {x : Int32} (hd : decode bs pc = .ok (.ifCond cd o, 3))  (hc : ifCond.holds cd x = true) (ho : 0 ≤ (pc : Int) + o) (hp : ((pc : Int) + o).toNat = pc')
    (hr : OG p.tables e below P (T.setTop (mkF m pc' Ls rest))) : OG p.tables e below P (T.setTop (mkF m pc Ls (.int x :: rest))) := by
  obtain ⟨X, hx, hby, hml, hown, hZ, eT⟩ := B
  exact hr.of fun t k => XS.ifYes X.here hx rfl (pc0 := pc) (pc' := pc') rfl (hb hby hd) rfl hc ho hp k
theorem o_ifN (B : Bx own bs ml Z p l e R s m args below meth c T h locs cells slots) (pc pc' : Nat) {cd : ClassFile.Cond} {o : Int} {x : Int32} (hd : decode bs pc = .ok (.ifCond cd o, 3)) (hp : pc + 3 = pc') (hc : ifCond.holds cd x = false)
    (hr : OG p.tables e below P (T.setTop (mkF m pc' Ls rest))) : OG p.tables e below P (T.setTop (mkF m pc Ls (.int x :: rest))) := by
  subst hp
  obtain ⟨X, hx, hby, hml, hown, hZ, eT⟩ := B
  exact hr.of fun t k => XS.ifNo X.here hx rfl (hb hby hd) rfl hc k
theorem o_nuY (B : Bx own bs ml Z p l e R s m args below meth c T h locs cells slots) (pc pc' : Nat) {o : Int} (hd : decode bs pc = .ok (.ifnull o, 3))  (ho : 0 ≤ (pc : Int) + o) (hp : ((pc : Int) + o).toNat = pc')
    (hr : OG p.tables e below P (T.setTop (mkF m pc' Ls rest))) : OG p.tables e below P (T.setTop (mkF m pc Ls (.null :: rest))) := by
  obtain ⟨X, hx, hby, hml, hown, hZ, eT⟩ := B
  exact hr.of fun t k => XS.ifnullYes X.here hx rfl (pc0 := pc) (pc' := pc') rfl (hb hby hd) rfl ho hp k
theorem o_nuN (B : Bx own bs ml Z p l e R s m args below meth c T h locs cells slots) (pc pc' : Nat) {o : Int} {b : Addr} (hd : decode bs pc = .ok (.ifnull o, 3)) (hp : pc + 3 = pc') 
    (hr : OG p.tables e below P (T.setTop (mkF m pc' Ls rest))) : OG p.tables e below P (T.setTop (mkF m pc Ls (.ref b :: rest))) := by
  subst hp
  obtain ⟨X, hx, hby, hml, hown, hZ, eT⟩ := B
  exact hr.of fun t k => XS.ifnullNo X.here hx rfl (hb hby hd) rfl k
theorem o_icY (B : Bx own bs ml Z p l e R s m args below meth c T h locs cells slots) (pc pc' : Nat) {cd : ClassFile.Cond} {o : Int} {x y : Int32} (hd : decode bs pc = .ok (.if_icmp cd o, 3))  (hc : if_icmp.holds cd x y = true) (ho : 0 ≤ (pc : Int) + o) (hp : ((pc : Int) + o).toNat = pc')
    (hr : OG p.tables e below P (T.setTop (mkF m pc' Ls rest))) : OG p.tables e below P (T.setTop (mkF m pc Ls (.int y :: .int x :: rest))) := by
  obtain ⟨X, hx, hby, hml, hown, hZ, eT⟩ := B
  exact hr.of fun t k => XS.icmpYes X.here hx rfl (pc0 := pc) (pc' := pc') rfl (hb hby hd) rfl hc ho hp k
theorem o_icN (B : Bx own bs ml Z p l e R s m args below meth c T h locs cells slots) (pc pc' : Nat) {cd : ClassFile.Cond} {o : Int} {x y : Int32} (hd : decode bs pc = .ok (.if_icmp cd o, 3)) (hp : pc + 3 = pc') (hc : if_icmp.holds cd x y = false)
    (hr : OG p.tables e below P (T.setTop (mkF m pc' Ls rest))) : OG p.tables e below P (T.setTop (mkF m pc Ls (.int y :: .int x :: rest))) := by
  subst hp
  obtain ⟨X, hx, hby, hml, hown, hZ, eT⟩ := B
  exact hr.of fun t k => XS.icmpNo X.here hx rfl (hb hby hd) rfl hc k
theorem o_dup (B : Bx own bs ml Z p l e R s m args below meth c T h locs cells slots) (pc pc' : Nat) {x : Value} (hd : decode bs pc = .ok (.dup, 1)) (hp : pc + 1 = pc') (hc : x.category = 1)
    (hr : OG p.tables e below P (T.setTop (mkF m pc' Ls (x :: x :: rest)))) : OG p.tables e below P (T.setTop (mkF m pc Ls (x :: rest))) := by
  subst hp
  obtain ⟨X, hx, hby, hml, hown, hZ, eT⟩ := B
  exact hr.of fun t k => XS.dup X.here hx rfl (hb hby hd) rfl hc k
theorem o_pop (B : Bx own bs ml Z p l e R s m args below meth c T h locs cells slots) (pc pc' : Nat) {x : Value} (hd : decode bs pc = .ok (.pop, 1)) (hp : pc + 1 = pc') (hc : x.category = 1)
    (hr : OG p.tables e below P (T.setTop (mkF m pc' Ls rest))) : OG p.tables e below P (T.setTop (mkF m pc Ls (x :: rest))) := by
  subst hp
  obtain ⟨X, hx, hby, hml, hown, hZ, eT⟩ := B
  exact hr.of fun t k => XT.pop X.here hx rfl (hb hby hd) rfl hc k
theorem o_dup_x1 (B : Bx own bs ml Z p l e R s m args below meth c T h locs cells slots) (pc pc' : Nat) {x y : Value} (hd : decode bs pc = .ok (.dup_x1, 1)) (hp : pc + 1 = pc') (hc : x.category = 1) (hc' : y.category = 1)
    (hr : OG p.tables e below P (T.setTop (mkF m pc' Ls (x :: y :: x :: rest)))) : OG p.tables e below P (T.setTop (mkF m pc Ls (x :: y :: rest))) := by
  subst hp
  obtain ⟨X, hx, hby, hml, hown, hZ, eT⟩ := B
  exact hr.of fun t k => XT.dupX1 X.here hx rfl (hb hby hd) rfl hc hc' k
theorem o_dup2 (B : Bx own bs ml Z p l e R s m args below meth c T h locs cells slots) (pc pc' : Nat) {x y : Value} (hd : decode bs pc = .ok (.dup2, 1)) (hp : pc + 1 = pc') (hc : x.category = 1) (hc' : y.category = 1)
    (hr : OG p.tables e below P (T.setTop (mkF m pc' Ls (x :: y :: x :: y :: rest)))) : OG p.tables e below P (T.setTop (mkF m pc Ls (x :: y :: rest))) := by
  subst hp
  obtain ⟨X, hx, hby, hml, hown, hZ, eT⟩ := B
  exact hr.of fun t k => XT.dup2 X.here hx rfl (hb hby hd) rfl hc hc' k
theorem o_dup2L (B : Bx own bs ml Z p l e R s m args below meth c T h locs cells slots) (pc pc' : Nat) {x : Int64} (hd : decode bs pc = .ok (.dup2, 1)) (hp : pc + 1 = pc') 
    (hr : OG p.tables e below P (T.setTop (mkF m pc' Ls (.long x :: .long x :: rest)))) : OG p.tables e below P (T.setTop (mkF m pc Ls (.long x :: rest))) := by
  subst hp
  obtain ⟨X, hx, hby, hml, hown, hZ, eT⟩ := B
  exact hr.of fun t k => XT.dup2L X.here hx rfl (hb hby hd) rfl k
theorem o_ldc (B : Bx own bs ml Z p l e R s m args below meth c T h locs cells slots) (pc pc' : Nat) {i : Nat} {v : Int32} (hd : decode bs pc = .ok (.ldc i, 2)) (hp : pc + 2 = pc') (w : (Cond.constant own i v).before a0 Z = true)
    (hr : OG p.tables e below P (T.setTop (mkF m pc' Ls (.int v :: rest)))) : OG p.tables e below P (T.setTop (mkF m pc Ls rest)) := by
  subst hp
  obtain ⟨X, hx, hby, hml, hown, hZ, eT⟩ := B
  exact hr.of fun t k => X.ldcI hx hown (mv hZ w) rfl (hb hby hd) k
theorem o_ldc_w (B : Bx own bs ml Z p l e R s m args below meth c T h locs cells slots) (pc pc' : Nat) {i : Nat} {v : Int32} (hd : decode bs pc = .ok (.ldc_w i, 3)) (hp : pc + 3 = pc') (w : (Cond.constant own i v).before a0 Z = true)
    (hr : OG p.tables e below P (T.setTop (mkF m pc' Ls (.int v :: rest)))) : OG p.tables e below P (T.setTop (mkF m pc Ls rest)) := by
  subst hp
  obtain ⟨X, hx, hby, hml, hown, hZ, eT⟩ := B
  exact hr.of fun t k => X.ldcWI hx hown (mv hZ w) rfl (hb hby hd) k
theorem o_ldc2 (B : Bx own bs ml Z p l e R s m args below meth c T h locs cells slots) (pc pc' : Nat) {i : Nat} {v : Int64} (hd : decode bs pc = .ok (.ldc2_w i, 3)) (hp : pc + 3 = pc') (w : (Cond.constantLong own i v).before a0 Z = true)
    (hr : OG p.tables e below P (T.setTop (mkF m pc' Ls (.long v :: rest)))) : OG p.tables e below P (T.setTop (mkF m pc Ls rest)) := by
  subst hp
  obtain ⟨X, hx, hby, hml, hown, hZ, eT⟩ := B
  exact hr.of fun t k => X.ldc2J hx hown (mv hZ w) rfl (hb hby hd) k
theorem o_topI {pc : Nat} {x y : Int32} (q : x = y) (hr : OG p.tables e below P (T.setTop (mkF m pc Ls (.int y :: rest)))) : OG p.tables e below P (T.setTop (mkF m pc Ls (.int x :: rest))) := q ▸ hr
theorem o_topJ {pc : Nat} {x y : Int64} (q : x = y) (hr : OG p.tables e below P (T.setTop (mkF m pc Ls (.long y :: rest)))) : OG p.tables e below P (T.setTop (mkF m pc Ls (.long x :: rest))) := q ▸ hr
theorem o_iincC (B : Bx own bs ml Z p l e R s m args below meth c T h locs cells slots) (pc pc' : Nat) {k : Nat} {cst : Int} {x : Int32} {l' : Array Slot} (v y : Int32) (hd : decode bs pc = .ok (.iinc k cst, 3)) (hp : pc + 3 = pc') (hv : Int32.ofInt cst = v) (hl : Ls[k]? = some (.val (.int x))) (hy : x + v = y) (hl' : storeLocals Ls k (.int y) = some l')
    (hr : OG p.tables e below P (T.setTop (mkF m pc' l' rest))) : OG p.tables e below P (T.setTop (mkF m pc Ls rest)) := by
  subst hp
  obtain ⟨X, hx, hby, hml, hown, hZ, eT⟩ := B
  exact hr.of fun t k => XT.iincV X.here hx rfl v (hb hby hd) hv hl (hy ▸ hl') k
theorem o_retZ {Q : Option Value → Heap → List Loc → Prop} {kc ks : Nat} (B : Bx own bs ml Z p l e R s m args below meth c T h locs cells slots) (pc : Nat) {z : Int32} {t : FieldType} (hd : decode bs pc = .ok (.ireturn, 1)) (hret : meth.sig.returnType = some t) (hlk : meth.locks = false) (ht : t = .boolean ∨ t = .byte ∨ t = .char ∨ t = .short) (hc : cells ≤ kc) (hs : slots ≤ ks) (hq : Q (some (.int (nar t z))) h locs) :
    OG p.tables e below (fun o s₂ => ∃ v L, o = .returned v ∧ Q v s₂.heap L ∧ FrameEnd s o s₂ L kc ks) (T.setTop (mkF m pc Ls (.int z :: rest))) := by
  obtain ⟨X, hx, hby, hml, hown, hZ, eT⟩ := B
  subst eT
  obtain ⟨fs, hr, hrun, hended, hW, hsame⟩ := X.leave (v := some (.int (nar t z))) (fun hn => by rw [hret] at hn; cases hn) hlk
  exact ⟨_, _, retN X hx hret ht (hb hby hd) hr, hrun, hended, _, _, rfl, hq, ⟨_, rfl⟩, hW, hsame.mono hc hs⟩
theorem o_retI0 (X : Stand p l e R s m args below meth c T locs cells slots) (hx : p.tables.exec = Jvm.exec) {pc : Nat} {z : Int32} (hret : meth.sig.returnType = some .int) (hd : decode c.code pc = .ok (.ireturn, 1)) {fs : List Frame}
    (hl : ∀ (f : JFrame) (acts : List Action), f.method = m → f.locked = none → f.entered = [] → (doReturn e (T.setTop f) acts (some (.int z))).1 = T.setFrames fs) : Steps p.tables e below (T.setTop (mkF m pc Ls (.int z :: rest))) (T.setFrames fs) :=
  retOut X hx hret rfl (Or.inl ⟨rfl, Or.inl rfl, _, rfl⟩) hd hl
theorem o_retI {Q : Option Value → Heap → List Loc → Prop} {kc ks : Nat} (B : Bx own bs ml Z p l e R s m args below meth c T h locs cells slots) (pc : Nat) {z : Int32} (hd : decode bs pc = .ok (.ireturn, 1)) (hret : meth.sig.returnType = some .int) (hlk : meth.locks = false)  (hc : cells ≤ kc) (hs : slots ≤ ks) (hq : Q (some (.int z)) h locs) :
    OG p.tables e below (fun o s₂ => ∃ v L, o = .returned v ∧ Q v s₂.heap L ∧ FrameEnd s o s₂ L kc ks) (T.setTop (mkF m pc Ls (.int z :: rest))) := by
  obtain ⟨X, hx, hby, hml, hown, hZ, eT⟩ := B
  subst eT
  obtain ⟨fs, hr, hrun, hended, hW, hsame⟩ := X.leave (v := some (.int z)) (fun hn => by rw [hret] at hn; cases hn) hlk
  exact ⟨_, _, o_retI0 X hx hret (hb hby hd) hr, hrun, hended, _, _, rfl, hq, ⟨_, rfl⟩, hW, hsame.mono hc hs⟩
theorem o_retL {Q : Option Value → Heap → List Loc → Prop} {kc ks : Nat} (B : Bx own bs ml Z p l e R s m args below meth c T h locs cells slots) (pc : Nat) {z : Int64} (hd : decode bs pc = .ok (.lreturn, 1)) (hret : meth.sig.returnType = some .long) (hlk : meth.locks = false)  (hc : cells ≤ kc) (hs : slots ≤ ks) (hq : Q (some (.long z)) h locs) :
    OG p.tables e below (fun o s₂ => ∃ v L, o = .returned v ∧ Q v s₂.heap L ∧ FrameEnd s o s₂ L kc ks) (T.setTop (mkF m pc Ls [.long z])) := by
  obtain ⟨X, hx, hby, hml, hown, hZ, eT⟩ := B
  subst eT
  obtain ⟨fs, hr, hrun, hended, hW, hsame⟩ := X.leave (v := some (.long z)) (fun hn => by rw [hret] at hn; cases hn) hlk
  exact ⟨_, _, X.lreturnOut hx hret (hb hby hd) hr, hrun, hended, _, _, rfl, hq, ⟨_, rfl⟩, hW, hsame.mono hc hs⟩
theorem o_retA {Q : Option Value → Heap → List Loc → Prop} {kc ks : Nat} (B : Bx own bs ml Z p l e R s m args below meth c T h locs cells slots) (pc : Nat) {z : Value} {t : FieldType} (hd : decode bs pc = .ok (.areturn, 1)) (hret : meth.sig.returnType = some t) (hlk : meth.locks = false) (ht : t.isReference = true) (hz : z.isRef = true) (hc : cells ≤ kc) (hs : slots ≤ ks) (hq : Q (some z) h locs) :
    OG p.tables e below (fun o s₂ => ∃ v L, o = .returned v ∧ Q v s₂.heap L ∧ FrameEnd s o s₂ L kc ks) (T.setTop (mkF m pc Ls [z])) := by
  obtain ⟨X, hx, hby, hml, hown, hZ, eT⟩ := B
  subst eT
  obtain ⟨fs, hr, hrun, hended, hW, hsame⟩ := X.leave (v := some z) (fun hn => by rw [hret] at hn; cases hn) hlk
  exact ⟨_, _, X.areturnOut hx hz hret ht (hb hby hd) hr, hrun, hended, _, _, rfl, hq, ⟨_, rfl⟩, hW, hsame.mono hc hs⟩
theorem o_retV {Q : Option Value → Heap → List Loc → Prop} {kc ks : Nat} (B : Bx own bs ml Z p l e R s m args below meth c T h locs cells slots) (pc : Nat)  (hd : decode bs pc = .ok (.return_, 1)) (hret : meth.sig.returnType = none) (hlk : meth.locks = false)  (hc : cells ≤ kc) (hs : slots ≤ ks) (hq : Q (none) h locs) :
    OG p.tables e below (fun o s₂ => ∃ v L, o = .returned v ∧ Q v s₂.heap L ∧ FrameEnd s o s₂ L kc ks) (T.setTop (mkF m pc Ls [])) := by
  obtain ⟨X, hx, hby, hml, hown, hZ, eT⟩ := B
  subst eT
  obtain ⟨fs, hr, hrun, hended, hW, hsame⟩ := X.leave (v := none) (fun _ => rfl) hlk
  exact ⟨_, _, X.returnOut hx hret (hb hby hd) hr, hrun, hended, _, _, rfl, hq, ⟨_, rfl⟩, hW, hsame.mono hc hs⟩
/-- a body's contract, out of its walk -/
theorem enter {y : MethodName} {ret : Option FieldType} {rm : Room} {ws : List Jvm.Cond} {as' : Array Value} {h0 : Heap} {Q : Option Value → Heap → List Loc → Prop} {kc ks : Nat} (hpl : plainFor y = true) (Ls : Array Slot)
    (hL : Jvm.Sym.laidSlots as'.toList ++ List.replicate (ml - (Jvm.Sym.laidSlots as'.toList).length) .unset = Ls.toList)
    (body : ∀ (p : Program) (e : Env) (s : State) (m : MethodId) (below : List Frame) (meth : Method) (c : Code) (T : State), Bx y.cls bs ml Z p l e rm s m as' below meth c T h0 [] 0 0 → meth.sig.returnType = ret → meth.locks = false → meth.name = y.name →
      OG p.tables e below (fun o s₂ => ∃ v L, o = .returned v ∧ Q v s₂.heap L ∧ FrameEnd s o s₂ L kc ks) (T.setTop (mkF m 0 Ls []))) :
    MetFree l y (head1 (Jvm.Cond.code y bs ml ret :: ws) rm) (fun a U => a = as' ∧ Z.Warmed39 U.vm ∧ U.heap = h0) (fun _ _ _ _ _ => True) (fun _ U o U' => ∃ v L, o = .returned v ∧ Q v U'.heap L ∧ FrameEnd U o U' L kc ks) := by
  refine MetFree.of_bodySF hpl hisR ?_
  intro p e s m args below meth c s₁ Bd hml0 hP hK
  obtain ⟨rfl, hZ, hh⟩ := hP
  have e0 : s₁.heap = h0 := by rw [← hh, Bd.state]; rfl
  have r := body p e s m below meth c s₁ ⟨Stand.of_body Bd, Bd.exec, Bd.bytes, hml0, findClass_of_methodNamed Bd.named, hZ, e0⟩ Bd.returns (BodyLoose.notSynchronized Bd) (name_of_methodNamed Bd.named Bd.method).1
  exact OG.of r fun t k => (XT.entry hL).trans k
/-- what a callee owes -/
abbrev Met (l : Launch) (Z : State) (y : MethodName) (bytes : ByteArray) (maxL : Nat) (ret : Option FieldType) (rm : Room) (as' : Array Value) (h : Heap) (Q : Option Value → Heap → List Loc → Prop) : Prop :=
  MetFree l y (head1 [Jvm.Cond.code y bytes maxL ret] rm) (fun a U => a = as' ∧ Z.Warmed39 U.vm ∧ U.heap = h) (fun _ _ _ _ _ => True) (fun _ U o U' => ∃ v L, o = .returned v ∧ Q v U'.heap L ∧ FrameEnd U o U' L rm.cells rm.slots)
theorem o_callS {index : Nat} {y : MethodName} {bytes : ByteArray} {maxL : Nat} {ret : Option FieldType} {rm : Room} {as' : Array Value} {Q : Option Value → Heap → List Loc → Prop} {ps : List FieldType} {rt : Option FieldType}
    (B : Bx own bs ml Z p l e R s m args below meth c T h locs cells slots) (pc pc' : Nat) (hd : decode bs pc = .ok (.invokestatic index, 3)) (hp : pc + 3 = pc')
    (w1 : (Cond.methodLink own index y).before a0 Z = true) (w2 : (Cond.static y).before a0 Z = true) (w3 : (Cond.initialized y.cls).before a0 Z = true) (w4 : (Cond.code y bytes maxL ret).before a0 Z = true) (hy : y.cls ≠ "java/lang/invoke/MethodHandle" ∧ y.cls ≠ "java/lang/invoke/VarHandle")
    (hM : Met l Z y bytes maxL ret rm as' h Q) (W : Nat) (argsL rest : List Value) (hpd : parseMethodDescriptor y.desc = some ⟨ps, rt⟩) (hlen : argsL.length = ps.length) (has : argsL.toArray = as') {st : List Value} (hst : st = argsL.reverse ++ rest) (hsz : Ls.size = ml)
    (hW : (rest.map fun v => v.category).sum ≤ W) (hf : rm.frames + 1 ≤ R.frames) (hl : W + (maxL + 11) + rm.locals ≤ R.locals) (hcl : cells + rm.cells ≤ R.cells) (hsl : slots + rm.slots ≤ R.slots) :
    ∃ v T' L, Bx own bs ml Z p l e R s m args below meth c T' T'.heap (locs ++ L) (cells + rm.cells) (slots + rm.slots) ∧ Q v T'.heap L ∧
      ∀ {P : Outcome → State → Prop}, OG p.tables e below P (T'.setTop (mkF m pc' Ls (v.toList ++ rest))) → OG p.tables e below P (T.setTop (mkF m pc Ls st)) := by
  subst hp hst
  obtain ⟨X, hx, hby, hml, hown, hZ, eT⟩ := B
  obtain ⟨v, vm1, ⟨T', L', k', n'⟩, -, X', ⟨Lc, hQ, l', y', z'⟩, st⟩ := Jvm.LawKit.callS X hx (y := y) hown (mvT hZ w1) (mvT hZ w2) (mvT hZ w3) (mvT hZ w4) hy (backOf (W := W) hM hZ w4 w3 hf hl) (g := mkF m pc Ls (argsL.reverse ++ rest)) rfl (by rw [hml]; exact hsz) (argsL := argsL) (rest := rest) (lenOf hpd hlen) rfl (by simpa using hW) (hb hby hd) (fun _ _ => ⟨has, eT, hcl, hsl⟩)
  dsimp only [Pt.U, Pt.locs, Pt.cells, Pt.slots] at X' l' y' z' st hQ
  subst l' y' z'
  exact ⟨v, T', Lc, ⟨X', hx, hby, hml, hown, hZ, rfl⟩, hQ, fun k => k.of st⟩
/-- a callee that writes and makes nothing -/
def Pu (r : Option Value) (h : Heap) (v : Option Value) (h' : Heap) (L : List Loc) : Prop := v = r ∧ L = [] ∧ h' = h
theorem o_callP {index : Nat} {y : MethodName} {bytes : ByteArray} {maxL : Nat} {ret : Option FieldType} {fr lo : Nat} {as' : Array Value} {r : Value} {ps : List FieldType} {rt : Option FieldType}
    (B : Bx own bs ml Z p l e R s m args below meth c T h locs cells slots) (pc pc' : Nat) (hd : decode bs pc = .ok (.invokestatic index, 3)) (hp : pc + 3 = pc')
    (w1 : (Cond.methodLink own index y).before a0 Z = true) (w2 : (Cond.static y).before a0 Z = true) (w3 : (Cond.initialized y.cls).before a0 Z = true) (w4 : (Cond.code y bytes maxL ret).before a0 Z = true) (hy : y.cls ≠ "java/lang/invoke/MethodHandle" ∧ y.cls ≠ "java/lang/invoke/VarHandle")
    (hM : Met l Z y bytes maxL ret ({ frames := fr, cells := 0, slots := 0, locals := lo } : Room) as' h (Pu (some r) h)) (W : Nat) (argsL rest : List Value) (hpd : parseMethodDescriptor y.desc = some ⟨ps, rt⟩) (hlen : argsL.length = ps.length) (has : argsL.toArray = as') {st : List Value} (hst : st = argsL.reverse ++ rest) (hsz : Ls.size = ml)
    (hW : (rest.map fun v => v.category).sum ≤ W) (hf : fr + 1 ≤ R.frames) (hl : W + (maxL + 11) + lo ≤ R.locals) (hcl : cells ≤ R.cells) (hsl : slots ≤ R.slots) :
    ∃ T', Bx own bs ml Z p l e R s m args below meth c T' h locs cells slots ∧
      ∀ {P : Outcome → State → Prop}, OG p.tables e below P (T'.setTop (mkF m pc' Ls (r :: rest))) → OG p.tables e below P (T.setTop (mkF m pc Ls st)) := by
  obtain ⟨v, T', L, B', ⟨rfl, rfl, hh⟩, st⟩ := o_callS B pc pc' hd hp w1 w2 w3 w4 hy hM W argsL rest hpd hlen has hst hsz hW hf hl hcl hsl
  rw [hh, List.append_nil] at B'
  exact ⟨T', B', st⟩
end Walk
theorem b_ne_t {c : Prop} [Decidable c] (h : c) : ifCond.holds .ne (if c then (1 : Int32) else 0) = true := by rw [if_pos h]; rfl
theorem b_ne_f {c : Prop} [Decidable c] (h : ¬ c) : ifCond.holds .ne (if c then (1 : Int32) else 0) = false := by rw [if_neg h]; rfl
theorem b_eq_t {c : Prop} [Decidable c] (h : ¬ c) : ifCond.holds .eq (if c then (1 : Int32) else 0) = true := by rw [if_neg h]; rfl
theorem b_eq_f {c : Prop} [Decidable c] (h : c) : ifCond.holds .eq (if c then (1 : Int32) else 0) = false := by rw [if_pos h]; rfl
/-! 2. arrays by a function of the place -/
def AI (Z : State) (h : Heap) (a : Addr) (ty : FieldType) (n : Nat) (g : Nat → Int32) : Prop := ∃ c : Cell, Arr Z h a c ty ∧ c.slots.size = n ∧ n < 2147483648 ∧ ∀ j, j < n → c.slots[j]? = some (.int (g j))
def AJ (Z : State) (h : Heap) (a : Addr) (n : Nat) (g : Nat → Int64) : Prop := ∃ c : Cell, Arr Z h a c .long ∧ c.slots.size = n ∧ n < 2147483648 ∧ ∀ j, j < n → c.slots[j]? = some (.long (g j))
section Arrays
variable {Z : State} {h h' : Heap} {a b : Addr} {ty : FieldType} {n i : Nat} {v : Value} {ws : List Addr}
theorem AI.ext {g : Nat → Int32} (A : AI Z h a ty n g) (E : Ext h h') : AI Z h' a ty n g := by obtain ⟨c, A, r⟩ := A; exact ⟨c, A.ext E, r⟩
theorem AI.other {g : Nat → Int32} (A : AI Z h a ty n g) (W : Wr h h' b i v) (q : a ≠ b) : AI Z h' a ty n g := by obtain ⟨c, A, r⟩ := A; exact ⟨c, A.other W q, r⟩
theorem AI.keep {g : Nat → Int32} (A : AI Z h a ty n g) (K : Keep h h' ws) (q : a ∉ ws) : AI Z h' a ty n g := by obtain ⟨c, A, r⟩ := A; exact ⟨c, ⟨K.2.1 a c A.1 q, A.2⟩, r⟩
theorem AI.lt {g : Nat → Int32} (A : AI Z h a ty n g) : a < h.size := by obtain ⟨c, A, r⟩ := A; exact A.lt
theorem AI.len {g : Nat → Int32} (A : AI Z h a ty n g) : n < 2147483648 := by obtain ⟨c, A, r, q, _⟩ := A; exact q
theorem AI.alt {g g' : Nat → Int32} (A : AI Z h a ty n g) (q : ∀ j, j < n → g' j = g j) : AI Z h a ty n g' := by obtain ⟨c, A, r, s, H⟩ := A; exact ⟨c, A, r, s, fun j hj => by rw [q j hj]; exact H j hj⟩
theorem AI.set {g : Nat → Int32} {x : Int32} (A : AI Z h a ty n g) (W : Wr h h' a i (.int x)) : AI Z h' a ty n (fun j => if j = i then x else g j) := by
  obtain ⟨c, A, S, hn, H⟩ := A
  refine ⟨c.setSlot i (.int x), Arr.same W A, by simp [Cell.setSlot, S], hn, fun j hj => ?_⟩
  show (c.slots.setIfInBounds i (.int x))[j]? = some (.int (if j = i then x else g j))
  by_cases e : j = i
  · subst e; rw [if_pos rfl]; simp [S, hj]
  · rw [if_neg e, Array.getElem?_setIfInBounds_ne (Ne.symm e)]; exact H j hj
theorem AJ.ext {g : Nat → Int64} (A : AJ Z h a n g) (E : Ext h h') : AJ Z h' a n g := by obtain ⟨c, A, r⟩ := A; exact ⟨c, A.ext E, r⟩
theorem AJ.other {g : Nat → Int64} (A : AJ Z h a n g) (W : Wr h h' b i v) (q : a ≠ b) : AJ Z h' a n g := by obtain ⟨c, A, r⟩ := A; exact ⟨c, A.other W q, r⟩
theorem AJ.keep {g : Nat → Int64} (A : AJ Z h a n g) (K : Keep h h' ws) (q : a ∉ ws) : AJ Z h' a n g := by obtain ⟨c, A, r⟩ := A; exact ⟨c, ⟨K.2.1 a c A.1 q, A.2⟩, r⟩
theorem AJ.lt {g : Nat → Int64} (A : AJ Z h a n g) : a < h.size := by obtain ⟨c, A, r⟩ := A; exact A.lt
theorem AJ.len {g : Nat → Int64} (A : AJ Z h a n g) : n < 2147483648 := by obtain ⟨c, A, r, q, _⟩ := A; exact q
theorem AJ.alt {g g' : Nat → Int64} (A : AJ Z h a n g) (q : ∀ j, j < n → g' j = g j) : AJ Z h a n g' := by obtain ⟨c, A, r, s, H⟩ := A; exact ⟨c, A, r, s, fun j hj => by rw [q j hj]; exact H j hj⟩
theorem AJ.set {g : Nat → Int64} {x : Int64} (A : AJ Z h a n g) (W : Wr h h' a i (.long x)) : AJ Z h' a n (fun j => if j = i then x else g j) := by
  obtain ⟨c, A, S, hn, H⟩ := A
  refine ⟨c.setSlot i (.long x), Arr.same W A, by simp [Cell.setSlot, S], hn, fun j hj => ?_⟩
  show (c.slots.setIfInBounds i (.long x))[j]? = some (.long (if j = i then x else g j))
  by_cases e : j = i
  · subst e; rw [if_pos rfl]; simp [S, hj]
  · rw [if_neg e, Array.getElem?_setIfInBounds_ne (Ne.symm e)]; exact H j hj
theorem in_of {c : Cell} {j : Int32} (S : c.slots.size = n) (h0 : ¬ j < 0) (hj : j.toNatClampNeg = i) (hi : i < n) : ¬ (j < 0 ∨ c.slots.size ≤ j.toNatClampNeg) := by rw [S, hj]; rintro (q | q); exact h0 q; omega
end Arrays
theorem ix_of {j : Int32} {k : Nat} (h : j.toInt = k) : ¬ j < 0 ∧ j.toNatClampNeg = k := by
  rw [Int32.lt_iff_toInt_lt, Int32.toInt_zero]
  simp only [Int32.toNatClampNeg, h]
  omega
theorem ix_add {j : Int32} {k : Nat} (c : Int32) (n : Nat) (h : j.toInt = k) (hc : c.toInt = n) (hk : k + n < 2147483648) : (j + c).toInt = (k + n : Nat) := by
  have a := c_iadd j c
  have r := rng32 (j + c)
  omega
theorem nar_bb (x : Int32) : nar .byte x.toInt8.toInt32 = x.toInt8.toInt32 := by simp [nar]
theorem nar_cc (x : Int32) : nar .char x.toUInt32.toUInt16.toUInt32.toInt32 = x.toUInt32.toUInt16.toUInt32.toInt32 := by simp only [nar, UInt32.toUInt32_toInt32, UInt16.toUInt16_toUInt32]
def Lw (n0 : Nat) (r : Option Value) (v : Option Value) (h : Heap) (L : List Loc) : Prop := v = r ∧ Fr n0 L
theorem st1 {l l' : Array Slot} {i : Nat} {v : Value} {o : Slot} (hold : l[i]? = some o) (ho : One o) (hv : v.category = 1) (hl : l.setIfInBounds i (.val v) = l') : storeLocals l i v = some l' := by
  rw [← hl]; exact XS.store1 hold ho hv
theorem st2 {l l' : Array Slot} {i : Nat} {x : Int64} {o o' : Slot} (hold : l[i]? = some o) (ho : One o) (hold' : l[i + 1]? = some o') (ho' : One o') (hl : (l.setIfInBounds i (.val (.long x))).setIfInBounds (i + 1) .second = l') : storeLocals l i (.long x) = some l' := by
  rw [← hl]
  have hi := (Array.getElem?_eq_some_iff.mp hold).1
  have hi' := (Array.getElem?_eq_some_iff.mp hold').1
  have e : (l.setIfInBounds i (.val (.long x)))[i + 1]? = some o' := by rw [Array.getElem?_setIfInBounds_ne (by omega)]; exact hold'
  rcases ho with rfl | ⟨w, rfl, hw⟩ <;> rcases ho' with rfl | ⟨w', rfl, hw'⟩ <;> simp [storeLocals, storeSelf, setAt, hold, hi, hi', *, Value.category] <;> simp_all [Value.category]
section Walk2
variable {own : String} {bs : ByteArray} {ml : Nat} {Z : State} {p : Program} {l : Launch} {e : Env} {R : Room} {s : State} {m : MethodId} {args : Array Value} {below : List Frame} {meth : Method} {c : Code} {T : State} {h : Heap} {locs : List Loc} {cells slots n0 : Nat} {P : Outcome → State → Prop} {Ls : Array Slot} {rest : List Value} {a0 : Array Value} {a : Addr} {n : Nat}
theorem o_iaload (B : Bx own bs ml Z p l e R s m args below meth c T h locs cells slots) (pc pc' : Nat) {g : Nat → Int32} (A : AI Z h a .int n g) {j : Int32} (i : Nat) (v : Int32) (hd : decode bs pc = .ok (.iaload, 1)) (hp : pc + 1 = pc') (h0 : ¬ j < 0) (hj : j.toNatClampNeg = i) (hi : i < n) (hv : g i = v)
    (hr : OG p.tables e below P (T.setTop (mkF m pc' Ls (.int v :: rest)))) : OG p.tables e below P (T.setTop (mkF m pc Ls (.int j :: .ref a :: rest))) := by
  subst hp hv
  obtain ⟨X, hx, hby, hml, hown, hZ, eT⟩ := B
  obtain ⟨cl, A, S, hn, H⟩ := A
  exact hr.of fun t k => X.iaload hx (by rw [eT]; exact A.1) (State.isArrayOf_alike hZ.alike A.2.1) A.2.2 (in_of S h0 hj hi) (by rw [hj]; exact H i hi) (g := mkF m pc Ls (.int j :: .ref a :: rest)) rfl rfl (hb hby hd) t k
theorem o_caload (B : Bx own bs ml Z p l e R s m args below meth c T h locs cells slots) (pc pc' : Nat) {g : Nat → Int32} (A : AI Z h a .char n g) {j : Int32} (i : Nat) (v : Int32) (hd : decode bs pc = .ok (.caload, 1)) (hp : pc + 1 = pc') (h0 : ¬ j < 0) (hj : j.toNatClampNeg = i) (hi : i < n) (hv : g i = v)
    (hr : OG p.tables e below P (T.setTop (mkF m pc' Ls (.int v :: rest)))) : OG p.tables e below P (T.setTop (mkF m pc Ls (.int j :: .ref a :: rest))) := by
  subst hp hv
  obtain ⟨X, hx, hby, hml, hown, hZ, eT⟩ := B
  obtain ⟨cl, A, S, hn, H⟩ := A
  exact hr.of fun t k => X.caload hx (by rw [eT]; exact A.1) (State.isArrayOf_alike hZ.alike A.2.1) A.2.2 (in_of S h0 hj hi) (by rw [hj]; exact H i hi) (g := mkF m pc Ls (.int j :: .ref a :: rest)) rfl rfl (hb hby hd) t k
theorem o_baload (B : Bx own bs ml Z p l e R s m args below meth c T h locs cells slots) (pc pc' : Nat) {g : Nat → Int32} (A : AI Z h a .byte n g) {j : Int32} (i : Nat) (v : Int32) (hd : decode bs pc = .ok (.baload, 1)) (hp : pc + 1 = pc') (h0 : ¬ j < 0) (hj : j.toNatClampNeg = i) (hi : i < n) (hv : g i = v)
    (hr : OG p.tables e below P (T.setTop (mkF m pc' Ls (.int v :: rest)))) : OG p.tables e below P (T.setTop (mkF m pc Ls (.int j :: .ref a :: rest))) := by
  subst hp hv
  obtain ⟨X, hx, hby, hml, hown, hZ, eT⟩ := B
  obtain ⟨cl, A, S, hn, H⟩ := A
  exact hr.of fun t k => X.baloadBytes hx (by rw [eT]; exact A.1) (State.isArrayOf_alike hZ.alike A.2.1) A.2.2 (in_of S h0 hj hi) (by rw [hj]; exact H i hi) (g := mkF m pc Ls (.int j :: .ref a :: rest)) rfl rfl (hb hby hd) t k
theorem o_zaload (B : Bx own bs ml Z p l e R s m args below meth c T h locs cells slots) (pc pc' : Nat) {g : Nat → Int32} (A : AI Z h a .boolean n g) {j : Int32} (i : Nat) (v : Int32) (hd : decode bs pc = .ok (.baload, 1)) (hp : pc + 1 = pc') (h0 : ¬ j < 0) (hj : j.toNatClampNeg = i) (hi : i < n) (hv : g i = v)
    (hr : OG p.tables e below P (T.setTop (mkF m pc' Ls (.int v :: rest)))) : OG p.tables e below P (T.setTop (mkF m pc Ls (.int j :: .ref a :: rest))) := by
  subst hp hv
  obtain ⟨X, hx, hby, hml, hown, hZ, eT⟩ := B
  obtain ⟨cl, A, S, hn, H⟩ := A
  exact hr.of fun t k => X.baloadBooleans hx (by rw [eT]; exact A.1) (State.isArrayOf_alike hZ.alike A.2.1) A.2.2 (in_of S h0 hj hi) (by rw [hj]; exact H i hi) (g := mkF m pc Ls (.int j :: .ref a :: rest)) rfl rfl (hb hby hd) t k
theorem o_laload (B : Bx own bs ml Z p l e R s m args below meth c T h locs cells slots) (pc pc' : Nat) {g : Nat → Int64} (A : AJ Z h a n g) {j : Int32} (i : Nat) (v : Int64) (hd : decode bs pc = .ok (.laload, 1)) (hp : pc + 1 = pc') (h0 : ¬ j < 0) (hj : j.toNatClampNeg = i) (hi : i < n) (hv : g i = v)
    (hr : OG p.tables e below P (T.setTop (mkF m pc' Ls (.long v :: rest)))) : OG p.tables e below P (T.setTop (mkF m pc Ls (.int j :: .ref a :: rest))) := by
  subst hp hv
  obtain ⟨X, hx, hby, hml, hown, hZ, eT⟩ := B
  obtain ⟨cl, A, S, hn, H⟩ := A
  exact hr.of fun t k => X.laload hx (by rw [eT]; exact A.1) (State.isArrayOf_alike hZ.alike A.2.1) A.2.2 (in_of S h0 hj hi) (by rw [hj]; exact H i hi) (g := mkF m pc Ls (.int j :: .ref a :: rest)) rfl rfl (hb hby hd) t k
theorem o_alenI (B : Bx own bs ml Z p l e R s m args below meth c T h locs cells slots) (pc pc' : Nat) {ty : FieldType} {g : Nat → Int32} (A : AI Z h a ty n g) (v : Int32) (hd : decode bs pc = .ok (.arraylength, 1)) (hp : pc + 1 = pc') (hv : n.toInt32 = v)
    (hr : OG p.tables e below P (T.setTop (mkF m pc' Ls (.int v :: rest)))) : OG p.tables e below P (T.setTop (mkF m pc Ls (.ref a :: rest))) := by
  subst hp hv
  obtain ⟨X, hx, hby, hml, hown, hZ, eT⟩ := B
  obtain ⟨cl, A, S, hn, H⟩ := A
  exact hr.of fun t k => X.arraylength hx (by rw [eT]; exact A.1) (State.isArrayOf_alike hZ.alike A.2.1) (g := mkF m pc Ls (.ref a :: rest)) rfl rfl (hb hby hd) t (by rw [S]; exact k)
theorem o_alenJ (B : Bx own bs ml Z p l e R s m args below meth c T h locs cells slots) (pc pc' : Nat) {g : Nat → Int64} (A : AJ Z h a n g) (v : Int32) (hd : decode bs pc = .ok (.arraylength, 1)) (hp : pc + 1 = pc') (hv : n.toInt32 = v)
    (hr : OG p.tables e below P (T.setTop (mkF m pc' Ls (.int v :: rest)))) : OG p.tables e below P (T.setTop (mkF m pc Ls (.ref a :: rest))) := by
  subst hp hv
  obtain ⟨X, hx, hby, hml, hown, hZ, eT⟩ := B
  obtain ⟨cl, A, S, hn, H⟩ := A
  exact hr.of fun t k => X.arraylength hx (by rw [eT]; exact A.1) (State.isArrayOf_alike hZ.alike A.2.1) (g := mkF m pc Ls (.ref a :: rest)) rfl rfl (hb hby hd) t (by rw [S]; exact k)
theorem o_iastore (B : Bx own bs ml Z p l e R s m args below meth c T h locs cells slots) (N : Fr n0 locs) (ge : n0 ≤ a) (pc pc' : Nat) {g : Nat → Int32} (A : AI Z h a .int n g) {j : Int32} {x : Int32} (i : Nat) (y : Int32) (hd : decode bs pc = .ok (.iastore, 1)) (hp : pc + 1 = pc') (h0 : ¬ j < 0) (hj : j.toNatClampNeg = i) (hi : i < n) (hy : x = y) :
    ∃ T' h' L', Bx own bs ml Z p l e R s m args below meth c T' h' L' cells slots ∧ Fr n0 L' ∧ Wr h h' a i (.int y) ∧ AI Z h' a .int n (fun j => if j = i then y else g j) ∧ ∀ {P : Outcome → State → Prop}, OG p.tables e below P (T'.setTop (mkF m pc' Ls rest)) → OG p.tables e below P (T.setTop (mkF m pc Ls (.int x :: .int j :: .ref a :: rest))) := by
  subst hp hj hy
  obtain ⟨X, hx, hby, hml, hown, hZ, eT⟩ := B
  have A' := A
  obtain ⟨cl, A, S, hn, H⟩ := A
  obtain ⟨T', h', X', e', W, st⟩ := stI X hx hZ eT A (in_of S h0 rfl hi) (g := mkF m pc Ls (.int x :: .int j :: .ref a :: rest)) rfl rfl (hb hby hd)
  exact ⟨T', h', _, ⟨X', hx, hby, hml, hown, hZ, e'⟩, Fr.snoc X' N ge, W, A'.set W, fun k => k.of st⟩
theorem o_castore (B : Bx own bs ml Z p l e R s m args below meth c T h locs cells slots) (N : Fr n0 locs) (ge : n0 ≤ a) (pc pc' : Nat) {g : Nat → Int32} (A : AI Z h a .char n g) {j : Int32} {x : Int32} (i : Nat) (y : Int32) (hd : decode bs pc = .ok (.castore, 1)) (hp : pc + 1 = pc') (h0 : ¬ j < 0) (hj : j.toNatClampNeg = i) (hi : i < n) (hy : nar .char x = y) :
    ∃ T' h' L', Bx own bs ml Z p l e R s m args below meth c T' h' L' cells slots ∧ Fr n0 L' ∧ Wr h h' a i (.int y) ∧ AI Z h' a .char n (fun j => if j = i then y else g j) ∧ ∀ {P : Outcome → State → Prop}, OG p.tables e below P (T'.setTop (mkF m pc' Ls rest)) → OG p.tables e below P (T.setTop (mkF m pc Ls (.int x :: .int j :: .ref a :: rest))) := by
  subst hp hj hy
  obtain ⟨X, hx, hby, hml, hown, hZ, eT⟩ := B
  have A' := A
  obtain ⟨cl, A, S, hn, H⟩ := A
  obtain ⟨T', h', X', e', W, st⟩ := stC X hx hZ eT A (in_of S h0 rfl hi) (g := mkF m pc Ls (.int x :: .int j :: .ref a :: rest)) rfl rfl (hb hby hd)
  exact ⟨T', h', _, ⟨X', hx, hby, hml, hown, hZ, e'⟩, Fr.snoc X' N ge, W, A'.set W, fun k => k.of st⟩
theorem o_bastore (B : Bx own bs ml Z p l e R s m args below meth c T h locs cells slots) (N : Fr n0 locs) (ge : n0 ≤ a) (pc pc' : Nat) {g : Nat → Int32} (A : AI Z h a .byte n g) {j : Int32} {x : Int32} (i : Nat) (y : Int32) (hd : decode bs pc = .ok (.bastore, 1)) (hp : pc + 1 = pc') (h0 : ¬ j < 0) (hj : j.toNatClampNeg = i) (hi : i < n) (hy : nar .byte x = y) :
    ∃ T' h' L', Bx own bs ml Z p l e R s m args below meth c T' h' L' cells slots ∧ Fr n0 L' ∧ Wr h h' a i (.int y) ∧ AI Z h' a .byte n (fun j => if j = i then y else g j) ∧ ∀ {P : Outcome → State → Prop}, OG p.tables e below P (T'.setTop (mkF m pc' Ls rest)) → OG p.tables e below P (T.setTop (mkF m pc Ls (.int x :: .int j :: .ref a :: rest))) := by
  subst hp hj hy
  obtain ⟨X, hx, hby, hml, hown, hZ, eT⟩ := B
  have A' := A
  obtain ⟨cl, A, S, hn, H⟩ := A
  obtain ⟨T', h', X', e', W, st⟩ := stB X hx hZ eT A (in_of S h0 rfl hi) (g := mkF m pc Ls (.int x :: .int j :: .ref a :: rest)) rfl rfl (hb hby hd)
  exact ⟨T', h', _, ⟨X', hx, hby, hml, hown, hZ, e'⟩, Fr.snoc X' N ge, W, A'.set W, fun k => k.of st⟩
theorem o_zastore (B : Bx own bs ml Z p l e R s m args below meth c T h locs cells slots) (N : Fr n0 locs) (ge : n0 ≤ a) (pc pc' : Nat) {g : Nat → Int32} (A : AI Z h a .boolean n g) {j : Int32} {x : Int32} (i : Nat) (y : Int32) (hd : decode bs pc = .ok (.bastore, 1)) (hp : pc + 1 = pc') (h0 : ¬ j < 0) (hj : j.toNatClampNeg = i) (hi : i < n) (hy : nar .boolean x = y) :
    ∃ T' h' L', Bx own bs ml Z p l e R s m args below meth c T' h' L' cells slots ∧ Fr n0 L' ∧ Wr h h' a i (.int y) ∧ AI Z h' a .boolean n (fun j => if j = i then y else g j) ∧ ∀ {P : Outcome → State → Prop}, OG p.tables e below P (T'.setTop (mkF m pc' Ls rest)) → OG p.tables e below P (T.setTop (mkF m pc Ls (.int x :: .int j :: .ref a :: rest))) := by
  subst hp hj hy
  obtain ⟨X, hx, hby, hml, hown, hZ, eT⟩ := B
  have A' := A
  obtain ⟨cl, A, S, hn, H⟩ := A
  obtain ⟨T', h', X', e', W, st⟩ := stZ X hx hZ eT A (in_of S h0 rfl hi) (g := mkF m pc Ls (.int x :: .int j :: .ref a :: rest)) rfl rfl (hb hby hd)
  exact ⟨T', h', _, ⟨X', hx, hby, hml, hown, hZ, e'⟩, Fr.snoc X' N ge, W, A'.set W, fun k => k.of st⟩
theorem o_lastore (B : Bx own bs ml Z p l e R s m args below meth c T h locs cells slots) (N : Fr n0 locs) (ge : n0 ≤ a) (pc pc' : Nat) {g : Nat → Int64} (A : AJ Z h a n g) {j : Int32} {x : Int64} (i : Nat) (y : Int64) (hd : decode bs pc = .ok (.lastore, 1)) (hp : pc + 1 = pc') (h0 : ¬ j < 0) (hj : j.toNatClampNeg = i) (hi : i < n) (hy : x = y) :
    ∃ T' h' L', Bx own bs ml Z p l e R s m args below meth c T' h' L' cells slots ∧ Fr n0 L' ∧ Wr h h' a i (.long y) ∧ AJ Z h' a n (fun j => if j = i then y else g j) ∧ ∀ {P : Outcome → State → Prop}, OG p.tables e below P (T'.setTop (mkF m pc' Ls rest)) → OG p.tables e below P (T.setTop (mkF m pc Ls (.long x :: .int j :: .ref a :: rest))) := by
  subst hp hj hy
  obtain ⟨X, hx, hby, hml, hown, hZ, eT⟩ := B
  have A' := A
  obtain ⟨cl, A, S, hn, H⟩ := A
  obtain ⟨T', h', X', e', W, st⟩ := stJ X hx hZ eT A (in_of S h0 rfl hi) (g := mkF m pc Ls (.long x :: .int j :: .ref a :: rest)) rfl rfl (hb hby hd)
  exact ⟨T', h', _, ⟨X', hx, hby, hml, hown, hZ, e'⟩, Fr.snoc X' N ge, W, A'.set W, fun k => k.of st⟩
theorem o_newI (B : Bx own bs ml Z p l e R s m args below meth c T h locs cells slots) (pc pc' : Nat) {aty : ArrayType} {ty : FieldType} {z : Int32} (k cap : Nat) (w : (Cond.arrayClass (newarray.typeOf aty)).before a0 Z = true) (hd : decode bs pc = .ok (.newarray aty, 2)) (hp : pc + 2 = pc') (hty : newarray.typeOf aty = ty) (hdv : defaultValue ty = .int 0) (hz : ¬ z < 0) (hk : z.toNatClampNeg = k) (hcap : k ≤ cap) (hb8 : cap * 8 ≤ 536870912) (hc : cells + 1 ≤ R.cells) (hl : slots + cap ≤ R.slots) :
    ∃ a T' h', a = h.size ∧ Bx own bs ml Z p l e R s m args below meth c T' h' locs (cells + 1) (slots + cap) ∧ Ext h h' ∧ AI Z h' a ty k (fun _ => 0) ∧ ∀ {P : Outcome → State → Prop}, OG p.tables e below P (T'.setTop (mkF m pc' Ls (.ref a :: rest))) → OG p.tables e below P (T.setTop (mkF m pc Ls (.int z :: rest))) := by
  subst hp hk
  obtain ⟨X, hx, hby, hml, hown, hZ, eT⟩ := B
  obtain ⟨T', h', cA, X', e', E, A, st⟩ := newP X hx hZ w eT (g := mkF m pc Ls (.int z :: rest)) rfl (hb hby hd) rfl hz (cap := cap) hcap hb8 hc hl
  rw [hty] at A
  refine ⟨h.size, T', h', rfl, ⟨X', hx, hby, hml, hown, hZ, e'⟩, E, ⟨_, A, sz_new _ _ _, (back32 hz).2, fun j hj => ?_⟩, fun k => k.of st⟩
  simp [newA, hj, hdv]
theorem o_newJ (B : Bx own bs ml Z p l e R s m args below meth c T h locs cells slots) (pc pc' : Nat) {aty : ArrayType} {z : Int32} (k cap : Nat) (w : (Cond.arrayClass (newarray.typeOf aty)).before a0 Z = true) (hd : decode bs pc = .ok (.newarray aty, 2)) (hp : pc + 2 = pc') (hty : newarray.typeOf aty = .long) (hz : ¬ z < 0) (hk : z.toNatClampNeg = k) (hcap : k ≤ cap) (hb8 : cap * 8 ≤ 536870912) (hc : cells + 1 ≤ R.cells) (hl : slots + cap ≤ R.slots) :
    ∃ a T' h', a = h.size ∧ Bx own bs ml Z p l e R s m args below meth c T' h' locs (cells + 1) (slots + cap) ∧ Ext h h' ∧ AJ Z h' a k (fun _ => 0) ∧ ∀ {P : Outcome → State → Prop}, OG p.tables e below P (T'.setTop (mkF m pc' Ls (.ref a :: rest))) → OG p.tables e below P (T.setTop (mkF m pc Ls (.int z :: rest))) := by
  subst hp hk
  obtain ⟨X, hx, hby, hml, hown, hZ, eT⟩ := B
  obtain ⟨T', h', cA, X', e', E, A, st⟩ := newP X hx hZ w eT (g := mkF m pc Ls (.int z :: rest)) rfl (hb hby hd) rfl hz (cap := cap) hcap hb8 hc hl
  rw [hty] at A
  refine ⟨h.size, T', h', rfl, ⟨X', hx, hby, hml, hown, hZ, e'⟩, E, ⟨_, A, sz_new _ _ _, (back32 hz).2, fun j hj => ?_⟩, fun k => k.of st⟩
  simp [newA, hj, defaultValue]
theorem o_getfield (B : Bx own bs ml Z p l e R s m args below meth c T h locs cells slots) {R0 O f d host : String} {index : Nat} {v : Value} (pc pc' : Nat) (hd : decode bs pc = .ok (.getfield index, 3)) (hp : pc + 3 = pc') (w : (Cond.fieldLink own index R0 f d).before a0 Z = true ∨ (Cond.fieldLinkNest own index R0 f d host).before a0 Z = true) (via : Via Z R0 O f d) (F : Fld Z h a O f d v) :
    ∃ T', Bx own bs ml Z p l e R s m args below meth c T' h locs cells slots ∧ ∀ {P : Outcome → State → Prop}, OG p.tables e below P (T'.setTop (mkF m pc' Ls (v :: rest))) → OG p.tables e below P (T.setTop (mkF m pc Ls (.ref a :: rest))) := by
  subst hp
  obtain ⟨X, hx, hby, hml, hown, hZ, eT⟩ := B
  obtain ⟨T', X', e', st⟩ := getF X hx hZ hown w via eT F (g := mkF m pc Ls (.ref a :: rest)) rfl rfl (hb hby hd)
  exact ⟨T', ⟨X', hx, hby, hml, hown, hZ, e'⟩, fun k => k.of st⟩
theorem o_putfield (B : Bx own bs ml Z p l e R s m args below meth c T h locs cells slots) (N : Fr n0 locs) (ge : n0 ≤ a) {R0 O f d host C : String} {index kk : Nat} {v old : Value} {ty : FieldType} (pc pc' : Nat) (hd : decode bs pc = .ok (.putfield index, 3)) (hp : pc + 3 = pc') (w : (Cond.fieldLink own index R0 f d).before a0 Z = true ∨ (Cond.fieldLinkNest own index R0 f d host).before a0 Z = true) (via : Via Z R0 O f d) (F : Fld Z h a O f d old) (E : Exa Z h a C) (L : (Cond.lays C O f d).before a0 Z = true ∨ ((Cond.laysFinal C O f d).before a0 Z = true ∧ own = O ∧ meth.name = "<init>")) (wi : (Cond.instantiable C kk).before a0 Z = true) (hty : parseFieldDescriptor d = some ty) (hn : narrow ty v = v) (hf : fits ty v = true) :
    ∃ T' h' L', Bx own bs ml Z p l e R s m args below meth c T' h' L' cells slots ∧ Fr n0 L' ∧ Wr h h' a (Jvm.RoadKit.slotOf Z O f d) v ∧ ∀ {P : Outcome → State → Prop}, OG p.tables e below P (T'.setTop (mkF m pc' Ls rest)) → OG p.tables e below P (T.setTop (mkF m pc Ls (v :: .ref a :: rest))) := by
  subst hp
  obtain ⟨X, hx, hby, hml, hown, hZ, eT⟩ := B
  obtain ⟨T', h', X', e', W, st⟩ := putF X hx hZ hown w via eT F E L wi hty hn hf (g := mkF m pc Ls (v :: .ref a :: rest)) rfl rfl (hb hby hd)
  exact ⟨T', h', _, ⟨X', hx, hby, hml, hown, hZ, e'⟩, Fr.snoc X' N ge, W, fun k => k.of st⟩
theorem o_new (B : Bx own bs ml Z p l e R s m args below meth c T h locs cells slots) {C : String} {index : Nat} (pc pc' : Nat) (hd : decode bs pc = .ok (.new index, 3)) (hp : pc + 3 = pc') (w : (Cond.classLink own index C).before a0 Z = true) (wi : (Cond.instantiable C n).before a0 Z = true) (wz : (Cond.initialized C).before a0 Z = true) (hc : cells + 1 ≤ R.cells) (hl : slots + n ≤ R.slots) :
    ∃ a T' h', a = h.size ∧ Bx own bs ml Z p l e R s m args below meth c T' h' locs (cells + 1) (slots + n) ∧ Ext h h' ∧ Exa Z h' a C ∧ (∀ {O nm d : String} {ty : FieldType}, Laid Z a0 C O nm d → parseFieldDescriptor d = some ty → Fld Z h' a O nm d (defaultValue ty)) ∧ ∀ {P : Outcome → State → Prop}, OG p.tables e below P (T'.setTop (mkF m pc' Ls (.ref a :: rest))) → OG p.tables e below P (T.setTop (mkF m pc Ls rest)) := by
  subst hp
  obtain ⟨X, hx, hby, hml, hown, hZ, eT⟩ := B
  obtain ⟨T', h', X', e', E, A, D, -, st⟩ := newO X hx hZ hown w wi wz eT (g := mkF m pc Ls rest) rfl (hb hby hd) hc hl
  exact ⟨h.size, T', h', rfl, ⟨X', hx, hby, hml, hown, hZ, e'⟩, E, A, D, fun k => k.of st⟩
theorem o_initO (B : Bx own bs ml Z p l e R s m args below meth c T h locs cells slots) {index : Nat} (pc pc' : Nat) (hd : decode bs pc = .ok (.invokespecial index, 3)) (hp : pc + 3 = pc') (w1 : (Cond.methodLink own index Lib.objectInit).before a0 Z = true) (w2 : (Cond.instanceMethod Lib.objectInit).before a0 Z = true) (w3 : (Cond.code Lib.objectInit ⟨#[0xb1]⟩ 1 none).before a0 Z = true) (hsz : Ls.size = ml) (W : Nat) (hW : (rest.map fun v => v.category).sum ≤ W) (hf : 1 ≤ R.frames) (hl : W + 12 ≤ R.locals) :
    ∃ T', Bx own bs ml Z p l e R s m args below meth c T' h locs cells slots ∧ ∀ {P : Outcome → State → Prop}, OG p.tables e below P (T'.setTop (mkF m pc' Ls rest)) → OG p.tables e below P (T.setTop (mkF m pc Ls (.ref a :: rest))) := by
  subst hp
  obtain ⟨X, hx, hby, hml, hown, hZ, eT⟩ := B
  obtain ⟨T', X', e', st⟩ := initO X hx hZ hown w1 w2 w3 eT (g := mkF m pc Ls (.ref a :: rest)) rfl (by rw [hml]; exact hsz) rfl (hb hby hd) hf (W := W) (by simpa using hW) hl
  exact ⟨T', ⟨X', hx, hby, hml, hown, hZ, e'⟩, fun k => k.of st⟩
theorem o_callN {index : Nat} {y : MethodName} {bytes : ByteArray} {maxL : Nat} {rm : Room} {as' : Array Value} {Q : Option Value → Heap → List Loc → Prop} {ps : List FieldType} {rt : Option FieldType}
    (B : Bx own bs ml Z p l e R s m args below meth c T h locs cells slots) (pc pc' : Nat) (hd : decode bs pc = .ok (.invokespecial index, 3)) (hp : pc + 3 = pc') (hy1 : y.name = "<init>")
    (w1 : (Cond.methodLink own index y).before a0 Z = true) (w2 : (Cond.instanceMethod y).before a0 Z = true) (w3 : (Cond.initialized y.cls).before a0 Z = true) (w4 : (Cond.code y bytes maxL none).before a0 Z = true) (hy : y.cls ≠ "java/lang/invoke/MethodHandle" ∧ y.cls ≠ "java/lang/invoke/VarHandle")
    (hM : Met l Z y bytes maxL none rm as' h Q) (W : Nat) (argsL rest : List Value) (hpd : parseMethodDescriptor y.desc = some ⟨ps, rt⟩) (hlen : argsL.length = ps.length) (has : (.ref a :: argsL).toArray = as') {st : List Value} (hst : st = argsL.reverse ++ .ref a :: rest) (hsz : Ls.size = ml)
    (hW : (rest.map fun v => v.category).sum ≤ W) (hf : rm.frames + 1 ≤ R.frames) (hl : W + (maxL + 11) + rm.locals ≤ R.locals) (hcl : cells + rm.cells ≤ R.cells) (hsl : slots + rm.slots ≤ R.slots) :
    ∃ v T' L, Bx own bs ml Z p l e R s m args below meth c T' T'.heap (locs ++ L) (cells + rm.cells) (slots + rm.slots) ∧ Q v T'.heap L ∧
      ∀ {P : Outcome → State → Prop}, OG p.tables e below P (T'.setTop (mkF m pc' Ls (v.toList ++ rest))) → OG p.tables e below P (T.setTop (mkF m pc Ls st)) := by
  subst hp hst
  obtain ⟨X, hx, hby, hml, hown, hZ, eT⟩ := B
  obtain ⟨v, vm1, ⟨T', L', k', n'⟩, -, X', ⟨Lc, hQ, l', y', z'⟩, st⟩ := X.specialBack hx (y := y) hy1 hown (mvT hZ w1) (mvT hZ w2) (mvT hZ w4) hy (backOf (W := W) hM hZ w4 w3 hf hl) (g := mkF m pc Ls (argsL.reverse ++ .ref a :: rest)) rfl (by rw [hml]; exact hsz) (Steps.refl _) (a := a) (argsL := argsL) (rest := rest) (lenOf hpd hlen) rfl (by simpa using hW) (hb hby hd) (fun _ _ => ⟨has, eT, hcl, hsl⟩)
  dsimp only [Pt.U, Pt.locs, Pt.cells, Pt.slots] at X' l' y' z' st hQ
  subst l' y' z'
  exact ⟨v, T', Lc, ⟨X', hx, hby, hml, hown, hZ, rfl⟩, hQ, fun k => k.of fun t q => st.trans q⟩
theorem o_callV {index : Nat} {y : MethodName} {C : String} {bytes : ByteArray} {maxL : Nat} {ret : Option FieldType} {rm : Room} {as' : Array Value} {Q : Option Value → Heap → List Loc → Prop} {ps : List FieldType} {rt : Option FieldType}
    (B : Bx own bs ml Z p l e R s m args below meth c T h locs cells slots) (pc pc' : Nat) (hd : decode bs pc = .ok (.invokevirtual index, 3)) (hp : pc + 3 = pc')
    (w1 : (Cond.methodLink own index y).before a0 Z = true) (w2 : (Cond.declares y).before a0 Z = true) (w5 : (Cond.selects C y y).before a0 Z = true) (w6 : (Cond.instanceMethod y).before a0 Z = true) (w3 : (Cond.initialized y.cls).before a0 Z = true) (w4 : (Cond.code y bytes maxL ret).before a0 Z = true) (hy : y.cls ≠ "java/lang/invoke/MethodHandle" ∧ y.cls ≠ "java/lang/invoke/VarHandle") (E : Exa Z h a C)
    (hM : Met l Z y bytes maxL ret rm as' h Q) (W : Nat) (argsL rest : List Value) (hpd : parseMethodDescriptor y.desc = some ⟨ps, rt⟩) (hlen : argsL.length = ps.length) (has : (.ref a :: argsL).toArray = as') {st : List Value} (hst : st = argsL.reverse ++ .ref a :: rest) (hsz : Ls.size = ml)
    (hW : (rest.map fun v => v.category).sum ≤ W) (hf : rm.frames + 1 ≤ R.frames) (hl : W + (maxL + 11) + rm.locals ≤ R.locals) (hcl : cells + rm.cells ≤ R.cells) (hsl : slots + rm.slots ≤ R.slots) :
    ∃ v T' L, Bx own bs ml Z p l e R s m args below meth c T' T'.heap (locs ++ L) (cells + rm.cells) (slots + rm.slots) ∧ Q v T'.heap L ∧
      ∀ {P : Outcome → State → Prop}, OG p.tables e below P (T'.setTop (mkF m pc' Ls (v.toList ++ rest))) → OG p.tables e below P (T.setTop (mkF m pc Ls st)) := by
  subst hp hst
  obtain ⟨X, hx, hby, hml, hown, hZ, eT⟩ := B
  obtain ⟨cq, kq, qa, qb, qc⟩ := isOf hZ eT E
  obtain ⟨v, vm1, ⟨T', L', k', n'⟩, -, X', ⟨Lc, hQ, l', y', z'⟩, st⟩ := X.virtualBack hx (y := y) (z := y) hown (mvT hZ w1) (mvT hZ w2) (notFace_of_selects (args := #[]) (mvT hZ w5)) (mvT hZ w5) (mvT hZ w6) hy (backOf (W := W) hM hZ w4 w3 hf hl) qa qc (g := mkF m pc Ls (argsL.reverse ++ .ref a :: rest)) rfl (by rw [hml]; exact hsz) (Steps.refl _) (argsL := argsL) (rest := rest) (lenOf hpd hlen) rfl (by simpa using hW) (hb hby hd) (fun _ _ => ⟨has, eT, hcl, hsl⟩)
  dsimp only [Pt.U, Pt.locs, Pt.cells, Pt.slots] at X' l' y' z' st hQ
  subst l' y' z'
  exact ⟨v, T', Lc, ⟨X', hx, hby, hml, hown, hZ, rfl⟩, hQ, fun k => k.of fun t q => st.trans q⟩
theorem o_callVP {index : Nat} {y : MethodName} {C : String} {bytes : ByteArray} {maxL : Nat} {ret : Option FieldType} {fr lo : Nat} {as' : Array Value} {r : Value} {ps : List FieldType} {rt : Option FieldType}
    (B : Bx own bs ml Z p l e R s m args below meth c T h locs cells slots) (pc pc' : Nat) (hd : decode bs pc = .ok (.invokevirtual index, 3)) (hp : pc + 3 = pc')
    (w1 : (Cond.methodLink own index y).before a0 Z = true) (w2 : (Cond.declares y).before a0 Z = true) (w5 : (Cond.selects C y y).before a0 Z = true) (w6 : (Cond.instanceMethod y).before a0 Z = true) (w3 : (Cond.initialized y.cls).before a0 Z = true) (w4 : (Cond.code y bytes maxL ret).before a0 Z = true) (hy : y.cls ≠ "java/lang/invoke/MethodHandle" ∧ y.cls ≠ "java/lang/invoke/VarHandle") (E : Exa Z h a C)
    (hM : Met l Z y bytes maxL ret ({ frames := fr, cells := 0, slots := 0, locals := lo } : Room) as' h (Pu (some r) h)) (W : Nat) (argsL rest : List Value) (hpd : parseMethodDescriptor y.desc = some ⟨ps, rt⟩) (hlen : argsL.length = ps.length) (has : (.ref a :: argsL).toArray = as') {st : List Value} (hst : st = argsL.reverse ++ .ref a :: rest) (hsz : Ls.size = ml)
    (hW : (rest.map fun v => v.category).sum ≤ W) (hf : fr + 1 ≤ R.frames) (hl : W + (maxL + 11) + lo ≤ R.locals) (hcl : cells ≤ R.cells) (hsl : slots ≤ R.slots) :
    ∃ T', Bx own bs ml Z p l e R s m args below meth c T' h locs cells slots ∧
      ∀ {P : Outcome → State → Prop}, OG p.tables e below P (T'.setTop (mkF m pc' Ls (r :: rest))) → OG p.tables e below P (T.setTop (mkF m pc Ls st)) := by
  obtain ⟨v, T', L, B', ⟨rfl, rfl, hh⟩, st⟩ := o_callV B pc pc' hd hp w1 w2 w5 w6 w3 w4 hy E hM W argsL rest hpd hlen has hst hsz hW hf hl hcl hsl
  rw [hh, List.append_nil] at B'
  exact ⟨T', B', st⟩
theorem o_callNP {index : Nat} {y : MethodName} {bytes : ByteArray} {maxL : Nat} {fr lo : Nat} {as' : Array Value} {ps : List FieldType} {rt : Option FieldType}
    (B : Bx own bs ml Z p l e R s m args below meth c T h locs cells slots) (pc pc' : Nat) (hd : decode bs pc = .ok (.invokespecial index, 3)) (hp : pc + 3 = pc') (hy1 : y.name = "<init>")
    (w1 : (Cond.methodLink own index y).before a0 Z = true) (w2 : (Cond.instanceMethod y).before a0 Z = true) (w3 : (Cond.initialized y.cls).before a0 Z = true) (w4 : (Cond.code y bytes maxL none).before a0 Z = true) (hy : y.cls ≠ "java/lang/invoke/MethodHandle" ∧ y.cls ≠ "java/lang/invoke/VarHandle")
    (hM : Met l Z y bytes maxL none ({ frames := fr, cells := 0, slots := 0, locals := lo } : Room) as' h (Pu none h)) (W : Nat) (argsL rest : List Value) (hpd : parseMethodDescriptor y.desc = some ⟨ps, rt⟩) (hlen : argsL.length = ps.length) (has : (.ref a :: argsL).toArray = as') {st : List Value} (hst : st = argsL.reverse ++ .ref a :: rest) (hsz : Ls.size = ml)
    (hW : (rest.map fun v => v.category).sum ≤ W) (hf : fr + 1 ≤ R.frames) (hl : W + (maxL + 11) + lo ≤ R.locals) (hcl : cells ≤ R.cells) (hsl : slots ≤ R.slots) :
    ∃ T', Bx own bs ml Z p l e R s m args below meth c T' h locs cells slots ∧
      ∀ {P : Outcome → State → Prop}, OG p.tables e below P (T'.setTop (mkF m pc' Ls rest)) → OG p.tables e below P (T.setTop (mkF m pc Ls st)) := by
  obtain ⟨v, T', L, B', ⟨rfl, rfl, hh⟩, st⟩ := o_callN B pc pc' hd hp hy1 w1 w2 w3 w4 hy hM W argsL rest hpd hlen has hst hsz hW hf hl hcl hsl
  rw [hh, List.append_nil] at B'
  exact ⟨T', B', st⟩
end Walk2
theorem d1_0 : decode method_3_code 0 = .ok (.iload_n 0, 1) := by decide +kernel
theorem d1_1 : decode method_3_code 1 = .ok (.iload_n 1, 1) := by decide +kernel
theorem d1_2 : decode method_3_code 2 = .ok (.iushr, 1) := by decide +kernel
theorem d1_3 : decode method_3_code 3 = .ok (.iconst 1, 1) := by decide +kernel
theorem d1_4 : decode method_3_code 4 = .ok (.iand, 1) := by decide +kernel
theorem d1_5 : decode method_3_code 5 = .ok (.ifCond .eq 7, 3) := by decide +kernel
theorem d1_8 : decode method_3_code 8 = .ok (.iconst 1, 1) := by decide +kernel
theorem d1_9 : decode method_3_code 9 = .ok (.goto 4, 3) := by decide +kernel
theorem d1_12 : decode method_3_code 12 = .ok (.iconst 0, 1) := by decide +kernel
theorem d1_13 : decode method_3_code 13 = .ok (.ireturn, 1) := by decide +kernel
theorem pl1 : plainFor (⟨"com/example/micro_ranker/microranker/engine/TextsHoldsPinLaw", "bit", "(II)Z"⟩ : MethodName) = true := by first | exact plainFor_of_name (by first | (simp [plainName, overriddenIn]; done) | decide +kernel) | decide +kernel
def f1 (x0 x1 : Int32) : Int32 := (if ((XT.ushr x0 x1) &&& (1 : Int32)) = 0 then (0 : Int32) else (1 : Int32))
set_option maxRecDepth 65536 in
set_option maxHeartbeats 40000000 in
theorem rm1 (l : Launch) (Z : State) (a0 : Array Value) (hw : ∀ d ∈ tables_1, d.before a0 Z = true) (x0 : Int32) (x1 : Int32) (h0 : Heap) :
    Met l Z (⟨"com/example/micro_ranker/microranker/engine/TextsHoldsPinLaw", "bit", "(II)Z"⟩ : MethodName) method_3_code 2 (some .boolean) ({ frames := 0, cells := 0, slots := 0, locals := 0 } : Room) #[(.int x0), (.int x1)] h0 (Pu (some (.int (f1 x0 x1))) h0) := by
  refine enter pl1 #[vi x0, vi x1] rfl ?_
  intro p e s m below meth c T B hret hlk hnm
  · refine o_iloadN B 0 1 (v := x0) d1_0 rfl rfl ?_
    refine o_iloadN B 1 2 (v := x1) d1_1 rfl rfl ?_
    refine o_iushr B 2 3 d1_2 rfl ?_
    refine o_iconst B 3 4 (1 : Int32) d1_3 rfl (by decide) ?_
    refine o_iand B 4 5 d1_4 rfl ?_
    by_cases k1 : ((XT.ushr x0 x1) &&& (1 : Int32)) = 0
    · refine o_ifY B 5 12 d1_5 (XT.i0_eq_t k1) (by decide) (by decide) ?_
      refine o_iconst B 12 13 (0 : Int32) d1_12 rfl (by decide) ?_
      refine o_retZ (t := .boolean) B 13 d1_13 hret hlk (by simp) (by decide) (by decide) ⟨(congrArg (fun z => some (Value.int z)) ((show nar .boolean (0 : Int32) = (0 : Int32) from rfl).trans (show f1 x0 x1 = (0 : Int32) from (if_pos k1).trans (rfl)).symm)), rfl, rfl⟩
    · refine o_ifN B 5 8 d1_5 rfl (XT.i0_eq_f k1) ?_
      refine o_iconst B 8 9 (1 : Int32) d1_8 rfl (by decide) ?_
      refine o_goto B 9 13 d1_9 (by decide) (by decide) ?_
      refine o_retZ (t := .boolean) B 13 d1_13 hret hlk (by simp) (by decide) (by decide) ⟨(congrArg (fun z => some (Value.int z)) ((show nar .boolean (1 : Int32) = (1 : Int32) from rfl).trans (show f1 x0 x1 = (1 : Int32) from (if_neg k1).trans (rfl)).symm)), rfl, rfl⟩
theorem d2_0 : decode method_2_code 0 = .ok (.lload_n 0, 1) := by decide +kernel
theorem d2_1 : decode method_2_code 1 = .ok (.bipush 16, 2) := by decide +kernel
theorem d2_3 : decode method_2_code 3 = .ok (.iload_n 2, 1) := by decide +kernel
theorem d2_4 : decode method_2_code 4 = .ok (.imul, 1) := by decide +kernel
theorem d2_5 : decode method_2_code 5 = .ok (.lushr, 1) := by decide +kernel
theorem d2_6 : decode method_2_code 6 = .ok (.l2i, 1) := by decide +kernel
theorem d2_7 : decode method_2_code 7 = .ok (.i2c, 1) := by decide +kernel
theorem d2_8 : decode method_2_code 8 = .ok (.istore 4, 2) := by decide +kernel
theorem d2_10 : decode method_2_code 10 = .ok (.iload_n 3, 1) := by decide +kernel
theorem d2_11 : decode method_2_code 11 = .ok (.ifCond .eq 8, 3) := by decide +kernel
theorem d2_14 : decode method_2_code 14 = .ok (.iload 4, 2) := by decide +kernel
theorem d2_16 : decode method_2_code 16 = .ok (.goto 10, 3) := by decide +kernel
theorem d2_19 : decode method_2_code 19 = .ok (.iload 4, 2) := by decide +kernel
theorem d2_21 : decode method_2_code 21 = .ok (.sipush 255, 3) := by decide +kernel
theorem d2_24 : decode method_2_code 24 = .ok (.iand, 1) := by decide +kernel
theorem d2_25 : decode method_2_code 25 = .ok (.i2c, 1) := by decide +kernel
theorem d2_26 : decode method_2_code 26 = .ok (.ireturn, 1) := by decide +kernel
theorem pl2 : plainFor (⟨"com/example/micro_ranker/microranker/engine/TextsHoldsPinLaw", "ch", "(JIZ)C"⟩ : MethodName) = true := by first | exact plainFor_of_name (by first | (simp [plainName, overriddenIn]; done) | decide +kernel) | decide +kernel
def q2_1 (x0 : Int64) (x1 x2 : Int32) : Int32 := (XT.ushrL x0 ((16 : Int32) * x1)).toInt32.toUInt32.toUInt16.toUInt32.toInt32
def f2 (x0 : Int64) (x1 x2 : Int32) : Int32 := (if x2 = 0 then ((q2_1 x0 x1 x2) &&& (255 : Int32)).toUInt32.toUInt16.toUInt32.toInt32 else (q2_1 x0 x1 x2))
set_option maxRecDepth 65536 in
set_option maxHeartbeats 40000000 in
theorem rm2 (l : Launch) (Z : State) (a0 : Array Value) (hw : ∀ d ∈ tables_1, d.before a0 Z = true) (x0 : Int64) (x1 : Int32) (x2 : Int32) (h0 : Heap) :
    Met l Z (⟨"com/example/micro_ranker/microranker/engine/TextsHoldsPinLaw", "ch", "(JIZ)C"⟩ : MethodName) method_2_code 5 (some .char) ({ frames := 0, cells := 0, slots := 0, locals := 0 } : Room) #[(.long x0), (.int x1), (.int x2)] h0 (Pu (some (.int (f2 x0 x1 x2))) h0) := by
  refine enter pl2 #[vj x0, s2, vi x1, vi x2, us] rfl ?_
  intro p e s m below meth c T B hret hlk hnm
  · refine o_lloadN B 0 1 (v := x0) d2_0 rfl rfl ?_
    refine o_bipush B 1 3 (16 : Int32) d2_1 rfl (by decide) ?_
    refine o_iloadN B 3 4 (v := x1) d2_3 rfl rfl ?_
    refine o_imul B 4 5 d2_4 rfl ?_
    refine o_lushr B 5 6 d2_5 rfl ?_
    refine o_l2i B 6 7 d2_6 rfl ?_
    refine o_i2c B 7 8 d2_7 rfl ?_
    refine o_istore B 8 10 (l' := #[vj x0, s2, vi x1, vi x2, vi (q2_1 x0 x1 x2)]) d2_8 rfl rfl ?_
    refine o_iloadN B 10 11 (v := x2) d2_10 rfl rfl ?_
    by_cases k1 : x2 = 0
    · refine o_ifY B 11 19 d2_11 (XT.i0_eq_t k1) (by decide) (by decide) ?_
      refine o_iload B 19 21 (v := (q2_1 x0 x1 x2)) d2_19 rfl rfl ?_
      refine o_sipush B 21 24 (255 : Int32) d2_21 rfl (by decide) ?_
      refine o_iand B 24 25 d2_24 rfl ?_
      refine o_i2c B 25 26 d2_25 rfl ?_
      refine o_retZ (t := .char) B 26 d2_26 hret hlk (by simp) (by decide) (by decide) ⟨(congrArg (fun z => some (Value.int z)) ((show nar .char ((q2_1 x0 x1 x2) &&& (255 : Int32)).toUInt32.toUInt16.toUInt32.toInt32 = ((q2_1 x0 x1 x2) &&& (255 : Int32)).toUInt32.toUInt16.toUInt32.toInt32 from (nar_cc _)).trans (show f2 x0 x1 x2 = ((q2_1 x0 x1 x2) &&& (255 : Int32)).toUInt32.toUInt16.toUInt32.toInt32 from (if_pos k1).trans (rfl)).symm)), rfl, rfl⟩
    · refine o_ifN B 11 14 d2_11 rfl (XT.i0_eq_f k1) ?_
      refine o_iload B 14 16 (v := (q2_1 x0 x1 x2)) d2_14 rfl rfl ?_
      refine o_goto B 16 26 d2_16 (by decide) (by decide) ?_
      refine o_retZ (t := .char) B 26 d2_26 hret hlk (by simp) (by decide) (by decide) ⟨(congrArg (fun z => some (Value.int z)) ((show nar .char (q2_1 x0 x1 x2) = (q2_1 x0 x1 x2) from (nar_cc _)).trans (show f2 x0 x1 x2 = (q2_1 x0 x1 x2) from (if_neg k1).trans (rfl)).symm)), rfl, rfl⟩
theorem d11_0 : decode jdk_29_method_66_code 0 = .ok (.lload_n 0, 1) := by decide +kernel
theorem d11_1 : decode jdk_29_method_66_code 1 = .ok (.lload_n 2, 1) := by decide +kernel
theorem d11_2 : decode jdk_29_method_66_code 2 = .ok (.lcmp, 1) := by decide +kernel
theorem d11_3 : decode jdk_29_method_66_code 3 = .ok (.ifCond .lt 7, 3) := by decide +kernel
theorem d11_6 : decode jdk_29_method_66_code 6 = .ok (.lload_n 0, 1) := by decide +kernel
theorem d11_7 : decode jdk_29_method_66_code 7 = .ok (.goto 4, 3) := by decide +kernel
theorem d11_10 : decode jdk_29_method_66_code 10 = .ok (.lload_n 2, 1) := by decide +kernel
theorem d11_11 : decode jdk_29_method_66_code 11 = .ok (.lreturn, 1) := by decide +kernel
theorem pl11 : plainFor (⟨"java/lang/Math", "max", "(JJ)J"⟩ : MethodName) = true := by first | exact plainFor_of_name (by first | (simp [plainName, overriddenIn]; done) | decide +kernel) | decide +kernel
def f11 (x0 x1 : Int64) : Int64 := (if x0 < x1 then x1 else x0)
set_option maxRecDepth 65536 in
set_option maxHeartbeats 40000000 in
theorem rm11 (l : Launch) (Z : State) (a0 : Array Value) (hw : ∀ d ∈ tables_1, d.before a0 Z = true) (x0 : Int64) (x1 : Int64) (h0 : Heap) :
    Met l Z (⟨"java/lang/Math", "max", "(JJ)J"⟩ : MethodName) jdk_29_method_66_code 4 (some .long) ({ frames := 0, cells := 0, slots := 0, locals := 0 } : Room) #[(.long x0), (.long x1)] h0 (Pu (some (.long (f11 x0 x1))) h0) := by
  refine enter pl11 #[vj x0, s2, vj x1, s2] rfl ?_
  intro p e s m below meth c T B hret hlk hnm
  · refine o_lloadN B 0 1 (v := x0) d11_0 rfl rfl ?_
    refine o_lloadN B 1 2 (v := x1) d11_1 rfl rfl ?_
    refine o_lcmp B 2 3 d11_2 rfl ?_
    by_cases k1 : x0 < x1
    · refine o_ifY B 3 10 d11_3 (XT.ll_lt_t k1) (by decide) (by decide) ?_
      refine o_lloadN B 10 11 (v := x1) d11_10 rfl rfl ?_
      refine o_retL B 11 d11_11 hret hlk (by decide) (by decide) ⟨(congrArg (fun z => some (Value.long z)) (show f11 x0 x1 = x1 from (if_pos k1).trans (rfl))).symm, rfl, rfl⟩
    · refine o_ifN B 3 6 d11_3 rfl (XT.ll_lt_f k1) ?_
      refine o_lloadN B 6 7 (v := x0) d11_6 rfl rfl ?_
      refine o_goto B 7 11 d11_7 (by decide) (by decide) ?_
      refine o_retL B 11 d11_11 hret hlk (by decide) (by decide) ⟨(congrArg (fun z => some (Value.long z)) (show f11 x0 x1 = x0 from (if_neg k1).trans (rfl))).symm, rfl, rfl⟩
theorem d12_0 : decode jdk_29_method_70_code 0 = .ok (.lload_n 0, 1) := by decide +kernel
theorem d12_1 : decode jdk_29_method_70_code 1 = .ok (.lload_n 2, 1) := by decide +kernel
theorem d12_2 : decode jdk_29_method_70_code 2 = .ok (.lcmp, 1) := by decide +kernel
theorem d12_3 : decode jdk_29_method_70_code 3 = .ok (.ifCond .gt 7, 3) := by decide +kernel
theorem d12_6 : decode jdk_29_method_70_code 6 = .ok (.lload_n 0, 1) := by decide +kernel
theorem d12_7 : decode jdk_29_method_70_code 7 = .ok (.goto 4, 3) := by decide +kernel
theorem d12_10 : decode jdk_29_method_70_code 10 = .ok (.lload_n 2, 1) := by decide +kernel
theorem d12_11 : decode jdk_29_method_70_code 11 = .ok (.lreturn, 1) := by decide +kernel
theorem pl12 : plainFor (⟨"java/lang/Math", "min", "(JJ)J"⟩ : MethodName) = true := by first | exact plainFor_of_name (by first | (simp [plainName, overriddenIn]; done) | decide +kernel) | decide +kernel
def f12 (x0 x1 : Int64) : Int64 := (if x1 < x0 then x1 else x0)
set_option maxRecDepth 65536 in
set_option maxHeartbeats 40000000 in
theorem rm12 (l : Launch) (Z : State) (a0 : Array Value) (hw : ∀ d ∈ tables_1, d.before a0 Z = true) (x0 : Int64) (x1 : Int64) (h0 : Heap) :
    Met l Z (⟨"java/lang/Math", "min", "(JJ)J"⟩ : MethodName) jdk_29_method_70_code 4 (some .long) ({ frames := 0, cells := 0, slots := 0, locals := 0 } : Room) #[(.long x0), (.long x1)] h0 (Pu (some (.long (f12 x0 x1))) h0) := by
  refine enter pl12 #[vj x0, s2, vj x1, s2] rfl ?_
  intro p e s m below meth c T B hret hlk hnm
  · refine o_lloadN B 0 1 (v := x0) d12_0 rfl rfl ?_
    refine o_lloadN B 1 2 (v := x1) d12_1 rfl rfl ?_
    refine o_lcmp B 2 3 d12_2 rfl ?_
    by_cases k1 : x1 < x0
    · refine o_ifY B 3 10 d12_3 (XT.ll_gt_t k1) (by decide) (by decide) ?_
      refine o_lloadN B 10 11 (v := x1) d12_10 rfl rfl ?_
      refine o_retL B 11 d12_11 hret hlk (by decide) (by decide) ⟨(congrArg (fun z => some (Value.long z)) (show f12 x0 x1 = x1 from (if_pos k1).trans (rfl))).symm, rfl, rfl⟩
    · refine o_ifN B 3 6 d12_3 rfl (XT.ll_gt_f k1) ?_
      refine o_lloadN B 6 7 (v := x0) d12_6 rfl rfl ?_
      refine o_goto B 7 11 d12_7 (by decide) (by decide) ?_
      refine o_retL B 11 d12_11 hret hlk (by decide) (by decide) ⟨(congrArg (fun z => some (Value.long z)) (show f12 x0 x1 = x0 from (if_neg k1).trans (rfl))).symm, rfl, rfl⟩
theorem d10_0 : decode prog_60_method_10_code 0 = .ok (.iload_n 1, 1) := by decide +kernel
theorem d10_1 : decode prog_60_method_10_code 1 = .ok (.ifCond .lt 9, 3) := by decide +kernel
theorem d10_4 : decode prog_60_method_10_code 4 = .ok (.iload_n 1, 1) := by decide +kernel
theorem d10_5 : decode prog_60_method_10_code 5 = .ok (.ldc 74, 2) := by decide +kernel
theorem d10_7 : decode prog_60_method_10_code 7 = .ok (.if_icmp .le 13, 3) := by decide +kernel
theorem d10_10 : decode prog_60_method_10_code 10 = .ok (.new 75, 3) := by decide +kernel
theorem d10_13 : decode prog_60_method_10_code 13 = .ok (.dup, 1) := by decide +kernel
theorem d10_14 : decode prog_60_method_10_code 14 = .ok (.ldc 77, 2) := by decide +kernel
theorem d10_16 : decode prog_60_method_10_code 16 = .ok (.invokespecial 79, 3) := by decide +kernel
theorem d10_19 : decode prog_60_method_10_code 19 = .ok (.athrow, 1) := by decide +kernel
theorem d10_20 : decode prog_60_method_10_code 20 = .ok (.ldc2_w 82, 3) := by decide +kernel
theorem d10_23 : decode prog_60_method_10_code 23 = .ok (.ldc2_w 84, 3) := by decide +kernel
theorem d10_26 : decode prog_60_method_10_code 26 = .ok (.iload_n 0, 1) := by decide +kernel
theorem d10_27 : decode prog_60_method_10_code 27 = .ok (.i2l, 1) := by decide +kernel
theorem d10_28 : decode prog_60_method_10_code 28 = .ok (.lmul, 1) := by decide +kernel
theorem d10_29 : decode prog_60_method_10_code 29 = .ok (.iload_n 1, 1) := by decide +kernel
theorem d10_30 : decode prog_60_method_10_code 30 = .ok (.i2l, 1) := by decide +kernel
theorem d10_31 : decode prog_60_method_10_code 31 = .ok (.invokestatic 86, 3) := by decide +kernel
theorem d10_34 : decode prog_60_method_10_code 34 = .ok (.invokestatic 92, 3) := by decide +kernel
theorem d10_37 : decode prog_60_method_10_code 37 = .ok (.l2i, 1) := by decide +kernel
theorem d10_38 : decode prog_60_method_10_code 38 = .ok (.ireturn, 1) := by decide +kernel
theorem pl10 : plainFor (⟨"com/example/micro_ranker/microranker/engine/Texts", "grownLength", "(II)I"⟩ : MethodName) = true := by first | exact plainFor_of_name (by first | (simp [plainName, overriddenIn]; done) | decide +kernel) | decide +kernel
theorem pd__JJ_J : parseMethodDescriptor "(JJ)J" = some ⟨[.long, .long], some .long⟩ := by decide +kernel
def q10_1 (x0 x1 : Int32) : Int64 := (f12 (2147483639 : Int64) (f11 ((2 : Int64) * x0.toInt64) x1.toInt64))
def f10 (x0 x1 : Int32) : Int32 := (q10_1 x0 x1).toInt32
set_option maxRecDepth 65536 in
set_option maxHeartbeats 40000000 in
theorem rm10 (l : Launch) (Z : State) (a0 : Array Value) (hw : ∀ d ∈ tables_1, d.before a0 Z = true) (x0 : Int32) (x1 : Int32) (h0 : Heap) (h1 : ¬ x1 < 0) (h2 : ¬ (2147483639 : Int32) < x1) :
    Met l Z (⟨"com/example/micro_ranker/microranker/engine/Texts", "grownLength", "(II)I"⟩ : MethodName) prog_60_method_10_code 2 (some .int) ({ frames := 1, cells := 0, slots := 0, locals := 17 } : Room) #[(.int x0), (.int x1)] h0 (Pu (some (.int (f10 x0 x1))) h0) := by
  refine enter pl10 #[vi x0, vi x1] rfl ?_
  intro p e s m below meth c T B hret hlk hnm
  · refine o_iloadN B 0 1 (v := x1) d10_0 rfl rfl ?_
    refine o_ifN B 1 4 d10_1 rfl (XT.i0_lt_f h1) ?_
    refine o_iloadN B 4 5 (v := x1) d10_4 rfl rfl ?_
    refine o_ldc B 5 7 d10_5 rfl (hw _ (mi 50 rfl)) ?_
    refine o_icY B 7 20 d10_7 (XT.ii_le_t h2) (by decide) (by decide) ?_
    refine o_ldc2 B 20 23 d10_20 rfl (hw _ (mi 51 rfl)) ?_
    refine o_ldc2 B 23 26 d10_23 rfl (hw _ (mi 52 rfl)) ?_
    refine o_iloadN B 26 27 (v := x0) d10_26 rfl rfl ?_
    refine o_i2l B 27 28 d10_27 rfl ?_
    refine o_lmul B 28 29 d10_28 rfl ?_
    refine o_iloadN B 29 30 (v := x1) d10_29 rfl rfl ?_
    refine o_i2l B 30 31 d10_30 rfl ?_
    obtain ⟨T1, B1, c1⟩ := o_callP B 31 34 d10_31 rfl (hw _ (mi 53 rfl)) (hw _ (mi 54 rfl)) (hw _ (mi 55 rfl)) (hw _ (mi 56 rfl)) (by decide) (rm11 l Z a0 hw ((2 : Int64) * x0.toInt64) x1.toInt64 h0 ) 2 [(.long ((2 : Int64) * x0.toInt64)), (.long x1.toInt64)] [(.long (2147483639 : Int64))] pd__JJ_J rfl rfl (st := [(.long x1.toInt64), (.long ((2 : Int64) * x0.toInt64)), (.long (2147483639 : Int64))]) rfl (Ls := #[vi x0, vi x1]) rfl (Nat.le_of_eq rfl) (by decide) (by decide) (by decide) (by decide)
    refine c1 ?_
    obtain ⟨T2, B2, c2⟩ := o_callP B1 34 37 d10_34 rfl (hw _ (mi 57 rfl)) (hw _ (mi 58 rfl)) (hw _ (mi 55 rfl)) (hw _ (mi 59 rfl)) (by decide) (rm12 l Z a0 hw (2147483639 : Int64) (f11 ((2 : Int64) * x0.toInt64) x1.toInt64) h0 ) 0 [(.long (2147483639 : Int64)), (.long (f11 ((2 : Int64) * x0.toInt64) x1.toInt64))] [] pd__JJ_J rfl rfl (st := [(.long (f11 ((2 : Int64) * x0.toInt64) x1.toInt64)), (.long (2147483639 : Int64))]) rfl (Ls := #[vi x0, vi x1]) rfl (Nat.le_of_eq rfl) (by decide) (by decide) (by decide) (by decide)
    refine c2 ?_
    refine o_l2i B2 37 38 d10_37 rfl ?_
    refine o_retI B2 38 d10_38 hret hlk (by decide) (by decide) ⟨(congrArg (fun z => some (Value.int z)) (show f10 x0 x1 = (q10_1 x0 x1).toInt32 from rfl)).symm, rfl, rfl⟩
def own_z0 : Nat → Int32 := fun _ => 0
def W4 (x : Int32) : Prop := 0 ≤ x.toInt ∧ x.toInt ≤ 3
theorem own_w4 {x : Int32} (h : W4 x) : x = 0 ∨ x = 1 ∨ x = 2 ∨ x = 3 := by
  unfold W4 at h
  rw [← Int32.toInt_inj, ← Int32.toInt_inj, ← Int32.toInt_inj, ← Int32.toInt_inj, Int32.toInt_zero, show (1 : Int32).toInt = 1 by decide, show (2 : Int32).toInt = 2 by decide, show (3 : Int32).toInt = 3 by decide]
  omega
theorem own_inc (g : Nat) : Int32.ofNat g + 1 = Int32.ofNat (g + 1) := Int32.ofNat_succ g
theorem own_on (g : Nat) (h : g < 100000) : (Int32.ofNat g).toInt = g := Int32.toInt_ofNat_of_lt (by omega)
def UpI (g : Nat) (f : Nat → Int32) : Nat → Int32 := fun j => if j < g then f j else 0
theorem own_upI (g : Nat) (f : Nat → Int32) (j : Nat) : UpI (g + 1) f j = if j = g then f g else UpI g f j := by
  unfold UpI
  by_cases e : j = g
  · subst e; rw [if_pos (by omega), if_pos rfl]
  · rw [if_neg e]
    by_cases q : j < g
    · rw [if_pos q, if_pos (by omega)]
    · rw [if_neg q, if_neg (by omega)]
def own_cb (x : Int32) : Int32 := (x &&& (255 : Int32)).toUInt32.toUInt16.toUInt32.toInt32
def own_nn (gn gc : Nat → Int32) (s n : Nat) : Nat → Int32 := fun j => if s ≤ j ∧ j < s + n then (gc (j - s)).toInt8.toInt32 else gn j
def own_cc (gw gc : Nat → Int32) (s n : Nat) : Nat → Int32 := fun j => if s ≤ j ∧ j < s + n then gc (j - s) else gw j
theorem own_nnS (gn gc : Nat → Int32) (s i j : Nat) : own_nn gn gc s (i + 1) j = if j = s + i then (gc i).toInt8.toInt32 else own_nn gn gc s i j := by
  unfold own_nn
  by_cases e : j = s + i
  · rw [if_pos e, if_pos (by omega), show j - s = i by omega]
  · rw [if_neg e]
    by_cases q : s ≤ j ∧ j < s + i
    · rw [if_pos q, if_pos (by omega)]
    · rw [if_neg q, if_neg (by omega)]
def Hs (z : Int32) (gs : Nat → Int32) (x1 : Int32) : Prop := (z.toInt = 0 ∨ z.toInt = 1) ∧ W4 (gs z.toInt.toNat) ∧ W4 x1
theorem own_z {z : Int32} (h : z.toInt = 0 ∨ z.toInt = 1) : z.toInt = (z.toInt.toNat : Nat) ∧ z.toInt.toNat < 512 ∧ (z + 1).toInt = (z.toInt.toNat + 1 : Nat) ∧ z.toInt.toNat + 1 < 512 ∧ ¬ 512 < z + 2 := by
  have a := c_iadd z 1
  have ra := rng32 (z + 1)
  have b := c_iadd z 2
  have rb := rng32 (z + 2)
  rw [show (1 : Int32).toInt = 1 by decide] at a
  rw [show (2 : Int32).toInt = 2 by decide] at b
  rw [Int32.lt_iff_toInt_lt, show (512 : Int32).toInt = 512 by decide]
  omega
theorem own_sum {s x : Int32} (hs : W4 s) (hx : W4 x) : (s + x).toInt = s.toInt + x.toInt := by
  unfold W4 at hs hx
  have a := c_iadd s x
  have ra := rng32 (s + x)
  omega
theorem own_room {s x c : Int32} (k : Int) (hc : c.toInt = k) (hk : 6 ≤ k ∧ k ≤ 100000) (hs : W4 s) (hx : W4 x) : ¬ c - s < x := by
  unfold W4 at hs hx
  have a := c_isub c s
  have ra := rng32 (c - s)
  rw [Int32.lt_iff_toInt_lt]
  omega
theorem d7_0 : decode prog_60_method_8_code 0 = .ok (.iconst 0, 1) := by decide +kernel
theorem d7_1 : decode prog_60_method_8_code 1 = .ok (.istore_n 2, 1) := by decide +kernel
theorem d7_2 : decode prog_60_method_8_code 2 = .ok (.iload_n 2, 1) := by decide +kernel
theorem d7_3 : decode prog_60_method_8_code 3 = .ok (.iload_n 1, 1) := by decide +kernel
theorem d7_4 : decode prog_60_method_8_code 4 = .ok (.if_icmp .ge 20, 3) := by decide +kernel
theorem d7_7 : decode prog_60_method_8_code 7 = .ok (.aload_n 0, 1) := by decide +kernel
theorem d7_8 : decode prog_60_method_8_code 8 = .ok (.iload_n 2, 1) := by decide +kernel
theorem d7_9 : decode prog_60_method_8_code 9 = .ok (.caload, 1) := by decide +kernel
theorem d7_10 : decode prog_60_method_8_code 10 = .ok (.sipush 255, 3) := by decide +kernel
theorem d7_13 : decode prog_60_method_8_code 13 = .ok (.if_icmp .le 5, 3) := by decide +kernel
theorem d7_16 : decode prog_60_method_8_code 16 = .ok (.iconst 0, 1) := by decide +kernel
theorem d7_17 : decode prog_60_method_8_code 17 = .ok (.ireturn, 1) := by decide +kernel
theorem d7_18 : decode prog_60_method_8_code 18 = .ok (.iinc 2 1, 3) := by decide +kernel
theorem d7_21 : decode prog_60_method_8_code 21 = .ok (.goto (-19), 3) := by decide +kernel
theorem d7_24 : decode prog_60_method_8_code 24 = .ok (.iconst 1, 1) := by decide +kernel
theorem d7_25 : decode prog_60_method_8_code 25 = .ok (.ireturn, 1) := by decide +kernel
theorem pl7 : plainFor (⟨"com/example/micro_ranker/microranker/engine/Texts", "isNarrow", "([CI)Z"⟩ : MethodName) = true := by first | exact plainFor_of_name (by first | (simp [plainName, overriddenIn]; done) | decide +kernel) | decide +kernel
def f7_0 (g : Nat → Int32) : Int32 := (1 : Int32)
set_option maxRecDepth 65536 in
set_option maxHeartbeats 40000000 in
theorem rm7_0 (l : Launch) (Z : State) (a0 : Array Value) (hw : ∀ d ∈ tables_1, d.before a0 Z = true) (g : Nat → Int32) (x0 : Addr) (h0 : Heap) (A0 : AI Z h0 x0 .char 4 g) :
    Met l Z (⟨"com/example/micro_ranker/microranker/engine/Texts", "isNarrow", "([CI)Z"⟩ : MethodName) prog_60_method_8_code 3 (some .boolean) ({ frames := 0, cells := 0, slots := 0, locals := 0 } : Room) #[(.ref x0), (.int (0 : Int32))] h0 (Pu (some (.int (f7_0 g))) h0) := by
  refine enter pl7 #[vr x0, vi 0, us] rfl ?_
  intro p e s m below meth c T B hret hlk hnm
  · refine o_iconst B 0 1 (0 : Int32) d7_0 rfl (by decide) ?_
    refine o_istoreN B 1 2 (l' := #[vr x0, vi 0, vi 0]) d7_1 rfl rfl ?_
    refine o_iloadN B 2 3 (v := (0 : Int32)) d7_2 rfl rfl ?_
    refine o_iloadN B 3 4 (v := (0 : Int32)) d7_3 rfl rfl ?_
    refine o_icY B 4 24 d7_4 (XT.ii_ge_t (by decide)) (by decide) (by decide) ?_
    refine o_iconst B 24 25 (1 : Int32) d7_24 rfl (by decide) ?_
    refine o_retZ (t := .boolean) B 25 d7_25 hret hlk (by simp) (by decide) (by decide) ⟨(congrArg (fun z => some (Value.int z)) ((show nar .boolean (1 : Int32) = (1 : Int32) from rfl).trans (show f7_0 g = (1 : Int32) from rfl).symm)), rfl, rfl⟩
def f7_1 (g : Nat → Int32) : Int32 := (if (255 : Int32) < (g 0) then (0 : Int32) else (1 : Int32))
set_option maxRecDepth 65536 in
set_option maxHeartbeats 40000000 in
theorem rm7_1 (l : Launch) (Z : State) (a0 : Array Value) (hw : ∀ d ∈ tables_1, d.before a0 Z = true) (g : Nat → Int32) (x0 : Addr) (h0 : Heap) (A0 : AI Z h0 x0 .char 4 g) :
    Met l Z (⟨"com/example/micro_ranker/microranker/engine/Texts", "isNarrow", "([CI)Z"⟩ : MethodName) prog_60_method_8_code 3 (some .boolean) ({ frames := 0, cells := 0, slots := 0, locals := 0 } : Room) #[(.ref x0), (.int (1 : Int32))] h0 (Pu (some (.int (f7_1 g))) h0) := by
  refine enter pl7 #[vr x0, vi 1, us] rfl ?_
  intro p e s m below meth c T B hret hlk hnm
  · refine o_iconst B 0 1 (0 : Int32) d7_0 rfl (by decide) ?_
    refine o_istoreN B 1 2 (l' := #[vr x0, vi 1, vi 0]) d7_1 rfl rfl ?_
    refine o_iloadN B 2 3 (v := (0 : Int32)) d7_2 rfl rfl ?_
    refine o_iloadN B 3 4 (v := (1 : Int32)) d7_3 rfl rfl ?_
    refine o_icN B 4 7 d7_4 rfl (XT.ii_ge_f (by decide)) ?_
    refine o_aloadN B 7 8 (v := (.ref x0)) d7_7 rfl rfl rfl ?_
    refine o_iloadN B 8 9 (v := (0 : Int32)) d7_8 rfl rfl ?_
    refine o_caload B 9 10 A0 0 (g 0) d7_9 rfl (by decide) (by decide) (by decide) rfl ?_
    refine o_sipush B 10 13 (255 : Int32) d7_10 rfl (by decide) ?_
    by_cases k1 : (255 : Int32) < (g 0)
    · refine o_icN B 13 16 d7_13 rfl (XT.ii_le_f k1) ?_
      refine o_iconst B 16 17 (0 : Int32) d7_16 rfl (by decide) ?_
      refine o_retZ (t := .boolean) B 17 d7_17 hret hlk (by simp) (by decide) (by decide) ⟨(congrArg (fun z => some (Value.int z)) ((show nar .boolean (0 : Int32) = (0 : Int32) from rfl).trans (show f7_1 g = (0 : Int32) from (if_pos k1).trans (rfl)).symm)), rfl, rfl⟩
    · refine o_icY B 13 18 d7_13 (XT.ii_le_t k1) (by decide) (by decide) ?_
      refine o_iincC B 18 21 (l' := #[vr x0, vi 1, vi 1]) (1 : Int32) (1 : Int32) d7_18 rfl (by decide) rfl (by decide) rfl ?_
      refine o_goto B 21 2 d7_21 (by decide) (by decide) ?_
      refine o_iloadN B 2 3 (v := (1 : Int32)) d7_2 rfl rfl ?_
      refine o_iloadN B 3 4 (v := (1 : Int32)) d7_3 rfl rfl ?_
      refine o_icY B 4 24 d7_4 (XT.ii_ge_t (by decide)) (by decide) (by decide) ?_
      refine o_iconst B 24 25 (1 : Int32) d7_24 rfl (by decide) ?_
      refine o_retZ (t := .boolean) B 25 d7_25 hret hlk (by simp) (by decide) (by decide) ⟨(congrArg (fun z => some (Value.int z)) ((show nar .boolean (1 : Int32) = (1 : Int32) from rfl).trans (show f7_1 g = (1 : Int32) from (if_neg k1).trans (rfl)).symm)), rfl, rfl⟩
def f7_2 (g : Nat → Int32) : Int32 := (if (255 : Int32) < (g 0) then (0 : Int32) else (if (255 : Int32) < (g 1) then (0 : Int32) else (1 : Int32)))
set_option maxRecDepth 65536 in
set_option maxHeartbeats 40000000 in
theorem rm7_2 (l : Launch) (Z : State) (a0 : Array Value) (hw : ∀ d ∈ tables_1, d.before a0 Z = true) (g : Nat → Int32) (x0 : Addr) (h0 : Heap) (A0 : AI Z h0 x0 .char 4 g) :
    Met l Z (⟨"com/example/micro_ranker/microranker/engine/Texts", "isNarrow", "([CI)Z"⟩ : MethodName) prog_60_method_8_code 3 (some .boolean) ({ frames := 0, cells := 0, slots := 0, locals := 0 } : Room) #[(.ref x0), (.int (2 : Int32))] h0 (Pu (some (.int (f7_2 g))) h0) := by
  refine enter pl7 #[vr x0, vi 2, us] rfl ?_
  intro p e s m below meth c T B hret hlk hnm
  · refine o_iconst B 0 1 (0 : Int32) d7_0 rfl (by decide) ?_
    refine o_istoreN B 1 2 (l' := #[vr x0, vi 2, vi 0]) d7_1 rfl rfl ?_
    refine o_iloadN B 2 3 (v := (0 : Int32)) d7_2 rfl rfl ?_
    refine o_iloadN B 3 4 (v := (2 : Int32)) d7_3 rfl rfl ?_
    refine o_icN B 4 7 d7_4 rfl (XT.ii_ge_f (by decide)) ?_
    refine o_aloadN B 7 8 (v := (.ref x0)) d7_7 rfl rfl rfl ?_
    refine o_iloadN B 8 9 (v := (0 : Int32)) d7_8 rfl rfl ?_
    refine o_caload B 9 10 A0 0 (g 0) d7_9 rfl (by decide) (by decide) (by decide) rfl ?_
    refine o_sipush B 10 13 (255 : Int32) d7_10 rfl (by decide) ?_
    by_cases k1 : (255 : Int32) < (g 0)
    · refine o_icN B 13 16 d7_13 rfl (XT.ii_le_f k1) ?_
      refine o_iconst B 16 17 (0 : Int32) d7_16 rfl (by decide) ?_
      refine o_retZ (t := .boolean) B 17 d7_17 hret hlk (by simp) (by decide) (by decide) ⟨(congrArg (fun z => some (Value.int z)) ((show nar .boolean (0 : Int32) = (0 : Int32) from rfl).trans (show f7_2 g = (0 : Int32) from (if_pos k1).trans (rfl)).symm)), rfl, rfl⟩
    · refine o_icY B 13 18 d7_13 (XT.ii_le_t k1) (by decide) (by decide) ?_
      refine o_iincC B 18 21 (l' := #[vr x0, vi 2, vi 1]) (1 : Int32) (1 : Int32) d7_18 rfl (by decide) rfl (by decide) rfl ?_
      refine o_goto B 21 2 d7_21 (by decide) (by decide) ?_
      refine o_iloadN B 2 3 (v := (1 : Int32)) d7_2 rfl rfl ?_
      refine o_iloadN B 3 4 (v := (2 : Int32)) d7_3 rfl rfl ?_
      refine o_icN B 4 7 d7_4 rfl (XT.ii_ge_f (by decide)) ?_
      refine o_aloadN B 7 8 (v := (.ref x0)) d7_7 rfl rfl rfl ?_
      refine o_iloadN B 8 9 (v := (1 : Int32)) d7_8 rfl rfl ?_
      refine o_caload B 9 10 A0 1 (g 1) d7_9 rfl (by decide) (by decide) (by decide) rfl ?_
      refine o_sipush B 10 13 (255 : Int32) d7_10 rfl (by decide) ?_
      by_cases k2 : (255 : Int32) < (g 1)
      · refine o_icN B 13 16 d7_13 rfl (XT.ii_le_f k2) ?_
        refine o_iconst B 16 17 (0 : Int32) d7_16 rfl (by decide) ?_
        refine o_retZ (t := .boolean) B 17 d7_17 hret hlk (by simp) (by decide) (by decide) ⟨(congrArg (fun z => some (Value.int z)) ((show nar .boolean (0 : Int32) = (0 : Int32) from rfl).trans (show f7_2 g = (0 : Int32) from (if_neg k1).trans ((if_pos k2).trans (rfl))).symm)), rfl, rfl⟩
      · refine o_icY B 13 18 d7_13 (XT.ii_le_t k2) (by decide) (by decide) ?_
        refine o_iincC B 18 21 (l' := #[vr x0, vi 2, vi 2]) (1 : Int32) (2 : Int32) d7_18 rfl (by decide) rfl (by decide) rfl ?_
        refine o_goto B 21 2 d7_21 (by decide) (by decide) ?_
        refine o_iloadN B 2 3 (v := (2 : Int32)) d7_2 rfl rfl ?_
        refine o_iloadN B 3 4 (v := (2 : Int32)) d7_3 rfl rfl ?_
        refine o_icY B 4 24 d7_4 (XT.ii_ge_t (by decide)) (by decide) (by decide) ?_
        refine o_iconst B 24 25 (1 : Int32) d7_24 rfl (by decide) ?_
        refine o_retZ (t := .boolean) B 25 d7_25 hret hlk (by simp) (by decide) (by decide) ⟨(congrArg (fun z => some (Value.int z)) ((show nar .boolean (1 : Int32) = (1 : Int32) from rfl).trans (show f7_2 g = (1 : Int32) from (if_neg k1).trans ((if_neg k2).trans (rfl))).symm)), rfl, rfl⟩
def f7_3 (g : Nat → Int32) : Int32 := (if (255 : Int32) < (g 0) then (0 : Int32) else (if (255 : Int32) < (g 1) then (0 : Int32) else (if (255 : Int32) < (g 2) then (0 : Int32) else (1 : Int32))))
set_option maxRecDepth 65536 in
set_option maxHeartbeats 40000000 in
theorem rm7_3 (l : Launch) (Z : State) (a0 : Array Value) (hw : ∀ d ∈ tables_1, d.before a0 Z = true) (g : Nat → Int32) (x0 : Addr) (h0 : Heap) (A0 : AI Z h0 x0 .char 4 g) :
    Met l Z (⟨"com/example/micro_ranker/microranker/engine/Texts", "isNarrow", "([CI)Z"⟩ : MethodName) prog_60_method_8_code 3 (some .boolean) ({ frames := 0, cells := 0, slots := 0, locals := 0 } : Room) #[(.ref x0), (.int (3 : Int32))] h0 (Pu (some (.int (f7_3 g))) h0) := by
  refine enter pl7 #[vr x0, vi 3, us] rfl ?_
  intro p e s m below meth c T B hret hlk hnm
  · refine o_iconst B 0 1 (0 : Int32) d7_0 rfl (by decide) ?_
    refine o_istoreN B 1 2 (l' := #[vr x0, vi 3, vi 0]) d7_1 rfl rfl ?_
    refine o_iloadN B 2 3 (v := (0 : Int32)) d7_2 rfl rfl ?_
    refine o_iloadN B 3 4 (v := (3 : Int32)) d7_3 rfl rfl ?_
    refine o_icN B 4 7 d7_4 rfl (XT.ii_ge_f (by decide)) ?_
    refine o_aloadN B 7 8 (v := (.ref x0)) d7_7 rfl rfl rfl ?_
    refine o_iloadN B 8 9 (v := (0 : Int32)) d7_8 rfl rfl ?_
    refine o_caload B 9 10 A0 0 (g 0) d7_9 rfl (by decide) (by decide) (by decide) rfl ?_
    refine o_sipush B 10 13 (255 : Int32) d7_10 rfl (by decide) ?_
    by_cases k1 : (255 : Int32) < (g 0)
    · refine o_icN B 13 16 d7_13 rfl (XT.ii_le_f k1) ?_
      refine o_iconst B 16 17 (0 : Int32) d7_16 rfl (by decide) ?_
      refine o_retZ (t := .boolean) B 17 d7_17 hret hlk (by simp) (by decide) (by decide) ⟨(congrArg (fun z => some (Value.int z)) ((show nar .boolean (0 : Int32) = (0 : Int32) from rfl).trans (show f7_3 g = (0 : Int32) from (if_pos k1).trans (rfl)).symm)), rfl, rfl⟩
    · refine o_icY B 13 18 d7_13 (XT.ii_le_t k1) (by decide) (by decide) ?_
      refine o_iincC B 18 21 (l' := #[vr x0, vi 3, vi 1]) (1 : Int32) (1 : Int32) d7_18 rfl (by decide) rfl (by decide) rfl ?_
      refine o_goto B 21 2 d7_21 (by decide) (by decide) ?_
      refine o_iloadN B 2 3 (v := (1 : Int32)) d7_2 rfl rfl ?_
      refine o_iloadN B 3 4 (v := (3 : Int32)) d7_3 rfl rfl ?_
      refine o_icN B 4 7 d7_4 rfl (XT.ii_ge_f (by decide)) ?_
      refine o_aloadN B 7 8 (v := (.ref x0)) d7_7 rfl rfl rfl ?_
      refine o_iloadN B 8 9 (v := (1 : Int32)) d7_8 rfl rfl ?_
      refine o_caload B 9 10 A0 1 (g 1) d7_9 rfl (by decide) (by decide) (by decide) rfl ?_
      refine o_sipush B 10 13 (255 : Int32) d7_10 rfl (by decide) ?_
      by_cases k2 : (255 : Int32) < (g 1)
      · refine o_icN B 13 16 d7_13 rfl (XT.ii_le_f k2) ?_
        refine o_iconst B 16 17 (0 : Int32) d7_16 rfl (by decide) ?_
        refine o_retZ (t := .boolean) B 17 d7_17 hret hlk (by simp) (by decide) (by decide) ⟨(congrArg (fun z => some (Value.int z)) ((show nar .boolean (0 : Int32) = (0 : Int32) from rfl).trans (show f7_3 g = (0 : Int32) from (if_neg k1).trans ((if_pos k2).trans (rfl))).symm)), rfl, rfl⟩
      · refine o_icY B 13 18 d7_13 (XT.ii_le_t k2) (by decide) (by decide) ?_
        refine o_iincC B 18 21 (l' := #[vr x0, vi 3, vi 2]) (1 : Int32) (2 : Int32) d7_18 rfl (by decide) rfl (by decide) rfl ?_
        refine o_goto B 21 2 d7_21 (by decide) (by decide) ?_
        refine o_iloadN B 2 3 (v := (2 : Int32)) d7_2 rfl rfl ?_
        refine o_iloadN B 3 4 (v := (3 : Int32)) d7_3 rfl rfl ?_
        refine o_icN B 4 7 d7_4 rfl (XT.ii_ge_f (by decide)) ?_
        refine o_aloadN B 7 8 (v := (.ref x0)) d7_7 rfl rfl rfl ?_
        refine o_iloadN B 8 9 (v := (2 : Int32)) d7_8 rfl rfl ?_
        refine o_caload B 9 10 A0 2 (g 2) d7_9 rfl (by decide) (by decide) (by decide) rfl ?_
        refine o_sipush B 10 13 (255 : Int32) d7_10 rfl (by decide) ?_
        by_cases k3 : (255 : Int32) < (g 2)
        · refine o_icN B 13 16 d7_13 rfl (XT.ii_le_f k3) ?_
          refine o_iconst B 16 17 (0 : Int32) d7_16 rfl (by decide) ?_
          refine o_retZ (t := .boolean) B 17 d7_17 hret hlk (by simp) (by decide) (by decide) ⟨(congrArg (fun z => some (Value.int z)) ((show nar .boolean (0 : Int32) = (0 : Int32) from rfl).trans (show f7_3 g = (0 : Int32) from (if_neg k1).trans ((if_neg k2).trans ((if_pos k3).trans (rfl)))).symm)), rfl, rfl⟩
        · refine o_icY B 13 18 d7_13 (XT.ii_le_t k3) (by decide) (by decide) ?_
          refine o_iincC B 18 21 (l' := #[vr x0, vi 3, vi 3]) (1 : Int32) (3 : Int32) d7_18 rfl (by decide) rfl (by decide) rfl ?_
          refine o_goto B 21 2 d7_21 (by decide) (by decide) ?_
          refine o_iloadN B 2 3 (v := (3 : Int32)) d7_2 rfl rfl ?_
          refine o_iloadN B 3 4 (v := (3 : Int32)) d7_3 rfl rfl ?_
          refine o_icY B 4 24 d7_4 (XT.ii_ge_t (by decide)) (by decide) (by decide) ?_
          refine o_iconst B 24 25 (1 : Int32) d7_24 rfl (by decide) ?_
          refine o_retZ (t := .boolean) B 25 d7_25 hret hlk (by simp) (by decide) (by decide) ⟨(congrArg (fun z => some (Value.int z)) ((show nar .boolean (1 : Int32) = (1 : Int32) from rfl).trans (show f7_3 g = (1 : Int32) from (if_neg k1).trans ((if_neg k2).trans ((if_neg k3).trans (rfl)))).symm)), rfl, rfl⟩
def f7 (g : Nat → Int32) (x1 : Int32) : Int32 := if x1 = 0 then f7_0 g else if x1 = 1 then f7_1 g else if x1 = 2 then f7_2 g else f7_3 g
theorem rm7 (l : Launch) (Z : State) (a0 : Array Value) (hw : ∀ d ∈ tables_1, d.before a0 Z = true) (g : Nat → Int32) (x0 : Addr) (x1 : Int32) (h0 : Heap) (A0 : AI Z h0 x0 .char 4 g) (hx : W4 x1) :
    Met l Z (⟨"com/example/micro_ranker/microranker/engine/Texts", "isNarrow", "([CI)Z"⟩ : MethodName) prog_60_method_8_code 3 (some .boolean) ({ frames := 0, cells := 0, slots := 0, locals := 0 } : Room) #[(.ref x0), (.int x1)] h0 (Pu (some (.int (f7 g x1))) h0) := by
  rcases own_w4 hx with rfl | rfl | rfl | rfl
  · rw [show f7 g 0 = f7_0 g from if_pos rfl]; exact rm7_0 l Z a0 hw g x0 h0 A0
  · rw [show f7 g 1 = f7_1 g from (if_neg (by decide)).trans (if_pos rfl)]; exact rm7_1 l Z a0 hw g x0 h0 A0
  · rw [show f7 g 2 = f7_2 g from (if_neg (by decide)).trans ((if_neg (by decide)).trans (if_pos rfl))]; exact rm7_2 l Z a0 hw g x0 h0 A0
  · rw [show f7 g 3 = f7_3 g from (if_neg (by decide)).trans ((if_neg (by decide)).trans (if_neg (by decide)))]; exact rm7_3 l Z a0 hw g x0 h0 A0
theorem own_fit (x : Int32) : fits .char (.int (x.toUInt32.toUInt16.toUInt32.toInt32)) = true := by
  have h := c_i2c x
  simp only [fits, Bool.and_eq_true, decide_eq_true_eq]
  rw [Int32.le_iff_toInt_le, Int32.le_iff_toInt_le]
  have e : (0 : Int32).toInt = 0 := rfl
  have e2 : (65535 : Int32).toInt = 65535 := by decide
  omega
theorem own_cl (n : Nat) (hn : n < 2147483648) : (Int32.ofNat n).toNatClampNeg = n ∧ ¬ Int32.ofNat n < 0 := by
  have e : (Int32.ofNat n).toInt = n := Int32.toInt_ofNat_of_lt (by omega)
  have q := ix_of e
  exact ⟨q.2, q.1⟩
def own_li (n : Nat) (g : Nat → Int32) : List Value := (List.range n).map fun j => Value.int (g j)
theorem own_lig (n : Nat) (g : Nat → Int32) (d : Value) (j : Nat) (hj : j < n) : (own_li n g).getD j d = .int (g j) := by
  unfold own_li
  simp [List.getD, hj]
theorem own_arv {Z : State} {h : Heap} {a : Addr} {n : Nat} {g : Nat → Int32} (A : AI Z h a .char n g) (hf : ∀ j, j < n → fits .char (.int (g j)) = true) : ∃ k, Arv Z h a k .char (Int32.ofNat n) (own_li n g) (.int 0) := by
  obtain ⟨c, A, S, hn, H⟩ := A
  have e := own_cl n hn
  refine ⟨c.cls, c, A, rfl, by rw [e.1]; exact S, e.2, fun k hk => ?_, fun i hi => ?_⟩
  · rw [own_lig n g _ k (by omega)]; exact H k (by omega)
  · rw [own_lig n g _ i (by omega)]; exact hf i (by omega)
theorem own_back {Z : State} {h : Heap} {a : Addr} {n : Nat} {k : ClassId} {L : List Value} {g : Nat → Int32} (A : Arv Z h a k .char (Int32.ofNat n) L (.int 0)) (hn : n < 2147483648) (hL : ∀ j, j < n → L.getD j (.int 0) = .int (g j)) : AI Z h a .char n g := by
  obtain ⟨c, A, -, S, -, H, -⟩ := A
  have e := own_cl n hn
  rw [e.1] at S
  exact ⟨c, A, S, hn, fun j hj => by rw [H j (by omega), hL j hj]⟩
theorem own_ccL (gw gc : Nat → Int32) (n n' d m : Nat) (h4 : 0 + m ≤ n) (h5 : d + m ≤ n') (j : Nat) (hj : j < n') : ((own_li n' gw).take d ++ ((List.range m).map fun i => (own_li n gc).getD (0 + i) (.int 0)) ++ (own_li n' gw).drop (d + m)).getD j (.int 0) = .int (own_cc gw gc d m j) := by
  have l1 : ((own_li n' gw).take d).length = d := by unfold own_li; simp; omega
  have l2 : ((List.range m).map fun i => (own_li n gc).getD (0 + i) (.int 0)).length = m := by simp
  unfold own_cc
  rw [List.getD_eq_getElem?_getD]
  by_cases q1 : j < d
  · rw [if_neg (by omega), List.append_assoc, List.getElem?_append_left (by omega), List.getElem?_take_of_lt q1]
    have := own_lig n' gw (.int 0) j hj
    rw [List.getD_eq_getElem?_getD] at this
    exact this
  · by_cases q2 : j < d + m
    · rw [if_pos (by omega), List.append_assoc, List.getElem?_append_right (by omega), List.getElem?_append_left (by omega), l1]
      have e : j - d < m := by omega
      rw [List.getElem?_map, List.getElem?_range e]
      have := own_lig n gc (.int 0) (0 + (j - d)) (by omega)
      show (own_li n gc).getD (0 + (j - d)) (.int 0) = _
      rw [this, Nat.zero_add]
    · rw [if_neg (by omega), List.getElem?_append_right (by rw [List.length_append]; omega), List.length_append, l1, l2, List.getElem?_drop, show d + m + (j - (d + m)) = j by omega]
      have := own_lig n' gw (.int 0) j hj
      rw [List.getD_eq_getElem?_getD] at this
      exact this
theorem own_cpx {s x : Int32} (hs : W4 s) (hx : W4 x) : ¬ s < 0 ∧ ¬ x < 0 ∧ x.toInt.toNat ≤ 4 ∧ s.toInt.toNat + x.toInt.toNat ≤ 8192 := by
  unfold W4 at hs hx
  have a := ix_of (j := s) (k := s.toInt.toNat) (by omega)
  have b := ix_of (j := x) (k := x.toInt.toNat) (by omega)
  exact ⟨a.1, b.1, by omega, by omega⟩
theorem o_copyC {own : String} {bs : ByteArray} {ml : Nat} {Z : State} {p : Program} {l : Launch} {e : Env} {R : Room} {s : State} {m : MethodId} {args : Array Value} {below : List Frame} {meth : Method} {c : Code} {T : State} {h : Heap} {locs : List Loc} {cells slots n0 : Nat} {Ls : Array Slot} {rest : List Value} {a0 : Array Value} {a b : Addr} {index : Nat} {dp nn : Int32} {gc gw : Nat → Int32}
    (B : Bx own bs ml Z p l e R s m args below meth c T h locs cells slots) (N : Fr n0 locs) (ge : n0 ≤ b) (pc pc' : Nat) (A : AI Z h a .char 4 gc) (hfa : ∀ j, j < 4 → fits .char (.int (gc j)) = true) (A' : AI Z h b .char 8192 gw) (hfb : ∀ j, j < 8192 → fits .char (.int (gw j)) = true) (hd : decode bs pc = .ok (.invokestatic index, 3)) (hp : pc + 3 = pc')
    (w1 : (Cond.methodLink own index Jvm.Stand.acN).before a0 Z = true) (w2 : (Cond.native Jvm.Stand.acN).before a0 Z = true) (w3 : (Cond.static Jvm.Stand.acN).before a0 Z = true) (w4 : (Cond.initialized "java/lang/System").before a0 Z = true)
    (h2 : ¬ dp < 0) (h3 : ¬ nn < 0) (h1 : ¬ (0 : Int32) < 0) (h4 : nn.toInt.toNat ≤ 4) (h5 : dp.toInt.toNat + nn.toInt.toNat ≤ 8192) (hsz : Ls.size = ml) (W : Nat) (hW : (rest.map fun v => v.category).sum ≤ W) (hf : 1 ≤ R.frames) (hl : W + (nativeFrameWords "java/lang/System" "arraycopy" 5 + 11) ≤ R.locals) :
    ∃ T' h' L', Bx own bs ml Z p l e R s m args below meth c T' h' L' cells slots ∧ Fr n0 L' ∧ Keep h h' [b] ∧ AI Z h' b .char 8192 (own_cc gw gc dp.toInt.toNat nn.toInt.toNat) ∧ ∀ {P : Outcome → State → Prop}, OG p.tables e below P (T'.setTop (mkF m pc' Ls rest)) → OG p.tables e below P (T.setTop (mkF m pc Ls (.int nn :: .int dp :: .ref b :: .int (0 : Int32) :: .ref a :: rest))) := by
  subst hp
  obtain ⟨X, hx, hby, hml, hown, hZ, eT⟩ := B
  obtain ⟨k, V⟩ := own_arv A hfa
  obtain ⟨k', V'⟩ := own_arv A' hfb
  have e1 : dp.toNatClampNeg = dp.toInt.toNat := rfl
  have e2 : nn.toNatClampNeg = nn.toInt.toNat := rfl
  obtain ⟨T', h', L', X', e', N', K', V2, st⟩ := cpA X hx hZ hown w1 w2 w3 w4 eT V V' (Or.inl ⟨rfl, rfl⟩) h1 h2 h3 (by rw [(own_cl 4 (by decide)).1, e2, show (0 : Int32).toNatClampNeg = 0 by decide]; omega) (by rw [(own_cl 8192 (by decide)).1, e1, e2]; exact h5) rfl (by rw [e1, e2]; unfold own_li; simp; exact h5) N ge (g := mkF m pc Ls (.int nn :: .int dp :: .ref b :: .int (0 : Int32) :: .ref a :: rest)) rfl (by rw [hml]; exact hsz) rfl (hb hby hd) hf (W := W) (by simpa using hW) hl
  rw [e1, e2, show (0 : Int32).toNatClampNeg = 0 by decide] at V2
  exact ⟨T', h', L', ⟨X', hx, hby, hml, hown, hZ, e'⟩, N', K', own_back V2 (by decide) (fun j hj => own_ccL gw gc 4 8192 _ _ (by omega) h5 j hj), fun k => k.of st⟩

theorem o_callW {own : String} {bs : ByteArray} {ml : Nat} {Z : State} {p : Program} {l : Launch} {e : Env} {R : Room} {s : State} {m : MethodId} {args : Array Value} {below : List Frame} {meth : Method} {c : Code} {T : State} {h : Heap} {locs : List Loc} {cells slots : Nat} {Ls : Array Slot} {a0 : Array Value} {a : Addr} {index kk : Nat} {y : MethodName} {C : String} {bytes : ByteArray} {maxL : Nat} {ret : Option FieldType} {rm : Room} {as' : Array Value} {Q : Option Value → Heap → List Loc → Prop} {ps : List FieldType} {rt : Option FieldType}
    (B : Bx own bs ml Z p l e R s m args below meth c T h locs cells slots) (pc pc' : Nat) (hd : decode bs pc = .ok (.invokevirtual index, 3)) (hp : pc + 3 = pc')
    (w1 : (Cond.methodLink own index y).before a0 Z = true) (w2 : (Cond.privateMethod y).before a0 Z = true) (w5 : (Cond.instantiable y.cls kk).before a0 Z = true) (w6 : (Cond.instanceMethod y).before a0 Z = true) (w3 : (Cond.initialized y.cls).before a0 Z = true) (w4 : (Cond.code y bytes maxL ret).before a0 Z = true) (hy : y.cls ≠ "java/lang/invoke/MethodHandle" ∧ y.cls ≠ "java/lang/invoke/VarHandle") (E : Exa Z h a C)
    (hM : Met l Z y bytes maxL ret rm as' h Q) (W : Nat) (argsL rest : List Value) (hpd : parseMethodDescriptor y.desc = some ⟨ps, rt⟩) (hlen : argsL.length = ps.length) (has : (.ref a :: argsL).toArray = as') {st : List Value} (hst : st = argsL.reverse ++ .ref a :: rest) (hsz : Ls.size = ml)
    (hW : (rest.map fun v => v.category).sum ≤ W) (hf : rm.frames + 1 ≤ R.frames) (hl : W + (maxL + 11) + rm.locals ≤ R.locals) (hcl : cells + rm.cells ≤ R.cells) (hsl : slots + rm.slots ≤ R.slots) :
    ∃ v T' L, Bx own bs ml Z p l e R s m args below meth c T' T'.heap (locs ++ L) (cells + rm.cells) (slots + rm.slots) ∧ Q v T'.heap L ∧
      ∀ {P : Outcome → State → Prop}, OG p.tables e below P (T'.setTop (mkF m pc' Ls (v.toList ++ rest))) → OG p.tables e below P (T.setTop (mkF m pc Ls st)) := by
  subst hp hst
  obtain ⟨X, hx, hby, hml, hown, hZ, eT⟩ := B
  have hi : (Cond.instanceMethod y).before args s = true := mvT hZ w6
  have hk : (Cond.instantiable y.cls kk).before args s = true := mv hZ w5
  obtain ⟨c1, k1, q1, q2, -, q4, -⟩ := Cond.instantiable_spec hk
  have hni : k1.isInterface = false := by
    cases hh : k1.isInterface
    · rfl
    · rw [hh] at q4; cases q4
  have hpriv : s.PrivateAt y := Cond.privateMethod_at (mvP (args := args) hZ w2)
  have hsel := selects_self_of_private q1 q2 hni hpriv hi hy
  obtain ⟨cell, qa, qc⟩ := Exa.cell E
  obtain ⟨v, vm1, ⟨T', L', k', n'⟩, -, X', ⟨Lc, hQ, l', y', z'⟩, st⟩ := X.privateBack hx (y := y) hown (mvT hZ w1) hi hsel hpriv (mvT hZ w4) hy (backOf (W := W) hM hZ w4 w3 hf hl) (g := mkF m pc Ls (argsL.reverse ++ .ref a :: rest)) rfl (by rw [hml]; exact hsz) (Steps.refl _) (by rw [eT]; exact qa) qc (argsL := argsL) (rest := rest) (lenOf hpd hlen) rfl (by simpa using hW) (hb hby hd) (fun _ _ => ⟨has, eT, hcl, hsl⟩)
  dsimp only [Pt.U, Pt.locs, Pt.cells, Pt.slots] at X' l' y' z' st hQ
  subst l' y' z'
  exact ⟨v, T', Lc, ⟨X', hx, hby, hml, hown, hZ, rfl⟩, hQ, fun k => k.of fun t q => st.trans q⟩

theorem d4_0 : decode prog_60_method_2_code 0 = .ok (.aload_n 0, 1) := by decide +kernel
theorem d4_1 : decode prog_60_method_2_code 1 = .ok (.invokespecial 9, 3) := by decide +kernel
theorem d4_4 : decode prog_60_method_2_code 4 = .ok (.aload_n 0, 1) := by decide +kernel
theorem d4_5 : decode prog_60_method_2_code 5 = .ok (.aload_n 1, 1) := by decide +kernel
theorem d4_6 : decode prog_60_method_2_code 6 = .ok (.putfield 14, 3) := by decide +kernel
theorem d4_9 : decode prog_60_method_2_code 9 = .ok (.aload_n 0, 1) := by decide +kernel
theorem d4_10 : decode prog_60_method_2_code 10 = .ok (.aload_n 2, 1) := by decide +kernel
theorem d4_11 : decode prog_60_method_2_code 11 = .ok (.putfield 18, 3) := by decide +kernel
theorem d4_14 : decode prog_60_method_2_code 14 = .ok (.aload_n 0, 1) := by decide +kernel
theorem d4_15 : decode prog_60_method_2_code 15 = .ok (.aload_n 3, 1) := by decide +kernel
theorem d4_16 : decode prog_60_method_2_code 16 = .ok (.putfield 22, 3) := by decide +kernel
theorem d4_19 : decode prog_60_method_2_code 19 = .ok (.aload_n 0, 1) := by decide +kernel
theorem d4_20 : decode prog_60_method_2_code 20 = .ok (.iload 4, 2) := by decide +kernel
theorem d4_22 : decode prog_60_method_2_code 22 = .ok (.putfield 26, 3) := by decide +kernel
theorem d4_25 : decode prog_60_method_2_code 25 = .ok (.return_, 1) := by decide +kernel
theorem pl4 : plainFor (⟨"com/example/micro_ranker/microranker/engine/Texts", "<init>", "([B[C[II)V"⟩ : MethodName) = true := by first | exact plainFor_of_name (by first | (simp [plainName, overriddenIn]; done) | decide +kernel) | decide +kernel
def HW (a0 : Array Value) (Z : State) : Prop := ∀ d ∈ tables_1, d.before a0 Z = true
def SN (Z : State) (C n d n' d' : String) : Prop := RoadKit.slotOf Z C n d ≠ RoadKit.slotOf Z C n' d'
theorem sn0 {a0 Z} (hw : HW a0 Z) : SN Z "com/example/micro_ranker/microranker/engine/Texts" "characters" "[C" "narrow" "[B" := (slot_ne (a0 := a0) (C := "com/example/micro_ranker/microranker/engine/Texts") (Or.inl (hw _ (mi 25 rfl))) (Or.inl (hw _ (mi 23 rfl))) (by decide) (t := (.array .char)) (t' := (.array .byte)) rfl rfl)
theorem sn1 {a0 Z} (hw : HW a0 Z) : SN Z "com/example/micro_ranker/microranker/engine/Texts" "starts" "[I" "narrow" "[B" := (slot_ne (a0 := a0) (C := "com/example/micro_ranker/microranker/engine/Texts") (Or.inl (hw _ (mi 27 rfl))) (Or.inl (hw _ (mi 23 rfl))) (by decide) (t := (.array .int)) (t' := (.array .byte)) rfl rfl)
theorem sn2 {a0 Z} (hw : HW a0 Z) : SN Z "com/example/micro_ranker/microranker/engine/Texts" "starts" "[I" "characters" "[C" := (slot_ne (a0 := a0) (C := "com/example/micro_ranker/microranker/engine/Texts") (Or.inl (hw _ (mi 27 rfl))) (Or.inl (hw _ (mi 25 rfl))) (by decide) (t := (.array .int)) (t' := (.array .char)) rfl rfl)
theorem sn3 {a0 Z} (hw : HW a0 Z) : SN Z "com/example/micro_ranker/microranker/engine/Texts" "size" "I" "narrow" "[B" := (slot_ne (a0 := a0) (C := "com/example/micro_ranker/microranker/engine/Texts") (Or.inl (hw _ (mi 29 rfl))) (Or.inl (hw _ (mi 23 rfl))) (by decide) (t := .int) (t' := (.array .byte)) rfl rfl)
theorem sn4 {a0 Z} (hw : HW a0 Z) : SN Z "com/example/micro_ranker/microranker/engine/Texts" "size" "I" "characters" "[C" := (slot_ne (a0 := a0) (C := "com/example/micro_ranker/microranker/engine/Texts") (Or.inl (hw _ (mi 29 rfl))) (Or.inl (hw _ (mi 25 rfl))) (by decide) (t := .int) (t' := (.array .char)) rfl rfl)
theorem sn5 {a0 Z} (hw : HW a0 Z) : SN Z "com/example/micro_ranker/microranker/engine/Texts" "size" "I" "starts" "[I" := (slot_ne (a0 := a0) (C := "com/example/micro_ranker/microranker/engine/Texts") (Or.inl (hw _ (mi 29 rfl))) (Or.inl (hw _ (mi 27 rfl))) (by decide) (t := .int) (t' := (.array .int)) rfl rfl)
theorem sn6 {a0 Z} (hw : HW a0 Z) : SN Z "com/example/micro_ranker/microranker/engine/Texts" "narrow" "[B" "characters" "[C" := (slot_ne (a0 := a0) (C := "com/example/micro_ranker/microranker/engine/Texts") (Or.inl (hw _ (mi 23 rfl))) (Or.inl (hw _ (mi 25 rfl))) (by decide) (t := (.array .byte)) (t' := (.array .char)) rfl rfl)
theorem sn7 {a0 Z} (hw : HW a0 Z) : SN Z "com/example/micro_ranker/microranker/engine/Texts" "narrow" "[B" "starts" "[I" := (slot_ne (a0 := a0) (C := "com/example/micro_ranker/microranker/engine/Texts") (Or.inl (hw _ (mi 23 rfl))) (Or.inl (hw _ (mi 27 rfl))) (by decide) (t := (.array .byte)) (t' := (.array .int)) rfl rfl)
theorem sn8 {a0 Z} (hw : HW a0 Z) : SN Z "com/example/micro_ranker/microranker/engine/Texts" "narrow" "[B" "size" "I" := (slot_ne (a0 := a0) (C := "com/example/micro_ranker/microranker/engine/Texts") (Or.inl (hw _ (mi 23 rfl))) (Or.inl (hw _ (mi 29 rfl))) (by decide) (t := (.array .byte)) (t' := .int) rfl rfl)
theorem sn9 {a0 Z} (hw : HW a0 Z) : SN Z "com/example/micro_ranker/microranker/engine/Texts" "characters" "[C" "starts" "[I" := (slot_ne (a0 := a0) (C := "com/example/micro_ranker/microranker/engine/Texts") (Or.inl (hw _ (mi 25 rfl))) (Or.inl (hw _ (mi 27 rfl))) (by decide) (t := (.array .char)) (t' := (.array .int)) rfl rfl)
theorem sn10 {a0 Z} (hw : HW a0 Z) : SN Z "com/example/micro_ranker/microranker/engine/Texts" "characters" "[C" "size" "I" := (slot_ne (a0 := a0) (C := "com/example/micro_ranker/microranker/engine/Texts") (Or.inl (hw _ (mi 25 rfl))) (Or.inl (hw _ (mi 29 rfl))) (by decide) (t := (.array .char)) (t' := .int) rfl rfl)
theorem sn11 {a0 Z} (hw : HW a0 Z) : SN Z "com/example/micro_ranker/microranker/engine/Texts" "starts" "[I" "size" "I" := (slot_ne (a0 := a0) (C := "com/example/micro_ranker/microranker/engine/Texts") (Or.inl (hw _ (mi 27 rfl))) (Or.inl (hw _ (mi 29 rfl))) (by decide) (t := (.array .int)) (t' := .int) rfl rfl)
def Q4 (Z : State) (a : Addr) (x0 : Addr) (x2 : Addr) (h0 : Heap) (n0 : Nat) (v : Option Value) (h : Heap) (L : List Loc) : Prop := v = none ∧ Fr n0 L ∧ Keep h0 h [a] ∧ Fld Z h a "com/example/micro_ranker/microranker/engine/Texts" "narrow" "[B" (.ref x0) ∧ Fld Z h a "com/example/micro_ranker/microranker/engine/Texts" "characters" "[C" .null ∧ Fld Z h a "com/example/micro_ranker/microranker/engine/Texts" "starts" "[I" (.ref x2) ∧ Fld Z h a "com/example/micro_ranker/microranker/engine/Texts" "size" "I" (.int (0 : Int32))
set_option maxRecDepth 65536 in
set_option maxHeartbeats 400000000 in
theorem rm4 (l : Launch) (Z : State) (a0 : Array Value) (hw : ∀ d ∈ tables_1, d.before a0 Z = true) (a : Addr) (x0 : Addr) (x2 : Addr) (h0 : Heap) (n0 : Nat) (hz : n0 ≤ h0.size) (ge_a : n0 ≤ a) (hE : Exa Z h0 a "com/example/micro_ranker/microranker/engine/Texts") (G_narrow : Fld Z h0 a "com/example/micro_ranker/microranker/engine/Texts" "narrow" "[B" .null) (G_characters : Fld Z h0 a "com/example/micro_ranker/microranker/engine/Texts" "characters" "[C" .null) (G_starts : Fld Z h0 a "com/example/micro_ranker/microranker/engine/Texts" "starts" "[I" .null) (G_size : Fld Z h0 a "com/example/micro_ranker/microranker/engine/Texts" "size" "I" (.int (0 : Int32))) :
    Met l Z (⟨"com/example/micro_ranker/microranker/engine/Texts", "<init>", "([B[C[II)V"⟩ : MethodName) prog_60_method_2_code 5 none ({ frames := 1, cells := 0, slots := 0, locals := 12 } : Room) #[(.ref a), (.ref x0), .null, (.ref x2), (.int (0 : Int32))] h0 (Q4 Z a x0 x2 h0 n0) := by
  refine enter pl4 #[vr a, vr x0, .val .null, vr x2, vi 0] rfl ?_
  intro p e s m below meth c T B hret hlk hnm
  have N0 := Fr.nil n0
  refine o_aloadN B 0 1 (v := (.ref a)) d4_0 rfl rfl rfl ?_
  obtain ⟨T1, B1, c1⟩ := o_initO B 1 4 d4_1 rfl (hw _ (mi 19 rfl)) (hw _ (mi 20 rfl)) (hw _ (mi 21 rfl)) (a := a) (Ls := #[vr a, vr x0, .val .null, vr x2, vi 0]) (rest := []) rfl 0 (Nat.le_of_eq rfl) (by decide) (by decide)
  refine c1 ?_
  refine o_aloadN B1 4 5 (v := (.ref a)) d4_4 rfl rfl rfl ?_
  refine o_aloadN B1 5 6 (v := (.ref x0)) d4_5 rfl rfl rfl ?_
  obtain ⟨T2, h2, L2, B2, N2, W2, c2⟩ := o_putfield B1 N0 ge_a 6 9 (v := (.ref x0)) d4_6 rfl (host := "") (Or.inl (hw _ (mi 22 rfl))) Via.refl G_narrow hE (Or.inl (hw _ (mi 23 rfl))) (hw _ (mi 9 rfl)) (ty := (.array .byte)) (by decide) rfl rfl (Ls := #[vr a, vr x0, .val .null, vr x2, vi 0]) (rest := [])
  have F2 : Fld Z h2 a "com/example/micro_ranker/microranker/engine/Texts" "narrow" "[B" (.ref x0) := Fld.same W2 G_narrow
  refine c2 ?_
  refine o_aloadN B2 9 10 (v := (.ref a)) d4_9 rfl rfl rfl ?_
  refine o_aloadN B2 10 11 (v := .null) d4_10 rfl rfl rfl ?_
  have F4 := (Fld.other W2 G_characters (Or.inr (sn0 hw)))
  have F5 := (Exa.wr W2 hE)
  obtain ⟨T3, h3, L3, B3, N3, W3, c3⟩ := o_putfield B2 N2 ge_a 11 14 (v := .null) d4_11 rfl (host := "") (Or.inl (hw _ (mi 24 rfl))) Via.refl F4 F5 (Or.inl (hw _ (mi 25 rfl))) (hw _ (mi 9 rfl)) (ty := (.array .char)) (by decide) rfl rfl (Ls := #[vr a, vr x0, .val .null, vr x2, vi 0]) (rest := [])
  have F3 : Fld Z h3 a "com/example/micro_ranker/microranker/engine/Texts" "characters" "[C" .null := Fld.same W3 F4
  refine c3 ?_
  refine o_aloadN B3 14 15 (v := (.ref a)) d4_14 rfl rfl rfl ?_
  refine o_aloadN B3 15 16 (v := (.ref x2)) d4_15 rfl rfl rfl ?_
  have F7 := (Fld.other W3 (Fld.other W2 G_starts (Or.inr (sn1 hw))) (Or.inr (sn2 hw)))
  have F8 := (Exa.wr W3 F5)
  obtain ⟨T6, h6, L6, B6, N6, W6, c6⟩ := o_putfield B3 N3 ge_a 16 19 (v := (.ref x2)) d4_16 rfl (host := "") (Or.inl (hw _ (mi 26 rfl))) Via.refl F7 F8 (Or.inl (hw _ (mi 27 rfl))) (hw _ (mi 9 rfl)) (ty := (.array .int)) (by decide) rfl rfl (Ls := #[vr a, vr x0, .val .null, vr x2, vi 0]) (rest := [])
  have F6 : Fld Z h6 a "com/example/micro_ranker/microranker/engine/Texts" "starts" "[I" (.ref x2) := Fld.same W6 F7
  refine c6 ?_
  refine o_aloadN B6 19 20 (v := (.ref a)) d4_19 rfl rfl rfl ?_
  refine o_iload B6 20 22 (v := (0 : Int32)) d4_20 rfl rfl ?_
  have F10 := (Fld.other W6 (Fld.other W3 (Fld.other W2 G_size (Or.inr (sn3 hw))) (Or.inr (sn4 hw))) (Or.inr (sn5 hw)))
  have F11 := (Exa.wr W6 F8)
  obtain ⟨T9, h9, L9, B9, N9, W9, c9⟩ := o_putfield B6 N6 ge_a 22 25 (v := (.int (0 : Int32))) d4_22 rfl (host := "") (Or.inl (hw _ (mi 28 rfl))) Via.refl F10 F11 (Or.inl (hw _ (mi 29 rfl))) (hw _ (mi 9 rfl)) (ty := .int) (by decide) rfl rfl (Ls := #[vr a, vr x0, .val .null, vr x2, vi 0]) (rest := [])
  have F9 : Fld Z h9 a "com/example/micro_ranker/microranker/engine/Texts" "size" "I" (.int (0 : Int32)) := Fld.same W9 F10
  refine c9 ?_
  have F12 := (Fld.other W9 (Fld.other W6 (Fld.other W3 F2 (Or.inr (sn6 hw))) (Or.inr (sn7 hw))) (Or.inr (sn8 hw)))
  have F13 := (Fld.other W9 (Fld.other W6 F3 (Or.inr (sn9 hw))) (Or.inr (sn10 hw)))
  have F14 := (Fld.other W9 F6 (Or.inr (sn11 hw)))
  have KT15 := (((((Keep.refl h0 [a]).wr W2 (Or.inl (mi 0 rfl))).wr W3 (Or.inl (mi 0 rfl))).wr W6 (Or.inl (mi 0 rfl))).wr W9 (Or.inl (mi 0 rfl)))
  exact o_retV B9 25 d4_25 hret hlk (by decide) (by decide) ⟨rfl, N9, KT15, F12, F13, F14, F9⟩
theorem d3_0 : decode prog_60_method_1_code 0 = .ok (.aload_n 0, 1) := by decide +kernel
theorem d3_1 : decode prog_60_method_1_code 1 = .ok (.sipush 4096, 3) := by decide +kernel
theorem d3_4 : decode prog_60_method_1_code 4 = .ok (.newarray .byte, 2) := by decide +kernel
theorem d3_6 : decode prog_60_method_1_code 6 = .ok (.aconst_null, 1) := by decide +kernel
theorem d3_7 : decode prog_60_method_1_code 7 = .ok (.sipush 512, 3) := by decide +kernel
theorem d3_10 : decode prog_60_method_1_code 10 = .ok (.newarray .int, 2) := by decide +kernel
theorem d3_12 : decode prog_60_method_1_code 12 = .ok (.iconst 0, 1) := by decide +kernel
theorem d3_13 : decode prog_60_method_1_code 13 = .ok (.invokespecial 3, 3) := by decide +kernel
theorem d3_16 : decode prog_60_method_1_code 16 = .ok (.return_, 1) := by decide +kernel
theorem pl3 : plainFor (⟨"com/example/micro_ranker/microranker/engine/Texts", "<init>", "()V"⟩ : MethodName) = true := by first | exact plainFor_of_name (by first | (simp [plainName, overriddenIn]; done) | decide +kernel) | decide +kernel
theorem pd___B_C_II_V : parseMethodDescriptor "([B[C[II)V" = some ⟨[(.array .byte), (.array .char), (.array .int), .int], none⟩ := by decide +kernel
def Q3 (Z : State) (a : Addr) (h0 : Heap) (n0 : Nat) (v : Option Value) (h : Heap) (L : List Loc) : Prop := v = none ∧ Fr n0 L ∧ Keep h0 h [a] ∧ ∃ yn ys : Addr, n0 ≤ yn ∧ n0 ≤ ys ∧ h0.size ≤ yn ∧ h0.size ≤ ys ∧ yn ≠ ys ∧ Fld Z h a "com/example/micro_ranker/microranker/engine/Texts" "narrow" "[B" (.ref yn) ∧ Fld Z h a "com/example/micro_ranker/microranker/engine/Texts" "characters" "[C" .null ∧ Fld Z h a "com/example/micro_ranker/microranker/engine/Texts" "starts" "[I" (.ref ys) ∧ Fld Z h a "com/example/micro_ranker/microranker/engine/Texts" "size" "I" (.int (0 : Int32)) ∧ AI Z h yn .byte 4096 own_z0 ∧ AI Z h ys .int 512 own_z0
set_option maxRecDepth 65536 in
set_option maxHeartbeats 400000000 in
theorem rm3 (l : Launch) (Z : State) (a0 : Array Value) (hw : ∀ d ∈ tables_1, d.before a0 Z = true) (a : Addr) (h0 : Heap) (n0 : Nat) (hz : n0 ≤ h0.size) (ge_a : n0 ≤ a) (hE : Exa Z h0 a "com/example/micro_ranker/microranker/engine/Texts") (G_narrow : Fld Z h0 a "com/example/micro_ranker/microranker/engine/Texts" "narrow" "[B" .null) (G_characters : Fld Z h0 a "com/example/micro_ranker/microranker/engine/Texts" "characters" "[C" .null) (G_starts : Fld Z h0 a "com/example/micro_ranker/microranker/engine/Texts" "starts" "[I" .null) (G_size : Fld Z h0 a "com/example/micro_ranker/microranker/engine/Texts" "size" "I" (.int (0 : Int32))) :
    Met l Z (⟨"com/example/micro_ranker/microranker/engine/Texts", "<init>", "()V"⟩ : MethodName) prog_60_method_1_code 1 none ({ frames := 2, cells := 2, slots := 4608, locals := 28 } : Room) #[(.ref a)] h0 (Q3 Z a h0 n0) := by
  refine enter pl3 #[vr a] rfl ?_
  intro p e s m below meth c T B hret hlk hnm
  have N0 := Fr.nil n0
  refine o_aloadN B 0 1 (v := (.ref a)) d3_0 rfl rfl rfl ?_
  refine o_sipush B 1 4 (4096 : Int32) d3_1 rfl (by decide) ?_
  obtain ⟨a1, T1, h1, z1, B1, E1, A1, c1⟩ := o_newI B 4 6 (ty := .byte) (z := (4096 : Int32)) 4096 4096 (hw _ (mi 14 rfl)) d3_4 rfl rfl rfl (by decide) (by decide) (by decide) (by decide) (by decide) (by decide) (Ls := #[vr a]) (rest := [(.ref a)])
  have lt2 : (a : Nat) < a1 := by rw [z1]; exact hE.lt
  have g1 : n0 ≤ a1 := by rw [z1]; exact hz
  have s1 : n0 ≤ h1.size := Nat.le_trans hz E1.1
  have y1 : h0.size ≤ a1 := by rw [z1]; exact (Keep.refl h0 [a]).1
  refine c1 ?_
  refine o_aconst_null B1 6 7 d3_6 rfl ?_
  refine o_sipush B1 7 10 (512 : Int32) d3_7 rfl (by decide) ?_
  obtain ⟨a3, T3, h3, z3, B3, E3, A3, c3⟩ := o_newI B1 10 12 (ty := .int) (z := (512 : Int32)) 512 512 (hw _ (mi 15 rfl)) d3_10 rfl rfl rfl (by decide) (by decide) (by decide) (by decide) (by decide) (by decide) (Ls := #[vr a]) (rest := [.null, (.ref a1), (.ref a)])
  have F4 := (Exa.ext E1 hE)
  have lt5 : (a : Nat) < a3 := by rw [z3]; exact F4.lt
  have lt6 : (a1 : Nat) < a3 := by rw [z3]; exact A1.lt
  have g3 : n0 ≤ a3 := by rw [z3]; exact s1
  have s3 : n0 ≤ h3.size := Nat.le_trans s1 E3.1
  have y3 : h0.size ≤ a3 := by rw [z3]; exact ((Keep.refl h0 [a]).ext E1).1
  refine c3 ?_
  refine o_iconst B3 12 13 (0 : Int32) d3_12 rfl (by decide) ?_
  have F7 := (Exa.ext E3 F4)
  have F8 := (Fld.ext E3 (Fld.ext E1 G_narrow))
  have F9 := (Fld.ext E3 (Fld.ext E1 G_characters))
  have F10 := (Fld.ext E3 (Fld.ext E1 G_starts))
  have F11 := (Fld.ext E3 (Fld.ext E1 G_size))
  obtain ⟨v12, T12, L12, B12, Q12, c12⟩ := o_callN B3 13 16 d3_13 rfl rfl (hw _ (mi 16 rfl)) (hw _ (mi 17 rfl)) (hw _ (mi 10 rfl)) (hw _ (mi 18 rfl)) (by decide) (rm4 l Z a0 hw a a1 a3 h3 n0 s3 ge_a F7 F8 F9 F10 F11) 0 [(.ref a1), .null, (.ref a3), (.int (0 : Int32))] [] pd___B_C_II_V rfl rfl (st := [(.int (0 : Int32)), (.ref a3), .null, (.ref a1), (.ref a)]) rfl (Ls := #[vr a]) rfl (Nat.le_of_eq rfl) (by decide) (by decide) (by decide) (by decide)
  obtain ⟨rfl, M12, K12, H12_1, H12_2, H12_3, H12_4⟩ := Q12
  have N12 := Fr.app N0 M12
  have s12 : n0 ≤ T12.heap.size := Nat.le_trans s3 K12.1
  refine c12 ?_
  show OG p.tables e below _ (T12.setTop (mkF m 16 #[vr a] []))
  have F13 := ((A1.ext E3).keep K12 (ninS (Ne.symm (Nat.ne_of_lt lt2)) nin0))
  have F14 := (A3.keep K12 (ninS (Ne.symm (Nat.ne_of_lt lt5)) nin0))
  have KT15 := ((((Keep.refl h0 [a]).ext E1).ext E3).trans K12 (allS (Or.inl (mi 0 rfl)) all0))
  exact o_retV B12 16 d3_16 hret hlk (by decide) (by decide) ⟨rfl, N12, KT15, a1, a3, g1, g3, y1, y3, (Nat.ne_of_lt lt6), H12_1, H12_2, H12_3, H12_4, F13, F14⟩
theorem d9_0 : decode prog_60_method_9_code 0 = .ok (.aload_n 0, 1) := by decide +kernel
theorem d9_1 : decode prog_60_method_9_code 1 = .ok (.getfield 22, 3) := by decide +kernel
theorem d9_4 : decode prog_60_method_9_code 4 = .ok (.aload_n 0, 1) := by decide +kernel
theorem d9_5 : decode prog_60_method_9_code 5 = .ok (.getfield 26, 3) := by decide +kernel
theorem d9_8 : decode prog_60_method_9_code 8 = .ok (.iaload, 1) := by decide +kernel
theorem d9_9 : decode prog_60_method_9_code 9 = .ok (.istore_n 2, 1) := by decide +kernel
theorem d9_10 : decode prog_60_method_9_code 10 = .ok (.aload_n 0, 1) := by decide +kernel
theorem d9_11 : decode prog_60_method_9_code 11 = .ok (.getfield 14, 3) := by decide +kernel
theorem d9_14 : decode prog_60_method_9_code 14 = .ok (.arraylength, 1) := by decide +kernel
theorem d9_15 : decode prog_60_method_9_code 15 = .ok (.iload_n 1, 1) := by decide +kernel
theorem d9_16 : decode prog_60_method_9_code 16 = .ok (.invokestatic 44, 3) := by decide +kernel
theorem d9_19 : decode prog_60_method_9_code 19 = .ok (.newarray .char, 2) := by decide +kernel
theorem d9_21 : decode prog_60_method_9_code 21 = .ok (.astore_n 3, 1) := by decide +kernel
theorem d9_22 : decode prog_60_method_9_code 22 = .ok (.iconst 0, 1) := by decide +kernel
theorem d9_23 : decode prog_60_method_9_code 23 = .ok (.istore 4, 2) := by decide +kernel
theorem d9_25 : decode prog_60_method_9_code 25 = .ok (.iload 4, 2) := by decide +kernel
theorem d9_27 : decode prog_60_method_9_code 27 = .ok (.iload_n 2, 1) := by decide +kernel
theorem d9_28 : decode prog_60_method_9_code 28 = .ok (.if_icmp .ge 25, 3) := by decide +kernel
theorem d9_31 : decode prog_60_method_9_code 31 = .ok (.aload_n 3, 1) := by decide +kernel
theorem d9_32 : decode prog_60_method_9_code 32 = .ok (.iload 4, 2) := by decide +kernel
theorem d9_34 : decode prog_60_method_9_code 34 = .ok (.aload_n 0, 1) := by decide +kernel
theorem d9_35 : decode prog_60_method_9_code 35 = .ok (.getfield 14, 3) := by decide +kernel
theorem d9_38 : decode prog_60_method_9_code 38 = .ok (.iload 4, 2) := by decide +kernel
theorem d9_40 : decode prog_60_method_9_code 40 = .ok (.baload, 1) := by decide +kernel
theorem d9_41 : decode prog_60_method_9_code 41 = .ok (.sipush 255, 3) := by decide +kernel
theorem d9_44 : decode prog_60_method_9_code 44 = .ok (.iand, 1) := by decide +kernel
theorem d9_45 : decode prog_60_method_9_code 45 = .ok (.i2c, 1) := by decide +kernel
theorem d9_46 : decode prog_60_method_9_code 46 = .ok (.castore, 1) := by decide +kernel
theorem d9_47 : decode prog_60_method_9_code 47 = .ok (.iinc 4 1, 3) := by decide +kernel
theorem d9_50 : decode prog_60_method_9_code 50 = .ok (.goto (-25), 3) := by decide +kernel
theorem d9_53 : decode prog_60_method_9_code 53 = .ok (.aload_n 0, 1) := by decide +kernel
theorem d9_54 : decode prog_60_method_9_code 54 = .ok (.aload_n 3, 1) := by decide +kernel
theorem d9_55 : decode prog_60_method_9_code 55 = .ok (.putfield 18, 3) := by decide +kernel
theorem d9_58 : decode prog_60_method_9_code 58 = .ok (.aload_n 0, 1) := by decide +kernel
theorem d9_59 : decode prog_60_method_9_code 59 = .ok (.aconst_null, 1) := by decide +kernel
theorem d9_60 : decode prog_60_method_9_code 60 = .ok (.putfield 14, 3) := by decide +kernel
theorem d9_63 : decode prog_60_method_9_code 63 = .ok (.return_, 1) := by decide +kernel
def w9s_1 (gn : Nat → Int32) (x0 sl : Int32) (i : Nat) : Nat → Int32 := fun j => if j = i then ((gn i) &&& (255 : Int32)).toUInt32.toUInt16.toUInt32.toInt32 else (UpI i (fun j => own_cb (gn j))) j
set_option maxRecDepth 65536 in
set_option maxHeartbeats 400000000 in
theorem lpW {p : Program} {l : Launch} {e : Env} {R : Room} {s : State} {m : MethodId} {args : Array Value} {below : List Frame} {meth : Method} {c : Code} {Z : State} {cells slots n0 : Nat} {P : Outcome → State → Prop} (a0 : Array Value) (hw : ∀ d ∈ tables_1, d.before a0 Z = true) (a yn w : Addr) (x0 sl : Int32) (gn : Nat → Int32) (gw : n0 ≤ w) (q1 : w ≠ a) (q2 : w ≠ yn) (hl : sl.toInt = (sl.toInt.toNat : Nat) ∧ sl.toInt.toNat ≤ 3) : ∀ (k i : Nat) (T : State) (h : Heap) (locs : List Loc),
    i + k = sl.toInt.toNat → Bx "com/example/micro_ranker/microranker/engine/Texts" prog_60_method_9_code 5 Z p l e R s m args below meth c T h locs cells slots → Fr n0 locs → n0 ≤ h.size → Exa Z h a "com/example/micro_ranker/microranker/engine/Texts" → Fld Z h a "com/example/micro_ranker/microranker/engine/Texts" "narrow" "[B" (.ref yn) → AI Z h yn .byte 4096 gn → AI Z h w .char 8192 (UpI i (fun j => own_cb (gn j))) →
    (∀ (T' : State) (h' : Heap) (locs' : List Loc) (i' : Int32), Bx "com/example/micro_ranker/microranker/engine/Texts" prog_60_method_9_code 5 Z p l e R s m args below meth c T' h' locs' cells slots → Fr n0 locs' → Keep h h' [w] → AI Z h' w .char 8192 (UpI sl.toInt.toNat (fun j => own_cb (gn j))) → OG p.tables e below P (T'.setTop (mkF m 53 #[vr a, vi x0, vi sl, vr w, vi i'] []))) →
    OG p.tables e below P (T.setTop (mkF m 25 #[vr a, vi x0, vi sl, vr w, vi (Int32.ofNat i)] [])) := by
  intro k
  induction k with
  | zero =>
    intro i T h locs hg B N hz hE G_n A_n A_w cont
    refine o_iload B 25 27 (v := (Int32.ofNat i)) d9_25 rfl rfl ?_
    refine o_iloadN B 27 28 (v := sl) d9_27 rfl rfl ?_
    refine o_icY B 28 53 d9_28 (XT.ii_ge_t (by rw [Int32.lt_iff_toInt_lt, own_on i (by omega)]; omega)) (by decide) (by decide) ?_
    exact cont T h locs (Int32.ofNat i) B N (Keep.refl _ _) (by have q := A_w; rw [show i = sl.toInt.toNat by omega] at q; exact q)
  | succ k ih =>
    intro i T h locs hg B N hz hE G_n A_n A_w cont
    have hi := ix_of (own_on i (by omega))
    refine o_iload B 25 27 (v := (Int32.ofNat i)) d9_25 rfl rfl ?_
    refine o_iloadN B 27 28 (v := sl) d9_27 rfl rfl ?_
    refine o_icN B 28 31 d9_28 rfl (XT.ii_ge_f (by rw [Int32.lt_iff_toInt_lt, own_on i (by omega)]; omega)) ?_
    refine o_aloadN B 31 32 (v := (.ref w)) d9_31 rfl rfl rfl ?_
    refine o_iload B 32 34 (v := (Int32.ofNat i)) d9_32 rfl rfl ?_
    refine o_aloadN B 34 35 (v := (.ref a)) d9_34 rfl rfl rfl ?_
    obtain ⟨T1, B1, c1⟩ := o_getfield B 35 38 d9_35 rfl (host := "") (Or.inl (hw _ (mi 22 rfl))) Via.refl G_n (Ls := #[vr a, vi x0, vi sl, vr w, vi (Int32.ofNat i)]) (rest := [(.int (Int32.ofNat i)), (.ref w)])
    refine c1 ?_
    refine o_iload B1 38 40 (v := (Int32.ofNat i)) d9_38 rfl rfl ?_
    refine o_baload B1 40 41 A_n i (gn i) d9_40 rfl hi.1 hi.2 (by omega) rfl ?_
    refine o_sipush B1 41 44 (255 : Int32) d9_41 rfl (by decide) ?_
    refine o_iand B1 44 45 d9_44 rfl ?_
    refine o_i2c B1 45 46 d9_45 rfl ?_
    obtain ⟨T3, h3, L3, B3, N3, W3, Q3, c3⟩ := o_castore B1 N gw 46 47 A_w (j := (Int32.ofNat i)) (x := ((gn i) &&& (255 : Int32)).toUInt32.toUInt16.toUInt32.toInt32) i ((gn i) &&& (255 : Int32)).toUInt32.toUInt16.toUInt32.toInt32 d9_46 rfl hi.1 hi.2 (by omega) (nar_cc _) (Ls := #[vr a, vi x0, vi sl, vr w, vi (Int32.ofNat i)]) (rest := [])
    have A3 : AI Z h3 w .char 8192 (w9s_1 gn x0 sl i) := Q3
    refine c3 ?_
    refine o_iincC B3 47 50 (l' := #[vr a, vi x0, vi sl, vr w, vi (Int32.ofNat (i + 1))]) (1 : Int32) (Int32.ofNat (i + 1)) d9_47 rfl (by decide) rfl (own_inc i) rfl ?_
    refine o_goto B3 50 25 d9_50 (by decide) (by decide) ?_
    have R_w : AI Z h3 w .char 8192 (UpI (i + 1) (fun j => own_cb (gn j))) := A3.alt (fun j hj => own_upI i _ j)
    have F4 := (Exa.wr W3 hE)
    have F5 := (Fld.other W3 G_n (Or.inl (Ne.symm q1)))
    have F6 := (A_n.other W3 (Ne.symm q2))
    exact ih (i + 1) _ _ _ (by omega) B3 N3 (Nat.le_trans hz ((Keep.refl h [w]).wr W3 (Or.inl (mi 0 rfl))).1) F4 F5 F6 R_w (fun T2 h2 L2 i2 B2 N2 K2 A2 => cont T2 h2 L2 i2 B2 N2 (Keep.trans ((Keep.refl h [w]).wr W3 (Or.inl (mi 0 rfl))) K2 (allS (Or.inl (mi 0 rfl)) all0)) A2)
theorem own_gl {x0 : Int32} (h : 0 ≤ x0.toInt ∧ x0.toInt ≤ 6) : ¬ x0 < 0 ∧ ¬ (2147483639 : Int32) < x0 ∧ (f10 4096 x0).toInt = (8192 : Nat) := by
  rw [Int32.lt_iff_toInt_lt, Int32.lt_iff_toInt_lt, Int32.toInt_zero, show (2147483639 : Int32).toInt = 2147483639 by decide]
  refine ⟨by omega, by omega, ?_⟩
  have e : x0 = 0 ∨ x0 = 1 ∨ x0 = 2 ∨ x0 = 3 ∨ x0 = 4 ∨ x0 = 5 ∨ x0 = 6 := by
    rw [← Int32.toInt_inj, ← Int32.toInt_inj, ← Int32.toInt_inj, ← Int32.toInt_inj, ← Int32.toInt_inj, ← Int32.toInt_inj, ← Int32.toInt_inj, Int32.toInt_zero, show (1 : Int32).toInt = 1 by decide, show (2 : Int32).toInt = 2 by decide, show (3 : Int32).toInt = 3 by decide, show (4 : Int32).toInt = 4 by decide, show (5 : Int32).toInt = 5 by decide, show (6 : Int32).toInt = 6 by decide]
    omega
  rcases e with rfl | rfl | rfl | rfl | rfl | rfl | rfl <;> decide +kernel
theorem own_w4n {x : Int32} (h : W4 x) : x.toInt = (x.toInt.toNat : Nat) ∧ x.toInt.toNat ≤ 3 := by unfold W4 at h; omega
theorem pl9 : plainFor (⟨"com/example/micro_ranker/microranker/engine/Texts", "widen", "(I)V"⟩ : MethodName) = true := by first | exact plainFor_of_name (by first | (simp [plainName, overriddenIn]; done) | decide +kernel) | decide +kernel
theorem pd__II_I : parseMethodDescriptor "(II)I" = some ⟨[.int, .int], some .int⟩ := by decide +kernel
def Q9 (Z : State) (a : Addr) (yn : Addr) (ys : Addr) (gn : Nat → Int32) (gs : Nat → Int32) (z : Int32) (x0 : Int32) (h0 : Heap) (n0 : Nat) (v : Option Value) (h : Heap) (L : List Loc) : Prop := v = none ∧ Fr n0 L ∧ Keep h0 h [a] ∧ ∃ b : Addr, n0 ≤ b ∧ h0.size ≤ b ∧ Fld Z h a "com/example/micro_ranker/microranker/engine/Texts" "narrow" "[B" .null ∧ Fld Z h a "com/example/micro_ranker/microranker/engine/Texts" "characters" "[C" (.ref b) ∧ Fld Z h a "com/example/micro_ranker/microranker/engine/Texts" "starts" "[I" (.ref ys) ∧ Fld Z h a "com/example/micro_ranker/microranker/engine/Texts" "size" "I" (.int z) ∧ AI Z h b .char 8192 (UpI (gs z.toInt.toNat).toInt.toNat (fun j => own_cb (gn j)))
set_option maxRecDepth 65536 in
set_option maxHeartbeats 400000000 in
theorem rm9 (l : Launch) (Z : State) (a0 : Array Value) (hw : ∀ d ∈ tables_1, d.before a0 Z = true) (a : Addr) (yn : Addr) (ys : Addr) (gn : Nat → Int32) (gs : Nat → Int32) (z : Int32) (x0 : Int32) (h0 : Heap) (n0 : Nat) (hz : n0 ≤ h0.size) (ge_a : n0 ≤ a) (hE : Exa Z h0 a "com/example/micro_ranker/microranker/engine/Texts") (G_narrow : Fld Z h0 a "com/example/micro_ranker/microranker/engine/Texts" "narrow" "[B" (.ref yn)) (G_characters : Fld Z h0 a "com/example/micro_ranker/microranker/engine/Texts" "characters" "[C" .null) (G_starts : Fld Z h0 a "com/example/micro_ranker/microranker/engine/Texts" "starts" "[I" (.ref ys)) (G_size : Fld Z h0 a "com/example/micro_ranker/microranker/engine/Texts" "size" "I" (.int z)) (A_yn : AI Z h0 yn .byte 4096 gn) (A_ys : AI Z h0 ys .int 512 gs) (ne_a_yn : a ≠ yn) (ne_a_ys : a ≠ ys) (ne_yn_ys : yn ≠ ys) (hv : z.toInt = 0 ∨ z.toInt = 1) (hg : W4 (gs z.toInt.toNat)) (hx : 0 ≤ x0.toInt ∧ x0.toInt ≤ 6) :
    Met l Z (⟨"com/example/micro_ranker/microranker/engine/Texts", "widen", "(I)V"⟩ : MethodName) prog_60_method_9_code 5 none ({ frames := 2, cells := 1, slots := 8192, locals := 30 } : Room) #[(.ref a), (.int x0)] h0 (Q9 Z a yn ys gn gs z x0 h0 n0) := by
  refine enter pl9 #[vr a, vi x0, us, us, us] rfl ?_
  intro p e s m below meth c T B hret hlk hnm
  have N0 := Fr.nil n0
  have hzi := ix_of (own_z hv).1
  refine o_aloadN B 0 1 (v := (.ref a)) d9_0 rfl rfl rfl ?_
  obtain ⟨T11, B11, c11⟩ := o_getfield B 1 4 d9_1 rfl (host := "") (Or.inl (hw _ (mi 26 rfl))) Via.refl G_starts (Ls := #[vr a, vi x0, us, us, us]) (rest := [])
  refine c11 ?_
  refine o_aloadN B11 4 5 (v := (.ref a)) d9_4 rfl rfl rfl ?_
  obtain ⟨T12, B12, c12⟩ := o_getfield B11 5 8 d9_5 rfl (host := "") (Or.inl (hw _ (mi 28 rfl))) Via.refl G_size (Ls := #[vr a, vi x0, us, us, us]) (rest := [(.ref ys)])
  refine c12 ?_
  refine o_iaload B12 8 9 A_ys z.toInt.toNat (gs z.toInt.toNat) d9_8 rfl hzi.1 hzi.2 (own_z hv).2.1 rfl ?_
  refine o_istoreN B12 9 10 (l' := #[vr a, vi x0, vi (gs z.toInt.toNat), us, us]) d9_9 rfl rfl ?_
  refine o_aloadN B12 10 11 (v := (.ref a)) d9_10 rfl rfl rfl ?_
  obtain ⟨T14, B14, c14⟩ := o_getfield B12 11 14 d9_11 rfl (host := "") (Or.inl (hw _ (mi 22 rfl))) Via.refl G_narrow (Ls := #[vr a, vi x0, vi (gs z.toInt.toNat), us, us]) (rest := [])
  refine c14 ?_
  refine o_alenI B14 14 15 A_yn (4096 : Int32) d9_14 rfl (by decide) ?_
  refine o_iloadN B14 15 16 (v := x0) d9_15 rfl rfl ?_
  obtain ⟨T16, B16, c16⟩ := o_callP B14 16 19 d9_16 rfl (hw _ (mi 47 rfl)) (hw _ (mi 48 rfl)) (hw _ (mi 10 rfl)) (hw _ (mi 49 rfl)) (by decide) (rm10 l Z a0 hw (4096 : Int32) x0 h0  (own_gl hx).1 (own_gl hx).2.1) 0 [(.int (4096 : Int32)), (.int x0)] [] pd__II_I rfl rfl (st := [(.int x0), (.int (4096 : Int32))]) rfl (Ls := #[vr a, vi x0, vi (gs z.toInt.toNat), us, us]) rfl (Nat.le_of_eq rfl) (by decide) (by decide) (by decide) (by decide)
  refine c16 ?_
  obtain ⟨a17, T17, h17, z17, B17, E17, A17, c17⟩ := o_newI B16 19 21 (ty := .char) (z := (f10 (4096 : Int32) x0)) 8192 8192 (hw _ (mi 4 rfl)) d9_19 rfl rfl rfl (ix_of (own_gl hx).2.2).1 (ix_of (own_gl hx).2.2).2 (Nat.le_refl _) (by decide) (by decide) (by decide) (Ls := #[vr a, vi x0, vi (gs z.toInt.toNat), us, us]) (rest := [])
  have lt18 : (a : Nat) < a17 := by rw [z17]; exact hE.lt
  have lt19 : (yn : Nat) < a17 := by rw [z17]; exact A_yn.lt
  have lt20 : (ys : Nat) < a17 := by rw [z17]; exact A_ys.lt
  have g17 : n0 ≤ a17 := by rw [z17]; exact hz
  have s17 : n0 ≤ h17.size := Nat.le_trans hz E17.1
  have y17 : h0.size ≤ a17 := by rw [z17]; exact (Keep.refl h0 [a]).1
  refine c17 ?_
  refine o_astoreN B17 21 22 (l' := #[vr a, vi x0, vi (gs z.toInt.toNat), vr a17, us]) d9_21 rfl rfl rfl ?_
  refine o_iconst B17 22 23 (0 : Int32) d9_22 rfl (by decide) ?_
  refine o_istore B17 23 25 (l' := #[vr a, vi x0, vi (gs z.toInt.toNat), vr a17, vi 0]) d9_23 rfl rfl ?_
  have F21 := (Exa.ext E17 hE)
  have F22 := (Fld.ext E17 G_narrow)
  have F23 := (A_yn.ext E17)
  refine lpW a0 hw a yn a17 x0 (gs z.toInt.toNat) gn g17 (Ne.symm (Nat.ne_of_lt lt18)) (Ne.symm (Nat.ne_of_lt lt19)) (own_w4n hg) (gs z.toInt.toNat).toInt.toNat 0 _ _ _ (Nat.zero_add _) B17 N0 s17 F21 F22 F23 (A17.alt (fun j _ => if_neg (by omega))) (fun T9 h9 L9 i9 B9 N9 K9 A9 => ?_)
  have z9 : n0 ≤ h9.size := Nat.le_trans s17 K9.1
  refine o_aloadN B9 53 54 (v := (.ref a)) d9_53 rfl rfl rfl ?_
  refine o_aloadN B9 54 55 (v := (.ref a17)) d9_54 rfl rfl rfl ?_
  have F25 := ((Fld.ext E17 G_characters).keep K9 (ninS (Nat.ne_of_lt lt18) nin0))
  have F26 := (F21.keep K9)
  obtain ⟨T24, h24, L24, B24, N24, W24, c24⟩ := o_putfield B9 N9 ge_a 55 58 (v := (.ref a17)) d9_55 rfl (host := "") (Or.inl (hw _ (mi 24 rfl))) Via.refl F25 F26 (Or.inl (hw _ (mi 25 rfl))) (hw _ (mi 9 rfl)) (ty := (.array .char)) (by decide) rfl rfl (Ls := #[vr a, vi x0, vi (gs z.toInt.toNat), vr a17, vi i9]) (rest := [])
  have F24 : Fld Z h24 a "com/example/micro_ranker/microranker/engine/Texts" "characters" "[C" (.ref a17) := Fld.same W24 F25
  refine c24 ?_
  refine o_aloadN B24 58 59 (v := (.ref a)) d9_58 rfl rfl rfl ?_
  refine o_aconst_null B24 59 60 d9_59 rfl ?_
  have F28 := (Fld.other W24 (F22.keep K9 (ninS (Nat.ne_of_lt lt18) nin0)) (Or.inr (sn6 hw)))
  have F29 := (Exa.wr W24 F26)
  obtain ⟨T27, h27, L27, B27, N27, W27, c27⟩ := o_putfield B24 N24 ge_a 60 63 (v := .null) d9_60 rfl (host := "") (Or.inl (hw _ (mi 22 rfl))) Via.refl F28 F29 (Or.inl (hw _ (mi 23 rfl))) (hw _ (mi 9 rfl)) (ty := (.array .byte)) (by decide) rfl rfl (Ls := #[vr a, vi x0, vi (gs z.toInt.toNat), vr a17, vi i9]) (rest := [])
  have F27 : Fld Z h27 a "com/example/micro_ranker/microranker/engine/Texts" "narrow" "[B" .null := Fld.same W27 F28
  refine c27 ?_
  have F30 := (Fld.other W27 F24 (Or.inr (sn0 hw)))
  have F31 := (Fld.other W27 (Fld.other W24 ((Fld.ext E17 G_starts).keep K9 (ninS (Nat.ne_of_lt lt18) nin0)) (Or.inr (sn2 hw))) (Or.inr (sn1 hw)))
  have F32 := (Fld.other W27 (Fld.other W24 ((Fld.ext E17 G_size).keep K9 (ninS (Nat.ne_of_lt lt18) nin0)) (Or.inr (sn4 hw))) (Or.inr (sn3 hw)))
  have F33 := ((A9.other W24 (Ne.symm (Nat.ne_of_lt lt18))).other W27 (Ne.symm (Nat.ne_of_lt lt18)))
  have KT34 := (((((Keep.refl h0 [a]).ext E17).trans K9 (allS (Or.inr y17) all0)).wr W24 (Or.inl (mi 0 rfl))).wr W27 (Or.inl (mi 0 rfl)))
  exact o_retV B27 63 d9_63 hret hlk (by decide) (by decide) ⟨rfl, N27, KT34, a17, g17, y17, F27, F30, F31, F32, F33⟩
theorem own_s6 {s x : Int32} (hs : W4 s) (hx : W4 x) : 0 ≤ (s + x).toInt ∧ (s + x).toInt ≤ 6 := by
  have e := own_sum hs hx
  unfold W4 at hs hx
  omega
theorem d6_0 : decode prog_60_method_6_code 0 = .ok (.aload_n 0, 1) := by decide +kernel
theorem d6_1 : decode prog_60_method_6_code 1 = .ok (.getfield 22, 3) := by decide +kernel
theorem d6_4 : decode prog_60_method_6_code 4 = .ok (.aload_n 0, 1) := by decide +kernel
theorem d6_5 : decode prog_60_method_6_code 5 = .ok (.getfield 26, 3) := by decide +kernel
theorem d6_8 : decode prog_60_method_6_code 8 = .ok (.iaload, 1) := by decide +kernel
theorem d6_9 : decode prog_60_method_6_code 9 = .ok (.istore_n 3, 1) := by decide +kernel
theorem d6_10 : decode prog_60_method_6_code 10 = .ok (.aload_n 0, 1) := by decide +kernel
theorem d6_11 : decode prog_60_method_6_code 11 = .ok (.getfield 26, 3) := by decide +kernel
theorem d6_14 : decode prog_60_method_6_code 14 = .ok (.iconst 2, 1) := by decide +kernel
theorem d6_15 : decode prog_60_method_6_code 15 = .ok (.iadd, 1) := by decide +kernel
theorem d6_16 : decode prog_60_method_6_code 16 = .ok (.aload_n 0, 1) := by decide +kernel
theorem d6_17 : decode prog_60_method_6_code 17 = .ok (.getfield 22, 3) := by decide +kernel
theorem d6_20 : decode prog_60_method_6_code 20 = .ok (.arraylength, 1) := by decide +kernel
theorem d6_21 : decode prog_60_method_6_code 21 = .ok (.if_icmp .le 28, 3) := by decide +kernel
theorem d6_24 : decode prog_60_method_6_code 24 = .ok (.aload_n 0, 1) := by decide +kernel
theorem d6_25 : decode prog_60_method_6_code 25 = .ok (.aload_n 0, 1) := by decide +kernel
theorem d6_26 : decode prog_60_method_6_code 26 = .ok (.getfield 22, 3) := by decide +kernel
theorem d6_29 : decode prog_60_method_6_code 29 = .ok (.aload_n 0, 1) := by decide +kernel
theorem d6_30 : decode prog_60_method_6_code 30 = .ok (.getfield 22, 3) := by decide +kernel
theorem d6_33 : decode prog_60_method_6_code 33 = .ok (.arraylength, 1) := by decide +kernel
theorem d6_34 : decode prog_60_method_6_code 34 = .ok (.aload_n 0, 1) := by decide +kernel
theorem d6_35 : decode prog_60_method_6_code 35 = .ok (.getfield 26, 3) := by decide +kernel
theorem d6_38 : decode prog_60_method_6_code 38 = .ok (.iconst 2, 1) := by decide +kernel
theorem d6_39 : decode prog_60_method_6_code 39 = .ok (.iadd, 1) := by decide +kernel
theorem d6_40 : decode prog_60_method_6_code 40 = .ok (.invokestatic 44, 3) := by decide +kernel
theorem d6_43 : decode prog_60_method_6_code 43 = .ok (.invokestatic 48, 3) := by decide +kernel
theorem d6_46 : decode prog_60_method_6_code 46 = .ok (.putfield 22, 3) := by decide +kernel
theorem d6_49 : decode prog_60_method_6_code 49 = .ok (.aload_n 0, 1) := by decide +kernel
theorem d6_50 : decode prog_60_method_6_code 50 = .ok (.getfield 14, 3) := by decide +kernel
theorem d6_53 : decode prog_60_method_6_code 53 = .ok (.ifnull 18, 3) := by decide +kernel
theorem d6_56 : decode prog_60_method_6_code 56 = .ok (.aload_n 1, 1) := by decide +kernel
theorem d6_57 : decode prog_60_method_6_code 57 = .ok (.iload_n 2, 1) := by decide +kernel
theorem d6_58 : decode prog_60_method_6_code 58 = .ok (.invokestatic 54, 3) := by decide +kernel
theorem d6_61 : decode prog_60_method_6_code 61 = .ok (.ifCond .ne 10, 3) := by decide +kernel
theorem d6_64 : decode prog_60_method_6_code 64 = .ok (.aload_n 0, 1) := by decide +kernel
theorem d6_65 : decode prog_60_method_6_code 65 = .ok (.iload_n 3, 1) := by decide +kernel
theorem d6_66 : decode prog_60_method_6_code 66 = .ok (.iload_n 2, 1) := by decide +kernel
theorem d6_67 : decode prog_60_method_6_code 67 = .ok (.iadd, 1) := by decide +kernel
theorem d6_68 : decode prog_60_method_6_code 68 = .ok (.invokevirtual 58, 3) := by decide +kernel
theorem d6_71 : decode prog_60_method_6_code 71 = .ok (.aload_n 0, 1) := by decide +kernel
theorem d6_72 : decode prog_60_method_6_code 72 = .ok (.getfield 14, 3) := by decide +kernel
theorem d6_75 : decode prog_60_method_6_code 75 = .ok (.ifnull 68, 3) := by decide +kernel
theorem d6_78 : decode prog_60_method_6_code 78 = .ok (.iload_n 2, 1) := by decide +kernel
theorem d6_79 : decode prog_60_method_6_code 79 = .ok (.aload_n 0, 1) := by decide +kernel
theorem d6_80 : decode prog_60_method_6_code 80 = .ok (.getfield 14, 3) := by decide +kernel
theorem d6_83 : decode prog_60_method_6_code 83 = .ok (.arraylength, 1) := by decide +kernel
theorem d6_84 : decode prog_60_method_6_code 84 = .ok (.iload_n 3, 1) := by decide +kernel
theorem d6_85 : decode prog_60_method_6_code 85 = .ok (.isub, 1) := by decide +kernel
theorem d6_86 : decode prog_60_method_6_code 86 = .ok (.if_icmp .le 25, 3) := by decide +kernel
theorem d6_89 : decode prog_60_method_6_code 89 = .ok (.aload_n 0, 1) := by decide +kernel
theorem d6_90 : decode prog_60_method_6_code 90 = .ok (.aload_n 0, 1) := by decide +kernel
theorem d6_91 : decode prog_60_method_6_code 91 = .ok (.getfield 14, 3) := by decide +kernel
theorem d6_94 : decode prog_60_method_6_code 94 = .ok (.aload_n 0, 1) := by decide +kernel
theorem d6_95 : decode prog_60_method_6_code 95 = .ok (.getfield 14, 3) := by decide +kernel
theorem d6_98 : decode prog_60_method_6_code 98 = .ok (.arraylength, 1) := by decide +kernel
theorem d6_99 : decode prog_60_method_6_code 99 = .ok (.iload_n 3, 1) := by decide +kernel
theorem d6_100 : decode prog_60_method_6_code 100 = .ok (.iload_n 2, 1) := by decide +kernel
theorem d6_101 : decode prog_60_method_6_code 101 = .ok (.iadd, 1) := by decide +kernel
theorem d6_102 : decode prog_60_method_6_code 102 = .ok (.invokestatic 44, 3) := by decide +kernel
theorem d6_105 : decode prog_60_method_6_code 105 = .ok (.invokestatic 62, 3) := by decide +kernel
theorem d6_108 : decode prog_60_method_6_code 108 = .ok (.putfield 14, 3) := by decide +kernel
theorem d6_111 : decode prog_60_method_6_code 111 = .ok (.iconst 0, 1) := by decide +kernel
theorem d6_112 : decode prog_60_method_6_code 112 = .ok (.istore 4, 2) := by decide +kernel
theorem d6_114 : decode prog_60_method_6_code 114 = .ok (.iload 4, 2) := by decide +kernel
theorem d6_116 : decode prog_60_method_6_code 116 = .ok (.iload_n 2, 1) := by decide +kernel
theorem d6_117 : decode prog_60_method_6_code 117 = .ok (.if_icmp .ge 23, 3) := by decide +kernel
theorem d6_120 : decode prog_60_method_6_code 120 = .ok (.aload_n 0, 1) := by decide +kernel
theorem d6_121 : decode prog_60_method_6_code 121 = .ok (.getfield 14, 3) := by decide +kernel
theorem d6_124 : decode prog_60_method_6_code 124 = .ok (.iload_n 3, 1) := by decide +kernel
theorem d6_125 : decode prog_60_method_6_code 125 = .ok (.iload 4, 2) := by decide +kernel
theorem d6_127 : decode prog_60_method_6_code 127 = .ok (.iadd, 1) := by decide +kernel
theorem d6_128 : decode prog_60_method_6_code 128 = .ok (.aload_n 1, 1) := by decide +kernel
theorem d6_129 : decode prog_60_method_6_code 129 = .ok (.iload 4, 2) := by decide +kernel
theorem d6_131 : decode prog_60_method_6_code 131 = .ok (.caload, 1) := by decide +kernel
theorem d6_132 : decode prog_60_method_6_code 132 = .ok (.i2b, 1) := by decide +kernel
theorem d6_133 : decode prog_60_method_6_code 133 = .ok (.bastore, 1) := by decide +kernel
theorem d6_134 : decode prog_60_method_6_code 134 = .ok (.iinc 4 1, 3) := by decide +kernel
theorem d6_137 : decode prog_60_method_6_code 137 = .ok (.goto (-23), 3) := by decide +kernel
theorem d6_140 : decode prog_60_method_6_code 140 = .ok (.goto 47, 3) := by decide +kernel
theorem d6_143 : decode prog_60_method_6_code 143 = .ok (.iload_n 2, 1) := by decide +kernel
theorem d6_144 : decode prog_60_method_6_code 144 = .ok (.aload_n 0, 1) := by decide +kernel
theorem d6_145 : decode prog_60_method_6_code 145 = .ok (.getfield 18, 3) := by decide +kernel
theorem d6_148 : decode prog_60_method_6_code 148 = .ok (.arraylength, 1) := by decide +kernel
theorem d6_149 : decode prog_60_method_6_code 149 = .ok (.iload_n 3, 1) := by decide +kernel
theorem d6_150 : decode prog_60_method_6_code 150 = .ok (.isub, 1) := by decide +kernel
theorem d6_151 : decode prog_60_method_6_code 151 = .ok (.if_icmp .le 25, 3) := by decide +kernel
theorem d6_154 : decode prog_60_method_6_code 154 = .ok (.aload_n 0, 1) := by decide +kernel
theorem d6_155 : decode prog_60_method_6_code 155 = .ok (.aload_n 0, 1) := by decide +kernel
theorem d6_156 : decode prog_60_method_6_code 156 = .ok (.getfield 18, 3) := by decide +kernel
theorem d6_159 : decode prog_60_method_6_code 159 = .ok (.aload_n 0, 1) := by decide +kernel
theorem d6_160 : decode prog_60_method_6_code 160 = .ok (.getfield 18, 3) := by decide +kernel
theorem d6_163 : decode prog_60_method_6_code 163 = .ok (.arraylength, 1) := by decide +kernel
theorem d6_164 : decode prog_60_method_6_code 164 = .ok (.iload_n 3, 1) := by decide +kernel
theorem d6_165 : decode prog_60_method_6_code 165 = .ok (.iload_n 2, 1) := by decide +kernel
theorem d6_166 : decode prog_60_method_6_code 166 = .ok (.iadd, 1) := by decide +kernel
theorem d6_167 : decode prog_60_method_6_code 167 = .ok (.invokestatic 44, 3) := by decide +kernel
theorem d6_170 : decode prog_60_method_6_code 170 = .ok (.invokestatic 65, 3) := by decide +kernel
theorem d6_173 : decode prog_60_method_6_code 173 = .ok (.putfield 18, 3) := by decide +kernel
theorem d6_176 : decode prog_60_method_6_code 176 = .ok (.aload_n 1, 1) := by decide +kernel
theorem d6_177 : decode prog_60_method_6_code 177 = .ok (.iconst 0, 1) := by decide +kernel
theorem d6_178 : decode prog_60_method_6_code 178 = .ok (.aload_n 0, 1) := by decide +kernel
theorem d6_179 : decode prog_60_method_6_code 179 = .ok (.getfield 18, 3) := by decide +kernel
theorem d6_182 : decode prog_60_method_6_code 182 = .ok (.iload_n 3, 1) := by decide +kernel
theorem d6_183 : decode prog_60_method_6_code 183 = .ok (.iload_n 2, 1) := by decide +kernel
theorem d6_184 : decode prog_60_method_6_code 184 = .ok (.invokestatic 68, 3) := by decide +kernel
theorem d6_187 : decode prog_60_method_6_code 187 = .ok (.aload_n 0, 1) := by decide +kernel
theorem d6_188 : decode prog_60_method_6_code 188 = .ok (.getfield 22, 3) := by decide +kernel
theorem d6_191 : decode prog_60_method_6_code 191 = .ok (.aload_n 0, 1) := by decide +kernel
theorem d6_192 : decode prog_60_method_6_code 192 = .ok (.getfield 26, 3) := by decide +kernel
theorem d6_195 : decode prog_60_method_6_code 195 = .ok (.iconst 1, 1) := by decide +kernel
theorem d6_196 : decode prog_60_method_6_code 196 = .ok (.iadd, 1) := by decide +kernel
theorem d6_197 : decode prog_60_method_6_code 197 = .ok (.iload_n 3, 1) := by decide +kernel
theorem d6_198 : decode prog_60_method_6_code 198 = .ok (.iload_n 2, 1) := by decide +kernel
theorem d6_199 : decode prog_60_method_6_code 199 = .ok (.iadd, 1) := by decide +kernel
theorem d6_200 : decode prog_60_method_6_code 200 = .ok (.iastore, 1) := by decide +kernel
theorem d6_201 : decode prog_60_method_6_code 201 = .ok (.aload_n 0, 1) := by decide +kernel
theorem d6_202 : decode prog_60_method_6_code 202 = .ok (.dup, 1) := by decide +kernel
theorem d6_203 : decode prog_60_method_6_code 203 = .ok (.getfield 26, 3) := by decide +kernel
theorem d6_206 : decode prog_60_method_6_code 206 = .ok (.dup_x1, 1) := by decide +kernel
theorem d6_207 : decode prog_60_method_6_code 207 = .ok (.iconst 1, 1) := by decide +kernel
theorem d6_208 : decode prog_60_method_6_code 208 = .ok (.iadd, 1) := by decide +kernel
theorem d6_209 : decode prog_60_method_6_code 209 = .ok (.putfield 26, 3) := by decide +kernel
theorem d6_212 : decode prog_60_method_6_code 212 = .ok (.ireturn, 1) := by decide +kernel
theorem own_si (s : Int32) (i : Nat) (hs : s.toInt = (s.toInt.toNat : Nat) ∧ s.toInt.toNat ≤ 3) (hi : i < 10) : (s + Int32.ofNat i).toInt = (s.toInt.toNat + i : Nat) := by
  have a := c_iadd s (Int32.ofNat i)
  have ra := rng32 (s + Int32.ofNat i)
  rw [own_on i (by omega)] at a
  omega
def w6s_1 (gn gc : Nat → Int32) (x1 sl : Int32) (i : Nat) : Nat → Int32 := fun j => if j = (sl.toInt.toNat + i) then (gc i).toInt8.toInt32 else (own_nn gn gc sl.toInt.toNat i) j
set_option maxRecDepth 65536 in
set_option maxHeartbeats 400000000 in
theorem lpN {p : Program} {l : Launch} {e : Env} {R : Room} {s : State} {m : MethodId} {args : Array Value} {below : List Frame} {meth : Method} {c : Code} {Z : State} {cells slots n0 : Nat} {P : Outcome → State → Prop} (a0 : Array Value) (hw : ∀ d ∈ tables_1, d.before a0 Z = true) (a x0 yn : Addr) (x1 sl : Int32) (gn gc : Nat → Int32) (gw : n0 ≤ yn) (q1 : a ≠ yn) (q2 : x0 ≠ yn) (hs : sl.toInt = (sl.toInt.toNat : Nat) ∧ sl.toInt.toNat ≤ 3) (hl : x1.toInt = (x1.toInt.toNat : Nat) ∧ x1.toInt.toNat ≤ 3) : ∀ (k i : Nat) (T : State) (h : Heap) (locs : List Loc),
    i + k = x1.toInt.toNat → Bx "com/example/micro_ranker/microranker/engine/Texts" prog_60_method_6_code 5 Z p l e R s m args below meth c T h locs cells slots → Fr n0 locs → n0 ≤ h.size → Exa Z h a "com/example/micro_ranker/microranker/engine/Texts" → Fld Z h a "com/example/micro_ranker/microranker/engine/Texts" "narrow" "[B" (.ref yn) → AI Z h x0 .char 4 gc → AI Z h yn .byte 4096 (own_nn gn gc sl.toInt.toNat i) →
    (∀ (T' : State) (h' : Heap) (locs' : List Loc) (i' : Int32), Bx "com/example/micro_ranker/microranker/engine/Texts" prog_60_method_6_code 5 Z p l e R s m args below meth c T' h' locs' cells slots → Fr n0 locs' → Keep h h' [yn] → AI Z h' yn .byte 4096 (own_nn gn gc sl.toInt.toNat x1.toInt.toNat) → OG p.tables e below P (T'.setTop (mkF m 140 #[vr a, vr x0, vi x1, vi sl, vi i'] []))) →
    OG p.tables e below P (T.setTop (mkF m 114 #[vr a, vr x0, vi x1, vi sl, vi (Int32.ofNat i)] [])) := by
  intro k
  induction k with
  | zero =>
    intro i T h locs hg B N hz hE G_n A_c A_n cont
    refine o_iload B 114 116 (v := (Int32.ofNat i)) d6_114 rfl rfl ?_
    refine o_iloadN B 116 117 (v := x1) d6_116 rfl rfl ?_
    refine o_icY B 117 140 d6_117 (XT.ii_ge_t (by rw [Int32.lt_iff_toInt_lt, own_on i (by omega)]; omega)) (by decide) (by decide) ?_
    exact cont T h locs (Int32.ofNat i) B N (Keep.refl _ _) (by have q := A_n; rw [show i = x1.toInt.toNat by omega] at q; exact q)
  | succ k ih =>
    intro i T h locs hg B N hz hE G_n A_c A_n cont
    have hi := ix_of (own_on i (by omega))
    have hj := ix_of (own_si sl i hs (by omega))
    refine o_iload B 114 116 (v := (Int32.ofNat i)) d6_114 rfl rfl ?_
    refine o_iloadN B 116 117 (v := x1) d6_116 rfl rfl ?_
    refine o_icN B 117 120 d6_117 rfl (XT.ii_ge_f (by rw [Int32.lt_iff_toInt_lt, own_on i (by omega)]; omega)) ?_
    refine o_aloadN B 120 121 (v := (.ref a)) d6_120 rfl rfl rfl ?_
    obtain ⟨T1, B1, c1⟩ := o_getfield B 121 124 d6_121 rfl (host := "") (Or.inl (hw _ (mi 22 rfl))) Via.refl G_n (Ls := #[vr a, vr x0, vi x1, vi sl, vi (Int32.ofNat i)]) (rest := [])
    refine c1 ?_
    refine o_iloadN B1 124 125 (v := sl) d6_124 rfl rfl ?_
    refine o_iload B1 125 127 (v := (Int32.ofNat i)) d6_125 rfl rfl ?_
    refine o_iadd B1 127 128 d6_127 rfl ?_
    refine o_aloadN B1 128 129 (v := (.ref x0)) d6_128 rfl rfl rfl ?_
    refine o_iload B1 129 131 (v := (Int32.ofNat i)) d6_129 rfl rfl ?_
    refine o_caload B1 131 132 A_c i (gc i) d6_131 rfl hi.1 hi.2 (by omega) rfl ?_
    refine o_i2b B1 132 133 d6_132 rfl ?_
    obtain ⟨T3, h3, L3, B3, N3, W3, Q3, c3⟩ := o_bastore B1 N gw 133 134 A_n (j := (sl + (Int32.ofNat i))) (x := (gc i).toInt8.toInt32) (sl.toInt.toNat + i) (gc i).toInt8.toInt32 d6_133 rfl hj.1 hj.2 (by omega) (nar_bb _) (Ls := #[vr a, vr x0, vi x1, vi sl, vi (Int32.ofNat i)]) (rest := [])
    have A3 : AI Z h3 yn .byte 4096 (w6s_1 gn gc x1 sl i) := Q3
    refine c3 ?_
    refine o_iincC B3 134 137 (l' := #[vr a, vr x0, vi x1, vi sl, vi (Int32.ofNat (i + 1))]) (1 : Int32) (Int32.ofNat (i + 1)) d6_134 rfl (by decide) rfl (own_inc i) rfl ?_
    refine o_goto B3 137 114 d6_137 (by decide) (by decide) ?_
    have R_n : AI Z h3 yn .byte 4096 (own_nn gn gc sl.toInt.toNat (i + 1)) := A3.alt (fun j hj => own_nnS gn gc _ i j)
    have F4 := (Exa.wr W3 hE)
    have F5 := (Fld.other W3 G_n (Or.inl q1))
    have F6 := (A_c.other W3 q2)
    exact ih (i + 1) _ _ _ (by omega) B3 N3 (Nat.le_trans hz ((Keep.refl h [yn]).wr W3 (Or.inl (mi 0 rfl))).1) F4 F5 F6 R_n (fun T2 h2 L2 i2 B2 N2 K2 A2 => cont T2 h2 L2 i2 B2 N2 (Keep.trans ((Keep.refl h [yn]).wr W3 (Or.inl (mi 0 rfl))) K2 (allS (Or.inl (mi 0 rfl)) all0)) A2)
def own_sp (gs : Nat → Int32) (z x1 : Int32) : Nat → Int32 := fun j => if j = z.toInt.toNat + 1 then gs z.toInt.toNat + x1 else gs j
theorem own_fc (x : Int32) : fits .char (.int (own_cb x)) = true := own_fit _
theorem own_fu (n : Nat) (gn : Nat → Int32) : ∀ j, j < 8192 → fits .char (.int (UpI n (fun j => own_cb (gn j)) j)) = true := by
  intro j _
  unfold UpI
  split
  · exact own_fc _
  · rfl
theorem pl6 : plainFor (⟨"com/example/micro_ranker/microranker/engine/Texts", "add", "([CI)I"⟩ : MethodName) = true := by first | exact plainFor_of_name (by first | (simp [plainName, overriddenIn]; done) | decide +kernel) | decide +kernel
theorem pd___CI_Z : parseMethodDescriptor "([CI)Z" = some ⟨[(.array .char), .int], some .boolean⟩ := by decide +kernel
def w6_NN_1 (gn gs gc : Nat → Int32) (z x1 : Int32) : Nat → Int32 := fun j => if j = (z.toInt.toNat + 1) then ((gs z.toInt.toNat) + x1) else gs j
def Q6_NN (Z : State) (a : Addr) (x0 : Addr) (yn : Addr) (ys : Addr) (gn : Nat → Int32) (gs : Nat → Int32) (gc : Nat → Int32) (z : Int32) (x1 : Int32) (h0 : Heap) (n0 : Nat) (v : Option Value) (h : Heap) (L : List Loc) : Prop := v = some (.int z) ∧ Fr n0 L ∧ Keep h0 h [a, yn, ys] ∧ Fld Z h a "com/example/micro_ranker/microranker/engine/Texts" "narrow" "[B" (.ref yn) ∧ Fld Z h a "com/example/micro_ranker/microranker/engine/Texts" "characters" "[C" .null ∧ Fld Z h a "com/example/micro_ranker/microranker/engine/Texts" "starts" "[I" (.ref ys) ∧ Fld Z h a "com/example/micro_ranker/microranker/engine/Texts" "size" "I" (.int (z + 1)) ∧ AI Z h yn .byte 4096 (own_nn gn gc (gs z.toInt.toNat).toInt.toNat x1.toInt.toNat) ∧ AI Z h ys .int 512 (own_sp gs z x1)
set_option maxRecDepth 65536 in
set_option maxHeartbeats 400000000 in
theorem rm6_NN (l : Launch) (Z : State) (a0 : Array Value) (hw : ∀ d ∈ tables_1, d.before a0 Z = true) (a : Addr) (x0 : Addr) (yn : Addr) (ys : Addr) (gn : Nat → Int32) (gs : Nat → Int32) (gc : Nat → Int32) (z : Int32) (x1 : Int32) (h0 : Heap) (n0 : Nat) (hz : n0 ≤ h0.size) (ge_a : n0 ≤ a) (ge_yn : n0 ≤ yn) (ge_ys : n0 ≤ ys) (hE : Exa Z h0 a "com/example/micro_ranker/microranker/engine/Texts") (G_narrow : Fld Z h0 a "com/example/micro_ranker/microranker/engine/Texts" "narrow" "[B" (.ref yn)) (G_characters : Fld Z h0 a "com/example/micro_ranker/microranker/engine/Texts" "characters" "[C" .null) (G_starts : Fld Z h0 a "com/example/micro_ranker/microranker/engine/Texts" "starts" "[I" (.ref ys)) (G_size : Fld Z h0 a "com/example/micro_ranker/microranker/engine/Texts" "size" "I" (.int z)) (A_yn : AI Z h0 yn .byte 4096 gn) (A_ys : AI Z h0 ys .int 512 gs) (A_x0 : AI Z h0 x0 .char 4 gc) (ne_a_yn : a ≠ yn) (ne_a_ys : a ≠ ys) (ne_a_x0 : a ≠ x0) (ne_yn_ys : yn ≠ ys) (ne_x0_yn : x0 ≠ yn) (ne_x0_ys : x0 ≠ ys) (hs : Hs z gs x1) (hn : ¬ f7 gc x1 = 0) :
    Met l Z (⟨"com/example/micro_ranker/microranker/engine/Texts", "add", "([CI)I"⟩ : MethodName) prog_60_method_6_code 5 (some .int) ({ frames := 1, cells := 0, slots := 0, locals := 14 } : Room) #[(.ref a), (.ref x0), (.int x1)] h0 (Q6_NN Z a x0 yn ys gn gs gc z x1 h0 n0) := by
  refine enter pl6 #[vr a, vr x0, vi x1, us, us] rfl ?_
  intro p e s m below meth c T B hret hlk hnm
  have N0 := Fr.nil n0
  have hzi := ix_of (own_z hs.1).1
  have hzj := ix_of (own_z hs.1).2.2.1
  refine o_aloadN B 0 1 (v := (.ref a)) d6_0 rfl rfl rfl ?_
  obtain ⟨T11, B11, c11⟩ := o_getfield B 1 4 d6_1 rfl (host := "") (Or.inl (hw _ (mi 26 rfl))) Via.refl G_starts (Ls := #[vr a, vr x0, vi x1, us, us]) (rest := [])
  refine c11 ?_
  refine o_aloadN B11 4 5 (v := (.ref a)) d6_4 rfl rfl rfl ?_
  obtain ⟨T12, B12, c12⟩ := o_getfield B11 5 8 d6_5 rfl (host := "") (Or.inl (hw _ (mi 28 rfl))) Via.refl G_size (Ls := #[vr a, vr x0, vi x1, us, us]) (rest := [(.ref ys)])
  refine c12 ?_
  refine o_iaload B12 8 9 A_ys z.toInt.toNat (gs z.toInt.toNat) d6_8 rfl hzi.1 hzi.2 (own_z hs.1).2.1 rfl ?_
  refine o_istoreN B12 9 10 (l' := #[vr a, vr x0, vi x1, vi (gs z.toInt.toNat), us]) d6_9 rfl rfl ?_
  refine o_aloadN B12 10 11 (v := (.ref a)) d6_10 rfl rfl rfl ?_
  obtain ⟨T14, B14, c14⟩ := o_getfield B12 11 14 d6_11 rfl (host := "") (Or.inl (hw _ (mi 28 rfl))) Via.refl G_size (Ls := #[vr a, vr x0, vi x1, vi (gs z.toInt.toNat), us]) (rest := [])
  refine c14 ?_
  refine o_iconst B14 14 15 (2 : Int32) d6_14 rfl (by decide) ?_
  refine o_iadd B14 15 16 d6_15 rfl ?_
  refine o_aloadN B14 16 17 (v := (.ref a)) d6_16 rfl rfl rfl ?_
  obtain ⟨T15, B15, c15⟩ := o_getfield B14 17 20 d6_17 rfl (host := "") (Or.inl (hw _ (mi 26 rfl))) Via.refl G_starts (Ls := #[vr a, vr x0, vi x1, vi (gs z.toInt.toNat), us]) (rest := [(.int (z + (2 : Int32)))])
  refine c15 ?_
  refine o_alenI B15 20 21 A_ys (512 : Int32) d6_20 rfl (by decide) ?_
  refine o_icY B15 21 49 d6_21 (XT.ii_le_t (own_z hs.1).2.2.2.2) (by decide) (by decide) ?_
  refine o_aloadN B15 49 50 (v := (.ref a)) d6_49 rfl rfl rfl ?_
  obtain ⟨T17, B17, c17⟩ := o_getfield B15 50 53 d6_50 rfl (host := "") (Or.inl (hw _ (mi 22 rfl))) Via.refl G_narrow (Ls := #[vr a, vr x0, vi x1, vi (gs z.toInt.toNat), us]) (rest := [])
  refine c17 ?_
  refine o_nuN B17 53 56 d6_53 rfl ?_
  refine o_aloadN B17 56 57 (v := (.ref x0)) d6_56 rfl rfl rfl ?_
  refine o_iloadN B17 57 58 (v := x1) d6_57 rfl rfl ?_
  obtain ⟨T18, B18, c18⟩ := o_callP B17 58 61 d6_58 rfl (hw _ (mi 35 rfl)) (hw _ (mi 36 rfl)) (hw _ (mi 10 rfl)) (hw _ (mi 37 rfl)) (by decide) (rm7 l Z a0 hw gc x0 x1 h0 A_x0 hs.2.2) 0 [(.ref x0), (.int x1)] [] pd___CI_Z rfl rfl (st := [(.int x1), (.ref x0)]) rfl (Ls := #[vr a, vr x0, vi x1, vi (gs z.toInt.toNat), us]) rfl (Nat.le_of_eq rfl) (by decide) (by decide) (by decide) (by decide)
  refine c18 ?_
  refine o_ifY B18 61 71 d6_61 (XT.i0_ne_t hn) (by decide) (by decide) ?_
  refine o_aloadN B18 71 72 (v := (.ref a)) d6_71 rfl rfl rfl ?_
  obtain ⟨T19, B19, c19⟩ := o_getfield B18 72 75 d6_72 rfl (host := "") (Or.inl (hw _ (mi 22 rfl))) Via.refl G_narrow (Ls := #[vr a, vr x0, vi x1, vi (gs z.toInt.toNat), us]) (rest := [])
  refine c19 ?_
  refine o_nuN B19 75 78 d6_75 rfl ?_
  refine o_iloadN B19 78 79 (v := x1) d6_78 rfl rfl ?_
  refine o_aloadN B19 79 80 (v := (.ref a)) d6_79 rfl rfl rfl ?_
  obtain ⟨T20, B20, c20⟩ := o_getfield B19 80 83 d6_80 rfl (host := "") (Or.inl (hw _ (mi 22 rfl))) Via.refl G_narrow (Ls := #[vr a, vr x0, vi x1, vi (gs z.toInt.toNat), us]) (rest := [(.int x1)])
  refine c20 ?_
  refine o_alenI B20 83 84 A_yn (4096 : Int32) d6_83 rfl (by decide) ?_
  refine o_iloadN B20 84 85 (v := (gs z.toInt.toNat)) d6_84 rfl rfl ?_
  refine o_isub B20 85 86 d6_85 rfl ?_
  refine o_icY B20 86 111 d6_86 (XT.ii_le_t (own_room 4096 (by decide) (by decide) hs.2.1 hs.2.2)) (by decide) (by decide) ?_
  refine o_iconst B20 111 112 (0 : Int32) d6_111 rfl (by decide) ?_
  refine o_istore B20 112 114 (l' := #[vr a, vr x0, vi x1, vi (gs z.toInt.toNat), vi 0]) d6_112 rfl rfl ?_
  refine lpN a0 hw a x0 yn x1 (gs z.toInt.toNat) gn gc ge_yn ne_a_yn ne_x0_yn (own_w4n hs.2.1) (own_w4n hs.2.2) x1.toInt.toNat 0 _ _ _ (Nat.zero_add _) B20 N0 hz hE G_narrow A_x0 (A_yn.alt (fun j _ => if_neg (by omega))) (fun T9 h9 L9 i9 B9 N9 K9 A9 => ?_)
  have z9 : n0 ≤ h9.size := Nat.le_trans hz K9.1
  refine o_goto B9 140 187 d6_140 (by decide) (by decide) ?_
  refine o_aloadN B9 187 188 (v := (.ref a)) d6_187 rfl rfl rfl ?_
  have F23 := (G_starts.keep K9 (ninS ne_a_yn nin0))
  obtain ⟨T22, B22, c22⟩ := o_getfield B9 188 191 d6_188 rfl (host := "") (Or.inl (hw _ (mi 26 rfl))) Via.refl F23 (Ls := #[vr a, vr x0, vi x1, vi (gs z.toInt.toNat), vi i9]) (rest := [])
  refine c22 ?_
  refine o_aloadN B22 191 192 (v := (.ref a)) d6_191 rfl rfl rfl ?_
  have F25 := (G_size.keep K9 (ninS ne_a_yn nin0))
  obtain ⟨T24, B24, c24⟩ := o_getfield B22 192 195 d6_192 rfl (host := "") (Or.inl (hw _ (mi 28 rfl))) Via.refl F25 (Ls := #[vr a, vr x0, vi x1, vi (gs z.toInt.toNat), vi i9]) (rest := [(.ref ys)])
  refine c24 ?_
  refine o_iconst B24 195 196 (1 : Int32) d6_195 rfl (by decide) ?_
  refine o_iadd B24 196 197 d6_196 rfl ?_
  refine o_iloadN B24 197 198 (v := (gs z.toInt.toNat)) d6_197 rfl rfl ?_
  refine o_iloadN B24 198 199 (v := x1) d6_198 rfl rfl ?_
  refine o_iadd B24 199 200 d6_199 rfl ?_
  have F27 := (A_ys.keep K9 (ninS (Ne.symm ne_yn_ys) nin0))
  obtain ⟨T26, h26, L26, B26, N26, W26, Q26, c26⟩ := o_iastore B24 N9 ge_ys 200 201 F27 (j := (z + (1 : Int32))) (x := ((gs z.toInt.toNat) + x1)) (z.toInt.toNat + 1) ((gs z.toInt.toNat) + x1) d6_200 rfl hzj.1 hzj.2 (own_z hs.1).2.2.2.1 rfl (Ls := #[vr a, vr x0, vi x1, vi (gs z.toInt.toNat), vi i9]) (rest := [])
  have A26 : AI Z h26 ys .int 512 (w6_NN_1 gn gs gc z x1) := Q26
  refine c26 ?_
  refine o_aloadN B26 201 202 (v := (.ref a)) d6_201 rfl rfl rfl ?_
  refine o_dup B26 202 203 d6_202 rfl rfl ?_
  have F29 := (Fld.other W26 F25 (Or.inl ne_a_ys))
  obtain ⟨T28, B28, c28⟩ := o_getfield B26 203 206 d6_203 rfl (host := "") (Or.inl (hw _ (mi 28 rfl))) Via.refl F29 (Ls := #[vr a, vr x0, vi x1, vi (gs z.toInt.toNat), vi i9]) (rest := [(.ref a)])
  refine c28 ?_
  refine o_dup_x1 B28 206 207 d6_206 rfl rfl rfl ?_
  refine o_iconst B28 207 208 (1 : Int32) d6_207 rfl (by decide) ?_
  refine o_iadd B28 208 209 d6_208 rfl ?_
  have F31 := (Exa.wr W26 (hE.keep K9))
  obtain ⟨T30, h30, L30, B30, N30, W30, c30⟩ := o_putfield B28 N26 ge_a 209 212 (v := (.int (z + (1 : Int32)))) d6_209 rfl (host := "") (Or.inl (hw _ (mi 28 rfl))) Via.refl F29 F31 (Or.inl (hw _ (mi 29 rfl))) (hw _ (mi 9 rfl)) (ty := .int) (by decide) rfl rfl (Ls := #[vr a, vr x0, vi x1, vi (gs z.toInt.toNat), vi i9]) (rest := [(.int z)])
  have F30 : Fld Z h30 a "com/example/micro_ranker/microranker/engine/Texts" "size" "I" (.int (z + (1 : Int32))) := Fld.same W30 F29
  refine c30 ?_
  have F32 := (Fld.other W30 (Fld.other W26 (G_narrow.keep K9 (ninS ne_a_yn nin0)) (Or.inl ne_a_ys)) (Or.inr (sn8 hw)))
  have F33 := (Fld.other W30 (Fld.other W26 (G_characters.keep K9 (ninS ne_a_yn nin0)) (Or.inl ne_a_ys)) (Or.inr (sn10 hw)))
  have F34 := (Fld.other W30 (Fld.other W26 F23 (Or.inl ne_a_ys)) (Or.inr (sn11 hw)))
  have F35 := ((A9.other W26 ne_yn_ys).other W30 (Ne.symm ne_a_yn))
  have F36 := (A26.other W30 (Ne.symm ne_a_ys))
  have KT37 := ((((Keep.refl h0 [a, yn, ys]).trans K9 (allS (Or.inl (mi 1 rfl)) all0)).wr W26 (Or.inl (mi 2 rfl))).wr W30 (Or.inl (mi 0 rfl)))
  exact o_retI B30 212 d6_212 hret hlk (by decide) (by decide) ⟨rfl, N30, KT37, F32, F33, F34, F30, F35, F36⟩
theorem pd__I_V : parseMethodDescriptor "(I)V" = some ⟨[.int], none⟩ := by decide +kernel
def w6_NW_1 (gn gs gc : Nat → Int32) (z x1 : Int32) : Nat → Int32 := fun j => if j = (z.toInt.toNat + 1) then ((gs z.toInt.toNat) + x1) else gs j
def Q6_NW (Z : State) (a : Addr) (x0 : Addr) (yn : Addr) (ys : Addr) (gn : Nat → Int32) (gs : Nat → Int32) (gc : Nat → Int32) (z : Int32) (x1 : Int32) (h0 : Heap) (n0 : Nat) (v : Option Value) (h : Heap) (L : List Loc) : Prop := v = some (.int z) ∧ Fr n0 L ∧ Keep h0 h [a, ys] ∧ ∃ b : Addr, n0 ≤ b ∧ h0.size ≤ b ∧ Fld Z h a "com/example/micro_ranker/microranker/engine/Texts" "narrow" "[B" .null ∧ Fld Z h a "com/example/micro_ranker/microranker/engine/Texts" "characters" "[C" (.ref b) ∧ Fld Z h a "com/example/micro_ranker/microranker/engine/Texts" "starts" "[I" (.ref ys) ∧ Fld Z h a "com/example/micro_ranker/microranker/engine/Texts" "size" "I" (.int (z + 1)) ∧ AI Z h b .char 8192 (own_cc (UpI (gs z.toInt.toNat).toInt.toNat (fun j => own_cb (gn j))) gc (gs z.toInt.toNat).toInt.toNat x1.toInt.toNat) ∧ AI Z h ys .int 512 (own_sp gs z x1)
set_option maxRecDepth 65536 in
set_option maxHeartbeats 400000000 in
theorem rm6_NW (l : Launch) (Z : State) (a0 : Array Value) (hw : ∀ d ∈ tables_1, d.before a0 Z = true) (a : Addr) (x0 : Addr) (yn : Addr) (ys : Addr) (gn : Nat → Int32) (gs : Nat → Int32) (gc : Nat → Int32) (z : Int32) (x1 : Int32) (h0 : Heap) (n0 : Nat) (hz : n0 ≤ h0.size) (ge_a : n0 ≤ a) (ge_ys : n0 ≤ ys) (hE : Exa Z h0 a "com/example/micro_ranker/microranker/engine/Texts") (G_narrow : Fld Z h0 a "com/example/micro_ranker/microranker/engine/Texts" "narrow" "[B" (.ref yn)) (G_characters : Fld Z h0 a "com/example/micro_ranker/microranker/engine/Texts" "characters" "[C" .null) (G_starts : Fld Z h0 a "com/example/micro_ranker/microranker/engine/Texts" "starts" "[I" (.ref ys)) (G_size : Fld Z h0 a "com/example/micro_ranker/microranker/engine/Texts" "size" "I" (.int z)) (A_yn : AI Z h0 yn .byte 4096 gn) (A_ys : AI Z h0 ys .int 512 gs) (A_x0 : AI Z h0 x0 .char 4 gc) (ne_a_yn : a ≠ yn) (ne_a_ys : a ≠ ys) (ne_a_x0 : a ≠ x0) (ne_yn_ys : yn ≠ ys) (ne_x0_yn : x0 ≠ yn) (ne_x0_ys : x0 ≠ ys) (hs : Hs z gs x1) (hfc : ∀ j, j < 4 → fits .char (.int (gc j)) = true) (hn : f7 gc x1 = 0) :
    Met l Z (⟨"com/example/micro_ranker/microranker/engine/Texts", "add", "([CI)I"⟩ : MethodName) prog_60_method_6_code 5 (some .int) ({ frames := 3, cells := 1, slots := 8192, locals := 46 } : Room) #[(.ref a), (.ref x0), (.int x1)] h0 (Q6_NW Z a x0 yn ys gn gs gc z x1 h0 n0) := by
  refine enter pl6 #[vr a, vr x0, vi x1, us, us] rfl ?_
  intro p e s m below meth c T B hret hlk hnm
  have N0 := Fr.nil n0
  have hzi := ix_of (own_z hs.1).1
  have hzj := ix_of (own_z hs.1).2.2.1
  refine o_aloadN B 0 1 (v := (.ref a)) d6_0 rfl rfl rfl ?_
  obtain ⟨T11, B11, c11⟩ := o_getfield B 1 4 d6_1 rfl (host := "") (Or.inl (hw _ (mi 26 rfl))) Via.refl G_starts (Ls := #[vr a, vr x0, vi x1, us, us]) (rest := [])
  refine c11 ?_
  refine o_aloadN B11 4 5 (v := (.ref a)) d6_4 rfl rfl rfl ?_
  obtain ⟨T12, B12, c12⟩ := o_getfield B11 5 8 d6_5 rfl (host := "") (Or.inl (hw _ (mi 28 rfl))) Via.refl G_size (Ls := #[vr a, vr x0, vi x1, us, us]) (rest := [(.ref ys)])
  refine c12 ?_
  refine o_iaload B12 8 9 A_ys z.toInt.toNat (gs z.toInt.toNat) d6_8 rfl hzi.1 hzi.2 (own_z hs.1).2.1 rfl ?_
  refine o_istoreN B12 9 10 (l' := #[vr a, vr x0, vi x1, vi (gs z.toInt.toNat), us]) d6_9 rfl rfl ?_
  refine o_aloadN B12 10 11 (v := (.ref a)) d6_10 rfl rfl rfl ?_
  obtain ⟨T14, B14, c14⟩ := o_getfield B12 11 14 d6_11 rfl (host := "") (Or.inl (hw _ (mi 28 rfl))) Via.refl G_size (Ls := #[vr a, vr x0, vi x1, vi (gs z.toInt.toNat), us]) (rest := [])
  refine c14 ?_
  refine o_iconst B14 14 15 (2 : Int32) d6_14 rfl (by decide) ?_
  refine o_iadd B14 15 16 d6_15 rfl ?_
  refine o_aloadN B14 16 17 (v := (.ref a)) d6_16 rfl rfl rfl ?_
  obtain ⟨T15, B15, c15⟩ := o_getfield B14 17 20 d6_17 rfl (host := "") (Or.inl (hw _ (mi 26 rfl))) Via.refl G_starts (Ls := #[vr a, vr x0, vi x1, vi (gs z.toInt.toNat), us]) (rest := [(.int (z + (2 : Int32)))])
  refine c15 ?_
  refine o_alenI B15 20 21 A_ys (512 : Int32) d6_20 rfl (by decide) ?_
  refine o_icY B15 21 49 d6_21 (XT.ii_le_t (own_z hs.1).2.2.2.2) (by decide) (by decide) ?_
  refine o_aloadN B15 49 50 (v := (.ref a)) d6_49 rfl rfl rfl ?_
  obtain ⟨T17, B17, c17⟩ := o_getfield B15 50 53 d6_50 rfl (host := "") (Or.inl (hw _ (mi 22 rfl))) Via.refl G_narrow (Ls := #[vr a, vr x0, vi x1, vi (gs z.toInt.toNat), us]) (rest := [])
  refine c17 ?_
  refine o_nuN B17 53 56 d6_53 rfl ?_
  refine o_aloadN B17 56 57 (v := (.ref x0)) d6_56 rfl rfl rfl ?_
  refine o_iloadN B17 57 58 (v := x1) d6_57 rfl rfl ?_
  obtain ⟨T18, B18, c18⟩ := o_callP B17 58 61 d6_58 rfl (hw _ (mi 35 rfl)) (hw _ (mi 36 rfl)) (hw _ (mi 10 rfl)) (hw _ (mi 37 rfl)) (by decide) (rm7 l Z a0 hw gc x0 x1 h0 A_x0 hs.2.2) 0 [(.ref x0), (.int x1)] [] pd___CI_Z rfl rfl (st := [(.int x1), (.ref x0)]) rfl (Ls := #[vr a, vr x0, vi x1, vi (gs z.toInt.toNat), us]) rfl (Nat.le_of_eq rfl) (by decide) (by decide) (by decide) (by decide)
  refine c18 ?_
  refine o_ifN B18 61 64 d6_61 rfl (XT.i0_ne_f hn) ?_
  refine o_aloadN B18 64 65 (v := (.ref a)) d6_64 rfl rfl rfl ?_
  refine o_iloadN B18 65 66 (v := (gs z.toInt.toNat)) d6_65 rfl rfl ?_
  refine o_iloadN B18 66 67 (v := x1) d6_66 rfl rfl ?_
  refine o_iadd B18 67 68 d6_67 rfl ?_
  obtain ⟨v19, T19, L19, B19, Q19, c19⟩ := o_callW B18 68 71 d6_68 rfl (hw _ (mi 43 rfl)) (hw _ (mi 45 rfl)) (hw _ (mi 9 rfl)) (hw _ (mi 44 rfl)) (hw _ (mi 10 rfl)) (hw _ (mi 46 rfl)) (by decide) hE (rm9 l Z a0 hw a yn ys gn gs z ((gs z.toInt.toNat) + x1) h0 n0 hz ge_a hE G_narrow G_characters G_starts G_size A_yn A_ys ne_a_yn ne_a_ys ne_yn_ys hs.1 hs.2.1 (own_s6 hs.2.1 hs.2.2)) 0 [(.int ((gs z.toInt.toNat) + x1))] [] pd__I_V rfl rfl (st := [(.int ((gs z.toInt.toNat) + x1)), (.ref a)]) rfl (Ls := #[vr a, vr x0, vi x1, vi (gs z.toInt.toNat), us]) rfl (Nat.le_of_eq rfl) (by decide) (by decide) (by decide) (by decide)
  obtain ⟨rfl, M19, K19, b19, gb19, zb19, H19_1, H19_2, H19_3, H19_4, J19⟩ := Q19
  have N19 := Fr.app N0 M19
  have s19 : n0 ≤ T19.heap.size := Nat.le_trans hz K19.1
  have lt20 : (a : Nat) < b19 := Nat.lt_of_lt_of_le hE.lt zb19
  have lt21 : (yn : Nat) < b19 := Nat.lt_of_lt_of_le A_yn.lt zb19
  have lt22 : (ys : Nat) < b19 := Nat.lt_of_lt_of_le A_ys.lt zb19
  have lt23 : (x0 : Nat) < b19 := Nat.lt_of_lt_of_le A_x0.lt zb19
  have y19 : h0.size ≤ b19 := Nat.le_trans (Keep.refl h0 [a, ys]).1 zb19
  refine c19 ?_
  show OG p.tables e below _ (T19.setTop (mkF m 71 #[vr a, vr x0, vi x1, vi (gs z.toInt.toNat), us] []))
  refine o_aloadN B19 71 72 (v := (.ref a)) d6_71 rfl rfl rfl ?_
  obtain ⟨T24, B24, c24⟩ := o_getfield B19 72 75 d6_72 rfl (host := "") (Or.inl (hw _ (mi 22 rfl))) Via.refl H19_1 (Ls := #[vr a, vr x0, vi x1, vi (gs z.toInt.toNat), us]) (rest := [])
  refine c24 ?_
  refine o_nuY B24 75 143 d6_75 (by decide) (by decide) ?_
  refine o_iloadN B24 143 144 (v := x1) d6_143 rfl rfl ?_
  refine o_aloadN B24 144 145 (v := (.ref a)) d6_144 rfl rfl rfl ?_
  obtain ⟨T25, B25, c25⟩ := o_getfield B24 145 148 d6_145 rfl (host := "") (Or.inl (hw _ (mi 24 rfl))) Via.refl H19_2 (Ls := #[vr a, vr x0, vi x1, vi (gs z.toInt.toNat), us]) (rest := [(.int x1)])
  refine c25 ?_
  refine o_alenI B25 148 149 J19 (8192 : Int32) d6_148 rfl (by decide) ?_
  refine o_iloadN B25 149 150 (v := (gs z.toInt.toNat)) d6_149 rfl rfl ?_
  refine o_isub B25 150 151 d6_150 rfl ?_
  refine o_icY B25 151 176 d6_151 (XT.ii_le_t (own_room 8192 (by decide) (by decide) hs.2.1 hs.2.2)) (by decide) (by decide) ?_
  refine o_aloadN B25 176 177 (v := (.ref x0)) d6_176 rfl rfl rfl ?_
  refine o_iconst B25 177 178 (0 : Int32) d6_177 rfl (by decide) ?_
  refine o_aloadN B25 178 179 (v := (.ref a)) d6_178 rfl rfl rfl ?_
  obtain ⟨T27, B27, c27⟩ := o_getfield B25 179 182 d6_179 rfl (host := "") (Or.inl (hw _ (mi 24 rfl))) Via.refl H19_2 (Ls := #[vr a, vr x0, vi x1, vi (gs z.toInt.toNat), us]) (rest := [(.int (0 : Int32)), (.ref x0)])
  refine c27 ?_
  refine o_iloadN B27 182 183 (v := (gs z.toInt.toNat)) d6_182 rfl rfl ?_
  refine o_iloadN B27 183 184 (v := x1) d6_183 rfl rfl ?_
  have F28 := (A_x0.keep K19 (ninS (Ne.symm ne_a_x0) nin0))
  obtain ⟨T29, h29, L29, B29, N29, K29, A29, c29⟩ := o_copyC B27 N19 gb19 184 187 F28 hfc J19 (own_fu _ _) d6_184 rfl (hw _ (mi 60 rfl)) (hw _ (mi 63 rfl)) (hw _ (mi 61 rfl)) (hw _ (mi 62 rfl)) (dp := (gs z.toInt.toNat)) (nn := x1) (own_cpx hs.2.1 hs.2.2).1 (own_cpx hs.2.1 hs.2.2).2.1 (by decide) (own_cpx hs.2.1 hs.2.2).2.2.1 (own_cpx hs.2.1 hs.2.2).2.2.2 (Ls := #[vr a, vr x0, vi x1, vi (gs z.toInt.toNat), us]) rfl 0 (rest := []) (Nat.le_of_eq rfl) (by decide) (by decide)
  refine c29 ?_
  have s29 : n0 ≤ h29.size := Nat.le_trans s19 K29.1
  refine o_aloadN B29 187 188 (v := (.ref a)) d6_187 rfl rfl rfl ?_
  have F31 := (H19_3.keep K29 (ninS (Nat.ne_of_lt lt20) nin0))
  obtain ⟨T30, B30, c30⟩ := o_getfield B29 188 191 d6_188 rfl (host := "") (Or.inl (hw _ (mi 26 rfl))) Via.refl F31 (Ls := #[vr a, vr x0, vi x1, vi (gs z.toInt.toNat), us]) (rest := [])
  refine c30 ?_
  refine o_aloadN B30 191 192 (v := (.ref a)) d6_191 rfl rfl rfl ?_
  have F33 := (H19_4.keep K29 (ninS (Nat.ne_of_lt lt20) nin0))
  obtain ⟨T32, B32, c32⟩ := o_getfield B30 192 195 d6_192 rfl (host := "") (Or.inl (hw _ (mi 28 rfl))) Via.refl F33 (Ls := #[vr a, vr x0, vi x1, vi (gs z.toInt.toNat), us]) (rest := [(.ref ys)])
  refine c32 ?_
  refine o_iconst B32 195 196 (1 : Int32) d6_195 rfl (by decide) ?_
  refine o_iadd B32 196 197 d6_196 rfl ?_
  refine o_iloadN B32 197 198 (v := (gs z.toInt.toNat)) d6_197 rfl rfl ?_
  refine o_iloadN B32 198 199 (v := x1) d6_198 rfl rfl ?_
  refine o_iadd B32 199 200 d6_199 rfl ?_
  have F35 := ((A_ys.keep K19 (ninS (Ne.symm ne_a_ys) nin0)).keep K29 (ninS (Nat.ne_of_lt lt22) nin0))
  obtain ⟨T34, h34, L34, B34, N34, W34, Q34, c34⟩ := o_iastore B32 N29 ge_ys 200 201 F35 (j := (z + (1 : Int32))) (x := ((gs z.toInt.toNat) + x1)) (z.toInt.toNat + 1) ((gs z.toInt.toNat) + x1) d6_200 rfl hzj.1 hzj.2 (own_z hs.1).2.2.2.1 rfl (Ls := #[vr a, vr x0, vi x1, vi (gs z.toInt.toNat), us]) (rest := [])
  have A34 : AI Z h34 ys .int 512 (w6_NW_1 gn gs gc z x1) := Q34
  refine c34 ?_
  refine o_aloadN B34 201 202 (v := (.ref a)) d6_201 rfl rfl rfl ?_
  refine o_dup B34 202 203 d6_202 rfl rfl ?_
  have F37 := (Fld.other W34 F33 (Or.inl ne_a_ys))
  obtain ⟨T36, B36, c36⟩ := o_getfield B34 203 206 d6_203 rfl (host := "") (Or.inl (hw _ (mi 28 rfl))) Via.refl F37 (Ls := #[vr a, vr x0, vi x1, vi (gs z.toInt.toNat), us]) (rest := [(.ref a)])
  refine c36 ?_
  refine o_dup_x1 B36 206 207 d6_206 rfl rfl rfl ?_
  refine o_iconst B36 207 208 (1 : Int32) d6_207 rfl (by decide) ?_
  refine o_iadd B36 208 209 d6_208 rfl ?_
  have F39 := (Exa.wr W34 ((hE.keep K19).keep K29))
  obtain ⟨T38, h38, L38, B38, N38, W38, c38⟩ := o_putfield B36 N34 ge_a 209 212 (v := (.int (z + (1 : Int32)))) d6_209 rfl (host := "") (Or.inl (hw _ (mi 28 rfl))) Via.refl F37 F39 (Or.inl (hw _ (mi 29 rfl))) (hw _ (mi 9 rfl)) (ty := .int) (by decide) rfl rfl (Ls := #[vr a, vr x0, vi x1, vi (gs z.toInt.toNat), us]) (rest := [(.int z)])
  have F38 : Fld Z h38 a "com/example/micro_ranker/microranker/engine/Texts" "size" "I" (.int (z + (1 : Int32))) := Fld.same W38 F37
  refine c38 ?_
  have F40 := (Fld.other W38 (Fld.other W34 (H19_1.keep K29 (ninS (Nat.ne_of_lt lt20) nin0)) (Or.inl ne_a_ys)) (Or.inr (sn8 hw)))
  have F41 := (Fld.other W38 (Fld.other W34 (H19_2.keep K29 (ninS (Nat.ne_of_lt lt20) nin0)) (Or.inl ne_a_ys)) (Or.inr (sn10 hw)))
  have F42 := (Fld.other W38 (Fld.other W34 F31 (Or.inl ne_a_ys)) (Or.inr (sn11 hw)))
  have F43 := ((A29.other W34 (Ne.symm (Nat.ne_of_lt lt22))).other W38 (Ne.symm (Nat.ne_of_lt lt20)))
  have F44 := (A34.other W38 (Ne.symm ne_a_ys))
  have KT45 := (((((Keep.refl h0 [a, ys]).trans K19 (allS (Or.inl (mi 0 rfl)) all0)).trans K29 (allS (Or.inr y19) all0)).wr W34 (Or.inl (mi 1 rfl))).wr W38 (Or.inl (mi 0 rfl)))
  exact o_retI B38 212 d6_212 hret hlk (by decide) (by decide) ⟨rfl, N38, KT45, b19, gb19, y19, F40, F41, F42, F38, F43, F44⟩
def w6_WW_1 (gw gs gc : Nat → Int32) (z x1 : Int32) : Nat → Int32 := fun j => if j = (z.toInt.toNat + 1) then ((gs z.toInt.toNat) + x1) else gs j
def Q6_WW (Z : State) (a : Addr) (x0 : Addr) (yc : Addr) (ys : Addr) (gw : Nat → Int32) (gs : Nat → Int32) (gc : Nat → Int32) (z : Int32) (x1 : Int32) (h0 : Heap) (n0 : Nat) (v : Option Value) (h : Heap) (L : List Loc) : Prop := v = some (.int z) ∧ Fr n0 L ∧ Keep h0 h [a, yc, ys] ∧ Fld Z h a "com/example/micro_ranker/microranker/engine/Texts" "narrow" "[B" .null ∧ Fld Z h a "com/example/micro_ranker/microranker/engine/Texts" "characters" "[C" (.ref yc) ∧ Fld Z h a "com/example/micro_ranker/microranker/engine/Texts" "starts" "[I" (.ref ys) ∧ Fld Z h a "com/example/micro_ranker/microranker/engine/Texts" "size" "I" (.int (z + 1)) ∧ AI Z h yc .char 8192 (own_cc gw gc (gs z.toInt.toNat).toInt.toNat x1.toInt.toNat) ∧ AI Z h ys .int 512 (own_sp gs z x1)
set_option maxRecDepth 65536 in
set_option maxHeartbeats 400000000 in
theorem rm6_WW (l : Launch) (Z : State) (a0 : Array Value) (hw : ∀ d ∈ tables_1, d.before a0 Z = true) (a : Addr) (x0 : Addr) (yc : Addr) (ys : Addr) (gw : Nat → Int32) (gs : Nat → Int32) (gc : Nat → Int32) (z : Int32) (x1 : Int32) (h0 : Heap) (n0 : Nat) (hz : n0 ≤ h0.size) (ge_a : n0 ≤ a) (ge_yc : n0 ≤ yc) (ge_ys : n0 ≤ ys) (hE : Exa Z h0 a "com/example/micro_ranker/microranker/engine/Texts") (G_narrow : Fld Z h0 a "com/example/micro_ranker/microranker/engine/Texts" "narrow" "[B" .null) (G_characters : Fld Z h0 a "com/example/micro_ranker/microranker/engine/Texts" "characters" "[C" (.ref yc)) (G_starts : Fld Z h0 a "com/example/micro_ranker/microranker/engine/Texts" "starts" "[I" (.ref ys)) (G_size : Fld Z h0 a "com/example/micro_ranker/microranker/engine/Texts" "size" "I" (.int z)) (A_yc : AI Z h0 yc .char 8192 gw) (A_ys : AI Z h0 ys .int 512 gs) (A_x0 : AI Z h0 x0 .char 4 gc) (ne_a_yc : a ≠ yc) (ne_a_ys : a ≠ ys) (ne_a_x0 : a ≠ x0) (ne_yc_ys : yc ≠ ys) (ne_x0_yc : x0 ≠ yc) (ne_x0_ys : x0 ≠ ys) (hs : Hs z gs x1) (hfc : ∀ j, j < 4 → fits .char (.int (gc j)) = true) (hfd : ∀ j, j < 8192 → fits .char (.int (gw j)) = true) :
    Met l Z (⟨"com/example/micro_ranker/microranker/engine/Texts", "add", "([CI)I"⟩ : MethodName) prog_60_method_6_code 5 (some .int) ({ frames := 1, cells := 0, slots := 0, locals := 18 } : Room) #[(.ref a), (.ref x0), (.int x1)] h0 (Q6_WW Z a x0 yc ys gw gs gc z x1 h0 n0) := by
  refine enter pl6 #[vr a, vr x0, vi x1, us, us] rfl ?_
  intro p e s m below meth c T B hret hlk hnm
  have N0 := Fr.nil n0
  have hzi := ix_of (own_z hs.1).1
  have hzj := ix_of (own_z hs.1).2.2.1
  refine o_aloadN B 0 1 (v := (.ref a)) d6_0 rfl rfl rfl ?_
  obtain ⟨T11, B11, c11⟩ := o_getfield B 1 4 d6_1 rfl (host := "") (Or.inl (hw _ (mi 26 rfl))) Via.refl G_starts (Ls := #[vr a, vr x0, vi x1, us, us]) (rest := [])
  refine c11 ?_
  refine o_aloadN B11 4 5 (v := (.ref a)) d6_4 rfl rfl rfl ?_
  obtain ⟨T12, B12, c12⟩ := o_getfield B11 5 8 d6_5 rfl (host := "") (Or.inl (hw _ (mi 28 rfl))) Via.refl G_size (Ls := #[vr a, vr x0, vi x1, us, us]) (rest := [(.ref ys)])
  refine c12 ?_
  refine o_iaload B12 8 9 A_ys z.toInt.toNat (gs z.toInt.toNat) d6_8 rfl hzi.1 hzi.2 (own_z hs.1).2.1 rfl ?_
  refine o_istoreN B12 9 10 (l' := #[vr a, vr x0, vi x1, vi (gs z.toInt.toNat), us]) d6_9 rfl rfl ?_
  refine o_aloadN B12 10 11 (v := (.ref a)) d6_10 rfl rfl rfl ?_
  obtain ⟨T14, B14, c14⟩ := o_getfield B12 11 14 d6_11 rfl (host := "") (Or.inl (hw _ (mi 28 rfl))) Via.refl G_size (Ls := #[vr a, vr x0, vi x1, vi (gs z.toInt.toNat), us]) (rest := [])
  refine c14 ?_
  refine o_iconst B14 14 15 (2 : Int32) d6_14 rfl (by decide) ?_
  refine o_iadd B14 15 16 d6_15 rfl ?_
  refine o_aloadN B14 16 17 (v := (.ref a)) d6_16 rfl rfl rfl ?_
  obtain ⟨T15, B15, c15⟩ := o_getfield B14 17 20 d6_17 rfl (host := "") (Or.inl (hw _ (mi 26 rfl))) Via.refl G_starts (Ls := #[vr a, vr x0, vi x1, vi (gs z.toInt.toNat), us]) (rest := [(.int (z + (2 : Int32)))])
  refine c15 ?_
  refine o_alenI B15 20 21 A_ys (512 : Int32) d6_20 rfl (by decide) ?_
  refine o_icY B15 21 49 d6_21 (XT.ii_le_t (own_z hs.1).2.2.2.2) (by decide) (by decide) ?_
  refine o_aloadN B15 49 50 (v := (.ref a)) d6_49 rfl rfl rfl ?_
  obtain ⟨T17, B17, c17⟩ := o_getfield B15 50 53 d6_50 rfl (host := "") (Or.inl (hw _ (mi 22 rfl))) Via.refl G_narrow (Ls := #[vr a, vr x0, vi x1, vi (gs z.toInt.toNat), us]) (rest := [])
  refine c17 ?_
  refine o_nuY B17 53 71 d6_53 (by decide) (by decide) ?_
  refine o_aloadN B17 71 72 (v := (.ref a)) d6_71 rfl rfl rfl ?_
  obtain ⟨T18, B18, c18⟩ := o_getfield B17 72 75 d6_72 rfl (host := "") (Or.inl (hw _ (mi 22 rfl))) Via.refl G_narrow (Ls := #[vr a, vr x0, vi x1, vi (gs z.toInt.toNat), us]) (rest := [])
  refine c18 ?_
  refine o_nuY B18 75 143 d6_75 (by decide) (by decide) ?_
  refine o_iloadN B18 143 144 (v := x1) d6_143 rfl rfl ?_
  refine o_aloadN B18 144 145 (v := (.ref a)) d6_144 rfl rfl rfl ?_
  obtain ⟨T19, B19, c19⟩ := o_getfield B18 145 148 d6_145 rfl (host := "") (Or.inl (hw _ (mi 24 rfl))) Via.refl G_characters (Ls := #[vr a, vr x0, vi x1, vi (gs z.toInt.toNat), us]) (rest := [(.int x1)])
  refine c19 ?_
  refine o_alenI B19 148 149 A_yc (8192 : Int32) d6_148 rfl (by decide) ?_
  refine o_iloadN B19 149 150 (v := (gs z.toInt.toNat)) d6_149 rfl rfl ?_
  refine o_isub B19 150 151 d6_150 rfl ?_
  refine o_icY B19 151 176 d6_151 (XT.ii_le_t (own_room 8192 (by decide) (by decide) hs.2.1 hs.2.2)) (by decide) (by decide) ?_
  refine o_aloadN B19 176 177 (v := (.ref x0)) d6_176 rfl rfl rfl ?_
  refine o_iconst B19 177 178 (0 : Int32) d6_177 rfl (by decide) ?_
  refine o_aloadN B19 178 179 (v := (.ref a)) d6_178 rfl rfl rfl ?_
  obtain ⟨T21, B21, c21⟩ := o_getfield B19 179 182 d6_179 rfl (host := "") (Or.inl (hw _ (mi 24 rfl))) Via.refl G_characters (Ls := #[vr a, vr x0, vi x1, vi (gs z.toInt.toNat), us]) (rest := [(.int (0 : Int32)), (.ref x0)])
  refine c21 ?_
  refine o_iloadN B21 182 183 (v := (gs z.toInt.toNat)) d6_182 rfl rfl ?_
  refine o_iloadN B21 183 184 (v := x1) d6_183 rfl rfl ?_
  obtain ⟨T22, h22, L22, B22, N22, K22, A22, c22⟩ := o_copyC B21 N0 ge_yc 184 187 A_x0 hfc A_yc hfd d6_184 rfl (hw _ (mi 60 rfl)) (hw _ (mi 63 rfl)) (hw _ (mi 61 rfl)) (hw _ (mi 62 rfl)) (dp := (gs z.toInt.toNat)) (nn := x1) (own_cpx hs.2.1 hs.2.2).1 (own_cpx hs.2.1 hs.2.2).2.1 (by decide) (own_cpx hs.2.1 hs.2.2).2.2.1 (own_cpx hs.2.1 hs.2.2).2.2.2 (Ls := #[vr a, vr x0, vi x1, vi (gs z.toInt.toNat), us]) rfl 0 (rest := []) (Nat.le_of_eq rfl) (by decide) (by decide)
  refine c22 ?_
  have s22 : n0 ≤ h22.size := Nat.le_trans hz K22.1
  refine o_aloadN B22 187 188 (v := (.ref a)) d6_187 rfl rfl rfl ?_
  have F24 := (G_starts.keep K22 (ninS ne_a_yc nin0))
  obtain ⟨T23, B23, c23⟩ := o_getfield B22 188 191 d6_188 rfl (host := "") (Or.inl (hw _ (mi 26 rfl))) Via.refl F24 (Ls := #[vr a, vr x0, vi x1, vi (gs z.toInt.toNat), us]) (rest := [])
  refine c23 ?_
  refine o_aloadN B23 191 192 (v := (.ref a)) d6_191 rfl rfl rfl ?_
  have F26 := (G_size.keep K22 (ninS ne_a_yc nin0))
  obtain ⟨T25, B25, c25⟩ := o_getfield B23 192 195 d6_192 rfl (host := "") (Or.inl (hw _ (mi 28 rfl))) Via.refl F26 (Ls := #[vr a, vr x0, vi x1, vi (gs z.toInt.toNat), us]) (rest := [(.ref ys)])
  refine c25 ?_
  refine o_iconst B25 195 196 (1 : Int32) d6_195 rfl (by decide) ?_
  refine o_iadd B25 196 197 d6_196 rfl ?_
  refine o_iloadN B25 197 198 (v := (gs z.toInt.toNat)) d6_197 rfl rfl ?_
  refine o_iloadN B25 198 199 (v := x1) d6_198 rfl rfl ?_
  refine o_iadd B25 199 200 d6_199 rfl ?_
  have F28 := (A_ys.keep K22 (ninS (Ne.symm ne_yc_ys) nin0))
  obtain ⟨T27, h27, L27, B27, N27, W27, Q27, c27⟩ := o_iastore B25 N22 ge_ys 200 201 F28 (j := (z + (1 : Int32))) (x := ((gs z.toInt.toNat) + x1)) (z.toInt.toNat + 1) ((gs z.toInt.toNat) + x1) d6_200 rfl hzj.1 hzj.2 (own_z hs.1).2.2.2.1 rfl (Ls := #[vr a, vr x0, vi x1, vi (gs z.toInt.toNat), us]) (rest := [])
  have A27 : AI Z h27 ys .int 512 (w6_WW_1 gw gs gc z x1) := Q27
  refine c27 ?_
  refine o_aloadN B27 201 202 (v := (.ref a)) d6_201 rfl rfl rfl ?_
  refine o_dup B27 202 203 d6_202 rfl rfl ?_
  have F30 := (Fld.other W27 F26 (Or.inl ne_a_ys))
  obtain ⟨T29, B29, c29⟩ := o_getfield B27 203 206 d6_203 rfl (host := "") (Or.inl (hw _ (mi 28 rfl))) Via.refl F30 (Ls := #[vr a, vr x0, vi x1, vi (gs z.toInt.toNat), us]) (rest := [(.ref a)])
  refine c29 ?_
  refine o_dup_x1 B29 206 207 d6_206 rfl rfl rfl ?_
  refine o_iconst B29 207 208 (1 : Int32) d6_207 rfl (by decide) ?_
  refine o_iadd B29 208 209 d6_208 rfl ?_
  have F32 := (Exa.wr W27 (hE.keep K22))
  obtain ⟨T31, h31, L31, B31, N31, W31, c31⟩ := o_putfield B29 N27 ge_a 209 212 (v := (.int (z + (1 : Int32)))) d6_209 rfl (host := "") (Or.inl (hw _ (mi 28 rfl))) Via.refl F30 F32 (Or.inl (hw _ (mi 29 rfl))) (hw _ (mi 9 rfl)) (ty := .int) (by decide) rfl rfl (Ls := #[vr a, vr x0, vi x1, vi (gs z.toInt.toNat), us]) (rest := [(.int z)])
  have F31 : Fld Z h31 a "com/example/micro_ranker/microranker/engine/Texts" "size" "I" (.int (z + (1 : Int32))) := Fld.same W31 F30
  refine c31 ?_
  have F33 := (Fld.other W31 (Fld.other W27 (G_narrow.keep K22 (ninS ne_a_yc nin0)) (Or.inl ne_a_ys)) (Or.inr (sn8 hw)))
  have F34 := (Fld.other W31 (Fld.other W27 (G_characters.keep K22 (ninS ne_a_yc nin0)) (Or.inl ne_a_ys)) (Or.inr (sn10 hw)))
  have F35 := (Fld.other W31 (Fld.other W27 F24 (Or.inl ne_a_ys)) (Or.inr (sn11 hw)))
  have F36 := ((A22.other W27 ne_yc_ys).other W31 (Ne.symm ne_a_yc))
  have F37 := (A27.other W31 (Ne.symm ne_a_ys))
  have KT38 := ((((Keep.refl h0 [a, yc, ys]).trans K22 (allS (Or.inl (mi 1 rfl)) all0)).wr W27 (Or.inl (mi 2 rfl))).wr W31 (Or.inl (mi 0 rfl)))
  exact o_retI B31 212 d6_212 hret hlk (by decide) (by decide) ⟨rfl, N31, KT38, F33, F34, F35, F31, F36, F37⟩
theorem d8_0 : decode prog_60_method_5_code 0 = .ok (.aload_n 0, 1) := by decide +kernel
theorem d8_1 : decode prog_60_method_5_code 1 = .ok (.getfield 22, 3) := by decide +kernel
theorem d8_4 : decode prog_60_method_5_code 4 = .ok (.iload_n 1, 1) := by decide +kernel
theorem d8_5 : decode prog_60_method_5_code 5 = .ok (.iaload, 1) := by decide +kernel
theorem d8_6 : decode prog_60_method_5_code 6 = .ok (.istore 4, 2) := by decide +kernel
theorem d8_8 : decode prog_60_method_5_code 8 = .ok (.aload_n 0, 1) := by decide +kernel
theorem d8_9 : decode prog_60_method_5_code 9 = .ok (.getfield 22, 3) := by decide +kernel
theorem d8_12 : decode prog_60_method_5_code 12 = .ok (.iload_n 1, 1) := by decide +kernel
theorem d8_13 : decode prog_60_method_5_code 13 = .ok (.iconst 1, 1) := by decide +kernel
theorem d8_14 : decode prog_60_method_5_code 14 = .ok (.iadd, 1) := by decide +kernel
theorem d8_15 : decode prog_60_method_5_code 15 = .ok (.iaload, 1) := by decide +kernel
theorem d8_16 : decode prog_60_method_5_code 16 = .ok (.iload 4, 2) := by decide +kernel
theorem d8_18 : decode prog_60_method_5_code 18 = .ok (.isub, 1) := by decide +kernel
theorem d8_19 : decode prog_60_method_5_code 19 = .ok (.iload_n 3, 1) := by decide +kernel
theorem d8_20 : decode prog_60_method_5_code 20 = .ok (.if_icmp .eq 5, 3) := by decide +kernel
theorem d8_23 : decode prog_60_method_5_code 23 = .ok (.iconst 0, 1) := by decide +kernel
theorem d8_24 : decode prog_60_method_5_code 24 = .ok (.ireturn, 1) := by decide +kernel
theorem d8_25 : decode prog_60_method_5_code 25 = .ok (.aload_n 0, 1) := by decide +kernel
theorem d8_26 : decode prog_60_method_5_code 26 = .ok (.getfield 14, 3) := by decide +kernel
theorem d8_29 : decode prog_60_method_5_code 29 = .ok (.ifnull 43, 3) := by decide +kernel
theorem d8_32 : decode prog_60_method_5_code 32 = .ok (.iconst 0, 1) := by decide +kernel
theorem d8_33 : decode prog_60_method_5_code 33 = .ok (.istore 5, 2) := by decide +kernel
theorem d8_35 : decode prog_60_method_5_code 35 = .ok (.iload 5, 2) := by decide +kernel
theorem d8_37 : decode prog_60_method_5_code 37 = .ok (.iload_n 3, 1) := by decide +kernel
theorem d8_38 : decode prog_60_method_5_code 38 = .ok (.if_icmp .ge 32, 3) := by decide +kernel
theorem d8_41 : decode prog_60_method_5_code 41 = .ok (.aload_n 0, 1) := by decide +kernel
theorem d8_42 : decode prog_60_method_5_code 42 = .ok (.getfield 14, 3) := by decide +kernel
theorem d8_45 : decode prog_60_method_5_code 45 = .ok (.iload 4, 2) := by decide +kernel
theorem d8_47 : decode prog_60_method_5_code 47 = .ok (.iload 5, 2) := by decide +kernel
theorem d8_49 : decode prog_60_method_5_code 49 = .ok (.iadd, 1) := by decide +kernel
theorem d8_50 : decode prog_60_method_5_code 50 = .ok (.baload, 1) := by decide +kernel
theorem d8_51 : decode prog_60_method_5_code 51 = .ok (.sipush 255, 3) := by decide +kernel
theorem d8_54 : decode prog_60_method_5_code 54 = .ok (.iand, 1) := by decide +kernel
theorem d8_55 : decode prog_60_method_5_code 55 = .ok (.aload_n 2, 1) := by decide +kernel
theorem d8_56 : decode prog_60_method_5_code 56 = .ok (.iload 5, 2) := by decide +kernel
theorem d8_58 : decode prog_60_method_5_code 58 = .ok (.caload, 1) := by decide +kernel
theorem d8_59 : decode prog_60_method_5_code 59 = .ok (.if_icmp .eq 5, 3) := by decide +kernel
theorem d8_62 : decode prog_60_method_5_code 62 = .ok (.iconst 0, 1) := by decide +kernel
theorem d8_63 : decode prog_60_method_5_code 63 = .ok (.ireturn, 1) := by decide +kernel
theorem d8_64 : decode prog_60_method_5_code 64 = .ok (.iinc 5 1, 3) := by decide +kernel
theorem d8_67 : decode prog_60_method_5_code 67 = .ok (.goto (-32), 3) := by decide +kernel
theorem d8_70 : decode prog_60_method_5_code 70 = .ok (.iconst 1, 1) := by decide +kernel
theorem d8_71 : decode prog_60_method_5_code 71 = .ok (.ireturn, 1) := by decide +kernel
theorem d8_72 : decode prog_60_method_5_code 72 = .ok (.iconst 0, 1) := by decide +kernel
theorem d8_73 : decode prog_60_method_5_code 73 = .ok (.istore 5, 2) := by decide +kernel
theorem d8_75 : decode prog_60_method_5_code 75 = .ok (.iload 5, 2) := by decide +kernel
theorem d8_77 : decode prog_60_method_5_code 77 = .ok (.iload_n 3, 1) := by decide +kernel
theorem d8_78 : decode prog_60_method_5_code 78 = .ok (.if_icmp .ge 28, 3) := by decide +kernel
theorem d8_81 : decode prog_60_method_5_code 81 = .ok (.aload_n 0, 1) := by decide +kernel
theorem d8_82 : decode prog_60_method_5_code 82 = .ok (.getfield 18, 3) := by decide +kernel
theorem d8_85 : decode prog_60_method_5_code 85 = .ok (.iload 4, 2) := by decide +kernel
theorem d8_87 : decode prog_60_method_5_code 87 = .ok (.iload 5, 2) := by decide +kernel
theorem d8_89 : decode prog_60_method_5_code 89 = .ok (.iadd, 1) := by decide +kernel
theorem d8_90 : decode prog_60_method_5_code 90 = .ok (.caload, 1) := by decide +kernel
theorem d8_91 : decode prog_60_method_5_code 91 = .ok (.aload_n 2, 1) := by decide +kernel
theorem d8_92 : decode prog_60_method_5_code 92 = .ok (.iload 5, 2) := by decide +kernel
theorem d8_94 : decode prog_60_method_5_code 94 = .ok (.caload, 1) := by decide +kernel
theorem d8_95 : decode prog_60_method_5_code 95 = .ok (.if_icmp .eq 5, 3) := by decide +kernel
theorem d8_98 : decode prog_60_method_5_code 98 = .ok (.iconst 0, 1) := by decide +kernel
theorem d8_99 : decode prog_60_method_5_code 99 = .ok (.ireturn, 1) := by decide +kernel
theorem d8_100 : decode prog_60_method_5_code 100 = .ok (.iinc 5 1, 3) := by decide +kernel
theorem d8_103 : decode prog_60_method_5_code 103 = .ok (.goto (-28), 3) := by decide +kernel
theorem d8_106 : decode prog_60_method_5_code 106 = .ok (.iconst 1, 1) := by decide +kernel
theorem d8_107 : decode prog_60_method_5_code 107 = .ok (.ireturn, 1) := by decide +kernel
theorem pl8 : plainFor (⟨"com/example/micro_ranker/microranker/engine/Texts", "holds", "(I[CI)Z"⟩ : MethodName) = true := by first | exact plainFor_of_name (by first | (simp [plainName, overriddenIn]; done) | decide +kernel) | decide +kernel
def f8_N0 (gs gn gq : Nat → Int32) (x0 : Int32) : Int32 := (if ((gs (x0.toInt.toNat + 1)) - (gs x0.toInt.toNat)) = (0 : Int32) then (1 : Int32) else (0 : Int32))
set_option maxRecDepth 65536 in
set_option maxHeartbeats 40000000 in
theorem rm8_N0 (l : Launch) (Z : State) (a0 : Array Value) (hw : ∀ d ∈ tables_1, d.before a0 Z = true) (a : Addr) (gs : Nat → Int32) (gn : Nat → Int32) (gq : Nat → Int32) (ys : Addr) (yn : Addr) (x0 : Int32) (x1 : Addr) (h0 : Heap) (G0 : Fld Z h0 a "com/example/micro_ranker/microranker/engine/Texts" "starts" "[I" (.ref ys)) (G1 : Fld Z h0 a "com/example/micro_ranker/microranker/engine/Texts" "narrow" "[B" (.ref yn)) (A0 : AI Z h0 ys .int 512 gs) (A1 : AI Z h0 yn .byte 4096 gn) (A2 : AI Z h0 x1 .char 4 gq) (hv : x0.toInt = 0 ∨ x0.toInt = 1) (hg : W4 (gs x0.toInt.toNat)) :
    Met l Z (⟨"com/example/micro_ranker/microranker/engine/Texts", "holds", "(I[CI)Z"⟩ : MethodName) prog_60_method_5_code 6 (some .boolean) ({ frames := 0, cells := 0, slots := 0, locals := 0 } : Room) #[(.ref a), (.int x0), (.ref x1), (.int (0 : Int32))] h0 (Pu (some (.int (f8_N0 gs gn gq x0))) h0) := by
  refine enter pl8 #[vr a, vi x0, vr x1, vi 0, us, us] rfl ?_
  intro p e s m below meth c T B hret hlk hnm
  · have hzi := ix_of (own_z hv).1
    have hzj := ix_of (own_z hv).2.2.1
    have hsl := own_w4n hg
    refine o_aloadN B 0 1 (v := (.ref a)) d8_0 rfl rfl rfl ?_
    obtain ⟨T1, B1, c1⟩ := o_getfield B 1 4 d8_1 rfl (host := "") (Or.inl (hw _ (mi 26 rfl))) Via.refl G0 (Ls := #[vr a, vi x0, vr x1, vi 0, us, us]) (rest := [])
    refine c1 ?_
    refine o_iloadN B1 4 5 (v := x0) d8_4 rfl rfl ?_
    refine o_iaload B1 5 6 A0 x0.toInt.toNat (gs x0.toInt.toNat) d8_5 rfl hzi.1 hzi.2 (own_z hv).2.1 rfl ?_
    refine o_istore B1 6 8 (l' := #[vr a, vi x0, vr x1, vi 0, vi (gs x0.toInt.toNat), us]) d8_6 rfl rfl ?_
    refine o_aloadN B1 8 9 (v := (.ref a)) d8_8 rfl rfl rfl ?_
    obtain ⟨T3, B3, c3⟩ := o_getfield B1 9 12 d8_9 rfl (host := "") (Or.inl (hw _ (mi 26 rfl))) Via.refl G0 (Ls := #[vr a, vi x0, vr x1, vi 0, vi (gs x0.toInt.toNat), us]) (rest := [])
    refine c3 ?_
    refine o_iloadN B3 12 13 (v := x0) d8_12 rfl rfl ?_
    refine o_iconst B3 13 14 (1 : Int32) d8_13 rfl (by decide) ?_
    refine o_iadd B3 14 15 d8_14 rfl ?_
    refine o_iaload B3 15 16 A0 (x0.toInt.toNat + 1) (gs (x0.toInt.toNat + 1)) d8_15 rfl hzj.1 hzj.2 (own_z hv).2.2.2.1 rfl ?_
    refine o_iload B3 16 18 (v := (gs x0.toInt.toNat)) d8_16 rfl rfl ?_
    refine o_isub B3 18 19 d8_18 rfl ?_
    refine o_iloadN B3 19 20 (v := (0 : Int32)) d8_19 rfl rfl ?_
    by_cases k1 : ((gs (x0.toInt.toNat + 1)) - (gs x0.toInt.toNat)) = (0 : Int32)
    · refine o_icY B3 20 25 d8_20 (XT.ii_eq_t k1) (by decide) (by decide) ?_
      refine o_aloadN B3 25 26 (v := (.ref a)) d8_25 rfl rfl rfl ?_
      obtain ⟨T5, B5, c5⟩ := o_getfield B3 26 29 d8_26 rfl (host := "") (Or.inl (hw _ (mi 22 rfl))) Via.refl G1 (Ls := #[vr a, vi x0, vr x1, vi 0, vi (gs x0.toInt.toNat), us]) (rest := [])
      refine c5 ?_
      refine o_nuN B5 29 32 d8_29 rfl ?_
      refine o_iconst B5 32 33 (0 : Int32) d8_32 rfl (by decide) ?_
      refine o_istore B5 33 35 (l' := #[vr a, vi x0, vr x1, vi 0, vi (gs x0.toInt.toNat), vi 0]) d8_33 rfl rfl ?_
      refine o_iload B5 35 37 (v := (0 : Int32)) d8_35 rfl rfl ?_
      refine o_iloadN B5 37 38 (v := (0 : Int32)) d8_37 rfl rfl ?_
      refine o_icY B5 38 70 d8_38 (XT.ii_ge_t (by decide)) (by decide) (by decide) ?_
      refine o_iconst B5 70 71 (1 : Int32) d8_70 rfl (by decide) ?_
      refine o_retZ (t := .boolean) B5 71 d8_71 hret hlk (by simp) (by decide) (by decide) ⟨(congrArg (fun z => some (Value.int z)) ((show nar .boolean (1 : Int32) = (1 : Int32) from rfl).trans (show f8_N0 gs gn gq x0 = (1 : Int32) from (if_pos k1).trans (rfl)).symm)), rfl, rfl⟩
    · refine o_icN B3 20 23 d8_20 rfl (XT.ii_eq_f k1) ?_
      refine o_iconst B3 23 24 (0 : Int32) d8_23 rfl (by decide) ?_
      refine o_retZ (t := .boolean) B3 24 d8_24 hret hlk (by simp) (by decide) (by decide) ⟨(congrArg (fun z => some (Value.int z)) ((show nar .boolean (0 : Int32) = (0 : Int32) from rfl).trans (show f8_N0 gs gn gq x0 = (0 : Int32) from (if_neg k1).trans (rfl)).symm)), rfl, rfl⟩
def f8_N1 (gs gn gq : Nat → Int32) (x0 : Int32) : Int32 := (if ((gs (x0.toInt.toNat + 1)) - (gs x0.toInt.toNat)) = (1 : Int32) then (if ((gn ((gs x0.toInt.toNat).toInt.toNat + 0)) &&& (255 : Int32)) = (gq 0) then (1 : Int32) else (0 : Int32)) else (0 : Int32))
set_option maxRecDepth 65536 in
set_option maxHeartbeats 40000000 in
theorem rm8_N1 (l : Launch) (Z : State) (a0 : Array Value) (hw : ∀ d ∈ tables_1, d.before a0 Z = true) (a : Addr) (gs : Nat → Int32) (gn : Nat → Int32) (gq : Nat → Int32) (ys : Addr) (yn : Addr) (x0 : Int32) (x1 : Addr) (h0 : Heap) (G0 : Fld Z h0 a "com/example/micro_ranker/microranker/engine/Texts" "starts" "[I" (.ref ys)) (G1 : Fld Z h0 a "com/example/micro_ranker/microranker/engine/Texts" "narrow" "[B" (.ref yn)) (A0 : AI Z h0 ys .int 512 gs) (A1 : AI Z h0 yn .byte 4096 gn) (A2 : AI Z h0 x1 .char 4 gq) (hv : x0.toInt = 0 ∨ x0.toInt = 1) (hg : W4 (gs x0.toInt.toNat)) :
    Met l Z (⟨"com/example/micro_ranker/microranker/engine/Texts", "holds", "(I[CI)Z"⟩ : MethodName) prog_60_method_5_code 6 (some .boolean) ({ frames := 0, cells := 0, slots := 0, locals := 0 } : Room) #[(.ref a), (.int x0), (.ref x1), (.int (1 : Int32))] h0 (Pu (some (.int (f8_N1 gs gn gq x0))) h0) := by
  refine enter pl8 #[vr a, vi x0, vr x1, vi 1, us, us] rfl ?_
  intro p e s m below meth c T B hret hlk hnm
  · have hzi := ix_of (own_z hv).1
    have hzj := ix_of (own_z hv).2.2.1
    have hsl := own_w4n hg
    refine o_aloadN B 0 1 (v := (.ref a)) d8_0 rfl rfl rfl ?_
    obtain ⟨T1, B1, c1⟩ := o_getfield B 1 4 d8_1 rfl (host := "") (Or.inl (hw _ (mi 26 rfl))) Via.refl G0 (Ls := #[vr a, vi x0, vr x1, vi 1, us, us]) (rest := [])
    refine c1 ?_
    refine o_iloadN B1 4 5 (v := x0) d8_4 rfl rfl ?_
    refine o_iaload B1 5 6 A0 x0.toInt.toNat (gs x0.toInt.toNat) d8_5 rfl hzi.1 hzi.2 (own_z hv).2.1 rfl ?_
    refine o_istore B1 6 8 (l' := #[vr a, vi x0, vr x1, vi 1, vi (gs x0.toInt.toNat), us]) d8_6 rfl rfl ?_
    refine o_aloadN B1 8 9 (v := (.ref a)) d8_8 rfl rfl rfl ?_
    obtain ⟨T3, B3, c3⟩ := o_getfield B1 9 12 d8_9 rfl (host := "") (Or.inl (hw _ (mi 26 rfl))) Via.refl G0 (Ls := #[vr a, vi x0, vr x1, vi 1, vi (gs x0.toInt.toNat), us]) (rest := [])
    refine c3 ?_
    refine o_iloadN B3 12 13 (v := x0) d8_12 rfl rfl ?_
    refine o_iconst B3 13 14 (1 : Int32) d8_13 rfl (by decide) ?_
    refine o_iadd B3 14 15 d8_14 rfl ?_
    refine o_iaload B3 15 16 A0 (x0.toInt.toNat + 1) (gs (x0.toInt.toNat + 1)) d8_15 rfl hzj.1 hzj.2 (own_z hv).2.2.2.1 rfl ?_
    refine o_iload B3 16 18 (v := (gs x0.toInt.toNat)) d8_16 rfl rfl ?_
    refine o_isub B3 18 19 d8_18 rfl ?_
    refine o_iloadN B3 19 20 (v := (1 : Int32)) d8_19 rfl rfl ?_
    by_cases k1 : ((gs (x0.toInt.toNat + 1)) - (gs x0.toInt.toNat)) = (1 : Int32)
    · refine o_icY B3 20 25 d8_20 (XT.ii_eq_t k1) (by decide) (by decide) ?_
      refine o_aloadN B3 25 26 (v := (.ref a)) d8_25 rfl rfl rfl ?_
      obtain ⟨T5, B5, c5⟩ := o_getfield B3 26 29 d8_26 rfl (host := "") (Or.inl (hw _ (mi 22 rfl))) Via.refl G1 (Ls := #[vr a, vi x0, vr x1, vi 1, vi (gs x0.toInt.toNat), us]) (rest := [])
      refine c5 ?_
      refine o_nuN B5 29 32 d8_29 rfl ?_
      refine o_iconst B5 32 33 (0 : Int32) d8_32 rfl (by decide) ?_
      refine o_istore B5 33 35 (l' := #[vr a, vi x0, vr x1, vi 1, vi (gs x0.toInt.toNat), vi 0]) d8_33 rfl rfl ?_
      refine o_iload B5 35 37 (v := (0 : Int32)) d8_35 rfl rfl ?_
      refine o_iloadN B5 37 38 (v := (1 : Int32)) d8_37 rfl rfl ?_
      refine o_icN B5 38 41 d8_38 rfl (XT.ii_ge_f (by decide)) ?_
      refine o_aloadN B5 41 42 (v := (.ref a)) d8_41 rfl rfl rfl ?_
      obtain ⟨T6, B6, c6⟩ := o_getfield B5 42 45 d8_42 rfl (host := "") (Or.inl (hw _ (mi 22 rfl))) Via.refl G1 (Ls := #[vr a, vi x0, vr x1, vi 1, vi (gs x0.toInt.toNat), vi 0]) (rest := [])
      refine c6 ?_
      refine o_iload B6 45 47 (v := (gs x0.toInt.toNat)) d8_45 rfl rfl ?_
      refine o_iload B6 47 49 (v := (0 : Int32)) d8_47 rfl rfl ?_
      refine o_iadd B6 49 50 d8_49 rfl ?_
      refine o_baload B6 50 51 A1 ((gs x0.toInt.toNat).toInt.toNat + 0) (gn ((gs x0.toInt.toNat).toInt.toNat + 0)) d8_50 rfl (ix_of (own_si _ 0 hsl (by decide))).1 (ix_of (own_si _ 0 hsl (by decide))).2 (by omega) rfl ?_
      refine o_sipush B6 51 54 (255 : Int32) d8_51 rfl (by decide) ?_
      refine o_iand B6 54 55 d8_54 rfl ?_
      refine o_aloadN B6 55 56 (v := (.ref x1)) d8_55 rfl rfl rfl ?_
      refine o_iload B6 56 58 (v := (0 : Int32)) d8_56 rfl rfl ?_
      refine o_caload B6 58 59 A2 0 (gq 0) d8_58 rfl (by decide) (by decide) (by decide) rfl ?_
      by_cases k2 : ((gn ((gs x0.toInt.toNat).toInt.toNat + 0)) &&& (255 : Int32)) = (gq 0)
      · refine o_icY B6 59 64 d8_59 (XT.ii_eq_t k2) (by decide) (by decide) ?_
        refine o_iincC B6 64 67 (l' := #[vr a, vi x0, vr x1, vi 1, vi (gs x0.toInt.toNat), vi 1]) (1 : Int32) (1 : Int32) d8_64 rfl (by decide) rfl (by decide) rfl ?_
        refine o_goto B6 67 35 d8_67 (by decide) (by decide) ?_
        refine o_iload B6 35 37 (v := (1 : Int32)) d8_35 rfl rfl ?_
        refine o_iloadN B6 37 38 (v := (1 : Int32)) d8_37 rfl rfl ?_
        refine o_icY B6 38 70 d8_38 (XT.ii_ge_t (by decide)) (by decide) (by decide) ?_
        refine o_iconst B6 70 71 (1 : Int32) d8_70 rfl (by decide) ?_
        refine o_retZ (t := .boolean) B6 71 d8_71 hret hlk (by simp) (by decide) (by decide) ⟨(congrArg (fun z => some (Value.int z)) ((show nar .boolean (1 : Int32) = (1 : Int32) from rfl).trans (show f8_N1 gs gn gq x0 = (1 : Int32) from (if_pos k1).trans ((if_pos k2).trans (rfl))).symm)), rfl, rfl⟩
      · refine o_icN B6 59 62 d8_59 rfl (XT.ii_eq_f k2) ?_
        refine o_iconst B6 62 63 (0 : Int32) d8_62 rfl (by decide) ?_
        refine o_retZ (t := .boolean) B6 63 d8_63 hret hlk (by simp) (by decide) (by decide) ⟨(congrArg (fun z => some (Value.int z)) ((show nar .boolean (0 : Int32) = (0 : Int32) from rfl).trans (show f8_N1 gs gn gq x0 = (0 : Int32) from (if_pos k1).trans ((if_neg k2).trans (rfl))).symm)), rfl, rfl⟩
    · refine o_icN B3 20 23 d8_20 rfl (XT.ii_eq_f k1) ?_
      refine o_iconst B3 23 24 (0 : Int32) d8_23 rfl (by decide) ?_
      refine o_retZ (t := .boolean) B3 24 d8_24 hret hlk (by simp) (by decide) (by decide) ⟨(congrArg (fun z => some (Value.int z)) ((show nar .boolean (0 : Int32) = (0 : Int32) from rfl).trans (show f8_N1 gs gn gq x0 = (0 : Int32) from (if_neg k1).trans (rfl)).symm)), rfl, rfl⟩
def f8_N2 (gs gn gq : Nat → Int32) (x0 : Int32) : Int32 := (if ((gs (x0.toInt.toNat + 1)) - (gs x0.toInt.toNat)) = (2 : Int32) then (if ((gn ((gs x0.toInt.toNat).toInt.toNat + 0)) &&& (255 : Int32)) = (gq 0) then (if ((gn ((gs x0.toInt.toNat).toInt.toNat + 1)) &&& (255 : Int32)) = (gq 1) then (1 : Int32) else (0 : Int32)) else (0 : Int32)) else (0 : Int32))
set_option maxRecDepth 65536 in
set_option maxHeartbeats 40000000 in
theorem rm8_N2 (l : Launch) (Z : State) (a0 : Array Value) (hw : ∀ d ∈ tables_1, d.before a0 Z = true) (a : Addr) (gs : Nat → Int32) (gn : Nat → Int32) (gq : Nat → Int32) (ys : Addr) (yn : Addr) (x0 : Int32) (x1 : Addr) (h0 : Heap) (G0 : Fld Z h0 a "com/example/micro_ranker/microranker/engine/Texts" "starts" "[I" (.ref ys)) (G1 : Fld Z h0 a "com/example/micro_ranker/microranker/engine/Texts" "narrow" "[B" (.ref yn)) (A0 : AI Z h0 ys .int 512 gs) (A1 : AI Z h0 yn .byte 4096 gn) (A2 : AI Z h0 x1 .char 4 gq) (hv : x0.toInt = 0 ∨ x0.toInt = 1) (hg : W4 (gs x0.toInt.toNat)) :
    Met l Z (⟨"com/example/micro_ranker/microranker/engine/Texts", "holds", "(I[CI)Z"⟩ : MethodName) prog_60_method_5_code 6 (some .boolean) ({ frames := 0, cells := 0, slots := 0, locals := 0 } : Room) #[(.ref a), (.int x0), (.ref x1), (.int (2 : Int32))] h0 (Pu (some (.int (f8_N2 gs gn gq x0))) h0) := by
  refine enter pl8 #[vr a, vi x0, vr x1, vi 2, us, us] rfl ?_
  intro p e s m below meth c T B hret hlk hnm
  · have hzi := ix_of (own_z hv).1
    have hzj := ix_of (own_z hv).2.2.1
    have hsl := own_w4n hg
    refine o_aloadN B 0 1 (v := (.ref a)) d8_0 rfl rfl rfl ?_
    obtain ⟨T1, B1, c1⟩ := o_getfield B 1 4 d8_1 rfl (host := "") (Or.inl (hw _ (mi 26 rfl))) Via.refl G0 (Ls := #[vr a, vi x0, vr x1, vi 2, us, us]) (rest := [])
    refine c1 ?_
    refine o_iloadN B1 4 5 (v := x0) d8_4 rfl rfl ?_
    refine o_iaload B1 5 6 A0 x0.toInt.toNat (gs x0.toInt.toNat) d8_5 rfl hzi.1 hzi.2 (own_z hv).2.1 rfl ?_
    refine o_istore B1 6 8 (l' := #[vr a, vi x0, vr x1, vi 2, vi (gs x0.toInt.toNat), us]) d8_6 rfl rfl ?_
    refine o_aloadN B1 8 9 (v := (.ref a)) d8_8 rfl rfl rfl ?_
    obtain ⟨T3, B3, c3⟩ := o_getfield B1 9 12 d8_9 rfl (host := "") (Or.inl (hw _ (mi 26 rfl))) Via.refl G0 (Ls := #[vr a, vi x0, vr x1, vi 2, vi (gs x0.toInt.toNat), us]) (rest := [])
    refine c3 ?_
    refine o_iloadN B3 12 13 (v := x0) d8_12 rfl rfl ?_
    refine o_iconst B3 13 14 (1 : Int32) d8_13 rfl (by decide) ?_
    refine o_iadd B3 14 15 d8_14 rfl ?_
    refine o_iaload B3 15 16 A0 (x0.toInt.toNat + 1) (gs (x0.toInt.toNat + 1)) d8_15 rfl hzj.1 hzj.2 (own_z hv).2.2.2.1 rfl ?_
    refine o_iload B3 16 18 (v := (gs x0.toInt.toNat)) d8_16 rfl rfl ?_
    refine o_isub B3 18 19 d8_18 rfl ?_
    refine o_iloadN B3 19 20 (v := (2 : Int32)) d8_19 rfl rfl ?_
    by_cases k1 : ((gs (x0.toInt.toNat + 1)) - (gs x0.toInt.toNat)) = (2 : Int32)
    · refine o_icY B3 20 25 d8_20 (XT.ii_eq_t k1) (by decide) (by decide) ?_
      refine o_aloadN B3 25 26 (v := (.ref a)) d8_25 rfl rfl rfl ?_
      obtain ⟨T5, B5, c5⟩ := o_getfield B3 26 29 d8_26 rfl (host := "") (Or.inl (hw _ (mi 22 rfl))) Via.refl G1 (Ls := #[vr a, vi x0, vr x1, vi 2, vi (gs x0.toInt.toNat), us]) (rest := [])
      refine c5 ?_
      refine o_nuN B5 29 32 d8_29 rfl ?_
      refine o_iconst B5 32 33 (0 : Int32) d8_32 rfl (by decide) ?_
      refine o_istore B5 33 35 (l' := #[vr a, vi x0, vr x1, vi 2, vi (gs x0.toInt.toNat), vi 0]) d8_33 rfl rfl ?_
      refine o_iload B5 35 37 (v := (0 : Int32)) d8_35 rfl rfl ?_
      refine o_iloadN B5 37 38 (v := (2 : Int32)) d8_37 rfl rfl ?_
      refine o_icN B5 38 41 d8_38 rfl (XT.ii_ge_f (by decide)) ?_
      refine o_aloadN B5 41 42 (v := (.ref a)) d8_41 rfl rfl rfl ?_
      obtain ⟨T6, B6, c6⟩ := o_getfield B5 42 45 d8_42 rfl (host := "") (Or.inl (hw _ (mi 22 rfl))) Via.refl G1 (Ls := #[vr a, vi x0, vr x1, vi 2, vi (gs x0.toInt.toNat), vi 0]) (rest := [])
      refine c6 ?_
      refine o_iload B6 45 47 (v := (gs x0.toInt.toNat)) d8_45 rfl rfl ?_
      refine o_iload B6 47 49 (v := (0 : Int32)) d8_47 rfl rfl ?_
      refine o_iadd B6 49 50 d8_49 rfl ?_
      refine o_baload B6 50 51 A1 ((gs x0.toInt.toNat).toInt.toNat + 0) (gn ((gs x0.toInt.toNat).toInt.toNat + 0)) d8_50 rfl (ix_of (own_si _ 0 hsl (by decide))).1 (ix_of (own_si _ 0 hsl (by decide))).2 (by omega) rfl ?_
      refine o_sipush B6 51 54 (255 : Int32) d8_51 rfl (by decide) ?_
      refine o_iand B6 54 55 d8_54 rfl ?_
      refine o_aloadN B6 55 56 (v := (.ref x1)) d8_55 rfl rfl rfl ?_
      refine o_iload B6 56 58 (v := (0 : Int32)) d8_56 rfl rfl ?_
      refine o_caload B6 58 59 A2 0 (gq 0) d8_58 rfl (by decide) (by decide) (by decide) rfl ?_
      by_cases k2 : ((gn ((gs x0.toInt.toNat).toInt.toNat + 0)) &&& (255 : Int32)) = (gq 0)
      · refine o_icY B6 59 64 d8_59 (XT.ii_eq_t k2) (by decide) (by decide) ?_
        refine o_iincC B6 64 67 (l' := #[vr a, vi x0, vr x1, vi 2, vi (gs x0.toInt.toNat), vi 1]) (1 : Int32) (1 : Int32) d8_64 rfl (by decide) rfl (by decide) rfl ?_
        refine o_goto B6 67 35 d8_67 (by decide) (by decide) ?_
        refine o_iload B6 35 37 (v := (1 : Int32)) d8_35 rfl rfl ?_
        refine o_iloadN B6 37 38 (v := (2 : Int32)) d8_37 rfl rfl ?_
        refine o_icN B6 38 41 d8_38 rfl (XT.ii_ge_f (by decide)) ?_
        refine o_aloadN B6 41 42 (v := (.ref a)) d8_41 rfl rfl rfl ?_
        obtain ⟨T9, B9, c9⟩ := o_getfield B6 42 45 d8_42 rfl (host := "") (Or.inl (hw _ (mi 22 rfl))) Via.refl G1 (Ls := #[vr a, vi x0, vr x1, vi 2, vi (gs x0.toInt.toNat), vi 1]) (rest := [])
        refine c9 ?_
        refine o_iload B9 45 47 (v := (gs x0.toInt.toNat)) d8_45 rfl rfl ?_
        refine o_iload B9 47 49 (v := (1 : Int32)) d8_47 rfl rfl ?_
        refine o_iadd B9 49 50 d8_49 rfl ?_
        refine o_baload B9 50 51 A1 ((gs x0.toInt.toNat).toInt.toNat + 1) (gn ((gs x0.toInt.toNat).toInt.toNat + 1)) d8_50 rfl (ix_of (own_si _ 1 hsl (by decide))).1 (ix_of (own_si _ 1 hsl (by decide))).2 (by omega) rfl ?_
        refine o_sipush B9 51 54 (255 : Int32) d8_51 rfl (by decide) ?_
        refine o_iand B9 54 55 d8_54 rfl ?_
        refine o_aloadN B9 55 56 (v := (.ref x1)) d8_55 rfl rfl rfl ?_
        refine o_iload B9 56 58 (v := (1 : Int32)) d8_56 rfl rfl ?_
        refine o_caload B9 58 59 A2 1 (gq 1) d8_58 rfl (by decide) (by decide) (by decide) rfl ?_
        by_cases k3 : ((gn ((gs x0.toInt.toNat).toInt.toNat + 1)) &&& (255 : Int32)) = (gq 1)
        · refine o_icY B9 59 64 d8_59 (XT.ii_eq_t k3) (by decide) (by decide) ?_
          refine o_iincC B9 64 67 (l' := #[vr a, vi x0, vr x1, vi 2, vi (gs x0.toInt.toNat), vi 2]) (1 : Int32) (2 : Int32) d8_64 rfl (by decide) rfl (by decide) rfl ?_
          refine o_goto B9 67 35 d8_67 (by decide) (by decide) ?_
          refine o_iload B9 35 37 (v := (2 : Int32)) d8_35 rfl rfl ?_
          refine o_iloadN B9 37 38 (v := (2 : Int32)) d8_37 rfl rfl ?_
          refine o_icY B9 38 70 d8_38 (XT.ii_ge_t (by decide)) (by decide) (by decide) ?_
          refine o_iconst B9 70 71 (1 : Int32) d8_70 rfl (by decide) ?_
          refine o_retZ (t := .boolean) B9 71 d8_71 hret hlk (by simp) (by decide) (by decide) ⟨(congrArg (fun z => some (Value.int z)) ((show nar .boolean (1 : Int32) = (1 : Int32) from rfl).trans (show f8_N2 gs gn gq x0 = (1 : Int32) from (if_pos k1).trans ((if_pos k2).trans ((if_pos k3).trans (rfl)))).symm)), rfl, rfl⟩
        · refine o_icN B9 59 62 d8_59 rfl (XT.ii_eq_f k3) ?_
          refine o_iconst B9 62 63 (0 : Int32) d8_62 rfl (by decide) ?_
          refine o_retZ (t := .boolean) B9 63 d8_63 hret hlk (by simp) (by decide) (by decide) ⟨(congrArg (fun z => some (Value.int z)) ((show nar .boolean (0 : Int32) = (0 : Int32) from rfl).trans (show f8_N2 gs gn gq x0 = (0 : Int32) from (if_pos k1).trans ((if_pos k2).trans ((if_neg k3).trans (rfl)))).symm)), rfl, rfl⟩
      · refine o_icN B6 59 62 d8_59 rfl (XT.ii_eq_f k2) ?_
        refine o_iconst B6 62 63 (0 : Int32) d8_62 rfl (by decide) ?_
        refine o_retZ (t := .boolean) B6 63 d8_63 hret hlk (by simp) (by decide) (by decide) ⟨(congrArg (fun z => some (Value.int z)) ((show nar .boolean (0 : Int32) = (0 : Int32) from rfl).trans (show f8_N2 gs gn gq x0 = (0 : Int32) from (if_pos k1).trans ((if_neg k2).trans (rfl))).symm)), rfl, rfl⟩
    · refine o_icN B3 20 23 d8_20 rfl (XT.ii_eq_f k1) ?_
      refine o_iconst B3 23 24 (0 : Int32) d8_23 rfl (by decide) ?_
      refine o_retZ (t := .boolean) B3 24 d8_24 hret hlk (by simp) (by decide) (by decide) ⟨(congrArg (fun z => some (Value.int z)) ((show nar .boolean (0 : Int32) = (0 : Int32) from rfl).trans (show f8_N2 gs gn gq x0 = (0 : Int32) from (if_neg k1).trans (rfl)).symm)), rfl, rfl⟩
def f8_N3 (gs gn gq : Nat → Int32) (x0 : Int32) : Int32 := (if ((gs (x0.toInt.toNat + 1)) - (gs x0.toInt.toNat)) = (3 : Int32) then (if ((gn ((gs x0.toInt.toNat).toInt.toNat + 0)) &&& (255 : Int32)) = (gq 0) then (if ((gn ((gs x0.toInt.toNat).toInt.toNat + 1)) &&& (255 : Int32)) = (gq 1) then (if ((gn ((gs x0.toInt.toNat).toInt.toNat + 2)) &&& (255 : Int32)) = (gq 2) then (1 : Int32) else (0 : Int32)) else (0 : Int32)) else (0 : Int32)) else (0 : Int32))
set_option maxRecDepth 65536 in
set_option maxHeartbeats 40000000 in
theorem rm8_N3 (l : Launch) (Z : State) (a0 : Array Value) (hw : ∀ d ∈ tables_1, d.before a0 Z = true) (a : Addr) (gs : Nat → Int32) (gn : Nat → Int32) (gq : Nat → Int32) (ys : Addr) (yn : Addr) (x0 : Int32) (x1 : Addr) (h0 : Heap) (G0 : Fld Z h0 a "com/example/micro_ranker/microranker/engine/Texts" "starts" "[I" (.ref ys)) (G1 : Fld Z h0 a "com/example/micro_ranker/microranker/engine/Texts" "narrow" "[B" (.ref yn)) (A0 : AI Z h0 ys .int 512 gs) (A1 : AI Z h0 yn .byte 4096 gn) (A2 : AI Z h0 x1 .char 4 gq) (hv : x0.toInt = 0 ∨ x0.toInt = 1) (hg : W4 (gs x0.toInt.toNat)) :
    Met l Z (⟨"com/example/micro_ranker/microranker/engine/Texts", "holds", "(I[CI)Z"⟩ : MethodName) prog_60_method_5_code 6 (some .boolean) ({ frames := 0, cells := 0, slots := 0, locals := 0 } : Room) #[(.ref a), (.int x0), (.ref x1), (.int (3 : Int32))] h0 (Pu (some (.int (f8_N3 gs gn gq x0))) h0) := by
  refine enter pl8 #[vr a, vi x0, vr x1, vi 3, us, us] rfl ?_
  intro p e s m below meth c T B hret hlk hnm
  · have hzi := ix_of (own_z hv).1
    have hzj := ix_of (own_z hv).2.2.1
    have hsl := own_w4n hg
    refine o_aloadN B 0 1 (v := (.ref a)) d8_0 rfl rfl rfl ?_
    obtain ⟨T1, B1, c1⟩ := o_getfield B 1 4 d8_1 rfl (host := "") (Or.inl (hw _ (mi 26 rfl))) Via.refl G0 (Ls := #[vr a, vi x0, vr x1, vi 3, us, us]) (rest := [])
    refine c1 ?_
    refine o_iloadN B1 4 5 (v := x0) d8_4 rfl rfl ?_
    refine o_iaload B1 5 6 A0 x0.toInt.toNat (gs x0.toInt.toNat) d8_5 rfl hzi.1 hzi.2 (own_z hv).2.1 rfl ?_
    refine o_istore B1 6 8 (l' := #[vr a, vi x0, vr x1, vi 3, vi (gs x0.toInt.toNat), us]) d8_6 rfl rfl ?_
    refine o_aloadN B1 8 9 (v := (.ref a)) d8_8 rfl rfl rfl ?_
    obtain ⟨T3, B3, c3⟩ := o_getfield B1 9 12 d8_9 rfl (host := "") (Or.inl (hw _ (mi 26 rfl))) Via.refl G0 (Ls := #[vr a, vi x0, vr x1, vi 3, vi (gs x0.toInt.toNat), us]) (rest := [])
    refine c3 ?_
    refine o_iloadN B3 12 13 (v := x0) d8_12 rfl rfl ?_
    refine o_iconst B3 13 14 (1 : Int32) d8_13 rfl (by decide) ?_
    refine o_iadd B3 14 15 d8_14 rfl ?_
    refine o_iaload B3 15 16 A0 (x0.toInt.toNat + 1) (gs (x0.toInt.toNat + 1)) d8_15 rfl hzj.1 hzj.2 (own_z hv).2.2.2.1 rfl ?_
    refine o_iload B3 16 18 (v := (gs x0.toInt.toNat)) d8_16 rfl rfl ?_
    refine o_isub B3 18 19 d8_18 rfl ?_
    refine o_iloadN B3 19 20 (v := (3 : Int32)) d8_19 rfl rfl ?_
    by_cases k1 : ((gs (x0.toInt.toNat + 1)) - (gs x0.toInt.toNat)) = (3 : Int32)
    · refine o_icY B3 20 25 d8_20 (XT.ii_eq_t k1) (by decide) (by decide) ?_
      refine o_aloadN B3 25 26 (v := (.ref a)) d8_25 rfl rfl rfl ?_
      obtain ⟨T5, B5, c5⟩ := o_getfield B3 26 29 d8_26 rfl (host := "") (Or.inl (hw _ (mi 22 rfl))) Via.refl G1 (Ls := #[vr a, vi x0, vr x1, vi 3, vi (gs x0.toInt.toNat), us]) (rest := [])
      refine c5 ?_
      refine o_nuN B5 29 32 d8_29 rfl ?_
      refine o_iconst B5 32 33 (0 : Int32) d8_32 rfl (by decide) ?_
      refine o_istore B5 33 35 (l' := #[vr a, vi x0, vr x1, vi 3, vi (gs x0.toInt.toNat), vi 0]) d8_33 rfl rfl ?_
      refine o_iload B5 35 37 (v := (0 : Int32)) d8_35 rfl rfl ?_
      refine o_iloadN B5 37 38 (v := (3 : Int32)) d8_37 rfl rfl ?_
      refine o_icN B5 38 41 d8_38 rfl (XT.ii_ge_f (by decide)) ?_
      refine o_aloadN B5 41 42 (v := (.ref a)) d8_41 rfl rfl rfl ?_
      obtain ⟨T6, B6, c6⟩ := o_getfield B5 42 45 d8_42 rfl (host := "") (Or.inl (hw _ (mi 22 rfl))) Via.refl G1 (Ls := #[vr a, vi x0, vr x1, vi 3, vi (gs x0.toInt.toNat), vi 0]) (rest := [])
      refine c6 ?_
      refine o_iload B6 45 47 (v := (gs x0.toInt.toNat)) d8_45 rfl rfl ?_
      refine o_iload B6 47 49 (v := (0 : Int32)) d8_47 rfl rfl ?_
      refine o_iadd B6 49 50 d8_49 rfl ?_
      refine o_baload B6 50 51 A1 ((gs x0.toInt.toNat).toInt.toNat + 0) (gn ((gs x0.toInt.toNat).toInt.toNat + 0)) d8_50 rfl (ix_of (own_si _ 0 hsl (by decide))).1 (ix_of (own_si _ 0 hsl (by decide))).2 (by omega) rfl ?_
      refine o_sipush B6 51 54 (255 : Int32) d8_51 rfl (by decide) ?_
      refine o_iand B6 54 55 d8_54 rfl ?_
      refine o_aloadN B6 55 56 (v := (.ref x1)) d8_55 rfl rfl rfl ?_
      refine o_iload B6 56 58 (v := (0 : Int32)) d8_56 rfl rfl ?_
      refine o_caload B6 58 59 A2 0 (gq 0) d8_58 rfl (by decide) (by decide) (by decide) rfl ?_
      by_cases k2 : ((gn ((gs x0.toInt.toNat).toInt.toNat + 0)) &&& (255 : Int32)) = (gq 0)
      · refine o_icY B6 59 64 d8_59 (XT.ii_eq_t k2) (by decide) (by decide) ?_
        refine o_iincC B6 64 67 (l' := #[vr a, vi x0, vr x1, vi 3, vi (gs x0.toInt.toNat), vi 1]) (1 : Int32) (1 : Int32) d8_64 rfl (by decide) rfl (by decide) rfl ?_
        refine o_goto B6 67 35 d8_67 (by decide) (by decide) ?_
        refine o_iload B6 35 37 (v := (1 : Int32)) d8_35 rfl rfl ?_
        refine o_iloadN B6 37 38 (v := (3 : Int32)) d8_37 rfl rfl ?_
        refine o_icN B6 38 41 d8_38 rfl (XT.ii_ge_f (by decide)) ?_
        refine o_aloadN B6 41 42 (v := (.ref a)) d8_41 rfl rfl rfl ?_
        obtain ⟨T9, B9, c9⟩ := o_getfield B6 42 45 d8_42 rfl (host := "") (Or.inl (hw _ (mi 22 rfl))) Via.refl G1 (Ls := #[vr a, vi x0, vr x1, vi 3, vi (gs x0.toInt.toNat), vi 1]) (rest := [])
        refine c9 ?_
        refine o_iload B9 45 47 (v := (gs x0.toInt.toNat)) d8_45 rfl rfl ?_
        refine o_iload B9 47 49 (v := (1 : Int32)) d8_47 rfl rfl ?_
        refine o_iadd B9 49 50 d8_49 rfl ?_
        refine o_baload B9 50 51 A1 ((gs x0.toInt.toNat).toInt.toNat + 1) (gn ((gs x0.toInt.toNat).toInt.toNat + 1)) d8_50 rfl (ix_of (own_si _ 1 hsl (by decide))).1 (ix_of (own_si _ 1 hsl (by decide))).2 (by omega) rfl ?_
        refine o_sipush B9 51 54 (255 : Int32) d8_51 rfl (by decide) ?_
        refine o_iand B9 54 55 d8_54 rfl ?_
        refine o_aloadN B9 55 56 (v := (.ref x1)) d8_55 rfl rfl rfl ?_
        refine o_iload B9 56 58 (v := (1 : Int32)) d8_56 rfl rfl ?_
        refine o_caload B9 58 59 A2 1 (gq 1) d8_58 rfl (by decide) (by decide) (by decide) rfl ?_
        by_cases k3 : ((gn ((gs x0.toInt.toNat).toInt.toNat + 1)) &&& (255 : Int32)) = (gq 1)
        · refine o_icY B9 59 64 d8_59 (XT.ii_eq_t k3) (by decide) (by decide) ?_
          refine o_iincC B9 64 67 (l' := #[vr a, vi x0, vr x1, vi 3, vi (gs x0.toInt.toNat), vi 2]) (1 : Int32) (2 : Int32) d8_64 rfl (by decide) rfl (by decide) rfl ?_
          refine o_goto B9 67 35 d8_67 (by decide) (by decide) ?_
          refine o_iload B9 35 37 (v := (2 : Int32)) d8_35 rfl rfl ?_
          refine o_iloadN B9 37 38 (v := (3 : Int32)) d8_37 rfl rfl ?_
          refine o_icN B9 38 41 d8_38 rfl (XT.ii_ge_f (by decide)) ?_
          refine o_aloadN B9 41 42 (v := (.ref a)) d8_41 rfl rfl rfl ?_
          obtain ⟨T12, B12, c12⟩ := o_getfield B9 42 45 d8_42 rfl (host := "") (Or.inl (hw _ (mi 22 rfl))) Via.refl G1 (Ls := #[vr a, vi x0, vr x1, vi 3, vi (gs x0.toInt.toNat), vi 2]) (rest := [])
          refine c12 ?_
          refine o_iload B12 45 47 (v := (gs x0.toInt.toNat)) d8_45 rfl rfl ?_
          refine o_iload B12 47 49 (v := (2 : Int32)) d8_47 rfl rfl ?_
          refine o_iadd B12 49 50 d8_49 rfl ?_
          refine o_baload B12 50 51 A1 ((gs x0.toInt.toNat).toInt.toNat + 2) (gn ((gs x0.toInt.toNat).toInt.toNat + 2)) d8_50 rfl (ix_of (own_si _ 2 hsl (by decide))).1 (ix_of (own_si _ 2 hsl (by decide))).2 (by omega) rfl ?_
          refine o_sipush B12 51 54 (255 : Int32) d8_51 rfl (by decide) ?_
          refine o_iand B12 54 55 d8_54 rfl ?_
          refine o_aloadN B12 55 56 (v := (.ref x1)) d8_55 rfl rfl rfl ?_
          refine o_iload B12 56 58 (v := (2 : Int32)) d8_56 rfl rfl ?_
          refine o_caload B12 58 59 A2 2 (gq 2) d8_58 rfl (by decide) (by decide) (by decide) rfl ?_
          by_cases k4 : ((gn ((gs x0.toInt.toNat).toInt.toNat + 2)) &&& (255 : Int32)) = (gq 2)
          · refine o_icY B12 59 64 d8_59 (XT.ii_eq_t k4) (by decide) (by decide) ?_
            refine o_iincC B12 64 67 (l' := #[vr a, vi x0, vr x1, vi 3, vi (gs x0.toInt.toNat), vi 3]) (1 : Int32) (3 : Int32) d8_64 rfl (by decide) rfl (by decide) rfl ?_
            refine o_goto B12 67 35 d8_67 (by decide) (by decide) ?_
            refine o_iload B12 35 37 (v := (3 : Int32)) d8_35 rfl rfl ?_
            refine o_iloadN B12 37 38 (v := (3 : Int32)) d8_37 rfl rfl ?_
            refine o_icY B12 38 70 d8_38 (XT.ii_ge_t (by decide)) (by decide) (by decide) ?_
            refine o_iconst B12 70 71 (1 : Int32) d8_70 rfl (by decide) ?_
            refine o_retZ (t := .boolean) B12 71 d8_71 hret hlk (by simp) (by decide) (by decide) ⟨(congrArg (fun z => some (Value.int z)) ((show nar .boolean (1 : Int32) = (1 : Int32) from rfl).trans (show f8_N3 gs gn gq x0 = (1 : Int32) from (if_pos k1).trans ((if_pos k2).trans ((if_pos k3).trans ((if_pos k4).trans (rfl))))).symm)), rfl, rfl⟩
          · refine o_icN B12 59 62 d8_59 rfl (XT.ii_eq_f k4) ?_
            refine o_iconst B12 62 63 (0 : Int32) d8_62 rfl (by decide) ?_
            refine o_retZ (t := .boolean) B12 63 d8_63 hret hlk (by simp) (by decide) (by decide) ⟨(congrArg (fun z => some (Value.int z)) ((show nar .boolean (0 : Int32) = (0 : Int32) from rfl).trans (show f8_N3 gs gn gq x0 = (0 : Int32) from (if_pos k1).trans ((if_pos k2).trans ((if_pos k3).trans ((if_neg k4).trans (rfl))))).symm)), rfl, rfl⟩
        · refine o_icN B9 59 62 d8_59 rfl (XT.ii_eq_f k3) ?_
          refine o_iconst B9 62 63 (0 : Int32) d8_62 rfl (by decide) ?_
          refine o_retZ (t := .boolean) B9 63 d8_63 hret hlk (by simp) (by decide) (by decide) ⟨(congrArg (fun z => some (Value.int z)) ((show nar .boolean (0 : Int32) = (0 : Int32) from rfl).trans (show f8_N3 gs gn gq x0 = (0 : Int32) from (if_pos k1).trans ((if_pos k2).trans ((if_neg k3).trans (rfl)))).symm)), rfl, rfl⟩
      · refine o_icN B6 59 62 d8_59 rfl (XT.ii_eq_f k2) ?_
        refine o_iconst B6 62 63 (0 : Int32) d8_62 rfl (by decide) ?_
        refine o_retZ (t := .boolean) B6 63 d8_63 hret hlk (by simp) (by decide) (by decide) ⟨(congrArg (fun z => some (Value.int z)) ((show nar .boolean (0 : Int32) = (0 : Int32) from rfl).trans (show f8_N3 gs gn gq x0 = (0 : Int32) from (if_pos k1).trans ((if_neg k2).trans (rfl))).symm)), rfl, rfl⟩
    · refine o_icN B3 20 23 d8_20 rfl (XT.ii_eq_f k1) ?_
      refine o_iconst B3 23 24 (0 : Int32) d8_23 rfl (by decide) ?_
      refine o_retZ (t := .boolean) B3 24 d8_24 hret hlk (by simp) (by decide) (by decide) ⟨(congrArg (fun z => some (Value.int z)) ((show nar .boolean (0 : Int32) = (0 : Int32) from rfl).trans (show f8_N3 gs gn gq x0 = (0 : Int32) from (if_neg k1).trans (rfl)).symm)), rfl, rfl⟩
def f8_N (gs gn gq : Nat → Int32) (x0 x2 : Int32) : Int32 := if x2 = 0 then f8_N0 gs gn gq x0 else if x2 = 1 then f8_N1 gs gn gq x0 else if x2 = 2 then f8_N2 gs gn gq x0 else f8_N3 gs gn gq x0
theorem rm8_N (l : Launch) (Z : State) (a0 : Array Value) (hw : ∀ d ∈ tables_1, d.before a0 Z = true) (a : Addr) (gs gn gq : Nat → Int32) (ys yn : Addr) (x0 : Int32) (x1 : Addr) (x2 : Int32) (h0 : Heap) (G0 : Fld Z h0 a "com/example/micro_ranker/microranker/engine/Texts" "starts" "[I" (.ref ys)) (G1 : Fld Z h0 a "com/example/micro_ranker/microranker/engine/Texts" "narrow" "[B" (.ref yn)) (A0 : AI Z h0 ys .int 512 gs) (A1 : AI Z h0 yn .byte 4096 gn) (A2 : AI Z h0 x1 .char 4 gq) (hv : x0.toInt = 0 ∨ x0.toInt = 1) (hg : W4 (gs x0.toInt.toNat)) (hx : W4 x2) :
    Met l Z (⟨"com/example/micro_ranker/microranker/engine/Texts", "holds", "(I[CI)Z"⟩ : MethodName) prog_60_method_5_code 6 (some .boolean) ({ frames := 0, cells := 0, slots := 0, locals := 0 } : Room) #[(.ref a), (.int x0), (.ref x1), (.int x2)] h0 (Pu (some (.int (f8_N gs gn gq x0 x2))) h0) := by
  rcases own_w4 hx with rfl | rfl | rfl | rfl
  · rw [show f8_N gs gn gq x0 0 = f8_N0 gs gn gq x0 from if_pos rfl]; exact rm8_N0 l Z a0 hw a gs gn gq ys yn x0 x1 h0 G0 G1 A0 A1 A2 hv hg
  · rw [show f8_N gs gn gq x0 1 = f8_N1 gs gn gq x0 from (if_neg (by decide)).trans (if_pos rfl)]; exact rm8_N1 l Z a0 hw a gs gn gq ys yn x0 x1 h0 G0 G1 A0 A1 A2 hv hg
  · rw [show f8_N gs gn gq x0 2 = f8_N2 gs gn gq x0 from (if_neg (by decide)).trans ((if_neg (by decide)).trans (if_pos rfl))]; exact rm8_N2 l Z a0 hw a gs gn gq ys yn x0 x1 h0 G0 G1 A0 A1 A2 hv hg
  · rw [show f8_N gs gn gq x0 3 = f8_N3 gs gn gq x0 from (if_neg (by decide)).trans ((if_neg (by decide)).trans (if_neg (by decide)))]; exact rm8_N3 l Z a0 hw a gs gn gq ys yn x0 x1 h0 G0 G1 A0 A1 A2 hv hg
def f8_W0 (gs gn gq : Nat → Int32) (x0 : Int32) : Int32 := (if ((gs (x0.toInt.toNat + 1)) - (gs x0.toInt.toNat)) = (0 : Int32) then (1 : Int32) else (0 : Int32))
set_option maxRecDepth 65536 in
set_option maxHeartbeats 40000000 in
theorem rm8_W0 (l : Launch) (Z : State) (a0 : Array Value) (hw : ∀ d ∈ tables_1, d.before a0 Z = true) (a : Addr) (gs : Nat → Int32) (gn : Nat → Int32) (gq : Nat → Int32) (ys : Addr) (yn : Addr) (x0 : Int32) (x1 : Addr) (h0 : Heap) (G0 : Fld Z h0 a "com/example/micro_ranker/microranker/engine/Texts" "starts" "[I" (.ref ys)) (G1 : Fld Z h0 a "com/example/micro_ranker/microranker/engine/Texts" "narrow" "[B" .null) (G2 : Fld Z h0 a "com/example/micro_ranker/microranker/engine/Texts" "characters" "[C" (.ref yn)) (A0 : AI Z h0 ys .int 512 gs) (A1 : AI Z h0 yn .char 8192 gn) (A2 : AI Z h0 x1 .char 4 gq) (hv : x0.toInt = 0 ∨ x0.toInt = 1) (hg : W4 (gs x0.toInt.toNat)) :
    Met l Z (⟨"com/example/micro_ranker/microranker/engine/Texts", "holds", "(I[CI)Z"⟩ : MethodName) prog_60_method_5_code 6 (some .boolean) ({ frames := 0, cells := 0, slots := 0, locals := 0 } : Room) #[(.ref a), (.int x0), (.ref x1), (.int (0 : Int32))] h0 (Pu (some (.int (f8_W0 gs gn gq x0))) h0) := by
  refine enter pl8 #[vr a, vi x0, vr x1, vi 0, us, us] rfl ?_
  intro p e s m below meth c T B hret hlk hnm
  · have hzi := ix_of (own_z hv).1
    have hzj := ix_of (own_z hv).2.2.1
    have hsl := own_w4n hg
    refine o_aloadN B 0 1 (v := (.ref a)) d8_0 rfl rfl rfl ?_
    obtain ⟨T1, B1, c1⟩ := o_getfield B 1 4 d8_1 rfl (host := "") (Or.inl (hw _ (mi 26 rfl))) Via.refl G0 (Ls := #[vr a, vi x0, vr x1, vi 0, us, us]) (rest := [])
    refine c1 ?_
    refine o_iloadN B1 4 5 (v := x0) d8_4 rfl rfl ?_
    refine o_iaload B1 5 6 A0 x0.toInt.toNat (gs x0.toInt.toNat) d8_5 rfl hzi.1 hzi.2 (own_z hv).2.1 rfl ?_
    refine o_istore B1 6 8 (l' := #[vr a, vi x0, vr x1, vi 0, vi (gs x0.toInt.toNat), us]) d8_6 rfl rfl ?_
    refine o_aloadN B1 8 9 (v := (.ref a)) d8_8 rfl rfl rfl ?_
    obtain ⟨T3, B3, c3⟩ := o_getfield B1 9 12 d8_9 rfl (host := "") (Or.inl (hw _ (mi 26 rfl))) Via.refl G0 (Ls := #[vr a, vi x0, vr x1, vi 0, vi (gs x0.toInt.toNat), us]) (rest := [])
    refine c3 ?_
    refine o_iloadN B3 12 13 (v := x0) d8_12 rfl rfl ?_
    refine o_iconst B3 13 14 (1 : Int32) d8_13 rfl (by decide) ?_
    refine o_iadd B3 14 15 d8_14 rfl ?_
    refine o_iaload B3 15 16 A0 (x0.toInt.toNat + 1) (gs (x0.toInt.toNat + 1)) d8_15 rfl hzj.1 hzj.2 (own_z hv).2.2.2.1 rfl ?_
    refine o_iload B3 16 18 (v := (gs x0.toInt.toNat)) d8_16 rfl rfl ?_
    refine o_isub B3 18 19 d8_18 rfl ?_
    refine o_iloadN B3 19 20 (v := (0 : Int32)) d8_19 rfl rfl ?_
    by_cases k1 : ((gs (x0.toInt.toNat + 1)) - (gs x0.toInt.toNat)) = (0 : Int32)
    · refine o_icY B3 20 25 d8_20 (XT.ii_eq_t k1) (by decide) (by decide) ?_
      refine o_aloadN B3 25 26 (v := (.ref a)) d8_25 rfl rfl rfl ?_
      obtain ⟨T5, B5, c5⟩ := o_getfield B3 26 29 d8_26 rfl (host := "") (Or.inl (hw _ (mi 22 rfl))) Via.refl G1 (Ls := #[vr a, vi x0, vr x1, vi 0, vi (gs x0.toInt.toNat), us]) (rest := [])
      refine c5 ?_
      refine o_nuY B5 29 72 d8_29 (by decide) (by decide) ?_
      refine o_iconst B5 72 73 (0 : Int32) d8_72 rfl (by decide) ?_
      refine o_istore B5 73 75 (l' := #[vr a, vi x0, vr x1, vi 0, vi (gs x0.toInt.toNat), vi 0]) d8_73 rfl rfl ?_
      refine o_iload B5 75 77 (v := (0 : Int32)) d8_75 rfl rfl ?_
      refine o_iloadN B5 77 78 (v := (0 : Int32)) d8_77 rfl rfl ?_
      refine o_icY B5 78 106 d8_78 (XT.ii_ge_t (by decide)) (by decide) (by decide) ?_
      refine o_iconst B5 106 107 (1 : Int32) d8_106 rfl (by decide) ?_
      refine o_retZ (t := .boolean) B5 107 d8_107 hret hlk (by simp) (by decide) (by decide) ⟨(congrArg (fun z => some (Value.int z)) ((show nar .boolean (1 : Int32) = (1 : Int32) from rfl).trans (show f8_W0 gs gn gq x0 = (1 : Int32) from (if_pos k1).trans (rfl)).symm)), rfl, rfl⟩
    · refine o_icN B3 20 23 d8_20 rfl (XT.ii_eq_f k1) ?_
      refine o_iconst B3 23 24 (0 : Int32) d8_23 rfl (by decide) ?_
      refine o_retZ (t := .boolean) B3 24 d8_24 hret hlk (by simp) (by decide) (by decide) ⟨(congrArg (fun z => some (Value.int z)) ((show nar .boolean (0 : Int32) = (0 : Int32) from rfl).trans (show f8_W0 gs gn gq x0 = (0 : Int32) from (if_neg k1).trans (rfl)).symm)), rfl, rfl⟩
def f8_W1 (gs gn gq : Nat → Int32) (x0 : Int32) : Int32 := (if ((gs (x0.toInt.toNat + 1)) - (gs x0.toInt.toNat)) = (1 : Int32) then (if (gn ((gs x0.toInt.toNat).toInt.toNat + 0)) = (gq 0) then (1 : Int32) else (0 : Int32)) else (0 : Int32))
set_option maxRecDepth 65536 in
set_option maxHeartbeats 40000000 in
theorem rm8_W1 (l : Launch) (Z : State) (a0 : Array Value) (hw : ∀ d ∈ tables_1, d.before a0 Z = true) (a : Addr) (gs : Nat → Int32) (gn : Nat → Int32) (gq : Nat → Int32) (ys : Addr) (yn : Addr) (x0 : Int32) (x1 : Addr) (h0 : Heap) (G0 : Fld Z h0 a "com/example/micro_ranker/microranker/engine/Texts" "starts" "[I" (.ref ys)) (G1 : Fld Z h0 a "com/example/micro_ranker/microranker/engine/Texts" "narrow" "[B" .null) (G2 : Fld Z h0 a "com/example/micro_ranker/microranker/engine/Texts" "characters" "[C" (.ref yn)) (A0 : AI Z h0 ys .int 512 gs) (A1 : AI Z h0 yn .char 8192 gn) (A2 : AI Z h0 x1 .char 4 gq) (hv : x0.toInt = 0 ∨ x0.toInt = 1) (hg : W4 (gs x0.toInt.toNat)) :
    Met l Z (⟨"com/example/micro_ranker/microranker/engine/Texts", "holds", "(I[CI)Z"⟩ : MethodName) prog_60_method_5_code 6 (some .boolean) ({ frames := 0, cells := 0, slots := 0, locals := 0 } : Room) #[(.ref a), (.int x0), (.ref x1), (.int (1 : Int32))] h0 (Pu (some (.int (f8_W1 gs gn gq x0))) h0) := by
  refine enter pl8 #[vr a, vi x0, vr x1, vi 1, us, us] rfl ?_
  intro p e s m below meth c T B hret hlk hnm
  · have hzi := ix_of (own_z hv).1
    have hzj := ix_of (own_z hv).2.2.1
    have hsl := own_w4n hg
    refine o_aloadN B 0 1 (v := (.ref a)) d8_0 rfl rfl rfl ?_
    obtain ⟨T1, B1, c1⟩ := o_getfield B 1 4 d8_1 rfl (host := "") (Or.inl (hw _ (mi 26 rfl))) Via.refl G0 (Ls := #[vr a, vi x0, vr x1, vi 1, us, us]) (rest := [])
    refine c1 ?_
    refine o_iloadN B1 4 5 (v := x0) d8_4 rfl rfl ?_
    refine o_iaload B1 5 6 A0 x0.toInt.toNat (gs x0.toInt.toNat) d8_5 rfl hzi.1 hzi.2 (own_z hv).2.1 rfl ?_
    refine o_istore B1 6 8 (l' := #[vr a, vi x0, vr x1, vi 1, vi (gs x0.toInt.toNat), us]) d8_6 rfl rfl ?_
    refine o_aloadN B1 8 9 (v := (.ref a)) d8_8 rfl rfl rfl ?_
    obtain ⟨T3, B3, c3⟩ := o_getfield B1 9 12 d8_9 rfl (host := "") (Or.inl (hw _ (mi 26 rfl))) Via.refl G0 (Ls := #[vr a, vi x0, vr x1, vi 1, vi (gs x0.toInt.toNat), us]) (rest := [])
    refine c3 ?_
    refine o_iloadN B3 12 13 (v := x0) d8_12 rfl rfl ?_
    refine o_iconst B3 13 14 (1 : Int32) d8_13 rfl (by decide) ?_
    refine o_iadd B3 14 15 d8_14 rfl ?_
    refine o_iaload B3 15 16 A0 (x0.toInt.toNat + 1) (gs (x0.toInt.toNat + 1)) d8_15 rfl hzj.1 hzj.2 (own_z hv).2.2.2.1 rfl ?_
    refine o_iload B3 16 18 (v := (gs x0.toInt.toNat)) d8_16 rfl rfl ?_
    refine o_isub B3 18 19 d8_18 rfl ?_
    refine o_iloadN B3 19 20 (v := (1 : Int32)) d8_19 rfl rfl ?_
    by_cases k1 : ((gs (x0.toInt.toNat + 1)) - (gs x0.toInt.toNat)) = (1 : Int32)
    · refine o_icY B3 20 25 d8_20 (XT.ii_eq_t k1) (by decide) (by decide) ?_
      refine o_aloadN B3 25 26 (v := (.ref a)) d8_25 rfl rfl rfl ?_
      obtain ⟨T5, B5, c5⟩ := o_getfield B3 26 29 d8_26 rfl (host := "") (Or.inl (hw _ (mi 22 rfl))) Via.refl G1 (Ls := #[vr a, vi x0, vr x1, vi 1, vi (gs x0.toInt.toNat), us]) (rest := [])
      refine c5 ?_
      refine o_nuY B5 29 72 d8_29 (by decide) (by decide) ?_
      refine o_iconst B5 72 73 (0 : Int32) d8_72 rfl (by decide) ?_
      refine o_istore B5 73 75 (l' := #[vr a, vi x0, vr x1, vi 1, vi (gs x0.toInt.toNat), vi 0]) d8_73 rfl rfl ?_
      refine o_iload B5 75 77 (v := (0 : Int32)) d8_75 rfl rfl ?_
      refine o_iloadN B5 77 78 (v := (1 : Int32)) d8_77 rfl rfl ?_
      refine o_icN B5 78 81 d8_78 rfl (XT.ii_ge_f (by decide)) ?_
      refine o_aloadN B5 81 82 (v := (.ref a)) d8_81 rfl rfl rfl ?_
      obtain ⟨T6, B6, c6⟩ := o_getfield B5 82 85 d8_82 rfl (host := "") (Or.inl (hw _ (mi 24 rfl))) Via.refl G2 (Ls := #[vr a, vi x0, vr x1, vi 1, vi (gs x0.toInt.toNat), vi 0]) (rest := [])
      refine c6 ?_
      refine o_iload B6 85 87 (v := (gs x0.toInt.toNat)) d8_85 rfl rfl ?_
      refine o_iload B6 87 89 (v := (0 : Int32)) d8_87 rfl rfl ?_
      refine o_iadd B6 89 90 d8_89 rfl ?_
      refine o_caload B6 90 91 A1 ((gs x0.toInt.toNat).toInt.toNat + 0) (gn ((gs x0.toInt.toNat).toInt.toNat + 0)) d8_90 rfl (ix_of (own_si _ 0 hsl (by decide))).1 (ix_of (own_si _ 0 hsl (by decide))).2 (by omega) rfl ?_
      refine o_aloadN B6 91 92 (v := (.ref x1)) d8_91 rfl rfl rfl ?_
      refine o_iload B6 92 94 (v := (0 : Int32)) d8_92 rfl rfl ?_
      refine o_caload B6 94 95 A2 0 (gq 0) d8_94 rfl (by decide) (by decide) (by decide) rfl ?_
      by_cases k2 : (gn ((gs x0.toInt.toNat).toInt.toNat + 0)) = (gq 0)
      · refine o_icY B6 95 100 d8_95 (XT.ii_eq_t k2) (by decide) (by decide) ?_
        refine o_iincC B6 100 103 (l' := #[vr a, vi x0, vr x1, vi 1, vi (gs x0.toInt.toNat), vi 1]) (1 : Int32) (1 : Int32) d8_100 rfl (by decide) rfl (by decide) rfl ?_
        refine o_goto B6 103 75 d8_103 (by decide) (by decide) ?_
        refine o_iload B6 75 77 (v := (1 : Int32)) d8_75 rfl rfl ?_
        refine o_iloadN B6 77 78 (v := (1 : Int32)) d8_77 rfl rfl ?_
        refine o_icY B6 78 106 d8_78 (XT.ii_ge_t (by decide)) (by decide) (by decide) ?_
        refine o_iconst B6 106 107 (1 : Int32) d8_106 rfl (by decide) ?_
        refine o_retZ (t := .boolean) B6 107 d8_107 hret hlk (by simp) (by decide) (by decide) ⟨(congrArg (fun z => some (Value.int z)) ((show nar .boolean (1 : Int32) = (1 : Int32) from rfl).trans (show f8_W1 gs gn gq x0 = (1 : Int32) from (if_pos k1).trans ((if_pos k2).trans (rfl))).symm)), rfl, rfl⟩
      · refine o_icN B6 95 98 d8_95 rfl (XT.ii_eq_f k2) ?_
        refine o_iconst B6 98 99 (0 : Int32) d8_98 rfl (by decide) ?_
        refine o_retZ (t := .boolean) B6 99 d8_99 hret hlk (by simp) (by decide) (by decide) ⟨(congrArg (fun z => some (Value.int z)) ((show nar .boolean (0 : Int32) = (0 : Int32) from rfl).trans (show f8_W1 gs gn gq x0 = (0 : Int32) from (if_pos k1).trans ((if_neg k2).trans (rfl))).symm)), rfl, rfl⟩
    · refine o_icN B3 20 23 d8_20 rfl (XT.ii_eq_f k1) ?_
      refine o_iconst B3 23 24 (0 : Int32) d8_23 rfl (by decide) ?_
      refine o_retZ (t := .boolean) B3 24 d8_24 hret hlk (by simp) (by decide) (by decide) ⟨(congrArg (fun z => some (Value.int z)) ((show nar .boolean (0 : Int32) = (0 : Int32) from rfl).trans (show f8_W1 gs gn gq x0 = (0 : Int32) from (if_neg k1).trans (rfl)).symm)), rfl, rfl⟩
def f8_W2 (gs gn gq : Nat → Int32) (x0 : Int32) : Int32 := (if ((gs (x0.toInt.toNat + 1)) - (gs x0.toInt.toNat)) = (2 : Int32) then (if (gn ((gs x0.toInt.toNat).toInt.toNat + 0)) = (gq 0) then (if (gn ((gs x0.toInt.toNat).toInt.toNat + 1)) = (gq 1) then (1 : Int32) else (0 : Int32)) else (0 : Int32)) else (0 : Int32))
set_option maxRecDepth 65536 in
set_option maxHeartbeats 40000000 in
theorem rm8_W2 (l : Launch) (Z : State) (a0 : Array Value) (hw : ∀ d ∈ tables_1, d.before a0 Z = true) (a : Addr) (gs : Nat → Int32) (gn : Nat → Int32) (gq : Nat → Int32) (ys : Addr) (yn : Addr) (x0 : Int32) (x1 : Addr) (h0 : Heap) (G0 : Fld Z h0 a "com/example/micro_ranker/microranker/engine/Texts" "starts" "[I" (.ref ys)) (G1 : Fld Z h0 a "com/example/micro_ranker/microranker/engine/Texts" "narrow" "[B" .null) (G2 : Fld Z h0 a "com/example/micro_ranker/microranker/engine/Texts" "characters" "[C" (.ref yn)) (A0 : AI Z h0 ys .int 512 gs) (A1 : AI Z h0 yn .char 8192 gn) (A2 : AI Z h0 x1 .char 4 gq) (hv : x0.toInt = 0 ∨ x0.toInt = 1) (hg : W4 (gs x0.toInt.toNat)) :
    Met l Z (⟨"com/example/micro_ranker/microranker/engine/Texts", "holds", "(I[CI)Z"⟩ : MethodName) prog_60_method_5_code 6 (some .boolean) ({ frames := 0, cells := 0, slots := 0, locals := 0 } : Room) #[(.ref a), (.int x0), (.ref x1), (.int (2 : Int32))] h0 (Pu (some (.int (f8_W2 gs gn gq x0))) h0) := by
  refine enter pl8 #[vr a, vi x0, vr x1, vi 2, us, us] rfl ?_
  intro p e s m below meth c T B hret hlk hnm
  · have hzi := ix_of (own_z hv).1
    have hzj := ix_of (own_z hv).2.2.1
    have hsl := own_w4n hg
    refine o_aloadN B 0 1 (v := (.ref a)) d8_0 rfl rfl rfl ?_
    obtain ⟨T1, B1, c1⟩ := o_getfield B 1 4 d8_1 rfl (host := "") (Or.inl (hw _ (mi 26 rfl))) Via.refl G0 (Ls := #[vr a, vi x0, vr x1, vi 2, us, us]) (rest := [])
    refine c1 ?_
    refine o_iloadN B1 4 5 (v := x0) d8_4 rfl rfl ?_
    refine o_iaload B1 5 6 A0 x0.toInt.toNat (gs x0.toInt.toNat) d8_5 rfl hzi.1 hzi.2 (own_z hv).2.1 rfl ?_
    refine o_istore B1 6 8 (l' := #[vr a, vi x0, vr x1, vi 2, vi (gs x0.toInt.toNat), us]) d8_6 rfl rfl ?_
    refine o_aloadN B1 8 9 (v := (.ref a)) d8_8 rfl rfl rfl ?_
    obtain ⟨T3, B3, c3⟩ := o_getfield B1 9 12 d8_9 rfl (host := "") (Or.inl (hw _ (mi 26 rfl))) Via.refl G0 (Ls := #[vr a, vi x0, vr x1, vi 2, vi (gs x0.toInt.toNat), us]) (rest := [])
    refine c3 ?_
    refine o_iloadN B3 12 13 (v := x0) d8_12 rfl rfl ?_
    refine o_iconst B3 13 14 (1 : Int32) d8_13 rfl (by decide) ?_
    refine o_iadd B3 14 15 d8_14 rfl ?_
    refine o_iaload B3 15 16 A0 (x0.toInt.toNat + 1) (gs (x0.toInt.toNat + 1)) d8_15 rfl hzj.1 hzj.2 (own_z hv).2.2.2.1 rfl ?_
    refine o_iload B3 16 18 (v := (gs x0.toInt.toNat)) d8_16 rfl rfl ?_
    refine o_isub B3 18 19 d8_18 rfl ?_
    refine o_iloadN B3 19 20 (v := (2 : Int32)) d8_19 rfl rfl ?_
    by_cases k1 : ((gs (x0.toInt.toNat + 1)) - (gs x0.toInt.toNat)) = (2 : Int32)
    · refine o_icY B3 20 25 d8_20 (XT.ii_eq_t k1) (by decide) (by decide) ?_
      refine o_aloadN B3 25 26 (v := (.ref a)) d8_25 rfl rfl rfl ?_
      obtain ⟨T5, B5, c5⟩ := o_getfield B3 26 29 d8_26 rfl (host := "") (Or.inl (hw _ (mi 22 rfl))) Via.refl G1 (Ls := #[vr a, vi x0, vr x1, vi 2, vi (gs x0.toInt.toNat), us]) (rest := [])
      refine c5 ?_
      refine o_nuY B5 29 72 d8_29 (by decide) (by decide) ?_
      refine o_iconst B5 72 73 (0 : Int32) d8_72 rfl (by decide) ?_
      refine o_istore B5 73 75 (l' := #[vr a, vi x0, vr x1, vi 2, vi (gs x0.toInt.toNat), vi 0]) d8_73 rfl rfl ?_
      refine o_iload B5 75 77 (v := (0 : Int32)) d8_75 rfl rfl ?_
      refine o_iloadN B5 77 78 (v := (2 : Int32)) d8_77 rfl rfl ?_
      refine o_icN B5 78 81 d8_78 rfl (XT.ii_ge_f (by decide)) ?_
      refine o_aloadN B5 81 82 (v := (.ref a)) d8_81 rfl rfl rfl ?_
      obtain ⟨T6, B6, c6⟩ := o_getfield B5 82 85 d8_82 rfl (host := "") (Or.inl (hw _ (mi 24 rfl))) Via.refl G2 (Ls := #[vr a, vi x0, vr x1, vi 2, vi (gs x0.toInt.toNat), vi 0]) (rest := [])
      refine c6 ?_
      refine o_iload B6 85 87 (v := (gs x0.toInt.toNat)) d8_85 rfl rfl ?_
      refine o_iload B6 87 89 (v := (0 : Int32)) d8_87 rfl rfl ?_
      refine o_iadd B6 89 90 d8_89 rfl ?_
      refine o_caload B6 90 91 A1 ((gs x0.toInt.toNat).toInt.toNat + 0) (gn ((gs x0.toInt.toNat).toInt.toNat + 0)) d8_90 rfl (ix_of (own_si _ 0 hsl (by decide))).1 (ix_of (own_si _ 0 hsl (by decide))).2 (by omega) rfl ?_
      refine o_aloadN B6 91 92 (v := (.ref x1)) d8_91 rfl rfl rfl ?_
      refine o_iload B6 92 94 (v := (0 : Int32)) d8_92 rfl rfl ?_
      refine o_caload B6 94 95 A2 0 (gq 0) d8_94 rfl (by decide) (by decide) (by decide) rfl ?_
      by_cases k2 : (gn ((gs x0.toInt.toNat).toInt.toNat + 0)) = (gq 0)
      · refine o_icY B6 95 100 d8_95 (XT.ii_eq_t k2) (by decide) (by decide) ?_
        refine o_iincC B6 100 103 (l' := #[vr a, vi x0, vr x1, vi 2, vi (gs x0.toInt.toNat), vi 1]) (1 : Int32) (1 : Int32) d8_100 rfl (by decide) rfl (by decide) rfl ?_
        refine o_goto B6 103 75 d8_103 (by decide) (by decide) ?_
        refine o_iload B6 75 77 (v := (1 : Int32)) d8_75 rfl rfl ?_
        refine o_iloadN B6 77 78 (v := (2 : Int32)) d8_77 rfl rfl ?_
        refine o_icN B6 78 81 d8_78 rfl (XT.ii_ge_f (by decide)) ?_
        refine o_aloadN B6 81 82 (v := (.ref a)) d8_81 rfl rfl rfl ?_
        obtain ⟨T9, B9, c9⟩ := o_getfield B6 82 85 d8_82 rfl (host := "") (Or.inl (hw _ (mi 24 rfl))) Via.refl G2 (Ls := #[vr a, vi x0, vr x1, vi 2, vi (gs x0.toInt.toNat), vi 1]) (rest := [])
        refine c9 ?_
        refine o_iload B9 85 87 (v := (gs x0.toInt.toNat)) d8_85 rfl rfl ?_
        refine o_iload B9 87 89 (v := (1 : Int32)) d8_87 rfl rfl ?_
        refine o_iadd B9 89 90 d8_89 rfl ?_
        refine o_caload B9 90 91 A1 ((gs x0.toInt.toNat).toInt.toNat + 1) (gn ((gs x0.toInt.toNat).toInt.toNat + 1)) d8_90 rfl (ix_of (own_si _ 1 hsl (by decide))).1 (ix_of (own_si _ 1 hsl (by decide))).2 (by omega) rfl ?_
        refine o_aloadN B9 91 92 (v := (.ref x1)) d8_91 rfl rfl rfl ?_
        refine o_iload B9 92 94 (v := (1 : Int32)) d8_92 rfl rfl ?_
        refine o_caload B9 94 95 A2 1 (gq 1) d8_94 rfl (by decide) (by decide) (by decide) rfl ?_
        by_cases k3 : (gn ((gs x0.toInt.toNat).toInt.toNat + 1)) = (gq 1)
        · refine o_icY B9 95 100 d8_95 (XT.ii_eq_t k3) (by decide) (by decide) ?_
          refine o_iincC B9 100 103 (l' := #[vr a, vi x0, vr x1, vi 2, vi (gs x0.toInt.toNat), vi 2]) (1 : Int32) (2 : Int32) d8_100 rfl (by decide) rfl (by decide) rfl ?_
          refine o_goto B9 103 75 d8_103 (by decide) (by decide) ?_
          refine o_iload B9 75 77 (v := (2 : Int32)) d8_75 rfl rfl ?_
          refine o_iloadN B9 77 78 (v := (2 : Int32)) d8_77 rfl rfl ?_
          refine o_icY B9 78 106 d8_78 (XT.ii_ge_t (by decide)) (by decide) (by decide) ?_
          refine o_iconst B9 106 107 (1 : Int32) d8_106 rfl (by decide) ?_
          refine o_retZ (t := .boolean) B9 107 d8_107 hret hlk (by simp) (by decide) (by decide) ⟨(congrArg (fun z => some (Value.int z)) ((show nar .boolean (1 : Int32) = (1 : Int32) from rfl).trans (show f8_W2 gs gn gq x0 = (1 : Int32) from (if_pos k1).trans ((if_pos k2).trans ((if_pos k3).trans (rfl)))).symm)), rfl, rfl⟩
        · refine o_icN B9 95 98 d8_95 rfl (XT.ii_eq_f k3) ?_
          refine o_iconst B9 98 99 (0 : Int32) d8_98 rfl (by decide) ?_
          refine o_retZ (t := .boolean) B9 99 d8_99 hret hlk (by simp) (by decide) (by decide) ⟨(congrArg (fun z => some (Value.int z)) ((show nar .boolean (0 : Int32) = (0 : Int32) from rfl).trans (show f8_W2 gs gn gq x0 = (0 : Int32) from (if_pos k1).trans ((if_pos k2).trans ((if_neg k3).trans (rfl)))).symm)), rfl, rfl⟩
      · refine o_icN B6 95 98 d8_95 rfl (XT.ii_eq_f k2) ?_
        refine o_iconst B6 98 99 (0 : Int32) d8_98 rfl (by decide) ?_
        refine o_retZ (t := .boolean) B6 99 d8_99 hret hlk (by simp) (by decide) (by decide) ⟨(congrArg (fun z => some (Value.int z)) ((show nar .boolean (0 : Int32) = (0 : Int32) from rfl).trans (show f8_W2 gs gn gq x0 = (0 : Int32) from (if_pos k1).trans ((if_neg k2).trans (rfl))).symm)), rfl, rfl⟩
    · refine o_icN B3 20 23 d8_20 rfl (XT.ii_eq_f k1) ?_
      refine o_iconst B3 23 24 (0 : Int32) d8_23 rfl (by decide) ?_
      refine o_retZ (t := .boolean) B3 24 d8_24 hret hlk (by simp) (by decide) (by decide) ⟨(congrArg (fun z => some (Value.int z)) ((show nar .boolean (0 : Int32) = (0 : Int32) from rfl).trans (show f8_W2 gs gn gq x0 = (0 : Int32) from (if_neg k1).trans (rfl)).symm)), rfl, rfl⟩
def f8_W3 (gs gn gq : Nat → Int32) (x0 : Int32) : Int32 := (if ((gs (x0.toInt.toNat + 1)) - (gs x0.toInt.toNat)) = (3 : Int32) then (if (gn ((gs x0.toInt.toNat).toInt.toNat + 0)) = (gq 0) then (if (gn ((gs x0.toInt.toNat).toInt.toNat + 1)) = (gq 1) then (if (gn ((gs x0.toInt.toNat).toInt.toNat + 2)) = (gq 2) then (1 : Int32) else (0 : Int32)) else (0 : Int32)) else (0 : Int32)) else (0 : Int32))
set_option maxRecDepth 65536 in
set_option maxHeartbeats 40000000 in
theorem rm8_W3 (l : Launch) (Z : State) (a0 : Array Value) (hw : ∀ d ∈ tables_1, d.before a0 Z = true) (a : Addr) (gs : Nat → Int32) (gn : Nat → Int32) (gq : Nat → Int32) (ys : Addr) (yn : Addr) (x0 : Int32) (x1 : Addr) (h0 : Heap) (G0 : Fld Z h0 a "com/example/micro_ranker/microranker/engine/Texts" "starts" "[I" (.ref ys)) (G1 : Fld Z h0 a "com/example/micro_ranker/microranker/engine/Texts" "narrow" "[B" .null) (G2 : Fld Z h0 a "com/example/micro_ranker/microranker/engine/Texts" "characters" "[C" (.ref yn)) (A0 : AI Z h0 ys .int 512 gs) (A1 : AI Z h0 yn .char 8192 gn) (A2 : AI Z h0 x1 .char 4 gq) (hv : x0.toInt = 0 ∨ x0.toInt = 1) (hg : W4 (gs x0.toInt.toNat)) :
    Met l Z (⟨"com/example/micro_ranker/microranker/engine/Texts", "holds", "(I[CI)Z"⟩ : MethodName) prog_60_method_5_code 6 (some .boolean) ({ frames := 0, cells := 0, slots := 0, locals := 0 } : Room) #[(.ref a), (.int x0), (.ref x1), (.int (3 : Int32))] h0 (Pu (some (.int (f8_W3 gs gn gq x0))) h0) := by
  refine enter pl8 #[vr a, vi x0, vr x1, vi 3, us, us] rfl ?_
  intro p e s m below meth c T B hret hlk hnm
  · have hzi := ix_of (own_z hv).1
    have hzj := ix_of (own_z hv).2.2.1
    have hsl := own_w4n hg
    refine o_aloadN B 0 1 (v := (.ref a)) d8_0 rfl rfl rfl ?_
    obtain ⟨T1, B1, c1⟩ := o_getfield B 1 4 d8_1 rfl (host := "") (Or.inl (hw _ (mi 26 rfl))) Via.refl G0 (Ls := #[vr a, vi x0, vr x1, vi 3, us, us]) (rest := [])
    refine c1 ?_
    refine o_iloadN B1 4 5 (v := x0) d8_4 rfl rfl ?_
    refine o_iaload B1 5 6 A0 x0.toInt.toNat (gs x0.toInt.toNat) d8_5 rfl hzi.1 hzi.2 (own_z hv).2.1 rfl ?_
    refine o_istore B1 6 8 (l' := #[vr a, vi x0, vr x1, vi 3, vi (gs x0.toInt.toNat), us]) d8_6 rfl rfl ?_
    refine o_aloadN B1 8 9 (v := (.ref a)) d8_8 rfl rfl rfl ?_
    obtain ⟨T3, B3, c3⟩ := o_getfield B1 9 12 d8_9 rfl (host := "") (Or.inl (hw _ (mi 26 rfl))) Via.refl G0 (Ls := #[vr a, vi x0, vr x1, vi 3, vi (gs x0.toInt.toNat), us]) (rest := [])
    refine c3 ?_
    refine o_iloadN B3 12 13 (v := x0) d8_12 rfl rfl ?_
    refine o_iconst B3 13 14 (1 : Int32) d8_13 rfl (by decide) ?_
    refine o_iadd B3 14 15 d8_14 rfl ?_
    refine o_iaload B3 15 16 A0 (x0.toInt.toNat + 1) (gs (x0.toInt.toNat + 1)) d8_15 rfl hzj.1 hzj.2 (own_z hv).2.2.2.1 rfl ?_
    refine o_iload B3 16 18 (v := (gs x0.toInt.toNat)) d8_16 rfl rfl ?_
    refine o_isub B3 18 19 d8_18 rfl ?_
    refine o_iloadN B3 19 20 (v := (3 : Int32)) d8_19 rfl rfl ?_
    by_cases k1 : ((gs (x0.toInt.toNat + 1)) - (gs x0.toInt.toNat)) = (3 : Int32)
    · refine o_icY B3 20 25 d8_20 (XT.ii_eq_t k1) (by decide) (by decide) ?_
      refine o_aloadN B3 25 26 (v := (.ref a)) d8_25 rfl rfl rfl ?_
      obtain ⟨T5, B5, c5⟩ := o_getfield B3 26 29 d8_26 rfl (host := "") (Or.inl (hw _ (mi 22 rfl))) Via.refl G1 (Ls := #[vr a, vi x0, vr x1, vi 3, vi (gs x0.toInt.toNat), us]) (rest := [])
      refine c5 ?_
      refine o_nuY B5 29 72 d8_29 (by decide) (by decide) ?_
      refine o_iconst B5 72 73 (0 : Int32) d8_72 rfl (by decide) ?_
      refine o_istore B5 73 75 (l' := #[vr a, vi x0, vr x1, vi 3, vi (gs x0.toInt.toNat), vi 0]) d8_73 rfl rfl ?_
      refine o_iload B5 75 77 (v := (0 : Int32)) d8_75 rfl rfl ?_
      refine o_iloadN B5 77 78 (v := (3 : Int32)) d8_77 rfl rfl ?_
      refine o_icN B5 78 81 d8_78 rfl (XT.ii_ge_f (by decide)) ?_
      refine o_aloadN B5 81 82 (v := (.ref a)) d8_81 rfl rfl rfl ?_
      obtain ⟨T6, B6, c6⟩ := o_getfield B5 82 85 d8_82 rfl (host := "") (Or.inl (hw _ (mi 24 rfl))) Via.refl G2 (Ls := #[vr a, vi x0, vr x1, vi 3, vi (gs x0.toInt.toNat), vi 0]) (rest := [])
      refine c6 ?_
      refine o_iload B6 85 87 (v := (gs x0.toInt.toNat)) d8_85 rfl rfl ?_
      refine o_iload B6 87 89 (v := (0 : Int32)) d8_87 rfl rfl ?_
      refine o_iadd B6 89 90 d8_89 rfl ?_
      refine o_caload B6 90 91 A1 ((gs x0.toInt.toNat).toInt.toNat + 0) (gn ((gs x0.toInt.toNat).toInt.toNat + 0)) d8_90 rfl (ix_of (own_si _ 0 hsl (by decide))).1 (ix_of (own_si _ 0 hsl (by decide))).2 (by omega) rfl ?_
      refine o_aloadN B6 91 92 (v := (.ref x1)) d8_91 rfl rfl rfl ?_
      refine o_iload B6 92 94 (v := (0 : Int32)) d8_92 rfl rfl ?_
      refine o_caload B6 94 95 A2 0 (gq 0) d8_94 rfl (by decide) (by decide) (by decide) rfl ?_
      by_cases k2 : (gn ((gs x0.toInt.toNat).toInt.toNat + 0)) = (gq 0)
      · refine o_icY B6 95 100 d8_95 (XT.ii_eq_t k2) (by decide) (by decide) ?_
        refine o_iincC B6 100 103 (l' := #[vr a, vi x0, vr x1, vi 3, vi (gs x0.toInt.toNat), vi 1]) (1 : Int32) (1 : Int32) d8_100 rfl (by decide) rfl (by decide) rfl ?_
        refine o_goto B6 103 75 d8_103 (by decide) (by decide) ?_
        refine o_iload B6 75 77 (v := (1 : Int32)) d8_75 rfl rfl ?_
        refine o_iloadN B6 77 78 (v := (3 : Int32)) d8_77 rfl rfl ?_
        refine o_icN B6 78 81 d8_78 rfl (XT.ii_ge_f (by decide)) ?_
        refine o_aloadN B6 81 82 (v := (.ref a)) d8_81 rfl rfl rfl ?_
        obtain ⟨T9, B9, c9⟩ := o_getfield B6 82 85 d8_82 rfl (host := "") (Or.inl (hw _ (mi 24 rfl))) Via.refl G2 (Ls := #[vr a, vi x0, vr x1, vi 3, vi (gs x0.toInt.toNat), vi 1]) (rest := [])
        refine c9 ?_
        refine o_iload B9 85 87 (v := (gs x0.toInt.toNat)) d8_85 rfl rfl ?_
        refine o_iload B9 87 89 (v := (1 : Int32)) d8_87 rfl rfl ?_
        refine o_iadd B9 89 90 d8_89 rfl ?_
        refine o_caload B9 90 91 A1 ((gs x0.toInt.toNat).toInt.toNat + 1) (gn ((gs x0.toInt.toNat).toInt.toNat + 1)) d8_90 rfl (ix_of (own_si _ 1 hsl (by decide))).1 (ix_of (own_si _ 1 hsl (by decide))).2 (by omega) rfl ?_
        refine o_aloadN B9 91 92 (v := (.ref x1)) d8_91 rfl rfl rfl ?_
        refine o_iload B9 92 94 (v := (1 : Int32)) d8_92 rfl rfl ?_
        refine o_caload B9 94 95 A2 1 (gq 1) d8_94 rfl (by decide) (by decide) (by decide) rfl ?_
        by_cases k3 : (gn ((gs x0.toInt.toNat).toInt.toNat + 1)) = (gq 1)
        · refine o_icY B9 95 100 d8_95 (XT.ii_eq_t k3) (by decide) (by decide) ?_
          refine o_iincC B9 100 103 (l' := #[vr a, vi x0, vr x1, vi 3, vi (gs x0.toInt.toNat), vi 2]) (1 : Int32) (2 : Int32) d8_100 rfl (by decide) rfl (by decide) rfl ?_
          refine o_goto B9 103 75 d8_103 (by decide) (by decide) ?_
          refine o_iload B9 75 77 (v := (2 : Int32)) d8_75 rfl rfl ?_
          refine o_iloadN B9 77 78 (v := (3 : Int32)) d8_77 rfl rfl ?_
          refine o_icN B9 78 81 d8_78 rfl (XT.ii_ge_f (by decide)) ?_
          refine o_aloadN B9 81 82 (v := (.ref a)) d8_81 rfl rfl rfl ?_
          obtain ⟨T12, B12, c12⟩ := o_getfield B9 82 85 d8_82 rfl (host := "") (Or.inl (hw _ (mi 24 rfl))) Via.refl G2 (Ls := #[vr a, vi x0, vr x1, vi 3, vi (gs x0.toInt.toNat), vi 2]) (rest := [])
          refine c12 ?_
          refine o_iload B12 85 87 (v := (gs x0.toInt.toNat)) d8_85 rfl rfl ?_
          refine o_iload B12 87 89 (v := (2 : Int32)) d8_87 rfl rfl ?_
          refine o_iadd B12 89 90 d8_89 rfl ?_
          refine o_caload B12 90 91 A1 ((gs x0.toInt.toNat).toInt.toNat + 2) (gn ((gs x0.toInt.toNat).toInt.toNat + 2)) d8_90 rfl (ix_of (own_si _ 2 hsl (by decide))).1 (ix_of (own_si _ 2 hsl (by decide))).2 (by omega) rfl ?_
          refine o_aloadN B12 91 92 (v := (.ref x1)) d8_91 rfl rfl rfl ?_
          refine o_iload B12 92 94 (v := (2 : Int32)) d8_92 rfl rfl ?_
          refine o_caload B12 94 95 A2 2 (gq 2) d8_94 rfl (by decide) (by decide) (by decide) rfl ?_
          by_cases k4 : (gn ((gs x0.toInt.toNat).toInt.toNat + 2)) = (gq 2)
          · refine o_icY B12 95 100 d8_95 (XT.ii_eq_t k4) (by decide) (by decide) ?_
            refine o_iincC B12 100 103 (l' := #[vr a, vi x0, vr x1, vi 3, vi (gs x0.toInt.toNat), vi 3]) (1 : Int32) (3 : Int32) d8_100 rfl (by decide) rfl (by decide) rfl ?_
            refine o_goto B12 103 75 d8_103 (by decide) (by decide) ?_
            refine o_iload B12 75 77 (v := (3 : Int32)) d8_75 rfl rfl ?_
            refine o_iloadN B12 77 78 (v := (3 : Int32)) d8_77 rfl rfl ?_
            refine o_icY B12 78 106 d8_78 (XT.ii_ge_t (by decide)) (by decide) (by decide) ?_
            refine o_iconst B12 106 107 (1 : Int32) d8_106 rfl (by decide) ?_
            refine o_retZ (t := .boolean) B12 107 d8_107 hret hlk (by simp) (by decide) (by decide) ⟨(congrArg (fun z => some (Value.int z)) ((show nar .boolean (1 : Int32) = (1 : Int32) from rfl).trans (show f8_W3 gs gn gq x0 = (1 : Int32) from (if_pos k1).trans ((if_pos k2).trans ((if_pos k3).trans ((if_pos k4).trans (rfl))))).symm)), rfl, rfl⟩
          · refine o_icN B12 95 98 d8_95 rfl (XT.ii_eq_f k4) ?_
            refine o_iconst B12 98 99 (0 : Int32) d8_98 rfl (by decide) ?_
            refine o_retZ (t := .boolean) B12 99 d8_99 hret hlk (by simp) (by decide) (by decide) ⟨(congrArg (fun z => some (Value.int z)) ((show nar .boolean (0 : Int32) = (0 : Int32) from rfl).trans (show f8_W3 gs gn gq x0 = (0 : Int32) from (if_pos k1).trans ((if_pos k2).trans ((if_pos k3).trans ((if_neg k4).trans (rfl))))).symm)), rfl, rfl⟩
        · refine o_icN B9 95 98 d8_95 rfl (XT.ii_eq_f k3) ?_
          refine o_iconst B9 98 99 (0 : Int32) d8_98 rfl (by decide) ?_
          refine o_retZ (t := .boolean) B9 99 d8_99 hret hlk (by simp) (by decide) (by decide) ⟨(congrArg (fun z => some (Value.int z)) ((show nar .boolean (0 : Int32) = (0 : Int32) from rfl).trans (show f8_W3 gs gn gq x0 = (0 : Int32) from (if_pos k1).trans ((if_pos k2).trans ((if_neg k3).trans (rfl)))).symm)), rfl, rfl⟩
      · refine o_icN B6 95 98 d8_95 rfl (XT.ii_eq_f k2) ?_
        refine o_iconst B6 98 99 (0 : Int32) d8_98 rfl (by decide) ?_
        refine o_retZ (t := .boolean) B6 99 d8_99 hret hlk (by simp) (by decide) (by decide) ⟨(congrArg (fun z => some (Value.int z)) ((show nar .boolean (0 : Int32) = (0 : Int32) from rfl).trans (show f8_W3 gs gn gq x0 = (0 : Int32) from (if_pos k1).trans ((if_neg k2).trans (rfl))).symm)), rfl, rfl⟩
    · refine o_icN B3 20 23 d8_20 rfl (XT.ii_eq_f k1) ?_
      refine o_iconst B3 23 24 (0 : Int32) d8_23 rfl (by decide) ?_
      refine o_retZ (t := .boolean) B3 24 d8_24 hret hlk (by simp) (by decide) (by decide) ⟨(congrArg (fun z => some (Value.int z)) ((show nar .boolean (0 : Int32) = (0 : Int32) from rfl).trans (show f8_W3 gs gn gq x0 = (0 : Int32) from (if_neg k1).trans (rfl)).symm)), rfl, rfl⟩
def f8_W (gs gn gq : Nat → Int32) (x0 x2 : Int32) : Int32 := if x2 = 0 then f8_W0 gs gn gq x0 else if x2 = 1 then f8_W1 gs gn gq x0 else if x2 = 2 then f8_W2 gs gn gq x0 else f8_W3 gs gn gq x0
theorem rm8_W (l : Launch) (Z : State) (a0 : Array Value) (hw : ∀ d ∈ tables_1, d.before a0 Z = true) (a : Addr) (gs gn gq : Nat → Int32) (ys yn : Addr) (x0 : Int32) (x1 : Addr) (x2 : Int32) (h0 : Heap) (G0 : Fld Z h0 a "com/example/micro_ranker/microranker/engine/Texts" "starts" "[I" (.ref ys)) (G1 : Fld Z h0 a "com/example/micro_ranker/microranker/engine/Texts" "narrow" "[B" .null) (G2 : Fld Z h0 a "com/example/micro_ranker/microranker/engine/Texts" "characters" "[C" (.ref yn)) (A0 : AI Z h0 ys .int 512 gs) (A1 : AI Z h0 yn .char 8192 gn) (A2 : AI Z h0 x1 .char 4 gq) (hv : x0.toInt = 0 ∨ x0.toInt = 1) (hg : W4 (gs x0.toInt.toNat)) (hx : W4 x2) :
    Met l Z (⟨"com/example/micro_ranker/microranker/engine/Texts", "holds", "(I[CI)Z"⟩ : MethodName) prog_60_method_5_code 6 (some .boolean) ({ frames := 0, cells := 0, slots := 0, locals := 0 } : Room) #[(.ref a), (.int x0), (.ref x1), (.int x2)] h0 (Pu (some (.int (f8_W gs gn gq x0 x2))) h0) := by
  rcases own_w4 hx with rfl | rfl | rfl | rfl
  · rw [show f8_W gs gn gq x0 0 = f8_W0 gs gn gq x0 from if_pos rfl]; exact rm8_W0 l Z a0 hw a gs gn gq ys yn x0 x1 h0 G0 G1 G2 A0 A1 A2 hv hg
  · rw [show f8_W gs gn gq x0 1 = f8_W1 gs gn gq x0 from (if_neg (by decide)).trans (if_pos rfl)]; exact rm8_W1 l Z a0 hw a gs gn gq ys yn x0 x1 h0 G0 G1 G2 A0 A1 A2 hv hg
  · rw [show f8_W gs gn gq x0 2 = f8_W2 gs gn gq x0 from (if_neg (by decide)).trans ((if_neg (by decide)).trans (if_pos rfl))]; exact rm8_W2 l Z a0 hw a gs gn gq ys yn x0 x1 h0 G0 G1 G2 A0 A1 A2 hv hg
  · rw [show f8_W gs gn gq x0 3 = f8_W3 gs gn gq x0 from (if_neg (by decide)).trans ((if_neg (by decide)).trans (if_neg (by decide)))]; exact rm8_W3 l Z a0 hw a gs gn gq ys yn x0 x1 h0 G0 G1 G2 A0 A1 A2 hv hg
theorem pl0 : plainFor x = true := by first | exact plainFor_of_name (by first | (simp [plainName, overriddenIn]; done) | decide +kernel) | decide +kernel
theorem pd__II_Z : parseMethodDescriptor "(II)Z" = some ⟨[.int, .int], some .boolean⟩ := by decide +kernel
theorem pd__JIZ_C : parseMethodDescriptor "(JIZ)C" = some ⟨[.long, .int, .boolean], some .char⟩ := by decide +kernel
theorem pd___V : parseMethodDescriptor "()V" = some ⟨[], none⟩ := by decide +kernel
theorem pd___CI_I : parseMethodDescriptor "([CI)I" = some ⟨[(.array .char), .int], some .int⟩ := by decide +kernel
theorem pd__I_CI_Z : parseMethodDescriptor "(I[CI)Z" = some ⟨[.int, (.array .char), .int], some .boolean⟩ := by decide +kernel
def q0_1 (x0 x1 x2 : Int64) (x3 : Int32) : Int32 := (x3 &&& (3 : Int32))
def q0_2 (x0 x1 x2 : Int64) (x3 : Int32) : Int32 := ((XT.ushr x3 (2 : Int32)) &&& (3 : Int32))
def q0_3 (x0 x1 x2 : Int64) (x3 : Int32) : Int32 := ((XT.ushr x3 (4 : Int32)) &&& (3 : Int32))
def q0_4 (x0 x1 x2 : Int64) (x3 : Int32) : Int32 := ((XT.ushr x3 (6 : Int32)) &&& (1 : Int32))
def q0_5 (x0 x1 x2 : Int64) (x3 : Int32) : Int32 := (f2 x0 (0 : Int32) (f1 x3 (7 : Int32))).toUInt32.toUInt16.toUInt32.toInt32
def w0_6 (x0 x1 x2 : Int64) (x3 : Int32) : Nat → Int32 := fun j => if j = 0 then (q0_5 x0 x1 x2 x3) else (fun _ => 0) j
def q0_7 (x0 x1 x2 : Int64) (x3 : Int32) : Int32 := (f2 x0 (1 : Int32) (f1 x3 (7 : Int32))).toUInt32.toUInt16.toUInt32.toInt32
def w0_8 (x0 x1 x2 : Int64) (x3 : Int32) : Nat → Int32 := fun j => if j = 1 then (q0_7 x0 x1 x2 x3) else (w0_6 x0 x1 x2 x3) j
def q0_9 (x0 x1 x2 : Int64) (x3 : Int32) : Int32 := (f2 x0 (2 : Int32) (f1 x3 (7 : Int32))).toUInt32.toUInt16.toUInt32.toInt32
def w0_10 (x0 x1 x2 : Int64) (x3 : Int32) : Nat → Int32 := fun j => if j = 2 then (q0_9 x0 x1 x2 x3) else (w0_8 x0 x1 x2 x3) j
def q0_11 (x0 x1 x2 : Int64) (x3 : Int32) : Int32 := (f2 x0 (3 : Int32) (f1 x3 (7 : Int32))).toUInt32.toUInt16.toUInt32.toInt32
def w0_12 (x0 x1 x2 : Int64) (x3 : Int32) : Nat → Int32 := fun j => if j = 3 then (q0_11 x0 x1 x2 x3) else (w0_10 x0 x1 x2 x3) j
def q0_13 (x0 x1 x2 : Int64) (x3 : Int32) : Int32 := (f2 x1 (0 : Int32) (f1 x3 (12 : Int32))).toUInt32.toUInt16.toUInt32.toInt32
def w0_14 (x0 x1 x2 : Int64) (x3 : Int32) : Nat → Int32 := fun j => if j = 0 then (q0_13 x0 x1 x2 x3) else (fun _ => 0) j
def q0_15 (x0 x1 x2 : Int64) (x3 : Int32) : Int32 := (f2 x1 (1 : Int32) (f1 x3 (12 : Int32))).toUInt32.toUInt16.toUInt32.toInt32
def w0_16 (x0 x1 x2 : Int64) (x3 : Int32) : Nat → Int32 := fun j => if j = 1 then (q0_15 x0 x1 x2 x3) else (w0_14 x0 x1 x2 x3) j
def q0_17 (x0 x1 x2 : Int64) (x3 : Int32) : Int32 := (f2 x1 (2 : Int32) (f1 x3 (12 : Int32))).toUInt32.toUInt16.toUInt32.toInt32
def w0_18 (x0 x1 x2 : Int64) (x3 : Int32) : Nat → Int32 := fun j => if j = 2 then (q0_17 x0 x1 x2 x3) else (w0_16 x0 x1 x2 x3) j
def q0_19 (x0 x1 x2 : Int64) (x3 : Int32) : Int32 := (f2 x1 (3 : Int32) (f1 x3 (12 : Int32))).toUInt32.toUInt16.toUInt32.toInt32
def w0_20 (x0 x1 x2 : Int64) (x3 : Int32) : Nat → Int32 := fun j => if j = 3 then (q0_19 x0 x1 x2 x3) else (w0_18 x0 x1 x2 x3) j
def q0_21 (x0 x1 x2 : Int64) (x3 : Int32) : Int32 := (q0_1 x0 x1 x2 x3)
def q0_22 (x0 x1 x2 : Int64) (x3 : Int32) : Int32 := (if (f1 x3 (8 : Int32)) = 0 then (q0_5 x0 x1 x2 x3) else x2.toInt32.toUInt32.toUInt16.toUInt32.toInt32)
def q0_23 (x0 x1 x2 : Int64) (x3 : Int32) : Int32 := (q0_22 x0 x1 x2 x3).toUInt32.toUInt16.toUInt32.toInt32
def w0_24 (x0 x1 x2 : Int64) (x3 : Int32) : Nat → Int32 := fun j => if j = 0 then (q0_23 x0 x1 x2 x3) else (fun _ => 0) j
def q0_25 (x0 x1 x2 : Int64) (x3 : Int32) : Int32 := (if (f1 x3 (9 : Int32)) = 0 then (q0_7 x0 x1 x2 x3) else (XT.ushrL x2 (16 : Int32)).toInt32.toUInt32.toUInt16.toUInt32.toInt32)
def q0_26 (x0 x1 x2 : Int64) (x3 : Int32) : Int32 := (q0_25 x0 x1 x2 x3).toUInt32.toUInt16.toUInt32.toInt32
def w0_27 (x0 x1 x2 : Int64) (x3 : Int32) : Nat → Int32 := fun j => if j = 1 then (q0_26 x0 x1 x2 x3) else (w0_24 x0 x1 x2 x3) j
def q0_28 (x0 x1 x2 : Int64) (x3 : Int32) : Int32 := (if (f1 x3 (10 : Int32)) = 0 then (q0_9 x0 x1 x2 x3) else (XT.ushrL x2 (32 : Int32)).toInt32.toUInt32.toUInt16.toUInt32.toInt32)
def q0_29 (x0 x1 x2 : Int64) (x3 : Int32) : Int32 := (q0_28 x0 x1 x2 x3).toUInt32.toUInt16.toUInt32.toInt32
def w0_30 (x0 x1 x2 : Int64) (x3 : Int32) : Nat → Int32 := fun j => if j = 2 then (q0_29 x0 x1 x2 x3) else (w0_27 x0 x1 x2 x3) j
def q0_31 (x0 x1 x2 : Int64) (x3 : Int32) : Int32 := (if (f1 x3 (11 : Int32)) = 0 then (q0_11 x0 x1 x2 x3) else (XT.ushrL x2 (48 : Int32)).toInt32.toUInt32.toUInt16.toUInt32.toInt32)
def q0_32 (x0 x1 x2 : Int64) (x3 : Int32) : Int32 := (q0_31 x0 x1 x2 x3).toUInt32.toUInt16.toUInt32.toInt32
def w0_33 (x0 x1 x2 : Int64) (x3 : Int32) : Nat → Int32 := fun j => if j = 3 then (q0_32 x0 x1 x2 x3) else (w0_30 x0 x1 x2 x3) j
def q0_34 (x0 x1 x2 : Int64) (x3 : Int32) : Int32 := (if (q0_29 x0 x1 x2 x3) = (q0_9 x0 x1 x2 x3) then (1 : Int32) else 0)
def q0_35 (x0 x1 x2 : Int64) (x3 : Int32) : Int32 := (if (q0_3 x0 x1 x2 x3) < (3 : Int32) then (1 : Int32) else (q0_34 x0 x1 x2 x3))
def q0_36 (x0 x1 x2 : Int64) (x3 : Int32) : Int32 := (if (q0_26 x0 x1 x2 x3) = (q0_7 x0 x1 x2 x3) then (q0_35 x0 x1 x2 x3) else (0 : Int32))
def q0_37 (x0 x1 x2 : Int64) (x3 : Int32) : Int32 := (if (q0_3 x0 x1 x2 x3) < (2 : Int32) then (q0_35 x0 x1 x2 x3) else (q0_36 x0 x1 x2 x3))
def q0_38 (x0 x1 x2 : Int64) (x3 : Int32) : Int32 := (if (q0_23 x0 x1 x2 x3) = (q0_5 x0 x1 x2 x3) then (q0_37 x0 x1 x2 x3) else (0 : Int32))
def q0_39 (x0 x1 x2 : Int64) (x3 : Int32) : Int32 := (if (q0_3 x0 x1 x2 x3) < (1 : Int32) then (q0_37 x0 x1 x2 x3) else (q0_38 x0 x1 x2 x3))
def q0_40 (x0 x1 x2 : Int64) (x3 : Int32) : Int32 := (if (q0_3 x0 x1 x2 x3) = (q0_21 x0 x1 x2 x3) then (q0_39 x0 x1 x2 x3) else (0 : Int32))
def q0_41 (x0 x1 x2 : Int64) (x3 : Int32) : Int32 := (f8_W (own_sp (own_sp own_z0 (0 : Int32) (q0_1 x0 x1 x2 x3)) (1 : Int32) (q0_2 x0 x1 x2 x3)) (own_cc (own_cc (UpI (own_z0 (0 : Int32).toInt.toNat).toInt.toNat (fun j => own_cb (own_z0 j))) (w0_12 x0 x1 x2 x3) (own_z0 (0 : Int32).toInt.toNat).toInt.toNat (q0_1 x0 x1 x2 x3).toInt.toNat) (w0_20 x0 x1 x2 x3) ((own_sp own_z0 (0 : Int32) (q0_1 x0 x1 x2 x3)) (1 : Int32).toInt.toNat).toInt.toNat (q0_2 x0 x1 x2 x3).toInt.toNat) (w0_33 x0 x1 x2 x3) (0 : Int32) (q0_3 x0 x1 x2 x3))
def q0_42 (x0 x1 x2 : Int64) (x3 : Int32) : Int32 := (f8_W (own_sp (own_sp own_z0 (0 : Int32) (q0_1 x0 x1 x2 x3)) (1 : Int32) (q0_2 x0 x1 x2 x3)) (own_cc (UpI ((own_sp own_z0 (0 : Int32) (q0_1 x0 x1 x2 x3)) (1 : Int32).toInt.toNat).toInt.toNat (fun j => own_cb ((own_nn own_z0 (w0_12 x0 x1 x2 x3) (own_z0 (0 : Int32).toInt.toNat).toInt.toNat (q0_1 x0 x1 x2 x3).toInt.toNat) j))) (w0_20 x0 x1 x2 x3) ((own_sp own_z0 (0 : Int32) (q0_1 x0 x1 x2 x3)) (1 : Int32).toInt.toNat).toInt.toNat (q0_2 x0 x1 x2 x3).toInt.toNat) (w0_33 x0 x1 x2 x3) (0 : Int32) (q0_3 x0 x1 x2 x3))
def q0_43 (x0 x1 x2 : Int64) (x3 : Int32) : Int32 := (f8_N (own_sp (own_sp own_z0 (0 : Int32) (q0_1 x0 x1 x2 x3)) (1 : Int32) (q0_2 x0 x1 x2 x3)) (own_nn (own_nn own_z0 (w0_12 x0 x1 x2 x3) (own_z0 (0 : Int32).toInt.toNat).toInt.toNat (q0_1 x0 x1 x2 x3).toInt.toNat) (w0_20 x0 x1 x2 x3) ((own_sp own_z0 (0 : Int32) (q0_1 x0 x1 x2 x3)) (1 : Int32).toInt.toNat).toInt.toNat (q0_2 x0 x1 x2 x3).toInt.toNat) (w0_33 x0 x1 x2 x3) (0 : Int32) (q0_3 x0 x1 x2 x3))
def q0_44 (x0 x1 x2 : Int64) (x3 : Int32) : Int32 := (q0_2 x0 x1 x2 x3)
def q0_45 (x0 x1 x2 : Int64) (x3 : Int32) : Int32 := (if (f1 x3 (8 : Int32)) = 0 then (q0_13 x0 x1 x2 x3) else x2.toInt32.toUInt32.toUInt16.toUInt32.toInt32)
def q0_46 (x0 x1 x2 : Int64) (x3 : Int32) : Int32 := (q0_45 x0 x1 x2 x3).toUInt32.toUInt16.toUInt32.toInt32
def w0_47 (x0 x1 x2 : Int64) (x3 : Int32) : Nat → Int32 := fun j => if j = 0 then (q0_46 x0 x1 x2 x3) else (fun _ => 0) j
def q0_48 (x0 x1 x2 : Int64) (x3 : Int32) : Int32 := (if (f1 x3 (9 : Int32)) = 0 then (q0_15 x0 x1 x2 x3) else (XT.ushrL x2 (16 : Int32)).toInt32.toUInt32.toUInt16.toUInt32.toInt32)
def q0_49 (x0 x1 x2 : Int64) (x3 : Int32) : Int32 := (q0_48 x0 x1 x2 x3).toUInt32.toUInt16.toUInt32.toInt32
def w0_50 (x0 x1 x2 : Int64) (x3 : Int32) : Nat → Int32 := fun j => if j = 1 then (q0_49 x0 x1 x2 x3) else (w0_47 x0 x1 x2 x3) j
def q0_51 (x0 x1 x2 : Int64) (x3 : Int32) : Int32 := (if (f1 x3 (10 : Int32)) = 0 then (q0_17 x0 x1 x2 x3) else (XT.ushrL x2 (32 : Int32)).toInt32.toUInt32.toUInt16.toUInt32.toInt32)
def q0_52 (x0 x1 x2 : Int64) (x3 : Int32) : Int32 := (q0_51 x0 x1 x2 x3).toUInt32.toUInt16.toUInt32.toInt32
def w0_53 (x0 x1 x2 : Int64) (x3 : Int32) : Nat → Int32 := fun j => if j = 2 then (q0_52 x0 x1 x2 x3) else (w0_50 x0 x1 x2 x3) j
def q0_54 (x0 x1 x2 : Int64) (x3 : Int32) : Int32 := (if (f1 x3 (11 : Int32)) = 0 then (q0_19 x0 x1 x2 x3) else (XT.ushrL x2 (48 : Int32)).toInt32.toUInt32.toUInt16.toUInt32.toInt32)
def q0_55 (x0 x1 x2 : Int64) (x3 : Int32) : Int32 := (q0_54 x0 x1 x2 x3).toUInt32.toUInt16.toUInt32.toInt32
def w0_56 (x0 x1 x2 : Int64) (x3 : Int32) : Nat → Int32 := fun j => if j = 3 then (q0_55 x0 x1 x2 x3) else (w0_53 x0 x1 x2 x3) j
def q0_57 (x0 x1 x2 : Int64) (x3 : Int32) : Int32 := (if (q0_52 x0 x1 x2 x3) = (q0_17 x0 x1 x2 x3) then (1 : Int32) else 0)
def q0_58 (x0 x1 x2 : Int64) (x3 : Int32) : Int32 := (if (q0_3 x0 x1 x2 x3) < (3 : Int32) then (1 : Int32) else (q0_57 x0 x1 x2 x3))
def q0_59 (x0 x1 x2 : Int64) (x3 : Int32) : Int32 := (if (q0_49 x0 x1 x2 x3) = (q0_15 x0 x1 x2 x3) then (q0_58 x0 x1 x2 x3) else (0 : Int32))
def q0_60 (x0 x1 x2 : Int64) (x3 : Int32) : Int32 := (if (q0_3 x0 x1 x2 x3) < (2 : Int32) then (q0_58 x0 x1 x2 x3) else (q0_59 x0 x1 x2 x3))
def q0_61 (x0 x1 x2 : Int64) (x3 : Int32) : Int32 := (if (q0_46 x0 x1 x2 x3) = (q0_13 x0 x1 x2 x3) then (q0_60 x0 x1 x2 x3) else (0 : Int32))
def q0_62 (x0 x1 x2 : Int64) (x3 : Int32) : Int32 := (if (q0_3 x0 x1 x2 x3) < (1 : Int32) then (q0_60 x0 x1 x2 x3) else (q0_61 x0 x1 x2 x3))
def q0_63 (x0 x1 x2 : Int64) (x3 : Int32) : Int32 := (if (q0_3 x0 x1 x2 x3) = (q0_44 x0 x1 x2 x3) then (q0_62 x0 x1 x2 x3) else (0 : Int32))
def q0_64 (x0 x1 x2 : Int64) (x3 : Int32) : Int32 := (f8_W (own_sp (own_sp own_z0 (0 : Int32) (q0_1 x0 x1 x2 x3)) (1 : Int32) (q0_2 x0 x1 x2 x3)) (own_cc (own_cc (UpI (own_z0 (0 : Int32).toInt.toNat).toInt.toNat (fun j => own_cb (own_z0 j))) (w0_12 x0 x1 x2 x3) (own_z0 (0 : Int32).toInt.toNat).toInt.toNat (q0_1 x0 x1 x2 x3).toInt.toNat) (w0_20 x0 x1 x2 x3) ((own_sp own_z0 (0 : Int32) (q0_1 x0 x1 x2 x3)) (1 : Int32).toInt.toNat).toInt.toNat (q0_2 x0 x1 x2 x3).toInt.toNat) (w0_56 x0 x1 x2 x3) (1 : Int32) (q0_3 x0 x1 x2 x3))
def q0_65 (x0 x1 x2 : Int64) (x3 : Int32) : Int32 := (f8_W (own_sp (own_sp own_z0 (0 : Int32) (q0_1 x0 x1 x2 x3)) (1 : Int32) (q0_2 x0 x1 x2 x3)) (own_cc (UpI ((own_sp own_z0 (0 : Int32) (q0_1 x0 x1 x2 x3)) (1 : Int32).toInt.toNat).toInt.toNat (fun j => own_cb ((own_nn own_z0 (w0_12 x0 x1 x2 x3) (own_z0 (0 : Int32).toInt.toNat).toInt.toNat (q0_1 x0 x1 x2 x3).toInt.toNat) j))) (w0_20 x0 x1 x2 x3) ((own_sp own_z0 (0 : Int32) (q0_1 x0 x1 x2 x3)) (1 : Int32).toInt.toNat).toInt.toNat (q0_2 x0 x1 x2 x3).toInt.toNat) (w0_56 x0 x1 x2 x3) (1 : Int32) (q0_3 x0 x1 x2 x3))
def q0_66 (x0 x1 x2 : Int64) (x3 : Int32) : Int32 := (f8_N (own_sp (own_sp own_z0 (0 : Int32) (q0_1 x0 x1 x2 x3)) (1 : Int32) (q0_2 x0 x1 x2 x3)) (own_nn (own_nn own_z0 (w0_12 x0 x1 x2 x3) (own_z0 (0 : Int32).toInt.toNat).toInt.toNat (q0_1 x0 x1 x2 x3).toInt.toNat) (w0_20 x0 x1 x2 x3) ((own_sp own_z0 (0 : Int32) (q0_1 x0 x1 x2 x3)) (1 : Int32).toInt.toNat).toInt.toNat (q0_2 x0 x1 x2 x3).toInt.toNat) (w0_56 x0 x1 x2 x3) (1 : Int32) (q0_3 x0 x1 x2 x3))
def f0 (x0 x1 x2 : Int64) (x3 : Int32) : Int32 := (if (q0_4 x0 x1 x2 x3) = (0 : Int32) then (if f7 (w0_12 x0 x1 x2 x3) (q0_1 x0 x1 x2 x3) = 0 then (if (q0_41 x0 x1 x2 x3) = (q0_40 x0 x1 x2 x3) then (1 : Int32) else (0 : Int32)) else (if f7 (w0_20 x0 x1 x2 x3) (q0_2 x0 x1 x2 x3) = 0 then (if (q0_42 x0 x1 x2 x3) = (q0_40 x0 x1 x2 x3) then (1 : Int32) else (0 : Int32)) else (if (q0_43 x0 x1 x2 x3) = (q0_40 x0 x1 x2 x3) then (1 : Int32) else (0 : Int32)))) else (if f7 (w0_12 x0 x1 x2 x3) (q0_1 x0 x1 x2 x3) = 0 then (if (q0_64 x0 x1 x2 x3) = (q0_63 x0 x1 x2 x3) then (1 : Int32) else (0 : Int32)) else (if f7 (w0_20 x0 x1 x2 x3) (q0_2 x0 x1 x2 x3) = 0 then (if (q0_65 x0 x1 x2 x3) = (q0_63 x0 x1 x2 x3) then (1 : Int32) else (0 : Int32)) else (if (q0_66 x0 x1 x2 x3) = (q0_63 x0 x1 x2 x3) then (1 : Int32) else (0 : Int32)))))
theorem own_q1 (x0 x1 x2 : Int64) (x3 : Int32) : W4 (q0_1 x0 x1 x2 x3) := by
  have m := c_mask x3 3 2 (by decide) (by decide)
  have e : (q0_1 x0 x1 x2 x3).toInt = (x3 &&& 3).toInt := rfl
  unfold W4
  omega
theorem own_q2 (x0 x1 x2 : Int64) (x3 : Int32) : W4 (q0_2 x0 x1 x2 x3) := by
  have m := c_mask (XT.ushr x3 2) 3 2 (by decide) (by decide)
  have e : (q0_2 x0 x1 x2 x3).toInt = (XT.ushr x3 2 &&& 3).toInt := rfl
  unfold W4
  omega
theorem own_q4 (x0 x1 x2 : Int64) (x3 : Int32) : W4 (q0_3 x0 x1 x2 x3) := by
  have m := c_mask (XT.ushr x3 4) 3 2 (by decide) (by decide)
  have e : (q0_3 x0 x1 x2 x3).toInt = (XT.ushr x3 4 &&& 3).toInt := rfl
  unfold W4
  omega
theorem own_n01 (x0 x1 x2 : Int64) (x3 : Int32) (h : ¬ q0_4 x0 x1 x2 x3 = 0) : q0_4 x0 x1 x2 x3 = 1 := by
  have m := c_mask (XT.ushr x3 6) 1 1 (by decide) (by decide)
  have e : (q0_4 x0 x1 x2 x3).toInt = (XT.ushr x3 6 &&& 1).toInt := rfl
  rw [← Int32.toInt_inj, Int32.toInt_zero] at h
  rw [← Int32.toInt_inj, show (1 : Int32).toInt = 1 by decide]
  omega
theorem own_sp0 (x y : Int32) : (own_sp (own_sp own_z0 0 x) 1 y) 0 = 0 := rfl
theorem own_sp1 (x y : Int32) : (own_sp (own_sp own_z0 0 x) 1 y) 1 = x := Int32.zero_add x
theorem own_sq1 (x : Int32) : (own_sp own_z0 0 x) 1 = x := Int32.zero_add x
theorem own_sp2 (x y : Int32) : (own_sp (own_sp own_z0 0 x) 1 y) 2 = x + y := congrArg (fun z => z + y) (Int32.zero_add x)
theorem own_i0 : (0 : Int32).toInt.toNat = 0 := by decide
theorem own_i1 : (1 : Int32).toInt.toNat = 1 := by decide
theorem own_40 : W4 0 := by unfold W4; decide
theorem own_hs0 (x0 x1 x2 : Int64) (x3 : Int32) : Hs 0 own_z0 (q0_1 x0 x1 x2 x3) := ⟨Or.inl (by decide), own_40, own_q1 x0 x1 x2 x3⟩
theorem own_hs1 (x0 x1 x2 : Int64) (x3 : Int32) : Hs 1 (own_sp own_z0 (0 : Int32) (q0_1 x0 x1 x2 x3)) (q0_2 x0 x1 x2 x3) := ⟨Or.inr (by decide), by rw [own_i1, own_sq1]; exact own_q1 x0 x1 x2 x3, own_q2 x0 x1 x2 x3⟩
theorem own_hg0 (x0 x1 x2 : Int64) (x3 : Int32) : W4 ((own_sp (own_sp own_z0 (0 : Int32) (q0_1 x0 x1 x2 x3)) (1 : Int32) (q0_2 x0 x1 x2 x3)) (0 : Int32).toInt.toNat) := by rw [own_i0, own_sp0]; exact own_40
theorem own_hg1 (x0 x1 x2 : Int64) (x3 : Int32) : W4 ((own_sp (own_sp own_z0 (0 : Int32) (q0_1 x0 x1 x2 x3)) (1 : Int32) (q0_2 x0 x1 x2 x3)) (1 : Int32).toInt.toNat) := by rw [own_i1, own_sp1]; exact own_q1 x0 x1 x2 x3
theorem own_ft0 (x0 x1 x2 : Int64) (x3 : Int32) : ∀ j, j < 4 → fits .char (.int (w0_12 x0 x1 x2 x3 j)) = true := by
  intro j hj
  match j, hj with
  | 0, _ => exact own_fit _
  | 1, _ => exact own_fit _
  | 2, _ => exact own_fit _
  | 3, _ => exact own_fit _
theorem own_ft1 (x0 x1 x2 : Int64) (x3 : Int32) : ∀ j, j < 4 → fits .char (.int (w0_20 x0 x1 x2 x3 j)) = true := by
  intro j hj
  match j, hj with
  | 0, _ => exact own_fit _
  | 1, _ => exact own_fit _
  | 2, _ => exact own_fit _
  | 3, _ => exact own_fit _
theorem own_fcc (gw gc : Nat → Int32) (s n : Nat) (hn : n ≤ 3) (h1 : ∀ j, j < 8192 → fits .char (.int (gw j)) = true) (h2 : ∀ j, j < 4 → fits .char (.int (gc j)) = true) : ∀ j, j < 8192 → fits .char (.int (own_cc gw gc s n j)) = true := by
  intro j hj
  unfold own_cc
  by_cases q : s ≤ j ∧ j < s + n
  · rw [if_pos q]; exact h2 _ (by omega)
  · rw [if_neg q]; exact h1 j hj
theorem own_fw (x0 x1 x2 : Int64) (x3 : Int32) : ∀ j, j < 8192 → fits .char (.int ((own_cc (UpI (own_z0 (0 : Int32).toInt.toNat).toInt.toNat (fun j => own_cb (own_z0 j))) (w0_12 x0 x1 x2 x3) (own_z0 (0 : Int32).toInt.toNat).toInt.toNat (q0_1 x0 x1 x2 x3).toInt.toNat) j)) = true :=
  own_fcc _ _ _ _ (own_w4n (own_q1 x0 x1 x2 x3)).2 (own_fu _ _) (own_ft0 x0 x1 x2 x3)

set_option maxRecDepth 65536 in
set_option maxHeartbeats 40000000 in
theorem rm0 (l : Launch) (Z : State) (a0 : Array Value) (hw : ∀ d ∈ tables_1, d.before a0 Z = true) (ws : List Jvm.Cond) (x0 x1 x2 : Int64) (x3 : Int32) (h0 : Heap) (n0 : Nat) (hz : n0 ≤ h0.size) :
    MetFree l x (head1 (Jvm.Cond.code x code maxLocals ret :: ws) room_1) (fun a U => a = #[(.long x0), (.long x1), (.long x2), (.int x3)] ∧ Z.Warmed39 U.vm ∧ U.heap = h0) (fun _ _ _ _ _ => True) (fun _ U o U' => ∃ v L, o = .returned v ∧ Lw n0 (some (.int (f0 x0 x1 x2 x3))) v U'.heap L ∧ FrameEnd U o U' L room_1.cells room_1.slots) := by
  refine enter (y := x) (bs := code) (ml := maxLocals) (ret := ret) (Q := Lw n0 (some (.int (f0 x0 x1 x2 x3)))) pl0 #[vj x0, s2, vj x1, s2, vj x2, s2, vi x3, us, us, us, us, us, us, us, us, us, us, us, us, us, us, us] rfl ?_
  intro p e s m below meth c T B hret hlk hnm
  have N0 := Fr.nil n0
  refine o_iload B 0 2 (v := x3) at_0 rfl rfl ?_
  refine o_iconst B 2 3 (3 : Int32) at_2 rfl (by decide) ?_
  refine o_iand B 3 4 at_3 rfl ?_
  refine o_istore B 4 6 (l' := #[vj x0, s2, vj x1, s2, vj x2, s2, vi x3, vi (q0_1 x0 x1 x2 x3), us, us, us, us, us, us, us, us, us, us, us, us, us, us]) at_4 rfl rfl ?_
  refine o_iload B 6 8 (v := x3) at_6 rfl rfl ?_
  refine o_iconst B 8 9 (2 : Int32) at_8 rfl (by decide) ?_
  refine o_iushr B 9 10 at_9 rfl ?_
  refine o_iconst B 10 11 (3 : Int32) at_10 rfl (by decide) ?_
  refine o_iand B 11 12 at_11 rfl ?_
  refine o_istore B 12 14 (l' := #[vj x0, s2, vj x1, s2, vj x2, s2, vi x3, vi (q0_1 x0 x1 x2 x3), vi (q0_2 x0 x1 x2 x3), us, us, us, us, us, us, us, us, us, us, us, us, us]) at_12 rfl rfl ?_
  refine o_iload B 14 16 (v := x3) at_14 rfl rfl ?_
  refine o_iconst B 16 17 (4 : Int32) at_16 rfl (by decide) ?_
  refine o_iushr B 17 18 at_17 rfl ?_
  refine o_iconst B 18 19 (3 : Int32) at_18 rfl (by decide) ?_
  refine o_iand B 19 20 at_19 rfl ?_
  refine o_istore B 20 22 (l' := #[vj x0, s2, vj x1, s2, vj x2, s2, vi x3, vi (q0_1 x0 x1 x2 x3), vi (q0_2 x0 x1 x2 x3), vi (q0_3 x0 x1 x2 x3), us, us, us, us, us, us, us, us, us, us, us, us]) at_20 rfl rfl ?_
  refine o_iload B 22 24 (v := x3) at_22 rfl rfl ?_
  refine o_bipush B 24 26 (6 : Int32) at_24 rfl (by decide) ?_
  refine o_iushr B 26 27 at_26 rfl ?_
  refine o_iconst B 27 28 (1 : Int32) at_27 rfl (by decide) ?_
  refine o_iand B 28 29 at_28 rfl ?_
  refine o_istore B 29 31 (l' := #[vj x0, s2, vj x1, s2, vj x2, s2, vi x3, vi (q0_1 x0 x1 x2 x3), vi (q0_2 x0 x1 x2 x3), vi (q0_3 x0 x1 x2 x3), vi (q0_4 x0 x1 x2 x3), us, us, us, us, us, us, us, us, us, us, us]) at_29 rfl rfl ?_
  refine o_iload B 31 33 (v := x3) at_31 rfl rfl ?_
  refine o_bipush B 33 35 (7 : Int32) at_33 rfl (by decide) ?_
  obtain ⟨T1, B1, c1⟩ := o_callP B 35 38 at_35 rfl (hw _ (mi 0 rfl)) (hw _ (mi 1 rfl)) (hw _ (mi 2 rfl)) (hw _ (mi 3 rfl)) (by decide) (rm1 l Z a0 hw x3 (7 : Int32) h0 ) 0 [(.int x3), (.int (7 : Int32))] [] pd__II_Z rfl rfl (st := [(.int (7 : Int32)), (.int x3)]) rfl (Ls := #[vj x0, s2, vj x1, s2, vj x2, s2, vi x3, vi (q0_1 x0 x1 x2 x3), vi (q0_2 x0 x1 x2 x3), vi (q0_3 x0 x1 x2 x3), vi (q0_4 x0 x1 x2 x3), us, us, us, us, us, us, us, us, us, us, us]) rfl (Nat.le_of_eq rfl) (by decide) (by decide) (by decide) (by decide)
  refine c1 ?_
  refine o_istore B1 38 40 (l' := #[vj x0, s2, vj x1, s2, vj x2, s2, vi x3, vi (q0_1 x0 x1 x2 x3), vi (q0_2 x0 x1 x2 x3), vi (q0_3 x0 x1 x2 x3), vi (q0_4 x0 x1 x2 x3), vi (f1 x3 (7 : Int32)), us, us, us, us, us, us, us, us, us, us]) at_38 rfl rfl ?_
  refine o_iload B1 40 42 (v := x3) at_40 rfl rfl ?_
  refine o_bipush B1 42 44 (12 : Int32) at_42 rfl (by decide) ?_
  obtain ⟨T2, B2, c2⟩ := o_callP B1 44 47 at_44 rfl (hw _ (mi 0 rfl)) (hw _ (mi 1 rfl)) (hw _ (mi 2 rfl)) (hw _ (mi 3 rfl)) (by decide) (rm1 l Z a0 hw x3 (12 : Int32) h0 ) 0 [(.int x3), (.int (12 : Int32))] [] pd__II_Z rfl rfl (st := [(.int (12 : Int32)), (.int x3)]) rfl (Ls := #[vj x0, s2, vj x1, s2, vj x2, s2, vi x3, vi (q0_1 x0 x1 x2 x3), vi (q0_2 x0 x1 x2 x3), vi (q0_3 x0 x1 x2 x3), vi (q0_4 x0 x1 x2 x3), vi (f1 x3 (7 : Int32)), us, us, us, us, us, us, us, us, us, us]) rfl (Nat.le_of_eq rfl) (by decide) (by decide) (by decide) (by decide)
  refine c2 ?_
  refine o_istore B2 47 49 (l' := #[vj x0, s2, vj x1, s2, vj x2, s2, vi x3, vi (q0_1 x0 x1 x2 x3), vi (q0_2 x0 x1 x2 x3), vi (q0_3 x0 x1 x2 x3), vi (q0_4 x0 x1 x2 x3), vi (f1 x3 (7 : Int32)), vi (f1 x3 (12 : Int32)), us, us, us, us, us, us, us, us, us]) at_47 rfl rfl ?_
  refine o_iconst B2 49 50 (4 : Int32) at_49 rfl (by decide) ?_
  obtain ⟨a3, T3, h3, z3, B3, E3, A3, c3⟩ := o_newI B2 50 52 (ty := .char) (z := (4 : Int32)) 4 4 (hw _ (mi 4 rfl)) at_50 rfl rfl rfl (by decide) (by decide) (by decide) (by decide) (by decide) (by decide) (Ls := #[vj x0, s2, vj x1, s2, vj x2, s2, vi x3, vi (q0_1 x0 x1 x2 x3), vi (q0_2 x0 x1 x2 x3), vi (q0_3 x0 x1 x2 x3), vi (q0_4 x0 x1 x2 x3), vi (f1 x3 (7 : Int32)), vi (f1 x3 (12 : Int32)), us, us, us, us, us, us, us, us, us]) (rest := [])
  have g3 : n0 ≤ a3 := by rw [z3]; exact hz
  have s3 : n0 ≤ h3.size := Nat.le_trans hz E3.1
  refine c3 ?_
  refine o_astore B3 52 54 (l' := #[vj x0, s2, vj x1, s2, vj x2, s2, vi x3, vi (q0_1 x0 x1 x2 x3), vi (q0_2 x0 x1 x2 x3), vi (q0_3 x0 x1 x2 x3), vi (q0_4 x0 x1 x2 x3), vi (f1 x3 (7 : Int32)), vi (f1 x3 (12 : Int32)), vr a3, us, us, us, us, us, us, us, us]) at_52 rfl rfl rfl ?_
  refine o_aload B3 54 56 (v := (.ref a3)) at_54 rfl rfl rfl ?_
  refine o_iconst B3 56 57 (0 : Int32) at_56 rfl (by decide) ?_
  refine o_lloadN B3 57 58 (v := x0) at_57 rfl rfl ?_
  refine o_iconst B3 58 59 (0 : Int32) at_58 rfl (by decide) ?_
  refine o_iload B3 59 61 (v := (f1 x3 (7 : Int32))) at_59 rfl rfl ?_
  obtain ⟨T4, B4, c4⟩ := o_callP B3 61 64 at_61 rfl (hw _ (mi 5 rfl)) (hw _ (mi 6 rfl)) (hw _ (mi 2 rfl)) (hw _ (mi 7 rfl)) (by decide) (rm2 l Z a0 hw x0 (0 : Int32) (f1 x3 (7 : Int32)) h3 ) 2 [(.long x0), (.int (0 : Int32)), (.int (f1 x3 (7 : Int32)))] [(.int (0 : Int32)), (.ref a3)] pd__JIZ_C rfl rfl (st := [(.int (f1 x3 (7 : Int32))), (.int (0 : Int32)), (.long x0), (.int (0 : Int32)), (.ref a3)]) rfl (Ls := #[vj x0, s2, vj x1, s2, vj x2, s2, vi x3, vi (q0_1 x0 x1 x2 x3), vi (q0_2 x0 x1 x2 x3), vi (q0_3 x0 x1 x2 x3), vi (q0_4 x0 x1 x2 x3), vi (f1 x3 (7 : Int32)), vi (f1 x3 (12 : Int32)), vr a3, us, us, us, us, us, us, us, us]) rfl (Nat.le_of_eq rfl) (by decide) (by decide) (by decide) (by decide)
  refine c4 ?_
  obtain ⟨T5, h5, L5, B5, N5, W5, Q5, c5⟩ := o_castore B4 N0 g3 64 65 A3 (j := (0 : Int32)) (x := (f2 x0 (0 : Int32) (f1 x3 (7 : Int32)))) 0 (q0_5 x0 x1 x2 x3) at_64 rfl (by decide) (by decide) (by decide) rfl (Ls := #[vj x0, s2, vj x1, s2, vj x2, s2, vi x3, vi (q0_1 x0 x1 x2 x3), vi (q0_2 x0 x1 x2 x3), vi (q0_3 x0 x1 x2 x3), vi (q0_4 x0 x1 x2 x3), vi (f1 x3 (7 : Int32)), vi (f1 x3 (12 : Int32)), vr a3, us, us, us, us, us, us, us, us]) (rest := [])
  have A5 : AI Z h5 a3 .char 4 (w0_6 x0 x1 x2 x3) := Q5
  refine c5 ?_
  refine o_aload B5 65 67 (v := (.ref a3)) at_65 rfl rfl rfl ?_
  refine o_iconst B5 67 68 (1 : Int32) at_67 rfl (by decide) ?_
  refine o_lloadN B5 68 69 (v := x0) at_68 rfl rfl ?_
  refine o_iconst B5 69 70 (1 : Int32) at_69 rfl (by decide) ?_
  refine o_iload B5 70 72 (v := (f1 x3 (7 : Int32))) at_70 rfl rfl ?_
  obtain ⟨T6, B6, c6⟩ := o_callP B5 72 75 at_72 rfl (hw _ (mi 5 rfl)) (hw _ (mi 6 rfl)) (hw _ (mi 2 rfl)) (hw _ (mi 7 rfl)) (by decide) (rm2 l Z a0 hw x0 (1 : Int32) (f1 x3 (7 : Int32)) h5 ) 2 [(.long x0), (.int (1 : Int32)), (.int (f1 x3 (7 : Int32)))] [(.int (1 : Int32)), (.ref a3)] pd__JIZ_C rfl rfl (st := [(.int (f1 x3 (7 : Int32))), (.int (1 : Int32)), (.long x0), (.int (1 : Int32)), (.ref a3)]) rfl (Ls := #[vj x0, s2, vj x1, s2, vj x2, s2, vi x3, vi (q0_1 x0 x1 x2 x3), vi (q0_2 x0 x1 x2 x3), vi (q0_3 x0 x1 x2 x3), vi (q0_4 x0 x1 x2 x3), vi (f1 x3 (7 : Int32)), vi (f1 x3 (12 : Int32)), vr a3, us, us, us, us, us, us, us, us]) rfl (Nat.le_of_eq rfl) (by decide) (by decide) (by decide) (by decide)
  refine c6 ?_
  obtain ⟨T7, h7, L7, B7, N7, W7, Q7, c7⟩ := o_castore B6 N5 g3 75 76 A5 (j := (1 : Int32)) (x := (f2 x0 (1 : Int32) (f1 x3 (7 : Int32)))) 1 (q0_7 x0 x1 x2 x3) at_75 rfl (by decide) (by decide) (by decide) rfl (Ls := #[vj x0, s2, vj x1, s2, vj x2, s2, vi x3, vi (q0_1 x0 x1 x2 x3), vi (q0_2 x0 x1 x2 x3), vi (q0_3 x0 x1 x2 x3), vi (q0_4 x0 x1 x2 x3), vi (f1 x3 (7 : Int32)), vi (f1 x3 (12 : Int32)), vr a3, us, us, us, us, us, us, us, us]) (rest := [])
  have A7 : AI Z h7 a3 .char 4 (w0_8 x0 x1 x2 x3) := Q7
  refine c7 ?_
  refine o_aload B7 76 78 (v := (.ref a3)) at_76 rfl rfl rfl ?_
  refine o_iconst B7 78 79 (2 : Int32) at_78 rfl (by decide) ?_
  refine o_lloadN B7 79 80 (v := x0) at_79 rfl rfl ?_
  refine o_iconst B7 80 81 (2 : Int32) at_80 rfl (by decide) ?_
  refine o_iload B7 81 83 (v := (f1 x3 (7 : Int32))) at_81 rfl rfl ?_
  obtain ⟨T8, B8, c8⟩ := o_callP B7 83 86 at_83 rfl (hw _ (mi 5 rfl)) (hw _ (mi 6 rfl)) (hw _ (mi 2 rfl)) (hw _ (mi 7 rfl)) (by decide) (rm2 l Z a0 hw x0 (2 : Int32) (f1 x3 (7 : Int32)) h7 ) 2 [(.long x0), (.int (2 : Int32)), (.int (f1 x3 (7 : Int32)))] [(.int (2 : Int32)), (.ref a3)] pd__JIZ_C rfl rfl (st := [(.int (f1 x3 (7 : Int32))), (.int (2 : Int32)), (.long x0), (.int (2 : Int32)), (.ref a3)]) rfl (Ls := #[vj x0, s2, vj x1, s2, vj x2, s2, vi x3, vi (q0_1 x0 x1 x2 x3), vi (q0_2 x0 x1 x2 x3), vi (q0_3 x0 x1 x2 x3), vi (q0_4 x0 x1 x2 x3), vi (f1 x3 (7 : Int32)), vi (f1 x3 (12 : Int32)), vr a3, us, us, us, us, us, us, us, us]) rfl (Nat.le_of_eq rfl) (by decide) (by decide) (by decide) (by decide)
  refine c8 ?_
  obtain ⟨T9, h9, L9, B9, N9, W9, Q9, c9⟩ := o_castore B8 N7 g3 86 87 A7 (j := (2 : Int32)) (x := (f2 x0 (2 : Int32) (f1 x3 (7 : Int32)))) 2 (q0_9 x0 x1 x2 x3) at_86 rfl (by decide) (by decide) (by decide) rfl (Ls := #[vj x0, s2, vj x1, s2, vj x2, s2, vi x3, vi (q0_1 x0 x1 x2 x3), vi (q0_2 x0 x1 x2 x3), vi (q0_3 x0 x1 x2 x3), vi (q0_4 x0 x1 x2 x3), vi (f1 x3 (7 : Int32)), vi (f1 x3 (12 : Int32)), vr a3, us, us, us, us, us, us, us, us]) (rest := [])
  have A9 : AI Z h9 a3 .char 4 (w0_10 x0 x1 x2 x3) := Q9
  refine c9 ?_
  refine o_aload B9 87 89 (v := (.ref a3)) at_87 rfl rfl rfl ?_
  refine o_iconst B9 89 90 (3 : Int32) at_89 rfl (by decide) ?_
  refine o_lloadN B9 90 91 (v := x0) at_90 rfl rfl ?_
  refine o_iconst B9 91 92 (3 : Int32) at_91 rfl (by decide) ?_
  refine o_iload B9 92 94 (v := (f1 x3 (7 : Int32))) at_92 rfl rfl ?_
  obtain ⟨T10, B10, c10⟩ := o_callP B9 94 97 at_94 rfl (hw _ (mi 5 rfl)) (hw _ (mi 6 rfl)) (hw _ (mi 2 rfl)) (hw _ (mi 7 rfl)) (by decide) (rm2 l Z a0 hw x0 (3 : Int32) (f1 x3 (7 : Int32)) h9 ) 2 [(.long x0), (.int (3 : Int32)), (.int (f1 x3 (7 : Int32)))] [(.int (3 : Int32)), (.ref a3)] pd__JIZ_C rfl rfl (st := [(.int (f1 x3 (7 : Int32))), (.int (3 : Int32)), (.long x0), (.int (3 : Int32)), (.ref a3)]) rfl (Ls := #[vj x0, s2, vj x1, s2, vj x2, s2, vi x3, vi (q0_1 x0 x1 x2 x3), vi (q0_2 x0 x1 x2 x3), vi (q0_3 x0 x1 x2 x3), vi (q0_4 x0 x1 x2 x3), vi (f1 x3 (7 : Int32)), vi (f1 x3 (12 : Int32)), vr a3, us, us, us, us, us, us, us, us]) rfl (Nat.le_of_eq rfl) (by decide) (by decide) (by decide) (by decide)
  refine c10 ?_
  obtain ⟨T11, h11, L11, B11, N11, W11, Q11, c11⟩ := o_castore B10 N9 g3 97 98 A9 (j := (3 : Int32)) (x := (f2 x0 (3 : Int32) (f1 x3 (7 : Int32)))) 3 (q0_11 x0 x1 x2 x3) at_97 rfl (by decide) (by decide) (by decide) rfl (Ls := #[vj x0, s2, vj x1, s2, vj x2, s2, vi x3, vi (q0_1 x0 x1 x2 x3), vi (q0_2 x0 x1 x2 x3), vi (q0_3 x0 x1 x2 x3), vi (q0_4 x0 x1 x2 x3), vi (f1 x3 (7 : Int32)), vi (f1 x3 (12 : Int32)), vr a3, us, us, us, us, us, us, us, us]) (rest := [])
  have A11 : AI Z h11 a3 .char 4 (w0_12 x0 x1 x2 x3) := Q11
  refine c11 ?_
  refine o_iconst B11 98 99 (4 : Int32) at_98 rfl (by decide) ?_
  obtain ⟨a12, T12, h12, z12, B12, E12, A12, c12⟩ := o_newI B11 99 101 (ty := .char) (z := (4 : Int32)) 4 4 (hw _ (mi 4 rfl)) at_99 rfl rfl rfl (by decide) (by decide) (by decide) (by decide) (by decide) (by decide) (Ls := #[vj x0, s2, vj x1, s2, vj x2, s2, vi x3, vi (q0_1 x0 x1 x2 x3), vi (q0_2 x0 x1 x2 x3), vi (q0_3 x0 x1 x2 x3), vi (q0_4 x0 x1 x2 x3), vi (f1 x3 (7 : Int32)), vi (f1 x3 (12 : Int32)), vr a3, us, us, us, us, us, us, us, us]) (rest := [])
  have lt13 : (a3 : Nat) < a12 := by rw [z12]; exact A11.lt
  have g12 : n0 ≤ a12 := by rw [z12]; exact (W11.size ▸ (W9.size ▸ (W7.size ▸ (W5.size ▸ s3))))
  have s12 : n0 ≤ h12.size := Nat.le_trans (W11.size ▸ (W9.size ▸ (W7.size ▸ (W5.size ▸ s3)))) E12.1
  refine c12 ?_
  refine o_astore B12 101 103 (l' := #[vj x0, s2, vj x1, s2, vj x2, s2, vi x3, vi (q0_1 x0 x1 x2 x3), vi (q0_2 x0 x1 x2 x3), vi (q0_3 x0 x1 x2 x3), vi (q0_4 x0 x1 x2 x3), vi (f1 x3 (7 : Int32)), vi (f1 x3 (12 : Int32)), vr a3, vr a12, us, us, us, us, us, us, us]) at_101 rfl rfl rfl ?_
  refine o_aload B12 103 105 (v := (.ref a12)) at_103 rfl rfl rfl ?_
  refine o_iconst B12 105 106 (0 : Int32) at_105 rfl (by decide) ?_
  refine o_lloadN B12 106 107 (v := x1) at_106 rfl rfl ?_
  refine o_iconst B12 107 108 (0 : Int32) at_107 rfl (by decide) ?_
  refine o_iload B12 108 110 (v := (f1 x3 (12 : Int32))) at_108 rfl rfl ?_
  obtain ⟨T14, B14, c14⟩ := o_callP B12 110 113 at_110 rfl (hw _ (mi 5 rfl)) (hw _ (mi 6 rfl)) (hw _ (mi 2 rfl)) (hw _ (mi 7 rfl)) (by decide) (rm2 l Z a0 hw x1 (0 : Int32) (f1 x3 (12 : Int32)) h12 ) 2 [(.long x1), (.int (0 : Int32)), (.int (f1 x3 (12 : Int32)))] [(.int (0 : Int32)), (.ref a12)] pd__JIZ_C rfl rfl (st := [(.int (f1 x3 (12 : Int32))), (.int (0 : Int32)), (.long x1), (.int (0 : Int32)), (.ref a12)]) rfl (Ls := #[vj x0, s2, vj x1, s2, vj x2, s2, vi x3, vi (q0_1 x0 x1 x2 x3), vi (q0_2 x0 x1 x2 x3), vi (q0_3 x0 x1 x2 x3), vi (q0_4 x0 x1 x2 x3), vi (f1 x3 (7 : Int32)), vi (f1 x3 (12 : Int32)), vr a3, vr a12, us, us, us, us, us, us, us]) rfl (Nat.le_of_eq rfl) (by decide) (by decide) (by decide) (by decide)
  refine c14 ?_
  obtain ⟨T15, h15, L15, B15, N15, W15, Q15, c15⟩ := o_castore B14 N11 g12 113 114 A12 (j := (0 : Int32)) (x := (f2 x1 (0 : Int32) (f1 x3 (12 : Int32)))) 0 (q0_13 x0 x1 x2 x3) at_113 rfl (by decide) (by decide) (by decide) rfl (Ls := #[vj x0, s2, vj x1, s2, vj x2, s2, vi x3, vi (q0_1 x0 x1 x2 x3), vi (q0_2 x0 x1 x2 x3), vi (q0_3 x0 x1 x2 x3), vi (q0_4 x0 x1 x2 x3), vi (f1 x3 (7 : Int32)), vi (f1 x3 (12 : Int32)), vr a3, vr a12, us, us, us, us, us, us, us]) (rest := [])
  have A15 : AI Z h15 a12 .char 4 (w0_14 x0 x1 x2 x3) := Q15
  refine c15 ?_
  refine o_aload B15 114 116 (v := (.ref a12)) at_114 rfl rfl rfl ?_
  refine o_iconst B15 116 117 (1 : Int32) at_116 rfl (by decide) ?_
  refine o_lloadN B15 117 118 (v := x1) at_117 rfl rfl ?_
  refine o_iconst B15 118 119 (1 : Int32) at_118 rfl (by decide) ?_
  refine o_iload B15 119 121 (v := (f1 x3 (12 : Int32))) at_119 rfl rfl ?_
  obtain ⟨T16, B16, c16⟩ := o_callP B15 121 124 at_121 rfl (hw _ (mi 5 rfl)) (hw _ (mi 6 rfl)) (hw _ (mi 2 rfl)) (hw _ (mi 7 rfl)) (by decide) (rm2 l Z a0 hw x1 (1 : Int32) (f1 x3 (12 : Int32)) h15 ) 2 [(.long x1), (.int (1 : Int32)), (.int (f1 x3 (12 : Int32)))] [(.int (1 : Int32)), (.ref a12)] pd__JIZ_C rfl rfl (st := [(.int (f1 x3 (12 : Int32))), (.int (1 : Int32)), (.long x1), (.int (1 : Int32)), (.ref a12)]) rfl (Ls := #[vj x0, s2, vj x1, s2, vj x2, s2, vi x3, vi (q0_1 x0 x1 x2 x3), vi (q0_2 x0 x1 x2 x3), vi (q0_3 x0 x1 x2 x3), vi (q0_4 x0 x1 x2 x3), vi (f1 x3 (7 : Int32)), vi (f1 x3 (12 : Int32)), vr a3, vr a12, us, us, us, us, us, us, us]) rfl (Nat.le_of_eq rfl) (by decide) (by decide) (by decide) (by decide)
  refine c16 ?_
  obtain ⟨T17, h17, L17, B17, N17, W17, Q17, c17⟩ := o_castore B16 N15 g12 124 125 A15 (j := (1 : Int32)) (x := (f2 x1 (1 : Int32) (f1 x3 (12 : Int32)))) 1 (q0_15 x0 x1 x2 x3) at_124 rfl (by decide) (by decide) (by decide) rfl (Ls := #[vj x0, s2, vj x1, s2, vj x2, s2, vi x3, vi (q0_1 x0 x1 x2 x3), vi (q0_2 x0 x1 x2 x3), vi (q0_3 x0 x1 x2 x3), vi (q0_4 x0 x1 x2 x3), vi (f1 x3 (7 : Int32)), vi (f1 x3 (12 : Int32)), vr a3, vr a12, us, us, us, us, us, us, us]) (rest := [])
  have A17 : AI Z h17 a12 .char 4 (w0_16 x0 x1 x2 x3) := Q17
  refine c17 ?_
  refine o_aload B17 125 127 (v := (.ref a12)) at_125 rfl rfl rfl ?_
  refine o_iconst B17 127 128 (2 : Int32) at_127 rfl (by decide) ?_
  refine o_lloadN B17 128 129 (v := x1) at_128 rfl rfl ?_
  refine o_iconst B17 129 130 (2 : Int32) at_129 rfl (by decide) ?_
  refine o_iload B17 130 132 (v := (f1 x3 (12 : Int32))) at_130 rfl rfl ?_
  obtain ⟨T18, B18, c18⟩ := o_callP B17 132 135 at_132 rfl (hw _ (mi 5 rfl)) (hw _ (mi 6 rfl)) (hw _ (mi 2 rfl)) (hw _ (mi 7 rfl)) (by decide) (rm2 l Z a0 hw x1 (2 : Int32) (f1 x3 (12 : Int32)) h17 ) 2 [(.long x1), (.int (2 : Int32)), (.int (f1 x3 (12 : Int32)))] [(.int (2 : Int32)), (.ref a12)] pd__JIZ_C rfl rfl (st := [(.int (f1 x3 (12 : Int32))), (.int (2 : Int32)), (.long x1), (.int (2 : Int32)), (.ref a12)]) rfl (Ls := #[vj x0, s2, vj x1, s2, vj x2, s2, vi x3, vi (q0_1 x0 x1 x2 x3), vi (q0_2 x0 x1 x2 x3), vi (q0_3 x0 x1 x2 x3), vi (q0_4 x0 x1 x2 x3), vi (f1 x3 (7 : Int32)), vi (f1 x3 (12 : Int32)), vr a3, vr a12, us, us, us, us, us, us, us]) rfl (Nat.le_of_eq rfl) (by decide) (by decide) (by decide) (by decide)
  refine c18 ?_
  obtain ⟨T19, h19, L19, B19, N19, W19, Q19, c19⟩ := o_castore B18 N17 g12 135 136 A17 (j := (2 : Int32)) (x := (f2 x1 (2 : Int32) (f1 x3 (12 : Int32)))) 2 (q0_17 x0 x1 x2 x3) at_135 rfl (by decide) (by decide) (by decide) rfl (Ls := #[vj x0, s2, vj x1, s2, vj x2, s2, vi x3, vi (q0_1 x0 x1 x2 x3), vi (q0_2 x0 x1 x2 x3), vi (q0_3 x0 x1 x2 x3), vi (q0_4 x0 x1 x2 x3), vi (f1 x3 (7 : Int32)), vi (f1 x3 (12 : Int32)), vr a3, vr a12, us, us, us, us, us, us, us]) (rest := [])
  have A19 : AI Z h19 a12 .char 4 (w0_18 x0 x1 x2 x3) := Q19
  refine c19 ?_
  refine o_aload B19 136 138 (v := (.ref a12)) at_136 rfl rfl rfl ?_
  refine o_iconst B19 138 139 (3 : Int32) at_138 rfl (by decide) ?_
  refine o_lloadN B19 139 140 (v := x1) at_139 rfl rfl ?_
  refine o_iconst B19 140 141 (3 : Int32) at_140 rfl (by decide) ?_
  refine o_iload B19 141 143 (v := (f1 x3 (12 : Int32))) at_141 rfl rfl ?_
  obtain ⟨T20, B20, c20⟩ := o_callP B19 143 146 at_143 rfl (hw _ (mi 5 rfl)) (hw _ (mi 6 rfl)) (hw _ (mi 2 rfl)) (hw _ (mi 7 rfl)) (by decide) (rm2 l Z a0 hw x1 (3 : Int32) (f1 x3 (12 : Int32)) h19 ) 2 [(.long x1), (.int (3 : Int32)), (.int (f1 x3 (12 : Int32)))] [(.int (3 : Int32)), (.ref a12)] pd__JIZ_C rfl rfl (st := [(.int (f1 x3 (12 : Int32))), (.int (3 : Int32)), (.long x1), (.int (3 : Int32)), (.ref a12)]) rfl (Ls := #[vj x0, s2, vj x1, s2, vj x2, s2, vi x3, vi (q0_1 x0 x1 x2 x3), vi (q0_2 x0 x1 x2 x3), vi (q0_3 x0 x1 x2 x3), vi (q0_4 x0 x1 x2 x3), vi (f1 x3 (7 : Int32)), vi (f1 x3 (12 : Int32)), vr a3, vr a12, us, us, us, us, us, us, us]) rfl (Nat.le_of_eq rfl) (by decide) (by decide) (by decide) (by decide)
  refine c20 ?_
  obtain ⟨T21, h21, L21, B21, N21, W21, Q21, c21⟩ := o_castore B20 N19 g12 146 147 A19 (j := (3 : Int32)) (x := (f2 x1 (3 : Int32) (f1 x3 (12 : Int32)))) 3 (q0_19 x0 x1 x2 x3) at_146 rfl (by decide) (by decide) (by decide) rfl (Ls := #[vj x0, s2, vj x1, s2, vj x2, s2, vi x3, vi (q0_1 x0 x1 x2 x3), vi (q0_2 x0 x1 x2 x3), vi (q0_3 x0 x1 x2 x3), vi (q0_4 x0 x1 x2 x3), vi (f1 x3 (7 : Int32)), vi (f1 x3 (12 : Int32)), vr a3, vr a12, us, us, us, us, us, us, us]) (rest := [])
  have A21 : AI Z h21 a12 .char 4 (w0_20 x0 x1 x2 x3) := Q21
  refine c21 ?_
  by_cases k1 : (q0_4 x0 x1 x2 x3) = (0 : Int32)
  · rw [k1]
    refine o_iload B21 147 149 (v := (0 : Int32)) at_147 rfl rfl ?_
    refine o_ifN B21 149 152 at_149 rfl (XT.i0_ne_f (by decide)) ?_
    refine o_aload B21 152 154 (v := (.ref a3)) at_152 rfl rfl rfl ?_
    refine o_goto B21 154 159 at_154 (by decide) (by decide) ?_
    refine o_astore B21 159 161 (l' := #[vj x0, s2, vj x1, s2, vj x2, s2, vi x3, vi (q0_1 x0 x1 x2 x3), vi (q0_2 x0 x1 x2 x3), vi (q0_3 x0 x1 x2 x3), vi 0, vi (f1 x3 (7 : Int32)), vi (f1 x3 (12 : Int32)), vr a3, vr a12, vr a3, us, us, us, us, us, us]) at_159 rfl rfl rfl ?_
    refine o_iload B21 161 163 (v := (0 : Int32)) at_161 rfl rfl ?_
    refine o_ifN B21 163 166 at_163 rfl (XT.i0_ne_f (by decide)) ?_
    refine o_iload B21 166 168 (v := (q0_1 x0 x1 x2 x3)) at_166 rfl rfl ?_
    refine o_goto B21 168 173 at_168 (by decide) (by decide) ?_
    refine o_istore B21 173 175 (l' := #[vj x0, s2, vj x1, s2, vj x2, s2, vi x3, vi (q0_1 x0 x1 x2 x3), vi (q0_2 x0 x1 x2 x3), vi (q0_3 x0 x1 x2 x3), vi 0, vi (f1 x3 (7 : Int32)), vi (f1 x3 (12 : Int32)), vr a3, vr a12, vr a3, vi (q0_21 x0 x1 x2 x3), us, us, us, us, us]) at_173 rfl rfl ?_
    refine o_iconst B21 175 176 (4 : Int32) at_175 rfl (by decide) ?_
    obtain ⟨a22, T22, h22, z22, B22, E22, A22, c22⟩ := o_newI B21 176 178 (ty := .char) (z := (4 : Int32)) 4 4 (hw _ (mi 4 rfl)) at_176 rfl rfl rfl (by decide) (by decide) (by decide) (by decide) (by decide) (by decide) (Ls := #[vj x0, s2, vj x1, s2, vj x2, s2, vi x3, vi (q0_1 x0 x1 x2 x3), vi (q0_2 x0 x1 x2 x3), vi (q0_3 x0 x1 x2 x3), vi 0, vi (f1 x3 (7 : Int32)), vi (f1 x3 (12 : Int32)), vr a3, vr a12, vr a3, vi (q0_21 x0 x1 x2 x3), us, us, us, us, us]) (rest := [])
    have F23 := (((((A11.ext E12).other W15 (Nat.ne_of_lt lt13)).other W17 (Nat.ne_of_lt lt13)).other W19 (Nat.ne_of_lt lt13)).other W21 (Nat.ne_of_lt lt13))
    have lt24 : (a3 : Nat) < a22 := by rw [z22]; exact F23.lt
    have lt25 : (a12 : Nat) < a22 := by rw [z22]; exact A21.lt
    have g22 : n0 ≤ a22 := by rw [z22]; exact (W21.size ▸ (W19.size ▸ (W17.size ▸ (W15.size ▸ s12))))
    have s22 : n0 ≤ h22.size := Nat.le_trans (W21.size ▸ (W19.size ▸ (W17.size ▸ (W15.size ▸ s12)))) E22.1
    refine c22 ?_
    refine o_astore B22 178 180 (l' := #[vj x0, s2, vj x1, s2, vj x2, s2, vi x3, vi (q0_1 x0 x1 x2 x3), vi (q0_2 x0 x1 x2 x3), vi (q0_3 x0 x1 x2 x3), vi 0, vi (f1 x3 (7 : Int32)), vi (f1 x3 (12 : Int32)), vr a3, vr a12, vr a3, vi (q0_21 x0 x1 x2 x3), vr a22, us, us, us, us]) at_178 rfl rfl rfl ?_
    refine o_aload B22 180 182 (v := (.ref a22)) at_180 rfl rfl rfl ?_
    refine o_iconst B22 182 183 (0 : Int32) at_182 rfl (by decide) ?_
    refine o_iload B22 183 185 (v := x3) at_183 rfl rfl ?_
    refine o_bipush B22 185 187 (8 : Int32) at_185 rfl (by decide) ?_
    obtain ⟨T26, B26, c26⟩ := o_callP B22 187 190 at_187 rfl (hw _ (mi 0 rfl)) (hw _ (mi 1 rfl)) (hw _ (mi 2 rfl)) (hw _ (mi 3 rfl)) (by decide) (rm1 l Z a0 hw x3 (8 : Int32) h22 ) 2 [(.int x3), (.int (8 : Int32))] [(.int (0 : Int32)), (.ref a22)] pd__II_Z rfl rfl (st := [(.int (8 : Int32)), (.int x3), (.int (0 : Int32)), (.ref a22)]) rfl (Ls := #[vj x0, s2, vj x1, s2, vj x2, s2, vi x3, vi (q0_1 x0 x1 x2 x3), vi (q0_2 x0 x1 x2 x3), vi (q0_3 x0 x1 x2 x3), vi 0, vi (f1 x3 (7 : Int32)), vi (f1 x3 (12 : Int32)), vr a3, vr a12, vr a3, vi (q0_21 x0 x1 x2 x3), vr a22, us, us, us, us]) rfl (Nat.le_of_eq rfl) (by decide) (by decide) (by decide) (by decide)
    refine c26 ?_
    have dm2 : ∀ {P : Outcome → State → Prop}, OG p.tables e below P (T26.setTop (mkF m 204 #[vj x0, s2, vj x1, s2, vj x2, s2, vi x3, vi (q0_1 x0 x1 x2 x3), vi (q0_2 x0 x1 x2 x3), vi (q0_3 x0 x1 x2 x3), vi 0, vi (f1 x3 (7 : Int32)), vi (f1 x3 (12 : Int32)), vr a3, vr a12, vr a3, vi (q0_21 x0 x1 x2 x3), vr a22, us, us, us, us] [(.int (q0_22 x0 x1 x2 x3)), (.int (0 : Int32)), (.ref a22)])) → OG p.tables e below P (T26.setTop (mkF m 190 #[vj x0, s2, vj x1, s2, vj x2, s2, vi x3, vi (q0_1 x0 x1 x2 x3), vi (q0_2 x0 x1 x2 x3), vi (q0_3 x0 x1 x2 x3), vi 0, vi (f1 x3 (7 : Int32)), vi (f1 x3 (12 : Int32)), vr a3, vr a12, vr a3, vi (q0_21 x0 x1 x2 x3), vr a22, us, us, us, us] [(.int (f1 x3 (8 : Int32))), (.int (0 : Int32)), (.ref a22)])) := by
      intro P k
      by_cases k3 : (f1 x3 (8 : Int32)) = 0
      · refine o_ifY B26 190 200 at_190 (XT.i0_eq_t k3) (by decide) (by decide) ?_
        refine o_aload B26 200 202 (v := (.ref a3)) at_200 rfl rfl rfl ?_
        refine o_iconst B26 202 203 (0 : Int32) at_202 rfl (by decide) ?_
        have F28 := (F23.ext E22)
        refine o_caload B26 203 204 F28 0 (q0_5 x0 x1 x2 x3) at_203 rfl (by decide) (by decide) (by decide) rfl ?_
        have y0 : (q0_22 x0 x1 x2 x3) = (q0_5 x0 x1 x2 x3) := by simp only [q0_22, if_pos k3]
        rw [y0] at k
        exact k
      · refine o_ifN B26 190 193 at_190 rfl (XT.i0_eq_f k3) ?_
        refine o_lload B26 193 195 (v := x2) at_193 rfl rfl ?_
        refine o_l2i B26 195 196 at_195 rfl ?_
        refine o_i2c B26 196 197 at_196 rfl ?_
        refine o_goto B26 197 204 at_197 (by decide) (by decide) ?_
        have y0 : (q0_22 x0 x1 x2 x3) = x2.toInt32.toUInt32.toUInt16.toUInt32.toInt32 := by simp only [q0_22, if_neg k3]
        rw [y0] at k
        exact k
    refine dm2 ?_
    obtain ⟨T31, h31, L31, B31, N31, W31, Q31, c31⟩ := o_castore B26 N21 g22 204 205 A22 (j := (0 : Int32)) (x := (q0_22 x0 x1 x2 x3)) 0 (q0_23 x0 x1 x2 x3) at_204 rfl (by decide) (by decide) (by decide) rfl (Ls := #[vj x0, s2, vj x1, s2, vj x2, s2, vi x3, vi (q0_1 x0 x1 x2 x3), vi (q0_2 x0 x1 x2 x3), vi (q0_3 x0 x1 x2 x3), vi 0, vi (f1 x3 (7 : Int32)), vi (f1 x3 (12 : Int32)), vr a3, vr a12, vr a3, vi (q0_21 x0 x1 x2 x3), vr a22, us, us, us, us]) (rest := [])
    have A31 : AI Z h31 a22 .char 4 (w0_24 x0 x1 x2 x3) := Q31
    refine c31 ?_
    refine o_aload B31 205 207 (v := (.ref a22)) at_205 rfl rfl rfl ?_
    refine o_iconst B31 207 208 (1 : Int32) at_207 rfl (by decide) ?_
    refine o_iload B31 208 210 (v := x3) at_208 rfl rfl ?_
    refine o_bipush B31 210 212 (9 : Int32) at_210 rfl (by decide) ?_
    obtain ⟨T32, B32, c32⟩ := o_callP B31 212 215 at_212 rfl (hw _ (mi 0 rfl)) (hw _ (mi 1 rfl)) (hw _ (mi 2 rfl)) (hw _ (mi 3 rfl)) (by decide) (rm1 l Z a0 hw x3 (9 : Int32) h31 ) 2 [(.int x3), (.int (9 : Int32))] [(.int (1 : Int32)), (.ref a22)] pd__II_Z rfl rfl (st := [(.int (9 : Int32)), (.int x3), (.int (1 : Int32)), (.ref a22)]) rfl (Ls := #[vj x0, s2, vj x1, s2, vj x2, s2, vi x3, vi (q0_1 x0 x1 x2 x3), vi (q0_2 x0 x1 x2 x3), vi (q0_3 x0 x1 x2 x3), vi 0, vi (f1 x3 (7 : Int32)), vi (f1 x3 (12 : Int32)), vr a3, vr a12, vr a3, vi (q0_21 x0 x1 x2 x3), vr a22, us, us, us, us]) rfl (Nat.le_of_eq rfl) (by decide) (by decide) (by decide) (by decide)
    refine c32 ?_
    have dm4 : ∀ {P : Outcome → State → Prop}, OG p.tables e below P (T32.setTop (mkF m 232 #[vj x0, s2, vj x1, s2, vj x2, s2, vi x3, vi (q0_1 x0 x1 x2 x3), vi (q0_2 x0 x1 x2 x3), vi (q0_3 x0 x1 x2 x3), vi 0, vi (f1 x3 (7 : Int32)), vi (f1 x3 (12 : Int32)), vr a3, vr a12, vr a3, vi (q0_21 x0 x1 x2 x3), vr a22, us, us, us, us] [(.int (q0_25 x0 x1 x2 x3)), (.int (1 : Int32)), (.ref a22)])) → OG p.tables e below P (T32.setTop (mkF m 215 #[vj x0, s2, vj x1, s2, vj x2, s2, vi x3, vi (q0_1 x0 x1 x2 x3), vi (q0_2 x0 x1 x2 x3), vi (q0_3 x0 x1 x2 x3), vi 0, vi (f1 x3 (7 : Int32)), vi (f1 x3 (12 : Int32)), vr a3, vr a12, vr a3, vi (q0_21 x0 x1 x2 x3), vr a22, us, us, us, us] [(.int (f1 x3 (9 : Int32))), (.int (1 : Int32)), (.ref a22)])) := by
      intro P k
      by_cases k5 : (f1 x3 (9 : Int32)) = 0
      · refine o_ifY B32 215 228 at_215 (XT.i0_eq_t k5) (by decide) (by decide) ?_
        refine o_aload B32 228 230 (v := (.ref a3)) at_228 rfl rfl rfl ?_
        refine o_iconst B32 230 231 (1 : Int32) at_230 rfl (by decide) ?_
        have F34 := ((F23.ext E22).other W31 (Nat.ne_of_lt lt24))
        refine o_caload B32 231 232 F34 1 (q0_7 x0 x1 x2 x3) at_231 rfl (by decide) (by decide) (by decide) rfl ?_
        have y0 : (q0_25 x0 x1 x2 x3) = (q0_7 x0 x1 x2 x3) := by simp only [q0_25, if_pos k5]
        rw [y0] at k
        exact k
      · refine o_ifN B32 215 218 at_215 rfl (XT.i0_eq_f k5) ?_
        refine o_lload B32 218 220 (v := x2) at_218 rfl rfl ?_
        refine o_bipush B32 220 222 (16 : Int32) at_220 rfl (by decide) ?_
        refine o_lushr B32 222 223 at_222 rfl ?_
        refine o_l2i B32 223 224 at_223 rfl ?_
        refine o_i2c B32 224 225 at_224 rfl ?_
        refine o_goto B32 225 232 at_225 (by decide) (by decide) ?_
        have y0 : (q0_25 x0 x1 x2 x3) = (XT.ushrL x2 (16 : Int32)).toInt32.toUInt32.toUInt16.toUInt32.toInt32 := by simp only [q0_25, if_neg k5]
        rw [y0] at k
        exact k
    refine dm4 ?_
    obtain ⟨T37, h37, L37, B37, N37, W37, Q37, c37⟩ := o_castore B32 N31 g22 232 233 A31 (j := (1 : Int32)) (x := (q0_25 x0 x1 x2 x3)) 1 (q0_26 x0 x1 x2 x3) at_232 rfl (by decide) (by decide) (by decide) rfl (Ls := #[vj x0, s2, vj x1, s2, vj x2, s2, vi x3, vi (q0_1 x0 x1 x2 x3), vi (q0_2 x0 x1 x2 x3), vi (q0_3 x0 x1 x2 x3), vi 0, vi (f1 x3 (7 : Int32)), vi (f1 x3 (12 : Int32)), vr a3, vr a12, vr a3, vi (q0_21 x0 x1 x2 x3), vr a22, us, us, us, us]) (rest := [])
    have A37 : AI Z h37 a22 .char 4 (w0_27 x0 x1 x2 x3) := Q37
    refine c37 ?_
    refine o_aload B37 233 235 (v := (.ref a22)) at_233 rfl rfl rfl ?_
    refine o_iconst B37 235 236 (2 : Int32) at_235 rfl (by decide) ?_
    refine o_iload B37 236 238 (v := x3) at_236 rfl rfl ?_
    refine o_bipush B37 238 240 (10 : Int32) at_238 rfl (by decide) ?_
    obtain ⟨T38, B38, c38⟩ := o_callP B37 240 243 at_240 rfl (hw _ (mi 0 rfl)) (hw _ (mi 1 rfl)) (hw _ (mi 2 rfl)) (hw _ (mi 3 rfl)) (by decide) (rm1 l Z a0 hw x3 (10 : Int32) h37 ) 2 [(.int x3), (.int (10 : Int32))] [(.int (2 : Int32)), (.ref a22)] pd__II_Z rfl rfl (st := [(.int (10 : Int32)), (.int x3), (.int (2 : Int32)), (.ref a22)]) rfl (Ls := #[vj x0, s2, vj x1, s2, vj x2, s2, vi x3, vi (q0_1 x0 x1 x2 x3), vi (q0_2 x0 x1 x2 x3), vi (q0_3 x0 x1 x2 x3), vi 0, vi (f1 x3 (7 : Int32)), vi (f1 x3 (12 : Int32)), vr a3, vr a12, vr a3, vi (q0_21 x0 x1 x2 x3), vr a22, us, us, us, us]) rfl (Nat.le_of_eq rfl) (by decide) (by decide) (by decide) (by decide)
    refine c38 ?_
    have dm6 : ∀ {P : Outcome → State → Prop}, OG p.tables e below P (T38.setTop (mkF m 260 #[vj x0, s2, vj x1, s2, vj x2, s2, vi x3, vi (q0_1 x0 x1 x2 x3), vi (q0_2 x0 x1 x2 x3), vi (q0_3 x0 x1 x2 x3), vi 0, vi (f1 x3 (7 : Int32)), vi (f1 x3 (12 : Int32)), vr a3, vr a12, vr a3, vi (q0_21 x0 x1 x2 x3), vr a22, us, us, us, us] [(.int (q0_28 x0 x1 x2 x3)), (.int (2 : Int32)), (.ref a22)])) → OG p.tables e below P (T38.setTop (mkF m 243 #[vj x0, s2, vj x1, s2, vj x2, s2, vi x3, vi (q0_1 x0 x1 x2 x3), vi (q0_2 x0 x1 x2 x3), vi (q0_3 x0 x1 x2 x3), vi 0, vi (f1 x3 (7 : Int32)), vi (f1 x3 (12 : Int32)), vr a3, vr a12, vr a3, vi (q0_21 x0 x1 x2 x3), vr a22, us, us, us, us] [(.int (f1 x3 (10 : Int32))), (.int (2 : Int32)), (.ref a22)])) := by
      intro P k
      by_cases k7 : (f1 x3 (10 : Int32)) = 0
      · refine o_ifY B38 243 256 at_243 (XT.i0_eq_t k7) (by decide) (by decide) ?_
        refine o_aload B38 256 258 (v := (.ref a3)) at_256 rfl rfl rfl ?_
        refine o_iconst B38 258 259 (2 : Int32) at_258 rfl (by decide) ?_
        have F40 := (((F23.ext E22).other W31 (Nat.ne_of_lt lt24)).other W37 (Nat.ne_of_lt lt24))
        refine o_caload B38 259 260 F40 2 (q0_9 x0 x1 x2 x3) at_259 rfl (by decide) (by decide) (by decide) rfl ?_
        have y0 : (q0_28 x0 x1 x2 x3) = (q0_9 x0 x1 x2 x3) := by simp only [q0_28, if_pos k7]
        rw [y0] at k
        exact k
      · refine o_ifN B38 243 246 at_243 rfl (XT.i0_eq_f k7) ?_
        refine o_lload B38 246 248 (v := x2) at_246 rfl rfl ?_
        refine o_bipush B38 248 250 (32 : Int32) at_248 rfl (by decide) ?_
        refine o_lushr B38 250 251 at_250 rfl ?_
        refine o_l2i B38 251 252 at_251 rfl ?_
        refine o_i2c B38 252 253 at_252 rfl ?_
        refine o_goto B38 253 260 at_253 (by decide) (by decide) ?_
        have y0 : (q0_28 x0 x1 x2 x3) = (XT.ushrL x2 (32 : Int32)).toInt32.toUInt32.toUInt16.toUInt32.toInt32 := by simp only [q0_28, if_neg k7]
        rw [y0] at k
        exact k
    refine dm6 ?_
    obtain ⟨T43, h43, L43, B43, N43, W43, Q43, c43⟩ := o_castore B38 N37 g22 260 261 A37 (j := (2 : Int32)) (x := (q0_28 x0 x1 x2 x3)) 2 (q0_29 x0 x1 x2 x3) at_260 rfl (by decide) (by decide) (by decide) rfl (Ls := #[vj x0, s2, vj x1, s2, vj x2, s2, vi x3, vi (q0_1 x0 x1 x2 x3), vi (q0_2 x0 x1 x2 x3), vi (q0_3 x0 x1 x2 x3), vi 0, vi (f1 x3 (7 : Int32)), vi (f1 x3 (12 : Int32)), vr a3, vr a12, vr a3, vi (q0_21 x0 x1 x2 x3), vr a22, us, us, us, us]) (rest := [])
    have A43 : AI Z h43 a22 .char 4 (w0_30 x0 x1 x2 x3) := Q43
    refine c43 ?_
    refine o_aload B43 261 263 (v := (.ref a22)) at_261 rfl rfl rfl ?_
    refine o_iconst B43 263 264 (3 : Int32) at_263 rfl (by decide) ?_
    refine o_iload B43 264 266 (v := x3) at_264 rfl rfl ?_
    refine o_bipush B43 266 268 (11 : Int32) at_266 rfl (by decide) ?_
    obtain ⟨T44, B44, c44⟩ := o_callP B43 268 271 at_268 rfl (hw _ (mi 0 rfl)) (hw _ (mi 1 rfl)) (hw _ (mi 2 rfl)) (hw _ (mi 3 rfl)) (by decide) (rm1 l Z a0 hw x3 (11 : Int32) h43 ) 2 [(.int x3), (.int (11 : Int32))] [(.int (3 : Int32)), (.ref a22)] pd__II_Z rfl rfl (st := [(.int (11 : Int32)), (.int x3), (.int (3 : Int32)), (.ref a22)]) rfl (Ls := #[vj x0, s2, vj x1, s2, vj x2, s2, vi x3, vi (q0_1 x0 x1 x2 x3), vi (q0_2 x0 x1 x2 x3), vi (q0_3 x0 x1 x2 x3), vi 0, vi (f1 x3 (7 : Int32)), vi (f1 x3 (12 : Int32)), vr a3, vr a12, vr a3, vi (q0_21 x0 x1 x2 x3), vr a22, us, us, us, us]) rfl (Nat.le_of_eq rfl) (by decide) (by decide) (by decide) (by decide)
    refine c44 ?_
    have dm8 : ∀ {P : Outcome → State → Prop}, OG p.tables e below P (T44.setTop (mkF m 288 #[vj x0, s2, vj x1, s2, vj x2, s2, vi x3, vi (q0_1 x0 x1 x2 x3), vi (q0_2 x0 x1 x2 x3), vi (q0_3 x0 x1 x2 x3), vi 0, vi (f1 x3 (7 : Int32)), vi (f1 x3 (12 : Int32)), vr a3, vr a12, vr a3, vi (q0_21 x0 x1 x2 x3), vr a22, us, us, us, us] [(.int (q0_31 x0 x1 x2 x3)), (.int (3 : Int32)), (.ref a22)])) → OG p.tables e below P (T44.setTop (mkF m 271 #[vj x0, s2, vj x1, s2, vj x2, s2, vi x3, vi (q0_1 x0 x1 x2 x3), vi (q0_2 x0 x1 x2 x3), vi (q0_3 x0 x1 x2 x3), vi 0, vi (f1 x3 (7 : Int32)), vi (f1 x3 (12 : Int32)), vr a3, vr a12, vr a3, vi (q0_21 x0 x1 x2 x3), vr a22, us, us, us, us] [(.int (f1 x3 (11 : Int32))), (.int (3 : Int32)), (.ref a22)])) := by
      intro P k
      by_cases k9 : (f1 x3 (11 : Int32)) = 0
      · refine o_ifY B44 271 284 at_271 (XT.i0_eq_t k9) (by decide) (by decide) ?_
        refine o_aload B44 284 286 (v := (.ref a3)) at_284 rfl rfl rfl ?_
        refine o_iconst B44 286 287 (3 : Int32) at_286 rfl (by decide) ?_
        have F46 := ((((F23.ext E22).other W31 (Nat.ne_of_lt lt24)).other W37 (Nat.ne_of_lt lt24)).other W43 (Nat.ne_of_lt lt24))
        refine o_caload B44 287 288 F46 3 (q0_11 x0 x1 x2 x3) at_287 rfl (by decide) (by decide) (by decide) rfl ?_
        have y0 : (q0_31 x0 x1 x2 x3) = (q0_11 x0 x1 x2 x3) := by simp only [q0_31, if_pos k9]
        rw [y0] at k
        exact k
      · refine o_ifN B44 271 274 at_271 rfl (XT.i0_eq_f k9) ?_
        refine o_lload B44 274 276 (v := x2) at_274 rfl rfl ?_
        refine o_bipush B44 276 278 (48 : Int32) at_276 rfl (by decide) ?_
        refine o_lushr B44 278 279 at_278 rfl ?_
        refine o_l2i B44 279 280 at_279 rfl ?_
        refine o_i2c B44 280 281 at_280 rfl ?_
        refine o_goto B44 281 288 at_281 (by decide) (by decide) ?_
        have y0 : (q0_31 x0 x1 x2 x3) = (XT.ushrL x2 (48 : Int32)).toInt32.toUInt32.toUInt16.toUInt32.toInt32 := by simp only [q0_31, if_neg k9]
        rw [y0] at k
        exact k
    refine dm8 ?_
    obtain ⟨T49, h49, L49, B49, N49, W49, Q49, c49⟩ := o_castore B44 N43 g22 288 289 A43 (j := (3 : Int32)) (x := (q0_31 x0 x1 x2 x3)) 3 (q0_32 x0 x1 x2 x3) at_288 rfl (by decide) (by decide) (by decide) rfl (Ls := #[vj x0, s2, vj x1, s2, vj x2, s2, vi x3, vi (q0_1 x0 x1 x2 x3), vi (q0_2 x0 x1 x2 x3), vi (q0_3 x0 x1 x2 x3), vi 0, vi (f1 x3 (7 : Int32)), vi (f1 x3 (12 : Int32)), vr a3, vr a12, vr a3, vi (q0_21 x0 x1 x2 x3), vr a22, us, us, us, us]) (rest := [])
    have A49 : AI Z h49 a22 .char 4 (w0_33 x0 x1 x2 x3) := Q49
    refine c49 ?_
    refine o_iload B49 289 291 (v := (q0_3 x0 x1 x2 x3)) at_289 rfl rfl ?_
    refine o_iload B49 291 293 (v := (q0_21 x0 x1 x2 x3)) at_291 rfl rfl ?_
    have dm10 : ∀ {P : Outcome → State → Prop}, OG p.tables e below P (T49.setTop (mkF m 352 #[vj x0, s2, vj x1, s2, vj x2, s2, vi x3, vi (q0_1 x0 x1 x2 x3), vi (q0_2 x0 x1 x2 x3), vi (q0_3 x0 x1 x2 x3), vi 0, vi (f1 x3 (7 : Int32)), vi (f1 x3 (12 : Int32)), vr a3, vr a12, vr a3, vi (q0_21 x0 x1 x2 x3), vr a22, us, us, us, us] [(.int (q0_40 x0 x1 x2 x3))])) → OG p.tables e below P (T49.setTop (mkF m 293 #[vj x0, s2, vj x1, s2, vj x2, s2, vi x3, vi (q0_1 x0 x1 x2 x3), vi (q0_2 x0 x1 x2 x3), vi (q0_3 x0 x1 x2 x3), vi 0, vi (f1 x3 (7 : Int32)), vi (f1 x3 (12 : Int32)), vr a3, vr a12, vr a3, vi (q0_21 x0 x1 x2 x3), vr a22, us, us, us, us] [(.int (q0_21 x0 x1 x2 x3)), (.int (q0_3 x0 x1 x2 x3))])) := by
      intro P k
      by_cases k11 : (q0_3 x0 x1 x2 x3) = (q0_21 x0 x1 x2 x3)
      · refine o_icN B49 293 296 at_293 rfl (XT.ii_ne_f k11) ?_
        refine o_iload B49 296 298 (v := (q0_3 x0 x1 x2 x3)) at_296 rfl rfl ?_
        refine o_iconst B49 298 299 (1 : Int32) at_298 rfl (by decide) ?_
        by_cases k12 : (q0_3 x0 x1 x2 x3) < (1 : Int32)
        · refine o_icY B49 299 313 at_299 (XT.ii_lt_t k12) (by decide) (by decide) ?_
          refine o_iload B49 313 315 (v := (q0_3 x0 x1 x2 x3)) at_313 rfl rfl ?_
          refine o_iconst B49 315 316 (2 : Int32) at_315 rfl (by decide) ?_
          by_cases k13 : (q0_3 x0 x1 x2 x3) < (2 : Int32)
          · refine o_icY B49 316 330 at_316 (XT.ii_lt_t k13) (by decide) (by decide) ?_
            refine o_iload B49 330 332 (v := (q0_3 x0 x1 x2 x3)) at_330 rfl rfl ?_
            refine o_iconst B49 332 333 (3 : Int32) at_332 rfl (by decide) ?_
            by_cases k14 : (q0_3 x0 x1 x2 x3) < (3 : Int32)
            · refine o_icY B49 333 347 at_333 (XT.ii_lt_t k14) (by decide) (by decide) ?_
              refine o_iconst B49 347 348 (1 : Int32) at_347 rfl (by decide) ?_
              refine o_goto B49 348 352 at_348 (by decide) (by decide) ?_
              have y0 : (q0_40 x0 x1 x2 x3) = (1 : Int32) := by simp only [q0_34, q0_35, q0_36, q0_37, q0_38, q0_39, q0_40, if_pos k11, if_pos k12, if_pos k13, if_pos k14]
              rw [y0] at k
              exact k
            · refine o_icN B49 333 336 at_333 rfl (XT.ii_lt_f k14) ?_
              refine o_aload B49 336 338 (v := (.ref a22)) at_336 rfl rfl rfl ?_
              refine o_iconst B49 338 339 (2 : Int32) at_338 rfl (by decide) ?_
              refine o_caload B49 339 340 A49 2 (q0_29 x0 x1 x2 x3) at_339 rfl (by decide) (by decide) (by decide) rfl ?_
              refine o_aload B49 340 342 (v := (.ref a3)) at_340 rfl rfl rfl ?_
              refine o_iconst B49 342 343 (2 : Int32) at_342 rfl (by decide) ?_
              have F53 := (((((F23.ext E22).other W31 (Nat.ne_of_lt lt24)).other W37 (Nat.ne_of_lt lt24)).other W43 (Nat.ne_of_lt lt24)).other W49 (Nat.ne_of_lt lt24))
              refine o_caload B49 343 344 F53 2 (q0_9 x0 x1 x2 x3) at_343 rfl (by decide) (by decide) (by decide) rfl ?_
              by_cases k15 : (q0_29 x0 x1 x2 x3) = (q0_9 x0 x1 x2 x3)
              · refine o_icN B49 344 347 at_344 rfl (XT.ii_ne_f k15) ?_
                refine o_iconst B49 347 348 (1 : Int32) at_347 rfl (by decide) ?_
                refine o_goto B49 348 352 at_348 (by decide) (by decide) ?_
                have y0 : (q0_40 x0 x1 x2 x3) = (1 : Int32) := by simp only [q0_34, q0_35, q0_36, q0_37, q0_38, q0_39, q0_40, if_pos k11, if_pos k12, if_pos k13, if_neg k14, if_pos k15]
                rw [y0] at k
                exact k
              · refine o_icY B49 344 351 at_344 (XT.ii_ne_t k15) (by decide) (by decide) ?_
                refine o_iconst B49 351 352 (0 : Int32) at_351 rfl (by decide) ?_
                have y0 : (q0_40 x0 x1 x2 x3) = (0 : Int32) := by simp only [q0_34, q0_35, q0_36, q0_37, q0_38, q0_39, q0_40, if_pos k11, if_pos k12, if_pos k13, if_neg k14, if_neg k15]
                rw [y0] at k
                exact k
          · refine o_icN B49 316 319 at_316 rfl (XT.ii_lt_f k13) ?_
            refine o_aload B49 319 321 (v := (.ref a22)) at_319 rfl rfl rfl ?_
            refine o_iconst B49 321 322 (1 : Int32) at_321 rfl (by decide) ?_
            refine o_caload B49 322 323 A49 1 (q0_26 x0 x1 x2 x3) at_322 rfl (by decide) (by decide) (by decide) rfl ?_
            refine o_aload B49 323 325 (v := (.ref a3)) at_323 rfl rfl rfl ?_
            refine o_iconst B49 325 326 (1 : Int32) at_325 rfl (by decide) ?_
            have F58 := (((((F23.ext E22).other W31 (Nat.ne_of_lt lt24)).other W37 (Nat.ne_of_lt lt24)).other W43 (Nat.ne_of_lt lt24)).other W49 (Nat.ne_of_lt lt24))
            refine o_caload B49 326 327 F58 1 (q0_7 x0 x1 x2 x3) at_326 rfl (by decide) (by decide) (by decide) rfl ?_
            by_cases k16 : (q0_26 x0 x1 x2 x3) = (q0_7 x0 x1 x2 x3)
            · refine o_icN B49 327 330 at_327 rfl (XT.ii_ne_f k16) ?_
              refine o_iload B49 330 332 (v := (q0_3 x0 x1 x2 x3)) at_330 rfl rfl ?_
              refine o_iconst B49 332 333 (3 : Int32) at_332 rfl (by decide) ?_
              by_cases k17 : (q0_3 x0 x1 x2 x3) < (3 : Int32)
              · refine o_icY B49 333 347 at_333 (XT.ii_lt_t k17) (by decide) (by decide) ?_
                refine o_iconst B49 347 348 (1 : Int32) at_347 rfl (by decide) ?_
                refine o_goto B49 348 352 at_348 (by decide) (by decide) ?_
                have y0 : (q0_40 x0 x1 x2 x3) = (1 : Int32) := by simp only [q0_34, q0_35, q0_36, q0_37, q0_38, q0_39, q0_40, if_pos k11, if_pos k12, if_neg k13, if_pos k16, if_pos k17]
                rw [y0] at k
                exact k
              · refine o_icN B49 333 336 at_333 rfl (XT.ii_lt_f k17) ?_
                refine o_aload B49 336 338 (v := (.ref a22)) at_336 rfl rfl rfl ?_
                refine o_iconst B49 338 339 (2 : Int32) at_338 rfl (by decide) ?_
                refine o_caload B49 339 340 A49 2 (q0_29 x0 x1 x2 x3) at_339 rfl (by decide) (by decide) (by decide) rfl ?_
                refine o_aload B49 340 342 (v := (.ref a3)) at_340 rfl rfl rfl ?_
                refine o_iconst B49 342 343 (2 : Int32) at_342 rfl (by decide) ?_
                refine o_caload B49 343 344 F58 2 (q0_9 x0 x1 x2 x3) at_343 rfl (by decide) (by decide) (by decide) rfl ?_
                by_cases k18 : (q0_29 x0 x1 x2 x3) = (q0_9 x0 x1 x2 x3)
                · refine o_icN B49 344 347 at_344 rfl (XT.ii_ne_f k18) ?_
                  refine o_iconst B49 347 348 (1 : Int32) at_347 rfl (by decide) ?_
                  refine o_goto B49 348 352 at_348 (by decide) (by decide) ?_
                  have y0 : (q0_40 x0 x1 x2 x3) = (1 : Int32) := by simp only [q0_34, q0_35, q0_36, q0_37, q0_38, q0_39, q0_40, if_pos k11, if_pos k12, if_neg k13, if_pos k16, if_neg k17, if_pos k18]
                  rw [y0] at k
                  exact k
                · refine o_icY B49 344 351 at_344 (XT.ii_ne_t k18) (by decide) (by decide) ?_
                  refine o_iconst B49 351 352 (0 : Int32) at_351 rfl (by decide) ?_
                  have y0 : (q0_40 x0 x1 x2 x3) = (0 : Int32) := by simp only [q0_34, q0_35, q0_36, q0_37, q0_38, q0_39, q0_40, if_pos k11, if_pos k12, if_neg k13, if_pos k16, if_neg k17, if_neg k18]
                  rw [y0] at k
                  exact k
            · refine o_icY B49 327 351 at_327 (XT.ii_ne_t k16) (by decide) (by decide) ?_
              refine o_iconst B49 351 352 (0 : Int32) at_351 rfl (by decide) ?_
              have y0 : (q0_40 x0 x1 x2 x3) = (0 : Int32) := by simp only [q0_34, q0_35, q0_36, q0_37, q0_38, q0_39, q0_40, if_pos k11, if_pos k12, if_neg k13, if_neg k16]
              rw [y0] at k
              exact k
        · refine o_icN B49 299 302 at_299 rfl (XT.ii_lt_f k12) ?_
          refine o_aload B49 302 304 (v := (.ref a22)) at_302 rfl rfl rfl ?_
          refine o_iconst B49 304 305 (0 : Int32) at_304 rfl (by decide) ?_
          refine o_caload B49 305 306 A49 0 (q0_23 x0 x1 x2 x3) at_305 rfl (by decide) (by decide) (by decide) rfl ?_
          refine o_aload B49 306 308 (v := (.ref a3)) at_306 rfl rfl rfl ?_
          refine o_iconst B49 308 309 (0 : Int32) at_308 rfl (by decide) ?_
          have F67 := (((((F23.ext E22).other W31 (Nat.ne_of_lt lt24)).other W37 (Nat.ne_of_lt lt24)).other W43 (Nat.ne_of_lt lt24)).other W49 (Nat.ne_of_lt lt24))
          refine o_caload B49 309 310 F67 0 (q0_5 x0 x1 x2 x3) at_309 rfl (by decide) (by decide) (by decide) rfl ?_
          by_cases k19 : (q0_23 x0 x1 x2 x3) = (q0_5 x0 x1 x2 x3)
          · refine o_icN B49 310 313 at_310 rfl (XT.ii_ne_f k19) ?_
            refine o_iload B49 313 315 (v := (q0_3 x0 x1 x2 x3)) at_313 rfl rfl ?_
            refine o_iconst B49 315 316 (2 : Int32) at_315 rfl (by decide) ?_
            by_cases k20 : (q0_3 x0 x1 x2 x3) < (2 : Int32)
            · refine o_icY B49 316 330 at_316 (XT.ii_lt_t k20) (by decide) (by decide) ?_
              refine o_iload B49 330 332 (v := (q0_3 x0 x1 x2 x3)) at_330 rfl rfl ?_
              refine o_iconst B49 332 333 (3 : Int32) at_332 rfl (by decide) ?_
              by_cases k21 : (q0_3 x0 x1 x2 x3) < (3 : Int32)
              · refine o_icY B49 333 347 at_333 (XT.ii_lt_t k21) (by decide) (by decide) ?_
                refine o_iconst B49 347 348 (1 : Int32) at_347 rfl (by decide) ?_
                refine o_goto B49 348 352 at_348 (by decide) (by decide) ?_
                have y0 : (q0_40 x0 x1 x2 x3) = (1 : Int32) := by simp only [q0_34, q0_35, q0_36, q0_37, q0_38, q0_39, q0_40, if_pos k11, if_neg k12, if_pos k19, if_pos k20, if_pos k21]
                rw [y0] at k
                exact k
              · refine o_icN B49 333 336 at_333 rfl (XT.ii_lt_f k21) ?_
                refine o_aload B49 336 338 (v := (.ref a22)) at_336 rfl rfl rfl ?_
                refine o_iconst B49 338 339 (2 : Int32) at_338 rfl (by decide) ?_
                refine o_caload B49 339 340 A49 2 (q0_29 x0 x1 x2 x3) at_339 rfl (by decide) (by decide) (by decide) rfl ?_
                refine o_aload B49 340 342 (v := (.ref a3)) at_340 rfl rfl rfl ?_
                refine o_iconst B49 342 343 (2 : Int32) at_342 rfl (by decide) ?_
                refine o_caload B49 343 344 F67 2 (q0_9 x0 x1 x2 x3) at_343 rfl (by decide) (by decide) (by decide) rfl ?_
                by_cases k22 : (q0_29 x0 x1 x2 x3) = (q0_9 x0 x1 x2 x3)
                · refine o_icN B49 344 347 at_344 rfl (XT.ii_ne_f k22) ?_
                  refine o_iconst B49 347 348 (1 : Int32) at_347 rfl (by decide) ?_
                  refine o_goto B49 348 352 at_348 (by decide) (by decide) ?_
                  have y0 : (q0_40 x0 x1 x2 x3) = (1 : Int32) := by simp only [q0_34, q0_35, q0_36, q0_37, q0_38, q0_39, q0_40, if_pos k11, if_neg k12, if_pos k19, if_pos k20, if_neg k21, if_pos k22]
                  rw [y0] at k
                  exact k
                · refine o_icY B49 344 351 at_344 (XT.ii_ne_t k22) (by decide) (by decide) ?_
                  refine o_iconst B49 351 352 (0 : Int32) at_351 rfl (by decide) ?_
                  have y0 : (q0_40 x0 x1 x2 x3) = (0 : Int32) := by simp only [q0_34, q0_35, q0_36, q0_37, q0_38, q0_39, q0_40, if_pos k11, if_neg k12, if_pos k19, if_pos k20, if_neg k21, if_neg k22]
                  rw [y0] at k
                  exact k
            · refine o_icN B49 316 319 at_316 rfl (XT.ii_lt_f k20) ?_
              refine o_aload B49 319 321 (v := (.ref a22)) at_319 rfl rfl rfl ?_
              refine o_iconst B49 321 322 (1 : Int32) at_321 rfl (by decide) ?_
              refine o_caload B49 322 323 A49 1 (q0_26 x0 x1 x2 x3) at_322 rfl (by decide) (by decide) (by decide) rfl ?_
              refine o_aload B49 323 325 (v := (.ref a3)) at_323 rfl rfl rfl ?_
              refine o_iconst B49 325 326 (1 : Int32) at_325 rfl (by decide) ?_
              refine o_caload B49 326 327 F67 1 (q0_7 x0 x1 x2 x3) at_326 rfl (by decide) (by decide) (by decide) rfl ?_
              by_cases k23 : (q0_26 x0 x1 x2 x3) = (q0_7 x0 x1 x2 x3)
              · refine o_icN B49 327 330 at_327 rfl (XT.ii_ne_f k23) ?_
                refine o_iload B49 330 332 (v := (q0_3 x0 x1 x2 x3)) at_330 rfl rfl ?_
                refine o_iconst B49 332 333 (3 : Int32) at_332 rfl (by decide) ?_
                by_cases k24 : (q0_3 x0 x1 x2 x3) < (3 : Int32)
                · refine o_icY B49 333 347 at_333 (XT.ii_lt_t k24) (by decide) (by decide) ?_
                  refine o_iconst B49 347 348 (1 : Int32) at_347 rfl (by decide) ?_
                  refine o_goto B49 348 352 at_348 (by decide) (by decide) ?_
                  have y0 : (q0_40 x0 x1 x2 x3) = (1 : Int32) := by simp only [q0_34, q0_35, q0_36, q0_37, q0_38, q0_39, q0_40, if_pos k11, if_neg k12, if_pos k19, if_neg k20, if_pos k23, if_pos k24]
                  rw [y0] at k
                  exact k
                · refine o_icN B49 333 336 at_333 rfl (XT.ii_lt_f k24) ?_
                  refine o_aload B49 336 338 (v := (.ref a22)) at_336 rfl rfl rfl ?_
                  refine o_iconst B49 338 339 (2 : Int32) at_338 rfl (by decide) ?_
                  refine o_caload B49 339 340 A49 2 (q0_29 x0 x1 x2 x3) at_339 rfl (by decide) (by decide) (by decide) rfl ?_
                  refine o_aload B49 340 342 (v := (.ref a3)) at_340 rfl rfl rfl ?_
                  refine o_iconst B49 342 343 (2 : Int32) at_342 rfl (by decide) ?_
                  refine o_caload B49 343 344 F67 2 (q0_9 x0 x1 x2 x3) at_343 rfl (by decide) (by decide) (by decide) rfl ?_
                  by_cases k25 : (q0_29 x0 x1 x2 x3) = (q0_9 x0 x1 x2 x3)
                  · refine o_icN B49 344 347 at_344 rfl (XT.ii_ne_f k25) ?_
                    refine o_iconst B49 347 348 (1 : Int32) at_347 rfl (by decide) ?_
                    refine o_goto B49 348 352 at_348 (by decide) (by decide) ?_
                    have y0 : (q0_40 x0 x1 x2 x3) = (1 : Int32) := by simp only [q0_34, q0_35, q0_36, q0_37, q0_38, q0_39, q0_40, if_pos k11, if_neg k12, if_pos k19, if_neg k20, if_pos k23, if_neg k24, if_pos k25]
                    rw [y0] at k
                    exact k
                  · refine o_icY B49 344 351 at_344 (XT.ii_ne_t k25) (by decide) (by decide) ?_
                    refine o_iconst B49 351 352 (0 : Int32) at_351 rfl (by decide) ?_
                    have y0 : (q0_40 x0 x1 x2 x3) = (0 : Int32) := by simp only [q0_34, q0_35, q0_36, q0_37, q0_38, q0_39, q0_40, if_pos k11, if_neg k12, if_pos k19, if_neg k20, if_pos k23, if_neg k24, if_neg k25]
                    rw [y0] at k
                    exact k
              · refine o_icY B49 327 351 at_327 (XT.ii_ne_t k23) (by decide) (by decide) ?_
                refine o_iconst B49 351 352 (0 : Int32) at_351 rfl (by decide) ?_
                have y0 : (q0_40 x0 x1 x2 x3) = (0 : Int32) := by simp only [q0_34, q0_35, q0_36, q0_37, q0_38, q0_39, q0_40, if_pos k11, if_neg k12, if_pos k19, if_neg k20, if_neg k23]
                rw [y0] at k
                exact k
          · refine o_icY B49 310 351 at_310 (XT.ii_ne_t k19) (by decide) (by decide) ?_
            refine o_iconst B49 351 352 (0 : Int32) at_351 rfl (by decide) ?_
            have y0 : (q0_40 x0 x1 x2 x3) = (0 : Int32) := by simp only [q0_34, q0_35, q0_36, q0_37, q0_38, q0_39, q0_40, if_pos k11, if_neg k12, if_neg k19]
            rw [y0] at k
            exact k
      · refine o_icY B49 293 351 at_293 (XT.ii_ne_t k11) (by decide) (by decide) ?_
        refine o_iconst B49 351 352 (0 : Int32) at_351 rfl (by decide) ?_
        have y0 : (q0_40 x0 x1 x2 x3) = (0 : Int32) := by simp only [q0_34, q0_35, q0_36, q0_37, q0_38, q0_39, q0_40, if_neg k11]
        rw [y0] at k
        exact k
    refine dm10 ?_
    refine o_istore B49 352 354 (l' := #[vj x0, s2, vj x1, s2, vj x2, s2, vi x3, vi (q0_1 x0 x1 x2 x3), vi (q0_2 x0 x1 x2 x3), vi (q0_3 x0 x1 x2 x3), vi 0, vi (f1 x3 (7 : Int32)), vi (f1 x3 (12 : Int32)), vr a3, vr a12, vr a3, vi (q0_21 x0 x1 x2 x3), vr a22, vi (q0_40 x0 x1 x2 x3), us, us, us]) at_352 rfl rfl ?_
    obtain ⟨a83, T83, h83, z83, B83, E83, X83, D83, c83⟩ := o_new B49 354 357 at_354 rfl (hw _ (mi 8 rfl)) (hw _ (mi 9 rfl)) (hw _ (mi 10 rfl)) (by decide) (by decide) (Ls := #[vj x0, s2, vj x1, s2, vj x2, s2, vi x3, vi (q0_1 x0 x1 x2 x3), vi (q0_2 x0 x1 x2 x3), vi (q0_3 x0 x1 x2 x3), vi 0, vi (f1 x3 (7 : Int32)), vi (f1 x3 (12 : Int32)), vr a3, vr a12, vr a3, vi (q0_21 x0 x1 x2 x3), vr a22, vi (q0_40 x0 x1 x2 x3), us, us, us]) (rest := [])
    have F84 := (((((F23.ext E22).other W31 (Nat.ne_of_lt lt24)).other W37 (Nat.ne_of_lt lt24)).other W43 (Nat.ne_of_lt lt24)).other W49 (Nat.ne_of_lt lt24))
    have lt85 : (a3 : Nat) < a83 := by rw [z83]; exact F84.lt
    have F86 := (((((A21.ext E22).other W31 (Nat.ne_of_lt lt25)).other W37 (Nat.ne_of_lt lt25)).other W43 (Nat.ne_of_lt lt25)).other W49 (Nat.ne_of_lt lt25))
    have lt87 : (a12 : Nat) < a83 := by rw [z83]; exact F86.lt
    have lt88 : (a22 : Nat) < a83 := by rw [z83]; exact A49.lt
    have g83 : n0 ≤ a83 := by rw [z83]; exact (W49.size ▸ (W43.size ▸ (W37.size ▸ (W31.size ▸ s22))))
    have s83 : n0 ≤ h83.size := Nat.le_trans (W49.size ▸ (W43.size ▸ (W37.size ▸ (W31.size ▸ s22)))) E83.1
    have F89 : Fld Z h83 a83 "com/example/micro_ranker/microranker/engine/Texts" "narrow" "[B" .null := D83 (Or.inl (hw _ (mi 23 rfl))) (ty := (.array .byte)) (by decide)
    have F90 : Fld Z h83 a83 "com/example/micro_ranker/microranker/engine/Texts" "characters" "[C" .null := D83 (Or.inl (hw _ (mi 25 rfl))) (ty := (.array .char)) (by decide)
    have F91 : Fld Z h83 a83 "com/example/micro_ranker/microranker/engine/Texts" "starts" "[I" .null := D83 (Or.inl (hw _ (mi 27 rfl))) (ty := (.array .int)) (by decide)
    have F92 : Fld Z h83 a83 "com/example/micro_ranker/microranker/engine/Texts" "size" "I" (.int (0 : Int32)) := D83 (Or.inl (hw _ (mi 29 rfl))) (ty := .int) (by decide)
    refine c83 ?_
    refine o_dup B83 357 358 at_357 rfl rfl ?_
    have F93 := (F84.ext E83)
    have F94 := (F86.ext E83)
    have F95 := (A49.ext E83)
    obtain ⟨v96, T96, L96, B96, Q96, c96⟩ := o_callN B83 358 361 at_358 rfl rfl (hw _ (mi 11 rfl)) (hw _ (mi 12 rfl)) (hw _ (mi 10 rfl)) (hw _ (mi 13 rfl)) (by decide) (rm3 l Z a0 hw a83 h83 n0 s83 g83 X83 F89 F90 F91 F92) 1 [] [(.ref a83)] pd___V rfl rfl (st := [(.ref a83), (.ref a83)]) rfl (Ls := #[vj x0, s2, vj x1, s2, vj x2, s2, vi x3, vi (q0_1 x0 x1 x2 x3), vi (q0_2 x0 x1 x2 x3), vi (q0_3 x0 x1 x2 x3), vi 0, vi (f1 x3 (7 : Int32)), vi (f1 x3 (12 : Int32)), vr a3, vr a12, vr a3, vi (q0_21 x0 x1 x2 x3), vr a22, vi (q0_40 x0 x1 x2 x3), us, us, us]) rfl (Nat.le_of_eq rfl) (by decide) (by decide) (by decide) (by decide)
    obtain ⟨rfl, M96, K96, yn96, ys96, gn96, gs96, zn96, zs96, nq96, H96_1, H96_2, H96_3, H96_4, J96_n, J96_s⟩ := Q96
    have N96 := Fr.app N49 M96
    have s96 : n0 ≤ T96.heap.size := Nat.le_trans s83 K96.1
    have lt97 : (a3 : Nat) < yn96 := Nat.lt_of_lt_of_le F93.lt zn96
    have lt98 : (a12 : Nat) < yn96 := Nat.lt_of_lt_of_le F94.lt zn96
    have lt99 : (a22 : Nat) < yn96 := Nat.lt_of_lt_of_le F95.lt zn96
    have lt100 : (a83 : Nat) < yn96 := Nat.lt_of_lt_of_le X83.lt zn96
    have lt101 : (a3 : Nat) < ys96 := Nat.lt_of_lt_of_le F93.lt zs96
    have lt102 : (a12 : Nat) < ys96 := Nat.lt_of_lt_of_le F94.lt zs96
    have lt103 : (a22 : Nat) < ys96 := Nat.lt_of_lt_of_le F95.lt zs96
    have lt104 : (a83 : Nat) < ys96 := Nat.lt_of_lt_of_le X83.lt zs96
    refine c96 ?_
    show OG p.tables e below _ (T96.setTop (mkF m 361 #[vj x0, s2, vj x1, s2, vj x2, s2, vi x3, vi (q0_1 x0 x1 x2 x3), vi (q0_2 x0 x1 x2 x3), vi (q0_3 x0 x1 x2 x3), vi 0, vi (f1 x3 (7 : Int32)), vi (f1 x3 (12 : Int32)), vr a3, vr a12, vr a3, vi (q0_21 x0 x1 x2 x3), vr a22, vi (q0_40 x0 x1 x2 x3), us, us, us] [(.ref a83)]))
    refine o_astore B96 361 363 (l' := #[vj x0, s2, vj x1, s2, vj x2, s2, vi x3, vi (q0_1 x0 x1 x2 x3), vi (q0_2 x0 x1 x2 x3), vi (q0_3 x0 x1 x2 x3), vi 0, vi (f1 x3 (7 : Int32)), vi (f1 x3 (12 : Int32)), vr a3, vr a12, vr a3, vi (q0_21 x0 x1 x2 x3), vr a22, vi (q0_40 x0 x1 x2 x3), vr a83, us, us]) at_361 rfl rfl rfl ?_
    refine o_aload B96 363 365 (v := (.ref a83)) at_363 rfl rfl rfl ?_
    refine o_aload B96 365 367 (v := (.ref a3)) at_365 rfl rfl rfl ?_
    refine o_iload B96 367 369 (v := (q0_1 x0 x1 x2 x3)) at_367 rfl rfl ?_
    by_cases k26 : f7 (w0_12 x0 x1 x2 x3) (q0_1 x0 x1 x2 x3) = 0
    · have F105 := (F93.keep K96 (ninS (Nat.ne_of_lt lt85) nin0))
      have F106 := (F94.keep K96 (ninS (Nat.ne_of_lt lt87) nin0))
      have F107 := (F95.keep K96 (ninS (Nat.ne_of_lt lt88) nin0))
      have F108 := (X83.keep K96)
      obtain ⟨v109, T109, L109, B109, Q109, c109⟩ := o_callV B96 369 372 at_369 rfl (hw _ (mi 30 rfl)) (hw _ (mi 31 rfl)) (hw _ (mi 33 rfl)) (hw _ (mi 32 rfl)) (hw _ (mi 10 rfl)) (hw _ (mi 34 rfl)) (by decide) F108 (rm6_NW l Z a0 hw a83 a3 yn96 ys96 own_z0 own_z0 (w0_12 x0 x1 x2 x3) (0 : Int32) (q0_1 x0 x1 x2 x3) T96.heap n0 s96 g83 gs96 F108 H96_1 H96_2 H96_3 H96_4 J96_n J96_s F105 (Nat.ne_of_lt lt100) (Nat.ne_of_lt lt104) (Ne.symm (Nat.ne_of_lt lt85)) nq96 (Nat.ne_of_lt lt97) (Nat.ne_of_lt lt101) (own_hs0 x0 x1 x2 x3) (own_ft0 x0 x1 x2 x3) k26) 0 [(.ref a3), (.int (q0_1 x0 x1 x2 x3))] [] pd___CI_I rfl rfl (st := [(.int (q0_1 x0 x1 x2 x3)), (.ref a3), (.ref a83)]) rfl (Ls := #[vj x0, s2, vj x1, s2, vj x2, s2, vi x3, vi (q0_1 x0 x1 x2 x3), vi (q0_2 x0 x1 x2 x3), vi (q0_3 x0 x1 x2 x3), vi 0, vi (f1 x3 (7 : Int32)), vi (f1 x3 (12 : Int32)), vr a3, vr a12, vr a3, vi (q0_21 x0 x1 x2 x3), vr a22, vi (q0_40 x0 x1 x2 x3), vr a83, us, us]) rfl (Nat.le_of_eq rfl) (by decide) (by decide) (by decide) (by decide)
      obtain ⟨rfl, M109, K109, b109, gb109, zb109, H109_1, H109_2, H109_3, H109_4, J109_n, J109_s⟩ := Q109
      have N109 := Fr.app N96 M109
      have s109 : n0 ≤ T109.heap.size := Nat.le_trans s96 K109.1
      have H109_5 : Fld Z T109.heap a83 "com/example/micro_ranker/microranker/engine/Texts" "size" "I" (.int (1 : Int32)) := H109_4
      have lt110 : (a3 : Nat) < b109 := Nat.lt_of_lt_of_le F105.lt zb109
      have lt111 : (a12 : Nat) < b109 := Nat.lt_of_lt_of_le F106.lt zb109
      have lt112 : (a22 : Nat) < b109 := Nat.lt_of_lt_of_le F107.lt zb109
      have lt113 : (a83 : Nat) < b109 := Nat.lt_of_lt_of_le F108.lt zb109
      have lt114 : (yn96 : Nat) < b109 := Nat.lt_of_lt_of_le J96_n.lt zb109
      have lt115 : (ys96 : Nat) < b109 := Nat.lt_of_lt_of_le J96_s.lt zb109
      refine c109 ?_
      show OG p.tables e below _ (T109.setTop (mkF m 372 #[vj x0, s2, vj x1, s2, vj x2, s2, vi x3, vi (q0_1 x0 x1 x2 x3), vi (q0_2 x0 x1 x2 x3), vi (q0_3 x0 x1 x2 x3), vi 0, vi (f1 x3 (7 : Int32)), vi (f1 x3 (12 : Int32)), vr a3, vr a12, vr a3, vi (q0_21 x0 x1 x2 x3), vr a22, vi (q0_40 x0 x1 x2 x3), vr a83, us, us] [(.int (0 : Int32))]))
      refine o_istore B109 372 374 (l' := #[vj x0, s2, vj x1, s2, vj x2, s2, vi x3, vi (q0_1 x0 x1 x2 x3), vi (q0_2 x0 x1 x2 x3), vi (q0_3 x0 x1 x2 x3), vi 0, vi (f1 x3 (7 : Int32)), vi (f1 x3 (12 : Int32)), vr a3, vr a12, vr a3, vi (q0_21 x0 x1 x2 x3), vr a22, vi (q0_40 x0 x1 x2 x3), vr a83, vi 0, us]) at_372 rfl rfl ?_
      refine o_aload B109 374 376 (v := (.ref a83)) at_374 rfl rfl rfl ?_
      refine o_aload B109 376 378 (v := (.ref a12)) at_376 rfl rfl rfl ?_
      refine o_iload B109 378 380 (v := (q0_2 x0 x1 x2 x3)) at_378 rfl rfl ?_
      have F116 := (F105.keep K109 (ninS (Nat.ne_of_lt lt85) (ninS (Nat.ne_of_lt lt101) nin0)))
      have F117 := (F106.keep K109 (ninS (Nat.ne_of_lt lt87) (ninS (Nat.ne_of_lt lt102) nin0)))
      have F118 := (F107.keep K109 (ninS (Nat.ne_of_lt lt88) (ninS (Nat.ne_of_lt lt103) nin0)))
      have F119 := (F108.keep K109)
      have F120 := (J96_n.keep K109 (ninS (Ne.symm (Nat.ne_of_lt lt100)) (ninS nq96 nin0)))
      obtain ⟨v121, T121, L121, B121, Q121, c121⟩ := o_callV B109 380 383 at_380 rfl (hw _ (mi 30 rfl)) (hw _ (mi 31 rfl)) (hw _ (mi 33 rfl)) (hw _ (mi 32 rfl)) (hw _ (mi 10 rfl)) (hw _ (mi 34 rfl)) (by decide) F119 (rm6_WW l Z a0 hw a83 a12 b109 ys96 (own_cc (UpI (own_z0 (0 : Int32).toInt.toNat).toInt.toNat (fun j => own_cb (own_z0 j))) (w0_12 x0 x1 x2 x3) (own_z0 (0 : Int32).toInt.toNat).toInt.toNat (q0_1 x0 x1 x2 x3).toInt.toNat) (own_sp own_z0 (0 : Int32) (q0_1 x0 x1 x2 x3)) (w0_20 x0 x1 x2 x3) (1 : Int32) (q0_2 x0 x1 x2 x3) T109.heap n0 s109 g83 gb109 gs96 F119 H109_1 H109_2 H109_3 H109_5 J109_n J109_s F117 (Nat.ne_of_lt lt113) (Nat.ne_of_lt lt104) (Ne.symm (Nat.ne_of_lt lt87)) (Ne.symm (Nat.ne_of_lt lt115)) (Nat.ne_of_lt lt111) (Nat.ne_of_lt lt102) (own_hs1 x0 x1 x2 x3) (own_ft1 x0 x1 x2 x3) (own_fw x0 x1 x2 x3)) 0 [(.ref a12), (.int (q0_2 x0 x1 x2 x3))] [] pd___CI_I rfl rfl (st := [(.int (q0_2 x0 x1 x2 x3)), (.ref a12), (.ref a83)]) rfl (Ls := #[vj x0, s2, vj x1, s2, vj x2, s2, vi x3, vi (q0_1 x0 x1 x2 x3), vi (q0_2 x0 x1 x2 x3), vi (q0_3 x0 x1 x2 x3), vi 0, vi (f1 x3 (7 : Int32)), vi (f1 x3 (12 : Int32)), vr a3, vr a12, vr a3, vi (q0_21 x0 x1 x2 x3), vr a22, vi (q0_40 x0 x1 x2 x3), vr a83, vi 0, us]) rfl (Nat.le_of_eq rfl) (by decide) (by decide) (by decide) (by decide)
      obtain ⟨rfl, M121, K121, H121_1, H121_2, H121_3, H121_4, J121_n, J121_s⟩ := Q121
      have N121 := Fr.app N109 M121
      have s121 : n0 ≤ T121.heap.size := Nat.le_trans s109 K121.1
      have H121_5 : Fld Z T121.heap a83 "com/example/micro_ranker/microranker/engine/Texts" "size" "I" (.int (2 : Int32)) := H121_4
      refine c121 ?_
      show OG p.tables e below _ (T121.setTop (mkF m 383 #[vj x0, s2, vj x1, s2, vj x2, s2, vi x3, vi (q0_1 x0 x1 x2 x3), vi (q0_2 x0 x1 x2 x3), vi (q0_3 x0 x1 x2 x3), vi 0, vi (f1 x3 (7 : Int32)), vi (f1 x3 (12 : Int32)), vr a3, vr a12, vr a3, vi (q0_21 x0 x1 x2 x3), vr a22, vi (q0_40 x0 x1 x2 x3), vr a83, vi 0, us] [(.int (1 : Int32))]))
      refine o_istore B121 383 385 (l' := #[vj x0, s2, vj x1, s2, vj x2, s2, vi x3, vi (q0_1 x0 x1 x2 x3), vi (q0_2 x0 x1 x2 x3), vi (q0_3 x0 x1 x2 x3), vi 0, vi (f1 x3 (7 : Int32)), vi (f1 x3 (12 : Int32)), vr a3, vr a12, vr a3, vi (q0_21 x0 x1 x2 x3), vr a22, vi (q0_40 x0 x1 x2 x3), vr a83, vi 0, vi 1]) at_383 rfl rfl ?_
      refine o_iload B121 385 387 (v := (0 : Int32)) at_385 rfl rfl ?_
      refine o_ifN B121 387 390 at_387 rfl (XT.i0_ne_f (by decide)) ?_
      refine o_iload B121 390 392 (v := (1 : Int32)) at_390 rfl rfl ?_
      refine o_iconst B121 392 393 (1 : Int32) at_392 rfl (by decide) ?_
      refine o_icY B121 393 398 at_393 (XT.ii_eq_t (by decide)) (by decide) (by decide) ?_
      refine o_aload B121 398 400 (v := (.ref a83)) at_398 rfl rfl rfl ?_
      refine o_iload B121 400 402 (v := (0 : Int32)) at_400 rfl rfl ?_
      refine o_aload B121 402 404 (v := (.ref a22)) at_402 rfl rfl rfl ?_
      refine o_iload B121 404 406 (v := (q0_3 x0 x1 x2 x3)) at_404 rfl rfl ?_
      have F122 := (F118.keep K121 (ninS (Nat.ne_of_lt lt88) (ninS (Nat.ne_of_lt lt112) (ninS (Nat.ne_of_lt lt103) nin0))))
      have F123 := (F119.keep K121)
      obtain ⟨T124, B124, c124⟩ := o_callVP B121 406 409 at_406 rfl (hw _ (mi 38 rfl)) (hw _ (mi 39 rfl)) (hw _ (mi 41 rfl)) (hw _ (mi 40 rfl)) (hw _ (mi 10 rfl)) (hw _ (mi 42 rfl)) (by decide) F123 (rm8_W l Z a0 hw a83 (own_sp (own_sp own_z0 (0 : Int32) (q0_1 x0 x1 x2 x3)) (1 : Int32) (q0_2 x0 x1 x2 x3)) (own_cc (own_cc (UpI (own_z0 (0 : Int32).toInt.toNat).toInt.toNat (fun j => own_cb (own_z0 j))) (w0_12 x0 x1 x2 x3) (own_z0 (0 : Int32).toInt.toNat).toInt.toNat (q0_1 x0 x1 x2 x3).toInt.toNat) (w0_20 x0 x1 x2 x3) ((own_sp own_z0 (0 : Int32) (q0_1 x0 x1 x2 x3)) (1 : Int32).toInt.toNat).toInt.toNat (q0_2 x0 x1 x2 x3).toInt.toNat) (w0_33 x0 x1 x2 x3) ys96 b109 (0 : Int32) a22 (q0_3 x0 x1 x2 x3) T121.heap H121_3 H121_1 H121_2 J121_s J121_n F122 (by decide) (own_hg0 x0 x1 x2 x3) (own_q4 x0 x1 x2 x3)) 0 [(.int (0 : Int32)), (.ref a22), (.int (q0_3 x0 x1 x2 x3))] [] pd__I_CI_Z rfl rfl (st := [(.int (q0_3 x0 x1 x2 x3)), (.ref a22), (.int (0 : Int32)), (.ref a83)]) rfl (Ls := #[vj x0, s2, vj x1, s2, vj x2, s2, vi x3, vi (q0_1 x0 x1 x2 x3), vi (q0_2 x0 x1 x2 x3), vi (q0_3 x0 x1 x2 x3), vi 0, vi (f1 x3 (7 : Int32)), vi (f1 x3 (12 : Int32)), vr a3, vr a12, vr a3, vi (q0_21 x0 x1 x2 x3), vr a22, vi (q0_40 x0 x1 x2 x3), vr a83, vi 0, vi 1]) rfl (Nat.le_of_eq rfl) (by decide) (by decide) (by decide) (by decide)
      refine c124 ?_
      refine o_iload B124 409 411 (v := (q0_40 x0 x1 x2 x3)) at_409 rfl rfl ?_
      by_cases k27 : (q0_41 x0 x1 x2 x3) = (q0_40 x0 x1 x2 x3)
      · refine o_icN B124 411 414 at_411 rfl (XT.ii_ne_f k27) ?_
        refine o_iconst B124 414 415 (1 : Int32) at_414 rfl (by decide) ?_
        refine o_goto B124 415 419 at_415 (by decide) (by decide) ?_
        refine o_retZ (t := .boolean) B124 419 at_419 hret hlk (by simp) (by decide) (by decide) ⟨(congrArg (fun z => some (Value.int z)) ((show nar .boolean (1 : Int32) = (1 : Int32) from rfl).trans (show f0 x0 x1 x2 x3 = (1 : Int32) from (if_pos k1).trans ((if_pos k26).trans ((if_pos k27).trans (rfl)))).symm)), N121⟩
      · refine o_icY B124 411 418 at_411 (XT.ii_ne_t k27) (by decide) (by decide) ?_
        refine o_iconst B124 418 419 (0 : Int32) at_418 rfl (by decide) ?_
        refine o_retZ (t := .boolean) B124 419 at_419 hret hlk (by simp) (by decide) (by decide) ⟨(congrArg (fun z => some (Value.int z)) ((show nar .boolean (0 : Int32) = (0 : Int32) from rfl).trans (show f0 x0 x1 x2 x3 = (0 : Int32) from (if_pos k1).trans ((if_pos k26).trans ((if_neg k27).trans (rfl)))).symm)), N121⟩
    · have F125 := (F93.keep K96 (ninS (Nat.ne_of_lt lt85) nin0))
      have F126 := (F94.keep K96 (ninS (Nat.ne_of_lt lt87) nin0))
      have F127 := (F95.keep K96 (ninS (Nat.ne_of_lt lt88) nin0))
      have F128 := (X83.keep K96)
      obtain ⟨v129, T129, L129, B129, Q129, c129⟩ := o_callV B96 369 372 at_369 rfl (hw _ (mi 30 rfl)) (hw _ (mi 31 rfl)) (hw _ (mi 33 rfl)) (hw _ (mi 32 rfl)) (hw _ (mi 10 rfl)) (hw _ (mi 34 rfl)) (by decide) F128 (rm6_NN l Z a0 hw a83 a3 yn96 ys96 own_z0 own_z0 (w0_12 x0 x1 x2 x3) (0 : Int32) (q0_1 x0 x1 x2 x3) T96.heap n0 s96 g83 gn96 gs96 F128 H96_1 H96_2 H96_3 H96_4 J96_n J96_s F125 (Nat.ne_of_lt lt100) (Nat.ne_of_lt lt104) (Ne.symm (Nat.ne_of_lt lt85)) nq96 (Nat.ne_of_lt lt97) (Nat.ne_of_lt lt101) (own_hs0 x0 x1 x2 x3) k26) 0 [(.ref a3), (.int (q0_1 x0 x1 x2 x3))] [] pd___CI_I rfl rfl (st := [(.int (q0_1 x0 x1 x2 x3)), (.ref a3), (.ref a83)]) rfl (Ls := #[vj x0, s2, vj x1, s2, vj x2, s2, vi x3, vi (q0_1 x0 x1 x2 x3), vi (q0_2 x0 x1 x2 x3), vi (q0_3 x0 x1 x2 x3), vi 0, vi (f1 x3 (7 : Int32)), vi (f1 x3 (12 : Int32)), vr a3, vr a12, vr a3, vi (q0_21 x0 x1 x2 x3), vr a22, vi (q0_40 x0 x1 x2 x3), vr a83, us, us]) rfl (Nat.le_of_eq rfl) (by decide) (by decide) (by decide) (by decide)
      obtain ⟨rfl, M129, K129, H129_1, H129_2, H129_3, H129_4, J129_n, J129_s⟩ := Q129
      have N129 := Fr.app N96 M129
      have s129 : n0 ≤ T129.heap.size := Nat.le_trans s96 K129.1
      have H129_5 : Fld Z T129.heap a83 "com/example/micro_ranker/microranker/engine/Texts" "size" "I" (.int (1 : Int32)) := H129_4
      refine c129 ?_
      show OG p.tables e below _ (T129.setTop (mkF m 372 #[vj x0, s2, vj x1, s2, vj x2, s2, vi x3, vi (q0_1 x0 x1 x2 x3), vi (q0_2 x0 x1 x2 x3), vi (q0_3 x0 x1 x2 x3), vi 0, vi (f1 x3 (7 : Int32)), vi (f1 x3 (12 : Int32)), vr a3, vr a12, vr a3, vi (q0_21 x0 x1 x2 x3), vr a22, vi (q0_40 x0 x1 x2 x3), vr a83, us, us] [(.int (0 : Int32))]))
      refine o_istore B129 372 374 (l' := #[vj x0, s2, vj x1, s2, vj x2, s2, vi x3, vi (q0_1 x0 x1 x2 x3), vi (q0_2 x0 x1 x2 x3), vi (q0_3 x0 x1 x2 x3), vi 0, vi (f1 x3 (7 : Int32)), vi (f1 x3 (12 : Int32)), vr a3, vr a12, vr a3, vi (q0_21 x0 x1 x2 x3), vr a22, vi (q0_40 x0 x1 x2 x3), vr a83, vi 0, us]) at_372 rfl rfl ?_
      refine o_aload B129 374 376 (v := (.ref a83)) at_374 rfl rfl rfl ?_
      refine o_aload B129 376 378 (v := (.ref a12)) at_376 rfl rfl rfl ?_
      refine o_iload B129 378 380 (v := (q0_2 x0 x1 x2 x3)) at_378 rfl rfl ?_
      by_cases k28 : f7 (w0_20 x0 x1 x2 x3) (q0_2 x0 x1 x2 x3) = 0
      · have F130 := (F125.keep K129 (ninS (Nat.ne_of_lt lt85) (ninS (Nat.ne_of_lt lt97) (ninS (Nat.ne_of_lt lt101) nin0))))
        have F131 := (F126.keep K129 (ninS (Nat.ne_of_lt lt87) (ninS (Nat.ne_of_lt lt98) (ninS (Nat.ne_of_lt lt102) nin0))))
        have F132 := (F127.keep K129 (ninS (Nat.ne_of_lt lt88) (ninS (Nat.ne_of_lt lt99) (ninS (Nat.ne_of_lt lt103) nin0))))
        have F133 := (F128.keep K129)
        obtain ⟨v134, T134, L134, B134, Q134, c134⟩ := o_callV B129 380 383 at_380 rfl (hw _ (mi 30 rfl)) (hw _ (mi 31 rfl)) (hw _ (mi 33 rfl)) (hw _ (mi 32 rfl)) (hw _ (mi 10 rfl)) (hw _ (mi 34 rfl)) (by decide) F133 (rm6_NW l Z a0 hw a83 a12 yn96 ys96 (own_nn own_z0 (w0_12 x0 x1 x2 x3) (own_z0 (0 : Int32).toInt.toNat).toInt.toNat (q0_1 x0 x1 x2 x3).toInt.toNat) (own_sp own_z0 (0 : Int32) (q0_1 x0 x1 x2 x3)) (w0_20 x0 x1 x2 x3) (1 : Int32) (q0_2 x0 x1 x2 x3) T129.heap n0 s129 g83 gs96 F133 H129_1 H129_2 H129_3 H129_5 J129_n J129_s F131 (Nat.ne_of_lt lt100) (Nat.ne_of_lt lt104) (Ne.symm (Nat.ne_of_lt lt87)) nq96 (Nat.ne_of_lt lt98) (Nat.ne_of_lt lt102) (own_hs1 x0 x1 x2 x3) (own_ft1 x0 x1 x2 x3) k28) 0 [(.ref a12), (.int (q0_2 x0 x1 x2 x3))] [] pd___CI_I rfl rfl (st := [(.int (q0_2 x0 x1 x2 x3)), (.ref a12), (.ref a83)]) rfl (Ls := #[vj x0, s2, vj x1, s2, vj x2, s2, vi x3, vi (q0_1 x0 x1 x2 x3), vi (q0_2 x0 x1 x2 x3), vi (q0_3 x0 x1 x2 x3), vi 0, vi (f1 x3 (7 : Int32)), vi (f1 x3 (12 : Int32)), vr a3, vr a12, vr a3, vi (q0_21 x0 x1 x2 x3), vr a22, vi (q0_40 x0 x1 x2 x3), vr a83, vi 0, us]) rfl (Nat.le_of_eq rfl) (by decide) (by decide) (by decide) (by decide)
        obtain ⟨rfl, M134, K134, b134, gb134, zb134, H134_1, H134_2, H134_3, H134_4, J134_n, J134_s⟩ := Q134
        have N134 := Fr.app N129 M134
        have s134 : n0 ≤ T134.heap.size := Nat.le_trans s129 K134.1
        have H134_5 : Fld Z T134.heap a83 "com/example/micro_ranker/microranker/engine/Texts" "size" "I" (.int (2 : Int32)) := H134_4
        have lt135 : (a3 : Nat) < b134 := Nat.lt_of_lt_of_le F130.lt zb134
        have lt136 : (a12 : Nat) < b134 := Nat.lt_of_lt_of_le F131.lt zb134
        have lt137 : (a22 : Nat) < b134 := Nat.lt_of_lt_of_le F132.lt zb134
        have lt138 : (a83 : Nat) < b134 := Nat.lt_of_lt_of_le F133.lt zb134
        have lt139 : (yn96 : Nat) < b134 := Nat.lt_of_lt_of_le J129_n.lt zb134
        have lt140 : (ys96 : Nat) < b134 := Nat.lt_of_lt_of_le J129_s.lt zb134
        refine c134 ?_
        show OG p.tables e below _ (T134.setTop (mkF m 383 #[vj x0, s2, vj x1, s2, vj x2, s2, vi x3, vi (q0_1 x0 x1 x2 x3), vi (q0_2 x0 x1 x2 x3), vi (q0_3 x0 x1 x2 x3), vi 0, vi (f1 x3 (7 : Int32)), vi (f1 x3 (12 : Int32)), vr a3, vr a12, vr a3, vi (q0_21 x0 x1 x2 x3), vr a22, vi (q0_40 x0 x1 x2 x3), vr a83, vi 0, us] [(.int (1 : Int32))]))
        refine o_istore B134 383 385 (l' := #[vj x0, s2, vj x1, s2, vj x2, s2, vi x3, vi (q0_1 x0 x1 x2 x3), vi (q0_2 x0 x1 x2 x3), vi (q0_3 x0 x1 x2 x3), vi 0, vi (f1 x3 (7 : Int32)), vi (f1 x3 (12 : Int32)), vr a3, vr a12, vr a3, vi (q0_21 x0 x1 x2 x3), vr a22, vi (q0_40 x0 x1 x2 x3), vr a83, vi 0, vi 1]) at_383 rfl rfl ?_
        refine o_iload B134 385 387 (v := (0 : Int32)) at_385 rfl rfl ?_
        refine o_ifN B134 387 390 at_387 rfl (XT.i0_ne_f (by decide)) ?_
        refine o_iload B134 390 392 (v := (1 : Int32)) at_390 rfl rfl ?_
        refine o_iconst B134 392 393 (1 : Int32) at_392 rfl (by decide) ?_
        refine o_icY B134 393 398 at_393 (XT.ii_eq_t (by decide)) (by decide) (by decide) ?_
        refine o_aload B134 398 400 (v := (.ref a83)) at_398 rfl rfl rfl ?_
        refine o_iload B134 400 402 (v := (0 : Int32)) at_400 rfl rfl ?_
        refine o_aload B134 402 404 (v := (.ref a22)) at_402 rfl rfl rfl ?_
        refine o_iload B134 404 406 (v := (q0_3 x0 x1 x2 x3)) at_404 rfl rfl ?_
        have F141 := (F132.keep K134 (ninS (Nat.ne_of_lt lt88) (ninS (Nat.ne_of_lt lt103) nin0)))
        have F142 := (F133.keep K134)
        obtain ⟨T143, B143, c143⟩ := o_callVP B134 406 409 at_406 rfl (hw _ (mi 38 rfl)) (hw _ (mi 39 rfl)) (hw _ (mi 41 rfl)) (hw _ (mi 40 rfl)) (hw _ (mi 10 rfl)) (hw _ (mi 42 rfl)) (by decide) F142 (rm8_W l Z a0 hw a83 (own_sp (own_sp own_z0 (0 : Int32) (q0_1 x0 x1 x2 x3)) (1 : Int32) (q0_2 x0 x1 x2 x3)) (own_cc (UpI ((own_sp own_z0 (0 : Int32) (q0_1 x0 x1 x2 x3)) (1 : Int32).toInt.toNat).toInt.toNat (fun j => own_cb ((own_nn own_z0 (w0_12 x0 x1 x2 x3) (own_z0 (0 : Int32).toInt.toNat).toInt.toNat (q0_1 x0 x1 x2 x3).toInt.toNat) j))) (w0_20 x0 x1 x2 x3) ((own_sp own_z0 (0 : Int32) (q0_1 x0 x1 x2 x3)) (1 : Int32).toInt.toNat).toInt.toNat (q0_2 x0 x1 x2 x3).toInt.toNat) (w0_33 x0 x1 x2 x3) ys96 b134 (0 : Int32) a22 (q0_3 x0 x1 x2 x3) T134.heap H134_3 H134_1 H134_2 J134_s J134_n F141 (by decide) (own_hg0 x0 x1 x2 x3) (own_q4 x0 x1 x2 x3)) 0 [(.int (0 : Int32)), (.ref a22), (.int (q0_3 x0 x1 x2 x3))] [] pd__I_CI_Z rfl rfl (st := [(.int (q0_3 x0 x1 x2 x3)), (.ref a22), (.int (0 : Int32)), (.ref a83)]) rfl (Ls := #[vj x0, s2, vj x1, s2, vj x2, s2, vi x3, vi (q0_1 x0 x1 x2 x3), vi (q0_2 x0 x1 x2 x3), vi (q0_3 x0 x1 x2 x3), vi 0, vi (f1 x3 (7 : Int32)), vi (f1 x3 (12 : Int32)), vr a3, vr a12, vr a3, vi (q0_21 x0 x1 x2 x3), vr a22, vi (q0_40 x0 x1 x2 x3), vr a83, vi 0, vi 1]) rfl (Nat.le_of_eq rfl) (by decide) (by decide) (by decide) (by decide)
        refine c143 ?_
        refine o_iload B143 409 411 (v := (q0_40 x0 x1 x2 x3)) at_409 rfl rfl ?_
        by_cases k29 : (q0_42 x0 x1 x2 x3) = (q0_40 x0 x1 x2 x3)
        · refine o_icN B143 411 414 at_411 rfl (XT.ii_ne_f k29) ?_
          refine o_iconst B143 414 415 (1 : Int32) at_414 rfl (by decide) ?_
          refine o_goto B143 415 419 at_415 (by decide) (by decide) ?_
          refine o_retZ (t := .boolean) B143 419 at_419 hret hlk (by simp) (by decide) (by decide) ⟨(congrArg (fun z => some (Value.int z)) ((show nar .boolean (1 : Int32) = (1 : Int32) from rfl).trans (show f0 x0 x1 x2 x3 = (1 : Int32) from (if_pos k1).trans ((if_neg k26).trans ((if_pos k28).trans ((if_pos k29).trans (rfl))))).symm)), N134⟩
        · refine o_icY B143 411 418 at_411 (XT.ii_ne_t k29) (by decide) (by decide) ?_
          refine o_iconst B143 418 419 (0 : Int32) at_418 rfl (by decide) ?_
          refine o_retZ (t := .boolean) B143 419 at_419 hret hlk (by simp) (by decide) (by decide) ⟨(congrArg (fun z => some (Value.int z)) ((show nar .boolean (0 : Int32) = (0 : Int32) from rfl).trans (show f0 x0 x1 x2 x3 = (0 : Int32) from (if_pos k1).trans ((if_neg k26).trans ((if_pos k28).trans ((if_neg k29).trans (rfl))))).symm)), N134⟩
      · have F144 := (F125.keep K129 (ninS (Nat.ne_of_lt lt85) (ninS (Nat.ne_of_lt lt97) (ninS (Nat.ne_of_lt lt101) nin0))))
        have F145 := (F126.keep K129 (ninS (Nat.ne_of_lt lt87) (ninS (Nat.ne_of_lt lt98) (ninS (Nat.ne_of_lt lt102) nin0))))
        have F146 := (F127.keep K129 (ninS (Nat.ne_of_lt lt88) (ninS (Nat.ne_of_lt lt99) (ninS (Nat.ne_of_lt lt103) nin0))))
        have F147 := (F128.keep K129)
        obtain ⟨v148, T148, L148, B148, Q148, c148⟩ := o_callV B129 380 383 at_380 rfl (hw _ (mi 30 rfl)) (hw _ (mi 31 rfl)) (hw _ (mi 33 rfl)) (hw _ (mi 32 rfl)) (hw _ (mi 10 rfl)) (hw _ (mi 34 rfl)) (by decide) F147 (rm6_NN l Z a0 hw a83 a12 yn96 ys96 (own_nn own_z0 (w0_12 x0 x1 x2 x3) (own_z0 (0 : Int32).toInt.toNat).toInt.toNat (q0_1 x0 x1 x2 x3).toInt.toNat) (own_sp own_z0 (0 : Int32) (q0_1 x0 x1 x2 x3)) (w0_20 x0 x1 x2 x3) (1 : Int32) (q0_2 x0 x1 x2 x3) T129.heap n0 s129 g83 gn96 gs96 F147 H129_1 H129_2 H129_3 H129_5 J129_n J129_s F145 (Nat.ne_of_lt lt100) (Nat.ne_of_lt lt104) (Ne.symm (Nat.ne_of_lt lt87)) nq96 (Nat.ne_of_lt lt98) (Nat.ne_of_lt lt102) (own_hs1 x0 x1 x2 x3) k28) 0 [(.ref a12), (.int (q0_2 x0 x1 x2 x3))] [] pd___CI_I rfl rfl (st := [(.int (q0_2 x0 x1 x2 x3)), (.ref a12), (.ref a83)]) rfl (Ls := #[vj x0, s2, vj x1, s2, vj x2, s2, vi x3, vi (q0_1 x0 x1 x2 x3), vi (q0_2 x0 x1 x2 x3), vi (q0_3 x0 x1 x2 x3), vi 0, vi (f1 x3 (7 : Int32)), vi (f1 x3 (12 : Int32)), vr a3, vr a12, vr a3, vi (q0_21 x0 x1 x2 x3), vr a22, vi (q0_40 x0 x1 x2 x3), vr a83, vi 0, us]) rfl (Nat.le_of_eq rfl) (by decide) (by decide) (by decide) (by decide)
        obtain ⟨rfl, M148, K148, H148_1, H148_2, H148_3, H148_4, J148_n, J148_s⟩ := Q148
        have N148 := Fr.app N129 M148
        have s148 : n0 ≤ T148.heap.size := Nat.le_trans s129 K148.1
        have H148_5 : Fld Z T148.heap a83 "com/example/micro_ranker/microranker/engine/Texts" "size" "I" (.int (2 : Int32)) := H148_4
        refine c148 ?_
        show OG p.tables e below _ (T148.setTop (mkF m 383 #[vj x0, s2, vj x1, s2, vj x2, s2, vi x3, vi (q0_1 x0 x1 x2 x3), vi (q0_2 x0 x1 x2 x3), vi (q0_3 x0 x1 x2 x3), vi 0, vi (f1 x3 (7 : Int32)), vi (f1 x3 (12 : Int32)), vr a3, vr a12, vr a3, vi (q0_21 x0 x1 x2 x3), vr a22, vi (q0_40 x0 x1 x2 x3), vr a83, vi 0, us] [(.int (1 : Int32))]))
        refine o_istore B148 383 385 (l' := #[vj x0, s2, vj x1, s2, vj x2, s2, vi x3, vi (q0_1 x0 x1 x2 x3), vi (q0_2 x0 x1 x2 x3), vi (q0_3 x0 x1 x2 x3), vi 0, vi (f1 x3 (7 : Int32)), vi (f1 x3 (12 : Int32)), vr a3, vr a12, vr a3, vi (q0_21 x0 x1 x2 x3), vr a22, vi (q0_40 x0 x1 x2 x3), vr a83, vi 0, vi 1]) at_383 rfl rfl ?_
        refine o_iload B148 385 387 (v := (0 : Int32)) at_385 rfl rfl ?_
        refine o_ifN B148 387 390 at_387 rfl (XT.i0_ne_f (by decide)) ?_
        refine o_iload B148 390 392 (v := (1 : Int32)) at_390 rfl rfl ?_
        refine o_iconst B148 392 393 (1 : Int32) at_392 rfl (by decide) ?_
        refine o_icY B148 393 398 at_393 (XT.ii_eq_t (by decide)) (by decide) (by decide) ?_
        refine o_aload B148 398 400 (v := (.ref a83)) at_398 rfl rfl rfl ?_
        refine o_iload B148 400 402 (v := (0 : Int32)) at_400 rfl rfl ?_
        refine o_aload B148 402 404 (v := (.ref a22)) at_402 rfl rfl rfl ?_
        refine o_iload B148 404 406 (v := (q0_3 x0 x1 x2 x3)) at_404 rfl rfl ?_
        have F149 := (F146.keep K148 (ninS (Nat.ne_of_lt lt88) (ninS (Nat.ne_of_lt lt99) (ninS (Nat.ne_of_lt lt103) nin0))))
        have F150 := (F147.keep K148)
        obtain ⟨T151, B151, c151⟩ := o_callVP B148 406 409 at_406 rfl (hw _ (mi 38 rfl)) (hw _ (mi 39 rfl)) (hw _ (mi 41 rfl)) (hw _ (mi 40 rfl)) (hw _ (mi 10 rfl)) (hw _ (mi 42 rfl)) (by decide) F150 (rm8_N l Z a0 hw a83 (own_sp (own_sp own_z0 (0 : Int32) (q0_1 x0 x1 x2 x3)) (1 : Int32) (q0_2 x0 x1 x2 x3)) (own_nn (own_nn own_z0 (w0_12 x0 x1 x2 x3) (own_z0 (0 : Int32).toInt.toNat).toInt.toNat (q0_1 x0 x1 x2 x3).toInt.toNat) (w0_20 x0 x1 x2 x3) ((own_sp own_z0 (0 : Int32) (q0_1 x0 x1 x2 x3)) (1 : Int32).toInt.toNat).toInt.toNat (q0_2 x0 x1 x2 x3).toInt.toNat) (w0_33 x0 x1 x2 x3) ys96 yn96 (0 : Int32) a22 (q0_3 x0 x1 x2 x3) T148.heap H148_3 H148_1 J148_s J148_n F149 (by decide) (own_hg0 x0 x1 x2 x3) (own_q4 x0 x1 x2 x3)) 0 [(.int (0 : Int32)), (.ref a22), (.int (q0_3 x0 x1 x2 x3))] [] pd__I_CI_Z rfl rfl (st := [(.int (q0_3 x0 x1 x2 x3)), (.ref a22), (.int (0 : Int32)), (.ref a83)]) rfl (Ls := #[vj x0, s2, vj x1, s2, vj x2, s2, vi x3, vi (q0_1 x0 x1 x2 x3), vi (q0_2 x0 x1 x2 x3), vi (q0_3 x0 x1 x2 x3), vi 0, vi (f1 x3 (7 : Int32)), vi (f1 x3 (12 : Int32)), vr a3, vr a12, vr a3, vi (q0_21 x0 x1 x2 x3), vr a22, vi (q0_40 x0 x1 x2 x3), vr a83, vi 0, vi 1]) rfl (Nat.le_of_eq rfl) (by decide) (by decide) (by decide) (by decide)
        refine c151 ?_
        refine o_iload B151 409 411 (v := (q0_40 x0 x1 x2 x3)) at_409 rfl rfl ?_
        by_cases k30 : (q0_43 x0 x1 x2 x3) = (q0_40 x0 x1 x2 x3)
        · refine o_icN B151 411 414 at_411 rfl (XT.ii_ne_f k30) ?_
          refine o_iconst B151 414 415 (1 : Int32) at_414 rfl (by decide) ?_
          refine o_goto B151 415 419 at_415 (by decide) (by decide) ?_
          refine o_retZ (t := .boolean) B151 419 at_419 hret hlk (by simp) (by decide) (by decide) ⟨(congrArg (fun z => some (Value.int z)) ((show nar .boolean (1 : Int32) = (1 : Int32) from rfl).trans (show f0 x0 x1 x2 x3 = (1 : Int32) from (if_pos k1).trans ((if_neg k26).trans ((if_neg k28).trans ((if_pos k30).trans (rfl))))).symm)), N148⟩
        · refine o_icY B151 411 418 at_411 (XT.ii_ne_t k30) (by decide) (by decide) ?_
          refine o_iconst B151 418 419 (0 : Int32) at_418 rfl (by decide) ?_
          refine o_retZ (t := .boolean) B151 419 at_419 hret hlk (by simp) (by decide) (by decide) ⟨(congrArg (fun z => some (Value.int z)) ((show nar .boolean (0 : Int32) = (0 : Int32) from rfl).trans (show f0 x0 x1 x2 x3 = (0 : Int32) from (if_pos k1).trans ((if_neg k26).trans ((if_neg k28).trans ((if_neg k30).trans (rfl))))).symm)), N148⟩
  · have k31 : (q0_4 x0 x1 x2 x3) = (1 : Int32) := (own_n01 x0 x1 x2 x3 k1)
    rw [k31]
    refine o_iload B21 147 149 (v := (1 : Int32)) at_147 rfl rfl ?_
    refine o_ifY B21 149 157 at_149 (XT.i0_ne_t (by decide)) (by decide) (by decide) ?_
    refine o_aload B21 157 159 (v := (.ref a12)) at_157 rfl rfl rfl ?_
    refine o_astore B21 159 161 (l' := #[vj x0, s2, vj x1, s2, vj x2, s2, vi x3, vi (q0_1 x0 x1 x2 x3), vi (q0_2 x0 x1 x2 x3), vi (q0_3 x0 x1 x2 x3), vi 1, vi (f1 x3 (7 : Int32)), vi (f1 x3 (12 : Int32)), vr a3, vr a12, vr a12, us, us, us, us, us, us]) at_159 rfl rfl rfl ?_
    refine o_iload B21 161 163 (v := (1 : Int32)) at_161 rfl rfl ?_
    refine o_ifY B21 163 171 at_163 (XT.i0_ne_t (by decide)) (by decide) (by decide) ?_
    refine o_iload B21 171 173 (v := (q0_2 x0 x1 x2 x3)) at_171 rfl rfl ?_
    refine o_istore B21 173 175 (l' := #[vj x0, s2, vj x1, s2, vj x2, s2, vi x3, vi (q0_1 x0 x1 x2 x3), vi (q0_2 x0 x1 x2 x3), vi (q0_3 x0 x1 x2 x3), vi 1, vi (f1 x3 (7 : Int32)), vi (f1 x3 (12 : Int32)), vr a3, vr a12, vr a12, vi (q0_44 x0 x1 x2 x3), us, us, us, us, us]) at_173 rfl rfl ?_
    refine o_iconst B21 175 176 (4 : Int32) at_175 rfl (by decide) ?_
    obtain ⟨a152, T152, h152, z152, B152, E152, A152, c152⟩ := o_newI B21 176 178 (ty := .char) (z := (4 : Int32)) 4 4 (hw _ (mi 4 rfl)) at_176 rfl rfl rfl (by decide) (by decide) (by decide) (by decide) (by decide) (by decide) (Ls := #[vj x0, s2, vj x1, s2, vj x2, s2, vi x3, vi (q0_1 x0 x1 x2 x3), vi (q0_2 x0 x1 x2 x3), vi (q0_3 x0 x1 x2 x3), vi 1, vi (f1 x3 (7 : Int32)), vi (f1 x3 (12 : Int32)), vr a3, vr a12, vr a12, vi (q0_44 x0 x1 x2 x3), us, us, us, us, us]) (rest := [])
    have F153 := (((((A11.ext E12).other W15 (Nat.ne_of_lt lt13)).other W17 (Nat.ne_of_lt lt13)).other W19 (Nat.ne_of_lt lt13)).other W21 (Nat.ne_of_lt lt13))
    have lt154 : (a3 : Nat) < a152 := by rw [z152]; exact F153.lt
    have lt155 : (a12 : Nat) < a152 := by rw [z152]; exact A21.lt
    have g152 : n0 ≤ a152 := by rw [z152]; exact (W21.size ▸ (W19.size ▸ (W17.size ▸ (W15.size ▸ s12))))
    have s152 : n0 ≤ h152.size := Nat.le_trans (W21.size ▸ (W19.size ▸ (W17.size ▸ (W15.size ▸ s12)))) E152.1
    refine c152 ?_
    refine o_astore B152 178 180 (l' := #[vj x0, s2, vj x1, s2, vj x2, s2, vi x3, vi (q0_1 x0 x1 x2 x3), vi (q0_2 x0 x1 x2 x3), vi (q0_3 x0 x1 x2 x3), vi 1, vi (f1 x3 (7 : Int32)), vi (f1 x3 (12 : Int32)), vr a3, vr a12, vr a12, vi (q0_44 x0 x1 x2 x3), vr a152, us, us, us, us]) at_178 rfl rfl rfl ?_
    refine o_aload B152 180 182 (v := (.ref a152)) at_180 rfl rfl rfl ?_
    refine o_iconst B152 182 183 (0 : Int32) at_182 rfl (by decide) ?_
    refine o_iload B152 183 185 (v := x3) at_183 rfl rfl ?_
    refine o_bipush B152 185 187 (8 : Int32) at_185 rfl (by decide) ?_
    obtain ⟨T156, B156, c156⟩ := o_callP B152 187 190 at_187 rfl (hw _ (mi 0 rfl)) (hw _ (mi 1 rfl)) (hw _ (mi 2 rfl)) (hw _ (mi 3 rfl)) (by decide) (rm1 l Z a0 hw x3 (8 : Int32) h152 ) 2 [(.int x3), (.int (8 : Int32))] [(.int (0 : Int32)), (.ref a152)] pd__II_Z rfl rfl (st := [(.int (8 : Int32)), (.int x3), (.int (0 : Int32)), (.ref a152)]) rfl (Ls := #[vj x0, s2, vj x1, s2, vj x2, s2, vi x3, vi (q0_1 x0 x1 x2 x3), vi (q0_2 x0 x1 x2 x3), vi (q0_3 x0 x1 x2 x3), vi 1, vi (f1 x3 (7 : Int32)), vi (f1 x3 (12 : Int32)), vr a3, vr a12, vr a12, vi (q0_44 x0 x1 x2 x3), vr a152, us, us, us, us]) rfl (Nat.le_of_eq rfl) (by decide) (by decide) (by decide) (by decide)
    refine c156 ?_
    have dm32 : ∀ {P : Outcome → State → Prop}, OG p.tables e below P (T156.setTop (mkF m 204 #[vj x0, s2, vj x1, s2, vj x2, s2, vi x3, vi (q0_1 x0 x1 x2 x3), vi (q0_2 x0 x1 x2 x3), vi (q0_3 x0 x1 x2 x3), vi 1, vi (f1 x3 (7 : Int32)), vi (f1 x3 (12 : Int32)), vr a3, vr a12, vr a12, vi (q0_44 x0 x1 x2 x3), vr a152, us, us, us, us] [(.int (q0_45 x0 x1 x2 x3)), (.int (0 : Int32)), (.ref a152)])) → OG p.tables e below P (T156.setTop (mkF m 190 #[vj x0, s2, vj x1, s2, vj x2, s2, vi x3, vi (q0_1 x0 x1 x2 x3), vi (q0_2 x0 x1 x2 x3), vi (q0_3 x0 x1 x2 x3), vi 1, vi (f1 x3 (7 : Int32)), vi (f1 x3 (12 : Int32)), vr a3, vr a12, vr a12, vi (q0_44 x0 x1 x2 x3), vr a152, us, us, us, us] [(.int (f1 x3 (8 : Int32))), (.int (0 : Int32)), (.ref a152)])) := by
      intro P k
      by_cases k33 : (f1 x3 (8 : Int32)) = 0
      · refine o_ifY B156 190 200 at_190 (XT.i0_eq_t k33) (by decide) (by decide) ?_
        refine o_aload B156 200 202 (v := (.ref a12)) at_200 rfl rfl rfl ?_
        refine o_iconst B156 202 203 (0 : Int32) at_202 rfl (by decide) ?_
        have F158 := (A21.ext E152)
        refine o_caload B156 203 204 F158 0 (q0_13 x0 x1 x2 x3) at_203 rfl (by decide) (by decide) (by decide) rfl ?_
        have y0 : (q0_45 x0 x1 x2 x3) = (q0_13 x0 x1 x2 x3) := by simp only [q0_45, if_pos k33]
        rw [y0] at k
        exact k
      · refine o_ifN B156 190 193 at_190 rfl (XT.i0_eq_f k33) ?_
        refine o_lload B156 193 195 (v := x2) at_193 rfl rfl ?_
        refine o_l2i B156 195 196 at_195 rfl ?_
        refine o_i2c B156 196 197 at_196 rfl ?_
        refine o_goto B156 197 204 at_197 (by decide) (by decide) ?_
        have y0 : (q0_45 x0 x1 x2 x3) = x2.toInt32.toUInt32.toUInt16.toUInt32.toInt32 := by simp only [q0_45, if_neg k33]
        rw [y0] at k
        exact k
    refine dm32 ?_
    obtain ⟨T161, h161, L161, B161, N161, W161, Q161, c161⟩ := o_castore B156 N21 g152 204 205 A152 (j := (0 : Int32)) (x := (q0_45 x0 x1 x2 x3)) 0 (q0_46 x0 x1 x2 x3) at_204 rfl (by decide) (by decide) (by decide) rfl (Ls := #[vj x0, s2, vj x1, s2, vj x2, s2, vi x3, vi (q0_1 x0 x1 x2 x3), vi (q0_2 x0 x1 x2 x3), vi (q0_3 x0 x1 x2 x3), vi 1, vi (f1 x3 (7 : Int32)), vi (f1 x3 (12 : Int32)), vr a3, vr a12, vr a12, vi (q0_44 x0 x1 x2 x3), vr a152, us, us, us, us]) (rest := [])
    have A161 : AI Z h161 a152 .char 4 (w0_47 x0 x1 x2 x3) := Q161
    refine c161 ?_
    refine o_aload B161 205 207 (v := (.ref a152)) at_205 rfl rfl rfl ?_
    refine o_iconst B161 207 208 (1 : Int32) at_207 rfl (by decide) ?_
    refine o_iload B161 208 210 (v := x3) at_208 rfl rfl ?_
    refine o_bipush B161 210 212 (9 : Int32) at_210 rfl (by decide) ?_
    obtain ⟨T162, B162, c162⟩ := o_callP B161 212 215 at_212 rfl (hw _ (mi 0 rfl)) (hw _ (mi 1 rfl)) (hw _ (mi 2 rfl)) (hw _ (mi 3 rfl)) (by decide) (rm1 l Z a0 hw x3 (9 : Int32) h161 ) 2 [(.int x3), (.int (9 : Int32))] [(.int (1 : Int32)), (.ref a152)] pd__II_Z rfl rfl (st := [(.int (9 : Int32)), (.int x3), (.int (1 : Int32)), (.ref a152)]) rfl (Ls := #[vj x0, s2, vj x1, s2, vj x2, s2, vi x3, vi (q0_1 x0 x1 x2 x3), vi (q0_2 x0 x1 x2 x3), vi (q0_3 x0 x1 x2 x3), vi 1, vi (f1 x3 (7 : Int32)), vi (f1 x3 (12 : Int32)), vr a3, vr a12, vr a12, vi (q0_44 x0 x1 x2 x3), vr a152, us, us, us, us]) rfl (Nat.le_of_eq rfl) (by decide) (by decide) (by decide) (by decide)
    refine c162 ?_
    have dm34 : ∀ {P : Outcome → State → Prop}, OG p.tables e below P (T162.setTop (mkF m 232 #[vj x0, s2, vj x1, s2, vj x2, s2, vi x3, vi (q0_1 x0 x1 x2 x3), vi (q0_2 x0 x1 x2 x3), vi (q0_3 x0 x1 x2 x3), vi 1, vi (f1 x3 (7 : Int32)), vi (f1 x3 (12 : Int32)), vr a3, vr a12, vr a12, vi (q0_44 x0 x1 x2 x3), vr a152, us, us, us, us] [(.int (q0_48 x0 x1 x2 x3)), (.int (1 : Int32)), (.ref a152)])) → OG p.tables e below P (T162.setTop (mkF m 215 #[vj x0, s2, vj x1, s2, vj x2, s2, vi x3, vi (q0_1 x0 x1 x2 x3), vi (q0_2 x0 x1 x2 x3), vi (q0_3 x0 x1 x2 x3), vi 1, vi (f1 x3 (7 : Int32)), vi (f1 x3 (12 : Int32)), vr a3, vr a12, vr a12, vi (q0_44 x0 x1 x2 x3), vr a152, us, us, us, us] [(.int (f1 x3 (9 : Int32))), (.int (1 : Int32)), (.ref a152)])) := by
      intro P k
      by_cases k35 : (f1 x3 (9 : Int32)) = 0
      · refine o_ifY B162 215 228 at_215 (XT.i0_eq_t k35) (by decide) (by decide) ?_
        refine o_aload B162 228 230 (v := (.ref a12)) at_228 rfl rfl rfl ?_
        refine o_iconst B162 230 231 (1 : Int32) at_230 rfl (by decide) ?_
        have F164 := ((A21.ext E152).other W161 (Nat.ne_of_lt lt155))
        refine o_caload B162 231 232 F164 1 (q0_15 x0 x1 x2 x3) at_231 rfl (by decide) (by decide) (by decide) rfl ?_
        have y0 : (q0_48 x0 x1 x2 x3) = (q0_15 x0 x1 x2 x3) := by simp only [q0_48, if_pos k35]
        rw [y0] at k
        exact k
      · refine o_ifN B162 215 218 at_215 rfl (XT.i0_eq_f k35) ?_
        refine o_lload B162 218 220 (v := x2) at_218 rfl rfl ?_
        refine o_bipush B162 220 222 (16 : Int32) at_220 rfl (by decide) ?_
        refine o_lushr B162 222 223 at_222 rfl ?_
        refine o_l2i B162 223 224 at_223 rfl ?_
        refine o_i2c B162 224 225 at_224 rfl ?_
        refine o_goto B162 225 232 at_225 (by decide) (by decide) ?_
        have y0 : (q0_48 x0 x1 x2 x3) = (XT.ushrL x2 (16 : Int32)).toInt32.toUInt32.toUInt16.toUInt32.toInt32 := by simp only [q0_48, if_neg k35]
        rw [y0] at k
        exact k
    refine dm34 ?_
    obtain ⟨T167, h167, L167, B167, N167, W167, Q167, c167⟩ := o_castore B162 N161 g152 232 233 A161 (j := (1 : Int32)) (x := (q0_48 x0 x1 x2 x3)) 1 (q0_49 x0 x1 x2 x3) at_232 rfl (by decide) (by decide) (by decide) rfl (Ls := #[vj x0, s2, vj x1, s2, vj x2, s2, vi x3, vi (q0_1 x0 x1 x2 x3), vi (q0_2 x0 x1 x2 x3), vi (q0_3 x0 x1 x2 x3), vi 1, vi (f1 x3 (7 : Int32)), vi (f1 x3 (12 : Int32)), vr a3, vr a12, vr a12, vi (q0_44 x0 x1 x2 x3), vr a152, us, us, us, us]) (rest := [])
    have A167 : AI Z h167 a152 .char 4 (w0_50 x0 x1 x2 x3) := Q167
    refine c167 ?_
    refine o_aload B167 233 235 (v := (.ref a152)) at_233 rfl rfl rfl ?_
    refine o_iconst B167 235 236 (2 : Int32) at_235 rfl (by decide) ?_
    refine o_iload B167 236 238 (v := x3) at_236 rfl rfl ?_
    refine o_bipush B167 238 240 (10 : Int32) at_238 rfl (by decide) ?_
    obtain ⟨T168, B168, c168⟩ := o_callP B167 240 243 at_240 rfl (hw _ (mi 0 rfl)) (hw _ (mi 1 rfl)) (hw _ (mi 2 rfl)) (hw _ (mi 3 rfl)) (by decide) (rm1 l Z a0 hw x3 (10 : Int32) h167 ) 2 [(.int x3), (.int (10 : Int32))] [(.int (2 : Int32)), (.ref a152)] pd__II_Z rfl rfl (st := [(.int (10 : Int32)), (.int x3), (.int (2 : Int32)), (.ref a152)]) rfl (Ls := #[vj x0, s2, vj x1, s2, vj x2, s2, vi x3, vi (q0_1 x0 x1 x2 x3), vi (q0_2 x0 x1 x2 x3), vi (q0_3 x0 x1 x2 x3), vi 1, vi (f1 x3 (7 : Int32)), vi (f1 x3 (12 : Int32)), vr a3, vr a12, vr a12, vi (q0_44 x0 x1 x2 x3), vr a152, us, us, us, us]) rfl (Nat.le_of_eq rfl) (by decide) (by decide) (by decide) (by decide)
    refine c168 ?_
    have dm36 : ∀ {P : Outcome → State → Prop}, OG p.tables e below P (T168.setTop (mkF m 260 #[vj x0, s2, vj x1, s2, vj x2, s2, vi x3, vi (q0_1 x0 x1 x2 x3), vi (q0_2 x0 x1 x2 x3), vi (q0_3 x0 x1 x2 x3), vi 1, vi (f1 x3 (7 : Int32)), vi (f1 x3 (12 : Int32)), vr a3, vr a12, vr a12, vi (q0_44 x0 x1 x2 x3), vr a152, us, us, us, us] [(.int (q0_51 x0 x1 x2 x3)), (.int (2 : Int32)), (.ref a152)])) → OG p.tables e below P (T168.setTop (mkF m 243 #[vj x0, s2, vj x1, s2, vj x2, s2, vi x3, vi (q0_1 x0 x1 x2 x3), vi (q0_2 x0 x1 x2 x3), vi (q0_3 x0 x1 x2 x3), vi 1, vi (f1 x3 (7 : Int32)), vi (f1 x3 (12 : Int32)), vr a3, vr a12, vr a12, vi (q0_44 x0 x1 x2 x3), vr a152, us, us, us, us] [(.int (f1 x3 (10 : Int32))), (.int (2 : Int32)), (.ref a152)])) := by
      intro P k
      by_cases k37 : (f1 x3 (10 : Int32)) = 0
      · refine o_ifY B168 243 256 at_243 (XT.i0_eq_t k37) (by decide) (by decide) ?_
        refine o_aload B168 256 258 (v := (.ref a12)) at_256 rfl rfl rfl ?_
        refine o_iconst B168 258 259 (2 : Int32) at_258 rfl (by decide) ?_
        have F170 := (((A21.ext E152).other W161 (Nat.ne_of_lt lt155)).other W167 (Nat.ne_of_lt lt155))
        refine o_caload B168 259 260 F170 2 (q0_17 x0 x1 x2 x3) at_259 rfl (by decide) (by decide) (by decide) rfl ?_
        have y0 : (q0_51 x0 x1 x2 x3) = (q0_17 x0 x1 x2 x3) := by simp only [q0_51, if_pos k37]
        rw [y0] at k
        exact k
      · refine o_ifN B168 243 246 at_243 rfl (XT.i0_eq_f k37) ?_
        refine o_lload B168 246 248 (v := x2) at_246 rfl rfl ?_
        refine o_bipush B168 248 250 (32 : Int32) at_248 rfl (by decide) ?_
        refine o_lushr B168 250 251 at_250 rfl ?_
        refine o_l2i B168 251 252 at_251 rfl ?_
        refine o_i2c B168 252 253 at_252 rfl ?_
        refine o_goto B168 253 260 at_253 (by decide) (by decide) ?_
        have y0 : (q0_51 x0 x1 x2 x3) = (XT.ushrL x2 (32 : Int32)).toInt32.toUInt32.toUInt16.toUInt32.toInt32 := by simp only [q0_51, if_neg k37]
        rw [y0] at k
        exact k
    refine dm36 ?_
    obtain ⟨T173, h173, L173, B173, N173, W173, Q173, c173⟩ := o_castore B168 N167 g152 260 261 A167 (j := (2 : Int32)) (x := (q0_51 x0 x1 x2 x3)) 2 (q0_52 x0 x1 x2 x3) at_260 rfl (by decide) (by decide) (by decide) rfl (Ls := #[vj x0, s2, vj x1, s2, vj x2, s2, vi x3, vi (q0_1 x0 x1 x2 x3), vi (q0_2 x0 x1 x2 x3), vi (q0_3 x0 x1 x2 x3), vi 1, vi (f1 x3 (7 : Int32)), vi (f1 x3 (12 : Int32)), vr a3, vr a12, vr a12, vi (q0_44 x0 x1 x2 x3), vr a152, us, us, us, us]) (rest := [])
    have A173 : AI Z h173 a152 .char 4 (w0_53 x0 x1 x2 x3) := Q173
    refine c173 ?_
    refine o_aload B173 261 263 (v := (.ref a152)) at_261 rfl rfl rfl ?_
    refine o_iconst B173 263 264 (3 : Int32) at_263 rfl (by decide) ?_
    refine o_iload B173 264 266 (v := x3) at_264 rfl rfl ?_
    refine o_bipush B173 266 268 (11 : Int32) at_266 rfl (by decide) ?_
    obtain ⟨T174, B174, c174⟩ := o_callP B173 268 271 at_268 rfl (hw _ (mi 0 rfl)) (hw _ (mi 1 rfl)) (hw _ (mi 2 rfl)) (hw _ (mi 3 rfl)) (by decide) (rm1 l Z a0 hw x3 (11 : Int32) h173 ) 2 [(.int x3), (.int (11 : Int32))] [(.int (3 : Int32)), (.ref a152)] pd__II_Z rfl rfl (st := [(.int (11 : Int32)), (.int x3), (.int (3 : Int32)), (.ref a152)]) rfl (Ls := #[vj x0, s2, vj x1, s2, vj x2, s2, vi x3, vi (q0_1 x0 x1 x2 x3), vi (q0_2 x0 x1 x2 x3), vi (q0_3 x0 x1 x2 x3), vi 1, vi (f1 x3 (7 : Int32)), vi (f1 x3 (12 : Int32)), vr a3, vr a12, vr a12, vi (q0_44 x0 x1 x2 x3), vr a152, us, us, us, us]) rfl (Nat.le_of_eq rfl) (by decide) (by decide) (by decide) (by decide)
    refine c174 ?_
    have dm38 : ∀ {P : Outcome → State → Prop}, OG p.tables e below P (T174.setTop (mkF m 288 #[vj x0, s2, vj x1, s2, vj x2, s2, vi x3, vi (q0_1 x0 x1 x2 x3), vi (q0_2 x0 x1 x2 x3), vi (q0_3 x0 x1 x2 x3), vi 1, vi (f1 x3 (7 : Int32)), vi (f1 x3 (12 : Int32)), vr a3, vr a12, vr a12, vi (q0_44 x0 x1 x2 x3), vr a152, us, us, us, us] [(.int (q0_54 x0 x1 x2 x3)), (.int (3 : Int32)), (.ref a152)])) → OG p.tables e below P (T174.setTop (mkF m 271 #[vj x0, s2, vj x1, s2, vj x2, s2, vi x3, vi (q0_1 x0 x1 x2 x3), vi (q0_2 x0 x1 x2 x3), vi (q0_3 x0 x1 x2 x3), vi 1, vi (f1 x3 (7 : Int32)), vi (f1 x3 (12 : Int32)), vr a3, vr a12, vr a12, vi (q0_44 x0 x1 x2 x3), vr a152, us, us, us, us] [(.int (f1 x3 (11 : Int32))), (.int (3 : Int32)), (.ref a152)])) := by
      intro P k
      by_cases k39 : (f1 x3 (11 : Int32)) = 0
      · refine o_ifY B174 271 284 at_271 (XT.i0_eq_t k39) (by decide) (by decide) ?_
        refine o_aload B174 284 286 (v := (.ref a12)) at_284 rfl rfl rfl ?_
        refine o_iconst B174 286 287 (3 : Int32) at_286 rfl (by decide) ?_
        have F176 := ((((A21.ext E152).other W161 (Nat.ne_of_lt lt155)).other W167 (Nat.ne_of_lt lt155)).other W173 (Nat.ne_of_lt lt155))
        refine o_caload B174 287 288 F176 3 (q0_19 x0 x1 x2 x3) at_287 rfl (by decide) (by decide) (by decide) rfl ?_
        have y0 : (q0_54 x0 x1 x2 x3) = (q0_19 x0 x1 x2 x3) := by simp only [q0_54, if_pos k39]
        rw [y0] at k
        exact k
      · refine o_ifN B174 271 274 at_271 rfl (XT.i0_eq_f k39) ?_
        refine o_lload B174 274 276 (v := x2) at_274 rfl rfl ?_
        refine o_bipush B174 276 278 (48 : Int32) at_276 rfl (by decide) ?_
        refine o_lushr B174 278 279 at_278 rfl ?_
        refine o_l2i B174 279 280 at_279 rfl ?_
        refine o_i2c B174 280 281 at_280 rfl ?_
        refine o_goto B174 281 288 at_281 (by decide) (by decide) ?_
        have y0 : (q0_54 x0 x1 x2 x3) = (XT.ushrL x2 (48 : Int32)).toInt32.toUInt32.toUInt16.toUInt32.toInt32 := by simp only [q0_54, if_neg k39]
        rw [y0] at k
        exact k
    refine dm38 ?_
    obtain ⟨T179, h179, L179, B179, N179, W179, Q179, c179⟩ := o_castore B174 N173 g152 288 289 A173 (j := (3 : Int32)) (x := (q0_54 x0 x1 x2 x3)) 3 (q0_55 x0 x1 x2 x3) at_288 rfl (by decide) (by decide) (by decide) rfl (Ls := #[vj x0, s2, vj x1, s2, vj x2, s2, vi x3, vi (q0_1 x0 x1 x2 x3), vi (q0_2 x0 x1 x2 x3), vi (q0_3 x0 x1 x2 x3), vi 1, vi (f1 x3 (7 : Int32)), vi (f1 x3 (12 : Int32)), vr a3, vr a12, vr a12, vi (q0_44 x0 x1 x2 x3), vr a152, us, us, us, us]) (rest := [])
    have A179 : AI Z h179 a152 .char 4 (w0_56 x0 x1 x2 x3) := Q179
    refine c179 ?_
    refine o_iload B179 289 291 (v := (q0_3 x0 x1 x2 x3)) at_289 rfl rfl ?_
    refine o_iload B179 291 293 (v := (q0_44 x0 x1 x2 x3)) at_291 rfl rfl ?_
    have dm40 : ∀ {P : Outcome → State → Prop}, OG p.tables e below P (T179.setTop (mkF m 352 #[vj x0, s2, vj x1, s2, vj x2, s2, vi x3, vi (q0_1 x0 x1 x2 x3), vi (q0_2 x0 x1 x2 x3), vi (q0_3 x0 x1 x2 x3), vi 1, vi (f1 x3 (7 : Int32)), vi (f1 x3 (12 : Int32)), vr a3, vr a12, vr a12, vi (q0_44 x0 x1 x2 x3), vr a152, us, us, us, us] [(.int (q0_63 x0 x1 x2 x3))])) → OG p.tables e below P (T179.setTop (mkF m 293 #[vj x0, s2, vj x1, s2, vj x2, s2, vi x3, vi (q0_1 x0 x1 x2 x3), vi (q0_2 x0 x1 x2 x3), vi (q0_3 x0 x1 x2 x3), vi 1, vi (f1 x3 (7 : Int32)), vi (f1 x3 (12 : Int32)), vr a3, vr a12, vr a12, vi (q0_44 x0 x1 x2 x3), vr a152, us, us, us, us] [(.int (q0_44 x0 x1 x2 x3)), (.int (q0_3 x0 x1 x2 x3))])) := by
      intro P k
      by_cases k41 : (q0_3 x0 x1 x2 x3) = (q0_44 x0 x1 x2 x3)
      · refine o_icN B179 293 296 at_293 rfl (XT.ii_ne_f k41) ?_
        refine o_iload B179 296 298 (v := (q0_3 x0 x1 x2 x3)) at_296 rfl rfl ?_
        refine o_iconst B179 298 299 (1 : Int32) at_298 rfl (by decide) ?_
        by_cases k42 : (q0_3 x0 x1 x2 x3) < (1 : Int32)
        · refine o_icY B179 299 313 at_299 (XT.ii_lt_t k42) (by decide) (by decide) ?_
          refine o_iload B179 313 315 (v := (q0_3 x0 x1 x2 x3)) at_313 rfl rfl ?_
          refine o_iconst B179 315 316 (2 : Int32) at_315 rfl (by decide) ?_
          by_cases k43 : (q0_3 x0 x1 x2 x3) < (2 : Int32)
          · refine o_icY B179 316 330 at_316 (XT.ii_lt_t k43) (by decide) (by decide) ?_
            refine o_iload B179 330 332 (v := (q0_3 x0 x1 x2 x3)) at_330 rfl rfl ?_
            refine o_iconst B179 332 333 (3 : Int32) at_332 rfl (by decide) ?_
            by_cases k44 : (q0_3 x0 x1 x2 x3) < (3 : Int32)
            · refine o_icY B179 333 347 at_333 (XT.ii_lt_t k44) (by decide) (by decide) ?_
              refine o_iconst B179 347 348 (1 : Int32) at_347 rfl (by decide) ?_
              refine o_goto B179 348 352 at_348 (by decide) (by decide) ?_
              have y0 : (q0_63 x0 x1 x2 x3) = (1 : Int32) := by simp only [q0_57, q0_58, q0_59, q0_60, q0_61, q0_62, q0_63, if_pos k41, if_pos k42, if_pos k43, if_pos k44]
              rw [y0] at k
              exact k
            · refine o_icN B179 333 336 at_333 rfl (XT.ii_lt_f k44) ?_
              refine o_aload B179 336 338 (v := (.ref a152)) at_336 rfl rfl rfl ?_
              refine o_iconst B179 338 339 (2 : Int32) at_338 rfl (by decide) ?_
              refine o_caload B179 339 340 A179 2 (q0_52 x0 x1 x2 x3) at_339 rfl (by decide) (by decide) (by decide) rfl ?_
              refine o_aload B179 340 342 (v := (.ref a12)) at_340 rfl rfl rfl ?_
              refine o_iconst B179 342 343 (2 : Int32) at_342 rfl (by decide) ?_
              have F183 := (((((A21.ext E152).other W161 (Nat.ne_of_lt lt155)).other W167 (Nat.ne_of_lt lt155)).other W173 (Nat.ne_of_lt lt155)).other W179 (Nat.ne_of_lt lt155))
              refine o_caload B179 343 344 F183 2 (q0_17 x0 x1 x2 x3) at_343 rfl (by decide) (by decide) (by decide) rfl ?_
              by_cases k45 : (q0_52 x0 x1 x2 x3) = (q0_17 x0 x1 x2 x3)
              · refine o_icN B179 344 347 at_344 rfl (XT.ii_ne_f k45) ?_
                refine o_iconst B179 347 348 (1 : Int32) at_347 rfl (by decide) ?_
                refine o_goto B179 348 352 at_348 (by decide) (by decide) ?_
                have y0 : (q0_63 x0 x1 x2 x3) = (1 : Int32) := by simp only [q0_57, q0_58, q0_59, q0_60, q0_61, q0_62, q0_63, if_pos k41, if_pos k42, if_pos k43, if_neg k44, if_pos k45]
                rw [y0] at k
                exact k
              · refine o_icY B179 344 351 at_344 (XT.ii_ne_t k45) (by decide) (by decide) ?_
                refine o_iconst B179 351 352 (0 : Int32) at_351 rfl (by decide) ?_
                have y0 : (q0_63 x0 x1 x2 x3) = (0 : Int32) := by simp only [q0_57, q0_58, q0_59, q0_60, q0_61, q0_62, q0_63, if_pos k41, if_pos k42, if_pos k43, if_neg k44, if_neg k45]
                rw [y0] at k
                exact k
          · refine o_icN B179 316 319 at_316 rfl (XT.ii_lt_f k43) ?_
            refine o_aload B179 319 321 (v := (.ref a152)) at_319 rfl rfl rfl ?_
            refine o_iconst B179 321 322 (1 : Int32) at_321 rfl (by decide) ?_
            refine o_caload B179 322 323 A179 1 (q0_49 x0 x1 x2 x3) at_322 rfl (by decide) (by decide) (by decide) rfl ?_
            refine o_aload B179 323 325 (v := (.ref a12)) at_323 rfl rfl rfl ?_
            refine o_iconst B179 325 326 (1 : Int32) at_325 rfl (by decide) ?_
            have F188 := (((((A21.ext E152).other W161 (Nat.ne_of_lt lt155)).other W167 (Nat.ne_of_lt lt155)).other W173 (Nat.ne_of_lt lt155)).other W179 (Nat.ne_of_lt lt155))
            refine o_caload B179 326 327 F188 1 (q0_15 x0 x1 x2 x3) at_326 rfl (by decide) (by decide) (by decide) rfl ?_
            by_cases k46 : (q0_49 x0 x1 x2 x3) = (q0_15 x0 x1 x2 x3)
            · refine o_icN B179 327 330 at_327 rfl (XT.ii_ne_f k46) ?_
              refine o_iload B179 330 332 (v := (q0_3 x0 x1 x2 x3)) at_330 rfl rfl ?_
              refine o_iconst B179 332 333 (3 : Int32) at_332 rfl (by decide) ?_
              by_cases k47 : (q0_3 x0 x1 x2 x3) < (3 : Int32)
              · refine o_icY B179 333 347 at_333 (XT.ii_lt_t k47) (by decide) (by decide) ?_
                refine o_iconst B179 347 348 (1 : Int32) at_347 rfl (by decide) ?_
                refine o_goto B179 348 352 at_348 (by decide) (by decide) ?_
                have y0 : (q0_63 x0 x1 x2 x3) = (1 : Int32) := by simp only [q0_57, q0_58, q0_59, q0_60, q0_61, q0_62, q0_63, if_pos k41, if_pos k42, if_neg k43, if_pos k46, if_pos k47]
                rw [y0] at k
                exact k
              · refine o_icN B179 333 336 at_333 rfl (XT.ii_lt_f k47) ?_
                refine o_aload B179 336 338 (v := (.ref a152)) at_336 rfl rfl rfl ?_
                refine o_iconst B179 338 339 (2 : Int32) at_338 rfl (by decide) ?_
                refine o_caload B179 339 340 A179 2 (q0_52 x0 x1 x2 x3) at_339 rfl (by decide) (by decide) (by decide) rfl ?_
                refine o_aload B179 340 342 (v := (.ref a12)) at_340 rfl rfl rfl ?_
                refine o_iconst B179 342 343 (2 : Int32) at_342 rfl (by decide) ?_
                refine o_caload B179 343 344 F188 2 (q0_17 x0 x1 x2 x3) at_343 rfl (by decide) (by decide) (by decide) rfl ?_
                by_cases k48 : (q0_52 x0 x1 x2 x3) = (q0_17 x0 x1 x2 x3)
                · refine o_icN B179 344 347 at_344 rfl (XT.ii_ne_f k48) ?_
                  refine o_iconst B179 347 348 (1 : Int32) at_347 rfl (by decide) ?_
                  refine o_goto B179 348 352 at_348 (by decide) (by decide) ?_
                  have y0 : (q0_63 x0 x1 x2 x3) = (1 : Int32) := by simp only [q0_57, q0_58, q0_59, q0_60, q0_61, q0_62, q0_63, if_pos k41, if_pos k42, if_neg k43, if_pos k46, if_neg k47, if_pos k48]
                  rw [y0] at k
                  exact k
                · refine o_icY B179 344 351 at_344 (XT.ii_ne_t k48) (by decide) (by decide) ?_
                  refine o_iconst B179 351 352 (0 : Int32) at_351 rfl (by decide) ?_
                  have y0 : (q0_63 x0 x1 x2 x3) = (0 : Int32) := by simp only [q0_57, q0_58, q0_59, q0_60, q0_61, q0_62, q0_63, if_pos k41, if_pos k42, if_neg k43, if_pos k46, if_neg k47, if_neg k48]
                  rw [y0] at k
                  exact k
            · refine o_icY B179 327 351 at_327 (XT.ii_ne_t k46) (by decide) (by decide) ?_
              refine o_iconst B179 351 352 (0 : Int32) at_351 rfl (by decide) ?_
              have y0 : (q0_63 x0 x1 x2 x3) = (0 : Int32) := by simp only [q0_57, q0_58, q0_59, q0_60, q0_61, q0_62, q0_63, if_pos k41, if_pos k42, if_neg k43, if_neg k46]
              rw [y0] at k
              exact k
        · refine o_icN B179 299 302 at_299 rfl (XT.ii_lt_f k42) ?_
          refine o_aload B179 302 304 (v := (.ref a152)) at_302 rfl rfl rfl ?_
          refine o_iconst B179 304 305 (0 : Int32) at_304 rfl (by decide) ?_
          refine o_caload B179 305 306 A179 0 (q0_46 x0 x1 x2 x3) at_305 rfl (by decide) (by decide) (by decide) rfl ?_
          refine o_aload B179 306 308 (v := (.ref a12)) at_306 rfl rfl rfl ?_
          refine o_iconst B179 308 309 (0 : Int32) at_308 rfl (by decide) ?_
          have F197 := (((((A21.ext E152).other W161 (Nat.ne_of_lt lt155)).other W167 (Nat.ne_of_lt lt155)).other W173 (Nat.ne_of_lt lt155)).other W179 (Nat.ne_of_lt lt155))
          refine o_caload B179 309 310 F197 0 (q0_13 x0 x1 x2 x3) at_309 rfl (by decide) (by decide) (by decide) rfl ?_
          by_cases k49 : (q0_46 x0 x1 x2 x3) = (q0_13 x0 x1 x2 x3)
          · refine o_icN B179 310 313 at_310 rfl (XT.ii_ne_f k49) ?_
            refine o_iload B179 313 315 (v := (q0_3 x0 x1 x2 x3)) at_313 rfl rfl ?_
            refine o_iconst B179 315 316 (2 : Int32) at_315 rfl (by decide) ?_
            by_cases k50 : (q0_3 x0 x1 x2 x3) < (2 : Int32)
            · refine o_icY B179 316 330 at_316 (XT.ii_lt_t k50) (by decide) (by decide) ?_
              refine o_iload B179 330 332 (v := (q0_3 x0 x1 x2 x3)) at_330 rfl rfl ?_
              refine o_iconst B179 332 333 (3 : Int32) at_332 rfl (by decide) ?_
              by_cases k51 : (q0_3 x0 x1 x2 x3) < (3 : Int32)
              · refine o_icY B179 333 347 at_333 (XT.ii_lt_t k51) (by decide) (by decide) ?_
                refine o_iconst B179 347 348 (1 : Int32) at_347 rfl (by decide) ?_
                refine o_goto B179 348 352 at_348 (by decide) (by decide) ?_
                have y0 : (q0_63 x0 x1 x2 x3) = (1 : Int32) := by simp only [q0_57, q0_58, q0_59, q0_60, q0_61, q0_62, q0_63, if_pos k41, if_neg k42, if_pos k49, if_pos k50, if_pos k51]
                rw [y0] at k
                exact k
              · refine o_icN B179 333 336 at_333 rfl (XT.ii_lt_f k51) ?_
                refine o_aload B179 336 338 (v := (.ref a152)) at_336 rfl rfl rfl ?_
                refine o_iconst B179 338 339 (2 : Int32) at_338 rfl (by decide) ?_
                refine o_caload B179 339 340 A179 2 (q0_52 x0 x1 x2 x3) at_339 rfl (by decide) (by decide) (by decide) rfl ?_
                refine o_aload B179 340 342 (v := (.ref a12)) at_340 rfl rfl rfl ?_
                refine o_iconst B179 342 343 (2 : Int32) at_342 rfl (by decide) ?_
                refine o_caload B179 343 344 F197 2 (q0_17 x0 x1 x2 x3) at_343 rfl (by decide) (by decide) (by decide) rfl ?_
                by_cases k52 : (q0_52 x0 x1 x2 x3) = (q0_17 x0 x1 x2 x3)
                · refine o_icN B179 344 347 at_344 rfl (XT.ii_ne_f k52) ?_
                  refine o_iconst B179 347 348 (1 : Int32) at_347 rfl (by decide) ?_
                  refine o_goto B179 348 352 at_348 (by decide) (by decide) ?_
                  have y0 : (q0_63 x0 x1 x2 x3) = (1 : Int32) := by simp only [q0_57, q0_58, q0_59, q0_60, q0_61, q0_62, q0_63, if_pos k41, if_neg k42, if_pos k49, if_pos k50, if_neg k51, if_pos k52]
                  rw [y0] at k
                  exact k
                · refine o_icY B179 344 351 at_344 (XT.ii_ne_t k52) (by decide) (by decide) ?_
                  refine o_iconst B179 351 352 (0 : Int32) at_351 rfl (by decide) ?_
                  have y0 : (q0_63 x0 x1 x2 x3) = (0 : Int32) := by simp only [q0_57, q0_58, q0_59, q0_60, q0_61, q0_62, q0_63, if_pos k41, if_neg k42, if_pos k49, if_pos k50, if_neg k51, if_neg k52]
                  rw [y0] at k
                  exact k
            · refine o_icN B179 316 319 at_316 rfl (XT.ii_lt_f k50) ?_
              refine o_aload B179 319 321 (v := (.ref a152)) at_319 rfl rfl rfl ?_
              refine o_iconst B179 321 322 (1 : Int32) at_321 rfl (by decide) ?_
              refine o_caload B179 322 323 A179 1 (q0_49 x0 x1 x2 x3) at_322 rfl (by decide) (by decide) (by decide) rfl ?_
              refine o_aload B179 323 325 (v := (.ref a12)) at_323 rfl rfl rfl ?_
              refine o_iconst B179 325 326 (1 : Int32) at_325 rfl (by decide) ?_
              refine o_caload B179 326 327 F197 1 (q0_15 x0 x1 x2 x3) at_326 rfl (by decide) (by decide) (by decide) rfl ?_
              by_cases k53 : (q0_49 x0 x1 x2 x3) = (q0_15 x0 x1 x2 x3)
              · refine o_icN B179 327 330 at_327 rfl (XT.ii_ne_f k53) ?_
                refine o_iload B179 330 332 (v := (q0_3 x0 x1 x2 x3)) at_330 rfl rfl ?_
                refine o_iconst B179 332 333 (3 : Int32) at_332 rfl (by decide) ?_
                by_cases k54 : (q0_3 x0 x1 x2 x3) < (3 : Int32)
                · refine o_icY B179 333 347 at_333 (XT.ii_lt_t k54) (by decide) (by decide) ?_
                  refine o_iconst B179 347 348 (1 : Int32) at_347 rfl (by decide) ?_
                  refine o_goto B179 348 352 at_348 (by decide) (by decide) ?_
                  have y0 : (q0_63 x0 x1 x2 x3) = (1 : Int32) := by simp only [q0_57, q0_58, q0_59, q0_60, q0_61, q0_62, q0_63, if_pos k41, if_neg k42, if_pos k49, if_neg k50, if_pos k53, if_pos k54]
                  rw [y0] at k
                  exact k
                · refine o_icN B179 333 336 at_333 rfl (XT.ii_lt_f k54) ?_
                  refine o_aload B179 336 338 (v := (.ref a152)) at_336 rfl rfl rfl ?_
                  refine o_iconst B179 338 339 (2 : Int32) at_338 rfl (by decide) ?_
                  refine o_caload B179 339 340 A179 2 (q0_52 x0 x1 x2 x3) at_339 rfl (by decide) (by decide) (by decide) rfl ?_
                  refine o_aload B179 340 342 (v := (.ref a12)) at_340 rfl rfl rfl ?_
                  refine o_iconst B179 342 343 (2 : Int32) at_342 rfl (by decide) ?_
                  refine o_caload B179 343 344 F197 2 (q0_17 x0 x1 x2 x3) at_343 rfl (by decide) (by decide) (by decide) rfl ?_
                  by_cases k55 : (q0_52 x0 x1 x2 x3) = (q0_17 x0 x1 x2 x3)
                  · refine o_icN B179 344 347 at_344 rfl (XT.ii_ne_f k55) ?_
                    refine o_iconst B179 347 348 (1 : Int32) at_347 rfl (by decide) ?_
                    refine o_goto B179 348 352 at_348 (by decide) (by decide) ?_
                    have y0 : (q0_63 x0 x1 x2 x3) = (1 : Int32) := by simp only [q0_57, q0_58, q0_59, q0_60, q0_61, q0_62, q0_63, if_pos k41, if_neg k42, if_pos k49, if_neg k50, if_pos k53, if_neg k54, if_pos k55]
                    rw [y0] at k
                    exact k
                  · refine o_icY B179 344 351 at_344 (XT.ii_ne_t k55) (by decide) (by decide) ?_
                    refine o_iconst B179 351 352 (0 : Int32) at_351 rfl (by decide) ?_
                    have y0 : (q0_63 x0 x1 x2 x3) = (0 : Int32) := by simp only [q0_57, q0_58, q0_59, q0_60, q0_61, q0_62, q0_63, if_pos k41, if_neg k42, if_pos k49, if_neg k50, if_pos k53, if_neg k54, if_neg k55]
                    rw [y0] at k
                    exact k
              · refine o_icY B179 327 351 at_327 (XT.ii_ne_t k53) (by decide) (by decide) ?_
                refine o_iconst B179 351 352 (0 : Int32) at_351 rfl (by decide) ?_
                have y0 : (q0_63 x0 x1 x2 x3) = (0 : Int32) := by simp only [q0_57, q0_58, q0_59, q0_60, q0_61, q0_62, q0_63, if_pos k41, if_neg k42, if_pos k49, if_neg k50, if_neg k53]
                rw [y0] at k
                exact k
          · refine o_icY B179 310 351 at_310 (XT.ii_ne_t k49) (by decide) (by decide) ?_
            refine o_iconst B179 351 352 (0 : Int32) at_351 rfl (by decide) ?_
            have y0 : (q0_63 x0 x1 x2 x3) = (0 : Int32) := by simp only [q0_57, q0_58, q0_59, q0_60, q0_61, q0_62, q0_63, if_pos k41, if_neg k42, if_neg k49]
            rw [y0] at k
            exact k
      · refine o_icY B179 293 351 at_293 (XT.ii_ne_t k41) (by decide) (by decide) ?_
        refine o_iconst B179 351 352 (0 : Int32) at_351 rfl (by decide) ?_
        have y0 : (q0_63 x0 x1 x2 x3) = (0 : Int32) := by simp only [q0_57, q0_58, q0_59, q0_60, q0_61, q0_62, q0_63, if_neg k41]
        rw [y0] at k
        exact k
    refine dm40 ?_
    refine o_istore B179 352 354 (l' := #[vj x0, s2, vj x1, s2, vj x2, s2, vi x3, vi (q0_1 x0 x1 x2 x3), vi (q0_2 x0 x1 x2 x3), vi (q0_3 x0 x1 x2 x3), vi 1, vi (f1 x3 (7 : Int32)), vi (f1 x3 (12 : Int32)), vr a3, vr a12, vr a12, vi (q0_44 x0 x1 x2 x3), vr a152, vi (q0_63 x0 x1 x2 x3), us, us, us]) at_352 rfl rfl ?_
    obtain ⟨a213, T213, h213, z213, B213, E213, X213, D213, c213⟩ := o_new B179 354 357 at_354 rfl (hw _ (mi 8 rfl)) (hw _ (mi 9 rfl)) (hw _ (mi 10 rfl)) (by decide) (by decide) (Ls := #[vj x0, s2, vj x1, s2, vj x2, s2, vi x3, vi (q0_1 x0 x1 x2 x3), vi (q0_2 x0 x1 x2 x3), vi (q0_3 x0 x1 x2 x3), vi 1, vi (f1 x3 (7 : Int32)), vi (f1 x3 (12 : Int32)), vr a3, vr a12, vr a12, vi (q0_44 x0 x1 x2 x3), vr a152, vi (q0_63 x0 x1 x2 x3), us, us, us]) (rest := [])
    have F214 := (((((F153.ext E152).other W161 (Nat.ne_of_lt lt154)).other W167 (Nat.ne_of_lt lt154)).other W173 (Nat.ne_of_lt lt154)).other W179 (Nat.ne_of_lt lt154))
    have lt215 : (a3 : Nat) < a213 := by rw [z213]; exact F214.lt
    have F216 := (((((A21.ext E152).other W161 (Nat.ne_of_lt lt155)).other W167 (Nat.ne_of_lt lt155)).other W173 (Nat.ne_of_lt lt155)).other W179 (Nat.ne_of_lt lt155))
    have lt217 : (a12 : Nat) < a213 := by rw [z213]; exact F216.lt
    have lt218 : (a152 : Nat) < a213 := by rw [z213]; exact A179.lt
    have g213 : n0 ≤ a213 := by rw [z213]; exact (W179.size ▸ (W173.size ▸ (W167.size ▸ (W161.size ▸ s152))))
    have s213 : n0 ≤ h213.size := Nat.le_trans (W179.size ▸ (W173.size ▸ (W167.size ▸ (W161.size ▸ s152)))) E213.1
    have F219 : Fld Z h213 a213 "com/example/micro_ranker/microranker/engine/Texts" "narrow" "[B" .null := D213 (Or.inl (hw _ (mi 23 rfl))) (ty := (.array .byte)) (by decide)
    have F220 : Fld Z h213 a213 "com/example/micro_ranker/microranker/engine/Texts" "characters" "[C" .null := D213 (Or.inl (hw _ (mi 25 rfl))) (ty := (.array .char)) (by decide)
    have F221 : Fld Z h213 a213 "com/example/micro_ranker/microranker/engine/Texts" "starts" "[I" .null := D213 (Or.inl (hw _ (mi 27 rfl))) (ty := (.array .int)) (by decide)
    have F222 : Fld Z h213 a213 "com/example/micro_ranker/microranker/engine/Texts" "size" "I" (.int (0 : Int32)) := D213 (Or.inl (hw _ (mi 29 rfl))) (ty := .int) (by decide)
    refine c213 ?_
    refine o_dup B213 357 358 at_357 rfl rfl ?_
    have F223 := (F214.ext E213)
    have F224 := (F216.ext E213)
    have F225 := (A179.ext E213)
    obtain ⟨v226, T226, L226, B226, Q226, c226⟩ := o_callN B213 358 361 at_358 rfl rfl (hw _ (mi 11 rfl)) (hw _ (mi 12 rfl)) (hw _ (mi 10 rfl)) (hw _ (mi 13 rfl)) (by decide) (rm3 l Z a0 hw a213 h213 n0 s213 g213 X213 F219 F220 F221 F222) 1 [] [(.ref a213)] pd___V rfl rfl (st := [(.ref a213), (.ref a213)]) rfl (Ls := #[vj x0, s2, vj x1, s2, vj x2, s2, vi x3, vi (q0_1 x0 x1 x2 x3), vi (q0_2 x0 x1 x2 x3), vi (q0_3 x0 x1 x2 x3), vi 1, vi (f1 x3 (7 : Int32)), vi (f1 x3 (12 : Int32)), vr a3, vr a12, vr a12, vi (q0_44 x0 x1 x2 x3), vr a152, vi (q0_63 x0 x1 x2 x3), us, us, us]) rfl (Nat.le_of_eq rfl) (by decide) (by decide) (by decide) (by decide)
    obtain ⟨rfl, M226, K226, yn226, ys226, gn226, gs226, zn226, zs226, nq226, H226_1, H226_2, H226_3, H226_4, J226_n, J226_s⟩ := Q226
    have N226 := Fr.app N179 M226
    have s226 : n0 ≤ T226.heap.size := Nat.le_trans s213 K226.1
    have lt227 : (a3 : Nat) < yn226 := Nat.lt_of_lt_of_le F223.lt zn226
    have lt228 : (a12 : Nat) < yn226 := Nat.lt_of_lt_of_le F224.lt zn226
    have lt229 : (a152 : Nat) < yn226 := Nat.lt_of_lt_of_le F225.lt zn226
    have lt230 : (a213 : Nat) < yn226 := Nat.lt_of_lt_of_le X213.lt zn226
    have lt231 : (a3 : Nat) < ys226 := Nat.lt_of_lt_of_le F223.lt zs226
    have lt232 : (a12 : Nat) < ys226 := Nat.lt_of_lt_of_le F224.lt zs226
    have lt233 : (a152 : Nat) < ys226 := Nat.lt_of_lt_of_le F225.lt zs226
    have lt234 : (a213 : Nat) < ys226 := Nat.lt_of_lt_of_le X213.lt zs226
    refine c226 ?_
    show OG p.tables e below _ (T226.setTop (mkF m 361 #[vj x0, s2, vj x1, s2, vj x2, s2, vi x3, vi (q0_1 x0 x1 x2 x3), vi (q0_2 x0 x1 x2 x3), vi (q0_3 x0 x1 x2 x3), vi 1, vi (f1 x3 (7 : Int32)), vi (f1 x3 (12 : Int32)), vr a3, vr a12, vr a12, vi (q0_44 x0 x1 x2 x3), vr a152, vi (q0_63 x0 x1 x2 x3), us, us, us] [(.ref a213)]))
    refine o_astore B226 361 363 (l' := #[vj x0, s2, vj x1, s2, vj x2, s2, vi x3, vi (q0_1 x0 x1 x2 x3), vi (q0_2 x0 x1 x2 x3), vi (q0_3 x0 x1 x2 x3), vi 1, vi (f1 x3 (7 : Int32)), vi (f1 x3 (12 : Int32)), vr a3, vr a12, vr a12, vi (q0_44 x0 x1 x2 x3), vr a152, vi (q0_63 x0 x1 x2 x3), vr a213, us, us]) at_361 rfl rfl rfl ?_
    refine o_aload B226 363 365 (v := (.ref a213)) at_363 rfl rfl rfl ?_
    refine o_aload B226 365 367 (v := (.ref a3)) at_365 rfl rfl rfl ?_
    refine o_iload B226 367 369 (v := (q0_1 x0 x1 x2 x3)) at_367 rfl rfl ?_
    by_cases k56 : f7 (w0_12 x0 x1 x2 x3) (q0_1 x0 x1 x2 x3) = 0
    · have F235 := (F223.keep K226 (ninS (Nat.ne_of_lt lt215) nin0))
      have F236 := (F224.keep K226 (ninS (Nat.ne_of_lt lt217) nin0))
      have F237 := (F225.keep K226 (ninS (Nat.ne_of_lt lt218) nin0))
      have F238 := (X213.keep K226)
      obtain ⟨v239, T239, L239, B239, Q239, c239⟩ := o_callV B226 369 372 at_369 rfl (hw _ (mi 30 rfl)) (hw _ (mi 31 rfl)) (hw _ (mi 33 rfl)) (hw _ (mi 32 rfl)) (hw _ (mi 10 rfl)) (hw _ (mi 34 rfl)) (by decide) F238 (rm6_NW l Z a0 hw a213 a3 yn226 ys226 own_z0 own_z0 (w0_12 x0 x1 x2 x3) (0 : Int32) (q0_1 x0 x1 x2 x3) T226.heap n0 s226 g213 gs226 F238 H226_1 H226_2 H226_3 H226_4 J226_n J226_s F235 (Nat.ne_of_lt lt230) (Nat.ne_of_lt lt234) (Ne.symm (Nat.ne_of_lt lt215)) nq226 (Nat.ne_of_lt lt227) (Nat.ne_of_lt lt231) (own_hs0 x0 x1 x2 x3) (own_ft0 x0 x1 x2 x3) k56) 0 [(.ref a3), (.int (q0_1 x0 x1 x2 x3))] [] pd___CI_I rfl rfl (st := [(.int (q0_1 x0 x1 x2 x3)), (.ref a3), (.ref a213)]) rfl (Ls := #[vj x0, s2, vj x1, s2, vj x2, s2, vi x3, vi (q0_1 x0 x1 x2 x3), vi (q0_2 x0 x1 x2 x3), vi (q0_3 x0 x1 x2 x3), vi 1, vi (f1 x3 (7 : Int32)), vi (f1 x3 (12 : Int32)), vr a3, vr a12, vr a12, vi (q0_44 x0 x1 x2 x3), vr a152, vi (q0_63 x0 x1 x2 x3), vr a213, us, us]) rfl (Nat.le_of_eq rfl) (by decide) (by decide) (by decide) (by decide)
      obtain ⟨rfl, M239, K239, b239, gb239, zb239, H239_1, H239_2, H239_3, H239_4, J239_n, J239_s⟩ := Q239
      have N239 := Fr.app N226 M239
      have s239 : n0 ≤ T239.heap.size := Nat.le_trans s226 K239.1
      have H239_5 : Fld Z T239.heap a213 "com/example/micro_ranker/microranker/engine/Texts" "size" "I" (.int (1 : Int32)) := H239_4
      have lt240 : (a3 : Nat) < b239 := Nat.lt_of_lt_of_le F235.lt zb239
      have lt241 : (a12 : Nat) < b239 := Nat.lt_of_lt_of_le F236.lt zb239
      have lt242 : (a152 : Nat) < b239 := Nat.lt_of_lt_of_le F237.lt zb239
      have lt243 : (a213 : Nat) < b239 := Nat.lt_of_lt_of_le F238.lt zb239
      have lt244 : (yn226 : Nat) < b239 := Nat.lt_of_lt_of_le J226_n.lt zb239
      have lt245 : (ys226 : Nat) < b239 := Nat.lt_of_lt_of_le J226_s.lt zb239
      refine c239 ?_
      show OG p.tables e below _ (T239.setTop (mkF m 372 #[vj x0, s2, vj x1, s2, vj x2, s2, vi x3, vi (q0_1 x0 x1 x2 x3), vi (q0_2 x0 x1 x2 x3), vi (q0_3 x0 x1 x2 x3), vi 1, vi (f1 x3 (7 : Int32)), vi (f1 x3 (12 : Int32)), vr a3, vr a12, vr a12, vi (q0_44 x0 x1 x2 x3), vr a152, vi (q0_63 x0 x1 x2 x3), vr a213, us, us] [(.int (0 : Int32))]))
      refine o_istore B239 372 374 (l' := #[vj x0, s2, vj x1, s2, vj x2, s2, vi x3, vi (q0_1 x0 x1 x2 x3), vi (q0_2 x0 x1 x2 x3), vi (q0_3 x0 x1 x2 x3), vi 1, vi (f1 x3 (7 : Int32)), vi (f1 x3 (12 : Int32)), vr a3, vr a12, vr a12, vi (q0_44 x0 x1 x2 x3), vr a152, vi (q0_63 x0 x1 x2 x3), vr a213, vi 0, us]) at_372 rfl rfl ?_
      refine o_aload B239 374 376 (v := (.ref a213)) at_374 rfl rfl rfl ?_
      refine o_aload B239 376 378 (v := (.ref a12)) at_376 rfl rfl rfl ?_
      refine o_iload B239 378 380 (v := (q0_2 x0 x1 x2 x3)) at_378 rfl rfl ?_
      have F246 := (F235.keep K239 (ninS (Nat.ne_of_lt lt215) (ninS (Nat.ne_of_lt lt231) nin0)))
      have F247 := (F236.keep K239 (ninS (Nat.ne_of_lt lt217) (ninS (Nat.ne_of_lt lt232) nin0)))
      have F248 := (F237.keep K239 (ninS (Nat.ne_of_lt lt218) (ninS (Nat.ne_of_lt lt233) nin0)))
      have F249 := (F238.keep K239)
      have F250 := (J226_n.keep K239 (ninS (Ne.symm (Nat.ne_of_lt lt230)) (ninS nq226 nin0)))
      obtain ⟨v251, T251, L251, B251, Q251, c251⟩ := o_callV B239 380 383 at_380 rfl (hw _ (mi 30 rfl)) (hw _ (mi 31 rfl)) (hw _ (mi 33 rfl)) (hw _ (mi 32 rfl)) (hw _ (mi 10 rfl)) (hw _ (mi 34 rfl)) (by decide) F249 (rm6_WW l Z a0 hw a213 a12 b239 ys226 (own_cc (UpI (own_z0 (0 : Int32).toInt.toNat).toInt.toNat (fun j => own_cb (own_z0 j))) (w0_12 x0 x1 x2 x3) (own_z0 (0 : Int32).toInt.toNat).toInt.toNat (q0_1 x0 x1 x2 x3).toInt.toNat) (own_sp own_z0 (0 : Int32) (q0_1 x0 x1 x2 x3)) (w0_20 x0 x1 x2 x3) (1 : Int32) (q0_2 x0 x1 x2 x3) T239.heap n0 s239 g213 gb239 gs226 F249 H239_1 H239_2 H239_3 H239_5 J239_n J239_s F247 (Nat.ne_of_lt lt243) (Nat.ne_of_lt lt234) (Ne.symm (Nat.ne_of_lt lt217)) (Ne.symm (Nat.ne_of_lt lt245)) (Nat.ne_of_lt lt241) (Nat.ne_of_lt lt232) (own_hs1 x0 x1 x2 x3) (own_ft1 x0 x1 x2 x3) (own_fw x0 x1 x2 x3)) 0 [(.ref a12), (.int (q0_2 x0 x1 x2 x3))] [] pd___CI_I rfl rfl (st := [(.int (q0_2 x0 x1 x2 x3)), (.ref a12), (.ref a213)]) rfl (Ls := #[vj x0, s2, vj x1, s2, vj x2, s2, vi x3, vi (q0_1 x0 x1 x2 x3), vi (q0_2 x0 x1 x2 x3), vi (q0_3 x0 x1 x2 x3), vi 1, vi (f1 x3 (7 : Int32)), vi (f1 x3 (12 : Int32)), vr a3, vr a12, vr a12, vi (q0_44 x0 x1 x2 x3), vr a152, vi (q0_63 x0 x1 x2 x3), vr a213, vi 0, us]) rfl (Nat.le_of_eq rfl) (by decide) (by decide) (by decide) (by decide)
      obtain ⟨rfl, M251, K251, H251_1, H251_2, H251_3, H251_4, J251_n, J251_s⟩ := Q251
      have N251 := Fr.app N239 M251
      have s251 : n0 ≤ T251.heap.size := Nat.le_trans s239 K251.1
      have H251_5 : Fld Z T251.heap a213 "com/example/micro_ranker/microranker/engine/Texts" "size" "I" (.int (2 : Int32)) := H251_4
      refine c251 ?_
      show OG p.tables e below _ (T251.setTop (mkF m 383 #[vj x0, s2, vj x1, s2, vj x2, s2, vi x3, vi (q0_1 x0 x1 x2 x3), vi (q0_2 x0 x1 x2 x3), vi (q0_3 x0 x1 x2 x3), vi 1, vi (f1 x3 (7 : Int32)), vi (f1 x3 (12 : Int32)), vr a3, vr a12, vr a12, vi (q0_44 x0 x1 x2 x3), vr a152, vi (q0_63 x0 x1 x2 x3), vr a213, vi 0, us] [(.int (1 : Int32))]))
      refine o_istore B251 383 385 (l' := #[vj x0, s2, vj x1, s2, vj x2, s2, vi x3, vi (q0_1 x0 x1 x2 x3), vi (q0_2 x0 x1 x2 x3), vi (q0_3 x0 x1 x2 x3), vi 1, vi (f1 x3 (7 : Int32)), vi (f1 x3 (12 : Int32)), vr a3, vr a12, vr a12, vi (q0_44 x0 x1 x2 x3), vr a152, vi (q0_63 x0 x1 x2 x3), vr a213, vi 0, vi 1]) at_383 rfl rfl ?_
      refine o_iload B251 385 387 (v := (0 : Int32)) at_385 rfl rfl ?_
      refine o_ifN B251 387 390 at_387 rfl (XT.i0_ne_f (by decide)) ?_
      refine o_iload B251 390 392 (v := (1 : Int32)) at_390 rfl rfl ?_
      refine o_iconst B251 392 393 (1 : Int32) at_392 rfl (by decide) ?_
      refine o_icY B251 393 398 at_393 (XT.ii_eq_t (by decide)) (by decide) (by decide) ?_
      refine o_aload B251 398 400 (v := (.ref a213)) at_398 rfl rfl rfl ?_
      refine o_iload B251 400 402 (v := (1 : Int32)) at_400 rfl rfl ?_
      refine o_aload B251 402 404 (v := (.ref a152)) at_402 rfl rfl rfl ?_
      refine o_iload B251 404 406 (v := (q0_3 x0 x1 x2 x3)) at_404 rfl rfl ?_
      have F252 := (F248.keep K251 (ninS (Nat.ne_of_lt lt218) (ninS (Nat.ne_of_lt lt242) (ninS (Nat.ne_of_lt lt233) nin0))))
      have F253 := (F249.keep K251)
      obtain ⟨T254, B254, c254⟩ := o_callVP B251 406 409 at_406 rfl (hw _ (mi 38 rfl)) (hw _ (mi 39 rfl)) (hw _ (mi 41 rfl)) (hw _ (mi 40 rfl)) (hw _ (mi 10 rfl)) (hw _ (mi 42 rfl)) (by decide) F253 (rm8_W l Z a0 hw a213 (own_sp (own_sp own_z0 (0 : Int32) (q0_1 x0 x1 x2 x3)) (1 : Int32) (q0_2 x0 x1 x2 x3)) (own_cc (own_cc (UpI (own_z0 (0 : Int32).toInt.toNat).toInt.toNat (fun j => own_cb (own_z0 j))) (w0_12 x0 x1 x2 x3) (own_z0 (0 : Int32).toInt.toNat).toInt.toNat (q0_1 x0 x1 x2 x3).toInt.toNat) (w0_20 x0 x1 x2 x3) ((own_sp own_z0 (0 : Int32) (q0_1 x0 x1 x2 x3)) (1 : Int32).toInt.toNat).toInt.toNat (q0_2 x0 x1 x2 x3).toInt.toNat) (w0_56 x0 x1 x2 x3) ys226 b239 (1 : Int32) a152 (q0_3 x0 x1 x2 x3) T251.heap H251_3 H251_1 H251_2 J251_s J251_n F252 (by decide) (own_hg1 x0 x1 x2 x3) (own_q4 x0 x1 x2 x3)) 0 [(.int (1 : Int32)), (.ref a152), (.int (q0_3 x0 x1 x2 x3))] [] pd__I_CI_Z rfl rfl (st := [(.int (q0_3 x0 x1 x2 x3)), (.ref a152), (.int (1 : Int32)), (.ref a213)]) rfl (Ls := #[vj x0, s2, vj x1, s2, vj x2, s2, vi x3, vi (q0_1 x0 x1 x2 x3), vi (q0_2 x0 x1 x2 x3), vi (q0_3 x0 x1 x2 x3), vi 1, vi (f1 x3 (7 : Int32)), vi (f1 x3 (12 : Int32)), vr a3, vr a12, vr a12, vi (q0_44 x0 x1 x2 x3), vr a152, vi (q0_63 x0 x1 x2 x3), vr a213, vi 0, vi 1]) rfl (Nat.le_of_eq rfl) (by decide) (by decide) (by decide) (by decide)
      refine c254 ?_
      refine o_iload B254 409 411 (v := (q0_63 x0 x1 x2 x3)) at_409 rfl rfl ?_
      by_cases k57 : (q0_64 x0 x1 x2 x3) = (q0_63 x0 x1 x2 x3)
      · refine o_icN B254 411 414 at_411 rfl (XT.ii_ne_f k57) ?_
        refine o_iconst B254 414 415 (1 : Int32) at_414 rfl (by decide) ?_
        refine o_goto B254 415 419 at_415 (by decide) (by decide) ?_
        refine o_retZ (t := .boolean) B254 419 at_419 hret hlk (by simp) (by decide) (by decide) ⟨(congrArg (fun z => some (Value.int z)) ((show nar .boolean (1 : Int32) = (1 : Int32) from rfl).trans (show f0 x0 x1 x2 x3 = (1 : Int32) from (if_neg k1).trans ((if_pos k56).trans ((if_pos k57).trans (rfl)))).symm)), N251⟩
      · refine o_icY B254 411 418 at_411 (XT.ii_ne_t k57) (by decide) (by decide) ?_
        refine o_iconst B254 418 419 (0 : Int32) at_418 rfl (by decide) ?_
        refine o_retZ (t := .boolean) B254 419 at_419 hret hlk (by simp) (by decide) (by decide) ⟨(congrArg (fun z => some (Value.int z)) ((show nar .boolean (0 : Int32) = (0 : Int32) from rfl).trans (show f0 x0 x1 x2 x3 = (0 : Int32) from (if_neg k1).trans ((if_pos k56).trans ((if_neg k57).trans (rfl)))).symm)), N251⟩
    · have F255 := (F223.keep K226 (ninS (Nat.ne_of_lt lt215) nin0))
      have F256 := (F224.keep K226 (ninS (Nat.ne_of_lt lt217) nin0))
      have F257 := (F225.keep K226 (ninS (Nat.ne_of_lt lt218) nin0))
      have F258 := (X213.keep K226)
      obtain ⟨v259, T259, L259, B259, Q259, c259⟩ := o_callV B226 369 372 at_369 rfl (hw _ (mi 30 rfl)) (hw _ (mi 31 rfl)) (hw _ (mi 33 rfl)) (hw _ (mi 32 rfl)) (hw _ (mi 10 rfl)) (hw _ (mi 34 rfl)) (by decide) F258 (rm6_NN l Z a0 hw a213 a3 yn226 ys226 own_z0 own_z0 (w0_12 x0 x1 x2 x3) (0 : Int32) (q0_1 x0 x1 x2 x3) T226.heap n0 s226 g213 gn226 gs226 F258 H226_1 H226_2 H226_3 H226_4 J226_n J226_s F255 (Nat.ne_of_lt lt230) (Nat.ne_of_lt lt234) (Ne.symm (Nat.ne_of_lt lt215)) nq226 (Nat.ne_of_lt lt227) (Nat.ne_of_lt lt231) (own_hs0 x0 x1 x2 x3) k56) 0 [(.ref a3), (.int (q0_1 x0 x1 x2 x3))] [] pd___CI_I rfl rfl (st := [(.int (q0_1 x0 x1 x2 x3)), (.ref a3), (.ref a213)]) rfl (Ls := #[vj x0, s2, vj x1, s2, vj x2, s2, vi x3, vi (q0_1 x0 x1 x2 x3), vi (q0_2 x0 x1 x2 x3), vi (q0_3 x0 x1 x2 x3), vi 1, vi (f1 x3 (7 : Int32)), vi (f1 x3 (12 : Int32)), vr a3, vr a12, vr a12, vi (q0_44 x0 x1 x2 x3), vr a152, vi (q0_63 x0 x1 x2 x3), vr a213, us, us]) rfl (Nat.le_of_eq rfl) (by decide) (by decide) (by decide) (by decide)
      obtain ⟨rfl, M259, K259, H259_1, H259_2, H259_3, H259_4, J259_n, J259_s⟩ := Q259
      have N259 := Fr.app N226 M259
      have s259 : n0 ≤ T259.heap.size := Nat.le_trans s226 K259.1
      have H259_5 : Fld Z T259.heap a213 "com/example/micro_ranker/microranker/engine/Texts" "size" "I" (.int (1 : Int32)) := H259_4
      refine c259 ?_
      show OG p.tables e below _ (T259.setTop (mkF m 372 #[vj x0, s2, vj x1, s2, vj x2, s2, vi x3, vi (q0_1 x0 x1 x2 x3), vi (q0_2 x0 x1 x2 x3), vi (q0_3 x0 x1 x2 x3), vi 1, vi (f1 x3 (7 : Int32)), vi (f1 x3 (12 : Int32)), vr a3, vr a12, vr a12, vi (q0_44 x0 x1 x2 x3), vr a152, vi (q0_63 x0 x1 x2 x3), vr a213, us, us] [(.int (0 : Int32))]))
      refine o_istore B259 372 374 (l' := #[vj x0, s2, vj x1, s2, vj x2, s2, vi x3, vi (q0_1 x0 x1 x2 x3), vi (q0_2 x0 x1 x2 x3), vi (q0_3 x0 x1 x2 x3), vi 1, vi (f1 x3 (7 : Int32)), vi (f1 x3 (12 : Int32)), vr a3, vr a12, vr a12, vi (q0_44 x0 x1 x2 x3), vr a152, vi (q0_63 x0 x1 x2 x3), vr a213, vi 0, us]) at_372 rfl rfl ?_
      refine o_aload B259 374 376 (v := (.ref a213)) at_374 rfl rfl rfl ?_
      refine o_aload B259 376 378 (v := (.ref a12)) at_376 rfl rfl rfl ?_
      refine o_iload B259 378 380 (v := (q0_2 x0 x1 x2 x3)) at_378 rfl rfl ?_
      by_cases k58 : f7 (w0_20 x0 x1 x2 x3) (q0_2 x0 x1 x2 x3) = 0
      · have F260 := (F255.keep K259 (ninS (Nat.ne_of_lt lt215) (ninS (Nat.ne_of_lt lt227) (ninS (Nat.ne_of_lt lt231) nin0))))
        have F261 := (F256.keep K259 (ninS (Nat.ne_of_lt lt217) (ninS (Nat.ne_of_lt lt228) (ninS (Nat.ne_of_lt lt232) nin0))))
        have F262 := (F257.keep K259 (ninS (Nat.ne_of_lt lt218) (ninS (Nat.ne_of_lt lt229) (ninS (Nat.ne_of_lt lt233) nin0))))
        have F263 := (F258.keep K259)
        obtain ⟨v264, T264, L264, B264, Q264, c264⟩ := o_callV B259 380 383 at_380 rfl (hw _ (mi 30 rfl)) (hw _ (mi 31 rfl)) (hw _ (mi 33 rfl)) (hw _ (mi 32 rfl)) (hw _ (mi 10 rfl)) (hw _ (mi 34 rfl)) (by decide) F263 (rm6_NW l Z a0 hw a213 a12 yn226 ys226 (own_nn own_z0 (w0_12 x0 x1 x2 x3) (own_z0 (0 : Int32).toInt.toNat).toInt.toNat (q0_1 x0 x1 x2 x3).toInt.toNat) (own_sp own_z0 (0 : Int32) (q0_1 x0 x1 x2 x3)) (w0_20 x0 x1 x2 x3) (1 : Int32) (q0_2 x0 x1 x2 x3) T259.heap n0 s259 g213 gs226 F263 H259_1 H259_2 H259_3 H259_5 J259_n J259_s F261 (Nat.ne_of_lt lt230) (Nat.ne_of_lt lt234) (Ne.symm (Nat.ne_of_lt lt217)) nq226 (Nat.ne_of_lt lt228) (Nat.ne_of_lt lt232) (own_hs1 x0 x1 x2 x3) (own_ft1 x0 x1 x2 x3) k58) 0 [(.ref a12), (.int (q0_2 x0 x1 x2 x3))] [] pd___CI_I rfl rfl (st := [(.int (q0_2 x0 x1 x2 x3)), (.ref a12), (.ref a213)]) rfl (Ls := #[vj x0, s2, vj x1, s2, vj x2, s2, vi x3, vi (q0_1 x0 x1 x2 x3), vi (q0_2 x0 x1 x2 x3), vi (q0_3 x0 x1 x2 x3), vi 1, vi (f1 x3 (7 : Int32)), vi (f1 x3 (12 : Int32)), vr a3, vr a12, vr a12, vi (q0_44 x0 x1 x2 x3), vr a152, vi (q0_63 x0 x1 x2 x3), vr a213, vi 0, us]) rfl (Nat.le_of_eq rfl) (by decide) (by decide) (by decide) (by decide)
        obtain ⟨rfl, M264, K264, b264, gb264, zb264, H264_1, H264_2, H264_3, H264_4, J264_n, J264_s⟩ := Q264
        have N264 := Fr.app N259 M264
        have s264 : n0 ≤ T264.heap.size := Nat.le_trans s259 K264.1
        have H264_5 : Fld Z T264.heap a213 "com/example/micro_ranker/microranker/engine/Texts" "size" "I" (.int (2 : Int32)) := H264_4
        have lt265 : (a3 : Nat) < b264 := Nat.lt_of_lt_of_le F260.lt zb264
        have lt266 : (a12 : Nat) < b264 := Nat.lt_of_lt_of_le F261.lt zb264
        have lt267 : (a152 : Nat) < b264 := Nat.lt_of_lt_of_le F262.lt zb264
        have lt268 : (a213 : Nat) < b264 := Nat.lt_of_lt_of_le F263.lt zb264
        have lt269 : (yn226 : Nat) < b264 := Nat.lt_of_lt_of_le J259_n.lt zb264
        have lt270 : (ys226 : Nat) < b264 := Nat.lt_of_lt_of_le J259_s.lt zb264
        refine c264 ?_
        show OG p.tables e below _ (T264.setTop (mkF m 383 #[vj x0, s2, vj x1, s2, vj x2, s2, vi x3, vi (q0_1 x0 x1 x2 x3), vi (q0_2 x0 x1 x2 x3), vi (q0_3 x0 x1 x2 x3), vi 1, vi (f1 x3 (7 : Int32)), vi (f1 x3 (12 : Int32)), vr a3, vr a12, vr a12, vi (q0_44 x0 x1 x2 x3), vr a152, vi (q0_63 x0 x1 x2 x3), vr a213, vi 0, us] [(.int (1 : Int32))]))
        refine o_istore B264 383 385 (l' := #[vj x0, s2, vj x1, s2, vj x2, s2, vi x3, vi (q0_1 x0 x1 x2 x3), vi (q0_2 x0 x1 x2 x3), vi (q0_3 x0 x1 x2 x3), vi 1, vi (f1 x3 (7 : Int32)), vi (f1 x3 (12 : Int32)), vr a3, vr a12, vr a12, vi (q0_44 x0 x1 x2 x3), vr a152, vi (q0_63 x0 x1 x2 x3), vr a213, vi 0, vi 1]) at_383 rfl rfl ?_
        refine o_iload B264 385 387 (v := (0 : Int32)) at_385 rfl rfl ?_
        refine o_ifN B264 387 390 at_387 rfl (XT.i0_ne_f (by decide)) ?_
        refine o_iload B264 390 392 (v := (1 : Int32)) at_390 rfl rfl ?_
        refine o_iconst B264 392 393 (1 : Int32) at_392 rfl (by decide) ?_
        refine o_icY B264 393 398 at_393 (XT.ii_eq_t (by decide)) (by decide) (by decide) ?_
        refine o_aload B264 398 400 (v := (.ref a213)) at_398 rfl rfl rfl ?_
        refine o_iload B264 400 402 (v := (1 : Int32)) at_400 rfl rfl ?_
        refine o_aload B264 402 404 (v := (.ref a152)) at_402 rfl rfl rfl ?_
        refine o_iload B264 404 406 (v := (q0_3 x0 x1 x2 x3)) at_404 rfl rfl ?_
        have F271 := (F262.keep K264 (ninS (Nat.ne_of_lt lt218) (ninS (Nat.ne_of_lt lt233) nin0)))
        have F272 := (F263.keep K264)
        obtain ⟨T273, B273, c273⟩ := o_callVP B264 406 409 at_406 rfl (hw _ (mi 38 rfl)) (hw _ (mi 39 rfl)) (hw _ (mi 41 rfl)) (hw _ (mi 40 rfl)) (hw _ (mi 10 rfl)) (hw _ (mi 42 rfl)) (by decide) F272 (rm8_W l Z a0 hw a213 (own_sp (own_sp own_z0 (0 : Int32) (q0_1 x0 x1 x2 x3)) (1 : Int32) (q0_2 x0 x1 x2 x3)) (own_cc (UpI ((own_sp own_z0 (0 : Int32) (q0_1 x0 x1 x2 x3)) (1 : Int32).toInt.toNat).toInt.toNat (fun j => own_cb ((own_nn own_z0 (w0_12 x0 x1 x2 x3) (own_z0 (0 : Int32).toInt.toNat).toInt.toNat (q0_1 x0 x1 x2 x3).toInt.toNat) j))) (w0_20 x0 x1 x2 x3) ((own_sp own_z0 (0 : Int32) (q0_1 x0 x1 x2 x3)) (1 : Int32).toInt.toNat).toInt.toNat (q0_2 x0 x1 x2 x3).toInt.toNat) (w0_56 x0 x1 x2 x3) ys226 b264 (1 : Int32) a152 (q0_3 x0 x1 x2 x3) T264.heap H264_3 H264_1 H264_2 J264_s J264_n F271 (by decide) (own_hg1 x0 x1 x2 x3) (own_q4 x0 x1 x2 x3)) 0 [(.int (1 : Int32)), (.ref a152), (.int (q0_3 x0 x1 x2 x3))] [] pd__I_CI_Z rfl rfl (st := [(.int (q0_3 x0 x1 x2 x3)), (.ref a152), (.int (1 : Int32)), (.ref a213)]) rfl (Ls := #[vj x0, s2, vj x1, s2, vj x2, s2, vi x3, vi (q0_1 x0 x1 x2 x3), vi (q0_2 x0 x1 x2 x3), vi (q0_3 x0 x1 x2 x3), vi 1, vi (f1 x3 (7 : Int32)), vi (f1 x3 (12 : Int32)), vr a3, vr a12, vr a12, vi (q0_44 x0 x1 x2 x3), vr a152, vi (q0_63 x0 x1 x2 x3), vr a213, vi 0, vi 1]) rfl (Nat.le_of_eq rfl) (by decide) (by decide) (by decide) (by decide)
        refine c273 ?_
        refine o_iload B273 409 411 (v := (q0_63 x0 x1 x2 x3)) at_409 rfl rfl ?_
        by_cases k59 : (q0_65 x0 x1 x2 x3) = (q0_63 x0 x1 x2 x3)
        · refine o_icN B273 411 414 at_411 rfl (XT.ii_ne_f k59) ?_
          refine o_iconst B273 414 415 (1 : Int32) at_414 rfl (by decide) ?_
          refine o_goto B273 415 419 at_415 (by decide) (by decide) ?_
          refine o_retZ (t := .boolean) B273 419 at_419 hret hlk (by simp) (by decide) (by decide) ⟨(congrArg (fun z => some (Value.int z)) ((show nar .boolean (1 : Int32) = (1 : Int32) from rfl).trans (show f0 x0 x1 x2 x3 = (1 : Int32) from (if_neg k1).trans ((if_neg k56).trans ((if_pos k58).trans ((if_pos k59).trans (rfl))))).symm)), N264⟩
        · refine o_icY B273 411 418 at_411 (XT.ii_ne_t k59) (by decide) (by decide) ?_
          refine o_iconst B273 418 419 (0 : Int32) at_418 rfl (by decide) ?_
          refine o_retZ (t := .boolean) B273 419 at_419 hret hlk (by simp) (by decide) (by decide) ⟨(congrArg (fun z => some (Value.int z)) ((show nar .boolean (0 : Int32) = (0 : Int32) from rfl).trans (show f0 x0 x1 x2 x3 = (0 : Int32) from (if_neg k1).trans ((if_neg k56).trans ((if_pos k58).trans ((if_neg k59).trans (rfl))))).symm)), N264⟩
      · have F274 := (F255.keep K259 (ninS (Nat.ne_of_lt lt215) (ninS (Nat.ne_of_lt lt227) (ninS (Nat.ne_of_lt lt231) nin0))))
        have F275 := (F256.keep K259 (ninS (Nat.ne_of_lt lt217) (ninS (Nat.ne_of_lt lt228) (ninS (Nat.ne_of_lt lt232) nin0))))
        have F276 := (F257.keep K259 (ninS (Nat.ne_of_lt lt218) (ninS (Nat.ne_of_lt lt229) (ninS (Nat.ne_of_lt lt233) nin0))))
        have F277 := (F258.keep K259)
        obtain ⟨v278, T278, L278, B278, Q278, c278⟩ := o_callV B259 380 383 at_380 rfl (hw _ (mi 30 rfl)) (hw _ (mi 31 rfl)) (hw _ (mi 33 rfl)) (hw _ (mi 32 rfl)) (hw _ (mi 10 rfl)) (hw _ (mi 34 rfl)) (by decide) F277 (rm6_NN l Z a0 hw a213 a12 yn226 ys226 (own_nn own_z0 (w0_12 x0 x1 x2 x3) (own_z0 (0 : Int32).toInt.toNat).toInt.toNat (q0_1 x0 x1 x2 x3).toInt.toNat) (own_sp own_z0 (0 : Int32) (q0_1 x0 x1 x2 x3)) (w0_20 x0 x1 x2 x3) (1 : Int32) (q0_2 x0 x1 x2 x3) T259.heap n0 s259 g213 gn226 gs226 F277 H259_1 H259_2 H259_3 H259_5 J259_n J259_s F275 (Nat.ne_of_lt lt230) (Nat.ne_of_lt lt234) (Ne.symm (Nat.ne_of_lt lt217)) nq226 (Nat.ne_of_lt lt228) (Nat.ne_of_lt lt232) (own_hs1 x0 x1 x2 x3) k58) 0 [(.ref a12), (.int (q0_2 x0 x1 x2 x3))] [] pd___CI_I rfl rfl (st := [(.int (q0_2 x0 x1 x2 x3)), (.ref a12), (.ref a213)]) rfl (Ls := #[vj x0, s2, vj x1, s2, vj x2, s2, vi x3, vi (q0_1 x0 x1 x2 x3), vi (q0_2 x0 x1 x2 x3), vi (q0_3 x0 x1 x2 x3), vi 1, vi (f1 x3 (7 : Int32)), vi (f1 x3 (12 : Int32)), vr a3, vr a12, vr a12, vi (q0_44 x0 x1 x2 x3), vr a152, vi (q0_63 x0 x1 x2 x3), vr a213, vi 0, us]) rfl (Nat.le_of_eq rfl) (by decide) (by decide) (by decide) (by decide)
        obtain ⟨rfl, M278, K278, H278_1, H278_2, H278_3, H278_4, J278_n, J278_s⟩ := Q278
        have N278 := Fr.app N259 M278
        have s278 : n0 ≤ T278.heap.size := Nat.le_trans s259 K278.1
        have H278_5 : Fld Z T278.heap a213 "com/example/micro_ranker/microranker/engine/Texts" "size" "I" (.int (2 : Int32)) := H278_4
        refine c278 ?_
        show OG p.tables e below _ (T278.setTop (mkF m 383 #[vj x0, s2, vj x1, s2, vj x2, s2, vi x3, vi (q0_1 x0 x1 x2 x3), vi (q0_2 x0 x1 x2 x3), vi (q0_3 x0 x1 x2 x3), vi 1, vi (f1 x3 (7 : Int32)), vi (f1 x3 (12 : Int32)), vr a3, vr a12, vr a12, vi (q0_44 x0 x1 x2 x3), vr a152, vi (q0_63 x0 x1 x2 x3), vr a213, vi 0, us] [(.int (1 : Int32))]))
        refine o_istore B278 383 385 (l' := #[vj x0, s2, vj x1, s2, vj x2, s2, vi x3, vi (q0_1 x0 x1 x2 x3), vi (q0_2 x0 x1 x2 x3), vi (q0_3 x0 x1 x2 x3), vi 1, vi (f1 x3 (7 : Int32)), vi (f1 x3 (12 : Int32)), vr a3, vr a12, vr a12, vi (q0_44 x0 x1 x2 x3), vr a152, vi (q0_63 x0 x1 x2 x3), vr a213, vi 0, vi 1]) at_383 rfl rfl ?_
        refine o_iload B278 385 387 (v := (0 : Int32)) at_385 rfl rfl ?_
        refine o_ifN B278 387 390 at_387 rfl (XT.i0_ne_f (by decide)) ?_
        refine o_iload B278 390 392 (v := (1 : Int32)) at_390 rfl rfl ?_
        refine o_iconst B278 392 393 (1 : Int32) at_392 rfl (by decide) ?_
        refine o_icY B278 393 398 at_393 (XT.ii_eq_t (by decide)) (by decide) (by decide) ?_
        refine o_aload B278 398 400 (v := (.ref a213)) at_398 rfl rfl rfl ?_
        refine o_iload B278 400 402 (v := (1 : Int32)) at_400 rfl rfl ?_
        refine o_aload B278 402 404 (v := (.ref a152)) at_402 rfl rfl rfl ?_
        refine o_iload B278 404 406 (v := (q0_3 x0 x1 x2 x3)) at_404 rfl rfl ?_
        have F279 := (F276.keep K278 (ninS (Nat.ne_of_lt lt218) (ninS (Nat.ne_of_lt lt229) (ninS (Nat.ne_of_lt lt233) nin0))))
        have F280 := (F277.keep K278)
        obtain ⟨T281, B281, c281⟩ := o_callVP B278 406 409 at_406 rfl (hw _ (mi 38 rfl)) (hw _ (mi 39 rfl)) (hw _ (mi 41 rfl)) (hw _ (mi 40 rfl)) (hw _ (mi 10 rfl)) (hw _ (mi 42 rfl)) (by decide) F280 (rm8_N l Z a0 hw a213 (own_sp (own_sp own_z0 (0 : Int32) (q0_1 x0 x1 x2 x3)) (1 : Int32) (q0_2 x0 x1 x2 x3)) (own_nn (own_nn own_z0 (w0_12 x0 x1 x2 x3) (own_z0 (0 : Int32).toInt.toNat).toInt.toNat (q0_1 x0 x1 x2 x3).toInt.toNat) (w0_20 x0 x1 x2 x3) ((own_sp own_z0 (0 : Int32) (q0_1 x0 x1 x2 x3)) (1 : Int32).toInt.toNat).toInt.toNat (q0_2 x0 x1 x2 x3).toInt.toNat) (w0_56 x0 x1 x2 x3) ys226 yn226 (1 : Int32) a152 (q0_3 x0 x1 x2 x3) T278.heap H278_3 H278_1 J278_s J278_n F279 (by decide) (own_hg1 x0 x1 x2 x3) (own_q4 x0 x1 x2 x3)) 0 [(.int (1 : Int32)), (.ref a152), (.int (q0_3 x0 x1 x2 x3))] [] pd__I_CI_Z rfl rfl (st := [(.int (q0_3 x0 x1 x2 x3)), (.ref a152), (.int (1 : Int32)), (.ref a213)]) rfl (Ls := #[vj x0, s2, vj x1, s2, vj x2, s2, vi x3, vi (q0_1 x0 x1 x2 x3), vi (q0_2 x0 x1 x2 x3), vi (q0_3 x0 x1 x2 x3), vi 1, vi (f1 x3 (7 : Int32)), vi (f1 x3 (12 : Int32)), vr a3, vr a12, vr a12, vi (q0_44 x0 x1 x2 x3), vr a152, vi (q0_63 x0 x1 x2 x3), vr a213, vi 0, vi 1]) rfl (Nat.le_of_eq rfl) (by decide) (by decide) (by decide) (by decide)
        refine c281 ?_
        refine o_iload B281 409 411 (v := (q0_63 x0 x1 x2 x3)) at_409 rfl rfl ?_
        by_cases k60 : (q0_66 x0 x1 x2 x3) = (q0_63 x0 x1 x2 x3)
        · refine o_icN B281 411 414 at_411 rfl (XT.ii_ne_f k60) ?_
          refine o_iconst B281 414 415 (1 : Int32) at_414 rfl (by decide) ?_
          refine o_goto B281 415 419 at_415 (by decide) (by decide) ?_
          refine o_retZ (t := .boolean) B281 419 at_419 hret hlk (by simp) (by decide) (by decide) ⟨(congrArg (fun z => some (Value.int z)) ((show nar .boolean (1 : Int32) = (1 : Int32) from rfl).trans (show f0 x0 x1 x2 x3 = (1 : Int32) from (if_neg k1).trans ((if_neg k56).trans ((if_neg k58).trans ((if_pos k60).trans (rfl))))).symm)), N278⟩
        · refine o_icY B281 411 418 at_411 (XT.ii_ne_t k60) (by decide) (by decide) ?_
          refine o_iconst B281 418 419 (0 : Int32) at_418 rfl (by decide) ?_
          refine o_retZ (t := .boolean) B281 419 at_419 hret hlk (by simp) (by decide) (by decide) ⟨(congrArg (fun z => some (Value.int z)) ((show nar .boolean (0 : Int32) = (0 : Int32) from rfl).trans (show f0 x0 x1 x2 x3 = (0 : Int32) from (if_neg k1).trans ((if_neg k56).trans ((if_neg k58).trans ((if_neg k60).trans (rfl))))).symm)), N278⟩
def own_e3 (c t2 n : Int32) : Int32 := if n < 3 then 1 else (if c = t2 then 1 else 0)
def own_e2 (b c t1 t2 n : Int32) : Int32 := if n < 2 then own_e3 c t2 n else (if b = t1 then own_e3 c t2 n else 0)
def own_ex (a b c t0 t1 t2 n tl : Int32) : Int32 := if n = tl then (if n < 1 then own_e2 b c t1 t2 n else (if a = t0 then own_e2 b c t1 t2 n else 0)) else 0
theorem own_ex0 (a b c t0 t1 t2 tl : Int32) : own_ex a b c t0 t1 t2 0 tl = if 0 = tl then 1 else 0 := rfl
theorem own_ex1 (a b c t0 t1 t2 tl : Int32) : own_ex a b c t0 t1 t2 1 tl = if 1 = tl then (if a = t0 then 1 else 0) else 0 := rfl
theorem own_ex2 (a b c t0 t1 t2 tl : Int32) : own_ex a b c t0 t1 t2 2 tl = if 2 = tl then (if a = t0 then (if b = t1 then 1 else 0) else 0) else 0 := rfl
theorem own_ex3 (a b c t0 t1 t2 tl : Int32) : own_ex a b c t0 t1 t2 3 tl = if 3 = tl then (if a = t0 then (if b = t1 then (if c = t2 then 1 else 0) else 0) else 0) else 0 := rfl
theorem own_ic {x y : Int32} {a b : Int32} : (if x = y then a else b) = if y = x then a else b := by
  by_cases h : x = y
  · rw [if_pos h, if_pos h.symm]
  · rw [if_neg h, if_neg (Ne.symm h)]
theorem own_mN (gs gn gq T : Nat → Int32) (x0 x2 tl : Int32) (hx : W4 x2) (hd : gs (x0.toInt.toNat + 1) - gs x0.toInt.toNat = tl) (hT : ∀ i : Nat, i < tl.toInt.toNat → (gn ((gs x0.toInt.toNat).toInt.toNat + i) &&& (255 : Int32)) = T i) : f8_N gs gn gq x0 x2 = own_ex (gq 0) (gq 1) (gq 2) (T 0) (T 1) (T 2) x2 tl := by
  rcases own_w4 hx with rfl | rfl | rfl | rfl
  · rw [show f8_N gs gn gq x0 0 = f8_N0 gs gn gq x0 from if_pos rfl, own_ex0]
    unfold f8_N0
    rw [hd]
    by_cases e : (0 : Int32) = tl
    · subst e
      rw [if_pos rfl]
    · rw [if_neg e, if_neg (fun q => e q.symm)]
  · rw [show f8_N gs gn gq x0 1 = f8_N1 gs gn gq x0 from (if_neg (by decide)).trans (if_pos rfl), own_ex1]
    unfold f8_N1
    rw [hd]
    by_cases e : (1 : Int32) = tl
    · subst e
      rw [hT 0 (by decide)]
      rw [if_pos rfl, if_pos rfl]
      rw [own_ic (x := T 0)]
    · rw [if_neg e, if_neg (fun q => e q.symm)]
  · rw [show f8_N gs gn gq x0 2 = f8_N2 gs gn gq x0 from (if_neg (by decide)).trans ((if_neg (by decide)).trans (if_pos rfl)), own_ex2]
    unfold f8_N2
    rw [hd]
    by_cases e : (2 : Int32) = tl
    · subst e
      rw [hT 0 (by decide), hT 1 (by decide)]
      rw [if_pos rfl, if_pos rfl]
      rw [own_ic (x := T 0)]
      by_cases c0 : gq 0 = T 0
      · rw [if_pos c0, if_pos c0]
        rw [own_ic (x := T 1)]
      · rw [if_neg c0, if_neg c0]
    · rw [if_neg e, if_neg (fun q => e q.symm)]
  · rw [show f8_N gs gn gq x0 3 = f8_N3 gs gn gq x0 from (if_neg (by decide)).trans ((if_neg (by decide)).trans (if_neg (by decide))), own_ex3]
    unfold f8_N3
    rw [hd]
    by_cases e : (3 : Int32) = tl
    · subst e
      rw [hT 0 (by decide), hT 1 (by decide), hT 2 (by decide)]
      rw [if_pos rfl, if_pos rfl]
      rw [own_ic (x := T 0)]
      by_cases c0 : gq 0 = T 0
      · rw [if_pos c0, if_pos c0]
        rw [own_ic (x := T 1)]
        by_cases c1 : gq 1 = T 1
        · rw [if_pos c1, if_pos c1]
          rw [own_ic (x := T 2)]
        · rw [if_neg c1, if_neg c1]
      · rw [if_neg c0, if_neg c0]
    · rw [if_neg e, if_neg (fun q => e q.symm)]
theorem own_mW (gs gn gq T : Nat → Int32) (x0 x2 tl : Int32) (hx : W4 x2) (hd : gs (x0.toInt.toNat + 1) - gs x0.toInt.toNat = tl) (hT : ∀ i : Nat, i < tl.toInt.toNat → (gn ((gs x0.toInt.toNat).toInt.toNat + i)) = T i) : f8_W gs gn gq x0 x2 = own_ex (gq 0) (gq 1) (gq 2) (T 0) (T 1) (T 2) x2 tl := by
  rcases own_w4 hx with rfl | rfl | rfl | rfl
  · rw [show f8_W gs gn gq x0 0 = f8_W0 gs gn gq x0 from if_pos rfl, own_ex0]
    unfold f8_W0
    rw [hd]
    by_cases e : (0 : Int32) = tl
    · subst e
      rw [if_pos rfl]
    · rw [if_neg e, if_neg (fun q => e q.symm)]
  · rw [show f8_W gs gn gq x0 1 = f8_W1 gs gn gq x0 from (if_neg (by decide)).trans (if_pos rfl), own_ex1]
    unfold f8_W1
    rw [hd]
    by_cases e : (1 : Int32) = tl
    · subst e
      rw [hT 0 (by decide)]
      rw [if_pos rfl, if_pos rfl]
      rw [own_ic (x := T 0)]
    · rw [if_neg e, if_neg (fun q => e q.symm)]
  · rw [show f8_W gs gn gq x0 2 = f8_W2 gs gn gq x0 from (if_neg (by decide)).trans ((if_neg (by decide)).trans (if_pos rfl)), own_ex2]
    unfold f8_W2
    rw [hd]
    by_cases e : (2 : Int32) = tl
    · subst e
      rw [hT 0 (by decide), hT 1 (by decide)]
      rw [if_pos rfl, if_pos rfl]
      rw [own_ic (x := T 0)]
      by_cases c0 : gq 0 = T 0
      · rw [if_pos c0, if_pos c0]
        rw [own_ic (x := T 1)]
      · rw [if_neg c0, if_neg c0]
    · rw [if_neg e, if_neg (fun q => e q.symm)]
  · rw [show f8_W gs gn gq x0 3 = f8_W3 gs gn gq x0 from (if_neg (by decide)).trans ((if_neg (by decide)).trans (if_neg (by decide))), own_ex3]
    unfold f8_W3
    rw [hd]
    by_cases e : (3 : Int32) = tl
    · subst e
      rw [hT 0 (by decide), hT 1 (by decide), hT 2 (by decide)]
      rw [if_pos rfl, if_pos rfl]
      rw [own_ic (x := T 0)]
      by_cases c0 : gq 0 = T 0
      · rw [if_pos c0, if_pos c0]
        rw [own_ic (x := T 1)]
        by_cases c1 : gq 1 = T 1
        · rw [if_pos c1, if_pos c1]
          rw [own_ic (x := T 2)]
        · rw [if_neg c1, if_neg c1]
      · rw [if_neg c0, if_neg c0]
    · rw [if_neg e, if_neg (fun q => e q.symm)]
theorem own_nr (g : Nat → Int32) (x : Int32) (hx : W4 x) (h : ¬ f7 g x = 0) (i : Nat) (hi : i < x.toInt.toNat) : ¬ 255 < g i := by
  intro q
  apply h
  rcases own_w4 hx with rfl | rfl | rfl | rfl
  · exact absurd hi (by rw [own_i0]; omega)
  · rw [show f7 g 1 = f7_1 g from (if_neg (by decide)).trans (if_pos rfl)]
    unfold f7_1
    rw [show (1 : Int32).toInt.toNat = 1 by decide] at hi
    obtain rfl : i = 0 := by omega
    rw [if_pos q]
  · rw [show f7 g 2 = f7_2 g from (if_neg (by decide)).trans ((if_neg (by decide)).trans (if_pos rfl))]
    unfold f7_2
    rw [show (2 : Int32).toInt.toNat = 2 by decide] at hi
    by_cases c0 : 255 < g 0
    · rw [if_pos c0]
    · rw [if_neg c0]
      rcases (show i = 0 ∨ i = 1 by omega) with rfl | rfl
      · exact absurd q c0
      · rw [if_pos q]
  · rw [show f7 g 3 = f7_3 g from (if_neg (by decide)).trans ((if_neg (by decide)).trans (if_neg (by decide)))]
    unfold f7_3
    rw [show (3 : Int32).toInt.toNat = 3 by decide] at hi
    by_cases c0 : 255 < g 0
    · rw [if_pos c0]
    · rw [if_neg c0]
      by_cases c1 : 255 < g 1
      · rw [if_pos c1]
      · rw [if_neg c1]
        rcases (show i = 0 ∨ i = 1 ∨ i = 2 by omega) with rfl | rfl | rfl
        · exact absurd q c0
        · exact absurd q c1
        · rw [if_pos q]
theorem own_fr {x : Int32} (h : fits .char (.int x) = true) : 0 ≤ x.toInt ∧ x.toInt ≤ 65535 := by
  have q := rng_char h
  rw [Int32.lt_iff_toInt_lt, Int32.lt_iff_toInt_lt, Int32.toInt_zero, show (65535 : Int32).toInt = 65535 by decide] at q
  omega
theorem own_b8 {x : Int32} (h : fits .char (.int x) = true) (hn : ¬ 255 < x) : x.toInt8.toInt32 &&& 255 = x := by
  have f := own_fr h
  rw [Int32.lt_iff_toInt_lt, show (255 : Int32).toInt = 255 by decide] at hn
  have a := c_i2b x
  have m := c_mask x.toInt8.toInt32 255 8 (by decide) (by decide)
  apply Int32.toInt_inj.mp
  omega
theorem own_cbb {x : Int32} (h : fits .char (.int x) = true) (hn : ¬ 255 < x) : own_cb x.toInt8.toInt32 = x := by
  unfold own_cb
  rw [own_b8 h hn]
  have f := own_fr h
  have c := c_i2c x
  apply Int32.toInt_inj.mp
  omega
theorem own_nat (x : Int32) (h : W4 x) : x.toInt.toNat ≤ 3 := (own_w4n h).2
theorem own_d0 (x0 x1 x2 : Int64) (x3 : Int32) : ((own_sp (own_sp own_z0 (0 : Int32) (q0_1 x0 x1 x2 x3)) (1 : Int32) (q0_2 x0 x1 x2 x3)) ((0 : Int32).toInt.toNat + 1)) - ((own_sp (own_sp own_z0 (0 : Int32) (q0_1 x0 x1 x2 x3)) (1 : Int32) (q0_2 x0 x1 x2 x3)) (0 : Int32).toInt.toNat) = q0_1 x0 x1 x2 x3 := by
  rw [own_i0, Nat.zero_add, own_sp0, own_sp1]
  exact Int32.sub_zero _
theorem own_d1 (x0 x1 x2 : Int64) (x3 : Int32) : ((own_sp (own_sp own_z0 (0 : Int32) (q0_1 x0 x1 x2 x3)) (1 : Int32) (q0_2 x0 x1 x2 x3)) ((1 : Int32).toInt.toNat + 1)) - ((own_sp (own_sp own_z0 (0 : Int32) (q0_1 x0 x1 x2 x3)) (1 : Int32) (q0_2 x0 x1 x2 x3)) (1 : Int32).toInt.toNat) = q0_2 x0 x1 x2 x3 := by
  rw [own_i1, own_sp1, show (1 + 1 : Nat) = 2 from rfl, own_sp2]
  rw [Int32.add_comm]
  exact Int32.add_sub_cancel _ _
theorem own_t0N (x0 x1 x2 : Int64) (x3 : Int32) (k0 : ¬ f7 (w0_12 x0 x1 x2 x3) (q0_1 x0 x1 x2 x3) = 0) (i : Nat) (hi : i < (q0_1 x0 x1 x2 x3).toInt.toNat) : (own_nn own_z0 (w0_12 x0 x1 x2 x3) (own_z0 (0 : Int32).toInt.toNat).toInt.toNat (q0_1 x0 x1 x2 x3).toInt.toNat) i = (w0_12 x0 x1 x2 x3 i).toInt8.toInt32 := by
  have z : (own_z0 (0 : Int32).toInt.toNat).toInt.toNat = 0 := rfl
  rw [z]
  unfold own_nn
  rw [if_pos (by omega), Nat.sub_zero]
theorem own_hN0 (x0 x1 x2 : Int64) (x3 : Int32) (k0 : ¬ f7 (w0_12 x0 x1 x2 x3) (q0_1 x0 x1 x2 x3) = 0) (i : Nat) (hi : i < (q0_1 x0 x1 x2 x3).toInt.toNat) : ((own_nn (own_nn own_z0 (w0_12 x0 x1 x2 x3) (own_z0 (0 : Int32).toInt.toNat).toInt.toNat (q0_1 x0 x1 x2 x3).toInt.toNat) (w0_20 x0 x1 x2 x3) (((own_sp own_z0 (0 : Int32) (q0_1 x0 x1 x2 x3))) (1 : Int32).toInt.toNat).toInt.toNat (q0_2 x0 x1 x2 x3).toInt.toNat) ((((own_sp (own_sp own_z0 (0 : Int32) (q0_1 x0 x1 x2 x3)) (1 : Int32) (q0_2 x0 x1 x2 x3))) (0 : Int32).toInt.toNat).toInt.toNat + i) &&& (255 : Int32)) = w0_12 x0 x1 x2 x3 i := by
  have l := own_nat _ (own_q1 x0 x1 x2 x3)
  rw [own_i1, own_sq1, own_i0, own_sp0, own_i0, Nat.zero_add]
  have e : (own_nn (own_nn own_z0 (w0_12 x0 x1 x2 x3) (own_z0 0).toInt.toNat (q0_1 x0 x1 x2 x3).toInt.toNat) (w0_20 x0 x1 x2 x3) (q0_1 x0 x1 x2 x3).toInt.toNat (q0_2 x0 x1 x2 x3).toInt.toNat) i = (own_nn own_z0 (w0_12 x0 x1 x2 x3) (own_z0 0).toInt.toNat (q0_1 x0 x1 x2 x3).toInt.toNat) i := if_neg (by omega)
  have t := own_t0N x0 x1 x2 x3 k0 i hi
  rw [own_i0] at t
  rw [e, t]
  exact own_b8 (own_ft0 x0 x1 x2 x3 i (by omega)) (own_nr _ _ (own_q1 x0 x1 x2 x3) k0 i hi)
theorem own_hN1 (x0 x1 x2 : Int64) (x3 : Int32) (k1 : ¬ f7 (w0_20 x0 x1 x2 x3) (q0_2 x0 x1 x2 x3) = 0) (i : Nat) (hi : i < (q0_2 x0 x1 x2 x3).toInt.toNat) : ((own_nn (own_nn own_z0 (w0_12 x0 x1 x2 x3) (own_z0 (0 : Int32).toInt.toNat).toInt.toNat (q0_1 x0 x1 x2 x3).toInt.toNat) (w0_20 x0 x1 x2 x3) (((own_sp own_z0 (0 : Int32) (q0_1 x0 x1 x2 x3))) (1 : Int32).toInt.toNat).toInt.toNat (q0_2 x0 x1 x2 x3).toInt.toNat) ((((own_sp (own_sp own_z0 (0 : Int32) (q0_1 x0 x1 x2 x3)) (1 : Int32) (q0_2 x0 x1 x2 x3))) (1 : Int32).toInt.toNat).toInt.toNat + i) &&& (255 : Int32)) = w0_20 x0 x1 x2 x3 i := by
  have l := own_nat _ (own_q2 x0 x1 x2 x3)
  rw [own_i1, own_sq1, own_sp1]
  have e : ∀ g : Nat → Int32, (own_nn g (w0_20 x0 x1 x2 x3) (q0_1 x0 x1 x2 x3).toInt.toNat (q0_2 x0 x1 x2 x3).toInt.toNat) ((q0_1 x0 x1 x2 x3).toInt.toNat + i) = (w0_20 x0 x1 x2 x3 i).toInt8.toInt32 := fun g => by
    unfold own_nn
    rw [if_pos (by omega), Nat.add_sub_cancel_left]
  rw [e]
  exact own_b8 (own_ft1 x0 x1 x2 x3 i (by omega)) (own_nr _ _ (own_q2 x0 x1 x2 x3) k1 i hi)
theorem own_cN (gw gc : Nat → Int32) (s n i : Nat) (h : i < s) : own_cc gw gc s n i = gw i := if_neg (by omega)
theorem own_cY (gw gc : Nat → Int32) (s n i : Nat) (h : i < n) : own_cc gw gc s n (s + i) = gc i := by
  unfold own_cc
  rw [if_pos (by omega), Nat.add_sub_cancel_left]
theorem own_hM0 (x0 x1 x2 : Int64) (x3 : Int32) (k0 : ¬ f7 (w0_12 x0 x1 x2 x3) (q0_1 x0 x1 x2 x3) = 0) (i : Nat) (hi : i < (q0_1 x0 x1 x2 x3).toInt.toNat) : ((own_cc (UpI (((own_sp own_z0 (0 : Int32) (q0_1 x0 x1 x2 x3))) (1 : Int32).toInt.toNat).toInt.toNat (fun j => own_cb ((own_nn own_z0 (w0_12 x0 x1 x2 x3) (own_z0 (0 : Int32).toInt.toNat).toInt.toNat (q0_1 x0 x1 x2 x3).toInt.toNat) j))) (w0_20 x0 x1 x2 x3) (((own_sp own_z0 (0 : Int32) (q0_1 x0 x1 x2 x3))) (1 : Int32).toInt.toNat).toInt.toNat (q0_2 x0 x1 x2 x3).toInt.toNat) ((((own_sp (own_sp own_z0 (0 : Int32) (q0_1 x0 x1 x2 x3)) (1 : Int32) (q0_2 x0 x1 x2 x3))) (0 : Int32).toInt.toNat).toInt.toNat + i)) = w0_12 x0 x1 x2 x3 i := by
  have l := own_nat _ (own_q1 x0 x1 x2 x3)
  have t := own_t0N x0 x1 x2 x3 k0 i hi
  rw [own_i1, own_sq1, own_i0, own_sp0, own_i0, Nat.zero_add, own_cN _ _ _ _ _ hi]
  unfold UpI
  rw [if_pos hi]
  rw [own_i0] at t
  show own_cb _ = _
  rw [t]
  exact own_cbb (own_ft0 x0 x1 x2 x3 i (by omega)) (own_nr _ _ (own_q1 x0 x1 x2 x3) k0 i hi)
theorem own_hC1 (x0 x1 x2 : Int64) (x3 : Int32) (gw : Nat → Int32) (i : Nat) (hi : i < (q0_2 x0 x1 x2 x3).toInt.toNat) : ((own_cc gw (w0_20 x0 x1 x2 x3) (((own_sp own_z0 (0 : Int32) (q0_1 x0 x1 x2 x3))) (1 : Int32).toInt.toNat).toInt.toNat (q0_2 x0 x1 x2 x3).toInt.toNat) ((((own_sp (own_sp own_z0 (0 : Int32) (q0_1 x0 x1 x2 x3)) (1 : Int32) (q0_2 x0 x1 x2 x3))) (1 : Int32).toInt.toNat).toInt.toNat + i)) = w0_20 x0 x1 x2 x3 i := by
  rw [own_i1, own_sq1, own_sp1]
  exact own_cY _ _ _ _ _ hi
theorem own_hV0 (x0 x1 x2 : Int64) (x3 : Int32) (i : Nat) (hi : i < (q0_1 x0 x1 x2 x3).toInt.toNat) : ((own_cc (own_cc (UpI (own_z0 (0 : Int32).toInt.toNat).toInt.toNat (fun j => own_cb (own_z0 j))) (w0_12 x0 x1 x2 x3) (own_z0 (0 : Int32).toInt.toNat).toInt.toNat (q0_1 x0 x1 x2 x3).toInt.toNat) (w0_20 x0 x1 x2 x3) (((own_sp own_z0 (0 : Int32) (q0_1 x0 x1 x2 x3))) (1 : Int32).toInt.toNat).toInt.toNat (q0_2 x0 x1 x2 x3).toInt.toNat) ((((own_sp (own_sp own_z0 (0 : Int32) (q0_1 x0 x1 x2 x3)) (1 : Int32) (q0_2 x0 x1 x2 x3))) (0 : Int32).toInt.toNat).toInt.toNat + i)) = w0_12 x0 x1 x2 x3 i := by
  have z : (own_z0 (0 : Int32).toInt.toNat).toInt.toNat = 0 := rfl
  rw [z, own_i1, own_sq1, own_i0, own_sp0, own_i0, Nat.zero_add, own_cN _ _ _ _ _ hi]
  have q := own_cY (UpI 0 (fun j => own_cb (own_z0 j))) (w0_12 x0 x1 x2 x3) 0 (q0_1 x0 x1 x2 x3).toInt.toNat i hi
  rw [Nat.zero_add] at q
  exact q
theorem own_l1 (x0 x1 x2 : Int64) (x3 : Int32) : q0_41 x0 x1 x2 x3 = q0_40 x0 x1 x2 x3 := own_mW _ _ _ (w0_12 x0 x1 x2 x3) 0 _ _ (own_q4 x0 x1 x2 x3) (own_d0 x0 x1 x2 x3) (own_hV0 x0 x1 x2 x3)
theorem own_l2 (x0 x1 x2 : Int64) (x3 : Int32) (k0 : ¬ f7 (w0_12 x0 x1 x2 x3) (q0_1 x0 x1 x2 x3) = 0) : q0_42 x0 x1 x2 x3 = q0_40 x0 x1 x2 x3 := own_mW _ _ _ (w0_12 x0 x1 x2 x3) 0 _ _ (own_q4 x0 x1 x2 x3) (own_d0 x0 x1 x2 x3) (own_hM0 x0 x1 x2 x3 k0)
theorem own_l3 (x0 x1 x2 : Int64) (x3 : Int32) (k0 : ¬ f7 (w0_12 x0 x1 x2 x3) (q0_1 x0 x1 x2 x3) = 0) : q0_43 x0 x1 x2 x3 = q0_40 x0 x1 x2 x3 := own_mN _ _ _ (w0_12 x0 x1 x2 x3) 0 _ _ (own_q4 x0 x1 x2 x3) (own_d0 x0 x1 x2 x3) (own_hN0 x0 x1 x2 x3 k0)
theorem own_l4 (x0 x1 x2 : Int64) (x3 : Int32) : q0_64 x0 x1 x2 x3 = q0_63 x0 x1 x2 x3 := own_mW _ _ _ (w0_20 x0 x1 x2 x3) 1 _ _ (own_q4 x0 x1 x2 x3) (own_d1 x0 x1 x2 x3) (own_hC1 x0 x1 x2 x3 _)
theorem own_l5 (x0 x1 x2 : Int64) (x3 : Int32) : q0_65 x0 x1 x2 x3 = q0_63 x0 x1 x2 x3 := own_mW _ _ _ (w0_20 x0 x1 x2 x3) 1 _ _ (own_q4 x0 x1 x2 x3) (own_d1 x0 x1 x2 x3) (own_hC1 x0 x1 x2 x3 _)
theorem own_l6 (x0 x1 x2 : Int64) (x3 : Int32) (k1 : ¬ f7 (w0_20 x0 x1 x2 x3) (q0_2 x0 x1 x2 x3) = 0) : q0_66 x0 x1 x2 x3 = q0_63 x0 x1 x2 x3 := own_mN _ _ _ (w0_20 x0 x1 x2 x3) 1 _ _ (own_q4 x0 x1 x2 x3) (own_d1 x0 x1 x2 x3) (own_hN1 x0 x1 x2 x3 k1)
theorem law_true (x0 x1 x2 : Int64) (x3 : Int32) : f0 x0 x1 x2 x3 = 1 := by
  unfold f0
  by_cases k0 : f7 (w0_12 x0 x1 x2 x3) (q0_1 x0 x1 x2 x3) = 0
  · rw [if_pos k0, if_pos k0, if_pos (own_l1 x0 x1 x2 x3), if_pos (own_l4 x0 x1 x2 x3)]
    split <;> rfl
  · rw [if_neg k0, if_neg k0, if_pos (own_l2 x0 x1 x2 x3 k0), if_pos (own_l3 x0 x1 x2 x3 k0), if_pos (own_l5 x0 x1 x2 x3)]
    by_cases k1 : f7 (w0_20 x0 x1 x2 x3) (q0_2 x0 x1 x2 x3) = 0
    · rw [if_pos k1, if_pos k1]
      split <;> rfl
    · rw [if_neg k1, if_neg k1, if_pos (own_l6 x0 x1 x2 x3 k1)]
      split <;> rfl

set_option maxRecDepth 65536 in
set_option maxHeartbeats 40000000 in
theorem comes_1 {Post : Tables → Env → Array Value → State → Outcome → State → Prop} (hpost : ∀ tb e args s v u, (limb_1_1.after args s (.returned v) u = true ∧ limb_1_2.after args s (.returned v) u = true ∧ True) → FrameEnd s (.returned v) u (Jvm.fieldLocs frame_1_writes args s ++ Jvm.arrayLocs frame_1_arrays args s ++ Jvm.staticLocs frame_1_statics s) 24 25728 → Post tb e args s (.returned v) u) :
    ArmFor flags0 classFile x code maxLocals ret World_1 tables_1 room_1 Calls_1 rest_1 Pre_1 Post := by
  intro l hfl _ _ p e ha hc hk s m args below hf hA hF happ hP
  obtain ⟨hcalls, hrest, hpre⟩ := hP
  obtain ⟨-, -, -, hnamed, -, -, -, hat⟩ := (Spec.applies_iff hf).mp happ
  obtain ⟨hg, hn⟩ := and_e (Cond.before_iff.mp (show (Jvm.Cond.and given_1 narrow_1).before args s = true from hpre))
  obtain ⟨g0, hg⟩ := and_e hg
  obtain ⟨g1, hg⟩ := and_e hg
  obtain ⟨g2, hg⟩ := and_e hg
  obtain ⟨g3, hg⟩ := and_e hg
  obtain ⟨w0, w1, w2, w3, rfl⟩ : ∃ w0 w1 w2 w3 : Value, args = #[w0, w1, w2, w3] := by
    have hs : args.size = 4 := by simpa [Cond.value, given_1] using g0
    obtain ⟨L⟩ := args
    match L, hs with
    | [w0, w1, w2, w3], _ => exact ⟨w0, w1, w2, w3, rfl⟩
  have hw := fun d (hd : d ∈ tables_1) => atoms_spec (ws := Jvm.Cond.code x code maxLocals ret :: tables_1) hat d (List.mem_cons_of_mem _ hd)
  obtain ⟨i0, e0⟩ := isL_v g1
  obtain rfl : w0 = (.long i0) := Option.some.inj e0
  obtain ⟨i1, e1⟩ := isL_v g2
  obtain rfl : w1 = (.long i1) := Option.some.inj e1
  obtain ⟨i2, e2⟩ := isL_v g3
  obtain rfl : w2 = (.long i2) := Option.some.inj e2
  obtain ⟨i3, e3⟩ := is_v hg
  obtain rfl : w3 = (.int i3) := Option.some.inj e3
  obtain ⟨n, o, h1, h2, h3, v, L, rfl, ⟨rfl, N⟩, hq⟩ := rm0 l s _ hw tables_1 i0 i1 i2 i3 s.heap s.heap.size (Nat.le_refl _) p e ha hc hk s m _ below hf ((Spec.applies_iff_loose hf).mp happ).1 ⟨rfl, State.Warmed39.refl s, rfl⟩ trivial
  rw [law_true] at h3 hq
  refine ⟨n, _, h1, h2, h3, hpost _ _ _ _ _ _ ⟨Cond.after_iff.mpr rfl, Cond.after_iff.mpr (eq_i res_at (Term.int_eval (1)) rfl), trivial⟩ ⟨hq.1, hq.2.1, (hq.2.2.sift fun y hy => Or.inr (N y hy)).mono (by decide) (by decide)⟩⟩
theorem main_1_1 : Claimed_1_1 := comes_1 fun _ _ _ _ _ _ h hF => ⟨h.1, hF⟩
theorem main_1_2 : Claimed_1_2 := comes_1 fun _ _ _ _ _ _ h hF => ⟨h.2.1, hF⟩
end Jvm.Pilot.@@N@@
namespace Jvm.Pilot.@@N@@
open Jvm Jvm.ClassFile Sem Op Lib Jvm.Free Jvm.Stand Jvm.Pilot.@@N@@.Jvm.D
/-! MADE BY PROGRAM (witnessworld.py) out of the Statement's table words and the real class files: 13 classes; the members and pool entries that the words name. The judged class is class 1, her method 3. -/
namespace start1
open Jvm.ClassFile
def u (s : String) : CpInfo := .utf8 (stringToUtf16 s)
/-- a pool by its gaps: so many unusable entries, then the entry; so many at the end -/
def gap : Nat → List CpInfo → List CpInfo
  | 0, r => r
  | n + 1, r => .unusable :: gap n r
def poolList (es : List (Nat × CpInfo)) (last : Nat) : List CpInfo := es.foldr (fun e r => gap e.1 (e.2 :: r)) (gap last [])
def pool (es : List (Nat × CpInfo)) (last : Nat) : Array CpInfo := ⟨poolList es last⟩
def fileOf (pool : Array CpInfo) (this : Nat) (attrs : Array Attribute := #[]) (ms : Array MethodInfo := #[]) (fl : Nat := 33) (sup : Nat := 0) (ifs : Array Nat := #[]) (fds : Array FieldInfo := #[]) : ClassFile where
  minorVersion := 0
  majorVersion := 65
  constantPool := pool
  accessFlags := fl
  thisClass := this
  superClass := sup
  interfaces := ifs
  fields := fds
  methods := ms
  attributes := attrs
def plain (name : String) (sup : Option ClassId) : Class where
  name := name
  kind := .ordinary
  loader := none
  accessFlags := 33
  super := sup
  interfaces := #[]
  cf := none
  fields := #[]
  methods := #[]
  instanceTypes := #[]
  staticTypes := #[]
  resolved := #[]
  callSites := []
  init := .initialized
  statics := none
  mirror := none

def pool0 : Array CpInfo := pool [(5, u "<init>"), (0, u "()V"), (1, .class_ 10), (1, u "java/lang/Object")] 113

def k0c0 : Code := { maxStack := 0, maxLocals := 1, code := object_method_1_code, exceptionTable := #[], attributes := #[] }
def k0m0 : Method := { name := "<init>", desc := "()V", sig := { parameters := [], returnType := none }, accessFlags := 1, code := some k0c0 }
/-- java/lang/Object -/
def k0 : Class := { plain "java/lang/Object" none with
  accessFlags := 33
  interfaces := #[]
  cf := some (fileOf pool0 8 #[] #[{ accessFlags := 1, nameIndex := 5, descriptorIndex := 6, attributes := #[] }] 33 0 #[] #[])
  fields := #[]
  methods := #[k0m0]
  instanceTypes := #[]
  staticTypes := #[]
  resolved := Array.replicate 124 none
  statics := none }

def pool1 : Array CpInfo := pool [(2, .class_ 4), (0, .nameAndType 5 6), (0, u "java/lang/Object"), (0, u "<init>"), (0, u "()V"), (0, .methodref 8 9), (0, .class_ 10), (0, .nameAndType 11 12), (0, u "com/example/micro_ranker/microranker/engine/TextsHoldsPinLaw"), (0, u "bit"), (0, u "(II)Z"), (0, .methodref 8 14), (0, .nameAndType 15 16), (0, u "ch"), (0, u "(JIZ)C"), (0, .class_ 18), (0, u "com/example/micro_ranker/microranker/engine/Texts"), (0, .methodref 17 3), (0, .methodref 17 21), (0, .nameAndType 22 23), (0, u "add"), (0, u "([CI)I"), (0, .methodref 17 25), (0, .nameAndType 26 27), (0, u "holds"), (0, u "(I[CI)Z"), (3, u "law"), (0, u "(JJJI)Z")] 4

def k1m0 : Method := { name := "<init>", desc := "()V", sig := { parameters := [], returnType := none }, accessFlags := 1, code := none }
def k1c1 : Code := { maxStack := 4, maxLocals := 5, code := method_2_code, exceptionTable := #[], attributes := #[] }
def k1m1 : Method := { name := "ch", desc := "(JIZ)C", sig := { parameters := [.long, .int, .boolean], returnType := some .char }, accessFlags := 10, code := some k1c1 }
def k1c2 : Code := { maxStack := 2, maxLocals := 2, code := method_3_code, exceptionTable := #[], attributes := #[] }
def k1m2 : Method := { name := "bit", desc := "(II)Z", sig := { parameters := [.int, .int], returnType := some .boolean }, accessFlags := 10, code := some k1c2 }
def k1c3 : Code := { maxStack := 6, maxLocals := 22, code := code, exceptionTable := #[], attributes := #[] }
def k1m3 : Method := { name := "law", desc := "(JJJI)Z", sig := { parameters := [.long, .long, .long, .int], returnType := some .boolean }, accessFlags := 9, code := some k1c3 }
/-- com/example/micro_ranker/microranker/engine/TextsHoldsPinLaw -/
def k1 : Class := { plain "com/example/micro_ranker/microranker/engine/TextsHoldsPinLaw" (some 0) with
  accessFlags := 49
  interfaces := #[]
  cf := some (fileOf pool1 8 #[] #[{ accessFlags := 1, nameIndex := 5, descriptorIndex := 6, attributes := #[] }, { accessFlags := 10, nameIndex := 15, descriptorIndex := 16, attributes := #[] }, { accessFlags := 10, nameIndex := 11, descriptorIndex := 12, attributes := #[] }, { accessFlags := 9, nameIndex := 31, descriptorIndex := 32, attributes := #[] }] 49 2 #[] #[])
  fields := #[]
  methods := #[k1m0, k1m1, k1m2, k1m3]
  instanceTypes := #[]
  staticTypes := #[]
  resolved := Array.replicate 37 none
  statics := none }

def pool2 : Array CpInfo := pool [(3, .methodref 4 5), (0, .class_ 6), (0, .nameAndType 7 8), (0, u "com/example/micro_ranker/microranker/engine/Texts"), (0, u "<init>"), (0, u "([B[C[II)V"), (0, .methodref 10 11), (0, .class_ 12), (0, .nameAndType 7 13), (0, u "java/lang/Object"), (0, u "()V"), (0, .fieldref 4 15), (0, .nameAndType 16 17), (0, u "narrow"), (0, u "[B"), (0, .fieldref 4 19), (0, .nameAndType 20 21), (0, u "characters"), (0, u "[C"), (0, .fieldref 4 23), (0, .nameAndType 24 25), (0, u "starts"), (0, u "[I"), (0, .fieldref 4 27), (0, .nameAndType 28 29), (0, u "size"), (0, u "I"), (14, .methodref 4 45), (0, .nameAndType 46 47), (0, u "grownLength"), (0, u "(II)I"), (6, .methodref 4 55), (0, .nameAndType 56 57), (0, u "isNarrow"), (0, u "([CI)Z"), (0, .methodref 4 59), (0, .nameAndType 60 61), (0, u "widen"), (0, u "(I)V"), (6, .methodref 69 70), (0, .class_ 71), (0, .nameAndType 72 73), (0, u "java/lang/System"), (0, u "arraycopy"), (0, u "(Ljava/lang/Object;ILjava/lang/Object;II)V"), (0, .integer 2147483639), (7, .long 2147483639), (1, .long 2), (1, .methodref 87 88), (0, .class_ 89), (0, .nameAndType 90 91), (0, u "java/lang/Math"), (0, u "max"), (0, u "(JJ)J"), (0, .methodref 87 93), (0, .nameAndType 94 91), (0, u "min"), (0, u "LONGEST_ARRAY"), (7, u "holds"), (0, u "(I[CI)Z"), (0, u "add"), (0, u "([CI)I")] 6

def k2c0 : Code := { maxStack := 5, maxLocals := 1, code := prog_60_method_1_code, exceptionTable := #[], attributes := #[] }
def k2m0 : Method := { name := "<init>", desc := "()V", sig := { parameters := [], returnType := none }, accessFlags := 0, code := some k2c0 }
def k2c1 : Code := { maxStack := 2, maxLocals := 5, code := prog_60_method_2_code, exceptionTable := #[], attributes := #[] }
def k2m1 : Method := { name := "<init>", desc := "([B[C[II)V", sig := { parameters := [(.array .byte), (.array .char), (.array .int), .int], returnType := none }, accessFlags := 2, code := some k2c1 }
def k2c2 : Code := { maxStack := 3, maxLocals := 6, code := prog_60_method_5_code, exceptionTable := #[], attributes := #[] }
def k2m2 : Method := { name := "holds", desc := "(I[CI)Z", sig := { parameters := [.int, (.array .char), .int], returnType := some .boolean }, accessFlags := 0, code := some k2c2 }
def k2c3 : Code := { maxStack := 5, maxLocals := 5, code := prog_60_method_6_code, exceptionTable := #[], attributes := #[] }
def k2m3 : Method := { name := "add", desc := "([CI)I", sig := { parameters := [(.array .char), .int], returnType := some .int }, accessFlags := 0, code := some k2c3 }
def k2c4 : Code := { maxStack := 2, maxLocals := 3, code := prog_60_method_8_code, exceptionTable := #[], attributes := #[] }
def k2m4 : Method := { name := "isNarrow", desc := "([CI)Z", sig := { parameters := [(.array .char), .int], returnType := some .boolean }, accessFlags := 10, code := some k2c4 }
def k2c5 : Code := { maxStack := 4, maxLocals := 5, code := prog_60_method_9_code, exceptionTable := #[], attributes := #[] }
def k2m5 : Method := { name := "widen", desc := "(I)V", sig := { parameters := [.int], returnType := none }, accessFlags := 2, code := some k2c5 }
def k2c6 : Code := { maxStack := 6, maxLocals := 2, code := prog_60_method_10_code, exceptionTable := #[], attributes := #[] }
def k2m6 : Method := { name := "grownLength", desc := "(II)I", sig := { parameters := [.int, .int], returnType := some .int }, accessFlags := 10, code := some k2c6 }
/-- com/example/micro_ranker/microranker/engine/Texts -/
def k2 : Class := { plain "com/example/micro_ranker/microranker/engine/Texts" (some 0) with
  accessFlags := 32
  interfaces := #[]
  cf := some (fileOf pool2 4 #[] #[{ accessFlags := 0, nameIndex := 7, descriptorIndex := 13, attributes := #[] }, { accessFlags := 2, nameIndex := 7, descriptorIndex := 8, attributes := #[] }, { accessFlags := 0, nameIndex := 103, descriptorIndex := 104, attributes := #[] }, { accessFlags := 0, nameIndex := 105, descriptorIndex := 106, attributes := #[] }, { accessFlags := 10, nameIndex := 56, descriptorIndex := 57, attributes := #[] }, { accessFlags := 2, nameIndex := 60, descriptorIndex := 61, attributes := #[] }, { accessFlags := 10, nameIndex := 46, descriptorIndex := 47, attributes := #[] }] 32 10 #[] #[{ accessFlags := 26, nameIndex := 95, descriptorIndex := 29, attributes := #[] }, { accessFlags := 2, nameIndex := 16, descriptorIndex := 17, attributes := #[] }, { accessFlags := 2, nameIndex := 20, descriptorIndex := 21, attributes := #[] }, { accessFlags := 2, nameIndex := 24, descriptorIndex := 25, attributes := #[] }, { accessFlags := 2, nameIndex := 28, descriptorIndex := 29, attributes := #[] }])
  fields := #[{ name := "LONGEST_ARRAY", type := .int, accessFlags := 26, slot := 0, constantValue := 0 }, { name := "narrow", type := (.array .byte), accessFlags := 2, slot := 0, constantValue := 0 }, { name := "characters", type := (.array .char), accessFlags := 2, slot := 1, constantValue := 0 }, { name := "starts", type := (.array .int), accessFlags := 2, slot := 2, constantValue := 0 }, { name := "size", type := .int, accessFlags := 2, slot := 3, constantValue := 0 }]
  methods := #[k2m0, k2m1, k2m2, k2m3, k2m4, k2m5, k2m6]
  instanceTypes := #[(.array .byte), (.array .char), (.array .int), .int]
  staticTypes := #[.int]
  resolved := Array.replicate 113 none
  statics := none }

def pool3 : Array CpInfo := pool [(1, .class_ 2), (0, u "java/lang/Math"), (1, .class_ 6), (1, u "java/lang/Object"), (0, u "<init>"), (0, u "()V"), (89, .class_ 100), (1, u "java/lang/Math$RandomNumberGeneratorHolder"), (20, u "(JJ)J"), (50, u "negativeZeroFloatBits"), (0, u "J"), (2, u "negativeZeroDoubleBits"), (21, u "max"), (2, u "min"), (43, u "$assertionsDisabled"), (0, u "Z"), (91, u "twoToTheDoubleScaleDown"), (0, u "D"), (4, u "twoToTheDoubleScaleUp"), (9, u "E"), (3, u "PI"), (2, u "TAU"), (2, u "DEGREES_TO_RADIANS"), (0, u "RADIANS_TO_DEGREES")] 94

def k3m0 : Method := { name := "<init>", desc := "()V", sig := { parameters := [], returnType := none }, accessFlags := 2, code := none }
def k3c1 : Code := { maxStack := 4, maxLocals := 4, code := jdk_29_method_66_code, exceptionTable := #[], attributes := #[] }
def k3m1 : Method := { name := "max", desc := "(JJ)J", sig := { parameters := [.long, .long], returnType := some .long }, accessFlags := 9, code := some k3c1 }
def k3c2 : Code := { maxStack := 4, maxLocals := 4, code := jdk_29_method_70_code, exceptionTable := #[], attributes := #[] }
def k3m2 : Method := { name := "min", desc := "(JJ)J", sig := { parameters := [.long, .long], returnType := some .long }, accessFlags := 9, code := some k3c2 }
/-- java/lang/Math -/
def k3 : Class := { plain "java/lang/Math" (some 0) with
  accessFlags := 49
  interfaces := #[]
  cf := some (fileOf pool3 1 #[.nestMembers #[98]] #[{ accessFlags := 2, nameIndex := 7, descriptorIndex := 8, attributes := #[] }, { accessFlags := 9, nameIndex := 198, descriptorIndex := 121, attributes := #[] }, { accessFlags := 9, nameIndex := 201, descriptorIndex := 121, attributes := #[] }] 49 4 #[] #[{ accessFlags := 25, nameIndex := 354, descriptorIndex := 339, attributes := #[] }, { accessFlags := 25, nameIndex := 358, descriptorIndex := 339, attributes := #[] }, { accessFlags := 25, nameIndex := 361, descriptorIndex := 339, attributes := #[] }, { accessFlags := 26, nameIndex := 364, descriptorIndex := 339, attributes := #[] }, { accessFlags := 26, nameIndex := 365, descriptorIndex := 339, attributes := #[] }, { accessFlags := 26, nameIndex := 172, descriptorIndex := 173, attributes := #[] }, { accessFlags := 26, nameIndex := 176, descriptorIndex := 173, attributes := #[] }, { accessFlags := 8, nameIndex := 344, descriptorIndex := 339, attributes := #[] }, { accessFlags := 8, nameIndex := 338, descriptorIndex := 339, attributes := #[] }, { accessFlags := 4120, nameIndex := 245, descriptorIndex := 246, attributes := #[] }])
  fields := #[{ name := "E", type := .double, accessFlags := 25, slot := 0, constantValue := 0 }, { name := "PI", type := .double, accessFlags := 25, slot := 1, constantValue := 0 }, { name := "TAU", type := .double, accessFlags := 25, slot := 2, constantValue := 0 }, { name := "DEGREES_TO_RADIANS", type := .double, accessFlags := 26, slot := 3, constantValue := 0 }, { name := "RADIANS_TO_DEGREES", type := .double, accessFlags := 26, slot := 4, constantValue := 0 }, { name := "negativeZeroFloatBits", type := .long, accessFlags := 26, slot := 5, constantValue := 0 }, { name := "negativeZeroDoubleBits", type := .long, accessFlags := 26, slot := 6, constantValue := 0 }, { name := "twoToTheDoubleScaleUp", type := .double, accessFlags := 8, slot := 7, constantValue := 0 }, { name := "twoToTheDoubleScaleDown", type := .double, accessFlags := 8, slot := 8, constantValue := 0 }, { name := "$assertionsDisabled", type := .boolean, accessFlags := 4120, slot := 9, constantValue := 0 }]
  methods := #[k3m0, k3m1, k3m2]
  instanceTypes := #[]
  staticTypes := #[.double, .double, .double, .double, .double, .long, .long, .double, .double, .boolean]
  resolved := Array.replicate 460 none
  statics := none }

def pool4 : Array CpInfo := pool [(2, .class_ 4), (1, u "java/lang/Object"), (0, u "<init>"), (0, u "()V"), (1, .class_ 10), (1, u "java/lang/System"), (0, u "allowSecurityManager"), (0, u "I"), (16, u "cons"), (0, u "Ljava/io/Console;"), (77, .class_ 110), (1, u "java/lang/System$CallersHolder"), (43, u "initialErrStream"), (0, u "Ljava/io/PrintStream;"), (19, u "security"), (0, u "Ljava/lang/SecurityManager;"), (31, .class_ 209), (0, u "java/lang/System$1"), (7, u "props"), (0, u "Ljava/util/Properties;"), (2, u "lineSeparator"), (0, u "Ljava/lang/String;"), (96, .class_ 321), (1, u "java/lang/System$LoggerFinder"), (5, .class_ 328), (0, u "java/lang/System$Logger"), (67, u "err"), (2, u "out"), (91, u "notSupportedJnuEncoding"), (15, u "in"), (17, u "initialIn"), (0, u "Ljava/io/InputStream;"), (35, u "bootLayer"), (0, u "Ljava/lang/ModuleLayer;"), (99, .class_ 664), (0, u "java/lang/System$2"), (9, u "NEVER"), (2, u "MAYBE"), (49, u "arraycopy"), (0, u "(Ljava/lang/Object;ILjava/lang/Object;II)V"), (72, .class_ 802), (0, u "java/lang/System$Logger$Level")] 31

def k4m0 : Method := { name := "<init>", desc := "()V", sig := { parameters := [], returnType := none }, accessFlags := 2, code := none }
def k4m1 : Method := { name := "arraycopy", desc := "(Ljava/lang/Object;ILjava/lang/Object;II)V", sig := { parameters := [(.object "java/lang/Object"), .int, (.object "java/lang/Object"), .int, .int], returnType := none }, accessFlags := 265, code := none }
/-- java/lang/System -/
def k4 : Class := { plain "java/lang/System" (some 0) with
  accessFlags := 49
  interfaces := #[]
  cf := some (fileOf pool4 8 #[.nestMembers #[319, 327, 801, 108, 663, 208]] #[{ accessFlags := 2, nameIndex := 5, descriptorIndex := 6, attributes := #[] }, { accessFlags := 265, nameIndex := 727, descriptorIndex := 728, attributes := #[] }] 49 2 #[] #[{ accessFlags := 25, nameIndex := 507, descriptorIndex := 526, attributes := #[] }, { accessFlags := 25, nameIndex := 399, descriptorIndex := 155, attributes := #[] }, { accessFlags := 25, nameIndex := 396, descriptorIndex := 155, attributes := #[] }, { accessFlags := 10, nameIndex := 525, descriptorIndex := 526, attributes := #[] }, { accessFlags := 26, nameIndex := 674, descriptorIndex := 12, attributes := #[] }, { accessFlags := 26, nameIndex := 677, descriptorIndex := 12, attributes := #[] }, { accessFlags := 10, nameIndex := 11, descriptorIndex := 12, attributes := #[] }, { accessFlags := 74, nameIndex := 175, descriptorIndex := 176, attributes := #[] }, { accessFlags := 10, nameIndex := 491, descriptorIndex := 222, attributes := #[] }, { accessFlags := 74, nameIndex := 29, descriptorIndex := 30, attributes := #[] }, { accessFlags := 74, nameIndex := 154, descriptorIndex := 155, attributes := #[] }, { accessFlags := 10, nameIndex := 217, descriptorIndex := 218, attributes := #[] }, { accessFlags := 10, nameIndex := 221, descriptorIndex := 222, attributes := #[] }, { accessFlags := 8, nameIndex := 562, descriptorIndex := 563, attributes := #[] }])
  fields := #[{ name := "in", type := (.object "java/io/InputStream"), accessFlags := 25, slot := 0, constantValue := 0 }, { name := "out", type := (.object "java/io/PrintStream"), accessFlags := 25, slot := 1, constantValue := 0 }, { name := "err", type := (.object "java/io/PrintStream"), accessFlags := 25, slot := 2, constantValue := 0 }, { name := "initialIn", type := (.object "java/io/InputStream"), accessFlags := 10, slot := 3, constantValue := 0 }, { name := "NEVER", type := .int, accessFlags := 26, slot := 4, constantValue := 0 }, { name := "MAYBE", type := .int, accessFlags := 26, slot := 5, constantValue := 0 }, { name := "allowSecurityManager", type := .int, accessFlags := 10, slot := 6, constantValue := 0 }, { name := "security", type := (.object "java/lang/SecurityManager"), accessFlags := 74, slot := 7, constantValue := 0 }, { name := "notSupportedJnuEncoding", type := (.object "java/lang/String"), accessFlags := 10, slot := 8, constantValue := 0 }, { name := "cons", type := (.object "java/io/Console"), accessFlags := 74, slot := 9, constantValue := 0 }, { name := "initialErrStream", type := (.object "java/io/PrintStream"), accessFlags := 74, slot := 10, constantValue := 0 }, { name := "props", type := (.object "java/util/Properties"), accessFlags := 10, slot := 11, constantValue := 0 }, { name := "lineSeparator", type := (.object "java/lang/String"), accessFlags := 10, slot := 12, constantValue := 0 }, { name := "bootLayer", type := (.object "java/lang/ModuleLayer"), accessFlags := 8, slot := 13, constantValue := 0 }]
  methods := #[k4m0, k4m1]
  instanceTypes := #[]
  staticTypes := #[(.object "java/io/InputStream"), (.object "java/io/PrintStream"), (.object "java/io/PrintStream"), (.object "java/io/InputStream"), .int, .int, .int, (.object "java/lang/SecurityManager"), (.object "java/lang/String"), (.object "java/io/Console"), (.object "java/io/PrintStream"), (.object "java/util/Properties"), (.object "java/lang/String"), (.object "java/lang/ModuleLayer")]
  resolved := Array.replicate 834 none
  statics := none }

def pool5 : Array CpInfo := pool [(1, u "java/lang/Cloneable"), (0, .class_ 1), (0, u "java/lang/Object"), (0, .class_ 3)] 3

/-- java/lang/Cloneable -/
def k5 : Class := { plain "java/lang/Cloneable" (some 0) with
  accessFlags := 1537
  interfaces := #[]
  cf := some (fileOf pool5 2 #[] #[] 1537 4 #[] #[])
  fields := #[]
  methods := #[]
  instanceTypes := #[]
  staticTypes := #[]
  resolved := Array.replicate 8 none
  statics := none }

def pool6 : Array CpInfo := pool [(1, u "java/io/Serializable"), (0, .class_ 1), (0, u "java/lang/Object"), (0, .class_ 3)] 3

/-- java/io/Serializable -/
def k6 : Class := { plain "java/io/Serializable" (some 0) with
  accessFlags := 1537
  interfaces := #[]
  cf := some (fileOf pool6 2 #[] #[] 1537 4 #[] #[])
  fields := #[]
  methods := #[]
  instanceTypes := #[]
  staticTypes := #[]
  resolved := Array.replicate 8 none
  statics := none }

/-- the primitive byte -/
def k7 : Class := { plain "byte" none with kind := .primitive 'B', accessFlags := 0x411 }
/-- [B -/
def k8 : Class := { plain "[B" (some 0) with kind := .array 7 .byte, interfaces := #[5, 6], accessFlags := 1041 }

/-- the primitive char -/
def k9 : Class := { plain "char" none with kind := .primitive 'C', accessFlags := 0x411 }
/-- [C -/
def k10 : Class := { plain "[C" (some 0) with kind := .array 9 .char, interfaces := #[5, 6], accessFlags := 1041 }

/-- the primitive int -/
def k11 : Class := { plain "int" none with kind := .primitive 'I', accessFlags := 0x411 }
/-- [I -/
def k12 : Class := { plain "[I" (some 0) with kind := .array 11 .int, interfaces := #[5, 6], accessFlags := 1041 }

def heap : Heap := #[]
def classes : Array Class := #[k0, k1, k2, k3, k4, k5, k6, k7, k8, k9, k10, k11, k12]
def interned : List (Array UInt16 × Addr) := []
def slotsUsed : Nat := 0
def theMethod : MethodId := ⟨1, 3⟩
def args0 : Array Value := #[.long 5, .long 3, .long 7, .int 1]
def aboutOver (below : List Frame) : State where
  vm := { classes := classes, interned := interned.toArray }
  heap := heap
  slotsUsed := slotsUsed
  threads := #[{ frames := .invoking theMethod args0 :: below }]
def below0 : List Frame := [.native { method := ⟨0, 0⟩, args := #[] }]
def about1 : State := aboutOver below0
def p0 : Program := .bare "" "" ""
def e0 : Env := launch0.env 0 0 0
theorem w_frames : about1.frames = Frame.invoking theMethod args0 :: below0 := rfl
set_option maxRecDepth 65536 in
theorem w_args : argsFit about1.vm theMethod args0 = true := by decide +kernel
set_option maxRecDepth 65536 in
theorem w_heap : heapFits about1 = true := by decide +kernel
set_option maxRecDepth 65536 in
theorem w_runnable : about1.curStatus? = some .runnable := by decide +kernel
set_option maxRecDepth 65536 in
theorem w_alone : about1.alone = true := by decide +kernel
set_option maxRecDepth 65536 in
theorem w_named : about1.methodNamed? x = some theMethod := by decide +kernel
set_option maxRecDepth 65536 in
theorem w_hears : about1.hears theMethod below0 = true := by decide +kernel
set_option maxRecDepth 65536 in
theorem w_ripe : about1.ripe theMethod args0 below0 = true := by decide +kernel
theorem w_running : about1.status = .running := rfl
set_option maxRecDepth 65536 in
theorem w_room : about1.hasRoom e0.platform room_1 = true :=
  launch0.hasRoom_least _ room_1 (by decide +kernel) (by decide +kernel) (by decide +kernel) (by decide +kernel) (by decide +kernel) (by decide +kernel)
theorem allAtoms_all (ts : List Jvm.Cond) (a : Array Jvm.Value) (st : Jvm.State) : (allAtoms ts).before a st = ts.all (fun c => c.before a st) := by
  induction ts with
  | nil => rfl
  | cons c t ih =>
    show (Jvm.Cond.and c (allAtoms t)).before a st = _
    rw [Jvm.Cond.before_and, ih, List.all_cons]
def words1 : List Jvm.Cond := Jvm.Cond.code x code maxLocals ret :: tables_1
/-- a 'code' word, met by the world's own term for the bytes: nothing is compared byte by byte -/
theorem code_word {y : MethodName} {bytes : ByteArray} {mx : Nat} {rt : Option FieldType} {a : Array Value} {s : State} {m : MethodId} {meth : Method} {c : Code} (h1 : s.methodNamed? y = some m) (h2 : s.vm.method? m = some meth) (h3 : meth.code = some c) (h4 : c.code = bytes)
    (h5 : (c.maxLocals == mx && c.exceptionTable.isEmpty && decide (c.maxStack ≤ mostOperands) && decide (meth.sig.returnType = rt) && !meth.locks && decide (parseMethodDescriptor y.desc = some meth.sig)) = true) : (Jvm.Cond.code y bytes mx rt).before a s = true := by
  simp only [Bool.and_eq_true, beq_iff_eq, Bool.not_eq_true', decide_eq_true_eq] at h5
  obtain ⟨⟨⟨⟨⟨g1, g2⟩, g3⟩, g4⟩, g5⟩, g6⟩ := h5
  simp [Cond.before, Cond.holds, Cond.value, h1, h2, h3, h4, g1, g2, g3, g4, g5, g6]
def isCode : Jvm.Cond → Bool
  | .code _ _ _ _ => true
  | _ => false
theorem all_split {L : List Jvm.Cond} {P : Jvm.Cond → Bool} (h1 : L.all (fun c => isCode c || P c) = true) (h2 : ∀ c ∈ L.filter isCode, P c = true) : L.all P = true := by
  refine List.all_eq_true.mpr fun c hc => ?_
  have h := List.all_eq_true.mp h1 c hc
  rcases Bool.eq_false_or_eq_true (isCode c) with hi | hi
  · exact h2 c (List.mem_filter.mpr ⟨hc, hi⟩)
  · simpa [hi] using h
set_option maxRecDepth 65536 in
theorem w_c0 : (Jvm.Cond.code x code maxLocals ret).before args0 about1 = true := code_word (m := ⟨1, 3⟩) (meth := k1m3) (c := k1c3) (by decide +kernel) rfl rfl rfl (by decide +kernel)
set_option maxRecDepth 65536 in
theorem w_c1 : (Jvm.Cond.code ({ cls := "com/example/micro_ranker/microranker/engine/TextsHoldsPinLaw", name := "bit", desc := "(II)Z" } : Jvm.MethodName) method_3_code (2 : Nat) (Option.some Jvm.ClassFile.FieldType.boolean)).before args0 about1 = true := code_word (m := ⟨1, 2⟩) (meth := k1m2) (c := k1c2) (by decide +kernel) rfl rfl rfl (by decide +kernel)
set_option maxRecDepth 65536 in
theorem w_c2 : (Jvm.Cond.code ({ cls := "com/example/micro_ranker/microranker/engine/TextsHoldsPinLaw", name := "ch", desc := "(JIZ)C" } : Jvm.MethodName) method_2_code (5 : Nat) (Option.some Jvm.ClassFile.FieldType.char)).before args0 about1 = true := code_word (m := ⟨1, 1⟩) (meth := k1m1) (c := k1c1) (by decide +kernel) rfl rfl rfl (by decide +kernel)
set_option maxRecDepth 65536 in
theorem w_c3 : (Jvm.Cond.code ({ cls := "com/example/micro_ranker/microranker/engine/Texts", name := "<init>", desc := "()V" } : Jvm.MethodName) prog_60_method_1_code (1 : Nat) (Option.none : Option Jvm.ClassFile.FieldType)).before args0 about1 = true := code_word (m := ⟨2, 0⟩) (meth := k2m0) (c := k2c0) (by decide +kernel) rfl rfl rfl (by decide +kernel)
set_option maxRecDepth 65536 in
theorem w_c4 : (Jvm.Cond.code ({ cls := "com/example/micro_ranker/microranker/engine/Texts", name := "<init>", desc := "([B[C[II)V" } : Jvm.MethodName) prog_60_method_2_code (5 : Nat) (Option.none : Option Jvm.ClassFile.FieldType)).before args0 about1 = true := code_word (m := ⟨2, 1⟩) (meth := k2m1) (c := k2c1) (by decide +kernel) rfl rfl rfl (by decide +kernel)
set_option maxRecDepth 65536 in
theorem w_c5 : (Jvm.Cond.code ({ cls := "java/lang/Object", name := "<init>", desc := "()V" } : Jvm.MethodName) object_method_1_code (1 : Nat) (Option.none : Option Jvm.ClassFile.FieldType)).before args0 about1 = true := code_word (m := ⟨0, 0⟩) (meth := k0m0) (c := k0c0) (by decide +kernel) rfl rfl rfl (by decide +kernel)
set_option maxRecDepth 65536 in
theorem w_c6 : (Jvm.Cond.code ({ cls := "com/example/micro_ranker/microranker/engine/Texts", name := "add", desc := "([CI)I" } : Jvm.MethodName) prog_60_method_6_code (5 : Nat) (Option.some Jvm.ClassFile.FieldType.int)).before args0 about1 = true := code_word (m := ⟨2, 3⟩) (meth := k2m3) (c := k2c3) (by decide +kernel) rfl rfl rfl (by decide +kernel)
set_option maxRecDepth 65536 in
theorem w_c7 : (Jvm.Cond.code ({ cls := "com/example/micro_ranker/microranker/engine/Texts", name := "isNarrow", desc := "([CI)Z" } : Jvm.MethodName) prog_60_method_8_code (3 : Nat) (Option.some Jvm.ClassFile.FieldType.boolean)).before args0 about1 = true := code_word (m := ⟨2, 4⟩) (meth := k2m4) (c := k2c4) (by decide +kernel) rfl rfl rfl (by decide +kernel)
set_option maxRecDepth 65536 in
theorem w_c8 : (Jvm.Cond.code ({ cls := "com/example/micro_ranker/microranker/engine/Texts", name := "holds", desc := "(I[CI)Z" } : Jvm.MethodName) prog_60_method_5_code (6 : Nat) (Option.some Jvm.ClassFile.FieldType.boolean)).before args0 about1 = true := code_word (m := ⟨2, 2⟩) (meth := k2m2) (c := k2c2) (by decide +kernel) rfl rfl rfl (by decide +kernel)
set_option maxRecDepth 65536 in
theorem w_c9 : (Jvm.Cond.code ({ cls := "com/example/micro_ranker/microranker/engine/Texts", name := "widen", desc := "(I)V" } : Jvm.MethodName) prog_60_method_9_code (5 : Nat) (Option.none : Option Jvm.ClassFile.FieldType)).before args0 about1 = true := code_word (m := ⟨2, 5⟩) (meth := k2m5) (c := k2c5) (by decide +kernel) rfl rfl rfl (by decide +kernel)
set_option maxRecDepth 65536 in
theorem w_c10 : (Jvm.Cond.code ({ cls := "com/example/micro_ranker/microranker/engine/Texts", name := "grownLength", desc := "(II)I" } : Jvm.MethodName) prog_60_method_10_code (2 : Nat) (Option.some Jvm.ClassFile.FieldType.int)).before args0 about1 = true := code_word (m := ⟨2, 6⟩) (meth := k2m6) (c := k2c6) (by decide +kernel) rfl rfl rfl (by decide +kernel)
set_option maxRecDepth 65536 in
theorem w_c11 : (Jvm.Cond.code ({ cls := "java/lang/Math", name := "max", desc := "(JJ)J" } : Jvm.MethodName) jdk_29_method_66_code (4 : Nat) (Option.some Jvm.ClassFile.FieldType.long)).before args0 about1 = true := code_word (m := ⟨3, 1⟩) (meth := k3m1) (c := k3c1) (by decide +kernel) rfl rfl rfl (by decide +kernel)
set_option maxRecDepth 65536 in
theorem w_c12 : (Jvm.Cond.code ({ cls := "java/lang/Math", name := "min", desc := "(JJ)J" } : Jvm.MethodName) jdk_29_method_70_code (4 : Nat) (Option.some Jvm.ClassFile.FieldType.long)).before args0 about1 = true := code_word (m := ⟨3, 2⟩) (meth := k3m2) (c := k3c2) (by decide +kernel) rfl rfl rfl (by decide +kernel)
def codes1 : List Jvm.Cond := [Jvm.Cond.code x code maxLocals ret, Jvm.Cond.code ({ cls := "com/example/micro_ranker/microranker/engine/TextsHoldsPinLaw", name := "bit", desc := "(II)Z" } : Jvm.MethodName) method_3_code (2 : Nat) (Option.some Jvm.ClassFile.FieldType.boolean), Jvm.Cond.code ({ cls := "com/example/micro_ranker/microranker/engine/TextsHoldsPinLaw", name := "ch", desc := "(JIZ)C" } : Jvm.MethodName) method_2_code (5 : Nat) (Option.some Jvm.ClassFile.FieldType.char), Jvm.Cond.code ({ cls := "com/example/micro_ranker/microranker/engine/Texts", name := "<init>", desc := "()V" } : Jvm.MethodName) prog_60_method_1_code (1 : Nat) (Option.none : Option Jvm.ClassFile.FieldType), Jvm.Cond.code ({ cls := "com/example/micro_ranker/microranker/engine/Texts", name := "<init>", desc := "([B[C[II)V" } : Jvm.MethodName) prog_60_method_2_code (5 : Nat) (Option.none : Option Jvm.ClassFile.FieldType), Jvm.Cond.code ({ cls := "java/lang/Object", name := "<init>", desc := "()V" } : Jvm.MethodName) object_method_1_code (1 : Nat) (Option.none : Option Jvm.ClassFile.FieldType), Jvm.Cond.code ({ cls := "com/example/micro_ranker/microranker/engine/Texts", name := "add", desc := "([CI)I" } : Jvm.MethodName) prog_60_method_6_code (5 : Nat) (Option.some Jvm.ClassFile.FieldType.int), Jvm.Cond.code ({ cls := "com/example/micro_ranker/microranker/engine/Texts", name := "isNarrow", desc := "([CI)Z" } : Jvm.MethodName) prog_60_method_8_code (3 : Nat) (Option.some Jvm.ClassFile.FieldType.boolean), Jvm.Cond.code ({ cls := "com/example/micro_ranker/microranker/engine/Texts", name := "holds", desc := "(I[CI)Z" } : Jvm.MethodName) prog_60_method_5_code (6 : Nat) (Option.some Jvm.ClassFile.FieldType.boolean), Jvm.Cond.code ({ cls := "com/example/micro_ranker/microranker/engine/Texts", name := "widen", desc := "(I)V" } : Jvm.MethodName) prog_60_method_9_code (5 : Nat) (Option.none : Option Jvm.ClassFile.FieldType), Jvm.Cond.code ({ cls := "com/example/micro_ranker/microranker/engine/Texts", name := "grownLength", desc := "(II)I" } : Jvm.MethodName) prog_60_method_10_code (2 : Nat) (Option.some Jvm.ClassFile.FieldType.int), Jvm.Cond.code ({ cls := "java/lang/Math", name := "max", desc := "(JJ)J" } : Jvm.MethodName) jdk_29_method_66_code (4 : Nat) (Option.some Jvm.ClassFile.FieldType.long), Jvm.Cond.code ({ cls := "java/lang/Math", name := "min", desc := "(JJ)J" } : Jvm.MethodName) jdk_29_method_70_code (4 : Nat) (Option.some Jvm.ClassFile.FieldType.long)]
set_option maxRecDepth 65536 in
theorem codes_eq : words1.filter isCode = codes1 := rfl
theorem w_codes : ∀ c ∈ words1.filter isCode, c.before args0 about1 = true := by
  rw [codes_eq]
  intro c hc
  simp only [codes1, List.mem_cons, List.not_mem_nil, or_false] at hc
  rcases hc with rfl | rfl | rfl | rfl | rfl | rfl | rfl | rfl | rfl | rfl | rfl | rfl | rfl
  · exact w_c0
  · exact w_c1
  · exact w_c2
  · exact w_c3
  · exact w_c4
  · exact w_c5
  · exact w_c6
  · exact w_c7
  · exact w_c8
  · exact w_c9
  · exact w_c10
  · exact w_c11
  · exact w_c12
set_option maxRecDepth 65536 in
theorem w_t1 : (words1.take 24).all (fun c => isCode c || c.before args0 about1) = true := by decide +kernel
set_option maxRecDepth 65536 in
theorem w_t2 : ((words1.drop 24).take 24).all (fun c => isCode c || c.before args0 about1) = true := by decide +kernel
set_option maxRecDepth 65536 in
theorem w_t3 : ((words1.drop 24).drop 24).all (fun c => isCode c || c.before args0 about1) = true := by decide +kernel
theorem w_tables : (allAtoms (Jvm.Cond.code x code maxLocals ret :: tables_1)).before args0 about1 = true := by
  rw [allAtoms_all]
  show words1.all (fun c => c.before args0 about1) = true
  refine all_split ?_ w_codes
  rw [← List.take_append_drop 24 words1, List.all_append, w_t1, ← List.take_append_drop 24 (words1.drop 24), List.all_append, w_t2, w_t3]
  rfl
set_option maxRecDepth 65536 in
theorem w_case : (Jvm.Cond.and given_1 narrow_1).before args0 about1 = true := by decide +kernel
theorem w_applies : (headSpec (Jvm.Cond.code x code maxLocals ret :: tables_1) room_1).applies x e0.platform about1 = true :=
  (Spec.applies_iff w_frames).mpr ⟨w_running, w_runnable, w_alone, w_named, w_hears, w_ripe, w_room, w_tables⟩
theorem atStart : AtStart classFile x code maxLocals ret World_1 tables_1 room_1 Calls_1 rest_1 Pre_1 launch0 p0 e0 about1 theMethod args0 below0 :=
  ⟨lists_1, trivial, launch0.admits_env _ _ _, launch0.least_env, fairChoices_fair.cas, fairChoices_fair.clock, w_frames, w_args, w_heap, w_applies, trivial, trivial, w_case⟩
end start1
theorem witness_1 : WitnessClaimed_1 := ⟨start1.p0, start1.e0, start1.about1, start1.theMethod, start1.args0, start1.below0, start1.atStart⟩
end Jvm.Pilot.@@N@@
