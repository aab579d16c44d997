import JvmDerived
import JvmDerived.Pilot.@@N@@Statement
import JvmDerived.Pilot.@@N@@Code
set_option linter.unusedVariables false
set_option linter.unusedSimpArgs false
namespace Jvm.Pilot.@@N@@
open Jvm Jvm.ClassFile Sem Op Lib Jvm.Free Jvm.Stand Jvm.LawKit Jvm.RoadKit Bundle Jvm.Pilot.@@N@@.Jvm.D
/-! 1. the walk's own words -/
def OG (tb : Tables) (e : Env) (below : List Frame) (P : Outcome → State → Prop) (A : State) : Prop :=
  ∃ s₂ o, Steps tb e below A s₂ ∧ s₂.status = .running ∧ Ended s₂ below o ∧ P o s₂
theorem OG.of {tb : Tables} {e : Env} {below : List Frame} {P : Outcome → State → Prop} {A B : State} (h : OG tb e below P B) (k : ∀ t, Steps tb e below B t → Steps tb e below A t) : OG tb e below P A := by
  obtain ⟨t, o, st, r⟩ := h
  exact ⟨t, o, k t st, r⟩
def Bx (own : String) (bs : ByteArray) (ml : Nat) (Z : State) (p : Program) (l : Launch) (e : Env) (R : Room) (s : State) (m : MethodId) (args : Array Value) (below : List Frame) (meth : Method) (c : Code) (T : State) (h : Heap) (locs : List Loc) (cells slots : Nat) : Prop :=
  Stand p l e R s m args below meth c T locs cells slots ∧ p.tables.exec = Jvm.exec ∧ c.code = bs ∧ c.maxLocals = ml ∧ s.vm.findClass own = some m.cls ∧ Z.Warmed39 s.vm ∧ T.heap = h
section Walk
variable {own : String} {bs : ByteArray} {ml : Nat} {Z : State} {p : Program} {l : Launch} {e : Env} {R : Room} {s : State} {m : MethodId} {args : Array Value} {below : List Frame} {meth : Method} {c : Code} {T : State} {h : Heap} {locs : List Loc} {cells slots : Nat} {P : Outcome → State → Prop} {Ls : Array Slot} {rest : List Value} {a0 : Array Value}
theorem o_iadd (B : Bx own bs ml Z p l e R s m args below meth c T h locs cells slots) (pc pc' : Nat) {x y : Int32} (hd : decode bs pc = .ok (.iadd, 1)) (hp : pc + 1 = pc') 
    (hr : OG p.tables e below P (T.setTop (mkF m pc' Ls (.int (x + y) :: rest)))) : OG p.tables e below P (T.setTop (mkF m pc Ls (.int y :: .int x :: rest))) := by
  subst hp
  obtain ⟨X, hx, hby, hml, hown, hZ, eT⟩ := B
  exact hr.of fun t k => XS.iadd X.here hx rfl (hb hby hd) rfl k
theorem o_isub (B : Bx own bs ml Z p l e R s m args below meth c T h locs cells slots) (pc pc' : Nat) {x y : Int32} (hd : decode bs pc = .ok (.isub, 1)) (hp : pc + 1 = pc') 
    (hr : OG p.tables e below P (T.setTop (mkF m pc' Ls (.int (x - y) :: rest)))) : OG p.tables e below P (T.setTop (mkF m pc Ls (.int y :: .int x :: rest))) := by
  subst hp
  obtain ⟨X, hx, hby, hml, hown, hZ, eT⟩ := B
  exact hr.of fun t k => XS.isub X.here hx rfl (hb hby hd) rfl k
theorem o_imul (B : Bx own bs ml Z p l e R s m args below meth c T h locs cells slots) (pc pc' : Nat) {x y : Int32} (hd : decode bs pc = .ok (.imul, 1)) (hp : pc + 1 = pc') 
    (hr : OG p.tables e below P (T.setTop (mkF m pc' Ls (.int (x * y) :: rest)))) : OG p.tables e below P (T.setTop (mkF m pc Ls (.int y :: .int x :: rest))) := by
  subst hp
  obtain ⟨X, hx, hby, hml, hown, hZ, eT⟩ := B
  exact hr.of fun t k => XS.imul X.here hx rfl (hb hby hd) rfl k
theorem o_iand (B : Bx own bs ml Z p l e R s m args below meth c T h locs cells slots) (pc pc' : Nat) {x y : Int32} (hd : decode bs pc = .ok (.iand, 1)) (hp : pc + 1 = pc') 
    (hr : OG p.tables e below P (T.setTop (mkF m pc' Ls (.int (x &&& y) :: rest)))) : OG p.tables e below P (T.setTop (mkF m pc Ls (.int y :: .int x :: rest))) := by
  subst hp
  obtain ⟨X, hx, hby, hml, hown, hZ, eT⟩ := B
  exact hr.of fun t k => XS.iand X.here hx rfl (hb hby hd) rfl k
theorem o_ior (B : Bx own bs ml Z p l e R s m args below meth c T h locs cells slots) (pc pc' : Nat) {x y : Int32} (hd : decode bs pc = .ok (.ior, 1)) (hp : pc + 1 = pc') 
    (hr : OG p.tables e below P (T.setTop (mkF m pc' Ls (.int (x ||| y) :: rest)))) : OG p.tables e below P (T.setTop (mkF m pc Ls (.int y :: .int x :: rest))) := by
  subst hp
  obtain ⟨X, hx, hby, hml, hown, hZ, eT⟩ := B
  exact hr.of fun t k => XT.ior X.here hx rfl (hb hby hd) rfl k
theorem o_ixor (B : Bx own bs ml Z p l e R s m args below meth c T h locs cells slots) (pc pc' : Nat) {x y : Int32} (hd : decode bs pc = .ok (.ixor, 1)) (hp : pc + 1 = pc') 
    (hr : OG p.tables e below P (T.setTop (mkF m pc' Ls (.int (x ^^^ y) :: rest)))) : OG p.tables e below P (T.setTop (mkF m pc Ls (.int y :: .int x :: rest))) := by
  subst hp
  obtain ⟨X, hx, hby, hml, hown, hZ, eT⟩ := B
  exact hr.of fun t k => XT.ixor X.here hx rfl (hb hby hd) rfl k
theorem o_ishl (B : Bx own bs ml Z p l e R s m args below meth c T h locs cells slots) (pc pc' : Nat) {x y : Int32} (hd : decode bs pc = .ok (.ishl, 1)) (hp : pc + 1 = pc') 
    (hr : OG p.tables e below P (T.setTop (mkF m pc' Ls (.int (x <<< (y &&& 31)) :: rest)))) : OG p.tables e below P (T.setTop (mkF m pc Ls (.int y :: .int x :: rest))) := by
  subst hp
  obtain ⟨X, hx, hby, hml, hown, hZ, eT⟩ := B
  exact hr.of fun t k => XT.ishl X.here hx rfl (hb hby hd) rfl k
theorem o_ishr (B : Bx own bs ml Z p l e R s m args below meth c T h locs cells slots) (pc pc' : Nat) {x y : Int32} (hd : decode bs pc = .ok (.ishr, 1)) (hp : pc + 1 = pc') 
    (hr : OG p.tables e below P (T.setTop (mkF m pc' Ls (.int (x >>> (y &&& 31)) :: rest)))) : OG p.tables e below P (T.setTop (mkF m pc Ls (.int y :: .int x :: rest))) := by
  subst hp
  obtain ⟨X, hx, hby, hml, hown, hZ, eT⟩ := B
  exact hr.of fun t k => XT.ishr X.here hx rfl (hb hby hd) rfl k
theorem o_iushr (B : Bx own bs ml Z p l e R s m args below meth c T h locs cells slots) (pc pc' : Nat) {x y : Int32} (hd : decode bs pc = .ok (.iushr, 1)) (hp : pc + 1 = pc') 
    (hr : OG p.tables e below P (T.setTop (mkF m pc' Ls (.int (XT.ushr x y) :: rest)))) : OG p.tables e below P (T.setTop (mkF m pc Ls (.int y :: .int x :: rest))) := by
  subst hp
  obtain ⟨X, hx, hby, hml, hown, hZ, eT⟩ := B
  exact hr.of fun t k => XT.iushr X.here hx rfl (hb hby hd) rfl k
theorem o_idiv (B : Bx own bs ml Z p l e R s m args below meth c T h locs cells slots) (pc pc' : Nat) {x y : Int32} (hd : decode bs pc = .ok (.idiv, 1)) (hp : pc + 1 = pc') (hy : y ≠ 0)
    (hr : OG p.tables e below P (T.setTop (mkF m pc' Ls (.int (x / y) :: rest)))) : OG p.tables e below P (T.setTop (mkF m pc Ls (.int y :: .int x :: rest))) := by
  subst hp
  obtain ⟨X, hx, hby, hml, hown, hZ, eT⟩ := B
  exact hr.of fun t k => XS.idiv X.here hx rfl (hb hby hd) rfl hy k
theorem o_irem (B : Bx own bs ml Z p l e R s m args below meth c T h locs cells slots) (pc pc' : Nat) {x y : Int32} (hd : decode bs pc = .ok (.irem, 1)) (hp : pc + 1 = pc') (hy : y ≠ 0)
    (hr : OG p.tables e below P (T.setTop (mkF m pc' Ls (.int (x % y) :: rest)))) : OG p.tables e below P (T.setTop (mkF m pc Ls (.int y :: .int x :: rest))) := by
  subst hp
  obtain ⟨X, hx, hby, hml, hown, hZ, eT⟩ := B
  exact hr.of fun t k => XS.irem X.here hx rfl (hb hby hd) rfl hy (by rw [irem_eq_mod]; exact k)
theorem o_ladd (B : Bx own bs ml Z p l e R s m args below meth c T h locs cells slots) (pc pc' : Nat) {x y : Int64} (hd : decode bs pc = .ok (.ladd, 1)) (hp : pc + 1 = pc') 
    (hr : OG p.tables e below P (T.setTop (mkF m pc' Ls (.long (x + y) :: rest)))) : OG p.tables e below P (T.setTop (mkF m pc Ls (.long y :: .long x :: rest))) := by
  subst hp
  obtain ⟨X, hx, hby, hml, hown, hZ, eT⟩ := B
  exact hr.of fun t k => XT.ladd X.here hx rfl (hb hby hd) rfl k
theorem o_lsub (B : Bx own bs ml Z p l e R s m args below meth c T h locs cells slots) (pc pc' : Nat) {x y : Int64} (hd : decode bs pc = .ok (.lsub, 1)) (hp : pc + 1 = pc') 
    (hr : OG p.tables e below P (T.setTop (mkF m pc' Ls (.long (x - y) :: rest)))) : OG p.tables e below P (T.setTop (mkF m pc Ls (.long y :: .long x :: rest))) := by
  subst hp
  obtain ⟨X, hx, hby, hml, hown, hZ, eT⟩ := B
  exact hr.of fun t k => XT.lsub X.here hx rfl (hb hby hd) rfl k
theorem o_lmul (B : Bx own bs ml Z p l e R s m args below meth c T h locs cells slots) (pc pc' : Nat) {x y : Int64} (hd : decode bs pc = .ok (.lmul, 1)) (hp : pc + 1 = pc') 
    (hr : OG p.tables e below P (T.setTop (mkF m pc' Ls (.long (x * y) :: rest)))) : OG p.tables e below P (T.setTop (mkF m pc Ls (.long y :: .long x :: rest))) := by
  subst hp
  obtain ⟨X, hx, hby, hml, hown, hZ, eT⟩ := B
  exact hr.of fun t k => XT.lmul X.here hx rfl (hb hby hd) rfl k
theorem o_land (B : Bx own bs ml Z p l e R s m args below meth c T h locs cells slots) (pc pc' : Nat) {x y : Int64} (hd : decode bs pc = .ok (.land, 1)) (hp : pc + 1 = pc') 
    (hr : OG p.tables e below P (T.setTop (mkF m pc' Ls (.long (x &&& y) :: rest)))) : OG p.tables e below P (T.setTop (mkF m pc Ls (.long y :: .long x :: rest))) := by
  subst hp
  obtain ⟨X, hx, hby, hml, hown, hZ, eT⟩ := B
  exact hr.of fun t k => XT.land X.here hx rfl (hb hby hd) rfl k
theorem o_lor (B : Bx own bs ml Z p l e R s m args below meth c T h locs cells slots) (pc pc' : Nat) {x y : Int64} (hd : decode bs pc = .ok (.lor, 1)) (hp : pc + 1 = pc') 
    (hr : OG p.tables e below P (T.setTop (mkF m pc' Ls (.long (x ||| y) :: rest)))) : OG p.tables e below P (T.setTop (mkF m pc Ls (.long y :: .long x :: rest))) := by
  subst hp
  obtain ⟨X, hx, hby, hml, hown, hZ, eT⟩ := B
  exact hr.of fun t k => XT.lor X.here hx rfl (hb hby hd) rfl k
theorem o_lxor (B : Bx own bs ml Z p l e R s m args below meth c T h locs cells slots) (pc pc' : Nat) {x y : Int64} (hd : decode bs pc = .ok (.lxor, 1)) (hp : pc + 1 = pc') 
    (hr : OG p.tables e below P (T.setTop (mkF m pc' Ls (.long (x ^^^ y) :: rest)))) : OG p.tables e below P (T.setTop (mkF m pc Ls (.long y :: .long x :: rest))) := by
  subst hp
  obtain ⟨X, hx, hby, hml, hown, hZ, eT⟩ := B
  exact hr.of fun t k => XT.lxor X.here hx rfl (hb hby hd) rfl k
theorem o_ldiv (B : Bx own bs ml Z p l e R s m args below meth c T h locs cells slots) (pc pc' : Nat) {x y : Int64} (hd : decode bs pc = .ok (.ldiv, 1)) (hp : pc + 1 = pc') (hy : y ≠ 0)
    (hr : OG p.tables e below P (T.setTop (mkF m pc' Ls (.long (x / y) :: rest)))) : OG p.tables e below P (T.setTop (mkF m pc Ls (.long y :: .long x :: rest))) := by
  subst hp
  obtain ⟨X, hx, hby, hml, hown, hZ, eT⟩ := B
  exact hr.of fun t k => XT.ldiv X.here hx rfl (hb hby hd) rfl hy k
theorem o_lrem (B : Bx own bs ml Z p l e R s m args below meth c T h locs cells slots) (pc pc' : Nat) {x y : Int64} (hd : decode bs pc = .ok (.lrem, 1)) (hp : pc + 1 = pc') (hy : y ≠ 0)
    (hr : OG p.tables e below P (T.setTop (mkF m pc' Ls (.long (x % y) :: rest)))) : OG p.tables e below P (T.setTop (mkF m pc Ls (.long y :: .long x :: rest))) := by
  subst hp
  obtain ⟨X, hx, hby, hml, hown, hZ, eT⟩ := B
  exact hr.of fun t k => XT.lrem X.here hx rfl (hb hby hd) rfl hy (by rw [lrem_mod]; exact k)
theorem o_lshl (B : Bx own bs ml Z p l e R s m args below meth c T h locs cells slots) (pc pc' : Nat) {x : Int64} {y : Int32} (hd : decode bs pc = .ok (.lshl, 1)) (hp : pc + 1 = pc') 
    (hr : OG p.tables e below P (T.setTop (mkF m pc' Ls (.long (x <<< (y.toInt64 &&& 63)) :: rest)))) : OG p.tables e below P (T.setTop (mkF m pc Ls (.int y :: .long x :: rest))) := by
  subst hp
  obtain ⟨X, hx, hby, hml, hown, hZ, eT⟩ := B
  exact hr.of fun t k => XT.lshl X.here hx rfl (hb hby hd) rfl k
theorem o_lshr (B : Bx own bs ml Z p l e R s m args below meth c T h locs cells slots) (pc pc' : Nat) {x : Int64} {y : Int32} (hd : decode bs pc = .ok (.lshr, 1)) (hp : pc + 1 = pc') 
    (hr : OG p.tables e below P (T.setTop (mkF m pc' Ls (.long (x >>> (y.toInt64 &&& 63)) :: rest)))) : OG p.tables e below P (T.setTop (mkF m pc Ls (.int y :: .long x :: rest))) := by
  subst hp
  obtain ⟨X, hx, hby, hml, hown, hZ, eT⟩ := B
  exact hr.of fun t k => XT.lshr X.here hx rfl (hb hby hd) rfl k
theorem o_lushr (B : Bx own bs ml Z p l e R s m args below meth c T h locs cells slots) (pc pc' : Nat) {x : Int64} {y : Int32} (hd : decode bs pc = .ok (.lushr, 1)) (hp : pc + 1 = pc') 
    (hr : OG p.tables e below P (T.setTop (mkF m pc' Ls (.long (XT.ushrL x y) :: rest)))) : OG p.tables e below P (T.setTop (mkF m pc Ls (.int y :: .long x :: rest))) := by
  subst hp
  obtain ⟨X, hx, hby, hml, hown, hZ, eT⟩ := B
  exact hr.of fun t k => XT.lushr X.here hx rfl (hb hby hd) rfl k
theorem o_lcmp (B : Bx own bs ml Z p l e R s m args below meth c T h locs cells slots) (pc pc' : Nat) {x y : Int64} (hd : decode bs pc = .ok (.lcmp, 1)) (hp : pc + 1 = pc') 
    (hr : OG p.tables e below P (T.setTop (mkF m pc' Ls (.int (XT.cmpL x y) :: rest)))) : OG p.tables e below P (T.setTop (mkF m pc Ls (.long y :: .long x :: rest))) := by
  subst hp
  obtain ⟨X, hx, hby, hml, hown, hZ, eT⟩ := B
  exact hr.of fun t k => XT.lcmp X.here hx rfl (hb hby hd) rfl k
theorem o_ineg (B : Bx own bs ml Z p l e R s m args below meth c T h locs cells slots) (pc pc' : Nat) {x : Int32} (hd : decode bs pc = .ok (.ineg, 1)) (hp : pc + 1 = pc') 
    (hr : OG p.tables e below P (T.setTop (mkF m pc' Ls (.int (-x) :: rest)))) : OG p.tables e below P (T.setTop (mkF m pc Ls (.int x :: rest))) := by
  subst hp
  obtain ⟨X, hx, hby, hml, hown, hZ, eT⟩ := B
  exact hr.of fun t k => XS.ineg X.here hx rfl (hb hby hd) rfl k
theorem o_lneg (B : Bx own bs ml Z p l e R s m args below meth c T h locs cells slots) (pc pc' : Nat) {x : Int64} (hd : decode bs pc = .ok (.lneg, 1)) (hp : pc + 1 = pc') 
    (hr : OG p.tables e below P (T.setTop (mkF m pc' Ls (.long (-x) :: rest)))) : OG p.tables e below P (T.setTop (mkF m pc Ls (.long x :: rest))) := by
  subst hp
  obtain ⟨X, hx, hby, hml, hown, hZ, eT⟩ := B
  exact hr.of fun t k => XT.lneg X.here hx rfl (hb hby hd) rfl k
theorem o_i2l (B : Bx own bs ml Z p l e R s m args below meth c T h locs cells slots) (pc pc' : Nat) {x : Int32} (hd : decode bs pc = .ok (.i2l, 1)) (hp : pc + 1 = pc') 
    (hr : OG p.tables e below P (T.setTop (mkF m pc' Ls (.long (x.toInt64) :: rest)))) : OG p.tables e below P (T.setTop (mkF m pc Ls (.int x :: rest))) := by
  subst hp
  obtain ⟨X, hx, hby, hml, hown, hZ, eT⟩ := B
  exact hr.of fun t k => XT.i2l X.here hx rfl (hb hby hd) rfl k
theorem o_l2i (B : Bx own bs ml Z p l e R s m args below meth c T h locs cells slots) (pc pc' : Nat) {x : Int64} (hd : decode bs pc = .ok (.l2i, 1)) (hp : pc + 1 = pc') 
    (hr : OG p.tables e below P (T.setTop (mkF m pc' Ls (.int (x.toInt32) :: rest)))) : OG p.tables e below P (T.setTop (mkF m pc Ls (.long x :: rest))) := by
  subst hp
  obtain ⟨X, hx, hby, hml, hown, hZ, eT⟩ := B
  exact hr.of fun t k => XT.l2i X.here hx rfl (hb hby hd) rfl k
theorem o_i2b (B : Bx own bs ml Z p l e R s m args below meth c T h locs cells slots) (pc pc' : Nat) {x : Int32} (hd : decode bs pc = .ok (.i2b, 1)) (hp : pc + 1 = pc') 
    (hr : OG p.tables e below P (T.setTop (mkF m pc' Ls (.int (x.toInt8.toInt32) :: rest)))) : OG p.tables e below P (T.setTop (mkF m pc Ls (.int x :: rest))) := by
  subst hp
  obtain ⟨X, hx, hby, hml, hown, hZ, eT⟩ := B
  exact hr.of fun t k => XT.i2b X.here hx rfl (hb hby hd) rfl k
theorem o_i2c (B : Bx own bs ml Z p l e R s m args below meth c T h locs cells slots) (pc pc' : Nat) {x : Int32} (hd : decode bs pc = .ok (.i2c, 1)) (hp : pc + 1 = pc') 
    (hr : OG p.tables e below P (T.setTop (mkF m pc' Ls (.int (x.toUInt32.toUInt16.toUInt32.toInt32) :: rest)))) : OG p.tables e below P (T.setTop (mkF m pc Ls (.int x :: rest))) := by
  subst hp
  obtain ⟨X, hx, hby, hml, hown, hZ, eT⟩ := B
  exact hr.of fun t k => XT.i2c X.here hx rfl (hb hby hd) rfl k
theorem o_i2s (B : Bx own bs ml Z p l e R s m args below meth c T h locs cells slots) (pc pc' : Nat) {x : Int32} (hd : decode bs pc = .ok (.i2s, 1)) (hp : pc + 1 = pc') 
    (hr : OG p.tables e below P (T.setTop (mkF m pc' Ls (.int (x.toInt16.toInt32) :: rest)))) : OG p.tables e below P (T.setTop (mkF m pc Ls (.int x :: rest))) := by
  subst hp
  obtain ⟨X, hx, hby, hml, hown, hZ, eT⟩ := B
  exact hr.of fun t k => XT.i2s X.here hx rfl (hb hby hd) rfl k
theorem o_iconst (B : Bx own bs ml Z p l e R s m args below meth c T h locs cells slots) (pc pc' : Nat) {i : Int} (v : Int32) (hd : decode bs pc = .ok (.iconst i, 1)) (hp : pc + 1 = pc') (hv : Int32.ofInt i = v)
    (hr : OG p.tables e below P (T.setTop (mkF m pc' Ls (.int v :: rest)))) : OG p.tables e below P (T.setTop (mkF m pc Ls rest)) := by
  subst hp
  obtain ⟨X, hx, hby, hml, hown, hZ, eT⟩ := B
  exact hr.of fun t k => XT.iconstV X.here hx rfl v (hb hby hd) hv k
theorem o_bipush (B : Bx own bs ml Z p l e R s m args below meth c T h locs cells slots) (pc pc' : Nat) {i : Int} (v : Int32) (hd : decode bs pc = .ok (.bipush i, 2)) (hp : pc + 2 = pc') (hv : (Int8.ofInt i).toInt32 = v)
    (hr : OG p.tables e below P (T.setTop (mkF m pc' Ls (.int v :: rest)))) : OG p.tables e below P (T.setTop (mkF m pc Ls rest)) := by
  subst hp
  obtain ⟨X, hx, hby, hml, hown, hZ, eT⟩ := B
  exact hr.of fun t k => XT.bipushV X.here hx rfl v (hb hby hd) hv k
theorem o_sipush (B : Bx own bs ml Z p l e R s m args below meth c T h locs cells slots) (pc pc' : Nat) {i : Int} (v : Int32) (hd : decode bs pc = .ok (.sipush i, 3)) (hp : pc + 3 = pc') (hv : (Int16.ofInt i).toInt32 = v)
    (hr : OG p.tables e below P (T.setTop (mkF m pc' Ls (.int v :: rest)))) : OG p.tables e below P (T.setTop (mkF m pc Ls rest)) := by
  subst hp
  obtain ⟨X, hx, hby, hml, hown, hZ, eT⟩ := B
  exact hr.of fun t k => XT.sipushV X.here hx rfl v (hb hby hd) hv k
theorem o_lconst (B : Bx own bs ml Z p l e R s m args below meth c T h locs cells slots) (pc pc' : Nat) {i : Fin 2} (v : Int64) (hd : decode bs pc = .ok (.lconst i, 1)) (hp : pc + 1 = pc') (hv : Int64.ofNat i = v)
    (hr : OG p.tables e below P (T.setTop (mkF m pc' Ls (.long v :: rest)))) : OG p.tables e below P (T.setTop (mkF m pc Ls rest)) := by
  subst hp
  obtain ⟨X, hx, hby, hml, hown, hZ, eT⟩ := B
  exact hr.of fun t k => XT.lconstV X.here hx rfl v (hb hby hd) hv k
theorem o_aconst_null (B : Bx own bs ml Z p l e R s m args below meth c T h locs cells slots) (pc pc' : Nat)  (hd : decode bs pc = .ok (.aconst_null, 1)) (hp : pc + 1 = pc') 
    (hr : OG p.tables e below P (T.setTop (mkF m pc' Ls (.null :: rest)))) : OG p.tables e below P (T.setTop (mkF m pc Ls rest)) := by
  subst hp
  obtain ⟨X, hx, hby, hml, hown, hZ, eT⟩ := B
  exact hr.of fun t k => XS.aconstNull X.here hx rfl (hb hby hd) k
theorem o_iloadN (B : Bx own bs ml Z p l e R s m args below meth c T h locs cells slots) (pc pc' : Nat) {k : Fin 4} {v : Int32} (hd : decode bs pc = .ok (.iload_n k, 1)) (hp : pc + 1 = pc') (hl : Ls[k.val]? = some (.val (.int v)))
    (hr : OG p.tables e below P (T.setTop (mkF m pc' Ls (.int v :: rest)))) : OG p.tables e below P (T.setTop (mkF m pc Ls rest)) := by
  subst hp
  obtain ⟨X, hx, hby, hml, hown, hZ, eT⟩ := B
  exact hr.of fun t k => XS.iloadN X.here hx rfl (hb hby hd) hl k
theorem o_iload (B : Bx own bs ml Z p l e R s m args below meth c T h locs cells slots) (pc pc' : Nat) {k : Nat} {v : Int32} (hd : decode bs pc = .ok (.iload k, 2)) (hp : pc + 2 = pc') (hl : Ls[k]? = some (.val (.int v)))
    (hr : OG p.tables e below P (T.setTop (mkF m pc' Ls (.int v :: rest)))) : OG p.tables e below P (T.setTop (mkF m pc Ls rest)) := by
  subst hp
  obtain ⟨X, hx, hby, hml, hown, hZ, eT⟩ := B
  exact hr.of fun t k => XS.iload X.here hx rfl (hb hby hd) hl k
theorem o_lloadN (B : Bx own bs ml Z p l e R s m args below meth c T h locs cells slots) (pc pc' : Nat) {k : Fin 4} {v : Int64} (hd : decode bs pc = .ok (.lload_n k, 1)) (hp : pc + 1 = pc') (hl : Ls[k.val]? = some (.val (.long v)))
    (hr : OG p.tables e below P (T.setTop (mkF m pc' Ls (.long v :: rest)))) : OG p.tables e below P (T.setTop (mkF m pc Ls rest)) := by
  subst hp
  obtain ⟨X, hx, hby, hml, hown, hZ, eT⟩ := B
  exact hr.of fun t k => XT.lloadN X.here hx rfl (hb hby hd) hl k
theorem o_lload (B : Bx own bs ml Z p l e R s m args below meth c T h locs cells slots) (pc pc' : Nat) {k : Nat} {v : Int64} (hd : decode bs pc = .ok (.lload k, 2)) (hp : pc + 2 = pc') (hl : Ls[k]? = some (.val (.long v)))
    (hr : OG p.tables e below P (T.setTop (mkF m pc' Ls (.long v :: rest)))) : OG p.tables e below P (T.setTop (mkF m pc Ls rest)) := by
  subst hp
  obtain ⟨X, hx, hby, hml, hown, hZ, eT⟩ := B
  exact hr.of fun t k => XT.lload X.here hx rfl (hb hby hd) hl k
theorem o_aloadN (B : Bx own bs ml Z p l e R s m args below meth c T h locs cells slots) (pc pc' : Nat) {k : Fin 4} {v : Value} (hd : decode bs pc = .ok (.aload_n k, 1)) (hp : pc + 1 = pc') (hl : Ls[k.val]? = some (.val v)) (hv : v.isRef = true)
    (hr : OG p.tables e below P (T.setTop (mkF m pc' Ls (v :: rest)))) : OG p.tables e below P (T.setTop (mkF m pc Ls rest)) := by
  subst hp
  obtain ⟨X, hx, hby, hml, hown, hZ, eT⟩ := B
  exact hr.of fun t k => XS.aloadN X.here hx rfl (hb hby hd) hl hv k
theorem o_aload (B : Bx own bs ml Z p l e R s m args below meth c T h locs cells slots) (pc pc' : Nat) {k : Nat} {v : Value} (hd : decode bs pc = .ok (.aload k, 2)) (hp : pc + 2 = pc') (hl : Ls[k]? = some (.val v)) (hv : v.isRef = true)
    (hr : OG p.tables e below P (T.setTop (mkF m pc' Ls (v :: rest)))) : OG p.tables e below P (T.setTop (mkF m pc Ls rest)) := by
  subst hp
  obtain ⟨X, hx, hby, hml, hown, hZ, eT⟩ := B
  exact hr.of fun t k => XS.aload X.here hx rfl (hb hby hd) hl hv k
theorem o_istoreN (B : Bx own bs ml Z p l e R s m args below meth c T h locs cells slots) (pc pc' : Nat) {k : Fin 4} {x : Int32} {l' : Array Slot} (hd : decode bs pc = .ok (.istore_n k, 1)) (hp : pc + 1 = pc') (hl : storeLocals Ls k.val (.int x) = some l')
    (hr : OG p.tables e below P (T.setTop (mkF m pc' l' rest))) : OG p.tables e below P (T.setTop (mkF m pc Ls (.int x :: rest))) := by
  subst hp
  obtain ⟨X, hx, hby, hml, hown, hZ, eT⟩ := B
  exact hr.of fun t k => XS.istoreN X.here hx rfl (hb hby hd) rfl hl k
theorem o_istore (B : Bx own bs ml Z p l e R s m args below meth c T h locs cells slots) (pc pc' : Nat) {k : Nat} {x : Int32} {l' : Array Slot} (hd : decode bs pc = .ok (.istore k, 2)) (hp : pc + 2 = pc') (hl : storeLocals Ls k (.int x) = some l')
    (hr : OG p.tables e below P (T.setTop (mkF m pc' l' rest))) : OG p.tables e below P (T.setTop (mkF m pc Ls (.int x :: rest))) := by
  subst hp
  obtain ⟨X, hx, hby, hml, hown, hZ, eT⟩ := B
  exact hr.of fun t k => XS.istore X.here hx rfl (hb hby hd) rfl hl k
theorem o_lstoreN (B : Bx own bs ml Z p l e R s m args below meth c T h locs cells slots) (pc pc' : Nat) {k : Fin 4} {x : Int64} {l' : Array Slot} (hd : decode bs pc = .ok (.lstore_n k, 1)) (hp : pc + 1 = pc') (hl : storeLocals Ls k.val (.long x) = some l')
    (hr : OG p.tables e below P (T.setTop (mkF m pc' l' rest))) : OG p.tables e below P (T.setTop (mkF m pc Ls (.long x :: rest))) := by
  subst hp
  obtain ⟨X, hx, hby, hml, hown, hZ, eT⟩ := B
  exact hr.of fun t k => XT.lstoreN X.here hx rfl (hb hby hd) rfl hl k
theorem o_lstore (B : Bx own bs ml Z p l e R s m args below meth c T h locs cells slots) (pc pc' : Nat) {k : Nat} {x : Int64} {l' : Array Slot} (hd : decode bs pc = .ok (.lstore k, 2)) (hp : pc + 2 = pc') (hl : storeLocals Ls k (.long x) = some l')
    (hr : OG p.tables e below P (T.setTop (mkF m pc' l' rest))) : OG p.tables e below P (T.setTop (mkF m pc Ls (.long x :: rest))) := by
  subst hp
  obtain ⟨X, hx, hby, hml, hown, hZ, eT⟩ := B
  exact hr.of fun t k => XT.lstore X.here hx rfl (hb hby hd) rfl hl k
theorem o_astoreN (B : Bx own bs ml Z p l e R s m args below meth c T h locs cells slots) (pc pc' : Nat) {k : Fin 4} {x : Value} {l' : Array Slot} (hd : decode bs pc = .ok (.astore_n k, 1)) (hp : pc + 1 = pc') (hv : x.isRef = true) (hl : storeLocals Ls k.val x = some l')
    (hr : OG p.tables e below P (T.setTop (mkF m pc' l' rest))) : OG p.tables e below P (T.setTop (mkF m pc Ls (x :: rest))) := by
  subst hp
  obtain ⟨X, hx, hby, hml, hown, hZ, eT⟩ := B
  exact hr.of fun t k => XS.astoreN X.here hx rfl (hb hby hd) rfl hv hl k
theorem o_astore (B : Bx own bs ml Z p l e R s m args below meth c T h locs cells slots) (pc pc' : Nat) {k : Nat} {x : Value} {l' : Array Slot} (hd : decode bs pc = .ok (.astore k, 2)) (hp : pc + 2 = pc') (hv : x.isRef = true) (hl : storeLocals Ls k x = some l')
    (hr : OG p.tables e below P (T.setTop (mkF m pc' l' rest))) : OG p.tables e below P (T.setTop (mkF m pc Ls (x :: rest))) := by
  subst hp
  obtain ⟨X, hx, hby, hml, hown, hZ, eT⟩ := B
  exact hr.of fun t k => XS.astore X.here hx rfl (hb hby hd) rfl hv hl k
theorem o_iinc (B : Bx own bs ml Z p l e R s m args below meth c T h locs cells slots) (pc pc' : Nat) {k : Nat} {cst : Int} {x : Int32} {l' : Array Slot} (v : Int32) (hd : decode bs pc = .ok (.iinc k cst, 3)) (hp : pc + 3 = pc') (hv : Int32.ofInt cst = v) (hl : Ls[k]? = some (.val (.int x))) (hl' : storeLocals Ls k (.int (x + v)) = some l')
    (hr : OG p.tables e below P (T.setTop (mkF m pc' l' rest))) : OG p.tables e below P (T.setTop (mkF m pc Ls rest)) := by
  subst hp
  obtain ⟨X, hx, hby, hml, hown, hZ, eT⟩ := B
  exact hr.of fun t k => XT.iincV X.here hx rfl v (hb hby hd) hv hl hl' k
theorem o_goto (B : Bx own bs ml Z p l e R s m args below meth c T h locs cells slots) (pc pc' : Nat) {o : Int} (hd : decode bs pc = .ok (.goto o, 3))  (ho : 0 ≤ (pc : Int) + o) (hp : ((pc : Int) + o).toNat = pc')
    (hr : OG p.tables e below P (T.setTop (mkF m pc' Ls rest))) : OG p.tables e below P (T.setTop (mkF m pc Ls rest)) := by
  obtain ⟨X, hx, hby, hml, hown, hZ, eT⟩ := B
  exact hr.of fun t k => XS.goto X.here hx rfl (pc0 := pc) (pc' := pc') rfl (hb hby hd) ho hp k
theorem o_ifY (B : Bx own bs ml Z p l e R s m args below meth c T h locs cells slots) (pc pc' : Nat) {cd : ClassFile.Cond} {o : Int} {x : Int32} (hd : decode bs pc = .ok (.ifCond cd o, 3))  (hc : ifCond.holds cd x = true) (ho : 0 ≤ (pc : Int) + o) (hp : ((pc : Int) + o).toNat = pc')
    (hr : OG p.tables e below P (T.setTop (mkF m pc' Ls rest))) : OG p.tables e below P (T.setTop (mkF m pc Ls (.int x :: rest))) := by
  obtain ⟨X, hx, hby, hml, hown, hZ, eT⟩ := B
  exact hr.of fun t k => XS.ifYes X.here hx rfl (pc0 := pc) (pc' := pc') rfl (hb hby hd) rfl hc ho hp k
theorem o_ifN (B : Bx own bs ml Z p l e R s m args below meth c T h locs cells slots) (pc pc' : Nat) {cd : ClassFile.Cond} {o : Int} {x : Int32} (hd : decode bs pc = .ok (.ifCond cd o, 3)) (hp : pc + 3 = pc') (hc : ifCond.holds cd x = false)
    (hr : OG p.tables e below P (T.setTop (mkF m pc' Ls rest))) : OG p.tables e below P (T.setTop (mkF m pc Ls (.int x :: rest))) := by
  subst hp
  obtain ⟨X, hx, hby, hml, hown, hZ, eT⟩ := B
  exact hr.of fun t k => XS.ifNo X.here hx rfl (hb hby hd) rfl hc k
theorem o_icY (B : Bx own bs ml Z p l e R s m args below meth c T h locs cells slots) (pc pc' : Nat) {cd : ClassFile.Cond} {o : Int} {x y : Int32} (hd : decode bs pc = .ok (.if_icmp cd o, 3))  (hc : if_icmp.holds cd x y = true) (ho : 0 ≤ (pc : Int) + o) (hp : ((pc : Int) + o).toNat = pc')
    (hr : OG p.tables e below P (T.setTop (mkF m pc' Ls rest))) : OG p.tables e below P (T.setTop (mkF m pc Ls (.int y :: .int x :: rest))) := by
  obtain ⟨X, hx, hby, hml, hown, hZ, eT⟩ := B
  exact hr.of fun t k => XS.icmpYes X.here hx rfl (pc0 := pc) (pc' := pc') rfl (hb hby hd) rfl hc ho hp k
theorem o_icN (B : Bx own bs ml Z p l e R s m args below meth c T h locs cells slots) (pc pc' : Nat) {cd : ClassFile.Cond} {o : Int} {x y : Int32} (hd : decode bs pc = .ok (.if_icmp cd o, 3)) (hp : pc + 3 = pc') (hc : if_icmp.holds cd x y = false)
    (hr : OG p.tables e below P (T.setTop (mkF m pc' Ls rest))) : OG p.tables e below P (T.setTop (mkF m pc Ls (.int y :: .int x :: rest))) := by
  subst hp
  obtain ⟨X, hx, hby, hml, hown, hZ, eT⟩ := B
  exact hr.of fun t k => XS.icmpNo X.here hx rfl (hb hby hd) rfl hc k
theorem o_dup (B : Bx own bs ml Z p l e R s m args below meth c T h locs cells slots) (pc pc' : Nat) {x : Value} (hd : decode bs pc = .ok (.dup, 1)) (hp : pc + 1 = pc') (hc : x.category = 1)
    (hr : OG p.tables e below P (T.setTop (mkF m pc' Ls (x :: x :: rest)))) : OG p.tables e below P (T.setTop (mkF m pc Ls (x :: rest))) := by
  subst hp
  obtain ⟨X, hx, hby, hml, hown, hZ, eT⟩ := B
  exact hr.of fun t k => XS.dup X.here hx rfl (hb hby hd) rfl hc k
theorem o_pop (B : Bx own bs ml Z p l e R s m args below meth c T h locs cells slots) (pc pc' : Nat) {x : Value} (hd : decode bs pc = .ok (.pop, 1)) (hp : pc + 1 = pc') (hc : x.category = 1)
    (hr : OG p.tables e below P (T.setTop (mkF m pc' Ls rest))) : OG p.tables e below P (T.setTop (mkF m pc Ls (x :: rest))) := by
  subst hp
  obtain ⟨X, hx, hby, hml, hown, hZ, eT⟩ := B
  exact hr.of fun t k => XT.pop X.here hx rfl (hb hby hd) rfl hc k
theorem o_dup_x1 (B : Bx own bs ml Z p l e R s m args below meth c T h locs cells slots) (pc pc' : Nat) {x y : Value} (hd : decode bs pc = .ok (.dup_x1, 1)) (hp : pc + 1 = pc') (hc : x.category = 1) (hc' : y.category = 1)
    (hr : OG p.tables e below P (T.setTop (mkF m pc' Ls (x :: y :: x :: rest)))) : OG p.tables e below P (T.setTop (mkF m pc Ls (x :: y :: rest))) := by
  subst hp
  obtain ⟨X, hx, hby, hml, hown, hZ, eT⟩ := B
  exact hr.of fun t k => XT.dupX1 X.here hx rfl (hb hby hd) rfl hc hc' k
theorem o_dup2 (B : Bx own bs ml Z p l e R s m args below meth c T h locs cells slots) (pc pc' : Nat) {x y : Value} (hd : decode bs pc = .ok (.dup2, 1)) (hp : pc + 1 = pc') (hc : x.category = 1) (hc' : y.category = 1)
    (hr : OG p.tables e below P (T.setTop (mkF m pc' Ls (x :: y :: x :: y :: rest)))) : OG p.tables e below P (T.setTop (mkF m pc Ls (x :: y :: rest))) := by
  subst hp
  obtain ⟨X, hx, hby, hml, hown, hZ, eT⟩ := B
  exact hr.of fun t k => XT.dup2 X.here hx rfl (hb hby hd) rfl hc hc' k
theorem o_dup2L (B : Bx own bs ml Z p l e R s m args below meth c T h locs cells slots) (pc pc' : Nat) {x : Int64} (hd : decode bs pc = .ok (.dup2, 1)) (hp : pc + 1 = pc') 
    (hr : OG p.tables e below P (T.setTop (mkF m pc' Ls (.long x :: .long x :: rest)))) : OG p.tables e below P (T.setTop (mkF m pc Ls (.long x :: rest))) := by
  subst hp
  obtain ⟨X, hx, hby, hml, hown, hZ, eT⟩ := B
  exact hr.of fun t k => XT.dup2L X.here hx rfl (hb hby hd) rfl k
theorem o_ldc (B : Bx own bs ml Z p l e R s m args below meth c T h locs cells slots) (pc pc' : Nat) {i : Nat} {v : Int32} (hd : decode bs pc = .ok (.ldc i, 2)) (hp : pc + 2 = pc') (w : (Cond.constant own i v).before a0 Z = true)
    (hr : OG p.tables e below P (T.setTop (mkF m pc' Ls (.int v :: rest)))) : OG p.tables e below P (T.setTop (mkF m pc Ls rest)) := by
  subst hp
  obtain ⟨X, hx, hby, hml, hown, hZ, eT⟩ := B
  exact hr.of fun t k => X.ldcI hx hown (mv hZ w) rfl (hb hby hd) k
theorem o_ldc_w (B : Bx own bs ml Z p l e R s m args below meth c T h locs cells slots) (pc pc' : Nat) {i : Nat} {v : Int32} (hd : decode bs pc = .ok (.ldc_w i, 3)) (hp : pc + 3 = pc') (w : (Cond.constant own i v).before a0 Z = true)
    (hr : OG p.tables e below P (T.setTop (mkF m pc' Ls (.int v :: rest)))) : OG p.tables e below P (T.setTop (mkF m pc Ls rest)) := by
  subst hp
  obtain ⟨X, hx, hby, hml, hown, hZ, eT⟩ := B
  exact hr.of fun t k => X.ldcWI hx hown (mv hZ w) rfl (hb hby hd) k
theorem o_ldc2 (B : Bx own bs ml Z p l e R s m args below meth c T h locs cells slots) (pc pc' : Nat) {i : Nat} {v : Int64} (hd : decode bs pc = .ok (.ldc2_w i, 3)) (hp : pc + 3 = pc') (w : (Cond.constantLong own i v).before a0 Z = true)
    (hr : OG p.tables e below P (T.setTop (mkF m pc' Ls (.long v :: rest)))) : OG p.tables e below P (T.setTop (mkF m pc Ls rest)) := by
  subst hp
  obtain ⟨X, hx, hby, hml, hown, hZ, eT⟩ := B
  exact hr.of fun t k => X.ldc2J hx hown (mv hZ w) rfl (hb hby hd) k
theorem o_topI {pc : Nat} {x y : Int32} (q : x = y) (hr : OG p.tables e below P (T.setTop (mkF m pc Ls (.int y :: rest)))) : OG p.tables e below P (T.setTop (mkF m pc Ls (.int x :: rest))) := q ▸ hr
theorem o_topJ {pc : Nat} {x y : Int64} (q : x = y) (hr : OG p.tables e below P (T.setTop (mkF m pc Ls (.long y :: rest)))) : OG p.tables e below P (T.setTop (mkF m pc Ls (.long x :: rest))) := q ▸ hr
theorem o_iincC (B : Bx own bs ml Z p l e R s m args below meth c T h locs cells slots) (pc pc' : Nat) {k : Nat} {cst : Int} {x : Int32} {l' : Array Slot} (v y : Int32) (hd : decode bs pc = .ok (.iinc k cst, 3)) (hp : pc + 3 = pc') (hv : Int32.ofInt cst = v) (hl : Ls[k]? = some (.val (.int x))) (hy : x + v = y) (hl' : storeLocals Ls k (.int y) = some l')
    (hr : OG p.tables e below P (T.setTop (mkF m pc' l' rest))) : OG p.tables e below P (T.setTop (mkF m pc Ls rest)) := by
  subst hp
  obtain ⟨X, hx, hby, hml, hown, hZ, eT⟩ := B
  exact hr.of fun t k => XT.iincV X.here hx rfl v (hb hby hd) hv hl (hy ▸ hl') k
theorem o_retZ {Q : Option Value → Heap → List Loc → Prop} {kc ks : Nat} (B : Bx own bs ml Z p l e R s m args below meth c T h locs cells slots) (pc : Nat) {z : Int32} {t : FieldType} (hd : decode bs pc = .ok (.ireturn, 1)) (hret : meth.sig.returnType = some t) (hlk : meth.locks = false) (ht : t = .boolean ∨ t = .byte ∨ t = .char ∨ t = .short) (hc : cells ≤ kc) (hs : slots ≤ ks) (hq : Q (some (.int (nar t z))) h locs) :
    OG p.tables e below (fun o s₂ => ∃ v L, o = .returned v ∧ Q v s₂.heap L ∧ FrameEnd s o s₂ L kc ks) (T.setTop (mkF m pc Ls (.int z :: rest))) := by
  obtain ⟨X, hx, hby, hml, hown, hZ, eT⟩ := B
  subst eT
  obtain ⟨fs, hr, hrun, hended, hW, hsame⟩ := X.leave (v := some (.int (nar t z))) (fun hn => by rw [hret] at hn; cases hn) hlk
  exact ⟨_, _, retN X hx hret ht (hb hby hd) hr, hrun, hended, _, _, rfl, hq, ⟨_, rfl⟩, hW, hsame.mono hc hs⟩
theorem o_retI0 (X : Stand p l e R s m args below meth c T locs cells slots) (hx : p.tables.exec = Jvm.exec) {pc : Nat} {z : Int32} (hret : meth.sig.returnType = some .int) (hd : decode c.code pc = .ok (.ireturn, 1)) {fs : List Frame}
    (hl : ∀ (f : JFrame) (acts : List Action), f.method = m → f.locked = none → f.entered = [] → (doReturn e (T.setTop f) acts (some (.int z))).1 = T.setFrames fs) : Steps p.tables e below (T.setTop (mkF m pc Ls (.int z :: rest))) (T.setFrames fs) :=
  retOut X hx hret rfl (Or.inl ⟨rfl, Or.inl rfl, _, rfl⟩) hd hl
theorem o_retI {Q : Option Value → Heap → List Loc → Prop} {kc ks : Nat} (B : Bx own bs ml Z p l e R s m args below meth c T h locs cells slots) (pc : Nat) {z : Int32} (hd : decode bs pc = .ok (.ireturn, 1)) (hret : meth.sig.returnType = some .int) (hlk : meth.locks = false)  (hc : cells ≤ kc) (hs : slots ≤ ks) (hq : Q (some (.int z)) h locs) :
    OG p.tables e below (fun o s₂ => ∃ v L, o = .returned v ∧ Q v s₂.heap L ∧ FrameEnd s o s₂ L kc ks) (T.setTop (mkF m pc Ls (.int z :: rest))) := by
  obtain ⟨X, hx, hby, hml, hown, hZ, eT⟩ := B
  subst eT
  obtain ⟨fs, hr, hrun, hended, hW, hsame⟩ := X.leave (v := some (.int z)) (fun hn => by rw [hret] at hn; cases hn) hlk
  exact ⟨_, _, o_retI0 X hx hret (hb hby hd) hr, hrun, hended, _, _, rfl, hq, ⟨_, rfl⟩, hW, hsame.mono hc hs⟩
theorem o_retL {Q : Option Value → Heap → List Loc → Prop} {kc ks : Nat} (B : Bx own bs ml Z p l e R s m args below meth c T h locs cells slots) (pc : Nat) {z : Int64} (hd : decode bs pc = .ok (.lreturn, 1)) (hret : meth.sig.returnType = some .long) (hlk : meth.locks = false)  (hc : cells ≤ kc) (hs : slots ≤ ks) (hq : Q (some (.long z)) h locs) :
    OG p.tables e below (fun o s₂ => ∃ v L, o = .returned v ∧ Q v s₂.heap L ∧ FrameEnd s o s₂ L kc ks) (T.setTop (mkF m pc Ls [.long z])) := by
  obtain ⟨X, hx, hby, hml, hown, hZ, eT⟩ := B
  subst eT
  obtain ⟨fs, hr, hrun, hended, hW, hsame⟩ := X.leave (v := some (.long z)) (fun hn => by rw [hret] at hn; cases hn) hlk
  exact ⟨_, _, X.lreturnOut hx hret (hb hby hd) hr, hrun, hended, _, _, rfl, hq, ⟨_, rfl⟩, hW, hsame.mono hc hs⟩
theorem o_retA {Q : Option Value → Heap → List Loc → Prop} {kc ks : Nat} (B : Bx own bs ml Z p l e R s m args below meth c T h locs cells slots) (pc : Nat) {z : Value} {t : FieldType} (hd : decode bs pc = .ok (.areturn, 1)) (hret : meth.sig.returnType = some t) (hlk : meth.locks = false) (ht : t.isReference = true) (hz : z.isRef = true) (hc : cells ≤ kc) (hs : slots ≤ ks) (hq : Q (some z) h locs) :
    OG p.tables e below (fun o s₂ => ∃ v L, o = .returned v ∧ Q v s₂.heap L ∧ FrameEnd s o s₂ L kc ks) (T.setTop (mkF m pc Ls [z])) := by
  obtain ⟨X, hx, hby, hml, hown, hZ, eT⟩ := B
  subst eT
  obtain ⟨fs, hr, hrun, hended, hW, hsame⟩ := X.leave (v := some z) (fun hn => by rw [hret] at hn; cases hn) hlk
  exact ⟨_, _, X.areturnOut hx hz hret ht (hb hby hd) hr, hrun, hended, _, _, rfl, hq, ⟨_, rfl⟩, hW, hsame.mono hc hs⟩
theorem o_retV {Q : Option Value → Heap → List Loc → Prop} {kc ks : Nat} (B : Bx own bs ml Z p l e R s m args below meth c T h locs cells slots) (pc : Nat)  (hd : decode bs pc = .ok (.return_, 1)) (hret : meth.sig.returnType = none) (hlk : meth.locks = false)  (hc : cells ≤ kc) (hs : slots ≤ ks) (hq : Q (none) h locs) :
    OG p.tables e below (fun o s₂ => ∃ v L, o = .returned v ∧ Q v s₂.heap L ∧ FrameEnd s o s₂ L kc ks) (T.setTop (mkF m pc Ls [])) := by
  obtain ⟨X, hx, hby, hml, hown, hZ, eT⟩ := B
  subst eT
  obtain ⟨fs, hr, hrun, hended, hW, hsame⟩ := X.leave (v := none) (fun _ => rfl) hlk
  exact ⟨_, _, X.returnOut hx hret (hb hby hd) hr, hrun, hended, _, _, rfl, hq, ⟨_, rfl⟩, hW, hsame.mono hc hs⟩
/-- a body's contract, out of its walk -/
theorem enter {y : MethodName} {ret : Option FieldType} {rm : Room} {ws : List Jvm.Cond} {as' : Array Value} {h0 : Heap} {Q : Option Value → Heap → List Loc → Prop} {kc ks : Nat} (hpl : plainFor y = true) (Ls : Array Slot)
    (hL : Jvm.Sym.laidSlots as'.toList ++ List.replicate (ml - (Jvm.Sym.laidSlots as'.toList).length) .unset = Ls.toList)
    (body : ∀ (p : Program) (e : Env) (s : State) (m : MethodId) (below : List Frame) (meth : Method) (c : Code) (T : State), Bx y.cls bs ml Z p l e rm s m as' below meth c T h0 [] 0 0 → meth.sig.returnType = ret → meth.locks = false → meth.name = y.name →
      OG p.tables e below (fun o s₂ => ∃ v L, o = .returned v ∧ Q v s₂.heap L ∧ FrameEnd s o s₂ L kc ks) (T.setTop (mkF m 0 Ls []))) :
    MetFree l y (head1 (Jvm.Cond.code y bs ml ret :: ws) rm) (fun a U => a = as' ∧ Z.Warmed39 U.vm ∧ U.heap = h0) (fun _ _ _ _ _ => True) (fun _ U o U' => ∃ v L, o = .returned v ∧ Q v U'.heap L ∧ FrameEnd U o U' L kc ks) := by
  refine MetFree.of_bodySF hpl hisR ?_
  intro p e s m args below meth c s₁ Bd hml0 hP hK
  obtain ⟨rfl, hZ, hh⟩ := hP
  have e0 : s₁.heap = h0 := by rw [← hh, Bd.state]; rfl
  have r := body p e s m below meth c s₁ ⟨Stand.of_body Bd, Bd.exec, Bd.bytes, hml0, findClass_of_methodNamed Bd.named, hZ, e0⟩ Bd.returns (BodyLoose.notSynchronized Bd) (name_of_methodNamed Bd.named Bd.method).1
  exact OG.of r fun t k => (XT.entry hL).trans k
/-- what a callee owes -/
abbrev Met (l : Launch) (Z : State) (y : MethodName) (bytes : ByteArray) (maxL : Nat) (ret : Option FieldType) (rm : Room) (as' : Array Value) (h : Heap) (Q : Option Value → Heap → List Loc → Prop) : Prop :=
  MetFree l y (head1 [Jvm.Cond.code y bytes maxL ret] rm) (fun a U => a = as' ∧ Z.Warmed39 U.vm ∧ U.heap = h) (fun _ _ _ _ _ => True) (fun _ U o U' => ∃ v L, o = .returned v ∧ Q v U'.heap L ∧ FrameEnd U o U' L rm.cells rm.slots)
theorem o_callS {index : Nat} {y : MethodName} {bytes : ByteArray} {maxL : Nat} {ret : Option FieldType} {rm : Room} {as' : Array Value} {Q : Option Value → Heap → List Loc → Prop} {ps : List FieldType} {rt : Option FieldType}
    (B : Bx own bs ml Z p l e R s m args below meth c T h locs cells slots) (pc pc' : Nat) (hd : decode bs pc = .ok (.invokestatic index, 3)) (hp : pc + 3 = pc')
    (w1 : (Cond.methodLink own index y).before a0 Z = true) (w2 : (Cond.static y).before a0 Z = true) (w3 : (Cond.initialized y.cls).before a0 Z = true) (w4 : (Cond.code y bytes maxL ret).before a0 Z = true) (hy : y.cls ≠ "java/lang/invoke/MethodHandle" ∧ y.cls ≠ "java/lang/invoke/VarHandle")
    (hM : Met l Z y bytes maxL ret rm as' h Q) (W : Nat) (argsL rest : List Value) (hpd : parseMethodDescriptor y.desc = some ⟨ps, rt⟩) (hlen : argsL.length = ps.length) (has : argsL.toArray = as') {st : List Value} (hst : st = argsL.reverse ++ rest) (hsz : Ls.size = ml)
    (hW : (rest.map fun v => v.category).sum ≤ W) (hf : rm.frames + 1 ≤ R.frames) (hl : W + (maxL + 11) + rm.locals ≤ R.locals) (hcl : cells + rm.cells ≤ R.cells) (hsl : slots + rm.slots ≤ R.slots) :
    ∃ v T' L, Bx own bs ml Z p l e R s m args below meth c T' T'.heap (locs ++ L) (cells + rm.cells) (slots + rm.slots) ∧ Q v T'.heap L ∧
      ∀ {P : Outcome → State → Prop}, OG p.tables e below P (T'.setTop (mkF m pc' Ls (v.toList ++ rest))) → OG p.tables e below P (T.setTop (mkF m pc Ls st)) := by
  subst hp hst
  obtain ⟨X, hx, hby, hml, hown, hZ, eT⟩ := B
  obtain ⟨v, vm1, ⟨T', L', k', n'⟩, -, X', ⟨Lc, hQ, l', y', z'⟩, st⟩ := Jvm.LawKit.callS X hx (y := y) hown (mvT hZ w1) (mvT hZ w2) (mvT hZ w3) (mvT hZ w4) hy (backOf (W := W) hM hZ w4 w3 hf hl) (g := mkF m pc Ls (argsL.reverse ++ rest)) rfl (by rw [hml]; exact hsz) (argsL := argsL) (rest := rest) (lenOf hpd hlen) rfl (by simpa using hW) (hb hby hd) (fun _ _ => ⟨has, eT, hcl, hsl⟩)
  dsimp only [Pt.U, Pt.locs, Pt.cells, Pt.slots] at X' l' y' z' st hQ
  subst l' y' z'
  exact ⟨v, T', Lc, ⟨X', hx, hby, hml, hown, hZ, rfl⟩, hQ, fun k => k.of st⟩
/-- a callee that writes and makes nothing -/
def Pu (r : Option Value) (h : Heap) (v : Option Value) (h' : Heap) (L : List Loc) : Prop := v = r ∧ L = [] ∧ h' = h
theorem o_callP {index : Nat} {y : MethodName} {bytes : ByteArray} {maxL : Nat} {ret : Option FieldType} {fr lo : Nat} {as' : Array Value} {r : Value} {ps : List FieldType} {rt : Option FieldType}
    (B : Bx own bs ml Z p l e R s m args below meth c T h locs cells slots) (pc pc' : Nat) (hd : decode bs pc = .ok (.invokestatic index, 3)) (hp : pc + 3 = pc')
    (w1 : (Cond.methodLink own index y).before a0 Z = true) (w2 : (Cond.static y).before a0 Z = true) (w3 : (Cond.initialized y.cls).before a0 Z = true) (w4 : (Cond.code y bytes maxL ret).before a0 Z = true) (hy : y.cls ≠ "java/lang/invoke/MethodHandle" ∧ y.cls ≠ "java/lang/invoke/VarHandle")
    (hM : Met l Z y bytes maxL ret ({ frames := fr, cells := 0, slots := 0, locals := lo } : Room) as' h (Pu (some r) h)) (W : Nat) (argsL rest : List Value) (hpd : parseMethodDescriptor y.desc = some ⟨ps, rt⟩) (hlen : argsL.length = ps.length) (has : argsL.toArray = as') {st : List Value} (hst : st = argsL.reverse ++ rest) (hsz : Ls.size = ml)
    (hW : (rest.map fun v => v.category).sum ≤ W) (hf : fr + 1 ≤ R.frames) (hl : W + (maxL + 11) + lo ≤ R.locals) (hcl : cells ≤ R.cells) (hsl : slots ≤ R.slots) :
    ∃ T', Bx own bs ml Z p l e R s m args below meth c T' h locs cells slots ∧
      ∀ {P : Outcome → State → Prop}, OG p.tables e below P (T'.setTop (mkF m pc' Ls (r :: rest))) → OG p.tables e below P (T.setTop (mkF m pc Ls st)) := by
  obtain ⟨v, T', L, B', ⟨rfl, rfl, hh⟩, st⟩ := o_callS B pc pc' hd hp w1 w2 w3 w4 hy hM W argsL rest hpd hlen has hst hsz hW hf hl hcl hsl
  rw [hh, List.append_nil] at B'
  exact ⟨T', B', st⟩
end Walk
theorem b_ne_t {c : Prop} [Decidable c] (h : c) : ifCond.holds .ne (if c then (1 : Int32) else 0) = true := by rw [if_pos h]; rfl
theorem b_ne_f {c : Prop} [Decidable c] (h : ¬ c) : ifCond.holds .ne (if c then (1 : Int32) else 0) = false := by rw [if_neg h]; rfl
theorem b_eq_t {c : Prop} [Decidable c] (h : ¬ c) : ifCond.holds .eq (if c then (1 : Int32) else 0) = true := by rw [if_neg h]; rfl
theorem b_eq_f {c : Prop} [Decidable c] (h : c) : ifCond.holds .eq (if c then (1 : Int32) else 0) = false := by rw [if_pos h]; rfl
/-! 2. arrays by a function of the place -/
def AI (Z : State) (h : Heap) (a : Addr) (ty : FieldType) (n : Nat) (g : Nat → Int32) : Prop := ∃ c : Cell, Arr Z h a c ty ∧ c.slots.size = n ∧ n < 2147483648 ∧ ∀ j, j < n → c.slots[j]? = some (.int (g j))
def AJ (Z : State) (h : Heap) (a : Addr) (n : Nat) (g : Nat → Int64) : Prop := ∃ c : Cell, Arr Z h a c .long ∧ c.slots.size = n ∧ n < 2147483648 ∧ ∀ j, j < n → c.slots[j]? = some (.long (g j))
section Arrays
variable {Z : State} {h h' : Heap} {a b : Addr} {ty : FieldType} {n i : Nat} {v : Value} {ws : List Addr}
theorem AI.ext {g : Nat → Int32} (A : AI Z h a ty n g) (E : Ext h h') : AI Z h' a ty n g := by obtain ⟨c, A, r⟩ := A; exact ⟨c, A.ext E, r⟩
theorem AI.other {g : Nat → Int32} (A : AI Z h a ty n g) (W : Wr h h' b i v) (q : a ≠ b) : AI Z h' a ty n g := by obtain ⟨c, A, r⟩ := A; exact ⟨c, A.other W q, r⟩
theorem AI.keep {g : Nat → Int32} (A : AI Z h a ty n g) (K : Keep h h' ws) (q : a ∉ ws) : AI Z h' a ty n g := by obtain ⟨c, A, r⟩ := A; exact ⟨c, ⟨K.2.1 a c A.1 q, A.2⟩, r⟩
theorem AI.lt {g : Nat → Int32} (A : AI Z h a ty n g) : a < h.size := by obtain ⟨c, A, r⟩ := A; exact A.lt
theorem AI.len {g : Nat → Int32} (A : AI Z h a ty n g) : n < 2147483648 := by obtain ⟨c, A, r, q, _⟩ := A; exact q
theorem AI.alt {g g' : Nat → Int32} (A : AI Z h a ty n g) (q : ∀ j, j < n → g' j = g j) : AI Z h a ty n g' := by obtain ⟨c, A, r, s, H⟩ := A; exact ⟨c, A, r, s, fun j hj => by rw [q j hj]; exact H j hj⟩
theorem AI.set {g : Nat → Int32} {x : Int32} (A : AI Z h a ty n g) (W : Wr h h' a i (.int x)) : AI Z h' a ty n (fun j => if j = i then x else g j) := by
  obtain ⟨c, A, S, hn, H⟩ := A
  refine ⟨c.setSlot i (.int x), Arr.same W A, by simp [Cell.setSlot, S], hn, fun j hj => ?_⟩
  show (c.slots.setIfInBounds i (.int x))[j]? = some (.int (if j = i then x else g j))
  by_cases e : j = i
  · subst e; rw [if_pos rfl]; simp [S, hj]
  · rw [if_neg e, Array.getElem?_setIfInBounds_ne (Ne.symm e)]; exact H j hj
theorem AJ.ext {g : Nat → Int64} (A : AJ Z h a n g) (E : Ext h h') : AJ Z h' a n g := by obtain ⟨c, A, r⟩ := A; exact ⟨c, A.ext E, r⟩
theorem AJ.other {g : Nat → Int64} (A : AJ Z h a n g) (W : Wr h h' b i v) (q : a ≠ b) : AJ Z h' a n g := by obtain ⟨c, A, r⟩ := A; exact ⟨c, A.other W q, r⟩
theorem AJ.keep {g : Nat → Int64} (A : AJ Z h a n g) (K : Keep h h' ws) (q : a ∉ ws) : AJ Z h' a n g := by obtain ⟨c, A, r⟩ := A; exact ⟨c, ⟨K.2.1 a c A.1 q, A.2⟩, r⟩
theorem AJ.lt {g : Nat → Int64} (A : AJ Z h a n g) : a < h.size := by obtain ⟨c, A, r⟩ := A; exact A.lt
theorem AJ.len {g : Nat → Int64} (A : AJ Z h a n g) : n < 2147483648 := by obtain ⟨c, A, r, q, _⟩ := A; exact q
theorem AJ.alt {g g' : Nat → Int64} (A : AJ Z h a n g) (q : ∀ j, j < n → g' j = g j) : AJ Z h a n g' := by obtain ⟨c, A, r, s, H⟩ := A; exact ⟨c, A, r, s, fun j hj => by rw [q j hj]; exact H j hj⟩
theorem AJ.set {g : Nat → Int64} {x : Int64} (A : AJ Z h a n g) (W : Wr h h' a i (.long x)) : AJ Z h' a n (fun j => if j = i then x else g j) := by
  obtain ⟨c, A, S, hn, H⟩ := A
  refine ⟨c.setSlot i (.long x), Arr.same W A, by simp [Cell.setSlot, S], hn, fun j hj => ?_⟩
  show (c.slots.setIfInBounds i (.long x))[j]? = some (.long (if j = i then x else g j))
  by_cases e : j = i
  · subst e; rw [if_pos rfl]; simp [S, hj]
  · rw [if_neg e, Array.getElem?_setIfInBounds_ne (Ne.symm e)]; exact H j hj
theorem in_of {c : Cell} {j : Int32} (S : c.slots.size = n) (h0 : ¬ j < 0) (hj : j.toNatClampNeg = i) (hi : i < n) : ¬ (j < 0 ∨ c.slots.size ≤ j.toNatClampNeg) := by rw [S, hj]; rintro (q | q); exact h0 q; omega
end Arrays
theorem ix_of {j : Int32} {k : Nat} (h : j.toInt = k) : ¬ j < 0 ∧ j.toNatClampNeg = k := by
  rw [Int32.lt_iff_toInt_lt, Int32.toInt_zero]
  simp only [Int32.toNatClampNeg, h]
  omega
theorem ix_add {j : Int32} {k : Nat} (c : Int32) (n : Nat) (h : j.toInt = k) (hc : c.toInt = n) (hk : k + n < 2147483648) : (j + c).toInt = (k + n : Nat) := by
  have a := c_iadd j c
  have r := rng32 (j + c)
  omega
theorem nar_bb (x : Int32) : nar .byte x.toInt8.toInt32 = x.toInt8.toInt32 := by simp [nar]
theorem nar_cc (x : Int32) : nar .char x.toUInt32.toUInt16.toUInt32.toInt32 = x.toUInt32.toUInt16.toUInt32.toInt32 := by simp only [nar, UInt32.toUInt32_toInt32, UInt16.toUInt16_toUInt32]
def Lw (n0 : Nat) (r : Option Value) (v : Option Value) (h : Heap) (L : List Loc) : Prop := v = r ∧ Fr n0 L
section Walk2
variable {own : String} {bs : ByteArray} {ml : Nat} {Z : State} {p : Program} {l : Launch} {e : Env} {R : Room} {s : State} {m : MethodId} {args : Array Value} {below : List Frame} {meth : Method} {c : Code} {T : State} {h : Heap} {locs : List Loc} {cells slots n0 : Nat} {P : Outcome → State → Prop} {Ls : Array Slot} {rest : List Value} {a0 : Array Value} {a : Addr} {n : Nat}
theorem o_iaload (B : Bx own bs ml Z p l e R s m args below meth c T h locs cells slots) (pc pc' : Nat) {g : Nat → Int32} (A : AI Z h a .int n g) {j : Int32} (i : Nat) (v : Int32) (hd : decode bs pc = .ok (.iaload, 1)) (hp : pc + 1 = pc') (h0 : ¬ j < 0) (hj : j.toNatClampNeg = i) (hi : i < n) (hv : g i = v)
    (hr : OG p.tables e below P (T.setTop (mkF m pc' Ls (.int v :: rest)))) : OG p.tables e below P (T.setTop (mkF m pc Ls (.int j :: .ref a :: rest))) := by
  subst hp hv
  obtain ⟨X, hx, hby, hml, hown, hZ, eT⟩ := B
  obtain ⟨cl, A, S, hn, H⟩ := A
  exact hr.of fun t k => X.iaload hx (by rw [eT]; exact A.1) (State.isArrayOf_alike hZ.alike A.2.1) A.2.2 (in_of S h0 hj hi) (by rw [hj]; exact H i hi) (g := mkF m pc Ls (.int j :: .ref a :: rest)) rfl rfl (hb hby hd) t k
theorem o_caload (B : Bx own bs ml Z p l e R s m args below meth c T h locs cells slots) (pc pc' : Nat) {g : Nat → Int32} (A : AI Z h a .char n g) {j : Int32} (i : Nat) (v : Int32) (hd : decode bs pc = .ok (.caload, 1)) (hp : pc + 1 = pc') (h0 : ¬ j < 0) (hj : j.toNatClampNeg = i) (hi : i < n) (hv : g i = v)
    (hr : OG p.tables e below P (T.setTop (mkF m pc' Ls (.int v :: rest)))) : OG p.tables e below P (T.setTop (mkF m pc Ls (.int j :: .ref a :: rest))) := by
  subst hp hv
  obtain ⟨X, hx, hby, hml, hown, hZ, eT⟩ := B
  obtain ⟨cl, A, S, hn, H⟩ := A
  exact hr.of fun t k => X.caload hx (by rw [eT]; exact A.1) (State.isArrayOf_alike hZ.alike A.2.1) A.2.2 (in_of S h0 hj hi) (by rw [hj]; exact H i hi) (g := mkF m pc Ls (.int j :: .ref a :: rest)) rfl rfl (hb hby hd) t k
theorem o_baload (B : Bx own bs ml Z p l e R s m args below meth c T h locs cells slots) (pc pc' : Nat) {g : Nat → Int32} (A : AI Z h a .byte n g) {j : Int32} (i : Nat) (v : Int32) (hd : decode bs pc = .ok (.baload, 1)) (hp : pc + 1 = pc') (h0 : ¬ j < 0) (hj : j.toNatClampNeg = i) (hi : i < n) (hv : g i = v)
    (hr : OG p.tables e below P (T.setTop (mkF m pc' Ls (.int v :: rest)))) : OG p.tables e below P (T.setTop (mkF m pc Ls (.int j :: .ref a :: rest))) := by
  subst hp hv
  obtain ⟨X, hx, hby, hml, hown, hZ, eT⟩ := B
  obtain ⟨cl, A, S, hn, H⟩ := A
  exact hr.of fun t k => X.baloadBytes hx (by rw [eT]; exact A.1) (State.isArrayOf_alike hZ.alike A.2.1) A.2.2 (in_of S h0 hj hi) (by rw [hj]; exact H i hi) (g := mkF m pc Ls (.int j :: .ref a :: rest)) rfl rfl (hb hby hd) t k
theorem o_zaload (B : Bx own bs ml Z p l e R s m args below meth c T h locs cells slots) (pc pc' : Nat) {g : Nat → Int32} (A : AI Z h a .boolean n g) {j : Int32} (i : Nat) (v : Int32) (hd : decode bs pc = .ok (.baload, 1)) (hp : pc + 1 = pc') (h0 : ¬ j < 0) (hj : j.toNatClampNeg = i) (hi : i < n) (hv : g i = v)
    (hr : OG p.tables e below P (T.setTop (mkF m pc' Ls (.int v :: rest)))) : OG p.tables e below P (T.setTop (mkF m pc Ls (.int j :: .ref a :: rest))) := by
  subst hp hv
  obtain ⟨X, hx, hby, hml, hown, hZ, eT⟩ := B
  obtain ⟨cl, A, S, hn, H⟩ := A
  exact hr.of fun t k => X.baloadBooleans hx (by rw [eT]; exact A.1) (State.isArrayOf_alike hZ.alike A.2.1) A.2.2 (in_of S h0 hj hi) (by rw [hj]; exact H i hi) (g := mkF m pc Ls (.int j :: .ref a :: rest)) rfl rfl (hb hby hd) t k
theorem o_laload (B : Bx own bs ml Z p l e R s m args below meth c T h locs cells slots) (pc pc' : Nat) {g : Nat → Int64} (A : AJ Z h a n g) {j : Int32} (i : Nat) (v : Int64) (hd : decode bs pc = .ok (.laload, 1)) (hp : pc + 1 = pc') (h0 : ¬ j < 0) (hj : j.toNatClampNeg = i) (hi : i < n) (hv : g i = v)
    (hr : OG p.tables e below P (T.setTop (mkF m pc' Ls (.long v :: rest)))) : OG p.tables e below P (T.setTop (mkF m pc Ls (.int j :: .ref a :: rest))) := by
  subst hp hv
  obtain ⟨X, hx, hby, hml, hown, hZ, eT⟩ := B
  obtain ⟨cl, A, S, hn, H⟩ := A
  exact hr.of fun t k => X.laload hx (by rw [eT]; exact A.1) (State.isArrayOf_alike hZ.alike A.2.1) A.2.2 (in_of S h0 hj hi) (by rw [hj]; exact H i hi) (g := mkF m pc Ls (.int j :: .ref a :: rest)) rfl rfl (hb hby hd) t k
theorem o_alenI (B : Bx own bs ml Z p l e R s m args below meth c T h locs cells slots) (pc pc' : Nat) {ty : FieldType} {g : Nat → Int32} (A : AI Z h a ty n g) (v : Int32) (hd : decode bs pc = .ok (.arraylength, 1)) (hp : pc + 1 = pc') (hv : n.toInt32 = v)
    (hr : OG p.tables e below P (T.setTop (mkF m pc' Ls (.int v :: rest)))) : OG p.tables e below P (T.setTop (mkF m pc Ls (.ref a :: rest))) := by
  subst hp hv
  obtain ⟨X, hx, hby, hml, hown, hZ, eT⟩ := B
  obtain ⟨cl, A, S, hn, H⟩ := A
  exact hr.of fun t k => X.arraylength hx (by rw [eT]; exact A.1) (State.isArrayOf_alike hZ.alike A.2.1) (g := mkF m pc Ls (.ref a :: rest)) rfl rfl (hb hby hd) t (by rw [S]; exact k)
theorem o_alenJ (B : Bx own bs ml Z p l e R s m args below meth c T h locs cells slots) (pc pc' : Nat) {g : Nat → Int64} (A : AJ Z h a n g) (v : Int32) (hd : decode bs pc = .ok (.arraylength, 1)) (hp : pc + 1 = pc') (hv : n.toInt32 = v)
    (hr : OG p.tables e below P (T.setTop (mkF m pc' Ls (.int v :: rest)))) : OG p.tables e below P (T.setTop (mkF m pc Ls (.ref a :: rest))) := by
  subst hp hv
  obtain ⟨X, hx, hby, hml, hown, hZ, eT⟩ := B
  obtain ⟨cl, A, S, hn, H⟩ := A
  exact hr.of fun t k => X.arraylength hx (by rw [eT]; exact A.1) (State.isArrayOf_alike hZ.alike A.2.1) (g := mkF m pc Ls (.ref a :: rest)) rfl rfl (hb hby hd) t (by rw [S]; exact k)
theorem o_iastore (B : Bx own bs ml Z p l e R s m args below meth c T h locs cells slots) (N : Fr n0 locs) (ge : n0 ≤ a) (pc pc' : Nat) {g : Nat → Int32} (A : AI Z h a .int n g) {j : Int32} {x : Int32} (i : Nat) (y : Int32) (hd : decode bs pc = .ok (.iastore, 1)) (hp : pc + 1 = pc') (h0 : ¬ j < 0) (hj : j.toNatClampNeg = i) (hi : i < n) (hy : x = y) :
    ∃ T' h' L', Bx own bs ml Z p l e R s m args below meth c T' h' L' cells slots ∧ Fr n0 L' ∧ Wr h h' a i (.int y) ∧ AI Z h' a .int n (fun j => if j = i then y else g j) ∧ ∀ {P : Outcome → State → Prop}, OG p.tables e below P (T'.setTop (mkF m pc' Ls rest)) → OG p.tables e below P (T.setTop (mkF m pc Ls (.int x :: .int j :: .ref a :: rest))) := by
  subst hp hj hy
  obtain ⟨X, hx, hby, hml, hown, hZ, eT⟩ := B
  have A' := A
  obtain ⟨cl, A, S, hn, H⟩ := A
  obtain ⟨T', h', X', e', W, st⟩ := stI X hx hZ eT A (in_of S h0 rfl hi) (g := mkF m pc Ls (.int x :: .int j :: .ref a :: rest)) rfl rfl (hb hby hd)
  exact ⟨T', h', _, ⟨X', hx, hby, hml, hown, hZ, e'⟩, Fr.snoc X' N ge, W, A'.set W, fun k => k.of st⟩
theorem o_castore (B : Bx own bs ml Z p l e R s m args below meth c T h locs cells slots) (N : Fr n0 locs) (ge : n0 ≤ a) (pc pc' : Nat) {g : Nat → Int32} (A : AI Z h a .char n g) {j : Int32} {x : Int32} (i : Nat) (y : Int32) (hd : decode bs pc = .ok (.castore, 1)) (hp : pc + 1 = pc') (h0 : ¬ j < 0) (hj : j.toNatClampNeg = i) (hi : i < n) (hy : nar .char x = y) :
    ∃ T' h' L', Bx own bs ml Z p l e R s m args below meth c T' h' L' cells slots ∧ Fr n0 L' ∧ Wr h h' a i (.int y) ∧ AI Z h' a .char n (fun j => if j = i then y else g j) ∧ ∀ {P : Outcome → State → Prop}, OG p.tables e below P (T'.setTop (mkF m pc' Ls rest)) → OG p.tables e below P (T.setTop (mkF m pc Ls (.int x :: .int j :: .ref a :: rest))) := by
  subst hp hj hy
  obtain ⟨X, hx, hby, hml, hown, hZ, eT⟩ := B
  have A' := A
  obtain ⟨cl, A, S, hn, H⟩ := A
  obtain ⟨T', h', X', e', W, st⟩ := stC X hx hZ eT A (in_of S h0 rfl hi) (g := mkF m pc Ls (.int x :: .int j :: .ref a :: rest)) rfl rfl (hb hby hd)
  exact ⟨T', h', _, ⟨X', hx, hby, hml, hown, hZ, e'⟩, Fr.snoc X' N ge, W, A'.set W, fun k => k.of st⟩
theorem o_bastore (B : Bx own bs ml Z p l e R s m args below meth c T h locs cells slots) (N : Fr n0 locs) (ge : n0 ≤ a) (pc pc' : Nat) {g : Nat → Int32} (A : AI Z h a .byte n g) {j : Int32} {x : Int32} (i : Nat) (y : Int32) (hd : decode bs pc = .ok (.bastore, 1)) (hp : pc + 1 = pc') (h0 : ¬ j < 0) (hj : j.toNatClampNeg = i) (hi : i < n) (hy : nar .byte x = y) :
    ∃ T' h' L', Bx own bs ml Z p l e R s m args below meth c T' h' L' cells slots ∧ Fr n0 L' ∧ Wr h h' a i (.int y) ∧ AI Z h' a .byte n (fun j => if j = i then y else g j) ∧ ∀ {P : Outcome → State → Prop}, OG p.tables e below P (T'.setTop (mkF m pc' Ls rest)) → OG p.tables e below P (T.setTop (mkF m pc Ls (.int x :: .int j :: .ref a :: rest))) := by
  subst hp hj hy
  obtain ⟨X, hx, hby, hml, hown, hZ, eT⟩ := B
  have A' := A
  obtain ⟨cl, A, S, hn, H⟩ := A
  obtain ⟨T', h', X', e', W, st⟩ := stB X hx hZ eT A (in_of S h0 rfl hi) (g := mkF m pc Ls (.int x :: .int j :: .ref a :: rest)) rfl rfl (hb hby hd)
  exact ⟨T', h', _, ⟨X', hx, hby, hml, hown, hZ, e'⟩, Fr.snoc X' N ge, W, A'.set W, fun k => k.of st⟩
theorem o_zastore (B : Bx own bs ml Z p l e R s m args below meth c T h locs cells slots) (N : Fr n0 locs) (ge : n0 ≤ a) (pc pc' : Nat) {g : Nat → Int32} (A : AI Z h a .boolean n g) {j : Int32} {x : Int32} (i : Nat) (y : Int32) (hd : decode bs pc = .ok (.bastore, 1)) (hp : pc + 1 = pc') (h0 : ¬ j < 0) (hj : j.toNatClampNeg = i) (hi : i < n) (hy : nar .boolean x = y) :
    ∃ T' h' L', Bx own bs ml Z p l e R s m args below meth c T' h' L' cells slots ∧ Fr n0 L' ∧ Wr h h' a i (.int y) ∧ AI Z h' a .boolean n (fun j => if j = i then y else g j) ∧ ∀ {P : Outcome → State → Prop}, OG p.tables e below P (T'.setTop (mkF m pc' Ls rest)) → OG p.tables e below P (T.setTop (mkF m pc Ls (.int x :: .int j :: .ref a :: rest))) := by
  subst hp hj hy
  obtain ⟨X, hx, hby, hml, hown, hZ, eT⟩ := B
  have A' := A
  obtain ⟨cl, A, S, hn, H⟩ := A
  obtain ⟨T', h', X', e', W, st⟩ := stZ X hx hZ eT A (in_of S h0 rfl hi) (g := mkF m pc Ls (.int x :: .int j :: .ref a :: rest)) rfl rfl (hb hby hd)
  exact ⟨T', h', _, ⟨X', hx, hby, hml, hown, hZ, e'⟩, Fr.snoc X' N ge, W, A'.set W, fun k => k.of st⟩
theorem o_lastore (B : Bx own bs ml Z p l e R s m args below meth c T h locs cells slots) (N : Fr n0 locs) (ge : n0 ≤ a) (pc pc' : Nat) {g : Nat → Int64} (A : AJ Z h a n g) {j : Int32} {x : Int64} (i : Nat) (y : Int64) (hd : decode bs pc = .ok (.lastore, 1)) (hp : pc + 1 = pc') (h0 : ¬ j < 0) (hj : j.toNatClampNeg = i) (hi : i < n) (hy : x = y) :
    ∃ T' h' L', Bx own bs ml Z p l e R s m args below meth c T' h' L' cells slots ∧ Fr n0 L' ∧ Wr h h' a i (.long y) ∧ AJ Z h' a n (fun j => if j = i then y else g j) ∧ ∀ {P : Outcome → State → Prop}, OG p.tables e below P (T'.setTop (mkF m pc' Ls rest)) → OG p.tables e below P (T.setTop (mkF m pc Ls (.long x :: .int j :: .ref a :: rest))) := by
  subst hp hj hy
  obtain ⟨X, hx, hby, hml, hown, hZ, eT⟩ := B
  have A' := A
  obtain ⟨cl, A, S, hn, H⟩ := A
  obtain ⟨T', h', X', e', W, st⟩ := stJ X hx hZ eT A (in_of S h0 rfl hi) (g := mkF m pc Ls (.long x :: .int j :: .ref a :: rest)) rfl rfl (hb hby hd)
  exact ⟨T', h', _, ⟨X', hx, hby, hml, hown, hZ, e'⟩, Fr.snoc X' N ge, W, A'.set W, fun k => k.of st⟩
theorem o_newI (B : Bx own bs ml Z p l e R s m args below meth c T h locs cells slots) (pc pc' : Nat) {aty : ArrayType} {ty : FieldType} {z : Int32} (k cap : Nat) (w : (Cond.arrayClass (newarray.typeOf aty)).before a0 Z = true) (hd : decode bs pc = .ok (.newarray aty, 2)) (hp : pc + 2 = pc') (hty : newarray.typeOf aty = ty) (hdv : defaultValue ty = .int 0) (hz : ¬ z < 0) (hk : z.toNatClampNeg = k) (hcap : k ≤ cap) (hb8 : cap * 8 ≤ 536870912) (hc : cells + 1 ≤ R.cells) (hl : slots + cap ≤ R.slots) :
    ∃ a T' h', a = h.size ∧ Bx own bs ml Z p l e R s m args below meth c T' h' locs (cells + 1) (slots + cap) ∧ Ext h h' ∧ AI Z h' a ty k (fun _ => 0) ∧ ∀ {P : Outcome → State → Prop}, OG p.tables e below P (T'.setTop (mkF m pc' Ls (.ref a :: rest))) → OG p.tables e below P (T.setTop (mkF m pc Ls (.int z :: rest))) := by
  subst hp hk
  obtain ⟨X, hx, hby, hml, hown, hZ, eT⟩ := B
  obtain ⟨T', h', cA, X', e', E, A, st⟩ := newP X hx hZ w eT (g := mkF m pc Ls (.int z :: rest)) rfl (hb hby hd) rfl hz (cap := cap) hcap hb8 hc hl
  rw [hty] at A
  refine ⟨h.size, T', h', rfl, ⟨X', hx, hby, hml, hown, hZ, e'⟩, E, ⟨_, A, sz_new _ _ _, (back32 hz).2, fun j hj => ?_⟩, fun k => k.of st⟩
  simp [newA, hj, hdv]
theorem o_newJ (B : Bx own bs ml Z p l e R s m args below meth c T h locs cells slots) (pc pc' : Nat) {aty : ArrayType} {z : Int32} (k cap : Nat) (w : (Cond.arrayClass (newarray.typeOf aty)).before a0 Z = true) (hd : decode bs pc = .ok (.newarray aty, 2)) (hp : pc + 2 = pc') (hty : newarray.typeOf aty = .long) (hz : ¬ z < 0) (hk : z.toNatClampNeg = k) (hcap : k ≤ cap) (hb8 : cap * 8 ≤ 536870912) (hc : cells + 1 ≤ R.cells) (hl : slots + cap ≤ R.slots) :
    ∃ a T' h', a = h.size ∧ Bx own bs ml Z p l e R s m args below meth c T' h' locs (cells + 1) (slots + cap) ∧ Ext h h' ∧ AJ Z h' a k (fun _ => 0) ∧ ∀ {P : Outcome → State → Prop}, OG p.tables e below P (T'.setTop (mkF m pc' Ls (.ref a :: rest))) → OG p.tables e below P (T.setTop (mkF m pc Ls (.int z :: rest))) := by
  subst hp hk
  obtain ⟨X, hx, hby, hml, hown, hZ, eT⟩ := B
  obtain ⟨T', h', cA, X', e', E, A, st⟩ := newP X hx hZ w eT (g := mkF m pc Ls (.int z :: rest)) rfl (hb hby hd) rfl hz (cap := cap) hcap hb8 hc hl
  rw [hty] at A
  refine ⟨h.size, T', h', rfl, ⟨X', hx, hby, hml, hown, hZ, e'⟩, E, ⟨_, A, sz_new _ _ _, (back32 hz).2, fun j hj => ?_⟩, fun k => k.of st⟩
  simp [newA, hj, defaultValue]
theorem o_getfield (B : Bx own bs ml Z p l e R s m args below meth c T h locs cells slots) {R0 O f d host : String} {index : Nat} {v : Value} (pc pc' : Nat) (hd : decode bs pc = .ok (.getfield index, 3)) (hp : pc + 3 = pc') (w : (Cond.fieldLink own index R0 f d).before a0 Z = true ∨ (Cond.fieldLinkNest own index R0 f d host).before a0 Z = true) (via : Via Z R0 O f d) (F : Fld Z h a O f d v) :
    ∃ T', Bx own bs ml Z p l e R s m args below meth c T' h locs cells slots ∧ ∀ {P : Outcome → State → Prop}, OG p.tables e below P (T'.setTop (mkF m pc' Ls (v :: rest))) → OG p.tables e below P (T.setTop (mkF m pc Ls (.ref a :: rest))) := by
  subst hp
  obtain ⟨X, hx, hby, hml, hown, hZ, eT⟩ := B
  obtain ⟨T', X', e', st⟩ := getF X hx hZ hown w via eT F (g := mkF m pc Ls (.ref a :: rest)) rfl rfl (hb hby hd)
  exact ⟨T', ⟨X', hx, hby, hml, hown, hZ, e'⟩, fun k => k.of st⟩
theorem o_putfield (B : Bx own bs ml Z p l e R s m args below meth c T h locs cells slots) (N : Fr n0 locs) (ge : n0 ≤ a) {R0 O f d host C : String} {index kk : Nat} {v old : Value} {ty : FieldType} (pc pc' : Nat) (hd : decode bs pc = .ok (.putfield index, 3)) (hp : pc + 3 = pc') (w : (Cond.fieldLink own index R0 f d).before a0 Z = true ∨ (Cond.fieldLinkNest own index R0 f d host).before a0 Z = true) (via : Via Z R0 O f d) (F : Fld Z h a O f d old) (E : Exa Z h a C) (L : (Cond.lays C O f d).before a0 Z = true ∨ ((Cond.laysFinal C O f d).before a0 Z = true ∧ own = O ∧ meth.name = "<init>")) (wi : (Cond.instantiable C kk).before a0 Z = true) (hty : parseFieldDescriptor d = some ty) (hn : narrow ty v = v) (hf : fits ty v = true) :
    ∃ T' h' L', Bx own bs ml Z p l e R s m args below meth c T' h' L' cells slots ∧ Fr n0 L' ∧ Wr h h' a (Jvm.RoadKit.slotOf Z O f d) v ∧ ∀ {P : Outcome → State → Prop}, OG p.tables e below P (T'.setTop (mkF m pc' Ls rest)) → OG p.tables e below P (T.setTop (mkF m pc Ls (v :: .ref a :: rest))) := by
  subst hp
  obtain ⟨X, hx, hby, hml, hown, hZ, eT⟩ := B
  obtain ⟨T', h', X', e', W, st⟩ := putF X hx hZ hown w via eT F E L wi hty hn hf (g := mkF m pc Ls (v :: .ref a :: rest)) rfl rfl (hb hby hd)
  exact ⟨T', h', _, ⟨X', hx, hby, hml, hown, hZ, e'⟩, Fr.snoc X' N ge, W, fun k => k.of st⟩
theorem o_new (B : Bx own bs ml Z p l e R s m args below meth c T h locs cells slots) {C : String} {index : Nat} (pc pc' : Nat) (hd : decode bs pc = .ok (.new index, 3)) (hp : pc + 3 = pc') (w : (Cond.classLink own index C).before a0 Z = true) (wi : (Cond.instantiable C n).before a0 Z = true) (wz : (Cond.initialized C).before a0 Z = true) (hc : cells + 1 ≤ R.cells) (hl : slots + n ≤ R.slots) :
    ∃ a T' h', a = h.size ∧ Bx own bs ml Z p l e R s m args below meth c T' h' locs (cells + 1) (slots + n) ∧ Ext h h' ∧ Exa Z h' a C ∧ (∀ {O nm d : String} {ty : FieldType}, Laid Z a0 C O nm d → parseFieldDescriptor d = some ty → Fld Z h' a O nm d (defaultValue ty)) ∧ ∀ {P : Outcome → State → Prop}, OG p.tables e below P (T'.setTop (mkF m pc' Ls (.ref a :: rest))) → OG p.tables e below P (T.setTop (mkF m pc Ls rest)) := by
  subst hp
  obtain ⟨X, hx, hby, hml, hown, hZ, eT⟩ := B
  obtain ⟨T', h', X', e', E, A, D, -, st⟩ := newO X hx hZ hown w wi wz eT (g := mkF m pc Ls rest) rfl (hb hby hd) hc hl
  exact ⟨h.size, T', h', rfl, ⟨X', hx, hby, hml, hown, hZ, e'⟩, E, A, D, fun k => k.of st⟩
theorem o_initO (B : Bx own bs ml Z p l e R s m args below meth c T h locs cells slots) {index : Nat} (pc pc' : Nat) (hd : decode bs pc = .ok (.invokespecial index, 3)) (hp : pc + 3 = pc') (w1 : (Cond.methodLink own index Lib.objectInit).before a0 Z = true) (w2 : (Cond.instanceMethod Lib.objectInit).before a0 Z = true) (w3 : (Cond.code Lib.objectInit ⟨#[0xb1]⟩ 1 none).before a0 Z = true) (hsz : Ls.size = ml) (W : Nat) (hW : (rest.map fun v => v.category).sum ≤ W) (hf : 1 ≤ R.frames) (hl : W + 12 ≤ R.locals) :
    ∃ T', Bx own bs ml Z p l e R s m args below meth c T' h locs cells slots ∧ ∀ {P : Outcome → State → Prop}, OG p.tables e below P (T'.setTop (mkF m pc' Ls rest)) → OG p.tables e below P (T.setTop (mkF m pc Ls (.ref a :: rest))) := by
  subst hp
  obtain ⟨X, hx, hby, hml, hown, hZ, eT⟩ := B
  obtain ⟨T', X', e', st⟩ := initO X hx hZ hown w1 w2 w3 eT (g := mkF m pc Ls (.ref a :: rest)) rfl (by rw [hml]; exact hsz) rfl (hb hby hd) hf (W := W) (by simpa using hW) hl
  exact ⟨T', ⟨X', hx, hby, hml, hown, hZ, e'⟩, fun k => k.of st⟩
theorem o_callN {index : Nat} {y : MethodName} {bytes : ByteArray} {maxL : Nat} {rm : Room} {as' : Array Value} {Q : Option Value → Heap → List Loc → Prop} {ps : List FieldType} {rt : Option FieldType}
    (B : Bx own bs ml Z p l e R s m args below meth c T h locs cells slots) (pc pc' : Nat) (hd : decode bs pc = .ok (.invokespecial index, 3)) (hp : pc + 3 = pc') (hy1 : y.name = "<init>")
    (w1 : (Cond.methodLink own index y).before a0 Z = true) (w2 : (Cond.instanceMethod y).before a0 Z = true) (w3 : (Cond.initialized y.cls).before a0 Z = true) (w4 : (Cond.code y bytes maxL none).before a0 Z = true) (hy : y.cls ≠ "java/lang/invoke/MethodHandle" ∧ y.cls ≠ "java/lang/invoke/VarHandle")
    (hM : Met l Z y bytes maxL none rm as' h Q) (W : Nat) (argsL rest : List Value) (hpd : parseMethodDescriptor y.desc = some ⟨ps, rt⟩) (hlen : argsL.length = ps.length) (has : (.ref a :: argsL).toArray = as') {st : List Value} (hst : st = argsL.reverse ++ .ref a :: rest) (hsz : Ls.size = ml)
    (hW : (rest.map fun v => v.category).sum ≤ W) (hf : rm.frames + 1 ≤ R.frames) (hl : W + (maxL + 11) + rm.locals ≤ R.locals) (hcl : cells + rm.cells ≤ R.cells) (hsl : slots + rm.slots ≤ R.slots) :
    ∃ v T' L, Bx own bs ml Z p l e R s m args below meth c T' T'.heap (locs ++ L) (cells + rm.cells) (slots + rm.slots) ∧ Q v T'.heap L ∧
      ∀ {P : Outcome → State → Prop}, OG p.tables e below P (T'.setTop (mkF m pc' Ls (v.toList ++ rest))) → OG p.tables e below P (T.setTop (mkF m pc Ls st)) := by
  subst hp hst
  obtain ⟨X, hx, hby, hml, hown, hZ, eT⟩ := B
  obtain ⟨v, vm1, ⟨T', L', k', n'⟩, -, X', ⟨Lc, hQ, l', y', z'⟩, st⟩ := X.specialBack hx (y := y) hy1 hown (mvT hZ w1) (mvT hZ w2) (mvT hZ w4) hy (backOf (W := W) hM hZ w4 w3 hf hl) (g := mkF m pc Ls (argsL.reverse ++ .ref a :: rest)) rfl (by rw [hml]; exact hsz) (Steps.refl _) (a := a) (argsL := argsL) (rest := rest) (lenOf hpd hlen) rfl (by simpa using hW) (hb hby hd) (fun _ _ => ⟨has, eT, hcl, hsl⟩)
  dsimp only [Pt.U, Pt.locs, Pt.cells, Pt.slots] at X' l' y' z' st hQ
  subst l' y' z'
  exact ⟨v, T', Lc, ⟨X', hx, hby, hml, hown, hZ, rfl⟩, hQ, fun k => k.of fun t q => st.trans q⟩
theorem o_callV {index : Nat} {y : MethodName} {C : String} {bytes : ByteArray} {maxL : Nat} {ret : Option FieldType} {rm : Room} {as' : Array Value} {Q : Option Value → Heap → List Loc → Prop} {ps : List FieldType} {rt : Option FieldType}
    (B : Bx own bs ml Z p l e R s m args below meth c T h locs cells slots) (pc pc' : Nat) (hd : decode bs pc = .ok (.invokevirtual index, 3)) (hp : pc + 3 = pc')
    (w1 : (Cond.methodLink own index y).before a0 Z = true) (w2 : (Cond.declares y).before a0 Z = true) (w5 : (Cond.selects C y y).before a0 Z = true) (w6 : (Cond.instanceMethod y).before a0 Z = true) (w3 : (Cond.initialized y.cls).before a0 Z = true) (w4 : (Cond.code y bytes maxL ret).before a0 Z = true) (hy : y.cls ≠ "java/lang/invoke/MethodHandle" ∧ y.cls ≠ "java/lang/invoke/VarHandle") (E : Exa Z h a C)
    (hM : Met l Z y bytes maxL ret rm as' h Q) (W : Nat) (argsL rest : List Value) (hpd : parseMethodDescriptor y.desc = some ⟨ps, rt⟩) (hlen : argsL.length = ps.length) (has : (.ref a :: argsL).toArray = as') {st : List Value} (hst : st = argsL.reverse ++ .ref a :: rest) (hsz : Ls.size = ml)
    (hW : (rest.map fun v => v.category).sum ≤ W) (hf : rm.frames + 1 ≤ R.frames) (hl : W + (maxL + 11) + rm.locals ≤ R.locals) (hcl : cells + rm.cells ≤ R.cells) (hsl : slots + rm.slots ≤ R.slots) :
    ∃ v T' L, Bx own bs ml Z p l e R s m args below meth c T' T'.heap (locs ++ L) (cells + rm.cells) (slots + rm.slots) ∧ Q v T'.heap L ∧
      ∀ {P : Outcome → State → Prop}, OG p.tables e below P (T'.setTop (mkF m pc' Ls (v.toList ++ rest))) → OG p.tables e below P (T.setTop (mkF m pc Ls st)) := by
  subst hp hst
  obtain ⟨X, hx, hby, hml, hown, hZ, eT⟩ := B
  obtain ⟨cq, kq, qa, qb, qc⟩ := isOf hZ eT E
  obtain ⟨v, vm1, ⟨T', L', k', n'⟩, -, X', ⟨Lc, hQ, l', y', z'⟩, st⟩ := X.virtualBack hx (y := y) (z := y) hown (mvT hZ w1) (mvT hZ w2) (notFace_of_selects (args := #[]) (mvT hZ w5)) (mvT hZ w5) (mvT hZ w6) hy (backOf (W := W) hM hZ w4 w3 hf hl) qa qc (g := mkF m pc Ls (argsL.reverse ++ .ref a :: rest)) rfl (by rw [hml]; exact hsz) (Steps.refl _) (argsL := argsL) (rest := rest) (lenOf hpd hlen) rfl (by simpa using hW) (hb hby hd) (fun _ _ => ⟨has, eT, hcl, hsl⟩)
  dsimp only [Pt.U, Pt.locs, Pt.cells, Pt.slots] at X' l' y' z' st hQ
  subst l' y' z'
  exact ⟨v, T', Lc, ⟨X', hx, hby, hml, hown, hZ, rfl⟩, hQ, fun k => k.of fun t q => st.trans q⟩
theorem o_callVP {index : Nat} {y : MethodName} {C : String} {bytes : ByteArray} {maxL : Nat} {ret : Option FieldType} {fr lo : Nat} {as' : Array Value} {r : Value} {ps : List FieldType} {rt : Option FieldType}
    (B : Bx own bs ml Z p l e R s m args below meth c T h locs cells slots) (pc pc' : Nat) (hd : decode bs pc = .ok (.invokevirtual index, 3)) (hp : pc + 3 = pc')
    (w1 : (Cond.methodLink own index y).before a0 Z = true) (w2 : (Cond.declares y).before a0 Z = true) (w5 : (Cond.selects C y y).before a0 Z = true) (w6 : (Cond.instanceMethod y).before a0 Z = true) (w3 : (Cond.initialized y.cls).before a0 Z = true) (w4 : (Cond.code y bytes maxL ret).before a0 Z = true) (hy : y.cls ≠ "java/lang/invoke/MethodHandle" ∧ y.cls ≠ "java/lang/invoke/VarHandle") (E : Exa Z h a C)
    (hM : Met l Z y bytes maxL ret ({ frames := fr, cells := 0, slots := 0, locals := lo } : Room) as' h (Pu (some r) h)) (W : Nat) (argsL rest : List Value) (hpd : parseMethodDescriptor y.desc = some ⟨ps, rt⟩) (hlen : argsL.length = ps.length) (has : (.ref a :: argsL).toArray = as') {st : List Value} (hst : st = argsL.reverse ++ .ref a :: rest) (hsz : Ls.size = ml)
    (hW : (rest.map fun v => v.category).sum ≤ W) (hf : fr + 1 ≤ R.frames) (hl : W + (maxL + 11) + lo ≤ R.locals) (hcl : cells ≤ R.cells) (hsl : slots ≤ R.slots) :
    ∃ T', Bx own bs ml Z p l e R s m args below meth c T' h locs cells slots ∧
      ∀ {P : Outcome → State → Prop}, OG p.tables e below P (T'.setTop (mkF m pc' Ls (r :: rest))) → OG p.tables e below P (T.setTop (mkF m pc Ls st)) := by
  obtain ⟨v, T', L, B', ⟨rfl, rfl, hh⟩, st⟩ := o_callV B pc pc' hd hp w1 w2 w5 w6 w3 w4 hy E hM W argsL rest hpd hlen has hst hsz hW hf hl hcl hsl
  rw [hh, List.append_nil] at B'
  exact ⟨T', B', st⟩
theorem o_callNP {index : Nat} {y : MethodName} {bytes : ByteArray} {maxL : Nat} {fr lo : Nat} {as' : Array Value} {ps : List FieldType} {rt : Option FieldType}
    (B : Bx own bs ml Z p l e R s m args below meth c T h locs cells slots) (pc pc' : Nat) (hd : decode bs pc = .ok (.invokespecial index, 3)) (hp : pc + 3 = pc') (hy1 : y.name = "<init>")
    (w1 : (Cond.methodLink own index y).before a0 Z = true) (w2 : (Cond.instanceMethod y).before a0 Z = true) (w3 : (Cond.initialized y.cls).before a0 Z = true) (w4 : (Cond.code y bytes maxL none).before a0 Z = true) (hy : y.cls ≠ "java/lang/invoke/MethodHandle" ∧ y.cls ≠ "java/lang/invoke/VarHandle")
    (hM : Met l Z y bytes maxL none ({ frames := fr, cells := 0, slots := 0, locals := lo } : Room) as' h (Pu none h)) (W : Nat) (argsL rest : List Value) (hpd : parseMethodDescriptor y.desc = some ⟨ps, rt⟩) (hlen : argsL.length = ps.length) (has : (.ref a :: argsL).toArray = as') {st : List Value} (hst : st = argsL.reverse ++ .ref a :: rest) (hsz : Ls.size = ml)
    (hW : (rest.map fun v => v.category).sum ≤ W) (hf : fr + 1 ≤ R.frames) (hl : W + (maxL + 11) + lo ≤ R.locals) (hcl : cells ≤ R.cells) (hsl : slots ≤ R.slots) :
    ∃ T', Bx own bs ml Z p l e R s m args below meth c T' h locs cells slots ∧
      ∀ {P : Outcome → State → Prop}, OG p.tables e below P (T'.setTop (mkF m pc' Ls rest)) → OG p.tables e below P (T.setTop (mkF m pc Ls st)) := by
  obtain ⟨v, T', L, B', ⟨rfl, rfl, hh⟩, st⟩ := o_callN B pc pc' hd hp hy1 w1 w2 w3 w4 hy hM W argsL rest hpd hlen has hst hsz hW hf hl hcl hsl
  rw [hh, List.append_nil] at B'
  exact ⟨T', B', st⟩
end Walk2
theorem d2_0 : decode jdk_30_method_1_code 0 = .ok (.aload_n 0, 1) := by decide +kernel
theorem d2_1 : decode jdk_30_method_1_code 1 = .ok (.invokespecial 1, 3) := by decide +kernel
theorem d2_4 : decode jdk_30_method_1_code 4 = .ok (.return_, 1) := by decide +kernel
theorem pl2 : plainFor (⟨"java/lang/Record", "<init>", "()V"⟩ : MethodName) = true := by first | exact plainFor_of_name (by first | (simp [plainName, overriddenIn]; done) | decide +kernel) | decide +kernel
set_option maxRecDepth 65536 in
set_option maxHeartbeats 40000000 in
theorem rm2 (l : Launch) (Z : State) (a0 : Array Value) (hw : ∀ d ∈ tables_1, d.before a0 Z = true) (a : Addr)  (h0 : Heap) :
    Met l Z (⟨"java/lang/Record", "<init>", "()V"⟩ : MethodName) jdk_30_method_1_code 1 (none) ({ frames := 1, cells := 0, slots := 0, locals := 12 } : Room) #[(.ref a)] h0 (Pu none h0) := by
  refine enter pl2 #[.val (.ref a)] rfl ?_
  intro p e s m below meth c T B hret hlk hnm
  · refine o_aloadN B 0 1 (v := (.ref a)) d2_0 rfl rfl rfl ?_
    obtain ⟨T1, B1, c1⟩ := o_initO B 1 4 d2_1 rfl (hw _ (List.mem_of_getElem? (i := 11) rfl)) (hw _ (List.mem_of_getElem? (i := 12) rfl)) (hw _ (List.mem_of_getElem? (i := 13) rfl)) (a := a) (Ls := #[.val (.ref a)]) (rest := []) rfl 0 (Nat.le_of_eq rfl) (by decide) (by decide)
    refine c1 ?_
    refine o_retV B1 4 d2_4 hret hlk (by decide) (by decide) ⟨rfl, rfl, rfl⟩
theorem d1_0 : decode prog_86_method_1_code 0 = .ok (.aload_n 0, 1) := by decide +kernel
theorem d1_1 : decode prog_86_method_1_code 1 = .ok (.invokespecial 3, 3) := by decide +kernel
theorem d1_4 : decode prog_86_method_1_code 4 = .ok (.aload_n 0, 1) := by decide +kernel
theorem d1_5 : decode prog_86_method_1_code 5 = .ok (.aload_n 1, 1) := by decide +kernel
theorem d1_6 : decode prog_86_method_1_code 6 = .ok (.putfield 9, 3) := by decide +kernel
theorem d1_9 : decode prog_86_method_1_code 9 = .ok (.aload_n 0, 1) := by decide +kernel
theorem d1_10 : decode prog_86_method_1_code 10 = .ok (.aload_n 2, 1) := by decide +kernel
theorem d1_11 : decode prog_86_method_1_code 11 = .ok (.putfield 15, 3) := by decide +kernel
theorem d1_14 : decode prog_86_method_1_code 14 = .ok (.aload_n 0, 1) := by decide +kernel
theorem d1_15 : decode prog_86_method_1_code 15 = .ok (.lload_n 3, 1) := by decide +kernel
theorem d1_16 : decode prog_86_method_1_code 16 = .ok (.putfield 18, 3) := by decide +kernel
theorem d1_19 : decode prog_86_method_1_code 19 = .ok (.return_, 1) := by decide +kernel
theorem pl1 : plainFor (⟨"com/example/seshat/seshat/storage/MemoryTable$Row", "<init>", "(Ljava/util/Map;Ljava/util/Map;J)V"⟩ : MethodName) = true := by first | exact plainFor_of_name (by first | (simp [plainName, overriddenIn]; done) | decide +kernel) | decide +kernel
theorem pd___V : parseMethodDescriptor "()V" = some ⟨[], none⟩ := by decide +kernel
def Q1 (Z : State) (a : Addr) (x2 : Int64) (h0 : Heap) (n0 : Nat) (v : Option Value) (h : Heap) (L : List Loc) : Prop := v = none ∧ Fr n0 L ∧ Keep h0 h [a] ∧ Fld Z h a "com/example/seshat/seshat/storage/MemoryTable$Row" "cells" "Ljava/util/Map;" .null ∧ Fld Z h a "com/example/seshat/seshat/storage/MemoryTable$Row" "written" "Ljava/util/Map;" .null ∧ Fld Z h a "com/example/seshat/seshat/storage/MemoryTable$Row" "marker" "J" (.long x2)
set_option maxRecDepth 65536 in
set_option maxHeartbeats 40000000 in
theorem rm1 (l : Launch) (Z : State) (a0 : Array Value) (hw : ∀ d ∈ tables_1, d.before a0 Z = true) (a : Addr) (x2 : Int64) (h0 : Heap) (n0 : Nat) (hz : n0 ≤ h0.size) (ga : n0 ≤ a) (hE : Exa Z h0 a "com/example/seshat/seshat/storage/MemoryTable$Row") (G0 : Fld Z h0 a "com/example/seshat/seshat/storage/MemoryTable$Row" "cells" "Ljava/util/Map;" .null) (G1 : Fld Z h0 a "com/example/seshat/seshat/storage/MemoryTable$Row" "written" "Ljava/util/Map;" .null) (G2 : Fld Z h0 a "com/example/seshat/seshat/storage/MemoryTable$Row" "marker" "J" (.long (0 : Int64))) :
    Met l Z (⟨"com/example/seshat/seshat/storage/MemoryTable$Row", "<init>", "(Ljava/util/Map;Ljava/util/Map;J)V"⟩ : MethodName) prog_86_method_1_code 5 none ({ frames := 2, cells := 0, slots := 0, locals := 24 } : Room) #[(.ref a), .null, .null, (.long x2)] h0 (Q1 Z a x2 h0 n0) := by
  refine enter pl1 #[.val (.ref a), .val .null, .val .null, .val (.long x2), .second] rfl ?_
  intro p e s m below meth c T B hret hlk hnm
  have N0 := Fr.nil n0
  refine o_aloadN B 0 1 (v := (.ref a)) d1_0 rfl rfl rfl ?_
  obtain ⟨T1, B1, c1⟩ := o_callNP B 1 4 d1_1 rfl rfl (hw _ (List.mem_of_getElem? (i := 6) rfl)) (hw _ (List.mem_of_getElem? (i := 7) rfl)) (hw _ (List.mem_of_getElem? (i := 9) rfl)) (hw _ (List.mem_of_getElem? (i := 10) rfl)) (by decide) (rm2 l Z a0 hw a  h0 ) 0 [] [] pd___V rfl rfl (st := [(.ref a)]) rfl (Ls := #[.val (.ref a), .val .null, .val .null, .val (.long x2), .second]) rfl (Nat.le_of_eq rfl) (by decide) (by decide) (by decide) (by decide)
  refine c1 ?_
  refine o_aloadN B1 4 5 (v := (.ref a)) d1_4 rfl rfl rfl ?_
  refine o_aloadN B1 5 6 (v := .null) d1_5 rfl rfl rfl ?_
  obtain ⟨T2, h2, L2, B2, N2, W2, c2⟩ := o_putfield B1 N0 ga 6 9 (v := .null) d1_6 rfl (host := "") (Or.inl (hw _ (List.mem_of_getElem? (i := 14) rfl))) Via.refl G0 hE (Or.inr ⟨(hw _ (List.mem_of_getElem? (i := 15) rfl)), rfl, hnm⟩) (hw _ (List.mem_of_getElem? (i := 1) rfl)) (ty := (.object "java/util/Map")) (by decide) rfl rfl (Ls := #[.val (.ref a), .val .null, .val .null, .val (.long x2), .second]) (rest := [])
  have F2 : Fld Z h2 a "com/example/seshat/seshat/storage/MemoryTable$Row" "cells" "Ljava/util/Map;" .null := Fld.same W2 G0
  refine c2 ?_
  refine o_aloadN B2 9 10 (v := (.ref a)) d1_9 rfl rfl rfl ?_
  refine o_aloadN B2 10 11 (v := .null) d1_10 rfl rfl rfl ?_
  have F4 := (Fld.other W2 G1 (Or.inr (slot_ne (a0 := a0) (C := "com/example/seshat/seshat/storage/MemoryTable$Row") (Or.inr (hw _ (List.mem_of_getElem? (i := 17) rfl))) (Or.inr (hw _ (List.mem_of_getElem? (i := 15) rfl))) (by decide) (t := (.object "java/util/Map")) (t' := (.object "java/util/Map")) (by decide) (by decide))))
  have F5 := (Exa.wr W2 hE)
  obtain ⟨T3, h3, L3, B3, N3, W3, c3⟩ := o_putfield B2 N2 ga 11 14 (v := .null) d1_11 rfl (host := "") (Or.inl (hw _ (List.mem_of_getElem? (i := 16) rfl))) Via.refl F4 F5 (Or.inr ⟨(hw _ (List.mem_of_getElem? (i := 17) rfl)), rfl, hnm⟩) (hw _ (List.mem_of_getElem? (i := 1) rfl)) (ty := (.object "java/util/Map")) (by decide) rfl rfl (Ls := #[.val (.ref a), .val .null, .val .null, .val (.long x2), .second]) (rest := [])
  have F3 : Fld Z h3 a "com/example/seshat/seshat/storage/MemoryTable$Row" "written" "Ljava/util/Map;" .null := Fld.same W3 F4
  refine c3 ?_
  refine o_aloadN B3 14 15 (v := (.ref a)) d1_14 rfl rfl rfl ?_
  refine o_lloadN B3 15 16 (v := x2) d1_15 rfl rfl ?_
  have F7 := (Fld.other W3 (Fld.other W2 G2 (Or.inr (slot_ne (a0 := a0) (C := "com/example/seshat/seshat/storage/MemoryTable$Row") (Or.inr (hw _ (List.mem_of_getElem? (i := 19) rfl))) (Or.inr (hw _ (List.mem_of_getElem? (i := 15) rfl))) (by decide) (t := .long) (t' := (.object "java/util/Map")) (by decide) (by decide)))) (Or.inr (slot_ne (a0 := a0) (C := "com/example/seshat/seshat/storage/MemoryTable$Row") (Or.inr (hw _ (List.mem_of_getElem? (i := 19) rfl))) (Or.inr (hw _ (List.mem_of_getElem? (i := 17) rfl))) (by decide) (t := .long) (t' := (.object "java/util/Map")) (by decide) (by decide))))
  have F8 := (Exa.wr W3 F5)
  obtain ⟨T6, h6, L6, B6, N6, W6, c6⟩ := o_putfield B3 N3 ga 16 19 (v := (.long x2)) d1_16 rfl (host := "") (Or.inl (hw _ (List.mem_of_getElem? (i := 18) rfl))) Via.refl F7 F8 (Or.inr ⟨(hw _ (List.mem_of_getElem? (i := 19) rfl)), rfl, hnm⟩) (hw _ (List.mem_of_getElem? (i := 1) rfl)) (ty := .long) (by decide) rfl rfl (Ls := #[.val (.ref a), .val .null, .val .null, .val (.long x2), .second]) (rest := [])
  have F6 : Fld Z h6 a "com/example/seshat/seshat/storage/MemoryTable$Row" "marker" "J" (.long x2) := Fld.same W6 F7
  refine c6 ?_
  have F9 := (Fld.other W6 (Fld.other W3 F2 (Or.inr (slot_ne (a0 := a0) (C := "com/example/seshat/seshat/storage/MemoryTable$Row") (Or.inr (hw _ (List.mem_of_getElem? (i := 15) rfl))) (Or.inr (hw _ (List.mem_of_getElem? (i := 17) rfl))) (by decide) (t := (.object "java/util/Map")) (t' := (.object "java/util/Map")) (by decide) (by decide)))) (Or.inr (slot_ne (a0 := a0) (C := "com/example/seshat/seshat/storage/MemoryTable$Row") (Or.inr (hw _ (List.mem_of_getElem? (i := 15) rfl))) (Or.inr (hw _ (List.mem_of_getElem? (i := 19) rfl))) (by decide) (t := (.object "java/util/Map")) (t' := .long) (by decide) (by decide))))
  have F10 := (Fld.other W6 F3 (Or.inr (slot_ne (a0 := a0) (C := "com/example/seshat/seshat/storage/MemoryTable$Row") (Or.inr (hw _ (List.mem_of_getElem? (i := 17) rfl))) (Or.inr (hw _ (List.mem_of_getElem? (i := 19) rfl))) (by decide) (t := (.object "java/util/Map")) (t' := .long) (by decide) (by decide))))
  exact o_retV B6 19 d1_19 hret hlk (by decide) (by decide) ⟨rfl, N6, ((((Keep.refl _ _).wr W2 (Or.inl (List.mem_of_getElem? (i := 0) rfl))).wr W3 (Or.inl (List.mem_of_getElem? (i := 0) rfl))).wr W6 (Or.inl (List.mem_of_getElem? (i := 0) rfl))), F9, F10, F6⟩
theorem d4_0 : decode prog_86_method_3_code 0 = .ok (.aload_n 0, 1) := by decide +kernel
theorem d4_1 : decode prog_86_method_3_code 1 = .ok (.getfield 18, 3) := by decide +kernel
theorem d4_4 : decode prog_86_method_3_code 4 = .ok (.ldc2_w 50, 3) := by decide +kernel
theorem d4_7 : decode prog_86_method_3_code 7 = .ok (.lcmp, 1) := by decide +kernel
theorem d4_8 : decode prog_86_method_3_code 8 = .ok (.ifCond .eq 7, 3) := by decide +kernel
theorem d4_11 : decode prog_86_method_3_code 11 = .ok (.iconst 1, 1) := by decide +kernel
theorem d4_12 : decode prog_86_method_3_code 12 = .ok (.goto 4, 3) := by decide +kernel
theorem d4_15 : decode prog_86_method_3_code 15 = .ok (.iconst 0, 1) := by decide +kernel
theorem d4_16 : decode prog_86_method_3_code 16 = .ok (.ireturn, 1) := by decide +kernel
theorem pl4 : plainFor (⟨"com/example/seshat/seshat/storage/MemoryTable$Row", "inserted", "()Z"⟩ : MethodName) = true := by first | exact plainFor_of_name (by first | (simp [plainName, overriddenIn]; done) | decide +kernel) | decide +kernel
def f4 (y0 : Int64) : Int32 := (if y0 = (-9223372036854775808 : Int64) then (0 : Int32) else (1 : Int32))
set_option maxRecDepth 65536 in
set_option maxHeartbeats 40000000 in
theorem rm4 (l : Launch) (Z : State) (a0 : Array Value) (hw : ∀ d ∈ tables_1, d.before a0 Z = true) (a : Addr) (y0 : Int64) (h0 : Heap) (G0 : Fld Z h0 a "com/example/seshat/seshat/storage/MemoryTable$Row" "marker" "J" (.long y0)) :
    Met l Z (⟨"com/example/seshat/seshat/storage/MemoryTable$Row", "inserted", "()Z"⟩ : MethodName) prog_86_method_3_code 1 (some .boolean) ({ frames := 0, cells := 0, slots := 0, locals := 0 } : Room) #[(.ref a)] h0 (Pu (some (.int (f4 y0))) h0) := by
  refine enter pl4 #[.val (.ref a)] rfl ?_
  intro p e s m below meth c T B hret hlk hnm
  · refine o_aloadN B 0 1 (v := (.ref a)) d4_0 rfl rfl rfl ?_
    obtain ⟨T1, B1, c1⟩ := o_getfield B 1 4 d4_1 rfl (host := "") (Or.inl (hw _ (List.mem_of_getElem? (i := 18) rfl))) Via.refl G0 (Ls := #[.val (.ref a)]) (rest := [])
    refine c1 ?_
    refine o_ldc2 B1 4 7 d4_4 rfl (hw _ (List.mem_of_getElem? (i := 26) rfl)) ?_
    refine o_lcmp B1 7 8 d4_7 rfl ?_
    by_cases k1 : y0 = (-9223372036854775808 : Int64)
    · refine o_ifY B1 8 15 d4_8 (XT.ll_eq_t k1) (by decide) (by decide) ?_
      refine o_iconst B1 15 16 (0 : Int32) d4_15 rfl (by decide) ?_
      refine o_retZ (t := .boolean) B1 16 d4_16 hret hlk (by simp) (by decide) (by decide) ⟨(congrArg (fun z => some (Value.int z)) ((show nar .boolean (0 : Int32) = (0 : Int32) from rfl).trans (show f4 y0 = (0 : Int32) from (if_pos k1).trans (rfl)).symm)), rfl, rfl⟩
    · refine o_ifN B1 8 11 d4_8 rfl (XT.ll_eq_f k1) ?_
      refine o_iconst B1 11 12 (1 : Int32) d4_11 rfl (by decide) ?_
      refine o_goto B1 12 16 d4_12 (by decide) (by decide) ?_
      refine o_retZ (t := .boolean) B1 16 d4_16 hret hlk (by simp) (by decide) (by decide) ⟨(congrArg (fun z => some (Value.int z)) ((show nar .boolean (1 : Int32) = (1 : Int32) from rfl).trans (show f4 y0 = (1 : Int32) from (if_neg k1).trans (rfl)).symm)), rfl, rfl⟩
theorem d5_0 : decode prog_86_method_10_code 0 = .ok (.aload_n 0, 1) := by decide +kernel
theorem d5_1 : decode prog_86_method_10_code 1 = .ok (.getfield 18, 3) := by decide +kernel
theorem d5_4 : decode prog_86_method_10_code 4 = .ok (.lreturn, 1) := by decide +kernel
theorem pl5 : plainFor (⟨"com/example/seshat/seshat/storage/MemoryTable$Row", "marker", "()J"⟩ : MethodName) = true := by first | exact plainFor_of_name (by first | (simp [plainName, overriddenIn]; done) | decide +kernel) | decide +kernel
def f5 (y0 : Int64) : Int64 := y0
set_option maxRecDepth 65536 in
set_option maxHeartbeats 40000000 in
theorem rm5 (l : Launch) (Z : State) (a0 : Array Value) (hw : ∀ d ∈ tables_1, d.before a0 Z = true) (a : Addr) (y0 : Int64) (h0 : Heap) (G0 : Fld Z h0 a "com/example/seshat/seshat/storage/MemoryTable$Row" "marker" "J" (.long y0)) :
    Met l Z (⟨"com/example/seshat/seshat/storage/MemoryTable$Row", "marker", "()J"⟩ : MethodName) prog_86_method_10_code 1 (some .long) ({ frames := 0, cells := 0, slots := 0, locals := 0 } : Room) #[(.ref a)] h0 (Pu (some (.long (f5 y0))) h0) := by
  refine enter pl5 #[.val (.ref a)] rfl ?_
  intro p e s m below meth c T B hret hlk hnm
  · refine o_aloadN B 0 1 (v := (.ref a)) d5_0 rfl rfl rfl ?_
    obtain ⟨T1, B1, c1⟩ := o_getfield B 1 4 d5_1 rfl (host := "") (Or.inl (hw _ (List.mem_of_getElem? (i := 18) rfl))) Via.refl G0 (Ls := #[.val (.ref a)]) (rest := [])
    refine c1 ?_
    refine o_retL B1 4 d5_4 hret hlk (by decide) (by decide) ⟨(congrArg (fun z => some (Value.long z)) (show f5 y0 = y0 from rfl)).symm, rfl, rfl⟩
theorem pl0 : plainFor x = true := by first | exact plainFor_of_name (by first | (simp [plainName, overriddenIn]; done) | decide +kernel) | decide +kernel
theorem pd__Ljava_util_Map_Ljava_util_Map_J_V : parseMethodDescriptor "(Ljava/util/Map;Ljava/util/Map;J)V" = some ⟨[(.object "java/util/Map"), (.object "java/util/Map"), .long], none⟩ := by decide +kernel
theorem pd___Z : parseMethodDescriptor "()Z" = some ⟨[], some .boolean⟩ := by decide +kernel
theorem pd___J : parseMethodDescriptor "()J" = some ⟨[], some .long⟩ := by decide +kernel
def q0_1 (x0 : Int64) (x1 : Int32) : Int64 := (if (x1 &&& (7 : Int32)) = (4 : Int32) then (9223372036854775807 : Int64) else x0)
def q0_2 (x0 : Int64) (x1 : Int32) : Int64 := (if (x1 &&& (7 : Int32)) = (3 : Int32) then (-1 : Int64) else (q0_1 x0 x1))
def q0_3 (x0 : Int64) (x1 : Int32) : Int64 := (if (x1 &&& (7 : Int32)) = (2 : Int32) then (0 : Int64) else (q0_2 x0 x1))
def q0_4 (x0 : Int64) (x1 : Int32) : Int64 := (if (x1 &&& (7 : Int32)) = (1 : Int32) then (-9223372036854775807 : Int64) else (q0_3 x0 x1))
def q0_5 (x0 : Int64) (x1 : Int32) : Int64 := (if (x1 &&& (7 : Int32)) = 0 then (-9223372036854775808 : Int64) else (q0_4 x0 x1))
def q0_6 (x0 : Int64) (x1 : Int32) : Int32 := (if (-9223372036854775808 : Int64) < (q0_5 x0 x1) then (1 : Int32) else 0)
def f0 (x0 : Int64) (x1 : Int32) : Int32 := (if (f4 (q0_5 x0 x1)) = (q0_6 x0 x1) then (if (f5 (q0_5 x0 x1)) = (q0_5 x0 x1) then (1 : Int32) else (0 : Int32)) else (0 : Int32))
set_option maxRecDepth 65536 in
set_option maxHeartbeats 40000000 in
theorem rm0 (l : Launch) (Z : State) (a0 : Array Value) (hw : ∀ d ∈ tables_1, d.before a0 Z = true) (ws : List Jvm.Cond) (x0 : Int64) (x1 : Int32) (h0 : Heap) (n0 : Nat) (hz : n0 ≤ h0.size) :
    MetFree l x (head1 (Jvm.Cond.code x code maxLocals ret :: ws) room_1) (fun a U => a = #[(.long x0), (.int x1)] ∧ Z.Warmed39 U.vm ∧ U.heap = h0) (fun _ _ _ _ _ => True) (fun _ U o U' => ∃ v L, o = .returned v ∧ Lw n0 (some (.int (f0 x0 x1))) v U'.heap L ∧ FrameEnd U o U' L room_1.cells room_1.slots) := by
  refine enter (y := x) (bs := code) (ml := maxLocals) (ret := ret) (Q := Lw n0 (some (.int (f0 x0 x1)))) pl0 #[.val (.long x0), .second, .val (.int x1), .unset, .unset, .unset, .unset, .unset] rfl ?_
  intro p e s m below meth c T B hret hlk hnm
  have N0 := Fr.nil n0
  refine o_iloadN B 0 1 (v := x1) at_0 rfl rfl ?_
  refine o_bipush B 1 3 (7 : Int32) at_1 rfl (by decide) ?_
  refine o_iand B 3 4 at_3 rfl ?_
  refine o_istoreN B 4 5 (l' := #[.val (.long x0), .second, .val (.int x1), .val (.int (x1 &&& (7 : Int32))), .unset, .unset, .unset, .unset]) at_4 rfl rfl ?_
  refine o_iloadN B 5 6 (v := (x1 &&& (7 : Int32))) at_5 rfl rfl ?_
  have dm1 : ∀ {P : Outcome → State → Prop}, OG p.tables e below P (T.setTop (mkF m 70 #[.val (.long x0), .second, .val (.int x1), .val (.int (x1 &&& (7 : Int32))), .val (.long (q0_5 x0 x1)), .second, .unset, .unset] [])) → OG p.tables e below P (T.setTop (mkF m 6 #[.val (.long x0), .second, .val (.int x1), .val (.int (x1 &&& (7 : Int32))), .unset, .unset, .unset, .unset] [(.int (x1 &&& (7 : Int32)))])) := by
    intro P k
    by_cases k2 : (x1 &&& (7 : Int32)) = 0
    · refine o_ifN B 6 9 at_6 rfl (XT.i0_ne_f k2) ?_
      refine o_ldc2 B 9 12 at_9 rfl (hw _ (List.mem_of_getElem? (i := 20) rfl)) ?_
      refine o_lstore B 12 14 (l' := #[.val (.long x0), .second, .val (.int x1), .val (.int (x1 &&& (7 : Int32))), .val (.long (-9223372036854775808 : Int64)), .second, .unset, .unset]) at_12 rfl rfl ?_
      refine o_goto B 14 70 at_14 (by decide) (by decide) ?_
      have y0 : (q0_5 x0 x1) = (-9223372036854775808 : Int64) := by simp only [q0_1, q0_2, q0_3, q0_4, q0_5, if_pos k2]
      rw [y0] at k
      exact k
    · refine o_ifY B 6 17 at_6 (XT.i0_ne_t k2) (by decide) (by decide) ?_
      refine o_iloadN B 17 18 (v := (x1 &&& (7 : Int32))) at_17 rfl rfl ?_
      refine o_iconst B 18 19 (1 : Int32) at_18 rfl (by decide) ?_
      by_cases k3 : (x1 &&& (7 : Int32)) = (1 : Int32)
      · refine o_icN B 19 22 at_19 rfl (XT.ii_ne_f k3) ?_
        refine o_ldc2 B 22 25 at_22 rfl (hw _ (List.mem_of_getElem? (i := 34) rfl)) ?_
        refine o_lstore B 25 27 (l' := #[.val (.long x0), .second, .val (.int x1), .val (.int (x1 &&& (7 : Int32))), .val (.long (-9223372036854775807 : Int64)), .second, .unset, .unset]) at_25 rfl rfl ?_
        refine o_goto B 27 70 at_27 (by decide) (by decide) ?_
        have y0 : (q0_5 x0 x1) = (-9223372036854775807 : Int64) := by simp only [q0_1, q0_2, q0_3, q0_4, q0_5, if_neg k2, if_pos k3]
        rw [y0] at k
        exact k
      · refine o_icY B 19 30 at_19 (XT.ii_ne_t k3) (by decide) (by decide) ?_
        refine o_iloadN B 30 31 (v := (x1 &&& (7 : Int32))) at_30 rfl rfl ?_
        refine o_iconst B 31 32 (2 : Int32) at_31 rfl (by decide) ?_
        by_cases k4 : (x1 &&& (7 : Int32)) = (2 : Int32)
        · refine o_icN B 32 35 at_32 rfl (XT.ii_ne_f k4) ?_
          refine o_lconst B 35 36 (0 : Int64) at_35 rfl (by decide) ?_
          refine o_lstore B 36 38 (l' := #[.val (.long x0), .second, .val (.int x1), .val (.int (x1 &&& (7 : Int32))), .val (.long (0 : Int64)), .second, .unset, .unset]) at_36 rfl rfl ?_
          refine o_goto B 38 70 at_38 (by decide) (by decide) ?_
          have y0 : (q0_5 x0 x1) = (0 : Int64) := by simp only [q0_1, q0_2, q0_3, q0_4, q0_5, if_neg k2, if_neg k3, if_pos k4]
          rw [y0] at k
          exact k
        · refine o_icY B 32 41 at_32 (XT.ii_ne_t k4) (by decide) (by decide) ?_
          refine o_iloadN B 41 42 (v := (x1 &&& (7 : Int32))) at_41 rfl rfl ?_
          refine o_iconst B 42 43 (3 : Int32) at_42 rfl (by decide) ?_
          by_cases k5 : (x1 &&& (7 : Int32)) = (3 : Int32)
          · refine o_icN B 43 46 at_43 rfl (XT.ii_ne_f k5) ?_
            refine o_ldc2 B 46 49 at_46 rfl (hw _ (List.mem_of_getElem? (i := 33) rfl)) ?_
            refine o_lstore B 49 51 (l' := #[.val (.long x0), .second, .val (.int x1), .val (.int (x1 &&& (7 : Int32))), .val (.long (-1 : Int64)), .second, .unset, .unset]) at_49 rfl rfl ?_
            refine o_goto B 51 70 at_51 (by decide) (by decide) ?_
            have y0 : (q0_5 x0 x1) = (-1 : Int64) := by simp only [q0_1, q0_2, q0_3, q0_4, q0_5, if_neg k2, if_neg k3, if_neg k4, if_pos k5]
            rw [y0] at k
            exact k
          · refine o_icY B 43 54 at_43 (XT.ii_ne_t k5) (by decide) (by decide) ?_
            refine o_iloadN B 54 55 (v := (x1 &&& (7 : Int32))) at_54 rfl rfl ?_
            refine o_iconst B 55 56 (4 : Int32) at_55 rfl (by decide) ?_
            by_cases k6 : (x1 &&& (7 : Int32)) = (4 : Int32)
            · refine o_icN B 56 59 at_56 rfl (XT.ii_ne_f k6) ?_
              refine o_ldc2 B 59 62 at_59 rfl (hw _ (List.mem_of_getElem? (i := 32) rfl)) ?_
              refine o_lstore B 62 64 (l' := #[.val (.long x0), .second, .val (.int x1), .val (.int (x1 &&& (7 : Int32))), .val (.long (9223372036854775807 : Int64)), .second, .unset, .unset]) at_62 rfl rfl ?_
              refine o_goto B 64 70 at_64 (by decide) (by decide) ?_
              have y0 : (q0_5 x0 x1) = (9223372036854775807 : Int64) := by simp only [q0_1, q0_2, q0_3, q0_4, q0_5, if_neg k2, if_neg k3, if_neg k4, if_neg k5, if_pos k6]
              rw [y0] at k
              exact k
            · refine o_icY B 56 67 at_56 (XT.ii_ne_t k6) (by decide) (by decide) ?_
              refine o_lloadN B 67 68 (v := x0) at_67 rfl rfl ?_
              refine o_lstore B 68 70 (l' := #[.val (.long x0), .second, .val (.int x1), .val (.int (x1 &&& (7 : Int32))), .val (.long x0), .second, .unset, .unset]) at_68 rfl rfl ?_
              have y0 : (q0_5 x0 x1) = x0 := by simp only [q0_1, q0_2, q0_3, q0_4, q0_5, if_neg k2, if_neg k3, if_neg k4, if_neg k5, if_neg k6]
              rw [y0] at k
              exact k
  refine dm1 ?_
  obtain ⟨a7, T7, h7, z7, B7, E7, X7, D7, c7⟩ := o_new B 70 73 at_70 rfl (hw _ (List.mem_of_getElem? (i := 0) rfl)) (hw _ (List.mem_of_getElem? (i := 1) rfl)) (hw _ (List.mem_of_getElem? (i := 2) rfl)) (by decide) (by decide) (Ls := #[.val (.long x0), .second, .val (.int x1), .val (.int (x1 &&& (7 : Int32))), .val (.long (q0_5 x0 x1)), .second, .unset, .unset]) (rest := [])
  have g7 : n0 ≤ a7 := by rw [z7]; exact hz
  have s7 : n0 ≤ h7.size := Nat.le_trans hz E7.1
  have F8 : Fld Z h7 a7 "com/example/seshat/seshat/storage/MemoryTable$Row" "cells" "Ljava/util/Map;" .null := D7 (Or.inr (hw _ (List.mem_of_getElem? (i := 15) rfl))) (ty := (.object "java/util/Map")) (by decide)
  have F9 : Fld Z h7 a7 "com/example/seshat/seshat/storage/MemoryTable$Row" "written" "Ljava/util/Map;" .null := D7 (Or.inr (hw _ (List.mem_of_getElem? (i := 17) rfl))) (ty := (.object "java/util/Map")) (by decide)
  have F10 : Fld Z h7 a7 "com/example/seshat/seshat/storage/MemoryTable$Row" "marker" "J" (.long (0 : Int64)) := D7 (Or.inr (hw _ (List.mem_of_getElem? (i := 19) rfl))) (ty := .long) (by decide)
  refine c7 ?_
  refine o_dup B7 73 74 at_73 rfl rfl ?_
  refine o_aconst_null B7 74 75 at_74 rfl ?_
  refine o_aconst_null B7 75 76 at_75 rfl ?_
  refine o_lload B7 76 78 (v := (q0_5 x0 x1)) at_76 rfl rfl ?_
  obtain ⟨v11, T11, L11, B11, Q11, c11⟩ := o_callN B7 78 81 at_78 rfl rfl (hw _ (List.mem_of_getElem? (i := 3) rfl)) (hw _ (List.mem_of_getElem? (i := 4) rfl)) (hw _ (List.mem_of_getElem? (i := 2) rfl)) (hw _ (List.mem_of_getElem? (i := 5) rfl)) (by decide) (rm1 l Z a0 hw a7 (q0_5 x0 x1) h7 n0 s7 g7 X7 F8 F9 F10) 1 [.null, .null, (.long (q0_5 x0 x1))] [(.ref a7)] pd__Ljava_util_Map_Ljava_util_Map_J_V rfl rfl (st := [(.long (q0_5 x0 x1)), .null, .null, (.ref a7), (.ref a7)]) rfl (Ls := #[.val (.long x0), .second, .val (.int x1), .val (.int (x1 &&& (7 : Int32))), .val (.long (q0_5 x0 x1)), .second, .unset, .unset]) rfl (Nat.le_of_eq rfl) (by decide) (by decide) (by decide) (by decide)
  obtain ⟨rfl, M11, K11, H11_0, H11_1, H11_2⟩ := Q11
  have N11 := Fr.app N0 M11
  have s11 : n0 ≤ T11.heap.size := Nat.le_trans s7 K11.1
  refine c11 ?_
  show OG p.tables e below _ (T11.setTop (mkF m 81 #[.val (.long x0), .second, .val (.int x1), .val (.int (x1 &&& (7 : Int32))), .val (.long (q0_5 x0 x1)), .second, .unset, .unset] [(.ref a7)]))
  refine o_astore B11 81 83 (l' := #[.val (.long x0), .second, .val (.int x1), .val (.int (x1 &&& (7 : Int32))), .val (.long (q0_5 x0 x1)), .second, .val (.ref a7), .unset]) at_81 rfl rfl rfl ?_
  refine o_lload B11 83 85 (v := (q0_5 x0 x1)) at_83 rfl rfl ?_
  refine o_ldc2 B11 85 88 at_85 rfl (hw _ (List.mem_of_getElem? (i := 20) rfl)) ?_
  refine o_lcmp B11 88 89 at_88 rfl ?_
  have dm7 : ∀ {P : Outcome → State → Prop}, OG p.tables e below P (T11.setTop (mkF m 97 #[.val (.long x0), .second, .val (.int x1), .val (.int (x1 &&& (7 : Int32))), .val (.long (q0_5 x0 x1)), .second, .val (.ref a7), .unset] [(.int (q0_6 x0 x1))])) → OG p.tables e below P (T11.setTop (mkF m 89 #[.val (.long x0), .second, .val (.int x1), .val (.int (x1 &&& (7 : Int32))), .val (.long (q0_5 x0 x1)), .second, .val (.ref a7), .unset] [(.int (XT.cmpL (q0_5 x0 x1) (-9223372036854775808 : Int64)))])) := by
    intro P k
    by_cases k8 : (-9223372036854775808 : Int64) < (q0_5 x0 x1)
    · refine o_ifN B11 89 92 at_89 rfl (XT.ll_le_f k8) ?_
      refine o_iconst B11 92 93 (1 : Int32) at_92 rfl (by decide) ?_
      refine o_goto B11 93 97 at_93 (by decide) (by decide) ?_
      have y0 : (q0_6 x0 x1) = (1 : Int32) := by simp only [q0_6, if_pos k8]
      rw [y0] at k
      exact k
    · refine o_ifY B11 89 96 at_89 (XT.ll_le_t k8) (by decide) (by decide) ?_
      refine o_iconst B11 96 97 (0 : Int32) at_96 rfl (by decide) ?_
      have y0 : (q0_6 x0 x1) = (0 : Int32) := by simp only [q0_6, if_neg k8]
      rw [y0] at k
      exact k
  refine dm7 ?_
  refine o_istore B11 97 99 (l' := #[.val (.long x0), .second, .val (.int x1), .val (.int (x1 &&& (7 : Int32))), .val (.long (q0_5 x0 x1)), .second, .val (.ref a7), .val (.int (q0_6 x0 x1))]) at_97 rfl rfl ?_
  refine o_aload B11 99 101 (v := (.ref a7)) at_99 rfl rfl rfl ?_
  have F14 := (X7.keep K11)
  obtain ⟨T15, B15, c15⟩ := o_callVP B11 101 104 at_101 rfl (hw _ (List.mem_of_getElem? (i := 21) rfl)) (hw _ (List.mem_of_getElem? (i := 22) rfl)) (hw _ (List.mem_of_getElem? (i := 24) rfl)) (hw _ (List.mem_of_getElem? (i := 23) rfl)) (hw _ (List.mem_of_getElem? (i := 2) rfl)) (hw _ (List.mem_of_getElem? (i := 25) rfl)) (by decide) F14 (rm4 l Z a0 hw a7 (q0_5 x0 x1) T11.heap H11_2) 0 [] [] pd___Z rfl rfl (st := [(.ref a7)]) rfl (Ls := #[.val (.long x0), .second, .val (.int x1), .val (.int (x1 &&& (7 : Int32))), .val (.long (q0_5 x0 x1)), .second, .val (.ref a7), .val (.int (q0_6 x0 x1))]) rfl (Nat.le_of_eq rfl) (by decide) (by decide) (by decide) (by decide)
  refine c15 ?_
  refine o_iload B15 104 106 (v := (q0_6 x0 x1)) at_104 rfl rfl ?_
  by_cases k9 : (f4 (q0_5 x0 x1)) = (q0_6 x0 x1)
  · refine o_icN B15 106 109 at_106 rfl (XT.ii_ne_f k9) ?_
    refine o_aload B15 109 111 (v := (.ref a7)) at_109 rfl rfl rfl ?_
    obtain ⟨T16, B16, c16⟩ := o_callVP B15 111 114 at_111 rfl (hw _ (List.mem_of_getElem? (i := 27) rfl)) (hw _ (List.mem_of_getElem? (i := 28) rfl)) (hw _ (List.mem_of_getElem? (i := 30) rfl)) (hw _ (List.mem_of_getElem? (i := 29) rfl)) (hw _ (List.mem_of_getElem? (i := 2) rfl)) (hw _ (List.mem_of_getElem? (i := 31) rfl)) (by decide) F14 (rm5 l Z a0 hw a7 (q0_5 x0 x1) T11.heap H11_2) 0 [] [] pd___J rfl rfl (st := [(.ref a7)]) rfl (Ls := #[.val (.long x0), .second, .val (.int x1), .val (.int (x1 &&& (7 : Int32))), .val (.long (q0_5 x0 x1)), .second, .val (.ref a7), .val (.int (q0_6 x0 x1))]) rfl (Nat.le_of_eq rfl) (by decide) (by decide) (by decide) (by decide)
    refine c16 ?_
    refine o_lload B16 114 116 (v := (q0_5 x0 x1)) at_114 rfl rfl ?_
    refine o_lcmp B16 116 117 at_116 rfl ?_
    by_cases k10 : (f5 (q0_5 x0 x1)) = (q0_5 x0 x1)
    · refine o_ifN B16 117 120 at_117 rfl (XT.ll_ne_f k10) ?_
      refine o_iconst B16 120 121 (1 : Int32) at_120 rfl (by decide) ?_
      refine o_goto B16 121 125 at_121 (by decide) (by decide) ?_
      refine o_retZ (t := .boolean) B16 125 at_125 hret hlk (by simp) (by decide) (by decide) ⟨(congrArg (fun z => some (Value.int z)) ((show nar .boolean (1 : Int32) = (1 : Int32) from rfl).trans (show f0 x0 x1 = (1 : Int32) from (if_pos k9).trans ((if_pos k10).trans (rfl))).symm)), N11⟩
    · refine o_ifY B16 117 124 at_117 (XT.ll_ne_t k10) (by decide) (by decide) ?_
      refine o_iconst B16 124 125 (0 : Int32) at_124 rfl (by decide) ?_
      refine o_retZ (t := .boolean) B16 125 at_125 hret hlk (by simp) (by decide) (by decide) ⟨(congrArg (fun z => some (Value.int z)) ((show nar .boolean (0 : Int32) = (0 : Int32) from rfl).trans (show f0 x0 x1 = (0 : Int32) from (if_pos k9).trans ((if_neg k10).trans (rfl))).symm)), N11⟩
  · refine o_icY B15 106 124 at_106 (XT.ii_ne_t k9) (by decide) (by decide) ?_
    refine o_iconst B15 124 125 (0 : Int32) at_124 rfl (by decide) ?_
    refine o_retZ (t := .boolean) B15 125 at_125 hret hlk (by simp) (by decide) (by decide) ⟨(congrArg (fun z => some (Value.int z)) ((show nar .boolean (0 : Int32) = (0 : Int32) from rfl).trans (show f0 x0 x1 = (0 : Int32) from (if_neg k9).trans (rfl)).symm)), N11⟩
theorem law_true (x0 : Int64) (x1 : Int32) : f0 x0 x1 = 1 := by
  unfold f0 f5 f4 q0_6
  generalize q0_5 x0 x1 = k
  have r := rng64 k
  have e : (-9223372036854775808 : Int64).toInt = -9223372036854775808 := by decide
  simp only [Int64.lt_iff_toInt_lt, ← Int64.toInt_inj, e]
  repeat' split
  all_goals first | rfl | (exfalso; omega) | (exfalso; simp_all; done) | (exfalso; simp_all; omega)
set_option maxRecDepth 65536 in
set_option maxHeartbeats 40000000 in
theorem comes_1 {Post : Tables → Env → Array Value → State → Outcome → State → Prop} (hpost : ∀ tb e args s v u, (limb_1_1.after args s (.returned v) u = true ∧ limb_1_2.after args s (.returned v) u = true ∧ True) → FrameEnd s (.returned v) u (Jvm.fieldLocs frame_1_writes args s ++ Jvm.arrayLocs frame_1_arrays args s ++ Jvm.staticLocs frame_1_statics s) 16 128 → Post tb e args s (.returned v) u) :
    ArmFor flags0 classFile x code maxLocals ret World_1 tables_1 room_1 Calls_1 rest_1 Pre_1 Post := by
  intro l hfl _ _ p e ha hc hk s m args below hf hA hF happ hP
  obtain ⟨hcalls, hrest, hpre⟩ := hP
  obtain ⟨-, -, -, hnamed, -, -, -, hat⟩ := (Spec.applies_iff hf).mp happ
  obtain ⟨hg, hn⟩ := and_e (Cond.before_iff.mp (show (Jvm.Cond.and given_1 narrow_1).before args s = true from hpre))
  obtain ⟨g0, hg⟩ := and_e hg
  obtain ⟨g1, hg⟩ := and_e hg
  obtain ⟨w0, w1, rfl⟩ : ∃ w0 w1 : Value, args = #[w0, w1] := by
    have hs : args.size = 2 := by simpa [Cond.value, given_1] using g0
    obtain ⟨L⟩ := args
    match L, hs with
    | [w0, w1], _ => exact ⟨w0, w1, rfl⟩
  have hw := fun d (hd : d ∈ tables_1) => atoms_spec (ws := Jvm.Cond.code x code maxLocals ret :: tables_1) hat d (List.mem_cons_of_mem _ hd)
  obtain ⟨i0, e0⟩ := isL_v g1
  obtain rfl : w0 = (.long i0) := Option.some.inj e0
  obtain ⟨i1, e1⟩ := is_v hg
  obtain rfl : w1 = (.int i1) := Option.some.inj e1
  obtain ⟨n, o, h1, h2, h3, v, L, rfl, ⟨rfl, N⟩, hq⟩ := rm0 l s _ hw tables_1 i0 i1 s.heap s.heap.size (Nat.le_refl _) p e ha hc hk s m _ below hf ((Spec.applies_iff_loose hf).mp happ).1 ⟨rfl, State.Warmed39.refl s, rfl⟩ trivial
  rw [law_true] at h3 hq
  refine ⟨n, _, h1, h2, h3, hpost _ _ _ _ _ _ ⟨Cond.after_iff.mpr rfl, Cond.after_iff.mpr (eq_i res_at (Term.int_eval (1)) rfl), trivial⟩ ⟨hq.1, hq.2.1, (hq.2.2.sift fun y hy => Or.inr (N y hy)).mono (by decide) (by decide)⟩⟩
theorem main_1_1 : Claimed_1_1 := comes_1 fun _ _ _ _ _ _ h hF => ⟨h.1, hF⟩
theorem main_1_2 : Claimed_1_2 := comes_1 fun _ _ _ _ _ _ h hF => ⟨h.2.1, hF⟩
end Jvm.Pilot.@@N@@
namespace Jvm.Pilot.@@N@@
open Jvm Jvm.ClassFile Sem Op Lib Jvm.Free Jvm.Stand Jvm.Pilot.@@N@@.Jvm.D
/-! MADE BY PROGRAM (witnessworld.py) out of the Statement's table words and the real class files: 10 classes; the members and pool entries that the words name. The judged class is class 1, her method 1. -/
namespace start1
open Jvm.ClassFile
def u (s : String) : CpInfo := .utf8 (stringToUtf16 s)
/-- a pool by its gaps: so many unusable entries, then the entry; so many at the end -/
def gap : Nat → List CpInfo → List CpInfo
  | 0, r => r
  | n + 1, r => .unusable :: gap n r
def poolList (es : List (Nat × CpInfo)) (last : Nat) : List CpInfo := es.foldr (fun e r => gap e.1 (e.2 :: r)) (gap last [])
def pool (es : List (Nat × CpInfo)) (last : Nat) : Array CpInfo := ⟨poolList es last⟩
def fileOf (pool : Array CpInfo) (this : Nat) (attrs : Array Attribute := #[]) (ms : Array MethodInfo := #[]) (fl : Nat := 33) (sup : Nat := 0) (ifs : Array Nat := #[]) (fds : Array FieldInfo := #[]) : ClassFile where
  minorVersion := 0
  majorVersion := 65
  constantPool := pool
  accessFlags := fl
  thisClass := this
  superClass := sup
  interfaces := ifs
  fields := fds
  methods := ms
  attributes := attrs
def plain (name : String) (sup : Option ClassId) : Class where
  name := name
  kind := .ordinary
  loader := none
  accessFlags := 33
  super := sup
  interfaces := #[]
  cf := none
  fields := #[]
  methods := #[]
  instanceTypes := #[]
  staticTypes := #[]
  resolved := #[]
  callSites := []
  init := .initialized
  statics := none
  mirror := none

def pool0 : Array CpInfo := pool [(5, u "<init>"), (0, u "()V"), (1, .class_ 10), (1, u "java/lang/Object")] 113

def k0c0 : Code := { maxStack := 0, maxLocals := 1, code := object_method_1_code, exceptionTable := #[], attributes := #[] }
def k0m0 : Method := { name := "<init>", desc := "()V", sig := { parameters := [], returnType := none }, accessFlags := 1, code := some k0c0 }
/-- java/lang/Object -/
def k0 : Class := { plain "java/lang/Object" none with
  accessFlags := 33
  interfaces := #[]
  cf := some (fileOf pool0 8 #[] #[{ accessFlags := 1, nameIndex := 5, descriptorIndex := 6, attributes := #[] }] 33 0 #[] #[])
  fields := #[]
  methods := #[k0m0]
  instanceTypes := #[]
  staticTypes := #[]
  resolved := Array.replicate 124 none
  statics := none }

def pool1 : Array CpInfo := pool [(2, .class_ 4), (1, u "java/lang/Object"), (0, u "<init>"), (0, u "()V"), (2, .long 9223372036854775808), (1, .long 9223372036854775809), (1, .long 18446744073709551615), (1, .long 9223372036854775807), (1, .class_ 18), (0, u "com/example/seshat/seshat/storage/MemoryTable$Row"), (0, .methodref 17 20), (0, .nameAndType 5 21), (0, u "(Ljava/util/Map;Ljava/util/Map;J)V"), (0, .methodref 17 23), (0, .nameAndType 24 25), (0, u "inserted"), (0, u "()Z"), (0, .methodref 17 27), (0, .nameAndType 28 29), (0, u "marker"), (0, u "()J"), (0, .class_ 31), (0, u "com/example/seshat/seshat/storage/RowInsertedPinLaw"), (2, u "law"), (0, u "(JI)Z")] 7

def k1m0 : Method := { name := "<init>", desc := "()V", sig := { parameters := [], returnType := none }, accessFlags := 2, code := none }
def k1c1 : Code := { maxStack := 6, maxLocals := 8, code := code, exceptionTable := #[], attributes := #[] }
def k1m1 : Method := { name := "law", desc := "(JI)Z", sig := { parameters := [.long, .int], returnType := some .boolean }, accessFlags := 9, code := some k1c1 }
/-- com/example/seshat/seshat/storage/RowInsertedPinLaw -/
def k1 : Class := { plain "com/example/seshat/seshat/storage/RowInsertedPinLaw" (some 0) with
  accessFlags := 49
  interfaces := #[]
  cf := some (fileOf pool1 30 #[] #[{ accessFlags := 2, nameIndex := 5, descriptorIndex := 6, attributes := #[] }, { accessFlags := 9, nameIndex := 34, descriptorIndex := 35, attributes := #[] }] 49 2 #[] #[])
  fields := #[]
  methods := #[k1m0, k1m1]
  instanceTypes := #[]
  staticTypes := #[]
  resolved := Array.replicate 43 none
  statics := none }

def pool2 : Array CpInfo := pool [(1, .methodref 2 3), (0, .class_ 4), (0, .nameAndType 5 6), (0, u "java/lang/Object"), (0, u "<init>"), (0, u "()V"), (0, .class_ 8), (0, u "java/lang/Record")] 13

def k2c0 : Code := { maxStack := 1, maxLocals := 1, code := jdk_30_method_1_code, exceptionTable := #[], attributes := #[] }
def k2m0 : Method := { name := "<init>", desc := "()V", sig := { parameters := [], returnType := none }, accessFlags := 4, code := some k2c0 }
/-- java/lang/Record -/
def k2 : Class := { plain "java/lang/Record" (some 0) with
  accessFlags := 1057
  interfaces := #[]
  cf := some (fileOf pool2 7 #[] #[{ accessFlags := 4, nameIndex := 5, descriptorIndex := 6, attributes := #[] }] 1057 2 #[] #[])
  fields := #[]
  methods := #[k2m0]
  instanceTypes := #[]
  staticTypes := #[]
  resolved := Array.replicate 22 none
  statics := none }

def pool3 : Array CpInfo := pool [(1, .class_ 2), (0, u "com/example/seshat/seshat/storage/MemoryTable"), (0, .methodref 4 5), (0, .class_ 6), (0, .nameAndType 7 8), (0, u "java/lang/Record"), (0, u "<init>"), (0, u "()V"), (0, .fieldref 10 11), (0, .class_ 12), (0, .nameAndType 13 14), (0, u "com/example/seshat/seshat/storage/MemoryTable$Row"), (0, u "cells"), (0, u "Ljava/util/Map;"), (0, .fieldref 10 16), (0, .nameAndType 17 14), (0, u "written"), (0, .fieldref 10 19), (0, .nameAndType 20 21), (0, u "marker"), (0, u "J"), (27, u "()J"), (0, .long 9223372036854775808), (29, u "()Z"), (6, u "(Ljava/util/Map;Ljava/util/Map;J)V"), (40, u "inserted")] 65

def k3c0 : Code := { maxStack := 3, maxLocals := 5, code := prog_86_method_1_code, exceptionTable := #[], attributes := #[] }
def k3m0 : Method := { name := "<init>", desc := "(Ljava/util/Map;Ljava/util/Map;J)V", sig := { parameters := [(.object "java/util/Map"), (.object "java/util/Map"), .long], returnType := none }, accessFlags := 0, code := some k3c0 }
def k3c1 : Code := { maxStack := 4, maxLocals := 1, code := prog_86_method_3_code, exceptionTable := #[], attributes := #[] }
def k3m1 : Method := { name := "inserted", desc := "()Z", sig := { parameters := [], returnType := some .boolean }, accessFlags := 0, code := some k3c1 }
def k3c2 : Code := { maxStack := 2, maxLocals := 1, code := prog_86_method_10_code, exceptionTable := #[], attributes := #[] }
def k3m2 : Method := { name := "marker", desc := "()J", sig := { parameters := [], returnType := some .long }, accessFlags := 1, code := some k3c2 }
/-- com/example/seshat/seshat/storage/MemoryTable$Row -/
def k3 : Class := { plain "com/example/seshat/seshat/storage/MemoryTable$Row" (some 2) with
  accessFlags := 48
  interfaces := #[]
  cf := some (fileOf pool3 10 #[.nestHost 1] #[{ accessFlags := 0, nameIndex := 7, descriptorIndex := 87, attributes := #[] }, { accessFlags := 0, nameIndex := 128, descriptorIndex := 80, attributes := #[] }, { accessFlags := 1, nameIndex := 20, descriptorIndex := 49, attributes := #[] }] 48 4 #[] #[{ accessFlags := 18, nameIndex := 13, descriptorIndex := 14, attributes := #[] }, { accessFlags := 18, nameIndex := 17, descriptorIndex := 14, attributes := #[] }, { accessFlags := 18, nameIndex := 20, descriptorIndex := 21, attributes := #[] }])
  fields := #[{ name := "cells", type := (.object "java/util/Map"), accessFlags := 18, slot := 0, constantValue := 0 }, { name := "written", type := (.object "java/util/Map"), accessFlags := 18, slot := 1, constantValue := 0 }, { name := "marker", type := .long, accessFlags := 18, slot := 2, constantValue := 0 }]
  methods := #[k3m0, k3m1, k3m2]
  instanceTypes := #[(.object "java/util/Map"), (.object "java/util/Map"), .long]
  staticTypes := #[]
  resolved := Array.replicate 194 none
  statics := none }

def pool4 : Array CpInfo := pool [(1, u "java/lang/Cloneable"), (0, .class_ 1), (0, u "java/lang/Object"), (0, .class_ 3)] 3

/-- java/lang/Cloneable -/
def k4 : Class := { plain "java/lang/Cloneable" (some 0) with
  accessFlags := 1537
  interfaces := #[]
  cf := some (fileOf pool4 2 #[] #[] 1537 4 #[] #[])
  fields := #[]
  methods := #[]
  instanceTypes := #[]
  staticTypes := #[]
  resolved := Array.replicate 8 none
  statics := none }

def pool5 : Array CpInfo := pool [(1, u "java/io/Serializable"), (0, .class_ 1), (0, u "java/lang/Object"), (0, .class_ 3)] 3

/-- java/io/Serializable -/
def k5 : Class := { plain "java/io/Serializable" (some 0) with
  accessFlags := 1537
  interfaces := #[]
  cf := some (fileOf pool5 2 #[] #[] 1537 4 #[] #[])
  fields := #[]
  methods := #[]
  instanceTypes := #[]
  staticTypes := #[]
  resolved := Array.replicate 8 none
  statics := none }

/-- the primitive byte -/
def k6 : Class := { plain "byte" none with kind := .primitive 'B', accessFlags := 0x411 }
/-- [B -/
def k7 : Class := { plain "[B" (some 0) with kind := .array 6 .byte, interfaces := #[4, 5], accessFlags := 1041 }

/-- the primitive int -/
def k8 : Class := { plain "int" none with kind := .primitive 'I', accessFlags := 0x411 }
/-- [I -/
def k9 : Class := { plain "[I" (some 0) with kind := .array 8 .int, interfaces := #[4, 5], accessFlags := 1041 }

def heap : Heap := #[]
def classes : Array Class := #[k0, k1, k2, k3, k4, k5, k6, k7, k8, k9]
def interned : List (Array UInt16 × Addr) := []
def slotsUsed : Nat := 0
def theMethod : MethodId := ⟨1, 1⟩
def args0 : Array Value := #[.long 5, .int 3]
def aboutOver (below : List Frame) : State where
  vm := { classes := classes, interned := interned.toArray }
  heap := heap
  slotsUsed := slotsUsed
  threads := #[{ frames := .invoking theMethod args0 :: below }]
def below0 : List Frame := [.native { method := ⟨0, 0⟩, args := #[] }]
def about1 : State := aboutOver below0
def p0 : Program := .bare "" "" ""
def e0 : Env := launch0.env 0 0 0
theorem w_frames : about1.frames = Frame.invoking theMethod args0 :: below0 := rfl
set_option maxRecDepth 65536 in
theorem w_args : argsFit about1.vm theMethod args0 = true := by decide +kernel
set_option maxRecDepth 65536 in
theorem w_heap : heapFits about1 = true := by decide +kernel
set_option maxRecDepth 65536 in
theorem w_runnable : about1.curStatus? = some .runnable := by decide +kernel
set_option maxRecDepth 65536 in
theorem w_alone : about1.alone = true := by decide +kernel
set_option maxRecDepth 65536 in
theorem w_named : about1.methodNamed? x = some theMethod := by decide +kernel
set_option maxRecDepth 65536 in
theorem w_hears : about1.hears theMethod below0 = true := by decide +kernel
set_option maxRecDepth 65536 in
theorem w_ripe : about1.ripe theMethod args0 below0 = true := by decide +kernel
theorem w_running : about1.status = .running := rfl
set_option maxRecDepth 65536 in
theorem w_room : about1.hasRoom e0.platform room_1 = true :=
  launch0.hasRoom_least _ room_1 (by decide +kernel) (by decide +kernel) (by decide +kernel) (by decide +kernel) (by decide +kernel) (by decide +kernel)
theorem allAtoms_all (ts : List Jvm.Cond) (a : Array Jvm.Value) (st : Jvm.State) : (allAtoms ts).before a st = ts.all (fun c => c.before a st) := by
  induction ts with
  | nil => rfl
  | cons c t ih =>
    show (Jvm.Cond.and c (allAtoms t)).before a st = _
    rw [Jvm.Cond.before_and, ih, List.all_cons]
def words1 : List Jvm.Cond := Jvm.Cond.code x code maxLocals ret :: tables_1
/-- a 'code' word, met by the world's own term for the bytes: nothing is compared byte by byte -/
theorem code_word {y : MethodName} {bytes : ByteArray} {mx : Nat} {rt : Option FieldType} {a : Array Value} {s : State} {m : MethodId} {meth : Method} {c : Code} (h1 : s.methodNamed? y = some m) (h2 : s.vm.method? m = some meth) (h3 : meth.code = some c) (h4 : c.code = bytes)
    (h5 : (c.maxLocals == mx && c.exceptionTable.isEmpty && decide (c.maxStack ≤ mostOperands) && decide (meth.sig.returnType = rt) && !meth.locks && decide (parseMethodDescriptor y.desc = some meth.sig)) = true) : (Jvm.Cond.code y bytes mx rt).before a s = true := by
  simp only [Bool.and_eq_true, beq_iff_eq, Bool.not_eq_true', decide_eq_true_eq] at h5
  obtain ⟨⟨⟨⟨⟨g1, g2⟩, g3⟩, g4⟩, g5⟩, g6⟩ := h5
  simp [Cond.before, Cond.holds, Cond.value, h1, h2, h3, h4, g1, g2, g3, g4, g5, g6]
def isCode : Jvm.Cond → Bool
  | .code _ _ _ _ => true
  | _ => false
theorem all_split {L : List Jvm.Cond} {P : Jvm.Cond → Bool} (h1 : L.all (fun c => isCode c || P c) = true) (h2 : ∀ c ∈ L.filter isCode, P c = true) : L.all P = true := by
  refine List.all_eq_true.mpr fun c hc => ?_
  have h := List.all_eq_true.mp h1 c hc
  rcases Bool.eq_false_or_eq_true (isCode c) with hi | hi
  · exact h2 c (List.mem_filter.mpr ⟨hc, hi⟩)
  · simpa [hi] using h
set_option maxRecDepth 65536 in
theorem w_c0 : (Jvm.Cond.code x code maxLocals ret).before args0 about1 = true := code_word (m := ⟨1, 1⟩) (meth := k1m1) (c := k1c1) (by decide +kernel) rfl rfl rfl (by decide +kernel)
set_option maxRecDepth 65536 in
theorem w_c1 : (Jvm.Cond.code ({ cls := "com/example/seshat/seshat/storage/MemoryTable$Row", name := "<init>", desc := "(Ljava/util/Map;Ljava/util/Map;J)V" } : Jvm.MethodName) prog_86_method_1_code (5 : Nat) (Option.none : Option Jvm.ClassFile.FieldType)).before args0 about1 = true := code_word (m := ⟨3, 0⟩) (meth := k3m0) (c := k3c0) (by decide +kernel) rfl rfl rfl (by decide +kernel)
set_option maxRecDepth 65536 in
theorem w_c2 : (Jvm.Cond.code ({ cls := "java/lang/Record", name := "<init>", desc := "()V" } : Jvm.MethodName) jdk_30_method_1_code (1 : Nat) (Option.none : Option Jvm.ClassFile.FieldType)).before args0 about1 = true := code_word (m := ⟨2, 0⟩) (meth := k2m0) (c := k2c0) (by decide +kernel) rfl rfl rfl (by decide +kernel)
set_option maxRecDepth 65536 in
theorem w_c3 : (Jvm.Cond.code ({ cls := "java/lang/Object", name := "<init>", desc := "()V" } : Jvm.MethodName) object_method_1_code (1 : Nat) (Option.none : Option Jvm.ClassFile.FieldType)).before args0 about1 = true := code_word (m := ⟨0, 0⟩) (meth := k0m0) (c := k0c0) (by decide +kernel) rfl rfl rfl (by decide +kernel)
set_option maxRecDepth 65536 in
theorem w_c4 : (Jvm.Cond.code ({ cls := "com/example/seshat/seshat/storage/MemoryTable$Row", name := "inserted", desc := "()Z" } : Jvm.MethodName) prog_86_method_3_code (1 : Nat) (Option.some Jvm.ClassFile.FieldType.boolean)).before args0 about1 = true := code_word (m := ⟨3, 1⟩) (meth := k3m1) (c := k3c1) (by decide +kernel) rfl rfl rfl (by decide +kernel)
set_option maxRecDepth 65536 in
theorem w_c5 : (Jvm.Cond.code ({ cls := "com/example/seshat/seshat/storage/MemoryTable$Row", name := "marker", desc := "()J" } : Jvm.MethodName) prog_86_method_10_code (1 : Nat) (Option.some Jvm.ClassFile.FieldType.long)).before args0 about1 = true := code_word (m := ⟨3, 2⟩) (meth := k3m2) (c := k3c2) (by decide +kernel) rfl rfl rfl (by decide +kernel)
def codes1 : List Jvm.Cond := [Jvm.Cond.code x code maxLocals ret, Jvm.Cond.code ({ cls := "com/example/seshat/seshat/storage/MemoryTable$Row", name := "<init>", desc := "(Ljava/util/Map;Ljava/util/Map;J)V" } : Jvm.MethodName) prog_86_method_1_code (5 : Nat) (Option.none : Option Jvm.ClassFile.FieldType), Jvm.Cond.code ({ cls := "java/lang/Record", name := "<init>", desc := "()V" } : Jvm.MethodName) jdk_30_method_1_code (1 : Nat) (Option.none : Option Jvm.ClassFile.FieldType), Jvm.Cond.code ({ cls := "java/lang/Object", name := "<init>", desc := "()V" } : Jvm.MethodName) object_method_1_code (1 : Nat) (Option.none : Option Jvm.ClassFile.FieldType), Jvm.Cond.code ({ cls := "com/example/seshat/seshat/storage/MemoryTable$Row", name := "inserted", desc := "()Z" } : Jvm.MethodName) prog_86_method_3_code (1 : Nat) (Option.some Jvm.ClassFile.FieldType.boolean), Jvm.Cond.code ({ cls := "com/example/seshat/seshat/storage/MemoryTable$Row", name := "marker", desc := "()J" } : Jvm.MethodName) prog_86_method_10_code (1 : Nat) (Option.some Jvm.ClassFile.FieldType.long)]
set_option maxRecDepth 65536 in
theorem codes_eq : words1.filter isCode = codes1 := rfl
theorem w_codes : ∀ c ∈ words1.filter isCode, c.before args0 about1 = true := by
  rw [codes_eq]
  intro c hc
  simp only [codes1, List.mem_cons, List.not_mem_nil, or_false] at hc
  rcases hc with rfl | rfl | rfl | rfl | rfl | rfl
  · exact w_c0
  · exact w_c1
  · exact w_c2
  · exact w_c3
  · exact w_c4
  · exact w_c5
set_option maxRecDepth 65536 in
theorem w_t1 : (words1.take 24).all (fun c => isCode c || c.before args0 about1) = true := by decide +kernel
set_option maxRecDepth 65536 in
theorem w_t2 : (words1.drop 24).all (fun c => isCode c || c.before args0 about1) = true := by decide +kernel
theorem w_tables : (allAtoms (Jvm.Cond.code x code maxLocals ret :: tables_1)).before args0 about1 = true := by
  rw [allAtoms_all]
  show words1.all (fun c => c.before args0 about1) = true
  refine all_split ?_ w_codes
  rw [← List.take_append_drop 24 words1, List.all_append, w_t1, w_t2]
  rfl
set_option maxRecDepth 65536 in
theorem w_case : (Jvm.Cond.and given_1 narrow_1).before args0 about1 = true := by decide +kernel
theorem w_applies : (headSpec (Jvm.Cond.code x code maxLocals ret :: tables_1) room_1).applies x e0.platform about1 = true :=
  (Spec.applies_iff w_frames).mpr ⟨w_running, w_runnable, w_alone, w_named, w_hears, w_ripe, w_room, w_tables⟩
theorem atStart : AtStart classFile x code maxLocals ret World_1 tables_1 room_1 Calls_1 rest_1 Pre_1 launch0 p0 e0 about1 theMethod args0 below0 :=
  ⟨lists_1, trivial, launch0.admits_env _ _ _, launch0.least_env, fairChoices_fair.cas, fairChoices_fair.clock, w_frames, w_args, w_heap, w_applies, trivial, trivial, w_case⟩
end start1
theorem witness_1 : WitnessClaimed_1 := ⟨start1.p0, start1.e0, start1.about1, start1.theMethod, start1.args0, start1.below0, start1.atStart⟩
end Jvm.Pilot.@@N@@
