import JvmDerived
import JvmDerived.Pilot.@@N@@Statement
import JvmDerived.Pilot.@@N@@Code
set_option linter.unusedVariables false
set_option linter.unusedSimpArgs false
namespace Jvm.Pilot.@@N@@
open Jvm Jvm.ClassFile Sem Op Lib Jvm.Free Jvm.Stand Jvm.LawKit Jvm.RoadKit Bundle Jvm.Pilot.@@N@@.Jvm.D
/-! 1. the walk's own words -/
def OG (tb : Tables) (e : Env) (below : List Frame) (P : Outcome → State → Prop) (A : State) : Prop :=
  ∃ s₂ o, Steps tb e below A s₂ ∧ s₂.status = .running ∧ Ended s₂ below o ∧ P o s₂
theorem OG.of {tb : Tables} {e : Env} {below : List Frame} {P : Outcome → State → Prop} {A B : State} (h : OG tb e below P B) (k : ∀ t, Steps tb e below B t → Steps tb e below A t) : OG tb e below P A := by
  obtain ⟨t, o, st, r⟩ := h
  exact ⟨t, o, k t st, r⟩
def Bx (own : String) (bs : ByteArray) (ml : Nat) (Z : State) (p : Program) (l : Launch) (e : Env) (R : Room) (s : State) (m : MethodId) (args : Array Value) (below : List Frame) (meth : Method) (c : Code) (T : State) (h : Heap) (locs : List Loc) (cells slots : Nat) : Prop :=
  Stand p l e R s m args below meth c T locs cells slots ∧ p.tables.exec = Jvm.exec ∧ c.code = bs ∧ c.maxLocals = ml ∧ s.vm.findClass own = some m.cls ∧ Z.Warmed39 s.vm ∧ T.heap = h
section Walk
variable {own : String} {bs : ByteArray} {ml : Nat} {Z : State} {p : Program} {l : Launch} {e : Env} {R : Room} {s : State} {m : MethodId} {args : Array Value} {below : List Frame} {meth : Method} {c : Code} {T : State} {h : Heap} {locs : List Loc} {cells slots : Nat} {P : Outcome → State → Prop} {Ls : Array Slot} {rest : List Value} {a0 : Array Value}
theorem o_iadd (B : Bx own bs ml Z p l e R s m args below meth c T h locs cells slots) (pc pc' : Nat) {x y : Int32} (hd : decode bs pc = .ok (.iadd, 1)) (hp : pc + 1 = pc') 
    (hr : OG p.tables e below P (T.setTop (mkF m pc' Ls (.int (x + y) :: rest)))) : OG p.tables e below P (T.setTop (mkF m pc Ls (.int y :: .int x :: rest))) := by
  subst hp
  obtain ⟨X, hx, hby, hml, hown, hZ, eT⟩ := B
  exact hr.of fun t k => XS.iadd X.here hx rfl (hb hby hd) rfl k
theorem o_isub (B : Bx own bs ml Z p l e R s m args below meth c T h locs cells slots) (pc pc' : Nat) {x y : Int32} (hd : decode bs pc = .ok (.isub, 1)) (hp : pc + 1 = pc') 
    (hr : OG p.tables e below P (T.setTop (mkF m pc' Ls (.int (x - y) :: rest)))) : OG p.tables e below P (T.setTop (mkF m pc Ls (.int y :: .int x :: rest))) := by
  subst hp
  obtain ⟨X, hx, hby, hml, hown, hZ, eT⟩ := B
  exact hr.of fun t k => XS.isub X.here hx rfl (hb hby hd) rfl k
theorem o_imul (B : Bx own bs ml Z p l e R s m args below meth c T h locs cells slots) (pc pc' : Nat) {x y : Int32} (hd : decode bs pc = .ok (.imul, 1)) (hp : pc + 1 = pc') 
    (hr : OG p.tables e below P (T.setTop (mkF m pc' Ls (.int (x * y) :: rest)))) : OG p.tables e below P (T.setTop (mkF m pc Ls (.int y :: .int x :: rest))) := by
  subst hp
  obtain ⟨X, hx, hby, hml, hown, hZ, eT⟩ := B
  exact hr.of fun t k => XS.imul X.here hx rfl (hb hby hd) rfl k
theorem o_iand (B : Bx own bs ml Z p l e R s m args below meth c T h locs cells slots) (pc pc' : Nat) {x y : Int32} (hd : decode bs pc = .ok (.iand, 1)) (hp : pc + 1 = pc') 
    (hr : OG p.tables e below P (T.setTop (mkF m pc' Ls (.int (x &&& y) :: rest)))) : OG p.tables e below P (T.setTop (mkF m pc Ls (.int y :: .int x :: rest))) := by
  subst hp
  obtain ⟨X, hx, hby, hml, hown, hZ, eT⟩ := B
  exact hr.of fun t k => XS.iand X.here hx rfl (hb hby hd) rfl k
theorem o_ior (B : Bx own bs ml Z p l e R s m args below meth c T h locs cells slots) (pc pc' : Nat) {x y : Int32} (hd : decode bs pc = .ok (.ior, 1)) (hp : pc + 1 = pc') 
    (hr : OG p.tables e below P (T.setTop (mkF m pc' Ls (.int (x ||| y) :: rest)))) : OG p.tables e below P (T.setTop (mkF m pc Ls (.int y :: .int x :: rest))) := by
  subst hp
  obtain ⟨X, hx, hby, hml, hown, hZ, eT⟩ := B
  exact hr.of fun t k => XT.ior X.here hx rfl (hb hby hd) rfl k
theorem o_ixor (B : Bx own bs ml Z p l e R s m args below meth c T h locs cells slots) (pc pc' : Nat) {x y : Int32} (hd : decode bs pc = .ok (.ixor, 1)) (hp : pc + 1 = pc') 
    (hr : OG p.tables e below P (T.setTop (mkF m pc' Ls (.int (x ^^^ y) :: rest)))) : OG p.tables e below P (T.setTop (mkF m pc Ls (.int y :: .int x :: rest))) := by
  subst hp
  obtain ⟨X, hx, hby, hml, hown, hZ, eT⟩ := B
  exact hr.of fun t k => XT.ixor X.here hx rfl (hb hby hd) rfl k
theorem o_ishl (B : Bx own bs ml Z p l e R s m args below meth c T h locs cells slots) (pc pc' : Nat) {x y : Int32} (hd : decode bs pc = .ok (.ishl, 1)) (hp : pc + 1 = pc') 
    (hr : OG p.tables e below P (T.setTop (mkF m pc' Ls (.int (x <<< (y &&& 31)) :: rest)))) : OG p.tables e below P (T.setTop (mkF m pc Ls (.int y :: .int x :: rest))) := by
  subst hp
  obtain ⟨X, hx, hby, hml, hown, hZ, eT⟩ := B
  exact hr.of fun t k => XT.ishl X.here hx rfl (hb hby hd) rfl k
theorem o_ishr (B : Bx own bs ml Z p l e R s m args below meth c T h locs cells slots) (pc pc' : Nat) {x y : Int32} (hd : decode bs pc = .ok (.ishr, 1)) (hp : pc + 1 = pc') 
    (hr : OG p.tables e below P (T.setTop (mkF m pc' Ls (.int (x >>> (y &&& 31)) :: rest)))) : OG p.tables e below P (T.setTop (mkF m pc Ls (.int y :: .int x :: rest))) := by
  subst hp
  obtain ⟨X, hx, hby, hml, hown, hZ, eT⟩ := B
  exact hr.of fun t k => XT.ishr X.here hx rfl (hb hby hd) rfl k
theorem o_iushr (B : Bx own bs ml Z p l e R s m args below meth c T h locs cells slots) (pc pc' : Nat) {x y : Int32} (hd : decode bs pc = .ok (.iushr, 1)) (hp : pc + 1 = pc') 
    (hr : OG p.tables e below P (T.setTop (mkF m pc' Ls (.int (XT.ushr x y) :: rest)))) : OG p.tables e below P (T.setTop (mkF m pc Ls (.int y :: .int x :: rest))) := by
  subst hp
  obtain ⟨X, hx, hby, hml, hown, hZ, eT⟩ := B
  exact hr.of fun t k => XT.iushr X.here hx rfl (hb hby hd) rfl k
theorem o_idiv (B : Bx own bs ml Z p l e R s m args below meth c T h locs cells slots) (pc pc' : Nat) {x y : Int32} (hd : decode bs pc = .ok (.idiv, 1)) (hp : pc + 1 = pc') (hy : y ≠ 0)
    (hr : OG p.tables e below P (T.setTop (mkF m pc' Ls (.int (x / y) :: rest)))) : OG p.tables e below P (T.setTop (mkF m pc Ls (.int y :: .int x :: rest))) := by
  subst hp
  obtain ⟨X, hx, hby, hml, hown, hZ, eT⟩ := B
  exact hr.of fun t k => XS.idiv X.here hx rfl (hb hby hd) rfl hy k
theorem o_irem (B : Bx own bs ml Z p l e R s m args below meth c T h locs cells slots) (pc pc' : Nat) {x y : Int32} (hd : decode bs pc = .ok (.irem, 1)) (hp : pc + 1 = pc') (hy : y ≠ 0)
    (hr : OG p.tables e below P (T.setTop (mkF m pc' Ls (.int (x % y) :: rest)))) : OG p.tables e below P (T.setTop (mkF m pc Ls (.int y :: .int x :: rest))) := by
  subst hp
  obtain ⟨X, hx, hby, hml, hown, hZ, eT⟩ := B
  exact hr.of fun t k => XS.irem X.here hx rfl (hb hby hd) rfl hy (by rw [irem_eq_mod]; exact k)
theorem o_ladd (B : Bx own bs ml Z p l e R s m args below meth c T h locs cells slots) (pc pc' : Nat) {x y : Int64} (hd : decode bs pc = .ok (.ladd, 1)) (hp : pc + 1 = pc') 
    (hr : OG p.tables e below P (T.setTop (mkF m pc' Ls (.long (x + y) :: rest)))) : OG p.tables e below P (T.setTop (mkF m pc Ls (.long y :: .long x :: rest))) := by
  subst hp
  obtain ⟨X, hx, hby, hml, hown, hZ, eT⟩ := B
  exact hr.of fun t k => XT.ladd X.here hx rfl (hb hby hd) rfl k
theorem o_lsub (B : Bx own bs ml Z p l e R s m args below meth c T h locs cells slots) (pc pc' : Nat) {x y : Int64} (hd : decode bs pc = .ok (.lsub, 1)) (hp : pc + 1 = pc') 
    (hr : OG p.tables e below P (T.setTop (mkF m pc' Ls (.long (x - y) :: rest)))) : OG p.tables e below P (T.setTop (mkF m pc Ls (.long y :: .long x :: rest))) := by
  subst hp
  obtain ⟨X, hx, hby, hml, hown, hZ, eT⟩ := B
  exact hr.of fun t k => XT.lsub X.here hx rfl (hb hby hd) rfl k
theorem o_lmul (B : Bx own bs ml Z p l e R s m args below meth c T h locs cells slots) (pc pc' : Nat) {x y : Int64} (hd : decode bs pc = .ok (.lmul, 1)) (hp : pc + 1 = pc') 
    (hr : OG p.tables e below P (T.setTop (mkF m pc' Ls (.long (x * y) :: rest)))) : OG p.tables e below P (T.setTop (mkF m pc Ls (.long y :: .long x :: rest))) := by
  subst hp
  obtain ⟨X, hx, hby, hml, hown, hZ, eT⟩ := B
  exact hr.of fun t k => XT.lmul X.here hx rfl (hb hby hd) rfl k
theorem o_land (B : Bx own bs ml Z p l e R s m args below meth c T h locs cells slots) (pc pc' : Nat) {x y : Int64} (hd : decode bs pc = .ok (.land, 1)) (hp : pc + 1 = pc') 
    (hr : OG p.tables e below P (T.setTop (mkF m pc' Ls (.long (x &&& y) :: rest)))) : OG p.tables e below P (T.setTop (mkF m pc Ls (.long y :: .long x :: rest))) := by
  subst hp
  obtain ⟨X, hx, hby, hml, hown, hZ, eT⟩ := B
  exact hr.of fun t k => XT.land X.here hx rfl (hb hby hd) rfl k
theorem o_lor (B : Bx own bs ml Z p l e R s m args below meth c T h locs cells slots) (pc pc' : Nat) {x y : Int64} (hd : decode bs pc = .ok (.lor, 1)) (hp : pc + 1 = pc') 
    (hr : OG p.tables e below P (T.setTop (mkF m pc' Ls (.long (x ||| y) :: rest)))) : OG p.tables e below P (T.setTop (mkF m pc Ls (.long y :: .long x :: rest))) := by
  subst hp
  obtain ⟨X, hx, hby, hml, hown, hZ, eT⟩ := B
  exact hr.of fun t k => XT.lor X.here hx rfl (hb hby hd) rfl k
theorem o_lxor (B : Bx own bs ml Z p l e R s m args below meth c T h locs cells slots) (pc pc' : Nat) {x y : Int64} (hd : decode bs pc = .ok (.lxor, 1)) (hp : pc + 1 = pc') 
    (hr : OG p.tables e below P (T.setTop (mkF m pc' Ls (.long (x ^^^ y) :: rest)))) : OG p.tables e below P (T.setTop (mkF m pc Ls (.long y :: .long x :: rest))) := by
  subst hp
  obtain ⟨X, hx, hby, hml, hown, hZ, eT⟩ := B
  exact hr.of fun t k => XT.lxor X.here hx rfl (hb hby hd) rfl k
theorem o_ldiv (B : Bx own bs ml Z p l e R s m args below meth c T h locs cells slots) (pc pc' : Nat) {x y : Int64} (hd : decode bs pc = .ok (.ldiv, 1)) (hp : pc + 1 = pc') (hy : y ≠ 0)
    (hr : OG p.tables e below P (T.setTop (mkF m pc' Ls (.long (x / y) :: rest)))) : OG p.tables e below P (T.setTop (mkF m pc Ls (.long y :: .long x :: rest))) := by
  subst hp
  obtain ⟨X, hx, hby, hml, hown, hZ, eT⟩ := B
  exact hr.of fun t k => XT.ldiv X.here hx rfl (hb hby hd) rfl hy k
theorem o_lrem (B : Bx own bs ml Z p l e R s m args below meth c T h locs cells slots) (pc pc' : Nat) {x y : Int64} (hd : decode bs pc = .ok (.lrem, 1)) (hp : pc + 1 = pc') (hy : y ≠ 0)
    (hr : OG p.tables e below P (T.setTop (mkF m pc' Ls (.long (x % y) :: rest)))) : OG p.tables e below P (T.setTop (mkF m pc Ls (.long y :: .long x :: rest))) := by
  subst hp
  obtain ⟨X, hx, hby, hml, hown, hZ, eT⟩ := B
  exact hr.of fun t k => XT.lrem X.here hx rfl (hb hby hd) rfl hy (by rw [lrem_mod]; exact k)
theorem o_lshl (B : Bx own bs ml Z p l e R s m args below meth c T h locs cells slots) (pc pc' : Nat) {x : Int64} {y : Int32} (hd : decode bs pc = .ok (.lshl, 1)) (hp : pc + 1 = pc') 
    (hr : OG p.tables e below P (T.setTop (mkF m pc' Ls (.long (x <<< (y.toInt64 &&& 63)) :: rest)))) : OG p.tables e below P (T.setTop (mkF m pc Ls (.int y :: .long x :: rest))) := by
  subst hp
  obtain ⟨X, hx, hby, hml, hown, hZ, eT⟩ := B
  exact hr.of fun t k => XT.lshl X.here hx rfl (hb hby hd) rfl k
theorem o_lshr (B : Bx own bs ml Z p l e R s m args below meth c T h locs cells slots) (pc pc' : Nat) {x : Int64} {y : Int32} (hd : decode bs pc = .ok (.lshr, 1)) (hp : pc + 1 = pc') 
    (hr : OG p.tables e below P (T.setTop (mkF m pc' Ls (.long (x >>> (y.toInt64 &&& 63)) :: rest)))) : OG p.tables e below P (T.setTop (mkF m pc Ls (.int y :: .long x :: rest))) := by
  subst hp
  obtain ⟨X, hx, hby, hml, hown, hZ, eT⟩ := B
  exact hr.of fun t k => XT.lshr X.here hx rfl (hb hby hd) rfl k
theorem o_lushr (B : Bx own bs ml Z p l e R s m args below meth c T h locs cells slots) (pc pc' : Nat) {x : Int64} {y : Int32} (hd : decode bs pc = .ok (.lushr, 1)) (hp : pc + 1 = pc') 
    (hr : OG p.tables e below P (T.setTop (mkF m pc' Ls (.long (XT.ushrL x y) :: rest)))) : OG p.tables e below P (T.setTop (mkF m pc Ls (.int y :: .long x :: rest))) := by
  subst hp
  obtain ⟨X, hx, hby, hml, hown, hZ, eT⟩ := B
  exact hr.of fun t k => XT.lushr X.here hx rfl (hb hby hd) rfl k
theorem o_lcmp (B : Bx own bs ml Z p l e R s m args below meth c T h locs cells slots) (pc pc' : Nat) {x y : Int64} (hd : decode bs pc = .ok (.lcmp, 1)) (hp : pc + 1 = pc') 
    (hr : OG p.tables e below P (T.setTop (mkF m pc' Ls (.int (XT.cmpL x y) :: rest)))) : OG p.tables e below P (T.setTop (mkF m pc Ls (.long y :: .long x :: rest))) := by
  subst hp
  obtain ⟨X, hx, hby, hml, hown, hZ, eT⟩ := B
  exact hr.of fun t k => XT.lcmp X.here hx rfl (hb hby hd) rfl k
theorem o_ineg (B : Bx own bs ml Z p l e R s m args below meth c T h locs cells slots) (pc pc' : Nat) {x : Int32} (hd : decode bs pc = .ok (.ineg, 1)) (hp : pc + 1 = pc') 
    (hr : OG p.tables e below P (T.setTop (mkF m pc' Ls (.int (-x) :: rest)))) : OG p.tables e below P (T.setTop (mkF m pc Ls (.int x :: rest))) := by
  subst hp
  obtain ⟨X, hx, hby, hml, hown, hZ, eT⟩ := B
  exact hr.of fun t k => XS.ineg X.here hx rfl (hb hby hd) rfl k
theorem o_lneg (B : Bx own bs ml Z p l e R s m args below meth c T h locs cells slots) (pc pc' : Nat) {x : Int64} (hd : decode bs pc = .ok (.lneg, 1)) (hp : pc + 1 = pc') 
    (hr : OG p.tables e below P (T.setTop (mkF m pc' Ls (.long (-x) :: rest)))) : OG p.tables e below P (T.setTop (mkF m pc Ls (.long x :: rest))) := by
  subst hp
  obtain ⟨X, hx, hby, hml, hown, hZ, eT⟩ := B
  exact hr.of fun t k => XT.lneg X.here hx rfl (hb hby hd) rfl k
theorem o_i2l (B : Bx own bs ml Z p l e R s m args below meth c T h locs cells slots) (pc pc' : Nat) {x : Int32} (hd : decode bs pc = .ok (.i2l, 1)) (hp : pc + 1 = pc') 
    (hr : OG p.tables e below P (T.setTop (mkF m pc' Ls (.long (x.toInt64) :: rest)))) : OG p.tables e below P (T.setTop (mkF m pc Ls (.int x :: rest))) := by
  subst hp
  obtain ⟨X, hx, hby, hml, hown, hZ, eT⟩ := B
  exact hr.of fun t k => XT.i2l X.here hx rfl (hb hby hd) rfl k
theorem o_l2i (B : Bx own bs ml Z p l e R s m args below meth c T h locs cells slots) (pc pc' : Nat) {x : Int64} (hd : decode bs pc = .ok (.l2i, 1)) (hp : pc + 1 = pc') 
    (hr : OG p.tables e below P (T.setTop (mkF m pc' Ls (.int (x.toInt32) :: rest)))) : OG p.tables e below P (T.setTop (mkF m pc Ls (.long x :: rest))) := by
  subst hp
  obtain ⟨X, hx, hby, hml, hown, hZ, eT⟩ := B
  exact hr.of fun t k => XT.l2i X.here hx rfl (hb hby hd) rfl k
theorem o_i2b (B : Bx own bs ml Z p l e R s m args below meth c T h locs cells slots) (pc pc' : Nat) {x : Int32} (hd : decode bs pc = .ok (.i2b, 1)) (hp : pc + 1 = pc') 
    (hr : OG p.tables e below P (T.setTop (mkF m pc' Ls (.int (x.toInt8.toInt32) :: rest)))) : OG p.tables e below P (T.setTop (mkF m pc Ls (.int x :: rest))) := by
  subst hp
  obtain ⟨X, hx, hby, hml, hown, hZ, eT⟩ := B
  exact hr.of fun t k => XT.i2b X.here hx rfl (hb hby hd) rfl k
theorem o_i2c (B : Bx own bs ml Z p l e R s m args below meth c T h locs cells slots) (pc pc' : Nat) {x : Int32} (hd : decode bs pc = .ok (.i2c, 1)) (hp : pc + 1 = pc') 
    (hr : OG p.tables e below P (T.setTop (mkF m pc' Ls (.int (x.toUInt32.toUInt16.toUInt32.toInt32) :: rest)))) : OG p.tables e below P (T.setTop (mkF m pc Ls (.int x :: rest))) := by
  subst hp
  obtain ⟨X, hx, hby, hml, hown, hZ, eT⟩ := B
  exact hr.of fun t k => XT.i2c X.here hx rfl (hb hby hd) rfl k
theorem o_i2s (B : Bx own bs ml Z p l e R s m args below meth c T h locs cells slots) (pc pc' : Nat) {x : Int32} (hd : decode bs pc = .ok (.i2s, 1)) (hp : pc + 1 = pc') 
    (hr : OG p.tables e below P (T.setTop (mkF m pc' Ls (.int (x.toInt16.toInt32) :: rest)))) : OG p.tables e below P (T.setTop (mkF m pc Ls (.int x :: rest))) := by
  subst hp
  obtain ⟨X, hx, hby, hml, hown, hZ, eT⟩ := B
  exact hr.of fun t k => XT.i2s X.here hx rfl (hb hby hd) rfl k
theorem o_iconst (B : Bx own bs ml Z p l e R s m args below meth c T h locs cells slots) (pc pc' : Nat) {i : Int} (v : Int32) (hd : decode bs pc = .ok (.iconst i, 1)) (hp : pc + 1 = pc') (hv : Int32.ofInt i = v)
    (hr : OG p.tables e below P (T.setTop (mkF m pc' Ls (.int v :: rest)))) : OG p.tables e below P (T.setTop (mkF m pc Ls rest)) := by
  subst hp
  obtain ⟨X, hx, hby, hml, hown, hZ, eT⟩ := B
  exact hr.of fun t k => XT.iconstV X.here hx rfl v (hb hby hd) hv k
theorem o_bipush (B : Bx own bs ml Z p l e R s m args below meth c T h locs cells slots) (pc pc' : Nat) {i : Int} (v : Int32) (hd : decode bs pc = .ok (.bipush i, 2)) (hp : pc + 2 = pc') (hv : (Int8.ofInt i).toInt32 = v)
    (hr : OG p.tables e below P (T.setTop (mkF m pc' Ls (.int v :: rest)))) : OG p.tables e below P (T.setTop (mkF m pc Ls rest)) := by
  subst hp
  obtain ⟨X, hx, hby, hml, hown, hZ, eT⟩ := B
  exact hr.of fun t k => XT.bipushV X.here hx rfl v (hb hby hd) hv k
theorem o_sipush (B : Bx own bs ml Z p l e R s m args below meth c T h locs cells slots) (pc pc' : Nat) {i : Int} (v : Int32) (hd : decode bs pc = .ok (.sipush i, 3)) (hp : pc + 3 = pc') (hv : (Int16.ofInt i).toInt32 = v)
    (hr : OG p.tables e below P (T.setTop (mkF m pc' Ls (.int v :: rest)))) : OG p.tables e below P (T.setTop (mkF m pc Ls rest)) := by
  subst hp
  obtain ⟨X, hx, hby, hml, hown, hZ, eT⟩ := B
  exact hr.of fun t k => XT.sipushV X.here hx rfl v (hb hby hd) hv k
theorem o_lconst (B : Bx own bs ml Z p l e R s m args below meth c T h locs cells slots) (pc pc' : Nat) {i : Fin 2} (v : Int64) (hd : decode bs pc = .ok (.lconst i, 1)) (hp : pc + 1 = pc') (hv : Int64.ofNat i = v)
    (hr : OG p.tables e below P (T.setTop (mkF m pc' Ls (.long v :: rest)))) : OG p.tables e below P (T.setTop (mkF m pc Ls rest)) := by
  subst hp
  obtain ⟨X, hx, hby, hml, hown, hZ, eT⟩ := B
  exact hr.of fun t k => XT.lconstV X.here hx rfl v (hb hby hd) hv k
theorem o_aconst_null (B : Bx own bs ml Z p l e R s m args below meth c T h locs cells slots) (pc pc' : Nat)  (hd : decode bs pc = .ok (.aconst_null, 1)) (hp : pc + 1 = pc') 
    (hr : OG p.tables e below P (T.setTop (mkF m pc' Ls (.null :: rest)))) : OG p.tables e below P (T.setTop (mkF m pc Ls rest)) := by
  subst hp
  obtain ⟨X, hx, hby, hml, hown, hZ, eT⟩ := B
  exact hr.of fun t k => XS.aconstNull X.here hx rfl (hb hby hd) k
theorem o_iloadN (B : Bx own bs ml Z p l e R s m args below meth c T h locs cells slots) (pc pc' : Nat) {k : Fin 4} {v : Int32} (hd : decode bs pc = .ok (.iload_n k, 1)) (hp : pc + 1 = pc') (hl : Ls[k.val]? = some (.val (.int v)))
    (hr : OG p.tables e below P (T.setTop (mkF m pc' Ls (.int v :: rest)))) : OG p.tables e below P (T.setTop (mkF m pc Ls rest)) := by
  subst hp
  obtain ⟨X, hx, hby, hml, hown, hZ, eT⟩ := B
  exact hr.of fun t k => XS.iloadN X.here hx rfl (hb hby hd) hl k
theorem o_iload (B : Bx own bs ml Z p l e R s m args below meth c T h locs cells slots) (pc pc' : Nat) {k : Nat} {v : Int32} (hd : decode bs pc = .ok (.iload k, 2)) (hp : pc + 2 = pc') (hl : Ls[k]? = some (.val (.int v)))
    (hr : OG p.tables e below P (T.setTop (mkF m pc' Ls (.int v :: rest)))) : OG p.tables e below P (T.setTop (mkF m pc Ls rest)) := by
  subst hp
  obtain ⟨X, hx, hby, hml, hown, hZ, eT⟩ := B
  exact hr.of fun t k => XS.iload X.here hx rfl (hb hby hd) hl k
theorem o_lloadN (B : Bx own bs ml Z p l e R s m args below meth c T h locs cells slots) (pc pc' : Nat) {k : Fin 4} {v : Int64} (hd : decode bs pc = .ok (.lload_n k, 1)) (hp : pc + 1 = pc') (hl : Ls[k.val]? = some (.val (.long v)))
    (hr : OG p.tables e below P (T.setTop (mkF m pc' Ls (.long v :: rest)))) : OG p.tables e below P (T.setTop (mkF m pc Ls rest)) := by
  subst hp
  obtain ⟨X, hx, hby, hml, hown, hZ, eT⟩ := B
  exact hr.of fun t k => XT.lloadN X.here hx rfl (hb hby hd) hl k
theorem o_lload (B : Bx own bs ml Z p l e R s m args below meth c T h locs cells slots) (pc pc' : Nat) {k : Nat} {v : Int64} (hd : decode bs pc = .ok (.lload k, 2)) (hp : pc + 2 = pc') (hl : Ls[k]? = some (.val (.long v)))
    (hr : OG p.tables e below P (T.setTop (mkF m pc' Ls (.long v :: rest)))) : OG p.tables e below P (T.setTop (mkF m pc Ls rest)) := by
  subst hp
  obtain ⟨X, hx, hby, hml, hown, hZ, eT⟩ := B
  exact hr.of fun t k => XT.lload X.here hx rfl (hb hby hd) hl k
theorem o_aloadN (B : Bx own bs ml Z p l e R s m args below meth c T h locs cells slots) (pc pc' : Nat) {k : Fin 4} {v : Value} (hd : decode bs pc = .ok (.aload_n k, 1)) (hp : pc + 1 = pc') (hl : Ls[k.val]? = some (.val v)) (hv : v.isRef = true)
    (hr : OG p.tables e below P (T.setTop (mkF m pc' Ls (v :: rest)))) : OG p.tables e below P (T.setTop (mkF m pc Ls rest)) := by
  subst hp
  obtain ⟨X, hx, hby, hml, hown, hZ, eT⟩ := B
  exact hr.of fun t k => XS.aloadN X.here hx rfl (hb hby hd) hl hv k
theorem o_aload (B : Bx own bs ml Z p l e R s m args below meth c T h locs cells slots) (pc pc' : Nat) {k : Nat} {v : Value} (hd : decode bs pc = .ok (.aload k, 2)) (hp : pc + 2 = pc') (hl : Ls[k]? = some (.val v)) (hv : v.isRef = true)
    (hr : OG p.tables e below P (T.setTop (mkF m pc' Ls (v :: rest)))) : OG p.tables e below P (T.setTop (mkF m pc Ls rest)) := by
  subst hp
  obtain ⟨X, hx, hby, hml, hown, hZ, eT⟩ := B
  exact hr.of fun t k => XS.aload X.here hx rfl (hb hby hd) hl hv k
theorem o_istoreN (B : Bx own bs ml Z p l e R s m args below meth c T h locs cells slots) (pc pc' : Nat) {k : Fin 4} {x : Int32} {l' : Array Slot} (hd : decode bs pc = .ok (.istore_n k, 1)) (hp : pc + 1 = pc') (hl : storeLocals Ls k.val (.int x) = some l')
    (hr : OG p.tables e below P (T.setTop (mkF m pc' l' rest))) : OG p.tables e below P (T.setTop (mkF m pc Ls (.int x :: rest))) := by
  subst hp
  obtain ⟨X, hx, hby, hml, hown, hZ, eT⟩ := B
  exact hr.of fun t k => XS.istoreN X.here hx rfl (hb hby hd) rfl hl k
theorem o_istore (B : Bx own bs ml Z p l e R s m args below meth c T h locs cells slots) (pc pc' : Nat) {k : Nat} {x : Int32} {l' : Array Slot} (hd : decode bs pc = .ok (.istore k, 2)) (hp : pc + 2 = pc') (hl : storeLocals Ls k (.int x) = some l')
    (hr : OG p.tables e below P (T.setTop (mkF m pc' l' rest))) : OG p.tables e below P (T.setTop (mkF m pc Ls (.int x :: rest))) := by
  subst hp
  obtain ⟨X, hx, hby, hml, hown, hZ, eT⟩ := B
  exact hr.of fun t k => XS.istore X.here hx rfl (hb hby hd) rfl hl k
theorem o_lstoreN (B : Bx own bs ml Z p l e R s m args below meth c T h locs cells slots) (pc pc' : Nat) {k : Fin 4} {x : Int64} {l' : Array Slot} (hd : decode bs pc = .ok (.lstore_n k, 1)) (hp : pc + 1 = pc') (hl : storeLocals Ls k.val (.long x) = some l')
    (hr : OG p.tables e below P (T.setTop (mkF m pc' l' rest))) : OG p.tables e below P (T.setTop (mkF m pc Ls (.long x :: rest))) := by
  subst hp
  obtain ⟨X, hx, hby, hml, hown, hZ, eT⟩ := B
  exact hr.of fun t k => XT.lstoreN X.here hx rfl (hb hby hd) rfl hl k
theorem o_lstore (B : Bx own bs ml Z p l e R s m args below meth c T h locs cells slots) (pc pc' : Nat) {k : Nat} {x : Int64} {l' : Array Slot} (hd : decode bs pc = .ok (.lstore k, 2)) (hp : pc + 2 = pc') (hl : storeLocals Ls k (.long x) = some l')
    (hr : OG p.tables e below P (T.setTop (mkF m pc' l' rest))) : OG p.tables e below P (T.setTop (mkF m pc Ls (.long x :: rest))) := by
  subst hp
  obtain ⟨X, hx, hby, hml, hown, hZ, eT⟩ := B
  exact hr.of fun t k => XT.lstore X.here hx rfl (hb hby hd) rfl hl k
theorem o_astoreN (B : Bx own bs ml Z p l e R s m args below meth c T h locs cells slots) (pc pc' : Nat) {k : Fin 4} {x : Value} {l' : Array Slot} (hd : decode bs pc = .ok (.astore_n k, 1)) (hp : pc + 1 = pc') (hv : x.isRef = true) (hl : storeLocals Ls k.val x = some l')
    (hr : OG p.tables e below P (T.setTop (mkF m pc' l' rest))) : OG p.tables e below P (T.setTop (mkF m pc Ls (x :: rest))) := by
  subst hp
  obtain ⟨X, hx, hby, hml, hown, hZ, eT⟩ := B
  exact hr.of fun t k => XS.astoreN X.here hx rfl (hb hby hd) rfl hv hl k
theorem o_astore (B : Bx own bs ml Z p l e R s m args below meth c T h locs cells slots) (pc pc' : Nat) {k : Nat} {x : Value} {l' : Array Slot} (hd : decode bs pc = .ok (.astore k, 2)) (hp : pc + 2 = pc') (hv : x.isRef = true) (hl : storeLocals Ls k x = some l')
    (hr : OG p.tables e below P (T.setTop (mkF m pc' l' rest))) : OG p.tables e below P (T.setTop (mkF m pc Ls (x :: rest))) := by
  subst hp
  obtain ⟨X, hx, hby, hml, hown, hZ, eT⟩ := B
  exact hr.of fun t k => XS.astore X.here hx rfl (hb hby hd) rfl hv hl k
theorem o_iinc (B : Bx own bs ml Z p l e R s m args below meth c T h locs cells slots) (pc pc' : Nat) {k : Nat} {cst : Int} {x : Int32} {l' : Array Slot} (v : Int32) (hd : decode bs pc = .ok (.iinc k cst, 3)) (hp : pc + 3 = pc') (hv : Int32.ofInt cst = v) (hl : Ls[k]? = some (.val (.int x))) (hl' : storeLocals Ls k (.int (x + v)) = some l')
    (hr : OG p.tables e below P (T.setTop (mkF m pc' l' rest))) : OG p.tables e below P (T.setTop (mkF m pc Ls rest)) := by
  subst hp
  obtain ⟨X, hx, hby, hml, hown, hZ, eT⟩ := B
  exact hr.of fun t k => XT.iincV X.here hx rfl v (hb hby hd) hv hl hl' k
theorem o_goto (B : Bx own bs ml Z p l e R s m args below meth c T h locs cells slots) (pc pc' : Nat) {o : Int} (hd : decode bs pc = .ok (.goto o, 3))  (ho : 0 ≤ (pc : Int) + o) (hp : ((pc : Int) + o).toNat = pc')
    (hr : OG p.tables e below P (T.setTop (mkF m pc' Ls rest))) : OG p.tables e below P (T.setTop (mkF m pc Ls rest)) := by
  obtain ⟨X, hx, hby, hml, hown, hZ, eT⟩ := B
  exact hr.of fun t k => XS.goto X.here hx rfl (pc0 := pc) (pc' := pc') rfl (hb hby hd) ho hp k
theorem o_ifY (B : Bx own bs ml Z p l e R s m args below meth c T h locs cells slots) (pc pc' : Nat) {cd : ClassFile.Cond} {o : Int} {x : Int32} (hd : decode bs pc = .ok (.ifCond cd o, 3))  (hc : ifCond.holds cd x = true) (ho : 0 ≤ (pc : Int) + o) (hp : ((pc : Int) + o).toNat = pc')
    (hr : OG p.tables e below P (T.setTop (mkF m pc' Ls rest))) : OG p.tables e below P (T.setTop (mkF m pc Ls (.int x :: rest))) := by
  obtain ⟨X, hx, hby, hml, hown, hZ, eT⟩ := B
  exact hr.of fun t k => XS.ifYes X.here hx rfl (pc0 := pc) (pc' := pc') rfl (hb hby hd) rfl hc ho hp k
theorem o_ifN (B : Bx own bs ml Z p l e R s m args below meth c T h locs cells slots) (pc pc' : Nat) {cd : ClassFile.Cond} {o : Int} {x : Int32} (hd : decode bs pc = .ok (.ifCond cd o, 3)) (hp : pc + 3 = pc') (hc : ifCond.holds cd x = false)
    (hr : OG p.tables e below P (T.setTop (mkF m pc' Ls rest))) : OG p.tables e below P (T.setTop (mkF m pc Ls (.int x :: rest))) := by
  subst hp
  obtain ⟨X, hx, hby, hml, hown, hZ, eT⟩ := B
  exact hr.of fun t k => XS.ifNo X.here hx rfl (hb hby hd) rfl hc k
theorem o_icY (B : Bx own bs ml Z p l e R s m args below meth c T h locs cells slots) (pc pc' : Nat) {cd : ClassFile.Cond} {o : Int} {x y : Int32} (hd : decode bs pc = .ok (.if_icmp cd o, 3))  (hc : if_icmp.holds cd x y = true) (ho : 0 ≤ (pc : Int) + o) (hp : ((pc : Int) + o).toNat = pc')
    (hr : OG p.tables e below P (T.setTop (mkF m pc' Ls rest))) : OG p.tables e below P (T.setTop (mkF m pc Ls (.int y :: .int x :: rest))) := by
  obtain ⟨X, hx, hby, hml, hown, hZ, eT⟩ := B
  exact hr.of fun t k => XS.icmpYes X.here hx rfl (pc0 := pc) (pc' := pc') rfl (hb hby hd) rfl hc ho hp k
theorem o_icN (B : Bx own bs ml Z p l e R s m args below meth c T h locs cells slots) (pc pc' : Nat) {cd : ClassFile.Cond} {o : Int} {x y : Int32} (hd : decode bs pc = .ok (.if_icmp cd o, 3)) (hp : pc + 3 = pc') (hc : if_icmp.holds cd x y = false)
    (hr : OG p.tables e below P (T.setTop (mkF m pc' Ls rest))) : OG p.tables e below P (T.setTop (mkF m pc Ls (.int y :: .int x :: rest))) := by
  subst hp
  obtain ⟨X, hx, hby, hml, hown, hZ, eT⟩ := B
  exact hr.of fun t k => XS.icmpNo X.here hx rfl (hb hby hd) rfl hc k
theorem o_dup (B : Bx own bs ml Z p l e R s m args below meth c T h locs cells slots) (pc pc' : Nat) {x : Value} (hd : decode bs pc = .ok (.dup, 1)) (hp : pc + 1 = pc') (hc : x.category = 1)
    (hr : OG p.tables e below P (T.setTop (mkF m pc' Ls (x :: x :: rest)))) : OG p.tables e below P (T.setTop (mkF m pc Ls (x :: rest))) := by
  subst hp
  obtain ⟨X, hx, hby, hml, hown, hZ, eT⟩ := B
  exact hr.of fun t k => XS.dup X.here hx rfl (hb hby hd) rfl hc k
theorem o_pop (B : Bx own bs ml Z p l e R s m args below meth c T h locs cells slots) (pc pc' : Nat) {x : Value} (hd : decode bs pc = .ok (.pop, 1)) (hp : pc + 1 = pc') (hc : x.category = 1)
    (hr : OG p.tables e below P (T.setTop (mkF m pc' Ls rest))) : OG p.tables e below P (T.setTop (mkF m pc Ls (x :: rest))) := by
  subst hp
  obtain ⟨X, hx, hby, hml, hown, hZ, eT⟩ := B
  exact hr.of fun t k => XT.pop X.here hx rfl (hb hby hd) rfl hc k
theorem o_dup_x1 (B : Bx own bs ml Z p l e R s m args below meth c T h locs cells slots) (pc pc' : Nat) {x y : Value} (hd : decode bs pc = .ok (.dup_x1, 1)) (hp : pc + 1 = pc') (hc : x.category = 1) (hc' : y.category = 1)
    (hr : OG p.tables e below P (T.setTop (mkF m pc' Ls (x :: y :: x :: rest)))) : OG p.tables e below P (T.setTop (mkF m pc Ls (x :: y :: rest))) := by
  subst hp
  obtain ⟨X, hx, hby, hml, hown, hZ, eT⟩ := B
  exact hr.of fun t k => XT.dupX1 X.here hx rfl (hb hby hd) rfl hc hc' k
theorem o_dup2 (B : Bx own bs ml Z p l e R s m args below meth c T h locs cells slots) (pc pc' : Nat) {x y : Value} (hd : decode bs pc = .ok (.dup2, 1)) (hp : pc + 1 = pc') (hc : x.category = 1) (hc' : y.category = 1)
    (hr : OG p.tables e below P (T.setTop (mkF m pc' Ls (x :: y :: x :: y :: rest)))) : OG p.tables e below P (T.setTop (mkF m pc Ls (x :: y :: rest))) := by
  subst hp
  obtain ⟨X, hx, hby, hml, hown, hZ, eT⟩ := B
  exact hr.of fun t k => XT.dup2 X.here hx rfl (hb hby hd) rfl hc hc' k
theorem o_dup2L (B : Bx own bs ml Z p l e R s m args below meth c T h locs cells slots) (pc pc' : Nat) {x : Int64} (hd : decode bs pc = .ok (.dup2, 1)) (hp : pc + 1 = pc') 
    (hr : OG p.tables e below P (T.setTop (mkF m pc' Ls (.long x :: .long x :: rest)))) : OG p.tables e below P (T.setTop (mkF m pc Ls (.long x :: rest))) := by
  subst hp
  obtain ⟨X, hx, hby, hml, hown, hZ, eT⟩ := B
  exact hr.of fun t k => XT.dup2L X.here hx rfl (hb hby hd) rfl k
theorem o_ldc (B : Bx own bs ml Z p l e R s m args below meth c T h locs cells slots) (pc pc' : Nat) {i : Nat} {v : Int32} (hd : decode bs pc = .ok (.ldc i, 2)) (hp : pc + 2 = pc') (w : (Cond.constant own i v).before a0 Z = true)
    (hr : OG p.tables e below P (T.setTop (mkF m pc' Ls (.int v :: rest)))) : OG p.tables e below P (T.setTop (mkF m pc Ls rest)) := by
  subst hp
  obtain ⟨X, hx, hby, hml, hown, hZ, eT⟩ := B
  exact hr.of fun t k => X.ldcI hx hown (mv hZ w) rfl (hb hby hd) k
theorem o_ldc_w (B : Bx own bs ml Z p l e R s m args below meth c T h locs cells slots) (pc pc' : Nat) {i : Nat} {v : Int32} (hd : decode bs pc = .ok (.ldc_w i, 3)) (hp : pc + 3 = pc') (w : (Cond.constant own i v).before a0 Z = true)
    (hr : OG p.tables e below P (T.setTop (mkF m pc' Ls (.int v :: rest)))) : OG p.tables e below P (T.setTop (mkF m pc Ls rest)) := by
  subst hp
  obtain ⟨X, hx, hby, hml, hown, hZ, eT⟩ := B
  exact hr.of fun t k => X.ldcWI hx hown (mv hZ w) rfl (hb hby hd) k
theorem o_ldc2 (B : Bx own bs ml Z p l e R s m args below meth c T h locs cells slots) (pc pc' : Nat) {i : Nat} {v : Int64} (hd : decode bs pc = .ok (.ldc2_w i, 3)) (hp : pc + 3 = pc') (w : (Cond.constantLong own i v).before a0 Z = true)
    (hr : OG p.tables e below P (T.setTop (mkF m pc' Ls (.long v :: rest)))) : OG p.tables e below P (T.setTop (mkF m pc Ls rest)) := by
  subst hp
  obtain ⟨X, hx, hby, hml, hown, hZ, eT⟩ := B
  exact hr.of fun t k => X.ldc2J hx hown (mv hZ w) rfl (hb hby hd) k
theorem o_topI {pc : Nat} {x y : Int32} (q : x = y) (hr : OG p.tables e below P (T.setTop (mkF m pc Ls (.int y :: rest)))) : OG p.tables e below P (T.setTop (mkF m pc Ls (.int x :: rest))) := q ▸ hr
theorem o_topJ {pc : Nat} {x y : Int64} (q : x = y) (hr : OG p.tables e below P (T.setTop (mkF m pc Ls (.long y :: rest)))) : OG p.tables e below P (T.setTop (mkF m pc Ls (.long x :: rest))) := q ▸ hr
theorem o_iincC (B : Bx own bs ml Z p l e R s m args below meth c T h locs cells slots) (pc pc' : Nat) {k : Nat} {cst : Int} {x : Int32} {l' : Array Slot} (v y : Int32) (hd : decode bs pc = .ok (.iinc k cst, 3)) (hp : pc + 3 = pc') (hv : Int32.ofInt cst = v) (hl : Ls[k]? = some (.val (.int x))) (hy : x + v = y) (hl' : storeLocals Ls k (.int y) = some l')
    (hr : OG p.tables e below P (T.setTop (mkF m pc' l' rest))) : OG p.tables e below P (T.setTop (mkF m pc Ls rest)) := by
  subst hp
  obtain ⟨X, hx, hby, hml, hown, hZ, eT⟩ := B
  exact hr.of fun t k => XT.iincV X.here hx rfl v (hb hby hd) hv hl (hy ▸ hl') k
theorem o_retZ {Q : Option Value → Heap → List Loc → Prop} {kc ks : Nat} (B : Bx own bs ml Z p l e R s m args below meth c T h locs cells slots) (pc : Nat) {z : Int32} {t : FieldType} (hd : decode bs pc = .ok (.ireturn, 1)) (hret : meth.sig.returnType = some t) (hlk : meth.locks = false) (ht : t = .boolean ∨ t = .byte ∨ t = .char ∨ t = .short) (hc : cells ≤ kc) (hs : slots ≤ ks) (hq : Q (some (.int (nar t z))) h locs) :
    OG p.tables e below (fun o s₂ => ∃ v L, o = .returned v ∧ Q v s₂.heap L ∧ FrameEnd s o s₂ L kc ks) (T.setTop (mkF m pc Ls (.int z :: rest))) := by
  obtain ⟨X, hx, hby, hml, hown, hZ, eT⟩ := B
  subst eT
  obtain ⟨fs, hr, hrun, hended, hW, hsame⟩ := X.leave (v := some (.int (nar t z))) (fun hn => by rw [hret] at hn; cases hn) hlk
  exact ⟨_, _, retN X hx hret ht (hb hby hd) hr, hrun, hended, _, _, rfl, hq, ⟨_, rfl⟩, hW, hsame.mono hc hs⟩
theorem o_retI0 (X : Stand p l e R s m args below meth c T locs cells slots) (hx : p.tables.exec = Jvm.exec) {pc : Nat} {z : Int32} (hret : meth.sig.returnType = some .int) (hd : decode c.code pc = .ok (.ireturn, 1)) {fs : List Frame}
    (hl : ∀ (f : JFrame) (acts : List Action), f.method = m → f.locked = none → f.entered = [] → (doReturn e (T.setTop f) acts (some (.int z))).1 = T.setFrames fs) : Steps p.tables e below (T.setTop (mkF m pc Ls (.int z :: rest))) (T.setFrames fs) :=
  retOut X hx hret rfl (Or.inl ⟨rfl, Or.inl rfl, _, rfl⟩) hd hl
theorem o_retI {Q : Option Value → Heap → List Loc → Prop} {kc ks : Nat} (B : Bx own bs ml Z p l e R s m args below meth c T h locs cells slots) (pc : Nat) {z : Int32} (hd : decode bs pc = .ok (.ireturn, 1)) (hret : meth.sig.returnType = some .int) (hlk : meth.locks = false)  (hc : cells ≤ kc) (hs : slots ≤ ks) (hq : Q (some (.int z)) h locs) :
    OG p.tables e below (fun o s₂ => ∃ v L, o = .returned v ∧ Q v s₂.heap L ∧ FrameEnd s o s₂ L kc ks) (T.setTop (mkF m pc Ls (.int z :: rest))) := by
  obtain ⟨X, hx, hby, hml, hown, hZ, eT⟩ := B
  subst eT
  obtain ⟨fs, hr, hrun, hended, hW, hsame⟩ := X.leave (v := some (.int z)) (fun hn => by rw [hret] at hn; cases hn) hlk
  exact ⟨_, _, o_retI0 X hx hret (hb hby hd) hr, hrun, hended, _, _, rfl, hq, ⟨_, rfl⟩, hW, hsame.mono hc hs⟩
theorem o_retL {Q : Option Value → Heap → List Loc → Prop} {kc ks : Nat} (B : Bx own bs ml Z p l e R s m args below meth c T h locs cells slots) (pc : Nat) {z : Int64} (hd : decode bs pc = .ok (.lreturn, 1)) (hret : meth.sig.returnType = some .long) (hlk : meth.locks = false)  (hc : cells ≤ kc) (hs : slots ≤ ks) (hq : Q (some (.long z)) h locs) :
    OG p.tables e below (fun o s₂ => ∃ v L, o = .returned v ∧ Q v s₂.heap L ∧ FrameEnd s o s₂ L kc ks) (T.setTop (mkF m pc Ls [.long z])) := by
  obtain ⟨X, hx, hby, hml, hown, hZ, eT⟩ := B
  subst eT
  obtain ⟨fs, hr, hrun, hended, hW, hsame⟩ := X.leave (v := some (.long z)) (fun hn => by rw [hret] at hn; cases hn) hlk
  exact ⟨_, _, X.lreturnOut hx hret (hb hby hd) hr, hrun, hended, _, _, rfl, hq, ⟨_, rfl⟩, hW, hsame.mono hc hs⟩
theorem o_retA {Q : Option Value → Heap → List Loc → Prop} {kc ks : Nat} (B : Bx own bs ml Z p l e R s m args below meth c T h locs cells slots) (pc : Nat) {z : Value} {t : FieldType} (hd : decode bs pc = .ok (.areturn, 1)) (hret : meth.sig.returnType = some t) (hlk : meth.locks = false) (ht : t.isReference = true) (hz : z.isRef = true) (hc : cells ≤ kc) (hs : slots ≤ ks) (hq : Q (some z) h locs) :
    OG p.tables e below (fun o s₂ => ∃ v L, o = .returned v ∧ Q v s₂.heap L ∧ FrameEnd s o s₂ L kc ks) (T.setTop (mkF m pc Ls [z])) := by
  obtain ⟨X, hx, hby, hml, hown, hZ, eT⟩ := B
  subst eT
  obtain ⟨fs, hr, hrun, hended, hW, hsame⟩ := X.leave (v := some z) (fun hn => by rw [hret] at hn; cases hn) hlk
  exact ⟨_, _, X.areturnOut hx hz hret ht (hb hby hd) hr, hrun, hended, _, _, rfl, hq, ⟨_, rfl⟩, hW, hsame.mono hc hs⟩
theorem o_retV {Q : Option Value → Heap → List Loc → Prop} {kc ks : Nat} (B : Bx own bs ml Z p l e R s m args below meth c T h locs cells slots) (pc : Nat)  (hd : decode bs pc = .ok (.return_, 1)) (hret : meth.sig.returnType = none) (hlk : meth.locks = false)  (hc : cells ≤ kc) (hs : slots ≤ ks) (hq : Q (none) h locs) :
    OG p.tables e below (fun o s₂ => ∃ v L, o = .returned v ∧ Q v s₂.heap L ∧ FrameEnd s o s₂ L kc ks) (T.setTop (mkF m pc Ls [])) := by
  obtain ⟨X, hx, hby, hml, hown, hZ, eT⟩ := B
  subst eT
  obtain ⟨fs, hr, hrun, hended, hW, hsame⟩ := X.leave (v := none) (fun _ => rfl) hlk
  exact ⟨_, _, X.returnOut hx hret (hb hby hd) hr, hrun, hended, _, _, rfl, hq, ⟨_, rfl⟩, hW, hsame.mono hc hs⟩
/-- a body's contract, out of its walk -/
theorem enter {y : MethodName} {ret : Option FieldType} {rm : Room} {ws : List Jvm.Cond} {as' : Array Value} {h0 : Heap} {Q : Option Value → Heap → List Loc → Prop} {kc ks : Nat} (hpl : plainFor y = true) (Ls : Array Slot)
    (hL : Jvm.Sym.laidSlots as'.toList ++ List.replicate (ml - (Jvm.Sym.laidSlots as'.toList).length) .unset = Ls.toList)
    (body : ∀ (p : Program) (e : Env) (s : State) (m : MethodId) (below : List Frame) (meth : Method) (c : Code) (T : State), Bx y.cls bs ml Z p l e rm s m as' below meth c T h0 [] 0 0 → meth.sig.returnType = ret → meth.locks = false → meth.name = y.name →
      OG p.tables e below (fun o s₂ => ∃ v L, o = .returned v ∧ Q v s₂.heap L ∧ FrameEnd s o s₂ L kc ks) (T.setTop (mkF m 0 Ls []))) :
    MetFree l y (head1 (Jvm.Cond.code y bs ml ret :: ws) rm) (fun a U => a = as' ∧ Z.Warmed39 U.vm ∧ U.heap = h0) (fun _ _ _ _ _ => True) (fun _ U o U' => ∃ v L, o = .returned v ∧ Q v U'.heap L ∧ FrameEnd U o U' L kc ks) := by
  refine MetFree.of_bodySF hpl hisR ?_
  intro p e s m args below meth c s₁ Bd hml0 hP hK
  obtain ⟨rfl, hZ, hh⟩ := hP
  have e0 : s₁.heap = h0 := by rw [← hh, Bd.state]; rfl
  have r := body p e s m below meth c s₁ ⟨Stand.of_body Bd, Bd.exec, Bd.bytes, hml0, findClass_of_methodNamed Bd.named, hZ, e0⟩ Bd.returns (BodyLoose.notSynchronized Bd) (name_of_methodNamed Bd.named Bd.method).1
  exact OG.of r fun t k => (XT.entry hL).trans k
/-- what a callee owes -/
abbrev Met (l : Launch) (Z : State) (y : MethodName) (bytes : ByteArray) (maxL : Nat) (ret : Option FieldType) (rm : Room) (as' : Array Value) (h : Heap) (Q : Option Value → Heap → List Loc → Prop) : Prop :=
  MetFree l y (head1 [Jvm.Cond.code y bytes maxL ret] rm) (fun a U => a = as' ∧ Z.Warmed39 U.vm ∧ U.heap = h) (fun _ _ _ _ _ => True) (fun _ U o U' => ∃ v L, o = .returned v ∧ Q v U'.heap L ∧ FrameEnd U o U' L rm.cells rm.slots)
theorem o_callS {index : Nat} {y : MethodName} {bytes : ByteArray} {maxL : Nat} {ret : Option FieldType} {rm : Room} {as' : Array Value} {Q : Option Value → Heap → List Loc → Prop} {ps : List FieldType} {rt : Option FieldType}
    (B : Bx own bs ml Z p l e R s m args below meth c T h locs cells slots) (pc pc' : Nat) (hd : decode bs pc = .ok (.invokestatic index, 3)) (hp : pc + 3 = pc')
    (w1 : (Cond.methodLink own index y).before a0 Z = true) (w2 : (Cond.static y).before a0 Z = true) (w3 : (Cond.initialized y.cls).before a0 Z = true) (w4 : (Cond.code y bytes maxL ret).before a0 Z = true) (hy : y.cls ≠ "java/lang/invoke/MethodHandle" ∧ y.cls ≠ "java/lang/invoke/VarHandle")
    (hM : Met l Z y bytes maxL ret rm as' h Q) (W : Nat) (argsL rest : List Value) (hpd : parseMethodDescriptor y.desc = some ⟨ps, rt⟩) (hlen : argsL.length = ps.length) (has : argsL.toArray = as') {st : List Value} (hst : st = argsL.reverse ++ rest) (hsz : Ls.size = ml)
    (hW : (rest.map fun v => v.category).sum ≤ W) (hf : rm.frames + 1 ≤ R.frames) (hl : W + (maxL + 11) + rm.locals ≤ R.locals) (hcl : cells + rm.cells ≤ R.cells) (hsl : slots + rm.slots ≤ R.slots) :
    ∃ v T' L, Bx own bs ml Z p l e R s m args below meth c T' T'.heap (locs ++ L) (cells + rm.cells) (slots + rm.slots) ∧ Q v T'.heap L ∧
      ∀ {P : Outcome → State → Prop}, OG p.tables e below P (T'.setTop (mkF m pc' Ls (v.toList ++ rest))) → OG p.tables e below P (T.setTop (mkF m pc Ls st)) := by
  subst hp hst
  obtain ⟨X, hx, hby, hml, hown, hZ, eT⟩ := B
  obtain ⟨v, vm1, ⟨T', L', k', n'⟩, -, X', ⟨Lc, hQ, l', y', z'⟩, st⟩ := Jvm.LawKit.callS X hx (y := y) hown (mvT hZ w1) (mvT hZ w2) (mvT hZ w3) (mvT hZ w4) hy (backOf (W := W) hM hZ w4 w3 hf hl) (g := mkF m pc Ls (argsL.reverse ++ rest)) rfl (by rw [hml]; exact hsz) (argsL := argsL) (rest := rest) (lenOf hpd hlen) rfl (by simpa using hW) (hb hby hd) (fun _ _ => ⟨has, eT, hcl, hsl⟩)
  dsimp only [Pt.U, Pt.locs, Pt.cells, Pt.slots] at X' l' y' z' st hQ
  subst l' y' z'
  exact ⟨v, T', Lc, ⟨X', hx, hby, hml, hown, hZ, rfl⟩, hQ, fun k => k.of st⟩
/-- a callee that writes and makes nothing -/
def Pu (r : Option Value) (h : Heap) (v : Option Value) (h' : Heap) (L : List Loc) : Prop := v = r ∧ L = [] ∧ h' = h
theorem o_callP {index : Nat} {y : MethodName} {bytes : ByteArray} {maxL : Nat} {ret : Option FieldType} {fr lo : Nat} {as' : Array Value} {r : Value} {ps : List FieldType} {rt : Option FieldType}
    (B : Bx own bs ml Z p l e R s m args below meth c T h locs cells slots) (pc pc' : Nat) (hd : decode bs pc = .ok (.invokestatic index, 3)) (hp : pc + 3 = pc')
    (w1 : (Cond.methodLink own index y).before a0 Z = true) (w2 : (Cond.static y).before a0 Z = true) (w3 : (Cond.initialized y.cls).before a0 Z = true) (w4 : (Cond.code y bytes maxL ret).before a0 Z = true) (hy : y.cls ≠ "java/lang/invoke/MethodHandle" ∧ y.cls ≠ "java/lang/invoke/VarHandle")
    (hM : Met l Z y bytes maxL ret ({ frames := fr, cells := 0, slots := 0, locals := lo } : Room) as' h (Pu (some r) h)) (W : Nat) (argsL rest : List Value) (hpd : parseMethodDescriptor y.desc = some ⟨ps, rt⟩) (hlen : argsL.length = ps.length) (has : argsL.toArray = as') {st : List Value} (hst : st = argsL.reverse ++ rest) (hsz : Ls.size = ml)
    (hW : (rest.map fun v => v.category).sum ≤ W) (hf : fr + 1 ≤ R.frames) (hl : W + (maxL + 11) + lo ≤ R.locals) (hcl : cells ≤ R.cells) (hsl : slots ≤ R.slots) :
    ∃ T', Bx own bs ml Z p l e R s m args below meth c T' h locs cells slots ∧
      ∀ {P : Outcome → State → Prop}, OG p.tables e below P (T'.setTop (mkF m pc' Ls (r :: rest))) → OG p.tables e below P (T.setTop (mkF m pc Ls st)) := by
  obtain ⟨v, T', L, B', ⟨rfl, rfl, hh⟩, st⟩ := o_callS B pc pc' hd hp w1 w2 w3 w4 hy hM W argsL rest hpd hlen has hst hsz hW hf hl hcl hsl
  rw [hh, List.append_nil] at B'
  exact ⟨T', B', st⟩
end Walk
theorem b_ne_t {c : Prop} [Decidable c] (h : c) : ifCond.holds .ne (if c then (1 : Int32) else 0) = true := by rw [if_pos h]; rfl
theorem b_ne_f {c : Prop} [Decidable c] (h : ¬ c) : ifCond.holds .ne (if c then (1 : Int32) else 0) = false := by rw [if_neg h]; rfl
theorem b_eq_t {c : Prop} [Decidable c] (h : ¬ c) : ifCond.holds .eq (if c then (1 : Int32) else 0) = true := by rw [if_neg h]; rfl
theorem b_eq_f {c : Prop} [Decidable c] (h : c) : ifCond.holds .eq (if c then (1 : Int32) else 0) = false := by rw [if_pos h]; rfl
/-! 2. arrays by a function of the place -/
def AI (Z : State) (h : Heap) (a : Addr) (ty : FieldType) (n : Nat) (g : Nat → Int32) : Prop := ∃ c : Cell, Arr Z h a c ty ∧ c.slots.size = n ∧ n < 2147483648 ∧ ∀ j, j < n → c.slots[j]? = some (.int (g j))
def AJ (Z : State) (h : Heap) (a : Addr) (n : Nat) (g : Nat → Int64) : Prop := ∃ c : Cell, Arr Z h a c .long ∧ c.slots.size = n ∧ n < 2147483648 ∧ ∀ j, j < n → c.slots[j]? = some (.long (g j))
section Arrays
variable {Z : State} {h h' : Heap} {a b : Addr} {ty : FieldType} {n i : Nat} {v : Value} {ws : List Addr}
theorem AI.ext {g : Nat → Int32} (A : AI Z h a ty n g) (E : Ext h h') : AI Z h' a ty n g := by obtain ⟨c, A, r⟩ := A; exact ⟨c, A.ext E, r⟩
theorem AI.other {g : Nat → Int32} (A : AI Z h a ty n g) (W : Wr h h' b i v) (q : a ≠ b) : AI Z h' a ty n g := by obtain ⟨c, A, r⟩ := A; exact ⟨c, A.other W q, r⟩
theorem AI.keep {g : Nat → Int32} (A : AI Z h a ty n g) (K : Keep h h' ws) (q : a ∉ ws) : AI Z h' a ty n g := by obtain ⟨c, A, r⟩ := A; exact ⟨c, ⟨K.2.1 a c A.1 q, A.2⟩, r⟩
theorem AI.lt {g : Nat → Int32} (A : AI Z h a ty n g) : a < h.size := by obtain ⟨c, A, r⟩ := A; exact A.lt
theorem AI.len {g : Nat → Int32} (A : AI Z h a ty n g) : n < 2147483648 := by obtain ⟨c, A, r, q, _⟩ := A; exact q
theorem AI.alt {g g' : Nat → Int32} (A : AI Z h a ty n g) (q : ∀ j, j < n → g' j = g j) : AI Z h a ty n g' := by obtain ⟨c, A, r, s, H⟩ := A; exact ⟨c, A, r, s, fun j hj => by rw [q j hj]; exact H j hj⟩
theorem AI.set {g : Nat → Int32} {x : Int32} (A : AI Z h a ty n g) (W : Wr h h' a i (.int x)) : AI Z h' a ty n (fun j => if j = i then x else g j) := by
  obtain ⟨c, A, S, hn, H⟩ := A
  refine ⟨c.setSlot i (.int x), Arr.same W A, by simp [Cell.setSlot, S], hn, fun j hj => ?_⟩
  show (c.slots.setIfInBounds i (.int x))[j]? = some (.int (if j = i then x else g j))
  by_cases e : j = i
  · subst e; rw [if_pos rfl]; simp [S, hj]
  · rw [if_neg e, Array.getElem?_setIfInBounds_ne (Ne.symm e)]; exact H j hj
theorem AJ.ext {g : Nat → Int64} (A : AJ Z h a n g) (E : Ext h h') : AJ Z h' a n g := by obtain ⟨c, A, r⟩ := A; exact ⟨c, A.ext E, r⟩
theorem AJ.other {g : Nat → Int64} (A : AJ Z h a n g) (W : Wr h h' b i v) (q : a ≠ b) : AJ Z h' a n g := by obtain ⟨c, A, r⟩ := A; exact ⟨c, A.other W q, r⟩
theorem AJ.keep {g : Nat → Int64} (A : AJ Z h a n g) (K : Keep h h' ws) (q : a ∉ ws) : AJ Z h' a n g := by obtain ⟨c, A, r⟩ := A; exact ⟨c, ⟨K.2.1 a c A.1 q, A.2⟩, r⟩
theorem AJ.lt {g : Nat → Int64} (A : AJ Z h a n g) : a < h.size := by obtain ⟨c, A, r⟩ := A; exact A.lt
theorem AJ.len {g : Nat → Int64} (A : AJ Z h a n g) : n < 2147483648 := by obtain ⟨c, A, r, q, _⟩ := A; exact q
theorem AJ.alt {g g' : Nat → Int64} (A : AJ Z h a n g) (q : ∀ j, j < n → g' j = g j) : AJ Z h a n g' := by obtain ⟨c, A, r, s, H⟩ := A; exact ⟨c, A, r, s, fun j hj => by rw [q j hj]; exact H j hj⟩
theorem AJ.set {g : Nat → Int64} {x : Int64} (A : AJ Z h a n g) (W : Wr h h' a i (.long x)) : AJ Z h' a n (fun j => if j = i then x else g j) := by
  obtain ⟨c, A, S, hn, H⟩ := A
  refine ⟨c.setSlot i (.long x), Arr.same W A, by simp [Cell.setSlot, S], hn, fun j hj => ?_⟩
  show (c.slots.setIfInBounds i (.long x))[j]? = some (.long (if j = i then x else g j))
  by_cases e : j = i
  · subst e; rw [if_pos rfl]; simp [S, hj]
  · rw [if_neg e, Array.getElem?_setIfInBounds_ne (Ne.symm e)]; exact H j hj
theorem in_of {c : Cell} {j : Int32} (S : c.slots.size = n) (h0 : ¬ j < 0) (hj : j.toNatClampNeg = i) (hi : i < n) : ¬ (j < 0 ∨ c.slots.size ≤ j.toNatClampNeg) := by rw [S, hj]; rintro (q | q); exact h0 q; omega
end Arrays
theorem ix_of {j : Int32} {k : Nat} (h : j.toInt = k) : ¬ j < 0 ∧ j.toNatClampNeg = k := by
  rw [Int32.lt_iff_toInt_lt, Int32.toInt_zero]
  simp only [Int32.toNatClampNeg, h]
  omega
theorem ix_add {j : Int32} {k : Nat} (c : Int32) (n : Nat) (h : j.toInt = k) (hc : c.toInt = n) (hk : k + n < 2147483648) : (j + c).toInt = (k + n : Nat) := by
  have a := c_iadd j c
  have r := rng32 (j + c)
  omega
theorem nar_bb (x : Int32) : nar .byte x.toInt8.toInt32 = x.toInt8.toInt32 := by simp [nar]
theorem nar_cc (x : Int32) : nar .char x.toUInt32.toUInt16.toUInt32.toInt32 = x.toUInt32.toUInt16.toUInt32.toInt32 := by simp only [nar, UInt32.toUInt32_toInt32, UInt16.toUInt16_toUInt32]
def Lw (n0 : Nat) (r : Option Value) (v : Option Value) (h : Heap) (L : List Loc) : Prop := v = r ∧ Fr n0 L
section Walk2
variable {own : String} {bs : ByteArray} {ml : Nat} {Z : State} {p : Program} {l : Launch} {e : Env} {R : Room} {s : State} {m : MethodId} {args : Array Value} {below : List Frame} {meth : Method} {c : Code} {T : State} {h : Heap} {locs : List Loc} {cells slots n0 : Nat} {P : Outcome → State → Prop} {Ls : Array Slot} {rest : List Value} {a0 : Array Value} {a : Addr} {n : Nat}
theorem o_iaload (B : Bx own bs ml Z p l e R s m args below meth c T h locs cells slots) (pc pc' : Nat) {g : Nat → Int32} (A : AI Z h a .int n g) {j : Int32} (i : Nat) (v : Int32) (hd : decode bs pc = .ok (.iaload, 1)) (hp : pc + 1 = pc') (h0 : ¬ j < 0) (hj : j.toNatClampNeg = i) (hi : i < n) (hv : g i = v)
    (hr : OG p.tables e below P (T.setTop (mkF m pc' Ls (.int v :: rest)))) : OG p.tables e below P (T.setTop (mkF m pc Ls (.int j :: .ref a :: rest))) := by
  subst hp hv
  obtain ⟨X, hx, hby, hml, hown, hZ, eT⟩ := B
  obtain ⟨cl, A, S, hn, H⟩ := A
  exact hr.of fun t k => X.iaload hx (by rw [eT]; exact A.1) (State.isArrayOf_alike hZ.alike A.2.1) A.2.2 (in_of S h0 hj hi) (by rw [hj]; exact H i hi) (g := mkF m pc Ls (.int j :: .ref a :: rest)) rfl rfl (hb hby hd) t k
theorem o_caload (B : Bx own bs ml Z p l e R s m args below meth c T h locs cells slots) (pc pc' : Nat) {g : Nat → Int32} (A : AI Z h a .char n g) {j : Int32} (i : Nat) (v : Int32) (hd : decode bs pc = .ok (.caload, 1)) (hp : pc + 1 = pc') (h0 : ¬ j < 0) (hj : j.toNatClampNeg = i) (hi : i < n) (hv : g i = v)
    (hr : OG p.tables e below P (T.setTop (mkF m pc' Ls (.int v :: rest)))) : OG p.tables e below P (T.setTop (mkF m pc Ls (.int j :: .ref a :: rest))) := by
  subst hp hv
  obtain ⟨X, hx, hby, hml, hown, hZ, eT⟩ := B
  obtain ⟨cl, A, S, hn, H⟩ := A
  exact hr.of fun t k => X.caload hx (by rw [eT]; exact A.1) (State.isArrayOf_alike hZ.alike A.2.1) A.2.2 (in_of S h0 hj hi) (by rw [hj]; exact H i hi) (g := mkF m pc Ls (.int j :: .ref a :: rest)) rfl rfl (hb hby hd) t k
theorem o_baload (B : Bx own bs ml Z p l e R s m args below meth c T h locs cells slots) (pc pc' : Nat) {g : Nat → Int32} (A : AI Z h a .byte n g) {j : Int32} (i : Nat) (v : Int32) (hd : decode bs pc = .ok (.baload, 1)) (hp : pc + 1 = pc') (h0 : ¬ j < 0) (hj : j.toNatClampNeg = i) (hi : i < n) (hv : g i = v)
    (hr : OG p.tables e below P (T.setTop (mkF m pc' Ls (.int v :: rest)))) : OG p.tables e below P (T.setTop (mkF m pc Ls (.int j :: .ref a :: rest))) := by
  subst hp hv
  obtain ⟨X, hx, hby, hml, hown, hZ, eT⟩ := B
  obtain ⟨cl, A, S, hn, H⟩ := A
  exact hr.of fun t k => X.baloadBytes hx (by rw [eT]; exact A.1) (State.isArrayOf_alike hZ.alike A.2.1) A.2.2 (in_of S h0 hj hi) (by rw [hj]; exact H i hi) (g := mkF m pc Ls (.int j :: .ref a :: rest)) rfl rfl (hb hby hd) t k
theorem o_zaload (B : Bx own bs ml Z p l e R s m args below meth c T h locs cells slots) (pc pc' : Nat) {g : Nat → Int32} (A : AI Z h a .boolean n g) {j : Int32} (i : Nat) (v : Int32) (hd : decode bs pc = .ok (.baload, 1)) (hp : pc + 1 = pc') (h0 : ¬ j < 0) (hj : j.toNatClampNeg = i) (hi : i < n) (hv : g i = v)
    (hr : OG p.tables e below P (T.setTop (mkF m pc' Ls (.int v :: rest)))) : OG p.tables e below P (T.setTop (mkF m pc Ls (.int j :: .ref a :: rest))) := by
  subst hp hv
  obtain ⟨X, hx, hby, hml, hown, hZ, eT⟩ := B
  obtain ⟨cl, A, S, hn, H⟩ := A
  exact hr.of fun t k => X.baloadBooleans hx (by rw [eT]; exact A.1) (State.isArrayOf_alike hZ.alike A.2.1) A.2.2 (in_of S h0 hj hi) (by rw [hj]; exact H i hi) (g := mkF m pc Ls (.int j :: .ref a :: rest)) rfl rfl (hb hby hd) t k
theorem o_laload (B : Bx own bs ml Z p l e R s m args below meth c T h locs cells slots) (pc pc' : Nat) {g : Nat → Int64} (A : AJ Z h a n g) {j : Int32} (i : Nat) (v : Int64) (hd : decode bs pc = .ok (.laload, 1)) (hp : pc + 1 = pc') (h0 : ¬ j < 0) (hj : j.toNatClampNeg = i) (hi : i < n) (hv : g i = v)
    (hr : OG p.tables e below P (T.setTop (mkF m pc' Ls (.long v :: rest)))) : OG p.tables e below P (T.setTop (mkF m pc Ls (.int j :: .ref a :: rest))) := by
  subst hp hv
  obtain ⟨X, hx, hby, hml, hown, hZ, eT⟩ := B
  obtain ⟨cl, A, S, hn, H⟩ := A
  exact hr.of fun t k => X.laload hx (by rw [eT]; exact A.1) (State.isArrayOf_alike hZ.alike A.2.1) A.2.2 (in_of S h0 hj hi) (by rw [hj]; exact H i hi) (g := mkF m pc Ls (.int j :: .ref a :: rest)) rfl rfl (hb hby hd) t k
theorem o_alenI (B : Bx own bs ml Z p l e R s m args below meth c T h locs cells slots) (pc pc' : Nat) {ty : FieldType} {g : Nat → Int32} (A : AI Z h a ty n g) (v : Int32) (hd : decode bs pc = .ok (.arraylength, 1)) (hp : pc + 1 = pc') (hv : n.toInt32 = v)
    (hr : OG p.tables e below P (T.setTop (mkF m pc' Ls (.int v :: rest)))) : OG p.tables e below P (T.setTop (mkF m pc Ls (.ref a :: rest))) := by
  subst hp hv
  obtain ⟨X, hx, hby, hml, hown, hZ, eT⟩ := B
  obtain ⟨cl, A, S, hn, H⟩ := A
  exact hr.of fun t k => X.arraylength hx (by rw [eT]; exact A.1) (State.isArrayOf_alike hZ.alike A.2.1) (g := mkF m pc Ls (.ref a :: rest)) rfl rfl (hb hby hd) t (by rw [S]; exact k)
theorem o_alenJ (B : Bx own bs ml Z p l e R s m args below meth c T h locs cells slots) (pc pc' : Nat) {g : Nat → Int64} (A : AJ Z h a n g) (v : Int32) (hd : decode bs pc = .ok (.arraylength, 1)) (hp : pc + 1 = pc') (hv : n.toInt32 = v)
    (hr : OG p.tables e below P (T.setTop (mkF m pc' Ls (.int v :: rest)))) : OG p.tables e below P (T.setTop (mkF m pc Ls (.ref a :: rest))) := by
  subst hp hv
  obtain ⟨X, hx, hby, hml, hown, hZ, eT⟩ := B
  obtain ⟨cl, A, S, hn, H⟩ := A
  exact hr.of fun t k => X.arraylength hx (by rw [eT]; exact A.1) (State.isArrayOf_alike hZ.alike A.2.1) (g := mkF m pc Ls (.ref a :: rest)) rfl rfl (hb hby hd) t (by rw [S]; exact k)
theorem o_iastore (B : Bx own bs ml Z p l e R s m args below meth c T h locs cells slots) (N : Fr n0 locs) (ge : n0 ≤ a) (pc pc' : Nat) {g : Nat → Int32} (A : AI Z h a .int n g) {j : Int32} {x : Int32} (i : Nat) (y : Int32) (hd : decode bs pc = .ok (.iastore, 1)) (hp : pc + 1 = pc') (h0 : ¬ j < 0) (hj : j.toNatClampNeg = i) (hi : i < n) (hy : x = y) :
    ∃ T' h' L', Bx own bs ml Z p l e R s m args below meth c T' h' L' cells slots ∧ Fr n0 L' ∧ Wr h h' a i (.int y) ∧ AI Z h' a .int n (fun j => if j = i then y else g j) ∧ ∀ {P : Outcome → State → Prop}, OG p.tables e below P (T'.setTop (mkF m pc' Ls rest)) → OG p.tables e below P (T.setTop (mkF m pc Ls (.int x :: .int j :: .ref a :: rest))) := by
  subst hp hj hy
  obtain ⟨X, hx, hby, hml, hown, hZ, eT⟩ := B
  have A' := A
  obtain ⟨cl, A, S, hn, H⟩ := A
  obtain ⟨T', h', X', e', W, st⟩ := stI X hx hZ eT A (in_of S h0 rfl hi) (g := mkF m pc Ls (.int x :: .int j :: .ref a :: rest)) rfl rfl (hb hby hd)
  exact ⟨T', h', _, ⟨X', hx, hby, hml, hown, hZ, e'⟩, Fr.snoc X' N ge, W, A'.set W, fun k => k.of st⟩
theorem o_castore (B : Bx own bs ml Z p l e R s m args below meth c T h locs cells slots) (N : Fr n0 locs) (ge : n0 ≤ a) (pc pc' : Nat) {g : Nat → Int32} (A : AI Z h a .char n g) {j : Int32} {x : Int32} (i : Nat) (y : Int32) (hd : decode bs pc = .ok (.castore, 1)) (hp : pc + 1 = pc') (h0 : ¬ j < 0) (hj : j.toNatClampNeg = i) (hi : i < n) (hy : nar .char x = y) :
    ∃ T' h' L', Bx own bs ml Z p l e R s m args below meth c T' h' L' cells slots ∧ Fr n0 L' ∧ Wr h h' a i (.int y) ∧ AI Z h' a .char n (fun j => if j = i then y else g j) ∧ ∀ {P : Outcome → State → Prop}, OG p.tables e below P (T'.setTop (mkF m pc' Ls rest)) → OG p.tables e below P (T.setTop (mkF m pc Ls (.int x :: .int j :: .ref a :: rest))) := by
  subst hp hj hy
  obtain ⟨X, hx, hby, hml, hown, hZ, eT⟩ := B
  have A' := A
  obtain ⟨cl, A, S, hn, H⟩ := A
  obtain ⟨T', h', X', e', W, st⟩ := stC X hx hZ eT A (in_of S h0 rfl hi) (g := mkF m pc Ls (.int x :: .int j :: .ref a :: rest)) rfl rfl (hb hby hd)
  exact ⟨T', h', _, ⟨X', hx, hby, hml, hown, hZ, e'⟩, Fr.snoc X' N ge, W, A'.set W, fun k => k.of st⟩
theorem o_bastore (B : Bx own bs ml Z p l e R s m args below meth c T h locs cells slots) (N : Fr n0 locs) (ge : n0 ≤ a) (pc pc' : Nat) {g : Nat → Int32} (A : AI Z h a .byte n g) {j : Int32} {x : Int32} (i : Nat) (y : Int32) (hd : decode bs pc = .ok (.bastore, 1)) (hp : pc + 1 = pc') (h0 : ¬ j < 0) (hj : j.toNatClampNeg = i) (hi : i < n) (hy : nar .byte x = y) :
    ∃ T' h' L', Bx own bs ml Z p l e R s m args below meth c T' h' L' cells slots ∧ Fr n0 L' ∧ Wr h h' a i (.int y) ∧ AI Z h' a .byte n (fun j => if j = i then y else g j) ∧ ∀ {P : Outcome → State → Prop}, OG p.tables e below P (T'.setTop (mkF m pc' Ls rest)) → OG p.tables e below P (T.setTop (mkF m pc Ls (.int x :: .int j :: .ref a :: rest))) := by
  subst hp hj hy
  obtain ⟨X, hx, hby, hml, hown, hZ, eT⟩ := B
  have A' := A
  obtain ⟨cl, A, S, hn, H⟩ := A
  obtain ⟨T', h', X', e', W, st⟩ := stB X hx hZ eT A (in_of S h0 rfl hi) (g := mkF m pc Ls (.int x :: .int j :: .ref a :: rest)) rfl rfl (hb hby hd)
  exact ⟨T', h', _, ⟨X', hx, hby, hml, hown, hZ, e'⟩, Fr.snoc X' N ge, W, A'.set W, fun k => k.of st⟩
theorem o_zastore (B : Bx own bs ml Z p l e R s m args below meth c T h locs cells slots) (N : Fr n0 locs) (ge : n0 ≤ a) (pc pc' : Nat) {g : Nat → Int32} (A : AI Z h a .boolean n g) {j : Int32} {x : Int32} (i : Nat) (y : Int32) (hd : decode bs pc = .ok (.bastore, 1)) (hp : pc + 1 = pc') (h0 : ¬ j < 0) (hj : j.toNatClampNeg = i) (hi : i < n) (hy : nar .boolean x = y) :
    ∃ T' h' L', Bx own bs ml Z p l e R s m args below meth c T' h' L' cells slots ∧ Fr n0 L' ∧ Wr h h' a i (.int y) ∧ AI Z h' a .boolean n (fun j => if j = i then y else g j) ∧ ∀ {P : Outcome → State → Prop}, OG p.tables e below P (T'.setTop (mkF m pc' Ls rest)) → OG p.tables e below P (T.setTop (mkF m pc Ls (.int x :: .int j :: .ref a :: rest))) := by
  subst hp hj hy
  obtain ⟨X, hx, hby, hml, hown, hZ, eT⟩ := B
  have A' := A
  obtain ⟨cl, A, S, hn, H⟩ := A
  obtain ⟨T', h', X', e', W, st⟩ := stZ X hx hZ eT A (in_of S h0 rfl hi) (g := mkF m pc Ls (.int x :: .int j :: .ref a :: rest)) rfl rfl (hb hby hd)
  exact ⟨T', h', _, ⟨X', hx, hby, hml, hown, hZ, e'⟩, Fr.snoc X' N ge, W, A'.set W, fun k => k.of st⟩
theorem o_lastore (B : Bx own bs ml Z p l e R s m args below meth c T h locs cells slots) (N : Fr n0 locs) (ge : n0 ≤ a) (pc pc' : Nat) {g : Nat → Int64} (A : AJ Z h a n g) {j : Int32} {x : Int64} (i : Nat) (y : Int64) (hd : decode bs pc = .ok (.lastore, 1)) (hp : pc + 1 = pc') (h0 : ¬ j < 0) (hj : j.toNatClampNeg = i) (hi : i < n) (hy : x = y) :
    ∃ T' h' L', Bx own bs ml Z p l e R s m args below meth c T' h' L' cells slots ∧ Fr n0 L' ∧ Wr h h' a i (.long y) ∧ AJ Z h' a n (fun j => if j = i then y else g j) ∧ ∀ {P : Outcome → State → Prop}, OG p.tables e below P (T'.setTop (mkF m pc' Ls rest)) → OG p.tables e below P (T.setTop (mkF m pc Ls (.long x :: .int j :: .ref a :: rest))) := by
  subst hp hj hy
  obtain ⟨X, hx, hby, hml, hown, hZ, eT⟩ := B
  have A' := A
  obtain ⟨cl, A, S, hn, H⟩ := A
  obtain ⟨T', h', X', e', W, st⟩ := stJ X hx hZ eT A (in_of S h0 rfl hi) (g := mkF m pc Ls (.long x :: .int j :: .ref a :: rest)) rfl rfl (hb hby hd)
  exact ⟨T', h', _, ⟨X', hx, hby, hml, hown, hZ, e'⟩, Fr.snoc X' N ge, W, A'.set W, fun k => k.of st⟩
theorem o_newI (B : Bx own bs ml Z p l e R s m args below meth c T h locs cells slots) (pc pc' : Nat) {aty : ArrayType} {ty : FieldType} {z : Int32} (k cap : Nat) (w : (Cond.arrayClass (newarray.typeOf aty)).before a0 Z = true) (hd : decode bs pc = .ok (.newarray aty, 2)) (hp : pc + 2 = pc') (hty : newarray.typeOf aty = ty) (hdv : defaultValue ty = .int 0) (hz : ¬ z < 0) (hk : z.toNatClampNeg = k) (hcap : k ≤ cap) (hb8 : cap * 8 ≤ 536870912) (hc : cells + 1 ≤ R.cells) (hl : slots + cap ≤ R.slots) :
    ∃ a T' h', a = h.size ∧ Bx own bs ml Z p l e R s m args below meth c T' h' locs (cells + 1) (slots + cap) ∧ Ext h h' ∧ AI Z h' a ty k (fun _ => 0) ∧ ∀ {P : Outcome → State → Prop}, OG p.tables e below P (T'.setTop (mkF m pc' Ls (.ref a :: rest))) → OG p.tables e below P (T.setTop (mkF m pc Ls (.int z :: rest))) := by
  subst hp hk
  obtain ⟨X, hx, hby, hml, hown, hZ, eT⟩ := B
  obtain ⟨T', h', cA, X', e', E, A, st⟩ := newP X hx hZ w eT (g := mkF m pc Ls (.int z :: rest)) rfl (hb hby hd) rfl hz (cap := cap) hcap hb8 hc hl
  rw [hty] at A
  refine ⟨h.size, T', h', rfl, ⟨X', hx, hby, hml, hown, hZ, e'⟩, E, ⟨_, A, sz_new _ _ _, (back32 hz).2, fun j hj => ?_⟩, fun k => k.of st⟩
  simp [newA, hj, hdv]
theorem o_newJ (B : Bx own bs ml Z p l e R s m args below meth c T h locs cells slots) (pc pc' : Nat) {aty : ArrayType} {z : Int32} (k cap : Nat) (w : (Cond.arrayClass (newarray.typeOf aty)).before a0 Z = true) (hd : decode bs pc = .ok (.newarray aty, 2)) (hp : pc + 2 = pc') (hty : newarray.typeOf aty = .long) (hz : ¬ z < 0) (hk : z.toNatClampNeg = k) (hcap : k ≤ cap) (hb8 : cap * 8 ≤ 536870912) (hc : cells + 1 ≤ R.cells) (hl : slots + cap ≤ R.slots) :
    ∃ a T' h', a = h.size ∧ Bx own bs ml Z p l e R s m args below meth c T' h' locs (cells + 1) (slots + cap) ∧ Ext h h' ∧ AJ Z h' a k (fun _ => 0) ∧ ∀ {P : Outcome → State → Prop}, OG p.tables e below P (T'.setTop (mkF m pc' Ls (.ref a :: rest))) → OG p.tables e below P (T.setTop (mkF m pc Ls (.int z :: rest))) := by
  subst hp hk
  obtain ⟨X, hx, hby, hml, hown, hZ, eT⟩ := B
  obtain ⟨T', h', cA, X', e', E, A, st⟩ := newP X hx hZ w eT (g := mkF m pc Ls (.int z :: rest)) rfl (hb hby hd) rfl hz (cap := cap) hcap hb8 hc hl
  rw [hty] at A
  refine ⟨h.size, T', h', rfl, ⟨X', hx, hby, hml, hown, hZ, e'⟩, E, ⟨_, A, sz_new _ _ _, (back32 hz).2, fun j hj => ?_⟩, fun k => k.of st⟩
  simp [newA, hj, defaultValue]
theorem o_getfield (B : Bx own bs ml Z p l e R s m args below meth c T h locs cells slots) {R0 O f d host : String} {index : Nat} {v : Value} (pc pc' : Nat) (hd : decode bs pc = .ok (.getfield index, 3)) (hp : pc + 3 = pc') (w : (Cond.fieldLink own index R0 f d).before a0 Z = true ∨ (Cond.fieldLinkNest own index R0 f d host).before a0 Z = true) (via : Via Z R0 O f d) (F : Fld Z h a O f d v) :
    ∃ T', Bx own bs ml Z p l e R s m args below meth c T' h locs cells slots ∧ ∀ {P : Outcome → State → Prop}, OG p.tables e below P (T'.setTop (mkF m pc' Ls (v :: rest))) → OG p.tables e below P (T.setTop (mkF m pc Ls (.ref a :: rest))) := by
  subst hp
  obtain ⟨X, hx, hby, hml, hown, hZ, eT⟩ := B
  obtain ⟨T', X', e', st⟩ := getF X hx hZ hown w via eT F (g := mkF m pc Ls (.ref a :: rest)) rfl rfl (hb hby hd)
  exact ⟨T', ⟨X', hx, hby, hml, hown, hZ, e'⟩, fun k => k.of st⟩
theorem o_putfield (B : Bx own bs ml Z p l e R s m args below meth c T h locs cells slots) (N : Fr n0 locs) (ge : n0 ≤ a) {R0 O f d host C : String} {index kk : Nat} {v old : Value} {ty : FieldType} (pc pc' : Nat) (hd : decode bs pc = .ok (.putfield index, 3)) (hp : pc + 3 = pc') (w : (Cond.fieldLink own index R0 f d).before a0 Z = true ∨ (Cond.fieldLinkNest own index R0 f d host).before a0 Z = true) (via : Via Z R0 O f d) (F : Fld Z h a O f d old) (E : Exa Z h a C) (L : (Cond.lays C O f d).before a0 Z = true ∨ ((Cond.laysFinal C O f d).before a0 Z = true ∧ own = O ∧ meth.name = "<init>")) (wi : (Cond.instantiable C kk).before a0 Z = true) (hty : parseFieldDescriptor d = some ty) (hn : narrow ty v = v) (hf : fits ty v = true) :
    ∃ T' h' L', Bx own bs ml Z p l e R s m args below meth c T' h' L' cells slots ∧ Fr n0 L' ∧ Wr h h' a (Jvm.RoadKit.slotOf Z O f d) v ∧ ∀ {P : Outcome → State → Prop}, OG p.tables e below P (T'.setTop (mkF m pc' Ls rest)) → OG p.tables e below P (T.setTop (mkF m pc Ls (v :: .ref a :: rest))) := by
  subst hp
  obtain ⟨X, hx, hby, hml, hown, hZ, eT⟩ := B
  obtain ⟨T', h', X', e', W, st⟩ := putF X hx hZ hown w via eT F E L wi hty hn hf (g := mkF m pc Ls (v :: .ref a :: rest)) rfl rfl (hb hby hd)
  exact ⟨T', h', _, ⟨X', hx, hby, hml, hown, hZ, e'⟩, Fr.snoc X' N ge, W, fun k => k.of st⟩
theorem o_new (B : Bx own bs ml Z p l e R s m args below meth c T h locs cells slots) {C : String} {index : Nat} (pc pc' : Nat) (hd : decode bs pc = .ok (.new index, 3)) (hp : pc + 3 = pc') (w : (Cond.classLink own index C).before a0 Z = true) (wi : (Cond.instantiable C n).before a0 Z = true) (wz : (Cond.initialized C).before a0 Z = true) (hc : cells + 1 ≤ R.cells) (hl : slots + n ≤ R.slots) :
    ∃ a T' h', a = h.size ∧ Bx own bs ml Z p l e R s m args below meth c T' h' locs (cells + 1) (slots + n) ∧ Ext h h' ∧ Exa Z h' a C ∧ (∀ {O nm d : String} {ty : FieldType}, Laid Z a0 C O nm d → parseFieldDescriptor d = some ty → Fld Z h' a O nm d (defaultValue ty)) ∧ ∀ {P : Outcome → State → Prop}, OG p.tables e below P (T'.setTop (mkF m pc' Ls (.ref a :: rest))) → OG p.tables e below P (T.setTop (mkF m pc Ls rest)) := by
  subst hp
  obtain ⟨X, hx, hby, hml, hown, hZ, eT⟩ := B
  obtain ⟨T', h', X', e', E, A, D, -, st⟩ := newO X hx hZ hown w wi wz eT (g := mkF m pc Ls rest) rfl (hb hby hd) hc hl
  exact ⟨h.size, T', h', rfl, ⟨X', hx, hby, hml, hown, hZ, e'⟩, E, A, D, fun k => k.of st⟩
theorem o_initO (B : Bx own bs ml Z p l e R s m args below meth c T h locs cells slots) {index : Nat} (pc pc' : Nat) (hd : decode bs pc = .ok (.invokespecial index, 3)) (hp : pc + 3 = pc') (w1 : (Cond.methodLink own index Lib.objectInit).before a0 Z = true) (w2 : (Cond.instanceMethod Lib.objectInit).before a0 Z = true) (w3 : (Cond.code Lib.objectInit ⟨#[0xb1]⟩ 1 none).before a0 Z = true) (hsz : Ls.size = ml) (W : Nat) (hW : (rest.map fun v => v.category).sum ≤ W) (hf : 1 ≤ R.frames) (hl : W + 12 ≤ R.locals) :
    ∃ T', Bx own bs ml Z p l e R s m args below meth c T' h locs cells slots ∧ ∀ {P : Outcome → State → Prop}, OG p.tables e below P (T'.setTop (mkF m pc' Ls rest)) → OG p.tables e below P (T.setTop (mkF m pc Ls (.ref a :: rest))) := by
  subst hp
  obtain ⟨X, hx, hby, hml, hown, hZ, eT⟩ := B
  obtain ⟨T', X', e', st⟩ := initO X hx hZ hown w1 w2 w3 eT (g := mkF m pc Ls (.ref a :: rest)) rfl (by rw [hml]; exact hsz) rfl (hb hby hd) hf (W := W) (by simpa using hW) hl
  exact ⟨T', ⟨X', hx, hby, hml, hown, hZ, e'⟩, fun k => k.of st⟩
theorem o_callN {index : Nat} {y : MethodName} {bytes : ByteArray} {maxL : Nat} {rm : Room} {as' : Array Value} {Q : Option Value → Heap → List Loc → Prop} {ps : List FieldType} {rt : Option FieldType}
    (B : Bx own bs ml Z p l e R s m args below meth c T h locs cells slots) (pc pc' : Nat) (hd : decode bs pc = .ok (.invokespecial index, 3)) (hp : pc + 3 = pc') (hy1 : y.name = "<init>")
    (w1 : (Cond.methodLink own index y).before a0 Z = true) (w2 : (Cond.instanceMethod y).before a0 Z = true) (w3 : (Cond.initialized y.cls).before a0 Z = true) (w4 : (Cond.code y bytes maxL none).before a0 Z = true) (hy : y.cls ≠ "java/lang/invoke/MethodHandle" ∧ y.cls ≠ "java/lang/invoke/VarHandle")
    (hM : Met l Z y bytes maxL none rm as' h Q) (W : Nat) (argsL rest : List Value) (hpd : parseMethodDescriptor y.desc = some ⟨ps, rt⟩) (hlen : argsL.length = ps.length) (has : (.ref a :: argsL).toArray = as') {st : List Value} (hst : st = argsL.reverse ++ .ref a :: rest) (hsz : Ls.size = ml)
    (hW : (rest.map fun v => v.category).sum ≤ W) (hf : rm.frames + 1 ≤ R.frames) (hl : W + (maxL + 11) + rm.locals ≤ R.locals) (hcl : cells + rm.cells ≤ R.cells) (hsl : slots + rm.slots ≤ R.slots) :
    ∃ v T' L, Bx own bs ml Z p l e R s m args below meth c T' T'.heap (locs ++ L) (cells + rm.cells) (slots + rm.slots) ∧ Q v T'.heap L ∧
      ∀ {P : Outcome → State → Prop}, OG p.tables e below P (T'.setTop (mkF m pc' Ls (v.toList ++ rest))) → OG p.tables e below P (T.setTop (mkF m pc Ls st)) := by
  subst hp hst
  obtain ⟨X, hx, hby, hml, hown, hZ, eT⟩ := B
  obtain ⟨v, vm1, ⟨T', L', k', n'⟩, -, X', ⟨Lc, hQ, l', y', z'⟩, st⟩ := X.specialBack hx (y := y) hy1 hown (mvT hZ w1) (mvT hZ w2) (mvT hZ w4) hy (backOf (W := W) hM hZ w4 w3 hf hl) (g := mkF m pc Ls (argsL.reverse ++ .ref a :: rest)) rfl (by rw [hml]; exact hsz) (Steps.refl _) (a := a) (argsL := argsL) (rest := rest) (lenOf hpd hlen) rfl (by simpa using hW) (hb hby hd) (fun _ _ => ⟨has, eT, hcl, hsl⟩)
  dsimp only [Pt.U, Pt.locs, Pt.cells, Pt.slots] at X' l' y' z' st hQ
  subst l' y' z'
  exact ⟨v, T', Lc, ⟨X', hx, hby, hml, hown, hZ, rfl⟩, hQ, fun k => k.of fun t q => st.trans q⟩
theorem o_callV {index : Nat} {y : MethodName} {C : String} {bytes : ByteArray} {maxL : Nat} {ret : Option FieldType} {rm : Room} {as' : Array Value} {Q : Option Value → Heap → List Loc → Prop} {ps : List FieldType} {rt : Option FieldType}
    (B : Bx own bs ml Z p l e R s m args below meth c T h locs cells slots) (pc pc' : Nat) (hd : decode bs pc = .ok (.invokevirtual index, 3)) (hp : pc + 3 = pc')
    (w1 : (Cond.methodLink own index y).before a0 Z = true) (w2 : (Cond.declares y).before a0 Z = true) (w5 : (Cond.selects C y y).before a0 Z = true) (w6 : (Cond.instanceMethod y).before a0 Z = true) (w3 : (Cond.initialized y.cls).before a0 Z = true) (w4 : (Cond.code y bytes maxL ret).before a0 Z = true) (hy : y.cls ≠ "java/lang/invoke/MethodHandle" ∧ y.cls ≠ "java/lang/invoke/VarHandle") (E : Exa Z h a C)
    (hM : Met l Z y bytes maxL ret rm as' h Q) (W : Nat) (argsL rest : List Value) (hpd : parseMethodDescriptor y.desc = some ⟨ps, rt⟩) (hlen : argsL.length = ps.length) (has : (.ref a :: argsL).toArray = as') {st : List Value} (hst : st = argsL.reverse ++ .ref a :: rest) (hsz : Ls.size = ml)
    (hW : (rest.map fun v => v.category).sum ≤ W) (hf : rm.frames + 1 ≤ R.frames) (hl : W + (maxL + 11) + rm.locals ≤ R.locals) (hcl : cells + rm.cells ≤ R.cells) (hsl : slots + rm.slots ≤ R.slots) :
    ∃ v T' L, Bx own bs ml Z p l e R s m args below meth c T' T'.heap (locs ++ L) (cells + rm.cells) (slots + rm.slots) ∧ Q v T'.heap L ∧
      ∀ {P : Outcome → State → Prop}, OG p.tables e below P (T'.setTop (mkF m pc' Ls (v.toList ++ rest))) → OG p.tables e below P (T.setTop (mkF m pc Ls st)) := by
  subst hp hst
  obtain ⟨X, hx, hby, hml, hown, hZ, eT⟩ := B
  obtain ⟨cq, kq, qa, qb, qc⟩ := isOf hZ eT E
  obtain ⟨v, vm1, ⟨T', L', k', n'⟩, -, X', ⟨Lc, hQ, l', y', z'⟩, st⟩ := X.virtualBack hx (y := y) (z := y) hown (mvT hZ w1) (mvT hZ w2) (notFace_of_selects (args := #[]) (mvT hZ w5)) (mvT hZ w5) (mvT hZ w6) hy (backOf (W := W) hM hZ w4 w3 hf hl) qa qc (g := mkF m pc Ls (argsL.reverse ++ .ref a :: rest)) rfl (by rw [hml]; exact hsz) (Steps.refl _) (argsL := argsL) (rest := rest) (lenOf hpd hlen) rfl (by simpa using hW) (hb hby hd) (fun _ _ => ⟨has, eT, hcl, hsl⟩)
  dsimp only [Pt.U, Pt.locs, Pt.cells, Pt.slots] at X' l' y' z' st hQ
  subst l' y' z'
  exact ⟨v, T', Lc, ⟨X', hx, hby, hml, hown, hZ, rfl⟩, hQ, fun k => k.of fun t q => st.trans q⟩
theorem o_callVP {index : Nat} {y : MethodName} {C : String} {bytes : ByteArray} {maxL : Nat} {ret : Option FieldType} {fr lo : Nat} {as' : Array Value} {r : Value} {ps : List FieldType} {rt : Option FieldType}
    (B : Bx own bs ml Z p l e R s m args below meth c T h locs cells slots) (pc pc' : Nat) (hd : decode bs pc = .ok (.invokevirtual index, 3)) (hp : pc + 3 = pc')
    (w1 : (Cond.methodLink own index y).before a0 Z = true) (w2 : (Cond.declares y).before a0 Z = true) (w5 : (Cond.selects C y y).before a0 Z = true) (w6 : (Cond.instanceMethod y).before a0 Z = true) (w3 : (Cond.initialized y.cls).before a0 Z = true) (w4 : (Cond.code y bytes maxL ret).before a0 Z = true) (hy : y.cls ≠ "java/lang/invoke/MethodHandle" ∧ y.cls ≠ "java/lang/invoke/VarHandle") (E : Exa Z h a C)
    (hM : Met l Z y bytes maxL ret ({ frames := fr, cells := 0, slots := 0, locals := lo } : Room) as' h (Pu (some r) h)) (W : Nat) (argsL rest : List Value) (hpd : parseMethodDescriptor y.desc = some ⟨ps, rt⟩) (hlen : argsL.length = ps.length) (has : (.ref a :: argsL).toArray = as') {st : List Value} (hst : st = argsL.reverse ++ .ref a :: rest) (hsz : Ls.size = ml)
    (hW : (rest.map fun v => v.category).sum ≤ W) (hf : fr + 1 ≤ R.frames) (hl : W + (maxL + 11) + lo ≤ R.locals) (hcl : cells ≤ R.cells) (hsl : slots ≤ R.slots) :
    ∃ T', Bx own bs ml Z p l e R s m args below meth c T' h locs cells slots ∧
      ∀ {P : Outcome → State → Prop}, OG p.tables e below P (T'.setTop (mkF m pc' Ls (r :: rest))) → OG p.tables e below P (T.setTop (mkF m pc Ls st)) := by
  obtain ⟨v, T', L, B', ⟨rfl, rfl, hh⟩, st⟩ := o_callV B pc pc' hd hp w1 w2 w5 w6 w3 w4 hy E hM W argsL rest hpd hlen has hst hsz hW hf hl hcl hsl
  rw [hh, List.append_nil] at B'
  exact ⟨T', B', st⟩
theorem o_callNP {index : Nat} {y : MethodName} {bytes : ByteArray} {maxL : Nat} {fr lo : Nat} {as' : Array Value} {ps : List FieldType} {rt : Option FieldType}
    (B : Bx own bs ml Z p l e R s m args below meth c T h locs cells slots) (pc pc' : Nat) (hd : decode bs pc = .ok (.invokespecial index, 3)) (hp : pc + 3 = pc') (hy1 : y.name = "<init>")
    (w1 : (Cond.methodLink own index y).before a0 Z = true) (w2 : (Cond.instanceMethod y).before a0 Z = true) (w3 : (Cond.initialized y.cls).before a0 Z = true) (w4 : (Cond.code y bytes maxL none).before a0 Z = true) (hy : y.cls ≠ "java/lang/invoke/MethodHandle" ∧ y.cls ≠ "java/lang/invoke/VarHandle")
    (hM : Met l Z y bytes maxL none ({ frames := fr, cells := 0, slots := 0, locals := lo } : Room) as' h (Pu none h)) (W : Nat) (argsL rest : List Value) (hpd : parseMethodDescriptor y.desc = some ⟨ps, rt⟩) (hlen : argsL.length = ps.length) (has : (.ref a :: argsL).toArray = as') {st : List Value} (hst : st = argsL.reverse ++ .ref a :: rest) (hsz : Ls.size = ml)
    (hW : (rest.map fun v => v.category).sum ≤ W) (hf : fr + 1 ≤ R.frames) (hl : W + (maxL + 11) + lo ≤ R.locals) (hcl : cells ≤ R.cells) (hsl : slots ≤ R.slots) :
    ∃ T', Bx own bs ml Z p l e R s m args below meth c T' h locs cells slots ∧
      ∀ {P : Outcome → State → Prop}, OG p.tables e below P (T'.setTop (mkF m pc' Ls rest)) → OG p.tables e below P (T.setTop (mkF m pc Ls st)) := by
  obtain ⟨v, T', L, B', ⟨rfl, rfl, hh⟩, st⟩ := o_callN B pc pc' hd hp hy1 w1 w2 w3 w4 hy hM W argsL rest hpd hlen has hst hsz hW hf hl hcl hsl
  rw [hh, List.append_nil] at B'
  exact ⟨T', B', st⟩
end Walk2
theorem d2_0 : decode jdk_30_method_1_code 0 = .ok (.aload_n 0, 1) := by decide +kernel
theorem d2_1 : decode jdk_30_method_1_code 1 = .ok (.invokespecial 1, 3) := by decide +kernel
theorem d2_4 : decode jdk_30_method_1_code 4 = .ok (.return_, 1) := by decide +kernel
theorem pl2 : plainFor (⟨"java/lang/Record", "<init>", "()V"⟩ : MethodName) = true := by first | exact plainFor_of_name (by first | (simp [plainName, overriddenIn]; done) | decide +kernel) | decide +kernel
set_option maxRecDepth 65536 in
set_option maxHeartbeats 40000000 in
theorem rm2 (l : Launch) (Z : State) (a0 : Array Value) (hw : ∀ d ∈ tables_1, d.before a0 Z = true) (a : Addr)  (h0 : Heap) :
    Met l Z (⟨"java/lang/Record", "<init>", "()V"⟩ : MethodName) jdk_30_method_1_code 1 (none) ({ frames := 1, cells := 0, slots := 0, locals := 12 } : Room) #[(.ref a)] h0 (Pu none h0) := by
  refine enter pl2 #[.val (.ref a)] rfl ?_
  intro p e s m below meth c T B hret hlk hnm
  · refine o_aloadN B 0 1 (v := (.ref a)) d2_0 rfl rfl rfl ?_
    obtain ⟨T1, B1, c1⟩ := o_initO B 1 4 d2_1 rfl (hw _ (List.mem_of_getElem? (i := 11) rfl)) (hw _ (List.mem_of_getElem? (i := 12) rfl)) (hw _ (List.mem_of_getElem? (i := 13) rfl)) (a := a) (Ls := #[.val (.ref a)]) (rest := []) rfl 0 (Nat.le_of_eq rfl) (by decide) (by decide)
    refine c1 ?_
    refine o_retV B1 4 d2_4 hret hlk (by decide) (by decide) ⟨rfl, rfl, rfl⟩
theorem d1_0 : decode prog_5_method_1_code 0 = .ok (.aload_n 0, 1) := by decide +kernel
theorem d1_1 : decode prog_5_method_1_code 1 = .ok (.invokespecial 1, 3) := by decide +kernel
theorem d1_4 : decode prog_5_method_1_code 4 = .ok (.aload_n 0, 1) := by decide +kernel
theorem d1_5 : decode prog_5_method_1_code 5 = .ok (.lload_n 1, 1) := by decide +kernel
theorem d1_6 : decode prog_5_method_1_code 6 = .ok (.putfield 7, 3) := by decide +kernel
theorem d1_9 : decode prog_5_method_1_code 9 = .ok (.aload_n 0, 1) := by decide +kernel
theorem d1_10 : decode prog_5_method_1_code 10 = .ok (.lload_n 3, 1) := by decide +kernel
theorem d1_11 : decode prog_5_method_1_code 11 = .ok (.putfield 13, 3) := by decide +kernel
theorem d1_14 : decode prog_5_method_1_code 14 = .ok (.aload_n 0, 1) := by decide +kernel
theorem d1_15 : decode prog_5_method_1_code 15 = .ok (.lload 5, 2) := by decide +kernel
theorem d1_17 : decode prog_5_method_1_code 17 = .ok (.putfield 16, 3) := by decide +kernel
theorem d1_20 : decode prog_5_method_1_code 20 = .ok (.return_, 1) := by decide +kernel
theorem pl1 : plainFor (⟨"com/example/overseer/overseer/io/ByteRange", "<init>", "(JJJ)V"⟩ : MethodName) = true := by first | exact plainFor_of_name (by first | (simp [plainName, overriddenIn]; done) | decide +kernel) | decide +kernel
theorem pd___V : parseMethodDescriptor "()V" = some ⟨[], none⟩ := by decide +kernel
def Q1 (Z : State) (a : Addr) (x0 : Int64) (x1 : Int64) (x2 : Int64) (h0 : Heap) (n0 : Nat) (v : Option Value) (h : Heap) (L : List Loc) : Prop := v = none ∧ Fr n0 L ∧ Keep h0 h [a] ∧ Fld Z h a "com/example/overseer/overseer/io/ByteRange" "first" "J" (.long x0) ∧ Fld Z h a "com/example/overseer/overseer/io/ByteRange" "last" "J" (.long x1) ∧ Fld Z h a "com/example/overseer/overseer/io/ByteRange" "length" "J" (.long x2)
set_option maxRecDepth 65536 in
set_option maxHeartbeats 40000000 in
theorem rm1 (l : Launch) (Z : State) (a0 : Array Value) (hw : ∀ d ∈ tables_1, d.before a0 Z = true) (a : Addr) (x0 : Int64) (x1 : Int64) (x2 : Int64) (h0 : Heap) (n0 : Nat) (hz : n0 ≤ h0.size) (ga : n0 ≤ a) (hE : Exa Z h0 a "com/example/overseer/overseer/io/ByteRange") (G0 : Fld Z h0 a "com/example/overseer/overseer/io/ByteRange" "first" "J" (.long (0 : Int64))) (G1 : Fld Z h0 a "com/example/overseer/overseer/io/ByteRange" "last" "J" (.long (0 : Int64))) (G2 : Fld Z h0 a "com/example/overseer/overseer/io/ByteRange" "length" "J" (.long (0 : Int64))) :
    Met l Z (⟨"com/example/overseer/overseer/io/ByteRange", "<init>", "(JJJ)V"⟩ : MethodName) prog_5_method_1_code 7 none ({ frames := 2, cells := 0, slots := 0, locals := 24 } : Room) #[(.ref a), (.long x0), (.long x1), (.long x2)] h0 (Q1 Z a x0 x1 x2 h0 n0) := by
  refine enter pl1 #[.val (.ref a), .val (.long x0), .second, .val (.long x1), .second, .val (.long x2), .second] rfl ?_
  intro p e s m below meth c T B hret hlk hnm
  have N0 := Fr.nil n0
  refine o_aloadN B 0 1 (v := (.ref a)) d1_0 rfl rfl rfl ?_
  obtain ⟨T1, B1, c1⟩ := o_callNP B 1 4 d1_1 rfl rfl (hw _ (List.mem_of_getElem? (i := 6) rfl)) (hw _ (List.mem_of_getElem? (i := 7) rfl)) (hw _ (List.mem_of_getElem? (i := 9) rfl)) (hw _ (List.mem_of_getElem? (i := 10) rfl)) (by decide) (rm2 l Z a0 hw a  h0 ) 0 [] [] pd___V rfl rfl (st := [(.ref a)]) rfl (Ls := #[.val (.ref a), .val (.long x0), .second, .val (.long x1), .second, .val (.long x2), .second]) rfl (Nat.le_of_eq rfl) (by decide) (by decide) (by decide) (by decide)
  refine c1 ?_
  refine o_aloadN B1 4 5 (v := (.ref a)) d1_4 rfl rfl rfl ?_
  refine o_lloadN B1 5 6 (v := x0) d1_5 rfl rfl ?_
  obtain ⟨T2, h2, L2, B2, N2, W2, c2⟩ := o_putfield B1 N0 ga 6 9 (v := (.long x0)) d1_6 rfl (host := "") (Or.inl (hw _ (List.mem_of_getElem? (i := 14) rfl))) Via.refl G0 hE (Or.inr ⟨(hw _ (List.mem_of_getElem? (i := 15) rfl)), rfl, hnm⟩) (hw _ (List.mem_of_getElem? (i := 1) rfl)) (ty := .long) (by decide) rfl rfl (Ls := #[.val (.ref a), .val (.long x0), .second, .val (.long x1), .second, .val (.long x2), .second]) (rest := [])
  have F2 : Fld Z h2 a "com/example/overseer/overseer/io/ByteRange" "first" "J" (.long x0) := Fld.same W2 G0
  refine c2 ?_
  refine o_aloadN B2 9 10 (v := (.ref a)) d1_9 rfl rfl rfl ?_
  refine o_lloadN B2 10 11 (v := x1) d1_10 rfl rfl ?_
  have F4 := (Fld.other W2 G1 (Or.inr (slot_ne (a0 := a0) (C := "com/example/overseer/overseer/io/ByteRange") (Or.inr (hw _ (List.mem_of_getElem? (i := 17) rfl))) (Or.inr (hw _ (List.mem_of_getElem? (i := 15) rfl))) (by decide) (t := .long) (t' := .long) (by decide) (by decide))))
  have F5 := (Exa.wr W2 hE)
  obtain ⟨T3, h3, L3, B3, N3, W3, c3⟩ := o_putfield B2 N2 ga 11 14 (v := (.long x1)) d1_11 rfl (host := "") (Or.inl (hw _ (List.mem_of_getElem? (i := 16) rfl))) Via.refl F4 F5 (Or.inr ⟨(hw _ (List.mem_of_getElem? (i := 17) rfl)), rfl, hnm⟩) (hw _ (List.mem_of_getElem? (i := 1) rfl)) (ty := .long) (by decide) rfl rfl (Ls := #[.val (.ref a), .val (.long x0), .second, .val (.long x1), .second, .val (.long x2), .second]) (rest := [])
  have F3 : Fld Z h3 a "com/example/overseer/overseer/io/ByteRange" "last" "J" (.long x1) := Fld.same W3 F4
  refine c3 ?_
  refine o_aloadN B3 14 15 (v := (.ref a)) d1_14 rfl rfl rfl ?_
  refine o_lload B3 15 17 (v := x2) d1_15 rfl rfl ?_
  have F7 := (Fld.other W3 (Fld.other W2 G2 (Or.inr (slot_ne (a0 := a0) (C := "com/example/overseer/overseer/io/ByteRange") (Or.inr (hw _ (List.mem_of_getElem? (i := 19) rfl))) (Or.inr (hw _ (List.mem_of_getElem? (i := 15) rfl))) (by decide) (t := .long) (t' := .long) (by decide) (by decide)))) (Or.inr (slot_ne (a0 := a0) (C := "com/example/overseer/overseer/io/ByteRange") (Or.inr (hw _ (List.mem_of_getElem? (i := 19) rfl))) (Or.inr (hw _ (List.mem_of_getElem? (i := 17) rfl))) (by decide) (t := .long) (t' := .long) (by decide) (by decide))))
  have F8 := (Exa.wr W3 F5)
  obtain ⟨T6, h6, L6, B6, N6, W6, c6⟩ := o_putfield B3 N3 ga 17 20 (v := (.long x2)) d1_17 rfl (host := "") (Or.inl (hw _ (List.mem_of_getElem? (i := 18) rfl))) Via.refl F7 F8 (Or.inr ⟨(hw _ (List.mem_of_getElem? (i := 19) rfl)), rfl, hnm⟩) (hw _ (List.mem_of_getElem? (i := 1) rfl)) (ty := .long) (by decide) rfl rfl (Ls := #[.val (.ref a), .val (.long x0), .second, .val (.long x1), .second, .val (.long x2), .second]) (rest := [])
  have F6 : Fld Z h6 a "com/example/overseer/overseer/io/ByteRange" "length" "J" (.long x2) := Fld.same W6 F7
  refine c6 ?_
  have F9 := (Fld.other W6 (Fld.other W3 F2 (Or.inr (slot_ne (a0 := a0) (C := "com/example/overseer/overseer/io/ByteRange") (Or.inr (hw _ (List.mem_of_getElem? (i := 15) rfl))) (Or.inr (hw _ (List.mem_of_getElem? (i := 17) rfl))) (by decide) (t := .long) (t' := .long) (by decide) (by decide)))) (Or.inr (slot_ne (a0 := a0) (C := "com/example/overseer/overseer/io/ByteRange") (Or.inr (hw _ (List.mem_of_getElem? (i := 15) rfl))) (Or.inr (hw _ (List.mem_of_getElem? (i := 19) rfl))) (by decide) (t := .long) (t' := .long) (by decide) (by decide))))
  have F10 := (Fld.other W6 F3 (Or.inr (slot_ne (a0 := a0) (C := "com/example/overseer/overseer/io/ByteRange") (Or.inr (hw _ (List.mem_of_getElem? (i := 17) rfl))) (Or.inr (hw _ (List.mem_of_getElem? (i := 19) rfl))) (by decide) (t := .long) (t' := .long) (by decide) (by decide))))
  exact o_retV B6 20 d1_20 hret hlk (by decide) (by decide) ⟨rfl, N6, ((((Keep.refl _ _).wr W2 (Or.inl (List.mem_of_getElem? (i := 0) rfl))).wr W3 (Or.inl (List.mem_of_getElem? (i := 0) rfl))).wr W6 (Or.inl (List.mem_of_getElem? (i := 0) rfl))), F9, F10, F6⟩
theorem d4_0 : decode prog_5_method_3_code 0 = .ok (.aload_n 0, 1) := by decide +kernel
theorem d4_1 : decode prog_5_method_3_code 1 = .ok (.getfield 7, 3) := by decide +kernel
theorem d4_4 : decode prog_5_method_3_code 4 = .ok (.aload_n 0, 1) := by decide +kernel
theorem d4_5 : decode prog_5_method_3_code 5 = .ok (.getfield 13, 3) := by decide +kernel
theorem d4_8 : decode prog_5_method_3_code 8 = .ok (.lcmp, 1) := by decide +kernel
theorem d4_9 : decode prog_5_method_3_code 9 = .ok (.ifCond .gt 7, 3) := by decide +kernel
theorem d4_12 : decode prog_5_method_3_code 12 = .ok (.iconst 1, 1) := by decide +kernel
theorem d4_13 : decode prog_5_method_3_code 13 = .ok (.goto 4, 3) := by decide +kernel
theorem d4_16 : decode prog_5_method_3_code 16 = .ok (.iconst 0, 1) := by decide +kernel
theorem d4_17 : decode prog_5_method_3_code 17 = .ok (.ireturn, 1) := by decide +kernel
theorem pl4 : plainFor (⟨"com/example/overseer/overseer/io/ByteRange", "isSatisfiable", "()Z"⟩ : MethodName) = true := by first | exact plainFor_of_name (by first | (simp [plainName, overriddenIn]; done) | decide +kernel) | decide +kernel
def f4 (y0 : Int64) (y1 : Int64) : Int32 := (if y1 < y0 then (0 : Int32) else (1 : Int32))
set_option maxRecDepth 65536 in
set_option maxHeartbeats 40000000 in
theorem rm4 (l : Launch) (Z : State) (a0 : Array Value) (hw : ∀ d ∈ tables_1, d.before a0 Z = true) (a : Addr) (y0 : Int64) (y1 : Int64) (h0 : Heap) (G0 : Fld Z h0 a "com/example/overseer/overseer/io/ByteRange" "first" "J" (.long y0)) (G1 : Fld Z h0 a "com/example/overseer/overseer/io/ByteRange" "last" "J" (.long y1)) :
    Met l Z (⟨"com/example/overseer/overseer/io/ByteRange", "isSatisfiable", "()Z"⟩ : MethodName) prog_5_method_3_code 1 (some .boolean) ({ frames := 0, cells := 0, slots := 0, locals := 0 } : Room) #[(.ref a)] h0 (Pu (some (.int (f4 y0 y1))) h0) := by
  refine enter pl4 #[.val (.ref a)] rfl ?_
  intro p e s m below meth c T B hret hlk hnm
  · refine o_aloadN B 0 1 (v := (.ref a)) d4_0 rfl rfl rfl ?_
    obtain ⟨T1, B1, c1⟩ := o_getfield B 1 4 d4_1 rfl (host := "") (Or.inl (hw _ (List.mem_of_getElem? (i := 14) rfl))) Via.refl G0 (Ls := #[.val (.ref a)]) (rest := [])
    refine c1 ?_
    refine o_aloadN B1 4 5 (v := (.ref a)) d4_4 rfl rfl rfl ?_
    obtain ⟨T2, B2, c2⟩ := o_getfield B1 5 8 d4_5 rfl (host := "") (Or.inl (hw _ (List.mem_of_getElem? (i := 16) rfl))) Via.refl G1 (Ls := #[.val (.ref a)]) (rest := [(.long y0)])
    refine c2 ?_
    refine o_lcmp B2 8 9 d4_8 rfl ?_
    by_cases k1 : y1 < y0
    · refine o_ifY B2 9 16 d4_9 (XT.ll_gt_t k1) (by decide) (by decide) ?_
      refine o_iconst B2 16 17 (0 : Int32) d4_16 rfl (by decide) ?_
      refine o_retZ (t := .boolean) B2 17 d4_17 hret hlk (by simp) (by decide) (by decide) ⟨(congrArg (fun z => some (Value.int z)) ((show nar .boolean (0 : Int32) = (0 : Int32) from rfl).trans (show f4 y0 y1 = (0 : Int32) from (if_pos k1).trans (rfl)).symm)), rfl, rfl⟩
    · refine o_ifN B2 9 12 d4_9 rfl (XT.ll_gt_f k1) ?_
      refine o_iconst B2 12 13 (1 : Int32) d4_12 rfl (by decide) ?_
      refine o_goto B2 13 17 d4_13 (by decide) (by decide) ?_
      refine o_retZ (t := .boolean) B2 17 d4_17 hret hlk (by simp) (by decide) (by decide) ⟨(congrArg (fun z => some (Value.int z)) ((show nar .boolean (1 : Int32) = (1 : Int32) from rfl).trans (show f4 y0 y1 = (1 : Int32) from (if_neg k1).trans (rfl)).symm)), rfl, rfl⟩
theorem d5_0 : decode jdk_29_method_66_code 0 = .ok (.lload_n 0, 1) := by decide +kernel
theorem d5_1 : decode jdk_29_method_66_code 1 = .ok (.lload_n 2, 1) := by decide +kernel
theorem d5_2 : decode jdk_29_method_66_code 2 = .ok (.lcmp, 1) := by decide +kernel
theorem d5_3 : decode jdk_29_method_66_code 3 = .ok (.ifCond .lt 7, 3) := by decide +kernel
theorem d5_6 : decode jdk_29_method_66_code 6 = .ok (.lload_n 0, 1) := by decide +kernel
theorem d5_7 : decode jdk_29_method_66_code 7 = .ok (.goto 4, 3) := by decide +kernel
theorem d5_10 : decode jdk_29_method_66_code 10 = .ok (.lload_n 2, 1) := by decide +kernel
theorem d5_11 : decode jdk_29_method_66_code 11 = .ok (.lreturn, 1) := by decide +kernel
theorem pl5 : plainFor (⟨"java/lang/Math", "max", "(JJ)J"⟩ : MethodName) = true := by first | exact plainFor_of_name (by first | (simp [plainName, overriddenIn]; done) | decide +kernel) | decide +kernel
def f5 (x0 : Int64) (x1 : Int64) : Int64 := (if x0 < x1 then x1 else x0)
set_option maxRecDepth 65536 in
set_option maxHeartbeats 40000000 in
theorem rm5 (l : Launch) (Z : State) (a0 : Array Value) (hw : ∀ d ∈ tables_1, d.before a0 Z = true) (x0 : Int64) (x1 : Int64) (h0 : Heap) :
    Met l Z (⟨"java/lang/Math", "max", "(JJ)J"⟩ : MethodName) jdk_29_method_66_code 4 (some .long) ({ frames := 0, cells := 0, slots := 0, locals := 0 } : Room) #[(.long x0), (.long x1)] h0 (Pu (some (.long (f5 x0 x1))) h0) := by
  refine enter pl5 #[.val (.long x0), .second, .val (.long x1), .second] rfl ?_
  intro p e s m below meth c T B hret hlk hnm
  · refine o_lloadN B 0 1 (v := x0) d5_0 rfl rfl ?_
    refine o_lloadN B 1 2 (v := x1) d5_1 rfl rfl ?_
    refine o_lcmp B 2 3 d5_2 rfl ?_
    by_cases k1 : x0 < x1
    · refine o_ifY B 3 10 d5_3 (XT.ll_lt_t k1) (by decide) (by decide) ?_
      refine o_lloadN B 10 11 (v := x1) d5_10 rfl rfl ?_
      refine o_retL B 11 d5_11 hret hlk (by decide) (by decide) ⟨(congrArg (fun z => some (Value.long z)) (show f5 x0 x1 = x1 from (if_pos k1).trans (rfl))).symm, rfl, rfl⟩
    · refine o_ifN B 3 6 d5_3 rfl (XT.ll_lt_f k1) ?_
      refine o_lloadN B 6 7 (v := x0) d5_6 rfl rfl ?_
      refine o_goto B 7 11 d5_7 (by decide) (by decide) ?_
      refine o_retL B 11 d5_11 hret hlk (by decide) (by decide) ⟨(congrArg (fun z => some (Value.long z)) (show f5 x0 x1 = x0 from (if_neg k1).trans (rfl))).symm, rfl, rfl⟩
theorem pl0 : plainFor x = true := by first | exact plainFor_of_name (by first | (simp [plainName, overriddenIn]; done) | decide +kernel) | decide +kernel
theorem pd__JJJ_V : parseMethodDescriptor "(JJJ)V" = some ⟨[.long, .long, .long], none⟩ := by decide +kernel
theorem pd___Z : parseMethodDescriptor "()Z" = some ⟨[], some .boolean⟩ := by decide +kernel
theorem pd__JJ_J : parseMethodDescriptor "(JJ)J" = some ⟨[.long, .long], some .long⟩ := by decide +kernel
def q0_1 (x0 : Int64) (x1 : Int64) (x2 : Int64) : Int32 := (if (f4 x1 x0) = 0 then (0 : Int32) else (1 : Int32))
def q0_2 (x0 : Int64) (x1 : Int64) (x2 : Int64) : Int32 := (if (f4 x0 x1) = 0 then (q0_1 x0 x1 x2) else (1 : Int32))
def q0_3 (x0 : Int64) (x1 : Int64) (x2 : Int64) : Int32 := (if (f4 x0 x1) = 0 then (0 : Int32) else (q0_1 x0 x1 x2))
def q0_4 (x0 : Int64) (x1 : Int64) (x2 : Int64) : Int32 := (if (q0_3 x0 x1 x2) = (if x0 = x1 then (1 : Int32) else 0) then (1 : Int32) else 0)
def f0 (x0 : Int64) (x1 : Int64) (x2 : Int64) : Int32 := (if (f4 x0 x1) = (if (f5 x0 x1) = x1 then (1 : Int32) else 0) then (if (f4 x1 x0) = (if (f5 x0 x1) = x0 then (1 : Int32) else 0) then (if (f4 x0 x0) = 0 then (0 : Int32) else (if (q0_2 x0 x1 x2) = 0 then (0 : Int32) else (if (q0_3 x0 x1 x2) = (if x0 = x1 then (1 : Int32) else 0) then (1 : Int32) else (0 : Int32)))) else (0 : Int32)) else (0 : Int32))
set_option maxRecDepth 65536 in
set_option maxHeartbeats 40000000 in
theorem rm0 (l : Launch) (Z : State) (a0 : Array Value) (hw : ∀ d ∈ tables_1, d.before a0 Z = true) (ws : List Jvm.Cond) (x0 : Int64) (x1 : Int64) (x2 : Int64) (h0 : Heap) (n0 : Nat) (hz : n0 ≤ h0.size) :
    MetFree l x (head1 (Jvm.Cond.code x code maxLocals ret :: ws) room_1) (fun a U => a = #[(.long x0), (.long x1), (.long x2)] ∧ Z.Warmed39 U.vm ∧ U.heap = h0) (fun _ _ _ _ _ => True) (fun _ U o U' => ∃ v L, o = .returned v ∧ Lw n0 (some (.int (f0 x0 x1 x2))) v U'.heap L ∧ FrameEnd U o U' L room_1.cells room_1.slots) := by
  refine enter (y := x) (bs := code) (ml := maxLocals) (ret := ret) (Q := Lw n0 (some (.int (f0 x0 x1 x2)))) pl0 #[.val (.long x0), .second, .val (.long x1), .second, .val (.long x2), .second, .unset, .unset, .unset, .unset, .unset, .unset, .unset, .unset, .unset, .unset] rfl ?_
  intro p e s m below meth c T B hret hlk hnm
  have N0 := Fr.nil n0
  obtain ⟨a1, T1, h1, z1, B1, E1, X1, D1, c1⟩ := o_new B 0 3 at_0 rfl (hw _ (List.mem_of_getElem? (i := 0) rfl)) (hw _ (List.mem_of_getElem? (i := 1) rfl)) (hw _ (List.mem_of_getElem? (i := 2) rfl)) (by decide) (by decide) (Ls := #[.val (.long x0), .second, .val (.long x1), .second, .val (.long x2), .second, .unset, .unset, .unset, .unset, .unset, .unset, .unset, .unset, .unset, .unset]) (rest := [])
  have g1 : n0 ≤ a1 := by rw [z1]; exact hz
  have s1 : n0 ≤ h1.size := Nat.le_trans hz E1.1
  have F2 : Fld Z h1 a1 "com/example/overseer/overseer/io/ByteRange" "first" "J" (.long (0 : Int64)) := D1 (Or.inr (hw _ (List.mem_of_getElem? (i := 15) rfl))) (ty := .long) (by decide)
  have F3 : Fld Z h1 a1 "com/example/overseer/overseer/io/ByteRange" "last" "J" (.long (0 : Int64)) := D1 (Or.inr (hw _ (List.mem_of_getElem? (i := 17) rfl))) (ty := .long) (by decide)
  have F4 : Fld Z h1 a1 "com/example/overseer/overseer/io/ByteRange" "length" "J" (.long (0 : Int64)) := D1 (Or.inr (hw _ (List.mem_of_getElem? (i := 19) rfl))) (ty := .long) (by decide)
  refine c1 ?_
  refine o_dup B1 3 4 at_3 rfl rfl ?_
  refine o_lloadN B1 4 5 (v := x0) at_4 rfl rfl ?_
  refine o_lloadN B1 5 6 (v := x1) at_5 rfl rfl ?_
  refine o_lload B1 6 8 (v := x2) at_6 rfl rfl ?_
  obtain ⟨v5, T5, L5, B5, Q5, c5⟩ := o_callN B1 8 11 at_8 rfl rfl (hw _ (List.mem_of_getElem? (i := 3) rfl)) (hw _ (List.mem_of_getElem? (i := 4) rfl)) (hw _ (List.mem_of_getElem? (i := 2) rfl)) (hw _ (List.mem_of_getElem? (i := 5) rfl)) (by decide) (rm1 l Z a0 hw a1 x0 x1 x2 h1 n0 s1 g1 X1 F2 F3 F4) 1 [(.long x0), (.long x1), (.long x2)] [(.ref a1)] pd__JJJ_V rfl rfl (st := [(.long x2), (.long x1), (.long x0), (.ref a1), (.ref a1)]) rfl (Ls := #[.val (.long x0), .second, .val (.long x1), .second, .val (.long x2), .second, .unset, .unset, .unset, .unset, .unset, .unset, .unset, .unset, .unset, .unset]) rfl (Nat.le_of_eq rfl) (by decide) (by decide) (by decide) (by decide)
  obtain ⟨rfl, M5, K5, H5_0, H5_1, H5_2⟩ := Q5
  have N5 := Fr.app N0 M5
  have s5 : n0 ≤ T5.heap.size := Nat.le_trans s1 K5.1
  refine c5 ?_
  show OG p.tables e below _ (T5.setTop (mkF m 11 #[.val (.long x0), .second, .val (.long x1), .second, .val (.long x2), .second, .unset, .unset, .unset, .unset, .unset, .unset, .unset, .unset, .unset, .unset] [(.ref a1)]))
  refine o_astore B5 11 13 (l' := #[.val (.long x0), .second, .val (.long x1), .second, .val (.long x2), .second, .val (.ref a1), .unset, .unset, .unset, .unset, .unset, .unset, .unset, .unset, .unset]) at_11 rfl rfl rfl ?_
  obtain ⟨a6, T6, h6, z6, B6, E6, X6, D6, c6⟩ := o_new B5 13 16 at_13 rfl (hw _ (List.mem_of_getElem? (i := 0) rfl)) (hw _ (List.mem_of_getElem? (i := 1) rfl)) (hw _ (List.mem_of_getElem? (i := 2) rfl)) (by decide) (by decide) (Ls := #[.val (.long x0), .second, .val (.long x1), .second, .val (.long x2), .second, .val (.ref a1), .unset, .unset, .unset, .unset, .unset, .unset, .unset, .unset, .unset]) (rest := [])
  have F7 := (X1.keep K5)
  have ne8 : a1 ≠ a6 := by rw [z6]; exact Nat.ne_of_lt F7.lt
  have g6 : n0 ≤ a6 := by rw [z6]; exact s5
  have s6 : n0 ≤ h6.size := Nat.le_trans s5 E6.1
  have F9 : Fld Z h6 a6 "com/example/overseer/overseer/io/ByteRange" "first" "J" (.long (0 : Int64)) := D6 (Or.inr (hw _ (List.mem_of_getElem? (i := 15) rfl))) (ty := .long) (by decide)
  have F10 : Fld Z h6 a6 "com/example/overseer/overseer/io/ByteRange" "last" "J" (.long (0 : Int64)) := D6 (Or.inr (hw _ (List.mem_of_getElem? (i := 17) rfl))) (ty := .long) (by decide)
  have F11 : Fld Z h6 a6 "com/example/overseer/overseer/io/ByteRange" "length" "J" (.long (0 : Int64)) := D6 (Or.inr (hw _ (List.mem_of_getElem? (i := 19) rfl))) (ty := .long) (by decide)
  refine c6 ?_
  refine o_dup B6 16 17 at_16 rfl rfl ?_
  refine o_lloadN B6 17 18 (v := x1) at_17 rfl rfl ?_
  refine o_lloadN B6 18 19 (v := x0) at_18 rfl rfl ?_
  refine o_lload B6 19 21 (v := x2) at_19 rfl rfl ?_
  obtain ⟨v12, T12, L12, B12, Q12, c12⟩ := o_callN B6 21 24 at_21 rfl rfl (hw _ (List.mem_of_getElem? (i := 3) rfl)) (hw _ (List.mem_of_getElem? (i := 4) rfl)) (hw _ (List.mem_of_getElem? (i := 2) rfl)) (hw _ (List.mem_of_getElem? (i := 5) rfl)) (by decide) (rm1 l Z a0 hw a6 x1 x0 x2 h6 n0 s6 g6 X6 F9 F10 F11) 1 [(.long x1), (.long x0), (.long x2)] [(.ref a6)] pd__JJJ_V rfl rfl (st := [(.long x2), (.long x0), (.long x1), (.ref a6), (.ref a6)]) rfl (Ls := #[.val (.long x0), .second, .val (.long x1), .second, .val (.long x2), .second, .val (.ref a1), .unset, .unset, .unset, .unset, .unset, .unset, .unset, .unset, .unset]) rfl (Nat.le_of_eq rfl) (by decide) (by decide) (by decide) (by decide)
  obtain ⟨rfl, M12, K12, H12_0, H12_1, H12_2⟩ := Q12
  have N12 := Fr.app N5 M12
  have s12 : n0 ≤ T12.heap.size := Nat.le_trans s6 K12.1
  refine c12 ?_
  show OG p.tables e below _ (T12.setTop (mkF m 24 #[.val (.long x0), .second, .val (.long x1), .second, .val (.long x2), .second, .val (.ref a1), .unset, .unset, .unset, .unset, .unset, .unset, .unset, .unset, .unset] [(.ref a6)]))
  refine o_astore B12 24 26 (l' := #[.val (.long x0), .second, .val (.long x1), .second, .val (.long x2), .second, .val (.ref a1), .val (.ref a6), .unset, .unset, .unset, .unset, .unset, .unset, .unset, .unset]) at_24 rfl rfl rfl ?_
  obtain ⟨a13, T13, h13, z13, B13, E13, X13, D13, c13⟩ := o_new B12 26 29 at_26 rfl (hw _ (List.mem_of_getElem? (i := 0) rfl)) (hw _ (List.mem_of_getElem? (i := 1) rfl)) (hw _ (List.mem_of_getElem? (i := 2) rfl)) (by decide) (by decide) (Ls := #[.val (.long x0), .second, .val (.long x1), .second, .val (.long x2), .second, .val (.ref a1), .val (.ref a6), .unset, .unset, .unset, .unset, .unset, .unset, .unset, .unset]) (rest := [])
  have F14 := ((Exa.ext E6 F7).keep K12)
  have ne15 : a1 ≠ a13 := by rw [z13]; exact Nat.ne_of_lt F14.lt
  have F16 := (X6.keep K12)
  have ne17 : a6 ≠ a13 := by rw [z13]; exact Nat.ne_of_lt F16.lt
  have g13 : n0 ≤ a13 := by rw [z13]; exact s12
  have s13 : n0 ≤ h13.size := Nat.le_trans s12 E13.1
  have F18 : Fld Z h13 a13 "com/example/overseer/overseer/io/ByteRange" "first" "J" (.long (0 : Int64)) := D13 (Or.inr (hw _ (List.mem_of_getElem? (i := 15) rfl))) (ty := .long) (by decide)
  have F19 : Fld Z h13 a13 "com/example/overseer/overseer/io/ByteRange" "last" "J" (.long (0 : Int64)) := D13 (Or.inr (hw _ (List.mem_of_getElem? (i := 17) rfl))) (ty := .long) (by decide)
  have F20 : Fld Z h13 a13 "com/example/overseer/overseer/io/ByteRange" "length" "J" (.long (0 : Int64)) := D13 (Or.inr (hw _ (List.mem_of_getElem? (i := 19) rfl))) (ty := .long) (by decide)
  refine c13 ?_
  refine o_dup B13 29 30 at_29 rfl rfl ?_
  refine o_lloadN B13 30 31 (v := x0) at_30 rfl rfl ?_
  refine o_lloadN B13 31 32 (v := x0) at_31 rfl rfl ?_
  refine o_lload B13 32 34 (v := x2) at_32 rfl rfl ?_
  obtain ⟨v21, T21, L21, B21, Q21, c21⟩ := o_callN B13 34 37 at_34 rfl rfl (hw _ (List.mem_of_getElem? (i := 3) rfl)) (hw _ (List.mem_of_getElem? (i := 4) rfl)) (hw _ (List.mem_of_getElem? (i := 2) rfl)) (hw _ (List.mem_of_getElem? (i := 5) rfl)) (by decide) (rm1 l Z a0 hw a13 x0 x0 x2 h13 n0 s13 g13 X13 F18 F19 F20) 1 [(.long x0), (.long x0), (.long x2)] [(.ref a13)] pd__JJJ_V rfl rfl (st := [(.long x2), (.long x0), (.long x0), (.ref a13), (.ref a13)]) rfl (Ls := #[.val (.long x0), .second, .val (.long x1), .second, .val (.long x2), .second, .val (.ref a1), .val (.ref a6), .unset, .unset, .unset, .unset, .unset, .unset, .unset, .unset]) rfl (Nat.le_of_eq rfl) (by decide) (by decide) (by decide) (by decide)
  obtain ⟨rfl, M21, K21, H21_0, H21_1, H21_2⟩ := Q21
  have N21 := Fr.app N12 M21
  have s21 : n0 ≤ T21.heap.size := Nat.le_trans s13 K21.1
  refine c21 ?_
  show OG p.tables e below _ (T21.setTop (mkF m 37 #[.val (.long x0), .second, .val (.long x1), .second, .val (.long x2), .second, .val (.ref a1), .val (.ref a6), .unset, .unset, .unset, .unset, .unset, .unset, .unset, .unset] [(.ref a13)]))
  refine o_astore B21 37 39 (l' := #[.val (.long x0), .second, .val (.long x1), .second, .val (.long x2), .second, .val (.ref a1), .val (.ref a6), .val (.ref a13), .unset, .unset, .unset, .unset, .unset, .unset, .unset]) at_37 rfl rfl rfl ?_
  refine o_aload B21 39 41 (v := (.ref a1)) at_39 rfl rfl rfl ?_
  have F22 := ((Fld.ext E13 ((Fld.ext E6 H5_0).keep K12 (ninS ne8 nin0))).keep K21 (ninS ne15 nin0))
  have F23 := ((Fld.ext E13 ((Fld.ext E6 H5_1).keep K12 (ninS ne8 nin0))).keep K21 (ninS ne15 nin0))
  have F24 := ((Exa.ext E13 F14).keep K21)
  obtain ⟨T25, B25, c25⟩ := o_callVP B21 41 44 at_41 rfl (hw _ (List.mem_of_getElem? (i := 20) rfl)) (hw _ (List.mem_of_getElem? (i := 21) rfl)) (hw _ (List.mem_of_getElem? (i := 23) rfl)) (hw _ (List.mem_of_getElem? (i := 22) rfl)) (hw _ (List.mem_of_getElem? (i := 2) rfl)) (hw _ (List.mem_of_getElem? (i := 24) rfl)) (by decide) F24 (rm4 l Z a0 hw a1 x0 x1 T21.heap F22 F23) 0 [] [] pd___Z rfl rfl (st := [(.ref a1)]) rfl (Ls := #[.val (.long x0), .second, .val (.long x1), .second, .val (.long x2), .second, .val (.ref a1), .val (.ref a6), .val (.ref a13), .unset, .unset, .unset, .unset, .unset, .unset, .unset]) rfl (Nat.le_of_eq rfl) (by decide) (by decide) (by decide) (by decide)
  refine c25 ?_
  refine o_istore B25 44 46 (l' := #[.val (.long x0), .second, .val (.long x1), .second, .val (.long x2), .second, .val (.ref a1), .val (.ref a6), .val (.ref a13), .val (.int (f4 x0 x1)), .unset, .unset, .unset, .unset, .unset, .unset]) at_44 rfl rfl ?_
  refine o_aload B25 46 48 (v := (.ref a6)) at_46 rfl rfl rfl ?_
  have F26 := ((Fld.ext E13 H12_0).keep K21 (ninS ne17 nin0))
  have F27 := ((Fld.ext E13 H12_1).keep K21 (ninS ne17 nin0))
  have F28 := ((Exa.ext E13 F16).keep K21)
  obtain ⟨T29, B29, c29⟩ := o_callVP B25 48 51 at_48 rfl (hw _ (List.mem_of_getElem? (i := 20) rfl)) (hw _ (List.mem_of_getElem? (i := 21) rfl)) (hw _ (List.mem_of_getElem? (i := 23) rfl)) (hw _ (List.mem_of_getElem? (i := 22) rfl)) (hw _ (List.mem_of_getElem? (i := 2) rfl)) (hw _ (List.mem_of_getElem? (i := 24) rfl)) (by decide) F28 (rm4 l Z a0 hw a6 x1 x0 T21.heap F26 F27) 0 [] [] pd___Z rfl rfl (st := [(.ref a6)]) rfl (Ls := #[.val (.long x0), .second, .val (.long x1), .second, .val (.long x2), .second, .val (.ref a1), .val (.ref a6), .val (.ref a13), .val (.int (f4 x0 x1)), .unset, .unset, .unset, .unset, .unset, .unset]) rfl (Nat.le_of_eq rfl) (by decide) (by decide) (by decide) (by decide)
  refine c29 ?_
  refine o_istore B29 51 53 (l' := #[.val (.long x0), .second, .val (.long x1), .second, .val (.long x2), .second, .val (.ref a1), .val (.ref a6), .val (.ref a13), .val (.int (f4 x0 x1)), .val (.int (f4 x1 x0)), .unset, .unset, .unset, .unset, .unset]) at_51 rfl rfl ?_
  refine o_aload B29 53 55 (v := (.ref a13)) at_53 rfl rfl rfl ?_
  have F30 := (X13.keep K21)
  obtain ⟨T31, B31, c31⟩ := o_callVP B29 55 58 at_55 rfl (hw _ (List.mem_of_getElem? (i := 20) rfl)) (hw _ (List.mem_of_getElem? (i := 21) rfl)) (hw _ (List.mem_of_getElem? (i := 23) rfl)) (hw _ (List.mem_of_getElem? (i := 22) rfl)) (hw _ (List.mem_of_getElem? (i := 2) rfl)) (hw _ (List.mem_of_getElem? (i := 24) rfl)) (by decide) F30 (rm4 l Z a0 hw a13 x0 x0 T21.heap H21_0 H21_1) 0 [] [] pd___Z rfl rfl (st := [(.ref a13)]) rfl (Ls := #[.val (.long x0), .second, .val (.long x1), .second, .val (.long x2), .second, .val (.ref a1), .val (.ref a6), .val (.ref a13), .val (.int (f4 x0 x1)), .val (.int (f4 x1 x0)), .unset, .unset, .unset, .unset, .unset]) rfl (Nat.le_of_eq rfl) (by decide) (by decide) (by decide) (by decide)
  refine c31 ?_
  refine o_istore B31 58 60 (l' := #[.val (.long x0), .second, .val (.long x1), .second, .val (.long x2), .second, .val (.ref a1), .val (.ref a6), .val (.ref a13), .val (.int (f4 x0 x1)), .val (.int (f4 x1 x0)), .val (.int (f4 x0 x0)), .unset, .unset, .unset, .unset]) at_58 rfl rfl ?_
  refine o_lloadN B31 60 61 (v := x0) at_60 rfl rfl ?_
  refine o_lloadN B31 61 62 (v := x1) at_61 rfl rfl ?_
  obtain ⟨T32, B32, c32⟩ := o_callP B31 62 65 at_62 rfl (hw _ (List.mem_of_getElem? (i := 25) rfl)) (hw _ (List.mem_of_getElem? (i := 26) rfl)) (hw _ (List.mem_of_getElem? (i := 27) rfl)) (hw _ (List.mem_of_getElem? (i := 28) rfl)) (by decide) (rm5 l Z a0 hw x0 x1 T21.heap ) 0 [(.long x0), (.long x1)] [] pd__JJ_J rfl rfl (st := [(.long x1), (.long x0)]) rfl (Ls := #[.val (.long x0), .second, .val (.long x1), .second, .val (.long x2), .second, .val (.ref a1), .val (.ref a6), .val (.ref a13), .val (.int (f4 x0 x1)), .val (.int (f4 x1 x0)), .val (.int (f4 x0 x0)), .unset, .unset, .unset, .unset]) rfl (Nat.le_of_eq rfl) (by decide) (by decide) (by decide) (by decide)
  refine c32 ?_
  refine o_lloadN B32 65 66 (v := x1) at_65 rfl rfl ?_
  refine o_lcmp B32 66 67 at_66 rfl ?_
  have dm1 : ∀ {P : Outcome → State → Prop}, OG p.tables e below P (T32.setTop (mkF m 75 #[.val (.long x0), .second, .val (.long x1), .second, .val (.long x2), .second, .val (.ref a1), .val (.ref a6), .val (.ref a13), .val (.int (f4 x0 x1)), .val (.int (f4 x1 x0)), .val (.int (f4 x0 x0)), .unset, .unset, .unset, .unset] [(.int (if (f5 x0 x1) = x1 then (1 : Int32) else 0))])) → OG p.tables e below P (T32.setTop (mkF m 67 #[.val (.long x0), .second, .val (.long x1), .second, .val (.long x2), .second, .val (.ref a1), .val (.ref a6), .val (.ref a13), .val (.int (f4 x0 x1)), .val (.int (f4 x1 x0)), .val (.int (f4 x0 x0)), .unset, .unset, .unset, .unset] [(.int (XT.cmpL (f5 x0 x1) x1))])) := by
    intro P k
    by_cases k2 : (f5 x0 x1) = x1
    · refine o_ifN B32 67 70 at_67 rfl (XT.ll_ne_f k2) ?_
      refine o_iconst B32 70 71 (1 : Int32) at_70 rfl (by decide) ?_
      refine o_goto B32 71 75 at_71 (by decide) (by decide) ?_
      have y0 : (if (f5 x0 x1) = x1 then (1 : Int32) else 0) = (1 : Int32) := by simp only [if_pos k2]
      rw [y0] at k
      exact k
    · refine o_ifY B32 67 74 at_67 (XT.ll_ne_t k2) (by decide) (by decide) ?_
      refine o_iconst B32 74 75 (0 : Int32) at_74 rfl (by decide) ?_
      have y0 : (if (f5 x0 x1) = x1 then (1 : Int32) else 0) = (0 : Int32) := by simp only [if_neg k2]
      rw [y0] at k
      exact k
  refine dm1 ?_
  refine o_istore B32 75 77 (l' := #[.val (.long x0), .second, .val (.long x1), .second, .val (.long x2), .second, .val (.ref a1), .val (.ref a6), .val (.ref a13), .val (.int (f4 x0 x1)), .val (.int (f4 x1 x0)), .val (.int (f4 x0 x0)), .val (.int (if (f5 x0 x1) = x1 then (1 : Int32) else 0)), .unset, .unset, .unset]) at_75 rfl rfl ?_
  refine o_lloadN B32 77 78 (v := x0) at_77 rfl rfl ?_
  refine o_lloadN B32 78 79 (v := x1) at_78 rfl rfl ?_
  obtain ⟨T35, B35, c35⟩ := o_callP B32 79 82 at_79 rfl (hw _ (List.mem_of_getElem? (i := 25) rfl)) (hw _ (List.mem_of_getElem? (i := 26) rfl)) (hw _ (List.mem_of_getElem? (i := 27) rfl)) (hw _ (List.mem_of_getElem? (i := 28) rfl)) (by decide) (rm5 l Z a0 hw x0 x1 T21.heap ) 0 [(.long x0), (.long x1)] [] pd__JJ_J rfl rfl (st := [(.long x1), (.long x0)]) rfl (Ls := #[.val (.long x0), .second, .val (.long x1), .second, .val (.long x2), .second, .val (.ref a1), .val (.ref a6), .val (.ref a13), .val (.int (f4 x0 x1)), .val (.int (f4 x1 x0)), .val (.int (f4 x0 x0)), .val (.int (if (f5 x0 x1) = x1 then (1 : Int32) else 0)), .unset, .unset, .unset]) rfl (Nat.le_of_eq rfl) (by decide) (by decide) (by decide) (by decide)
  refine c35 ?_
  refine o_lloadN B35 82 83 (v := x0) at_82 rfl rfl ?_
  refine o_lcmp B35 83 84 at_83 rfl ?_
  have dm3 : ∀ {P : Outcome → State → Prop}, OG p.tables e below P (T35.setTop (mkF m 92 #[.val (.long x0), .second, .val (.long x1), .second, .val (.long x2), .second, .val (.ref a1), .val (.ref a6), .val (.ref a13), .val (.int (f4 x0 x1)), .val (.int (f4 x1 x0)), .val (.int (f4 x0 x0)), .val (.int (if (f5 x0 x1) = x1 then (1 : Int32) else 0)), .unset, .unset, .unset] [(.int (if (f5 x0 x1) = x0 then (1 : Int32) else 0))])) → OG p.tables e below P (T35.setTop (mkF m 84 #[.val (.long x0), .second, .val (.long x1), .second, .val (.long x2), .second, .val (.ref a1), .val (.ref a6), .val (.ref a13), .val (.int (f4 x0 x1)), .val (.int (f4 x1 x0)), .val (.int (f4 x0 x0)), .val (.int (if (f5 x0 x1) = x1 then (1 : Int32) else 0)), .unset, .unset, .unset] [(.int (XT.cmpL (f5 x0 x1) x0))])) := by
    intro P k
    by_cases k4 : (f5 x0 x1) = x0
    · refine o_ifN B35 84 87 at_84 rfl (XT.ll_ne_f k4) ?_
      refine o_iconst B35 87 88 (1 : Int32) at_87 rfl (by decide) ?_
      refine o_goto B35 88 92 at_88 (by decide) (by decide) ?_
      have y0 : (if (f5 x0 x1) = x0 then (1 : Int32) else 0) = (1 : Int32) := by simp only [if_pos k4]
      rw [y0] at k
      exact k
    · refine o_ifY B35 84 91 at_84 (XT.ll_ne_t k4) (by decide) (by decide) ?_
      refine o_iconst B35 91 92 (0 : Int32) at_91 rfl (by decide) ?_
      have y0 : (if (f5 x0 x1) = x0 then (1 : Int32) else 0) = (0 : Int32) := by simp only [if_neg k4]
      rw [y0] at k
      exact k
  refine dm3 ?_
  refine o_istore B35 92 94 (l' := #[.val (.long x0), .second, .val (.long x1), .second, .val (.long x2), .second, .val (.ref a1), .val (.ref a6), .val (.ref a13), .val (.int (f4 x0 x1)), .val (.int (f4 x1 x0)), .val (.int (f4 x0 x0)), .val (.int (if (f5 x0 x1) = x1 then (1 : Int32) else 0)), .val (.int (if (f5 x0 x1) = x0 then (1 : Int32) else 0)), .unset, .unset]) at_92 rfl rfl ?_
  refine o_iload B35 94 96 (v := (f4 x0 x1)) at_94 rfl rfl ?_
  have dm5 : ∀ {P : Outcome → State → Prop}, OG p.tables e below P (T35.setTop (mkF m 109 #[.val (.long x0), .second, .val (.long x1), .second, .val (.long x2), .second, .val (.ref a1), .val (.ref a6), .val (.ref a13), .val (.int (f4 x0 x1)), .val (.int (f4 x1 x0)), .val (.int (f4 x0 x0)), .val (.int (if (f5 x0 x1) = x1 then (1 : Int32) else 0)), .val (.int (if (f5 x0 x1) = x0 then (1 : Int32) else 0)), .unset, .unset] [(.int (q0_2 x0 x1 x2))])) → OG p.tables e below P (T35.setTop (mkF m 96 #[.val (.long x0), .second, .val (.long x1), .second, .val (.long x2), .second, .val (.ref a1), .val (.ref a6), .val (.ref a13), .val (.int (f4 x0 x1)), .val (.int (f4 x1 x0)), .val (.int (f4 x0 x0)), .val (.int (if (f5 x0 x1) = x1 then (1 : Int32) else 0)), .val (.int (if (f5 x0 x1) = x0 then (1 : Int32) else 0)), .unset, .unset] [(.int (f4 x0 x1))])) := by
    intro P k
    by_cases k6 : (f4 x0 x1) = 0
    · refine o_ifN B35 96 99 at_96 rfl (XT.i0_ne_f k6) ?_
      refine o_iload B35 99 101 (v := (f4 x1 x0)) at_99 rfl rfl ?_
      by_cases k7 : (f4 x1 x0) = 0
      · refine o_ifY B35 101 108 at_101 (XT.i0_eq_t k7) (by decide) (by decide) ?_
        refine o_iconst B35 108 109 (0 : Int32) at_108 rfl (by decide) ?_
        have y0 : (q0_2 x0 x1 x2) = (0 : Int32) := by simp only [q0_1, q0_2, if_pos k6, if_pos k7]
        rw [y0] at k
        exact k
      · refine o_ifN B35 101 104 at_101 rfl (XT.i0_eq_f k7) ?_
        refine o_iconst B35 104 105 (1 : Int32) at_104 rfl (by decide) ?_
        refine o_goto B35 105 109 at_105 (by decide) (by decide) ?_
        have y0 : (q0_2 x0 x1 x2) = (1 : Int32) := by simp only [q0_1, q0_2, if_pos k6, if_neg k7]
        rw [y0] at k
        exact k
    · refine o_ifY B35 96 104 at_96 (XT.i0_ne_t k6) (by decide) (by decide) ?_
      refine o_iconst B35 104 105 (1 : Int32) at_104 rfl (by decide) ?_
      refine o_goto B35 105 109 at_105 (by decide) (by decide) ?_
      have y0 : (q0_2 x0 x1 x2) = (1 : Int32) := by simp only [q0_1, q0_2, if_neg k6]
      rw [y0] at k
      exact k
  refine dm5 ?_
  refine o_istore B35 109 111 (l' := #[.val (.long x0), .second, .val (.long x1), .second, .val (.long x2), .second, .val (.ref a1), .val (.ref a6), .val (.ref a13), .val (.int (f4 x0 x1)), .val (.int (f4 x1 x0)), .val (.int (f4 x0 x0)), .val (.int (if (f5 x0 x1) = x1 then (1 : Int32) else 0)), .val (.int (if (f5 x0 x1) = x0 then (1 : Int32) else 0)), .val (.int (q0_2 x0 x1 x2)), .unset]) at_109 rfl rfl ?_
  refine o_iload B35 111 113 (v := (f4 x0 x1)) at_111 rfl rfl ?_
  have dm8 : ∀ {P : Outcome → State → Prop}, OG p.tables e below P (T35.setTop (mkF m 126 #[.val (.long x0), .second, .val (.long x1), .second, .val (.long x2), .second, .val (.ref a1), .val (.ref a6), .val (.ref a13), .val (.int (f4 x0 x1)), .val (.int (f4 x1 x0)), .val (.int (f4 x0 x0)), .val (.int (if (f5 x0 x1) = x1 then (1 : Int32) else 0)), .val (.int (if (f5 x0 x1) = x0 then (1 : Int32) else 0)), .val (.int (q0_2 x0 x1 x2)), .unset] [(.int (q0_3 x0 x1 x2))])) → OG p.tables e below P (T35.setTop (mkF m 113 #[.val (.long x0), .second, .val (.long x1), .second, .val (.long x2), .second, .val (.ref a1), .val (.ref a6), .val (.ref a13), .val (.int (f4 x0 x1)), .val (.int (f4 x1 x0)), .val (.int (f4 x0 x0)), .val (.int (if (f5 x0 x1) = x1 then (1 : Int32) else 0)), .val (.int (if (f5 x0 x1) = x0 then (1 : Int32) else 0)), .val (.int (q0_2 x0 x1 x2)), .unset] [(.int (f4 x0 x1))])) := by
    intro P k
    by_cases k9 : (f4 x0 x1) = 0
    · refine o_ifY B35 113 125 at_113 (XT.i0_eq_t k9) (by decide) (by decide) ?_
      refine o_iconst B35 125 126 (0 : Int32) at_125 rfl (by decide) ?_
      have y0 : (q0_3 x0 x1 x2) = (0 : Int32) := by simp only [q0_1, q0_3, if_pos k9]
      rw [y0] at k
      exact k
    · refine o_ifN B35 113 116 at_113 rfl (XT.i0_eq_f k9) ?_
      refine o_iload B35 116 118 (v := (f4 x1 x0)) at_116 rfl rfl ?_
      by_cases k10 : (f4 x1 x0) = 0
      · refine o_ifY B35 118 125 at_118 (XT.i0_eq_t k10) (by decide) (by decide) ?_
        refine o_iconst B35 125 126 (0 : Int32) at_125 rfl (by decide) ?_
        have y0 : (q0_3 x0 x1 x2) = (0 : Int32) := by simp only [q0_1, q0_3, if_neg k9, if_pos k10]
        rw [y0] at k
        exact k
      · refine o_ifN B35 118 121 at_118 rfl (XT.i0_eq_f k10) ?_
        refine o_iconst B35 121 122 (1 : Int32) at_121 rfl (by decide) ?_
        refine o_goto B35 122 126 at_122 (by decide) (by decide) ?_
        have y0 : (q0_3 x0 x1 x2) = (1 : Int32) := by simp only [q0_1, q0_3, if_neg k9, if_neg k10]
        rw [y0] at k
        exact k
  refine dm8 ?_
  refine o_lloadN B35 126 127 (v := x0) at_126 rfl rfl ?_
  refine o_lloadN B35 127 128 (v := x1) at_127 rfl rfl ?_
  refine o_lcmp B35 128 129 at_128 rfl ?_
  have dm11 : ∀ {P : Outcome → State → Prop}, OG p.tables e below P (T35.setTop (mkF m 137 #[.val (.long x0), .second, .val (.long x1), .second, .val (.long x2), .second, .val (.ref a1), .val (.ref a6), .val (.ref a13), .val (.int (f4 x0 x1)), .val (.int (f4 x1 x0)), .val (.int (f4 x0 x0)), .val (.int (if (f5 x0 x1) = x1 then (1 : Int32) else 0)), .val (.int (if (f5 x0 x1) = x0 then (1 : Int32) else 0)), .val (.int (q0_2 x0 x1 x2)), .unset] [(.int (if x0 = x1 then (1 : Int32) else 0)), (.int (q0_3 x0 x1 x2))])) → OG p.tables e below P (T35.setTop (mkF m 129 #[.val (.long x0), .second, .val (.long x1), .second, .val (.long x2), .second, .val (.ref a1), .val (.ref a6), .val (.ref a13), .val (.int (f4 x0 x1)), .val (.int (f4 x1 x0)), .val (.int (f4 x0 x0)), .val (.int (if (f5 x0 x1) = x1 then (1 : Int32) else 0)), .val (.int (if (f5 x0 x1) = x0 then (1 : Int32) else 0)), .val (.int (q0_2 x0 x1 x2)), .unset] [(.int (XT.cmpL x0 x1)), (.int (q0_3 x0 x1 x2))])) := by
    intro P k
    by_cases k12 : x0 = x1
    · refine o_ifN B35 129 132 at_129 rfl (XT.ll_ne_f k12) ?_
      refine o_iconst B35 132 133 (1 : Int32) at_132 rfl (by decide) ?_
      refine o_goto B35 133 137 at_133 (by decide) (by decide) ?_
      have y0 : (if x0 = x1 then (1 : Int32) else 0) = (1 : Int32) := by simp only [if_pos k12]
      rw [y0] at k
      exact k
    · refine o_ifY B35 129 136 at_129 (XT.ll_ne_t k12) (by decide) (by decide) ?_
      refine o_iconst B35 136 137 (0 : Int32) at_136 rfl (by decide) ?_
      have y0 : (if x0 = x1 then (1 : Int32) else 0) = (0 : Int32) := by simp only [if_neg k12]
      rw [y0] at k
      exact k
  refine dm11 ?_
  have dm13 : ∀ {P : Outcome → State → Prop}, OG p.tables e below P (T35.setTop (mkF m 145 #[.val (.long x0), .second, .val (.long x1), .second, .val (.long x2), .second, .val (.ref a1), .val (.ref a6), .val (.ref a13), .val (.int (f4 x0 x1)), .val (.int (f4 x1 x0)), .val (.int (f4 x0 x0)), .val (.int (if (f5 x0 x1) = x1 then (1 : Int32) else 0)), .val (.int (if (f5 x0 x1) = x0 then (1 : Int32) else 0)), .val (.int (q0_2 x0 x1 x2)), .unset] [(.int (q0_4 x0 x1 x2))])) → OG p.tables e below P (T35.setTop (mkF m 137 #[.val (.long x0), .second, .val (.long x1), .second, .val (.long x2), .second, .val (.ref a1), .val (.ref a6), .val (.ref a13), .val (.int (f4 x0 x1)), .val (.int (f4 x1 x0)), .val (.int (f4 x0 x0)), .val (.int (if (f5 x0 x1) = x1 then (1 : Int32) else 0)), .val (.int (if (f5 x0 x1) = x0 then (1 : Int32) else 0)), .val (.int (q0_2 x0 x1 x2)), .unset] [(.int (if x0 = x1 then (1 : Int32) else 0)), (.int (q0_3 x0 x1 x2))])) := by
    intro P k
    by_cases k14 : (q0_3 x0 x1 x2) = (if x0 = x1 then (1 : Int32) else 0)
    · refine o_icN B35 137 140 at_137 rfl (XT.ii_ne_f k14) ?_
      refine o_iconst B35 140 141 (1 : Int32) at_140 rfl (by decide) ?_
      refine o_goto B35 141 145 at_141 (by decide) (by decide) ?_
      have y0 : (q0_4 x0 x1 x2) = (1 : Int32) := by simp only [q0_4, if_pos k14]
      rw [y0] at k
      exact k
    · refine o_icY B35 137 144 at_137 (XT.ii_ne_t k14) (by decide) (by decide) ?_
      refine o_iconst B35 144 145 (0 : Int32) at_144 rfl (by decide) ?_
      have y0 : (q0_4 x0 x1 x2) = (0 : Int32) := by simp only [q0_4, if_neg k14]
      rw [y0] at k
      exact k
  refine dm13 ?_
  refine o_istore B35 145 147 (l' := #[.val (.long x0), .second, .val (.long x1), .second, .val (.long x2), .second, .val (.ref a1), .val (.ref a6), .val (.ref a13), .val (.int (f4 x0 x1)), .val (.int (f4 x1 x0)), .val (.int (f4 x0 x0)), .val (.int (if (f5 x0 x1) = x1 then (1 : Int32) else 0)), .val (.int (if (f5 x0 x1) = x0 then (1 : Int32) else 0)), .val (.int (q0_2 x0 x1 x2)), .val (.int (q0_4 x0 x1 x2))]) at_145 rfl rfl ?_
  refine o_iload B35 147 149 (v := (f4 x0 x1)) at_147 rfl rfl ?_
  refine o_iload B35 149 151 (v := (if (f5 x0 x1) = x1 then (1 : Int32) else 0)) at_149 rfl rfl ?_
  by_cases k15 : (f4 x0 x1) = (if (f5 x0 x1) = x1 then (1 : Int32) else 0)
  · refine o_icN B35 151 154 at_151 rfl (XT.ii_ne_f k15) ?_
    refine o_iload B35 154 156 (v := (f4 x1 x0)) at_154 rfl rfl ?_
    refine o_iload B35 156 158 (v := (if (f5 x0 x1) = x0 then (1 : Int32) else 0)) at_156 rfl rfl ?_
    by_cases k16 : (f4 x1 x0) = (if (f5 x0 x1) = x0 then (1 : Int32) else 0)
    · refine o_icN B35 158 161 at_158 rfl (XT.ii_ne_f k16) ?_
      refine o_iload B35 161 163 (v := (f4 x0 x0)) at_161 rfl rfl ?_
      by_cases k17 : (f4 x0 x0) = 0
      · refine o_ifY B35 163 180 at_163 (XT.i0_eq_t k17) (by decide) (by decide) ?_
        refine o_iconst B35 180 181 (0 : Int32) at_180 rfl (by decide) ?_
        refine o_retZ (t := .boolean) B35 181 at_181 hret hlk (by simp) (by decide) (by decide) ⟨(congrArg (fun z => some (Value.int z)) ((show nar .boolean (0 : Int32) = (0 : Int32) from rfl).trans (show f0 x0 x1 x2 = (0 : Int32) from (if_pos k15).trans ((if_pos k16).trans ((if_pos k17).trans (rfl)))).symm)), N21⟩
      · refine o_ifN B35 163 166 at_163 rfl (XT.i0_eq_f k17) ?_
        refine o_iload B35 166 168 (v := (q0_2 x0 x1 x2)) at_166 rfl rfl ?_
        by_cases k18 : (q0_2 x0 x1 x2) = 0
        · refine o_ifY B35 168 180 at_168 (XT.i0_eq_t k18) (by decide) (by decide) ?_
          refine o_iconst B35 180 181 (0 : Int32) at_180 rfl (by decide) ?_
          refine o_retZ (t := .boolean) B35 181 at_181 hret hlk (by simp) (by decide) (by decide) ⟨(congrArg (fun z => some (Value.int z)) ((show nar .boolean (0 : Int32) = (0 : Int32) from rfl).trans (show f0 x0 x1 x2 = (0 : Int32) from (if_pos k15).trans ((if_pos k16).trans ((if_neg k17).trans ((if_pos k18).trans (rfl))))).symm)), N21⟩
        · refine o_ifN B35 168 171 at_168 rfl (XT.i0_eq_f k18) ?_
          refine o_iload B35 171 173 (v := (q0_4 x0 x1 x2)) at_171 rfl rfl ?_
          by_cases k19 : (q0_3 x0 x1 x2) = (if x0 = x1 then (1 : Int32) else 0)
          · refine o_ifN B35 173 176 at_173 rfl ((b_eq_f (c := (q0_3 x0 x1 x2) = (if x0 = x1 then (1 : Int32) else 0))) k19) ?_
            refine o_iconst B35 176 177 (1 : Int32) at_176 rfl (by decide) ?_
            refine o_goto B35 177 181 at_177 (by decide) (by decide) ?_
            refine o_retZ (t := .boolean) B35 181 at_181 hret hlk (by simp) (by decide) (by decide) ⟨(congrArg (fun z => some (Value.int z)) ((show nar .boolean (1 : Int32) = (1 : Int32) from rfl).trans (show f0 x0 x1 x2 = (1 : Int32) from (if_pos k15).trans ((if_pos k16).trans ((if_neg k17).trans ((if_neg k18).trans ((if_pos k19).trans (rfl)))))).symm)), N21⟩
          · refine o_ifY B35 173 180 at_173 ((b_eq_t (c := (q0_3 x0 x1 x2) = (if x0 = x1 then (1 : Int32) else 0))) k19) (by decide) (by decide) ?_
            refine o_iconst B35 180 181 (0 : Int32) at_180 rfl (by decide) ?_
            refine o_retZ (t := .boolean) B35 181 at_181 hret hlk (by simp) (by decide) (by decide) ⟨(congrArg (fun z => some (Value.int z)) ((show nar .boolean (0 : Int32) = (0 : Int32) from rfl).trans (show f0 x0 x1 x2 = (0 : Int32) from (if_pos k15).trans ((if_pos k16).trans ((if_neg k17).trans ((if_neg k18).trans ((if_neg k19).trans (rfl)))))).symm)), N21⟩
    · refine o_icY B35 158 180 at_158 (XT.ii_ne_t k16) (by decide) (by decide) ?_
      refine o_iconst B35 180 181 (0 : Int32) at_180 rfl (by decide) ?_
      refine o_retZ (t := .boolean) B35 181 at_181 hret hlk (by simp) (by decide) (by decide) ⟨(congrArg (fun z => some (Value.int z)) ((show nar .boolean (0 : Int32) = (0 : Int32) from rfl).trans (show f0 x0 x1 x2 = (0 : Int32) from (if_pos k15).trans ((if_neg k16).trans (rfl))).symm)), N21⟩
  · refine o_icY B35 151 180 at_151 (XT.ii_ne_t k15) (by decide) (by decide) ?_
    refine o_iconst B35 180 181 (0 : Int32) at_180 rfl (by decide) ?_
    refine o_retZ (t := .boolean) B35 181 at_181 hret hlk (by simp) (by decide) (by decide) ⟨(congrArg (fun z => some (Value.int z)) ((show nar .boolean (0 : Int32) = (0 : Int32) from rfl).trans (show f0 x0 x1 x2 = (0 : Int32) from (if_neg k15).trans (rfl)).symm)), N21⟩
theorem law_true (x0 x1 x2 : Int64) : f0 x0 x1 x2 = 1 := by
  unfold f0 q0_2 q0_3 q0_1 f5 f4
  rcases Int.lt_trichotomy x0.toInt x1.toInt with h | h | h
  · have a1 : x0 < x1 := by rw [Int64.lt_iff_toInt_lt]; exact h
    have a2 : ¬ x1 < x0 := by rw [Int64.lt_iff_toInt_lt]; omega
    have a3 : ¬ x0 = x1 := by rw [← Int64.toInt_inj]; omega
    have a4 : ¬ x1 = x0 := fun q => a3 q.symm
    simp [a1, a2, a3, a4]
  · obtain rfl := Int64.toInt_inj.mp h
    simp
  · have a1 : x1 < x0 := by rw [Int64.lt_iff_toInt_lt]; exact h
    have a2 : ¬ x0 < x1 := by rw [Int64.lt_iff_toInt_lt]; omega
    have a3 : ¬ x0 = x1 := by rw [← Int64.toInt_inj]; omega
    have a4 : ¬ x1 = x0 := fun q => a3 q.symm
    simp [a1, a2, a3, a4]
set_option maxRecDepth 65536 in
set_option maxHeartbeats 40000000 in
theorem comes_1 {Post : Tables → Env → Array Value → State → Outcome → State → Prop} (hpost : ∀ tb e args s v u, (limb_1_1.after args s (.returned v) u = true ∧ limb_1_2.after args s (.returned v) u = true ∧ True) → FrameEnd s (.returned v) u (Jvm.fieldLocs frame_1_writes args s ++ Jvm.arrayLocs frame_1_arrays args s ++ Jvm.staticLocs frame_1_statics s) 16 128 → Post tb e args s (.returned v) u) :
    ArmFor flags0 classFile x code maxLocals ret World_1 tables_1 room_1 Calls_1 rest_1 Pre_1 Post := by
  intro l hfl _ _ p e ha hc hk s m args below hf hA hF happ hP
  obtain ⟨hcalls, hrest, hpre⟩ := hP
  obtain ⟨-, -, -, hnamed, -, -, -, hat⟩ := (Spec.applies_iff hf).mp happ
  obtain ⟨hg, hn⟩ := and_e (Cond.before_iff.mp (show (Jvm.Cond.and given_1 narrow_1).before args s = true from hpre))
  obtain ⟨g0, hg⟩ := and_e hg
  obtain ⟨g1, hg⟩ := and_e hg
  obtain ⟨g2, hg⟩ := and_e hg
  obtain ⟨w0, w1, w2, rfl⟩ : ∃ w0 w1 w2 : Value, args = #[w0, w1, w2] := by
    have hs : args.size = 3 := by simpa [Cond.value, given_1] using g0
    obtain ⟨L⟩ := args
    match L, hs with
    | [w0, w1, w2], _ => exact ⟨w0, w1, w2, rfl⟩
  have hw := fun d (hd : d ∈ tables_1) => atoms_spec (ws := Jvm.Cond.code x code maxLocals ret :: tables_1) hat d (List.mem_cons_of_mem _ hd)
  obtain ⟨i0, e0⟩ := isL_v g1
  obtain rfl : w0 = (.long i0) := Option.some.inj e0
  obtain ⟨i1, e1⟩ := isL_v g2
  obtain rfl : w1 = (.long i1) := Option.some.inj e1
  obtain ⟨i2, e2⟩ := isL_v hg
  obtain rfl : w2 = (.long i2) := Option.some.inj e2
  obtain ⟨n, o, h1, h2, h3, v, L, rfl, ⟨rfl, N⟩, hq⟩ := rm0 l s _ hw tables_1 i0 i1 i2 s.heap s.heap.size (Nat.le_refl _) p e ha hc hk s m _ below hf ((Spec.applies_iff_loose hf).mp happ).1 ⟨rfl, State.Warmed39.refl s, rfl⟩ trivial
  rw [law_true] at h3 hq
  refine ⟨n, _, h1, h2, h3, hpost _ _ _ _ _ _ ⟨Cond.after_iff.mpr rfl, Cond.after_iff.mpr (eq_i res_at (Term.int_eval (1)) rfl), trivial⟩ ⟨hq.1, hq.2.1, (hq.2.2.sift fun y hy => Or.inr (N y hy)).mono (by decide) (by decide)⟩⟩
theorem main_1_1 : Claimed_1_1 := comes_1 fun _ _ _ _ _ _ h hF => ⟨h.1, hF⟩
theorem main_1_2 : Claimed_1_2 := comes_1 fun _ _ _ _ _ _ h hF => ⟨h.2.1, hF⟩
end Jvm.Pilot.@@N@@
namespace Jvm.Pilot.@@N@@
open Jvm Jvm.ClassFile Sem Op Lib Jvm.Free Jvm.Stand Jvm.Pilot.@@N@@.Jvm.D
/-! MADE BY PROGRAM (witnessworld.py) out of the Statement's table words and the real class files: 11 classes; the members and pool entries that the words name. The judged class is class 1, her method 1. -/
namespace start1
open Jvm.ClassFile
def u (s : String) : CpInfo := .utf8 (stringToUtf16 s)
/-- a pool by its gaps: so many unusable entries, then the entry; so many at the end -/
def gap : Nat → List CpInfo → List CpInfo
  | 0, r => r
  | n + 1, r => .unusable :: gap n r
def poolList (es : List (Nat × CpInfo)) (last : Nat) : List CpInfo := es.foldr (fun e r => gap e.1 (e.2 :: r)) (gap last [])
def pool (es : List (Nat × CpInfo)) (last : Nat) : Array CpInfo := ⟨poolList es last⟩
def fileOf (pool : Array CpInfo) (this : Nat) (attrs : Array Attribute := #[]) (ms : Array MethodInfo := #[]) (fl : Nat := 33) (sup : Nat := 0) (ifs : Array Nat := #[]) (fds : Array FieldInfo := #[]) : ClassFile where
  minorVersion := 0
  majorVersion := 65
  constantPool := pool
  accessFlags := fl
  thisClass := this
  superClass := sup
  interfaces := ifs
  fields := fds
  methods := ms
  attributes := attrs
def plain (name : String) (sup : Option ClassId) : Class where
  name := name
  kind := .ordinary
  loader := none
  accessFlags := 33
  super := sup
  interfaces := #[]
  cf := none
  fields := #[]
  methods := #[]
  instanceTypes := #[]
  staticTypes := #[]
  resolved := #[]
  callSites := []
  init := .initialized
  statics := none
  mirror := none

def pool0 : Array CpInfo := pool [(5, u "<init>"), (0, u "()V"), (1, .class_ 10), (1, u "java/lang/Object")] 113

def k0c0 : Code := { maxStack := 0, maxLocals := 1, code := object_method_1_code, exceptionTable := #[], attributes := #[] }
def k0m0 : Method := { name := "<init>", desc := "()V", sig := { parameters := [], returnType := none }, accessFlags := 1, code := some k0c0 }
/-- java/lang/Object -/
def k0 : Class := { plain "java/lang/Object" none with
  accessFlags := 33
  interfaces := #[]
  cf := some (fileOf pool0 8 #[] #[{ accessFlags := 1, nameIndex := 5, descriptorIndex := 6, attributes := #[] }] 33 0 #[] #[])
  fields := #[]
  methods := #[k0m0]
  instanceTypes := #[]
  staticTypes := #[]
  resolved := Array.replicate 124 none
  statics := none }

def pool1 : Array CpInfo := pool [(2, .class_ 4), (1, u "java/lang/Object"), (0, u "<init>"), (0, u "()V"), (0, .class_ 8), (0, u "com/example/overseer/overseer/io/ByteRange"), (0, .methodref 7 10), (0, .nameAndType 5 11), (0, u "(JJJ)V"), (0, .methodref 7 13), (0, .nameAndType 14 15), (0, u "isSatisfiable"), (0, u "()Z"), (0, .methodref 17 18), (0, .class_ 19), (0, .nameAndType 20 21), (0, u "java/lang/Math"), (0, u "max"), (0, u "(JJ)J"), (0, .class_ 23), (0, u "com/example/overseer/overseer/io/ByteRangeIsSatisfiablePinLaw"), (2, u "law"), (0, u "(JJJ)Z")] 3

def k1m0 : Method := { name := "<init>", desc := "()V", sig := { parameters := [], returnType := none }, accessFlags := 2, code := none }
def k1c1 : Code := { maxStack := 8, maxLocals := 16, code := code, exceptionTable := #[], attributes := #[] }
def k1m1 : Method := { name := "law", desc := "(JJJ)Z", sig := { parameters := [.long, .long, .long], returnType := some .boolean }, accessFlags := 9, code := some k1c1 }
/-- com/example/overseer/overseer/io/ByteRangeIsSatisfiablePinLaw -/
def k1 : Class := { plain "com/example/overseer/overseer/io/ByteRangeIsSatisfiablePinLaw" (some 0) with
  accessFlags := 49
  interfaces := #[]
  cf := some (fileOf pool1 22 #[] #[{ accessFlags := 2, nameIndex := 5, descriptorIndex := 6, attributes := #[] }, { accessFlags := 9, nameIndex := 26, descriptorIndex := 27, attributes := #[] }] 49 2 #[] #[])
  fields := #[]
  methods := #[k1m0, k1m1]
  instanceTypes := #[]
  staticTypes := #[]
  resolved := Array.replicate 31 none
  statics := none }

def pool2 : Array CpInfo := pool [(1, .methodref 2 3), (0, .class_ 4), (0, .nameAndType 5 6), (0, u "java/lang/Object"), (0, u "<init>"), (0, u "()V"), (0, .class_ 8), (0, u "java/lang/Record")] 13

def k2c0 : Code := { maxStack := 1, maxLocals := 1, code := jdk_30_method_1_code, exceptionTable := #[], attributes := #[] }
def k2m0 : Method := { name := "<init>", desc := "()V", sig := { parameters := [], returnType := none }, accessFlags := 4, code := some k2c0 }
/-- java/lang/Record -/
def k2 : Class := { plain "java/lang/Record" (some 0) with
  accessFlags := 1057
  interfaces := #[]
  cf := some (fileOf pool2 7 #[] #[{ accessFlags := 4, nameIndex := 5, descriptorIndex := 6, attributes := #[] }] 1057 2 #[] #[])
  fields := #[]
  methods := #[k2m0]
  instanceTypes := #[]
  staticTypes := #[]
  resolved := Array.replicate 22 none
  statics := none }

def pool3 : Array CpInfo := pool [(1, .methodref 2 3), (0, .class_ 4), (0, .nameAndType 5 6), (0, u "java/lang/Record"), (0, u "<init>"), (0, u "()V"), (0, .fieldref 8 9), (0, .class_ 10), (0, .nameAndType 11 12), (0, u "com/example/overseer/overseer/io/ByteRange"), (0, u "first"), (0, u "J"), (0, .fieldref 8 14), (0, .nameAndType 15 12), (0, u "last"), (0, .fieldref 8 17), (0, .nameAndType 18 12), (0, u "length"), (37, u "SPEC"), (0, u "Ljava/util/regex/Pattern;"), (17, u "()Z"), (17, u "(JJJ)V"), (7, u "isSatisfiable")] 68

def k3c0 : Code := { maxStack := 3, maxLocals := 7, code := prog_5_method_1_code, exceptionTable := #[], attributes := #[] }
def k3m0 : Method := { name := "<init>", desc := "(JJJ)V", sig := { parameters := [.long, .long, .long], returnType := none }, accessFlags := 1, code := some k3c0 }
def k3c1 : Code := { maxStack := 4, maxLocals := 1, code := prog_5_method_3_code, exceptionTable := #[], attributes := #[] }
def k3m1 : Method := { name := "isSatisfiable", desc := "()Z", sig := { parameters := [], returnType := some .boolean }, accessFlags := 1, code := some k3c1 }
/-- com/example/overseer/overseer/io/ByteRange -/
def k3 : Class := { plain "com/example/overseer/overseer/io/ByteRange" (some 2) with
  accessFlags := 49
  interfaces := #[]
  cf := some (fileOf pool3 8 #[] #[{ accessFlags := 1, nameIndex := 5, descriptorIndex := 93, attributes := #[] }, { accessFlags := 1, nameIndex := 101, descriptorIndex := 75, attributes := #[] }] 49 2 #[] #[{ accessFlags := 18, nameIndex := 11, descriptorIndex := 12, attributes := #[] }, { accessFlags := 18, nameIndex := 15, descriptorIndex := 12, attributes := #[] }, { accessFlags := 18, nameIndex := 18, descriptorIndex := 12, attributes := #[] }, { accessFlags := 26, nameIndex := 56, descriptorIndex := 57, attributes := #[] }])
  fields := #[{ name := "first", type := .long, accessFlags := 18, slot := 0, constantValue := 0 }, { name := "last", type := .long, accessFlags := 18, slot := 1, constantValue := 0 }, { name := "length", type := .long, accessFlags := 18, slot := 2, constantValue := 0 }, { name := "SPEC", type := (.object "java/util/regex/Pattern"), accessFlags := 26, slot := 0, constantValue := 0 }]
  methods := #[k3m0, k3m1]
  instanceTypes := #[.long, .long, .long]
  staticTypes := #[(.object "java/util/regex/Pattern")]
  resolved := Array.replicate 170 none
  statics := none }

def pool4 : Array CpInfo := pool [(1, .class_ 2), (0, u "java/lang/Math"), (1, .class_ 6), (1, u "java/lang/Object"), (0, u "<init>"), (0, u "()V"), (89, .class_ 100), (1, u "java/lang/Math$RandomNumberGeneratorHolder"), (20, u "(JJ)J"), (50, u "negativeZeroFloatBits"), (0, u "J"), (2, u "negativeZeroDoubleBits"), (21, u "max"), (46, u "$assertionsDisabled"), (0, u "Z"), (91, u "twoToTheDoubleScaleDown"), (0, u "D"), (4, u "twoToTheDoubleScaleUp"), (9, u "E"), (3, u "PI"), (2, u "TAU"), (2, u "DEGREES_TO_RADIANS"), (0, u "RADIANS_TO_DEGREES")] 94

def k4m0 : Method := { name := "<init>", desc := "()V", sig := { parameters := [], returnType := none }, accessFlags := 2, code := none }
def k4c1 : Code := { maxStack := 4, maxLocals := 4, code := jdk_29_method_66_code, exceptionTable := #[], attributes := #[] }
def k4m1 : Method := { name := "max", desc := "(JJ)J", sig := { parameters := [.long, .long], returnType := some .long }, accessFlags := 9, code := some k4c1 }
/-- java/lang/Math -/
def k4 : Class := { plain "java/lang/Math" (some 0) with
  accessFlags := 49
  interfaces := #[]
  cf := some (fileOf pool4 1 #[.nestMembers #[98]] #[{ accessFlags := 2, nameIndex := 7, descriptorIndex := 8, attributes := #[] }, { accessFlags := 9, nameIndex := 198, descriptorIndex := 121, attributes := #[] }] 49 4 #[] #[{ accessFlags := 25, nameIndex := 354, descriptorIndex := 339, attributes := #[] }, { accessFlags := 25, nameIndex := 358, descriptorIndex := 339, attributes := #[] }, { accessFlags := 25, nameIndex := 361, descriptorIndex := 339, attributes := #[] }, { accessFlags := 26, nameIndex := 364, descriptorIndex := 339, attributes := #[] }, { accessFlags := 26, nameIndex := 365, descriptorIndex := 339, attributes := #[] }, { accessFlags := 26, nameIndex := 172, descriptorIndex := 173, attributes := #[] }, { accessFlags := 26, nameIndex := 176, descriptorIndex := 173, attributes := #[] }, { accessFlags := 8, nameIndex := 344, descriptorIndex := 339, attributes := #[] }, { accessFlags := 8, nameIndex := 338, descriptorIndex := 339, attributes := #[] }, { accessFlags := 4120, nameIndex := 245, descriptorIndex := 246, attributes := #[] }])
  fields := #[{ name := "E", type := .double, accessFlags := 25, slot := 0, constantValue := 0 }, { name := "PI", type := .double, accessFlags := 25, slot := 1, constantValue := 0 }, { name := "TAU", type := .double, accessFlags := 25, slot := 2, constantValue := 0 }, { name := "DEGREES_TO_RADIANS", type := .double, accessFlags := 26, slot := 3, constantValue := 0 }, { name := "RADIANS_TO_DEGREES", type := .double, accessFlags := 26, slot := 4, constantValue := 0 }, { name := "negativeZeroFloatBits", type := .long, accessFlags := 26, slot := 5, constantValue := 0 }, { name := "negativeZeroDoubleBits", type := .long, accessFlags := 26, slot := 6, constantValue := 0 }, { name := "twoToTheDoubleScaleUp", type := .double, accessFlags := 8, slot := 7, constantValue := 0 }, { name := "twoToTheDoubleScaleDown", type := .double, accessFlags := 8, slot := 8, constantValue := 0 }, { name := "$assertionsDisabled", type := .boolean, accessFlags := 4120, slot := 9, constantValue := 0 }]
  methods := #[k4m0, k4m1]
  instanceTypes := #[]
  staticTypes := #[.double, .double, .double, .double, .double, .long, .long, .double, .double, .boolean]
  resolved := Array.replicate 460 none
  statics := none }

def pool5 : Array CpInfo := pool [(1, u "java/lang/Cloneable"), (0, .class_ 1), (0, u "java/lang/Object"), (0, .class_ 3)] 3

/-- java/lang/Cloneable -/
def k5 : Class := { plain "java/lang/Cloneable" (some 0) with
  accessFlags := 1537
  interfaces := #[]
  cf := some (fileOf pool5 2 #[] #[] 1537 4 #[] #[])
  fields := #[]
  methods := #[]
  instanceTypes := #[]
  staticTypes := #[]
  resolved := Array.replicate 8 none
  statics := none }

def pool6 : Array CpInfo := pool [(1, u "java/io/Serializable"), (0, .class_ 1), (0, u "java/lang/Object"), (0, .class_ 3)] 3

/-- java/io/Serializable -/
def k6 : Class := { plain "java/io/Serializable" (some 0) with
  accessFlags := 1537
  interfaces := #[]
  cf := some (fileOf pool6 2 #[] #[] 1537 4 #[] #[])
  fields := #[]
  methods := #[]
  instanceTypes := #[]
  staticTypes := #[]
  resolved := Array.replicate 8 none
  statics := none }

/-- the primitive byte -/
def k7 : Class := { plain "byte" none with kind := .primitive 'B', accessFlags := 0x411 }
/-- [B -/
def k8 : Class := { plain "[B" (some 0) with kind := .array 7 .byte, interfaces := #[5, 6], accessFlags := 1041 }

/-- the primitive int -/
def k9 : Class := { plain "int" none with kind := .primitive 'I', accessFlags := 0x411 }
/-- [I -/
def k10 : Class := { plain "[I" (some 0) with kind := .array 9 .int, interfaces := #[5, 6], accessFlags := 1041 }

def heap : Heap := #[]
def classes : Array Class := #[k0, k1, k2, k3, k4, k5, k6, k7, k8, k9, k10]
def interned : List (Array UInt16 × Addr) := []
def slotsUsed : Nat := 0
def theMethod : MethodId := ⟨1, 1⟩
def args0 : Array Value := #[.long 5, .long 3, .long 4]
def aboutOver (below : List Frame) : State where
  vm := { classes := classes, interned := interned.toArray }
  heap := heap
  slotsUsed := slotsUsed
  threads := #[{ frames := .invoking theMethod args0 :: below }]
def below0 : List Frame := [.native { method := ⟨0, 0⟩, args := #[] }]
def about1 : State := aboutOver below0
def p0 : Program := .bare "" "" ""
def e0 : Env := launch0.env 0 0 0
theorem w_frames : about1.frames = Frame.invoking theMethod args0 :: below0 := rfl
set_option maxRecDepth 65536 in
theorem w_args : argsFit about1.vm theMethod args0 = true := by decide +kernel
set_option maxRecDepth 65536 in
theorem w_heap : heapFits about1 = true := by decide +kernel
set_option maxRecDepth 65536 in
theorem w_runnable : about1.curStatus? = some .runnable := by decide +kernel
set_option maxRecDepth 65536 in
theorem w_alone : about1.alone = true := by decide +kernel
set_option maxRecDepth 65536 in
theorem w_named : about1.methodNamed? x = some theMethod := by decide +kernel
set_option maxRecDepth 65536 in
theorem w_hears : about1.hears theMethod below0 = true := by decide +kernel
set_option maxRecDepth 65536 in
theorem w_ripe : about1.ripe theMethod args0 below0 = true := by decide +kernel
theorem w_running : about1.status = .running := rfl
set_option maxRecDepth 65536 in
theorem w_room : about1.hasRoom e0.platform room_1 = true :=
  launch0.hasRoom_least _ room_1 (by decide +kernel) (by decide +kernel) (by decide +kernel) (by decide +kernel) (by decide +kernel) (by decide +kernel)
theorem allAtoms_all (ts : List Jvm.Cond) (a : Array Jvm.Value) (st : Jvm.State) : (allAtoms ts).before a st = ts.all (fun c => c.before a st) := by
  induction ts with
  | nil => rfl
  | cons c t ih =>
    show (Jvm.Cond.and c (allAtoms t)).before a st = _
    rw [Jvm.Cond.before_and, ih, List.all_cons]
def words1 : List Jvm.Cond := Jvm.Cond.code x code maxLocals ret :: tables_1
/-- a 'code' word, met by the world's own term for the bytes: nothing is compared byte by byte -/
theorem code_word {y : MethodName} {bytes : ByteArray} {mx : Nat} {rt : Option FieldType} {a : Array Value} {s : State} {m : MethodId} {meth : Method} {c : Code} (h1 : s.methodNamed? y = some m) (h2 : s.vm.method? m = some meth) (h3 : meth.code = some c) (h4 : c.code = bytes)
    (h5 : (c.maxLocals == mx && c.exceptionTable.isEmpty && decide (c.maxStack ≤ mostOperands) && decide (meth.sig.returnType = rt) && !meth.locks && decide (parseMethodDescriptor y.desc = some meth.sig)) = true) : (Jvm.Cond.code y bytes mx rt).before a s = true := by
  simp only [Bool.and_eq_true, beq_iff_eq, Bool.not_eq_true', decide_eq_true_eq] at h5
  obtain ⟨⟨⟨⟨⟨g1, g2⟩, g3⟩, g4⟩, g5⟩, g6⟩ := h5
  simp [Cond.before, Cond.holds, Cond.value, h1, h2, h3, h4, g1, g2, g3, g4, g5, g6]
def isCode : Jvm.Cond → Bool
  | .code _ _ _ _ => true
  | _ => false
theorem all_split {L : List Jvm.Cond} {P : Jvm.Cond → Bool} (h1 : L.all (fun c => isCode c || P c) = true) (h2 : ∀ c ∈ L.filter isCode, P c = true) : L.all P = true := by
  refine List.all_eq_true.mpr fun c hc => ?_
  have h := List.all_eq_true.mp h1 c hc
  rcases Bool.eq_false_or_eq_true (isCode c) with hi | hi
  · exact h2 c (List.mem_filter.mpr ⟨hc, hi⟩)
  · simpa [hi] using h
set_option maxRecDepth 65536 in
theorem w_c0 : (Jvm.Cond.code x code maxLocals ret).before args0 about1 = true := code_word (m := ⟨1, 1⟩) (meth := k1m1) (c := k1c1) (by decide +kernel) rfl rfl rfl (by decide +kernel)
set_option maxRecDepth 65536 in
theorem w_c1 : (Jvm.Cond.code ({ cls := "com/example/overseer/overseer/io/ByteRange", name := "<init>", desc := "(JJJ)V" } : Jvm.MethodName) prog_5_method_1_code (7 : Nat) (Option.none : Option Jvm.ClassFile.FieldType)).before args0 about1 = true := code_word (m := ⟨3, 0⟩) (meth := k3m0) (c := k3c0) (by decide +kernel) rfl rfl rfl (by decide +kernel)
set_option maxRecDepth 65536 in
theorem w_c2 : (Jvm.Cond.code ({ cls := "java/lang/Record", name := "<init>", desc := "()V" } : Jvm.MethodName) jdk_30_method_1_code (1 : Nat) (Option.none : Option Jvm.ClassFile.FieldType)).before args0 about1 = true := code_word (m := ⟨2, 0⟩) (meth := k2m0) (c := k2c0) (by decide +kernel) rfl rfl rfl (by decide +kernel)
set_option maxRecDepth 65536 in
theorem w_c3 : (Jvm.Cond.code ({ cls := "java/lang/Object", name := "<init>", desc := "()V" } : Jvm.MethodName) object_method_1_code (1 : Nat) (Option.none : Option Jvm.ClassFile.FieldType)).before args0 about1 = true := code_word (m := ⟨0, 0⟩) (meth := k0m0) (c := k0c0) (by decide +kernel) rfl rfl rfl (by decide +kernel)
set_option maxRecDepth 65536 in
theorem w_c4 : (Jvm.Cond.code ({ cls := "com/example/overseer/overseer/io/ByteRange", name := "isSatisfiable", desc := "()Z" } : Jvm.MethodName) prog_5_method_3_code (1 : Nat) (Option.some Jvm.ClassFile.FieldType.boolean)).before args0 about1 = true := code_word (m := ⟨3, 1⟩) (meth := k3m1) (c := k3c1) (by decide +kernel) rfl rfl rfl (by decide +kernel)
set_option maxRecDepth 65536 in
theorem w_c5 : (Jvm.Cond.code ({ cls := "java/lang/Math", name := "max", desc := "(JJ)J" } : Jvm.MethodName) jdk_29_method_66_code (4 : Nat) (Option.some Jvm.ClassFile.FieldType.long)).before args0 about1 = true := code_word (m := ⟨4, 1⟩) (meth := k4m1) (c := k4c1) (by decide +kernel) rfl rfl rfl (by decide +kernel)
def codes1 : List Jvm.Cond := [Jvm.Cond.code x code maxLocals ret, Jvm.Cond.code ({ cls := "com/example/overseer/overseer/io/ByteRange", name := "<init>", desc := "(JJJ)V" } : Jvm.MethodName) prog_5_method_1_code (7 : Nat) (Option.none : Option Jvm.ClassFile.FieldType), Jvm.Cond.code ({ cls := "java/lang/Record", name := "<init>", desc := "()V" } : Jvm.MethodName) jdk_30_method_1_code (1 : Nat) (Option.none : Option Jvm.ClassFile.FieldType), Jvm.Cond.code ({ cls := "java/lang/Object", name := "<init>", desc := "()V" } : Jvm.MethodName) object_method_1_code (1 : Nat) (Option.none : Option Jvm.ClassFile.FieldType), Jvm.Cond.code ({ cls := "com/example/overseer/overseer/io/ByteRange", name := "isSatisfiable", desc := "()Z" } : Jvm.MethodName) prog_5_method_3_code (1 : Nat) (Option.some Jvm.ClassFile.FieldType.boolean), Jvm.Cond.code ({ cls := "java/lang/Math", name := "max", desc := "(JJ)J" } : Jvm.MethodName) jdk_29_method_66_code (4 : Nat) (Option.some Jvm.ClassFile.FieldType.long)]
set_option maxRecDepth 65536 in
theorem codes_eq : words1.filter isCode = codes1 := rfl
theorem w_codes : ∀ c ∈ words1.filter isCode, c.before args0 about1 = true := by
  rw [codes_eq]
  intro c hc
  simp only [codes1, List.mem_cons, List.not_mem_nil, or_false] at hc
  rcases hc with rfl | rfl | rfl | rfl | rfl | rfl
  · exact w_c0
  · exact w_c1
  · exact w_c2
  · exact w_c3
  · exact w_c4
  · exact w_c5
set_option maxRecDepth 65536 in
theorem w_t1 : (words1.take 24).all (fun c => isCode c || c.before args0 about1) = true := by decide +kernel
set_option maxRecDepth 65536 in
theorem w_t2 : (words1.drop 24).all (fun c => isCode c || c.before args0 about1) = true := by decide +kernel
theorem w_tables : (allAtoms (Jvm.Cond.code x code maxLocals ret :: tables_1)).before args0 about1 = true := by
  rw [allAtoms_all]
  show words1.all (fun c => c.before args0 about1) = true
  refine all_split ?_ w_codes
  rw [← List.take_append_drop 24 words1, List.all_append, w_t1, w_t2]
  rfl
set_option maxRecDepth 65536 in
theorem w_case : (Jvm.Cond.and given_1 narrow_1).before args0 about1 = true := by decide +kernel
theorem w_applies : (headSpec (Jvm.Cond.code x code maxLocals ret :: tables_1) room_1).applies x e0.platform about1 = true :=
  (Spec.applies_iff w_frames).mpr ⟨w_running, w_runnable, w_alone, w_named, w_hears, w_ripe, w_room, w_tables⟩
theorem atStart : AtStart classFile x code maxLocals ret World_1 tables_1 room_1 Calls_1 rest_1 Pre_1 launch0 p0 e0 about1 theMethod args0 below0 :=
  ⟨lists_1, trivial, launch0.admits_env _ _ _, launch0.least_env, fairChoices_fair.cas, fairChoices_fair.clock, w_frames, w_args, w_heap, w_applies, trivial, trivial, w_case⟩
end start1
theorem witness_1 : WitnessClaimed_1 := ⟨start1.p0, start1.e0, start1.about1, start1.theMethod, start1.args0, start1.below0, start1.atStart⟩
end Jvm.Pilot.@@N@@
