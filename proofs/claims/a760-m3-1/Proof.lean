import JvmDerived
import JvmDerived.Pilot.@@N@@Statement
import JvmDerived.Pilot.@@N@@Code
set_option linter.unusedVariables false
set_option linter.unusedSimpArgs false
namespace Jvm.Pilot.@@N@@
open Jvm Jvm.ClassFile Sem Op Lib Jvm.Free Jvm.Stand Jvm.LawKit Jvm.RoadKit Bundle Jvm.Pilot.@@N@@.Jvm.D
/-! 1. the walk's own words -/
def OG (tb : Tables) (e : Env) (below : List Frame) (P : Outcome → State → Prop) (A : State) : Prop :=
  ∃ s₂ o, Steps tb e below A s₂ ∧ s₂.status = .running ∧ Ended s₂ below o ∧ P o s₂
theorem OG.of {tb : Tables} {e : Env} {below : List Frame} {P : Outcome → State → Prop} {A B : State} (h : OG tb e below P B) (k : ∀ t, Steps tb e below B t → Steps tb e below A t) : OG tb e below P A := by
  obtain ⟨t, o, st, r⟩ := h
  exact ⟨t, o, k t st, r⟩
def Bx (own : String) (bs : ByteArray) (ml : Nat) (Z : State) (p : Program) (l : Launch) (e : Env) (R : Room) (s : State) (m : MethodId) (args : Array Value) (below : List Frame) (meth : Method) (c : Code) (T : State) (h : Heap) (locs : List Loc) (cells slots : Nat) : Prop :=
  Stand p l e R s m args below meth c T locs cells slots ∧ p.tables.exec = Jvm.exec ∧ c.code = bs ∧ c.maxLocals = ml ∧ s.vm.findClass own = some m.cls ∧ Z.Warmed39 s.vm ∧ T.heap = h
section Walk
variable {own : String} {bs : ByteArray} {ml : Nat} {Z : State} {p : Program} {l : Launch} {e : Env} {R : Room} {s : State} {m : MethodId} {args : Array Value} {below : List Frame} {meth : Method} {c : Code} {T : State} {h : Heap} {locs : List Loc} {cells slots : Nat} {P : Outcome → State → Prop} {Ls : Array Slot} {rest : List Value} {a0 : Array Value}
theorem o_iadd (B : Bx own bs ml Z p l e R s m args below meth c T h locs cells slots) (pc pc' : Nat) {x y : Int32} (hd : decode bs pc = .ok (.iadd, 1)) (hp : pc + 1 = pc') 
    (hr : OG p.tables e below P (T.setTop (mkF m pc' Ls (.int (x + y) :: rest)))) : OG p.tables e below P (T.setTop (mkF m pc Ls (.int y :: .int x :: rest))) := by
  subst hp
  obtain ⟨X, hx, hby, hml, hown, hZ, eT⟩ := B
  exact hr.of fun t k => XS.iadd X.here hx rfl (hb hby hd) rfl k
theorem o_isub (B : Bx own bs ml Z p l e R s m args below meth c T h locs cells slots) (pc pc' : Nat) {x y : Int32} (hd : decode bs pc = .ok (.isub, 1)) (hp : pc + 1 = pc') 
    (hr : OG p.tables e below P (T.setTop (mkF m pc' Ls (.int (x - y) :: rest)))) : OG p.tables e below P (T.setTop (mkF m pc Ls (.int y :: .int x :: rest))) := by
  subst hp
  obtain ⟨X, hx, hby, hml, hown, hZ, eT⟩ := B
  exact hr.of fun t k => XS.isub X.here hx rfl (hb hby hd) rfl k
theorem o_imul (B : Bx own bs ml Z p l e R s m args below meth c T h locs cells slots) (pc pc' : Nat) {x y : Int32} (hd : decode bs pc = .ok (.imul, 1)) (hp : pc + 1 = pc') 
    (hr : OG p.tables e below P (T.setTop (mkF m pc' Ls (.int (x * y) :: rest)))) : OG p.tables e below P (T.setTop (mkF m pc Ls (.int y :: .int x :: rest))) := by
  subst hp
  obtain ⟨X, hx, hby, hml, hown, hZ, eT⟩ := B
  exact hr.of fun t k => XS.imul X.here hx rfl (hb hby hd) rfl k
theorem o_iand (B : Bx own bs ml Z p l e R s m args below meth c T h locs cells slots) (pc pc' : Nat) {x y : Int32} (hd : decode bs pc = .ok (.iand, 1)) (hp : pc + 1 = pc') 
    (hr : OG p.tables e below P (T.setTop (mkF m pc' Ls (.int (x &&& y) :: rest)))) : OG p.tables e below P (T.setTop (mkF m pc Ls (.int y :: .int x :: rest))) := by
  subst hp
  obtain ⟨X, hx, hby, hml, hown, hZ, eT⟩ := B
  exact hr.of fun t k => XS.iand X.here hx rfl (hb hby hd) rfl k
theorem o_ior (B : Bx own bs ml Z p l e R s m args below meth c T h locs cells slots) (pc pc' : Nat) {x y : Int32} (hd : decode bs pc = .ok (.ior, 1)) (hp : pc + 1 = pc') 
    (hr : OG p.tables e below P (T.setTop (mkF m pc' Ls (.int (x ||| y) :: rest)))) : OG p.tables e below P (T.setTop (mkF m pc Ls (.int y :: .int x :: rest))) := by
  subst hp
  obtain ⟨X, hx, hby, hml, hown, hZ, eT⟩ := B
  exact hr.of fun t k => XT.ior X.here hx rfl (hb hby hd) rfl k
theorem o_ixor (B : Bx own bs ml Z p l e R s m args below meth c T h locs cells slots) (pc pc' : Nat) {x y : Int32} (hd : decode bs pc = .ok (.ixor, 1)) (hp : pc + 1 = pc') 
    (hr : OG p.tables e below P (T.setTop (mkF m pc' Ls (.int (x ^^^ y) :: rest)))) : OG p.tables e below P (T.setTop (mkF m pc Ls (.int y :: .int x :: rest))) := by
  subst hp
  obtain ⟨X, hx, hby, hml, hown, hZ, eT⟩ := B
  exact hr.of fun t k => XT.ixor X.here hx rfl (hb hby hd) rfl k
theorem o_ishl (B : Bx own bs ml Z p l e R s m args below meth c T h locs cells slots) (pc pc' : Nat) {x y : Int32} (hd : decode bs pc = .ok (.ishl, 1)) (hp : pc + 1 = pc') 
    (hr : OG p.tables e below P (T.setTop (mkF m pc' Ls (.int (x <<< (y &&& 31)) :: rest)))) : OG p.tables e below P (T.setTop (mkF m pc Ls (.int y :: .int x :: rest))) := by
  subst hp
  obtain ⟨X, hx, hby, hml, hown, hZ, eT⟩ := B
  exact hr.of fun t k => XT.ishl X.here hx rfl (hb hby hd) rfl k
theorem o_ishr (B : Bx own bs ml Z p l e R s m args below meth c T h locs cells slots) (pc pc' : Nat) {x y : Int32} (hd : decode bs pc = .ok (.ishr, 1)) (hp : pc + 1 = pc') 
    (hr : OG p.tables e below P (T.setTop (mkF m pc' Ls (.int (x >>> (y &&& 31)) :: rest)))) : OG p.tables e below P (T.setTop (mkF m pc Ls (.int y :: .int x :: rest))) := by
  subst hp
  obtain ⟨X, hx, hby, hml, hown, hZ, eT⟩ := B
  exact hr.of fun t k => XT.ishr X.here hx rfl (hb hby hd) rfl k
theorem o_iushr (B : Bx own bs ml Z p l e R s m args below meth c T h locs cells slots) (pc pc' : Nat) {x y : Int32} (hd : decode bs pc = .ok (.iushr, 1)) (hp : pc + 1 = pc') 
    (hr : OG p.tables e below P (T.setTop (mkF m pc' Ls (.int (XT.ushr x y) :: rest)))) : OG p.tables e below P (T.setTop (mkF m pc Ls (.int y :: .int x :: rest))) := by
  subst hp
  obtain ⟨X, hx, hby, hml, hown, hZ, eT⟩ := B
  exact hr.of fun t k => XT.iushr X.here hx rfl (hb hby hd) rfl k
theorem o_idiv (B : Bx own bs ml Z p l e R s m args below meth c T h locs cells slots) (pc pc' : Nat) {x y : Int32} (hd : decode bs pc = .ok (.idiv, 1)) (hp : pc + 1 = pc') (hy : y ≠ 0)
    (hr : OG p.tables e below P (T.setTop (mkF m pc' Ls (.int (x / y) :: rest)))) : OG p.tables e below P (T.setTop (mkF m pc Ls (.int y :: .int x :: rest))) := by
  subst hp
  obtain ⟨X, hx, hby, hml, hown, hZ, eT⟩ := B
  exact hr.of fun t k => XS.idiv X.here hx rfl (hb hby hd) rfl hy k
theorem o_irem (B : Bx own bs ml Z p l e R s m args below meth c T h locs cells slots) (pc pc' : Nat) {x y : Int32} (hd : decode bs pc = .ok (.irem, 1)) (hp : pc + 1 = pc') (hy : y ≠ 0)
    (hr : OG p.tables e below P (T.setTop (mkF m pc' Ls (.int (x % y) :: rest)))) : OG p.tables e below P (T.setTop (mkF m pc Ls (.int y :: .int x :: rest))) := by
  subst hp
  obtain ⟨X, hx, hby, hml, hown, hZ, eT⟩ := B
  exact hr.of fun t k => XS.irem X.here hx rfl (hb hby hd) rfl hy (by rw [irem_eq_mod]; exact k)
theorem o_ladd (B : Bx own bs ml Z p l e R s m args below meth c T h locs cells slots) (pc pc' : Nat) {x y : Int64} (hd : decode bs pc = .ok (.ladd, 1)) (hp : pc + 1 = pc') 
    (hr : OG p.tables e below P (T.setTop (mkF m pc' Ls (.long (x + y) :: rest)))) : OG p.tables e below P (T.setTop (mkF m pc Ls (.long y :: .long x :: rest))) := by
  subst hp
  obtain ⟨X, hx, hby, hml, hown, hZ, eT⟩ := B
  exact hr.of fun t k => XT.ladd X.here hx rfl (hb hby hd) rfl k
theorem o_lsub (B : Bx own bs ml Z p l e R s m args below meth c T h locs cells slots) (pc pc' : Nat) {x y : Int64} (hd : decode bs pc = .ok (.lsub, 1)) (hp : pc + 1 = pc') 
    (hr : OG p.tables e below P (T.setTop (mkF m pc' Ls (.long (x - y) :: rest)))) : OG p.tables e below P (T.setTop (mkF m pc Ls (.long y :: .long x :: rest))) := by
  subst hp
  obtain ⟨X, hx, hby, hml, hown, hZ, eT⟩ := B
  exact hr.of fun t k => XT.lsub X.here hx rfl (hb hby hd) rfl k
theorem o_lmul (B : Bx own bs ml Z p l e R s m args below meth c T h locs cells slots) (pc pc' : Nat) {x y : Int64} (hd : decode bs pc = .ok (.lmul, 1)) (hp : pc + 1 = pc') 
    (hr : OG p.tables e below P (T.setTop (mkF m pc' Ls (.long (x * y) :: rest)))) : OG p.tables e below P (T.setTop (mkF m pc Ls (.long y :: .long x :: rest))) := by
  subst hp
  obtain ⟨X, hx, hby, hml, hown, hZ, eT⟩ := B
  exact hr.of fun t k => XT.lmul X.here hx rfl (hb hby hd) rfl k
theorem o_land (B : Bx own bs ml Z p l e R s m args below meth c T h locs cells slots) (pc pc' : Nat) {x y : Int64} (hd : decode bs pc = .ok (.land, 1)) (hp : pc + 1 = pc') 
    (hr : OG p.tables e below P (T.setTop (mkF m pc' Ls (.long (x &&& y) :: rest)))) : OG p.tables e below P (T.setTop (mkF m pc Ls (.long y :: .long x :: rest))) := by
  subst hp
  obtain ⟨X, hx, hby, hml, hown, hZ, eT⟩ := B
  exact hr.of fun t k => XT.land X.here hx rfl (hb hby hd) rfl k
theorem o_lor (B : Bx own bs ml Z p l e R s m args below meth c T h locs cells slots) (pc pc' : Nat) {x y : Int64} (hd : decode bs pc = .ok (.lor, 1)) (hp : pc + 1 = pc') 
    (hr : OG p.tables e below P (T.setTop (mkF m pc' Ls (.long (x ||| y) :: rest)))) : OG p.tables e below P (T.setTop (mkF m pc Ls (.long y :: .long x :: rest))) := by
  subst hp
  obtain ⟨X, hx, hby, hml, hown, hZ, eT⟩ := B
  exact hr.of fun t k => XT.lor X.here hx rfl (hb hby hd) rfl k
theorem o_lxor (B : Bx own bs ml Z p l e R s m args below meth c T h locs cells slots) (pc pc' : Nat) {x y : Int64} (hd : decode bs pc = .ok (.lxor, 1)) (hp : pc + 1 = pc') 
    (hr : OG p.tables e below P (T.setTop (mkF m pc' Ls (.long (x ^^^ y) :: rest)))) : OG p.tables e below P (T.setTop (mkF m pc Ls (.long y :: .long x :: rest))) := by
  subst hp
  obtain ⟨X, hx, hby, hml, hown, hZ, eT⟩ := B
  exact hr.of fun t k => XT.lxor X.here hx rfl (hb hby hd) rfl k
theorem o_ldiv (B : Bx own bs ml Z p l e R s m args below meth c T h locs cells slots) (pc pc' : Nat) {x y : Int64} (hd : decode bs pc = .ok (.ldiv, 1)) (hp : pc + 1 = pc') (hy : y ≠ 0)
    (hr : OG p.tables e below P (T.setTop (mkF m pc' Ls (.long (x / y) :: rest)))) : OG p.tables e below P (T.setTop (mkF m pc Ls (.long y :: .long x :: rest))) := by
  subst hp
  obtain ⟨X, hx, hby, hml, hown, hZ, eT⟩ := B
  exact hr.of fun t k => XT.ldiv X.here hx rfl (hb hby hd) rfl hy k
theorem o_lrem (B : Bx own bs ml Z p l e R s m args below meth c T h locs cells slots) (pc pc' : Nat) {x y : Int64} (hd : decode bs pc = .ok (.lrem, 1)) (hp : pc + 1 = pc') (hy : y ≠ 0)
    (hr : OG p.tables e below P (T.setTop (mkF m pc' Ls (.long (x % y) :: rest)))) : OG p.tables e below P (T.setTop (mkF m pc Ls (.long y :: .long x :: rest))) := by
  subst hp
  obtain ⟨X, hx, hby, hml, hown, hZ, eT⟩ := B
  exact hr.of fun t k => XT.lrem X.here hx rfl (hb hby hd) rfl hy (by rw [lrem_mod]; exact k)
theorem o_lshl (B : Bx own bs ml Z p l e R s m args below meth c T h locs cells slots) (pc pc' : Nat) {x : Int64} {y : Int32} (hd : decode bs pc = .ok (.lshl, 1)) (hp : pc + 1 = pc') 
    (hr : OG p.tables e below P (T.setTop (mkF m pc' Ls (.long (x <<< (y.toInt64 &&& 63)) :: rest)))) : OG p.tables e below P (T.setTop (mkF m pc Ls (.int y :: .long x :: rest))) := by
  subst hp
  obtain ⟨X, hx, hby, hml, hown, hZ, eT⟩ := B
  exact hr.of fun t k => XT.lshl X.here hx rfl (hb hby hd) rfl k
theorem o_lshr (B : Bx own bs ml Z p l e R s m args below meth c T h locs cells slots) (pc pc' : Nat) {x : Int64} {y : Int32} (hd : decode bs pc = .ok (.lshr, 1)) (hp : pc + 1 = pc') 
    (hr : OG p.tables e below P (T.setTop (mkF m pc' Ls (.long (x >>> (y.toInt64 &&& 63)) :: rest)))) : OG p.tables e below P (T.setTop (mkF m pc Ls (.int y :: .long x :: rest))) := by
  subst hp
  obtain ⟨X, hx, hby, hml, hown, hZ, eT⟩ := B
  exact hr.of fun t k => XT.lshr X.here hx rfl (hb hby hd) rfl k
theorem o_lushr (B : Bx own bs ml Z p l e R s m args below meth c T h locs cells slots) (pc pc' : Nat) {x : Int64} {y : Int32} (hd : decode bs pc = .ok (.lushr, 1)) (hp : pc + 1 = pc') 
    (hr : OG p.tables e below P (T.setTop (mkF m pc' Ls (.long (XT.ushrL x y) :: rest)))) : OG p.tables e below P (T.setTop (mkF m pc Ls (.int y :: .long x :: rest))) := by
  subst hp
  obtain ⟨X, hx, hby, hml, hown, hZ, eT⟩ := B
  exact hr.of fun t k => XT.lushr X.here hx rfl (hb hby hd) rfl k
theorem o_lcmp (B : Bx own bs ml Z p l e R s m args below meth c T h locs cells slots) (pc pc' : Nat) {x y : Int64} (hd : decode bs pc = .ok (.lcmp, 1)) (hp : pc + 1 = pc') 
    (hr : OG p.tables e below P (T.setTop (mkF m pc' Ls (.int (XT.cmpL x y) :: rest)))) : OG p.tables e below P (T.setTop (mkF m pc Ls (.long y :: .long x :: rest))) := by
  subst hp
  obtain ⟨X, hx, hby, hml, hown, hZ, eT⟩ := B
  exact hr.of fun t k => XT.lcmp X.here hx rfl (hb hby hd) rfl k
theorem o_ineg (B : Bx own bs ml Z p l e R s m args below meth c T h locs cells slots) (pc pc' : Nat) {x : Int32} (hd : decode bs pc = .ok (.ineg, 1)) (hp : pc + 1 = pc') 
    (hr : OG p.tables e below P (T.setTop (mkF m pc' Ls (.int (-x) :: rest)))) : OG p.tables e below P (T.setTop (mkF m pc Ls (.int x :: rest))) := by
  subst hp
  obtain ⟨X, hx, hby, hml, hown, hZ, eT⟩ := B
  exact hr.of fun t k => XS.ineg X.here hx rfl (hb hby hd) rfl k
theorem o_lneg (B : Bx own bs ml Z p l e R s m args below meth c T h locs cells slots) (pc pc' : Nat) {x : Int64} (hd : decode bs pc = .ok (.lneg, 1)) (hp : pc + 1 = pc') 
    (hr : OG p.tables e below P (T.setTop (mkF m pc' Ls (.long (-x) :: rest)))) : OG p.tables e below P (T.setTop (mkF m pc Ls (.long x :: rest))) := by
  subst hp
  obtain ⟨X, hx, hby, hml, hown, hZ, eT⟩ := B
  exact hr.of fun t k => XT.lneg X.here hx rfl (hb hby hd) rfl k
theorem o_i2l (B : Bx own bs ml Z p l e R s m args below meth c T h locs cells slots) (pc pc' : Nat) {x : Int32} (hd : decode bs pc = .ok (.i2l, 1)) (hp : pc + 1 = pc') 
    (hr : OG p.tables e below P (T.setTop (mkF m pc' Ls (.long (x.toInt64) :: rest)))) : OG p.tables e below P (T.setTop (mkF m pc Ls (.int x :: rest))) := by
  subst hp
  obtain ⟨X, hx, hby, hml, hown, hZ, eT⟩ := B
  exact hr.of fun t k => XT.i2l X.here hx rfl (hb hby hd) rfl k
theorem o_l2i (B : Bx own bs ml Z p l e R s m args below meth c T h locs cells slots) (pc pc' : Nat) {x : Int64} (hd : decode bs pc = .ok (.l2i, 1)) (hp : pc + 1 = pc') 
    (hr : OG p.tables e below P (T.setTop (mkF m pc' Ls (.int (x.toInt32) :: rest)))) : OG p.tables e below P (T.setTop (mkF m pc Ls (.long x :: rest))) := by
  subst hp
  obtain ⟨X, hx, hby, hml, hown, hZ, eT⟩ := B
  exact hr.of fun t k => XT.l2i X.here hx rfl (hb hby hd) rfl k
theorem o_i2b (B : Bx own bs ml Z p l e R s m args below meth c T h locs cells slots) (pc pc' : Nat) {x : Int32} (hd : decode bs pc = .ok (.i2b, 1)) (hp : pc + 1 = pc') 
    (hr : OG p.tables e below P (T.setTop (mkF m pc' Ls (.int (x.toInt8.toInt32) :: rest)))) : OG p.tables e below P (T.setTop (mkF m pc Ls (.int x :: rest))) := by
  subst hp
  obtain ⟨X, hx, hby, hml, hown, hZ, eT⟩ := B
  exact hr.of fun t k => XT.i2b X.here hx rfl (hb hby hd) rfl k
theorem o_i2c (B : Bx own bs ml Z p l e R s m args below meth c T h locs cells slots) (pc pc' : Nat) {x : Int32} (hd : decode bs pc = .ok (.i2c, 1)) (hp : pc + 1 = pc') 
    (hr : OG p.tables e below P (T.setTop (mkF m pc' Ls (.int (x.toUInt32.toUInt16.toUInt32.toInt32) :: rest)))) : OG p.tables e below P (T.setTop (mkF m pc Ls (.int x :: rest))) := by
  subst hp
  obtain ⟨X, hx, hby, hml, hown, hZ, eT⟩ := B
  exact hr.of fun t k => XT.i2c X.here hx rfl (hb hby hd) rfl k
theorem o_i2s (B : Bx own bs ml Z p l e R s m args below meth c T h locs cells slots) (pc pc' : Nat) {x : Int32} (hd : decode bs pc = .ok (.i2s, 1)) (hp : pc + 1 = pc') 
    (hr : OG p.tables e below P (T.setTop (mkF m pc' Ls (.int (x.toInt16.toInt32) :: rest)))) : OG p.tables e below P (T.setTop (mkF m pc Ls (.int x :: rest))) := by
  subst hp
  obtain ⟨X, hx, hby, hml, hown, hZ, eT⟩ := B
  exact hr.of fun t k => XT.i2s X.here hx rfl (hb hby hd) rfl k
theorem o_iconst (B : Bx own bs ml Z p l e R s m args below meth c T h locs cells slots) (pc pc' : Nat) {i : Int} (v : Int32) (hd : decode bs pc = .ok (.iconst i, 1)) (hp : pc + 1 = pc') (hv : Int32.ofInt i = v)
    (hr : OG p.tables e below P (T.setTop (mkF m pc' Ls (.int v :: rest)))) : OG p.tables e below P (T.setTop (mkF m pc Ls rest)) := by
  subst hp
  obtain ⟨X, hx, hby, hml, hown, hZ, eT⟩ := B
  exact hr.of fun t k => XT.iconstV X.here hx rfl v (hb hby hd) hv k
theorem o_bipush (B : Bx own bs ml Z p l e R s m args below meth c T h locs cells slots) (pc pc' : Nat) {i : Int} (v : Int32) (hd : decode bs pc = .ok (.bipush i, 2)) (hp : pc + 2 = pc') (hv : (Int8.ofInt i).toInt32 = v)
    (hr : OG p.tables e below P (T.setTop (mkF m pc' Ls (.int v :: rest)))) : OG p.tables e below P (T.setTop (mkF m pc Ls rest)) := by
  subst hp
  obtain ⟨X, hx, hby, hml, hown, hZ, eT⟩ := B
  exact hr.of fun t k => XT.bipushV X.here hx rfl v (hb hby hd) hv k
theorem o_sipush (B : Bx own bs ml Z p l e R s m args below meth c T h locs cells slots) (pc pc' : Nat) {i : Int} (v : Int32) (hd : decode bs pc = .ok (.sipush i, 3)) (hp : pc + 3 = pc') (hv : (Int16.ofInt i).toInt32 = v)
    (hr : OG p.tables e below P (T.setTop (mkF m pc' Ls (.int v :: rest)))) : OG p.tables e below P (T.setTop (mkF m pc Ls rest)) := by
  subst hp
  obtain ⟨X, hx, hby, hml, hown, hZ, eT⟩ := B
  exact hr.of fun t k => XT.sipushV X.here hx rfl v (hb hby hd) hv k
theorem o_lconst (B : Bx own bs ml Z p l e R s m args below meth c T h locs cells slots) (pc pc' : Nat) {i : Fin 2} (v : Int64) (hd : decode bs pc = .ok (.lconst i, 1)) (hp : pc + 1 = pc') (hv : Int64.ofNat i = v)
    (hr : OG p.tables e below P (T.setTop (mkF m pc' Ls (.long v :: rest)))) : OG p.tables e below P (T.setTop (mkF m pc Ls rest)) := by
  subst hp
  obtain ⟨X, hx, hby, hml, hown, hZ, eT⟩ := B
  exact hr.of fun t k => XT.lconstV X.here hx rfl v (hb hby hd) hv k
theorem o_aconst_null (B : Bx own bs ml Z p l e R s m args below meth c T h locs cells slots) (pc pc' : Nat)  (hd : decode bs pc = .ok (.aconst_null, 1)) (hp : pc + 1 = pc') 
    (hr : OG p.tables e below P (T.setTop (mkF m pc' Ls (.null :: rest)))) : OG p.tables e below P (T.setTop (mkF m pc Ls rest)) := by
  subst hp
  obtain ⟨X, hx, hby, hml, hown, hZ, eT⟩ := B
  exact hr.of fun t k => XS.aconstNull X.here hx rfl (hb hby hd) k
theorem o_iloadN (B : Bx own bs ml Z p l e R s m args below meth c T h locs cells slots) (pc pc' : Nat) {k : Fin 4} {v : Int32} (hd : decode bs pc = .ok (.iload_n k, 1)) (hp : pc + 1 = pc') (hl : Ls[k.val]? = some (.val (.int v)))
    (hr : OG p.tables e below P (T.setTop (mkF m pc' Ls (.int v :: rest)))) : OG p.tables e below P (T.setTop (mkF m pc Ls rest)) := by
  subst hp
  obtain ⟨X, hx, hby, hml, hown, hZ, eT⟩ := B
  exact hr.of fun t k => XS.iloadN X.here hx rfl (hb hby hd) hl k
theorem o_iload (B : Bx own bs ml Z p l e R s m args below meth c T h locs cells slots) (pc pc' : Nat) {k : Nat} {v : Int32} (hd : decode bs pc = .ok (.iload k, 2)) (hp : pc + 2 = pc') (hl : Ls[k]? = some (.val (.int v)))
    (hr : OG p.tables e below P (T.setTop (mkF m pc' Ls (.int v :: rest)))) : OG p.tables e below P (T.setTop (mkF m pc Ls rest)) := by
  subst hp
  obtain ⟨X, hx, hby, hml, hown, hZ, eT⟩ := B
  exact hr.of fun t k => XS.iload X.here hx rfl (hb hby hd) hl k
theorem o_lloadN (B : Bx own bs ml Z p l e R s m args below meth c T h locs cells slots) (pc pc' : Nat) {k : Fin 4} {v : Int64} (hd : decode bs pc = .ok (.lload_n k, 1)) (hp : pc + 1 = pc') (hl : Ls[k.val]? = some (.val (.long v)))
    (hr : OG p.tables e below P (T.setTop (mkF m pc' Ls (.long v :: rest)))) : OG p.tables e below P (T.setTop (mkF m pc Ls rest)) := by
  subst hp
  obtain ⟨X, hx, hby, hml, hown, hZ, eT⟩ := B
  exact hr.of fun t k => XT.lloadN X.here hx rfl (hb hby hd) hl k
theorem o_lload (B : Bx own bs ml Z p l e R s m args below meth c T h locs cells slots) (pc pc' : Nat) {k : Nat} {v : Int64} (hd : decode bs pc = .ok (.lload k, 2)) (hp : pc + 2 = pc') (hl : Ls[k]? = some (.val (.long v)))
    (hr : OG p.tables e below P (T.setTop (mkF m pc' Ls (.long v :: rest)))) : OG p.tables e below P (T.setTop (mkF m pc Ls rest)) := by
  subst hp
  obtain ⟨X, hx, hby, hml, hown, hZ, eT⟩ := B
  exact hr.of fun t k => XT.lload X.here hx rfl (hb hby hd) hl k
theorem o_aloadN (B : Bx own bs ml Z p l e R s m args below meth c T h locs cells slots) (pc pc' : Nat) {k : Fin 4} {v : Value} (hd : decode bs pc = .ok (.aload_n k, 1)) (hp : pc + 1 = pc') (hl : Ls[k.val]? = some (.val v)) (hv : v.isRef = true)
    (hr : OG p.tables e below P (T.setTop (mkF m pc' Ls (v :: rest)))) : OG p.tables e below P (T.setTop (mkF m pc Ls rest)) := by
  subst hp
  obtain ⟨X, hx, hby, hml, hown, hZ, eT⟩ := B
  exact hr.of fun t k => XS.aloadN X.here hx rfl (hb hby hd) hl hv k
theorem o_aload (B : Bx own bs ml Z p l e R s m args below meth c T h locs cells slots) (pc pc' : Nat) {k : Nat} {v : Value} (hd : decode bs pc = .ok (.aload k, 2)) (hp : pc + 2 = pc') (hl : Ls[k]? = some (.val v)) (hv : v.isRef = true)
    (hr : OG p.tables e below P (T.setTop (mkF m pc' Ls (v :: rest)))) : OG p.tables e below P (T.setTop (mkF m pc Ls rest)) := by
  subst hp
  obtain ⟨X, hx, hby, hml, hown, hZ, eT⟩ := B
  exact hr.of fun t k => XS.aload X.here hx rfl (hb hby hd) hl hv k
theorem o_istoreN (B : Bx own bs ml Z p l e R s m args below meth c T h locs cells slots) (pc pc' : Nat) {k : Fin 4} {x : Int32} {l' : Array Slot} (hd : decode bs pc = .ok (.istore_n k, 1)) (hp : pc + 1 = pc') (hl : storeLocals Ls k.val (.int x) = some l')
    (hr : OG p.tables e below P (T.setTop (mkF m pc' l' rest))) : OG p.tables e below P (T.setTop (mkF m pc Ls (.int x :: rest))) := by
  subst hp
  obtain ⟨X, hx, hby, hml, hown, hZ, eT⟩ := B
  exact hr.of fun t k => XS.istoreN X.here hx rfl (hb hby hd) rfl hl k
theorem o_istore (B : Bx own bs ml Z p l e R s m args below meth c T h locs cells slots) (pc pc' : Nat) {k : Nat} {x : Int32} {l' : Array Slot} (hd : decode bs pc = .ok (.istore k, 2)) (hp : pc + 2 = pc') (hl : storeLocals Ls k (.int x) = some l')
    (hr : OG p.tables e below P (T.setTop (mkF m pc' l' rest))) : OG p.tables e below P (T.setTop (mkF m pc Ls (.int x :: rest))) := by
  subst hp
  obtain ⟨X, hx, hby, hml, hown, hZ, eT⟩ := B
  exact hr.of fun t k => XS.istore X.here hx rfl (hb hby hd) rfl hl k
theorem o_lstoreN (B : Bx own bs ml Z p l e R s m args below meth c T h locs cells slots) (pc pc' : Nat) {k : Fin 4} {x : Int64} {l' : Array Slot} (hd : decode bs pc = .ok (.lstore_n k, 1)) (hp : pc + 1 = pc') (hl : storeLocals Ls k.val (.long x) = some l')
    (hr : OG p.tables e below P (T.setTop (mkF m pc' l' rest))) : OG p.tables e below P (T.setTop (mkF m pc Ls (.long x :: rest))) := by
  subst hp
  obtain ⟨X, hx, hby, hml, hown, hZ, eT⟩ := B
  exact hr.of fun t k => XT.lstoreN X.here hx rfl (hb hby hd) rfl hl k
theorem o_lstore (B : Bx own bs ml Z p l e R s m args below meth c T h locs cells slots) (pc pc' : Nat) {k : Nat} {x : Int64} {l' : Array Slot} (hd : decode bs pc = .ok (.lstore k, 2)) (hp : pc + 2 = pc') (hl : storeLocals Ls k (.long x) = some l')
    (hr : OG p.tables e below P (T.setTop (mkF m pc' l' rest))) : OG p.tables e below P (T.setTop (mkF m pc Ls (.long x :: rest))) := by
  subst hp
  obtain ⟨X, hx, hby, hml, hown, hZ, eT⟩ := B
  exact hr.of fun t k => XT.lstore X.here hx rfl (hb hby hd) rfl hl k
theorem o_astoreN (B : Bx own bs ml Z p l e R s m args below meth c T h locs cells slots) (pc pc' : Nat) {k : Fin 4} {x : Value} {l' : Array Slot} (hd : decode bs pc = .ok (.astore_n k, 1)) (hp : pc + 1 = pc') (hv : x.isRef = true) (hl : storeLocals Ls k.val x = some l')
    (hr : OG p.tables e below P (T.setTop (mkF m pc' l' rest))) : OG p.tables e below P (T.setTop (mkF m pc Ls (x :: rest))) := by
  subst hp
  obtain ⟨X, hx, hby, hml, hown, hZ, eT⟩ := B
  exact hr.of fun t k => XS.astoreN X.here hx rfl (hb hby hd) rfl hv hl k
theorem o_astore (B : Bx own bs ml Z p l e R s m args below meth c T h locs cells slots) (pc pc' : Nat) {k : Nat} {x : Value} {l' : Array Slot} (hd : decode bs pc = .ok (.astore k, 2)) (hp : pc + 2 = pc') (hv : x.isRef = true) (hl : storeLocals Ls k x = some l')
    (hr : OG p.tables e below P (T.setTop (mkF m pc' l' rest))) : OG p.tables e below P (T.setTop (mkF m pc Ls (x :: rest))) := by
  subst hp
  obtain ⟨X, hx, hby, hml, hown, hZ, eT⟩ := B
  exact hr.of fun t k => XS.astore X.here hx rfl (hb hby hd) rfl hv hl k
theorem o_iinc (B : Bx own bs ml Z p l e R s m args below meth c T h locs cells slots) (pc pc' : Nat) {k : Nat} {cst : Int} {x : Int32} {l' : Array Slot} (v : Int32) (hd : decode bs pc = .ok (.iinc k cst, 3)) (hp : pc + 3 = pc') (hv : Int32.ofInt cst = v) (hl : Ls[k]? = some (.val (.int x))) (hl' : storeLocals Ls k (.int (x + v)) = some l')
    (hr : OG p.tables e below P (T.setTop (mkF m pc' l' rest))) : OG p.tables e below P (T.setTop (mkF m pc Ls rest)) := by
  subst hp
  obtain ⟨X, hx, hby, hml, hown, hZ, eT⟩ := B
  exact hr.of fun t k => XT.iincV X.here hx rfl v (hb hby hd) hv hl hl' k
theorem o_goto (B : Bx own bs ml Z p l e R s m args below meth c T h locs cells slots) (pc pc' : Nat) {o : Int} (hd : decode bs pc = .ok (.goto o, 3))  (ho : 0 ≤ (pc : Int) + o) (hp : ((pc : Int) + o).toNat = pc')
    (hr : OG p.tables e below P (T.setTop (mkF m pc' Ls rest))) : OG p.tables e below P (T.setTop (mkF m pc Ls rest)) := by
  obtain ⟨X, hx, hby, hml, hown, hZ, eT⟩ := B
  exact hr.of fun t k => XS.goto X.here hx rfl (pc0 := pc) (pc' := pc') rfl (hb hby hd) ho hp k
theorem o_ifY (B : Bx own bs ml Z p l e R s m args below meth c T h locs cells slots) (pc pc' : Nat) {cd : ClassFile.Cond} {o : Int} {x : Int32} (hd : decode bs pc = .ok (.ifCond cd o, 3))  (hc : ifCond.holds cd x = true) (ho : 0 ≤ (pc : Int) + o) (hp : ((pc : Int) + o).toNat = pc')
    (hr : OG p.tables e below P (T.setTop (mkF m pc' Ls rest))) : OG p.tables e below P (T.setTop (mkF m pc Ls (.int x :: rest))) := by
  obtain ⟨X, hx, hby, hml, hown, hZ, eT⟩ := B
  exact hr.of fun t k => XS.ifYes X.here hx rfl (pc0 := pc) (pc' := pc') rfl (hb hby hd) rfl hc ho hp k
theorem o_ifN (B : Bx own bs ml Z p l e R s m args below meth c T h locs cells slots) (pc pc' : Nat) {cd : ClassFile.Cond} {o : Int} {x : Int32} (hd : decode bs pc = .ok (.ifCond cd o, 3)) (hp : pc + 3 = pc') (hc : ifCond.holds cd x = false)
    (hr : OG p.tables e below P (T.setTop (mkF m pc' Ls rest))) : OG p.tables e below P (T.setTop (mkF m pc Ls (.int x :: rest))) := by
  subst hp
  obtain ⟨X, hx, hby, hml, hown, hZ, eT⟩ := B
  exact hr.of fun t k => XS.ifNo X.here hx rfl (hb hby hd) rfl hc k
theorem o_icY (B : Bx own bs ml Z p l e R s m args below meth c T h locs cells slots) (pc pc' : Nat) {cd : ClassFile.Cond} {o : Int} {x y : Int32} (hd : decode bs pc = .ok (.if_icmp cd o, 3))  (hc : if_icmp.holds cd x y = true) (ho : 0 ≤ (pc : Int) + o) (hp : ((pc : Int) + o).toNat = pc')
    (hr : OG p.tables e below P (T.setTop (mkF m pc' Ls rest))) : OG p.tables e below P (T.setTop (mkF m pc Ls (.int y :: .int x :: rest))) := by
  obtain ⟨X, hx, hby, hml, hown, hZ, eT⟩ := B
  exact hr.of fun t k => XS.icmpYes X.here hx rfl (pc0 := pc) (pc' := pc') rfl (hb hby hd) rfl hc ho hp k
theorem o_icN (B : Bx own bs ml Z p l e R s m args below meth c T h locs cells slots) (pc pc' : Nat) {cd : ClassFile.Cond} {o : Int} {x y : Int32} (hd : decode bs pc = .ok (.if_icmp cd o, 3)) (hp : pc + 3 = pc') (hc : if_icmp.holds cd x y = false)
    (hr : OG p.tables e below P (T.setTop (mkF m pc' Ls rest))) : OG p.tables e below P (T.setTop (mkF m pc Ls (.int y :: .int x :: rest))) := by
  subst hp
  obtain ⟨X, hx, hby, hml, hown, hZ, eT⟩ := B
  exact hr.of fun t k => XS.icmpNo X.here hx rfl (hb hby hd) rfl hc k
theorem o_dup (B : Bx own bs ml Z p l e R s m args below meth c T h locs cells slots) (pc pc' : Nat) {x : Value} (hd : decode bs pc = .ok (.dup, 1)) (hp : pc + 1 = pc') (hc : x.category = 1)
    (hr : OG p.tables e below P (T.setTop (mkF m pc' Ls (x :: x :: rest)))) : OG p.tables e below P (T.setTop (mkF m pc Ls (x :: rest))) := by
  subst hp
  obtain ⟨X, hx, hby, hml, hown, hZ, eT⟩ := B
  exact hr.of fun t k => XS.dup X.here hx rfl (hb hby hd) rfl hc k
theorem o_pop (B : Bx own bs ml Z p l e R s m args below meth c T h locs cells slots) (pc pc' : Nat) {x : Value} (hd : decode bs pc = .ok (.pop, 1)) (hp : pc + 1 = pc') (hc : x.category = 1)
    (hr : OG p.tables e below P (T.setTop (mkF m pc' Ls rest))) : OG p.tables e below P (T.setTop (mkF m pc Ls (x :: rest))) := by
  subst hp
  obtain ⟨X, hx, hby, hml, hown, hZ, eT⟩ := B
  exact hr.of fun t k => XT.pop X.here hx rfl (hb hby hd) rfl hc k
theorem o_dup_x1 (B : Bx own bs ml Z p l e R s m args below meth c T h locs cells slots) (pc pc' : Nat) {x y : Value} (hd : decode bs pc = .ok (.dup_x1, 1)) (hp : pc + 1 = pc') (hc : x.category = 1) (hc' : y.category = 1)
    (hr : OG p.tables e below P (T.setTop (mkF m pc' Ls (x :: y :: x :: rest)))) : OG p.tables e below P (T.setTop (mkF m pc Ls (x :: y :: rest))) := by
  subst hp
  obtain ⟨X, hx, hby, hml, hown, hZ, eT⟩ := B
  exact hr.of fun t k => XT.dupX1 X.here hx rfl (hb hby hd) rfl hc hc' k
theorem o_dup2 (B : Bx own bs ml Z p l e R s m args below meth c T h locs cells slots) (pc pc' : Nat) {x y : Value} (hd : decode bs pc = .ok (.dup2, 1)) (hp : pc + 1 = pc') (hc : x.category = 1) (hc' : y.category = 1)
    (hr : OG p.tables e below P (T.setTop (mkF m pc' Ls (x :: y :: x :: y :: rest)))) : OG p.tables e below P (T.setTop (mkF m pc Ls (x :: y :: rest))) := by
  subst hp
  obtain ⟨X, hx, hby, hml, hown, hZ, eT⟩ := B
  exact hr.of fun t k => XT.dup2 X.here hx rfl (hb hby hd) rfl hc hc' k
theorem o_dup2L (B : Bx own bs ml Z p l e R s m args below meth c T h locs cells slots) (pc pc' : Nat) {x : Int64} (hd : decode bs pc = .ok (.dup2, 1)) (hp : pc + 1 = pc') 
    (hr : OG p.tables e below P (T.setTop (mkF m pc' Ls (.long x :: .long x :: rest)))) : OG p.tables e below P (T.setTop (mkF m pc Ls (.long x :: rest))) := by
  subst hp
  obtain ⟨X, hx, hby, hml, hown, hZ, eT⟩ := B
  exact hr.of fun t k => XT.dup2L X.here hx rfl (hb hby hd) rfl k
theorem o_ldc (B : Bx own bs ml Z p l e R s m args below meth c T h locs cells slots) (pc pc' : Nat) {i : Nat} {v : Int32} (hd : decode bs pc = .ok (.ldc i, 2)) (hp : pc + 2 = pc') (w : (Cond.constant own i v).before a0 Z = true)
    (hr : OG p.tables e below P (T.setTop (mkF m pc' Ls (.int v :: rest)))) : OG p.tables e below P (T.setTop (mkF m pc Ls rest)) := by
  subst hp
  obtain ⟨X, hx, hby, hml, hown, hZ, eT⟩ := B
  exact hr.of fun t k => X.ldcI hx hown (mv hZ w) rfl (hb hby hd) k
theorem o_ldc_w (B : Bx own bs ml Z p l e R s m args below meth c T h locs cells slots) (pc pc' : Nat) {i : Nat} {v : Int32} (hd : decode bs pc = .ok (.ldc_w i, 3)) (hp : pc + 3 = pc') (w : (Cond.constant own i v).before a0 Z = true)
    (hr : OG p.tables e below P (T.setTop (mkF m pc' Ls (.int v :: rest)))) : OG p.tables e below P (T.setTop (mkF m pc Ls rest)) := by
  subst hp
  obtain ⟨X, hx, hby, hml, hown, hZ, eT⟩ := B
  exact hr.of fun t k => X.ldcWI hx hown (mv hZ w) rfl (hb hby hd) k
theorem o_ldc2 (B : Bx own bs ml Z p l e R s m args below meth c T h locs cells slots) (pc pc' : Nat) {i : Nat} {v : Int64} (hd : decode bs pc = .ok (.ldc2_w i, 3)) (hp : pc + 3 = pc') (w : (Cond.constantLong own i v).before a0 Z = true)
    (hr : OG p.tables e below P (T.setTop (mkF m pc' Ls (.long v :: rest)))) : OG p.tables e below P (T.setTop (mkF m pc Ls rest)) := by
  subst hp
  obtain ⟨X, hx, hby, hml, hown, hZ, eT⟩ := B
  exact hr.of fun t k => X.ldc2J hx hown (mv hZ w) rfl (hb hby hd) k
theorem o_topI {pc : Nat} {x y : Int32} (q : x = y) (hr : OG p.tables e below P (T.setTop (mkF m pc Ls (.int y :: rest)))) : OG p.tables e below P (T.setTop (mkF m pc Ls (.int x :: rest))) := q ▸ hr
theorem o_topJ {pc : Nat} {x y : Int64} (q : x = y) (hr : OG p.tables e below P (T.setTop (mkF m pc Ls (.long y :: rest)))) : OG p.tables e below P (T.setTop (mkF m pc Ls (.long x :: rest))) := q ▸ hr
theorem o_iincC (B : Bx own bs ml Z p l e R s m args below meth c T h locs cells slots) (pc pc' : Nat) {k : Nat} {cst : Int} {x : Int32} {l' : Array Slot} (v y : Int32) (hd : decode bs pc = .ok (.iinc k cst, 3)) (hp : pc + 3 = pc') (hv : Int32.ofInt cst = v) (hl : Ls[k]? = some (.val (.int x))) (hy : x + v = y) (hl' : storeLocals Ls k (.int y) = some l')
    (hr : OG p.tables e below P (T.setTop (mkF m pc' l' rest))) : OG p.tables e below P (T.setTop (mkF m pc Ls rest)) := by
  subst hp
  obtain ⟨X, hx, hby, hml, hown, hZ, eT⟩ := B
  exact hr.of fun t k => XT.iincV X.here hx rfl v (hb hby hd) hv hl (hy ▸ hl') k
theorem o_retZ {Q : Option Value → Heap → List Loc → Prop} {kc ks : Nat} (B : Bx own bs ml Z p l e R s m args below meth c T h locs cells slots) (pc : Nat) {z : Int32} {t : FieldType} (hd : decode bs pc = .ok (.ireturn, 1)) (hret : meth.sig.returnType = some t) (hlk : meth.locks = false) (ht : t = .boolean ∨ t = .byte ∨ t = .char ∨ t = .short) (hc : cells ≤ kc) (hs : slots ≤ ks) (hq : Q (some (.int (nar t z))) h locs) :
    OG p.tables e below (fun o s₂ => ∃ v L, o = .returned v ∧ Q v s₂.heap L ∧ FrameEnd s o s₂ L kc ks) (T.setTop (mkF m pc Ls (.int z :: rest))) := by
  obtain ⟨X, hx, hby, hml, hown, hZ, eT⟩ := B
  subst eT
  obtain ⟨fs, hr, hrun, hended, hW, hsame⟩ := X.leave (v := some (.int (nar t z))) (fun hn => by rw [hret] at hn; cases hn) hlk
  exact ⟨_, _, retN X hx hret ht (hb hby hd) hr, hrun, hended, _, _, rfl, hq, ⟨_, rfl⟩, hW, hsame.mono hc hs⟩
theorem o_retI0 (X : Stand p l e R s m args below meth c T locs cells slots) (hx : p.tables.exec = Jvm.exec) {pc : Nat} {z : Int32} (hret : meth.sig.returnType = some .int) (hd : decode c.code pc = .ok (.ireturn, 1)) {fs : List Frame}
    (hl : ∀ (f : JFrame) (acts : List Action), f.method = m → f.locked = none → f.entered = [] → (doReturn e (T.setTop f) acts (some (.int z))).1 = T.setFrames fs) : Steps p.tables e below (T.setTop (mkF m pc Ls (.int z :: rest))) (T.setFrames fs) :=
  retOut X hx hret rfl (Or.inl ⟨rfl, Or.inl rfl, _, rfl⟩) hd hl
theorem o_retI {Q : Option Value → Heap → List Loc → Prop} {kc ks : Nat} (B : Bx own bs ml Z p l e R s m args below meth c T h locs cells slots) (pc : Nat) {z : Int32} (hd : decode bs pc = .ok (.ireturn, 1)) (hret : meth.sig.returnType = some .int) (hlk : meth.locks = false)  (hc : cells ≤ kc) (hs : slots ≤ ks) (hq : Q (some (.int z)) h locs) :
    OG p.tables e below (fun o s₂ => ∃ v L, o = .returned v ∧ Q v s₂.heap L ∧ FrameEnd s o s₂ L kc ks) (T.setTop (mkF m pc Ls (.int z :: rest))) := by
  obtain ⟨X, hx, hby, hml, hown, hZ, eT⟩ := B
  subst eT
  obtain ⟨fs, hr, hrun, hended, hW, hsame⟩ := X.leave (v := some (.int z)) (fun hn => by rw [hret] at hn; cases hn) hlk
  exact ⟨_, _, o_retI0 X hx hret (hb hby hd) hr, hrun, hended, _, _, rfl, hq, ⟨_, rfl⟩, hW, hsame.mono hc hs⟩
theorem o_retL {Q : Option Value → Heap → List Loc → Prop} {kc ks : Nat} (B : Bx own bs ml Z p l e R s m args below meth c T h locs cells slots) (pc : Nat) {z : Int64} (hd : decode bs pc = .ok (.lreturn, 1)) (hret : meth.sig.returnType = some .long) (hlk : meth.locks = false)  (hc : cells ≤ kc) (hs : slots ≤ ks) (hq : Q (some (.long z)) h locs) :
    OG p.tables e below (fun o s₂ => ∃ v L, o = .returned v ∧ Q v s₂.heap L ∧ FrameEnd s o s₂ L kc ks) (T.setTop (mkF m pc Ls [.long z])) := by
  obtain ⟨X, hx, hby, hml, hown, hZ, eT⟩ := B
  subst eT
  obtain ⟨fs, hr, hrun, hended, hW, hsame⟩ := X.leave (v := some (.long z)) (fun hn => by rw [hret] at hn; cases hn) hlk
  exact ⟨_, _, X.lreturnOut hx hret (hb hby hd) hr, hrun, hended, _, _, rfl, hq, ⟨_, rfl⟩, hW, hsame.mono hc hs⟩
theorem o_retA {Q : Option Value → Heap → List Loc → Prop} {kc ks : Nat} (B : Bx own bs ml Z p l e R s m args below meth c T h locs cells slots) (pc : Nat) {z : Value} {t : FieldType} (hd : decode bs pc = .ok (.areturn, 1)) (hret : meth.sig.returnType = some t) (hlk : meth.locks = false) (ht : t.isReference = true) (hz : z.isRef = true) (hc : cells ≤ kc) (hs : slots ≤ ks) (hq : Q (some z) h locs) :
    OG p.tables e below (fun o s₂ => ∃ v L, o = .returned v ∧ Q v s₂.heap L ∧ FrameEnd s o s₂ L kc ks) (T.setTop (mkF m pc Ls [z])) := by
  obtain ⟨X, hx, hby, hml, hown, hZ, eT⟩ := B
  subst eT
  obtain ⟨fs, hr, hrun, hended, hW, hsame⟩ := X.leave (v := some z) (fun hn => by rw [hret] at hn; cases hn) hlk
  exact ⟨_, _, X.areturnOut hx hz hret ht (hb hby hd) hr, hrun, hended, _, _, rfl, hq, ⟨_, rfl⟩, hW, hsame.mono hc hs⟩
theorem o_retV {Q : Option Value → Heap → List Loc → Prop} {kc ks : Nat} (B : Bx own bs ml Z p l e R s m args below meth c T h locs cells slots) (pc : Nat)  (hd : decode bs pc = .ok (.return_, 1)) (hret : meth.sig.returnType = none) (hlk : meth.locks = false)  (hc : cells ≤ kc) (hs : slots ≤ ks) (hq : Q (none) h locs) :
    OG p.tables e below (fun o s₂ => ∃ v L, o = .returned v ∧ Q v s₂.heap L ∧ FrameEnd s o s₂ L kc ks) (T.setTop (mkF m pc Ls [])) := by
  obtain ⟨X, hx, hby, hml, hown, hZ, eT⟩ := B
  subst eT
  obtain ⟨fs, hr, hrun, hended, hW, hsame⟩ := X.leave (v := none) (fun _ => rfl) hlk
  exact ⟨_, _, X.returnOut hx hret (hb hby hd) hr, hrun, hended, _, _, rfl, hq, ⟨_, rfl⟩, hW, hsame.mono hc hs⟩
/-- a body's contract, out of its walk -/
theorem enter {y : MethodName} {ret : Option FieldType} {rm : Room} {ws : List Jvm.Cond} {as' : Array Value} {h0 : Heap} {Q : Option Value → Heap → List Loc → Prop} {kc ks : Nat} (hpl : plainFor y = true) (Ls : Array Slot)
    (hL : Jvm.Sym.laidSlots as'.toList ++ List.replicate (ml - (Jvm.Sym.laidSlots as'.toList).length) .unset = Ls.toList)
    (body : ∀ (p : Program) (e : Env) (s : State) (m : MethodId) (below : List Frame) (meth : Method) (c : Code) (T : State), Bx y.cls bs ml Z p l e rm s m as' below meth c T h0 [] 0 0 → meth.sig.returnType = ret → meth.locks = false → meth.name = y.name →
      OG p.tables e below (fun o s₂ => ∃ v L, o = .returned v ∧ Q v s₂.heap L ∧ FrameEnd s o s₂ L kc ks) (T.setTop (mkF m 0 Ls []))) :
    MetFree l y (head1 (Jvm.Cond.code y bs ml ret :: ws) rm) (fun a U => a = as' ∧ Z.Warmed39 U.vm ∧ U.heap = h0) (fun _ _ _ _ _ => True) (fun _ U o U' => ∃ v L, o = .returned v ∧ Q v U'.heap L ∧ FrameEnd U o U' L kc ks) := by
  refine MetFree.of_bodySF hpl hisR ?_
  intro p e s m args below meth c s₁ Bd hml0 hP hK
  obtain ⟨rfl, hZ, hh⟩ := hP
  have e0 : s₁.heap = h0 := by rw [← hh, Bd.state]; rfl
  have r := body p e s m below meth c s₁ ⟨Stand.of_body Bd, Bd.exec, Bd.bytes, hml0, findClass_of_methodNamed Bd.named, hZ, e0⟩ Bd.returns (BodyLoose.notSynchronized Bd) (name_of_methodNamed Bd.named Bd.method).1
  exact OG.of r fun t k => (XT.entry hL).trans k
/-- what a callee owes -/
abbrev Met (l : Launch) (Z : State) (y : MethodName) (bytes : ByteArray) (maxL : Nat) (ret : Option FieldType) (rm : Room) (as' : Array Value) (h : Heap) (Q : Option Value → Heap → List Loc → Prop) : Prop :=
  MetFree l y (head1 [Jvm.Cond.code y bytes maxL ret] rm) (fun a U => a = as' ∧ Z.Warmed39 U.vm ∧ U.heap = h) (fun _ _ _ _ _ => True) (fun _ U o U' => ∃ v L, o = .returned v ∧ Q v U'.heap L ∧ FrameEnd U o U' L rm.cells rm.slots)
theorem o_callS {index : Nat} {y : MethodName} {bytes : ByteArray} {maxL : Nat} {ret : Option FieldType} {rm : Room} {as' : Array Value} {Q : Option Value → Heap → List Loc → Prop} {ps : List FieldType} {rt : Option FieldType}
    (B : Bx own bs ml Z p l e R s m args below meth c T h locs cells slots) (pc pc' : Nat) (hd : decode bs pc = .ok (.invokestatic index, 3)) (hp : pc + 3 = pc')
    (w1 : (Cond.methodLink own index y).before a0 Z = true) (w2 : (Cond.static y).before a0 Z = true) (w3 : (Cond.initialized y.cls).before a0 Z = true) (w4 : (Cond.code y bytes maxL ret).before a0 Z = true) (hy : y.cls ≠ "java/lang/invoke/MethodHandle" ∧ y.cls ≠ "java/lang/invoke/VarHandle")
    (hM : Met l Z y bytes maxL ret rm as' h Q) (W : Nat) (argsL rest : List Value) (hpd : parseMethodDescriptor y.desc = some ⟨ps, rt⟩) (hlen : argsL.length = ps.length) (has : argsL.toArray = as') {st : List Value} (hst : st = argsL.reverse ++ rest) (hsz : Ls.size = ml)
    (hW : (rest.map fun v => v.category).sum ≤ W) (hf : rm.frames + 1 ≤ R.frames) (hl : W + (maxL + 11) + rm.locals ≤ R.locals) (hcl : cells + rm.cells ≤ R.cells) (hsl : slots + rm.slots ≤ R.slots) :
    ∃ v T' L, Bx own bs ml Z p l e R s m args below meth c T' T'.heap (locs ++ L) (cells + rm.cells) (slots + rm.slots) ∧ Q v T'.heap L ∧
      ∀ {P : Outcome → State → Prop}, OG p.tables e below P (T'.setTop (mkF m pc' Ls (v.toList ++ rest))) → OG p.tables e below P (T.setTop (mkF m pc Ls st)) := by
  subst hp hst
  obtain ⟨X, hx, hby, hml, hown, hZ, eT⟩ := B
  obtain ⟨v, vm1, ⟨T', L', k', n'⟩, -, X', ⟨Lc, hQ, l', y', z'⟩, st⟩ := Jvm.LawKit.callS X hx (y := y) hown (mvT hZ w1) (mvT hZ w2) (mvT hZ w3) (mvT hZ w4) hy (backOf (W := W) hM hZ w4 w3 hf hl) (g := mkF m pc Ls (argsL.reverse ++ rest)) rfl (by rw [hml]; exact hsz) (argsL := argsL) (rest := rest) (lenOf hpd hlen) rfl (by simpa using hW) (hb hby hd) (fun _ _ => ⟨has, eT, hcl, hsl⟩)
  dsimp only [Pt.U, Pt.locs, Pt.cells, Pt.slots] at X' l' y' z' st hQ
  subst l' y' z'
  exact ⟨v, T', Lc, ⟨X', hx, hby, hml, hown, hZ, rfl⟩, hQ, fun k => k.of st⟩
/-- a callee that writes and makes nothing -/
def Pu (r : Option Value) (h : Heap) (v : Option Value) (h' : Heap) (L : List Loc) : Prop := v = r ∧ L = [] ∧ h' = h
theorem o_callP {index : Nat} {y : MethodName} {bytes : ByteArray} {maxL : Nat} {ret : Option FieldType} {fr lo : Nat} {as' : Array Value} {r : Value} {ps : List FieldType} {rt : Option FieldType}
    (B : Bx own bs ml Z p l e R s m args below meth c T h locs cells slots) (pc pc' : Nat) (hd : decode bs pc = .ok (.invokestatic index, 3)) (hp : pc + 3 = pc')
    (w1 : (Cond.methodLink own index y).before a0 Z = true) (w2 : (Cond.static y).before a0 Z = true) (w3 : (Cond.initialized y.cls).before a0 Z = true) (w4 : (Cond.code y bytes maxL ret).before a0 Z = true) (hy : y.cls ≠ "java/lang/invoke/MethodHandle" ∧ y.cls ≠ "java/lang/invoke/VarHandle")
    (hM : Met l Z y bytes maxL ret ({ frames := fr, cells := 0, slots := 0, locals := lo } : Room) as' h (Pu (some r) h)) (W : Nat) (argsL rest : List Value) (hpd : parseMethodDescriptor y.desc = some ⟨ps, rt⟩) (hlen : argsL.length = ps.length) (has : argsL.toArray = as') {st : List Value} (hst : st = argsL.reverse ++ rest) (hsz : Ls.size = ml)
    (hW : (rest.map fun v => v.category).sum ≤ W) (hf : fr + 1 ≤ R.frames) (hl : W + (maxL + 11) + lo ≤ R.locals) (hcl : cells ≤ R.cells) (hsl : slots ≤ R.slots) :
    ∃ T', Bx own bs ml Z p l e R s m args below meth c T' h locs cells slots ∧
      ∀ {P : Outcome → State → Prop}, OG p.tables e below P (T'.setTop (mkF m pc' Ls (r :: rest))) → OG p.tables e below P (T.setTop (mkF m pc Ls st)) := by
  obtain ⟨v, T', L, B', ⟨rfl, rfl, hh⟩, st⟩ := o_callS B pc pc' hd hp w1 w2 w3 w4 hy hM W argsL rest hpd hlen has hst hsz hW hf hl hcl hsl
  rw [hh, List.append_nil] at B'
  exact ⟨T', B', st⟩
end Walk
theorem b_ne_t {c : Prop} [Decidable c] (h : c) : ifCond.holds .ne (if c then (1 : Int32) else 0) = true := by rw [if_pos h]; rfl
theorem b_ne_f {c : Prop} [Decidable c] (h : ¬ c) : ifCond.holds .ne (if c then (1 : Int32) else 0) = false := by rw [if_neg h]; rfl
theorem b_eq_t {c : Prop} [Decidable c] (h : ¬ c) : ifCond.holds .eq (if c then (1 : Int32) else 0) = true := by rw [if_neg h]; rfl
theorem b_eq_f {c : Prop} [Decidable c] (h : c) : ifCond.holds .eq (if c then (1 : Int32) else 0) = false := by rw [if_pos h]; rfl
/-! 2. arrays by a function of the place -/
def AI (Z : State) (h : Heap) (a : Addr) (ty : FieldType) (n : Nat) (g : Nat → Int32) : Prop := ∃ c : Cell, Arr Z h a c ty ∧ c.slots.size = n ∧ n < 2147483648 ∧ ∀ j, j < n → c.slots[j]? = some (.int (g j))
def AJ (Z : State) (h : Heap) (a : Addr) (n : Nat) (g : Nat → Int64) : Prop := ∃ c : Cell, Arr Z h a c .long ∧ c.slots.size = n ∧ n < 2147483648 ∧ ∀ j, j < n → c.slots[j]? = some (.long (g j))
section Arrays
variable {Z : State} {h h' : Heap} {a b : Addr} {ty : FieldType} {n i : Nat} {v : Value} {ws : List Addr}
theorem AI.ext {g : Nat → Int32} (A : AI Z h a ty n g) (E : Ext h h') : AI Z h' a ty n g := by obtain ⟨c, A, r⟩ := A; exact ⟨c, A.ext E, r⟩
theorem AI.other {g : Nat → Int32} (A : AI Z h a ty n g) (W : Wr h h' b i v) (q : a ≠ b) : AI Z h' a ty n g := by obtain ⟨c, A, r⟩ := A; exact ⟨c, A.other W q, r⟩
theorem AI.keep {g : Nat → Int32} (A : AI Z h a ty n g) (K : Keep h h' ws) (q : a ∉ ws) : AI Z h' a ty n g := by obtain ⟨c, A, r⟩ := A; exact ⟨c, ⟨K.2.1 a c A.1 q, A.2⟩, r⟩
theorem AI.lt {g : Nat → Int32} (A : AI Z h a ty n g) : a < h.size := by obtain ⟨c, A, r⟩ := A; exact A.lt
theorem AI.len {g : Nat → Int32} (A : AI Z h a ty n g) : n < 2147483648 := by obtain ⟨c, A, r, q, _⟩ := A; exact q
theorem AI.alt {g g' : Nat → Int32} (A : AI Z h a ty n g) (q : ∀ j, j < n → g' j = g j) : AI Z h a ty n g' := by obtain ⟨c, A, r, s, H⟩ := A; exact ⟨c, A, r, s, fun j hj => by rw [q j hj]; exact H j hj⟩
theorem AI.set {g : Nat → Int32} {x : Int32} (A : AI Z h a ty n g) (W : Wr h h' a i (.int x)) : AI Z h' a ty n (fun j => if j = i then x else g j) := by
  obtain ⟨c, A, S, hn, H⟩ := A
  refine ⟨c.setSlot i (.int x), Arr.same W A, by simp [Cell.setSlot, S], hn, fun j hj => ?_⟩
  show (c.slots.setIfInBounds i (.int x))[j]? = some (.int (if j = i then x else g j))
  by_cases e : j = i
  · subst e; rw [if_pos rfl]; simp [S, hj]
  · rw [if_neg e, Array.getElem?_setIfInBounds_ne (Ne.symm e)]; exact H j hj
theorem AJ.ext {g : Nat → Int64} (A : AJ Z h a n g) (E : Ext h h') : AJ Z h' a n g := by obtain ⟨c, A, r⟩ := A; exact ⟨c, A.ext E, r⟩
theorem AJ.other {g : Nat → Int64} (A : AJ Z h a n g) (W : Wr h h' b i v) (q : a ≠ b) : AJ Z h' a n g := by obtain ⟨c, A, r⟩ := A; exact ⟨c, A.other W q, r⟩
theorem AJ.keep {g : Nat → Int64} (A : AJ Z h a n g) (K : Keep h h' ws) (q : a ∉ ws) : AJ Z h' a n g := by obtain ⟨c, A, r⟩ := A; exact ⟨c, ⟨K.2.1 a c A.1 q, A.2⟩, r⟩
theorem AJ.lt {g : Nat → Int64} (A : AJ Z h a n g) : a < h.size := by obtain ⟨c, A, r⟩ := A; exact A.lt
theorem AJ.len {g : Nat → Int64} (A : AJ Z h a n g) : n < 2147483648 := by obtain ⟨c, A, r, q, _⟩ := A; exact q
theorem AJ.alt {g g' : Nat → Int64} (A : AJ Z h a n g) (q : ∀ j, j < n → g' j = g j) : AJ Z h a n g' := by obtain ⟨c, A, r, s, H⟩ := A; exact ⟨c, A, r, s, fun j hj => by rw [q j hj]; exact H j hj⟩
theorem AJ.set {g : Nat → Int64} {x : Int64} (A : AJ Z h a n g) (W : Wr h h' a i (.long x)) : AJ Z h' a n (fun j => if j = i then x else g j) := by
  obtain ⟨c, A, S, hn, H⟩ := A
  refine ⟨c.setSlot i (.long x), Arr.same W A, by simp [Cell.setSlot, S], hn, fun j hj => ?_⟩
  show (c.slots.setIfInBounds i (.long x))[j]? = some (.long (if j = i then x else g j))
  by_cases e : j = i
  · subst e; rw [if_pos rfl]; simp [S, hj]
  · rw [if_neg e, Array.getElem?_setIfInBounds_ne (Ne.symm e)]; exact H j hj
theorem in_of {c : Cell} {j : Int32} (S : c.slots.size = n) (h0 : ¬ j < 0) (hj : j.toNatClampNeg = i) (hi : i < n) : ¬ (j < 0 ∨ c.slots.size ≤ j.toNatClampNeg) := by rw [S, hj]; rintro (q | q); exact h0 q; omega
end Arrays
theorem ix_of {j : Int32} {k : Nat} (h : j.toInt = k) : ¬ j < 0 ∧ j.toNatClampNeg = k := by
  rw [Int32.lt_iff_toInt_lt, Int32.toInt_zero]
  simp only [Int32.toNatClampNeg, h]
  omega
theorem ix_add {j : Int32} {k : Nat} (c : Int32) (n : Nat) (h : j.toInt = k) (hc : c.toInt = n) (hk : k + n < 2147483648) : (j + c).toInt = (k + n : Nat) := by
  have a := c_iadd j c
  have r := rng32 (j + c)
  omega
theorem nar_bb (x : Int32) : nar .byte x.toInt8.toInt32 = x.toInt8.toInt32 := by simp [nar]
theorem nar_cc (x : Int32) : nar .char x.toUInt32.toUInt16.toUInt32.toInt32 = x.toUInt32.toUInt16.toUInt32.toInt32 := by simp only [nar, UInt32.toUInt32_toInt32, UInt16.toUInt16_toUInt32]
def Lw (n0 : Nat) (r : Option Value) (v : Option Value) (h : Heap) (L : List Loc) : Prop := v = r ∧ Fr n0 L
section Walk2
variable {own : String} {bs : ByteArray} {ml : Nat} {Z : State} {p : Program} {l : Launch} {e : Env} {R : Room} {s : State} {m : MethodId} {args : Array Value} {below : List Frame} {meth : Method} {c : Code} {T : State} {h : Heap} {locs : List Loc} {cells slots n0 : Nat} {P : Outcome → State → Prop} {Ls : Array Slot} {rest : List Value} {a0 : Array Value} {a : Addr} {n : Nat}
theorem o_iaload (B : Bx own bs ml Z p l e R s m args below meth c T h locs cells slots) (pc pc' : Nat) {g : Nat → Int32} (A : AI Z h a .int n g) {j : Int32} (i : Nat) (v : Int32) (hd : decode bs pc = .ok (.iaload, 1)) (hp : pc + 1 = pc') (h0 : ¬ j < 0) (hj : j.toNatClampNeg = i) (hi : i < n) (hv : g i = v)
    (hr : OG p.tables e below P (T.setTop (mkF m pc' Ls (.int v :: rest)))) : OG p.tables e below P (T.setTop (mkF m pc Ls (.int j :: .ref a :: rest))) := by
  subst hp hv
  obtain ⟨X, hx, hby, hml, hown, hZ, eT⟩ := B
  obtain ⟨cl, A, S, hn, H⟩ := A
  exact hr.of fun t k => X.iaload hx (by rw [eT]; exact A.1) (State.isArrayOf_alike hZ.alike A.2.1) A.2.2 (in_of S h0 hj hi) (by rw [hj]; exact H i hi) (g := mkF m pc Ls (.int j :: .ref a :: rest)) rfl rfl (hb hby hd) t k
theorem o_caload (B : Bx own bs ml Z p l e R s m args below meth c T h locs cells slots) (pc pc' : Nat) {g : Nat → Int32} (A : AI Z h a .char n g) {j : Int32} (i : Nat) (v : Int32) (hd : decode bs pc = .ok (.caload, 1)) (hp : pc + 1 = pc') (h0 : ¬ j < 0) (hj : j.toNatClampNeg = i) (hi : i < n) (hv : g i = v)
    (hr : OG p.tables e below P (T.setTop (mkF m pc' Ls (.int v :: rest)))) : OG p.tables e below P (T.setTop (mkF m pc Ls (.int j :: .ref a :: rest))) := by
  subst hp hv
  obtain ⟨X, hx, hby, hml, hown, hZ, eT⟩ := B
  obtain ⟨cl, A, S, hn, H⟩ := A
  exact hr.of fun t k => X.caload hx (by rw [eT]; exact A.1) (State.isArrayOf_alike hZ.alike A.2.1) A.2.2 (in_of S h0 hj hi) (by rw [hj]; exact H i hi) (g := mkF m pc Ls (.int j :: .ref a :: rest)) rfl rfl (hb hby hd) t k
theorem o_baload (B : Bx own bs ml Z p l e R s m args below meth c T h locs cells slots) (pc pc' : Nat) {g : Nat → Int32} (A : AI Z h a .byte n g) {j : Int32} (i : Nat) (v : Int32) (hd : decode bs pc = .ok (.baload, 1)) (hp : pc + 1 = pc') (h0 : ¬ j < 0) (hj : j.toNatClampNeg = i) (hi : i < n) (hv : g i = v)
    (hr : OG p.tables e below P (T.setTop (mkF m pc' Ls (.int v :: rest)))) : OG p.tables e below P (T.setTop (mkF m pc Ls (.int j :: .ref a :: rest))) := by
  subst hp hv
  obtain ⟨X, hx, hby, hml, hown, hZ, eT⟩ := B
  obtain ⟨cl, A, S, hn, H⟩ := A
  exact hr.of fun t k => X.baloadBytes hx (by rw [eT]; exact A.1) (State.isArrayOf_alike hZ.alike A.2.1) A.2.2 (in_of S h0 hj hi) (by rw [hj]; exact H i hi) (g := mkF m pc Ls (.int j :: .ref a :: rest)) rfl rfl (hb hby hd) t k
theorem o_zaload (B : Bx own bs ml Z p l e R s m args below meth c T h locs cells slots) (pc pc' : Nat) {g : Nat → Int32} (A : AI Z h a .boolean n g) {j : Int32} (i : Nat) (v : Int32) (hd : decode bs pc = .ok (.baload, 1)) (hp : pc + 1 = pc') (h0 : ¬ j < 0) (hj : j.toNatClampNeg = i) (hi : i < n) (hv : g i = v)
    (hr : OG p.tables e below P (T.setTop (mkF m pc' Ls (.int v :: rest)))) : OG p.tables e below P (T.setTop (mkF m pc Ls (.int j :: .ref a :: rest))) := by
  subst hp hv
  obtain ⟨X, hx, hby, hml, hown, hZ, eT⟩ := B
  obtain ⟨cl, A, S, hn, H⟩ := A
  exact hr.of fun t k => X.baloadBooleans hx (by rw [eT]; exact A.1) (State.isArrayOf_alike hZ.alike A.2.1) A.2.2 (in_of S h0 hj hi) (by rw [hj]; exact H i hi) (g := mkF m pc Ls (.int j :: .ref a :: rest)) rfl rfl (hb hby hd) t k
theorem o_laload (B : Bx own bs ml Z p l e R s m args below meth c T h locs cells slots) (pc pc' : Nat) {g : Nat → Int64} (A : AJ Z h a n g) {j : Int32} (i : Nat) (v : Int64) (hd : decode bs pc = .ok (.laload, 1)) (hp : pc + 1 = pc') (h0 : ¬ j < 0) (hj : j.toNatClampNeg = i) (hi : i < n) (hv : g i = v)
    (hr : OG p.tables e below P (T.setTop (mkF m pc' Ls (.long v :: rest)))) : OG p.tables e below P (T.setTop (mkF m pc Ls (.int j :: .ref a :: rest))) := by
  subst hp hv
  obtain ⟨X, hx, hby, hml, hown, hZ, eT⟩ := B
  obtain ⟨cl, A, S, hn, H⟩ := A
  exact hr.of fun t k => X.laload hx (by rw [eT]; exact A.1) (State.isArrayOf_alike hZ.alike A.2.1) A.2.2 (in_of S h0 hj hi) (by rw [hj]; exact H i hi) (g := mkF m pc Ls (.int j :: .ref a :: rest)) rfl rfl (hb hby hd) t k
theorem o_alenI (B : Bx own bs ml Z p l e R s m args below meth c T h locs cells slots) (pc pc' : Nat) {ty : FieldType} {g : Nat → Int32} (A : AI Z h a ty n g) (v : Int32) (hd : decode bs pc = .ok (.arraylength, 1)) (hp : pc + 1 = pc') (hv : n.toInt32 = v)
    (hr : OG p.tables e below P (T.setTop (mkF m pc' Ls (.int v :: rest)))) : OG p.tables e below P (T.setTop (mkF m pc Ls (.ref a :: rest))) := by
  subst hp hv
  obtain ⟨X, hx, hby, hml, hown, hZ, eT⟩ := B
  obtain ⟨cl, A, S, hn, H⟩ := A
  exact hr.of fun t k => X.arraylength hx (by rw [eT]; exact A.1) (State.isArrayOf_alike hZ.alike A.2.1) (g := mkF m pc Ls (.ref a :: rest)) rfl rfl (hb hby hd) t (by rw [S]; exact k)
theorem o_alenJ (B : Bx own bs ml Z p l e R s m args below meth c T h locs cells slots) (pc pc' : Nat) {g : Nat → Int64} (A : AJ Z h a n g) (v : Int32) (hd : decode bs pc = .ok (.arraylength, 1)) (hp : pc + 1 = pc') (hv : n.toInt32 = v)
    (hr : OG p.tables e below P (T.setTop (mkF m pc' Ls (.int v :: rest)))) : OG p.tables e below P (T.setTop (mkF m pc Ls (.ref a :: rest))) := by
  subst hp hv
  obtain ⟨X, hx, hby, hml, hown, hZ, eT⟩ := B
  obtain ⟨cl, A, S, hn, H⟩ := A
  exact hr.of fun t k => X.arraylength hx (by rw [eT]; exact A.1) (State.isArrayOf_alike hZ.alike A.2.1) (g := mkF m pc Ls (.ref a :: rest)) rfl rfl (hb hby hd) t (by rw [S]; exact k)
theorem o_iastore (B : Bx own bs ml Z p l e R s m args below meth c T h locs cells slots) (N : Fr n0 locs) (ge : n0 ≤ a) (pc pc' : Nat) {g : Nat → Int32} (A : AI Z h a .int n g) {j : Int32} {x : Int32} (i : Nat) (y : Int32) (hd : decode bs pc = .ok (.iastore, 1)) (hp : pc + 1 = pc') (h0 : ¬ j < 0) (hj : j.toNatClampNeg = i) (hi : i < n) (hy : x = y) :
    ∃ T' h' L', Bx own bs ml Z p l e R s m args below meth c T' h' L' cells slots ∧ Fr n0 L' ∧ Wr h h' a i (.int y) ∧ AI Z h' a .int n (fun j => if j = i then y else g j) ∧ ∀ {P : Outcome → State → Prop}, OG p.tables e below P (T'.setTop (mkF m pc' Ls rest)) → OG p.tables e below P (T.setTop (mkF m pc Ls (.int x :: .int j :: .ref a :: rest))) := by
  subst hp hj hy
  obtain ⟨X, hx, hby, hml, hown, hZ, eT⟩ := B
  have A' := A
  obtain ⟨cl, A, S, hn, H⟩ := A
  obtain ⟨T', h', X', e', W, st⟩ := stI X hx hZ eT A (in_of S h0 rfl hi) (g := mkF m pc Ls (.int x :: .int j :: .ref a :: rest)) rfl rfl (hb hby hd)
  exact ⟨T', h', _, ⟨X', hx, hby, hml, hown, hZ, e'⟩, Fr.snoc X' N ge, W, A'.set W, fun k => k.of st⟩
theorem o_castore (B : Bx own bs ml Z p l e R s m args below meth c T h locs cells slots) (N : Fr n0 locs) (ge : n0 ≤ a) (pc pc' : Nat) {g : Nat → Int32} (A : AI Z h a .char n g) {j : Int32} {x : Int32} (i : Nat) (y : Int32) (hd : decode bs pc = .ok (.castore, 1)) (hp : pc + 1 = pc') (h0 : ¬ j < 0) (hj : j.toNatClampNeg = i) (hi : i < n) (hy : nar .char x = y) :
    ∃ T' h' L', Bx own bs ml Z p l e R s m args below meth c T' h' L' cells slots ∧ Fr n0 L' ∧ Wr h h' a i (.int y) ∧ AI Z h' a .char n (fun j => if j = i then y else g j) ∧ ∀ {P : Outcome → State → Prop}, OG p.tables e below P (T'.setTop (mkF m pc' Ls rest)) → OG p.tables e below P (T.setTop (mkF m pc Ls (.int x :: .int j :: .ref a :: rest))) := by
  subst hp hj hy
  obtain ⟨X, hx, hby, hml, hown, hZ, eT⟩ := B
  have A' := A
  obtain ⟨cl, A, S, hn, H⟩ := A
  obtain ⟨T', h', X', e', W, st⟩ := stC X hx hZ eT A (in_of S h0 rfl hi) (g := mkF m pc Ls (.int x :: .int j :: .ref a :: rest)) rfl rfl (hb hby hd)
  exact ⟨T', h', _, ⟨X', hx, hby, hml, hown, hZ, e'⟩, Fr.snoc X' N ge, W, A'.set W, fun k => k.of st⟩
theorem o_bastore (B : Bx own bs ml Z p l e R s m args below meth c T h locs cells slots) (N : Fr n0 locs) (ge : n0 ≤ a) (pc pc' : Nat) {g : Nat → Int32} (A : AI Z h a .byte n g) {j : Int32} {x : Int32} (i : Nat) (y : Int32) (hd : decode bs pc = .ok (.bastore, 1)) (hp : pc + 1 = pc') (h0 : ¬ j < 0) (hj : j.toNatClampNeg = i) (hi : i < n) (hy : nar .byte x = y) :
    ∃ T' h' L', Bx own bs ml Z p l e R s m args below meth c T' h' L' cells slots ∧ Fr n0 L' ∧ Wr h h' a i (.int y) ∧ AI Z h' a .byte n (fun j => if j = i then y else g j) ∧ ∀ {P : Outcome → State → Prop}, OG p.tables e below P (T'.setTop (mkF m pc' Ls rest)) → OG p.tables e below P (T.setTop (mkF m pc Ls (.int x :: .int j :: .ref a :: rest))) := by
  subst hp hj hy
  obtain ⟨X, hx, hby, hml, hown, hZ, eT⟩ := B
  have A' := A
  obtain ⟨cl, A, S, hn, H⟩ := A
  obtain ⟨T', h', X', e', W, st⟩ := stB X hx hZ eT A (in_of S h0 rfl hi) (g := mkF m pc Ls (.int x :: .int j :: .ref a :: rest)) rfl rfl (hb hby hd)
  exact ⟨T', h', _, ⟨X', hx, hby, hml, hown, hZ, e'⟩, Fr.snoc X' N ge, W, A'.set W, fun k => k.of st⟩
theorem o_zastore (B : Bx own bs ml Z p l e R s m args below meth c T h locs cells slots) (N : Fr n0 locs) (ge : n0 ≤ a) (pc pc' : Nat) {g : Nat → Int32} (A : AI Z h a .boolean n g) {j : Int32} {x : Int32} (i : Nat) (y : Int32) (hd : decode bs pc = .ok (.bastore, 1)) (hp : pc + 1 = pc') (h0 : ¬ j < 0) (hj : j.toNatClampNeg = i) (hi : i < n) (hy : nar .boolean x = y) :
    ∃ T' h' L', Bx own bs ml Z p l e R s m args below meth c T' h' L' cells slots ∧ Fr n0 L' ∧ Wr h h' a i (.int y) ∧ AI Z h' a .boolean n (fun j => if j = i then y else g j) ∧ ∀ {P : Outcome → State → Prop}, OG p.tables e below P (T'.setTop (mkF m pc' Ls rest)) → OG p.tables e below P (T.setTop (mkF m pc Ls (.int x :: .int j :: .ref a :: rest))) := by
  subst hp hj hy
  obtain ⟨X, hx, hby, hml, hown, hZ, eT⟩ := B
  have A' := A
  obtain ⟨cl, A, S, hn, H⟩ := A
  obtain ⟨T', h', X', e', W, st⟩ := stZ X hx hZ eT A (in_of S h0 rfl hi) (g := mkF m pc Ls (.int x :: .int j :: .ref a :: rest)) rfl rfl (hb hby hd)
  exact ⟨T', h', _, ⟨X', hx, hby, hml, hown, hZ, e'⟩, Fr.snoc X' N ge, W, A'.set W, fun k => k.of st⟩
theorem o_lastore (B : Bx own bs ml Z p l e R s m args below meth c T h locs cells slots) (N : Fr n0 locs) (ge : n0 ≤ a) (pc pc' : Nat) {g : Nat → Int64} (A : AJ Z h a n g) {j : Int32} {x : Int64} (i : Nat) (y : Int64) (hd : decode bs pc = .ok (.lastore, 1)) (hp : pc + 1 = pc') (h0 : ¬ j < 0) (hj : j.toNatClampNeg = i) (hi : i < n) (hy : x = y) :
    ∃ T' h' L', Bx own bs ml Z p l e R s m args below meth c T' h' L' cells slots ∧ Fr n0 L' ∧ Wr h h' a i (.long y) ∧ AJ Z h' a n (fun j => if j = i then y else g j) ∧ ∀ {P : Outcome → State → Prop}, OG p.tables e below P (T'.setTop (mkF m pc' Ls rest)) → OG p.tables e below P (T.setTop (mkF m pc Ls (.long x :: .int j :: .ref a :: rest))) := by
  subst hp hj hy
  obtain ⟨X, hx, hby, hml, hown, hZ, eT⟩ := B
  have A' := A
  obtain ⟨cl, A, S, hn, H⟩ := A
  obtain ⟨T', h', X', e', W, st⟩ := stJ X hx hZ eT A (in_of S h0 rfl hi) (g := mkF m pc Ls (.long x :: .int j :: .ref a :: rest)) rfl rfl (hb hby hd)
  exact ⟨T', h', _, ⟨X', hx, hby, hml, hown, hZ, e'⟩, Fr.snoc X' N ge, W, A'.set W, fun k => k.of st⟩
theorem o_newI (B : Bx own bs ml Z p l e R s m args below meth c T h locs cells slots) (pc pc' : Nat) {aty : ArrayType} {ty : FieldType} {z : Int32} (k cap : Nat) (w : (Cond.arrayClass (newarray.typeOf aty)).before a0 Z = true) (hd : decode bs pc = .ok (.newarray aty, 2)) (hp : pc + 2 = pc') (hty : newarray.typeOf aty = ty) (hdv : defaultValue ty = .int 0) (hz : ¬ z < 0) (hk : z.toNatClampNeg = k) (hcap : k ≤ cap) (hb8 : cap * 8 ≤ 536870912) (hc : cells + 1 ≤ R.cells) (hl : slots + cap ≤ R.slots) :
    ∃ a T' h', a = h.size ∧ Bx own bs ml Z p l e R s m args below meth c T' h' locs (cells + 1) (slots + cap) ∧ Ext h h' ∧ AI Z h' a ty k (fun _ => 0) ∧ ∀ {P : Outcome → State → Prop}, OG p.tables e below P (T'.setTop (mkF m pc' Ls (.ref a :: rest))) → OG p.tables e below P (T.setTop (mkF m pc Ls (.int z :: rest))) := by
  subst hp hk
  obtain ⟨X, hx, hby, hml, hown, hZ, eT⟩ := B
  obtain ⟨T', h', cA, X', e', E, A, st⟩ := newP X hx hZ w eT (g := mkF m pc Ls (.int z :: rest)) rfl (hb hby hd) rfl hz (cap := cap) hcap hb8 hc hl
  rw [hty] at A
  refine ⟨h.size, T', h', rfl, ⟨X', hx, hby, hml, hown, hZ, e'⟩, E, ⟨_, A, sz_new _ _ _, (back32 hz).2, fun j hj => ?_⟩, fun k => k.of st⟩
  simp [newA, hj, hdv]
theorem o_newJ (B : Bx own bs ml Z p l e R s m args below meth c T h locs cells slots) (pc pc' : Nat) {aty : ArrayType} {z : Int32} (k cap : Nat) (w : (Cond.arrayClass (newarray.typeOf aty)).before a0 Z = true) (hd : decode bs pc = .ok (.newarray aty, 2)) (hp : pc + 2 = pc') (hty : newarray.typeOf aty = .long) (hz : ¬ z < 0) (hk : z.toNatClampNeg = k) (hcap : k ≤ cap) (hb8 : cap * 8 ≤ 536870912) (hc : cells + 1 ≤ R.cells) (hl : slots + cap ≤ R.slots) :
    ∃ a T' h', a = h.size ∧ Bx own bs ml Z p l e R s m args below meth c T' h' locs (cells + 1) (slots + cap) ∧ Ext h h' ∧ AJ Z h' a k (fun _ => 0) ∧ ∀ {P : Outcome → State → Prop}, OG p.tables e below P (T'.setTop (mkF m pc' Ls (.ref a :: rest))) → OG p.tables e below P (T.setTop (mkF m pc Ls (.int z :: rest))) := by
  subst hp hk
  obtain ⟨X, hx, hby, hml, hown, hZ, eT⟩ := B
  obtain ⟨T', h', cA, X', e', E, A, st⟩ := newP X hx hZ w eT (g := mkF m pc Ls (.int z :: rest)) rfl (hb hby hd) rfl hz (cap := cap) hcap hb8 hc hl
  rw [hty] at A
  refine ⟨h.size, T', h', rfl, ⟨X', hx, hby, hml, hown, hZ, e'⟩, E, ⟨_, A, sz_new _ _ _, (back32 hz).2, fun j hj => ?_⟩, fun k => k.of st⟩
  simp [newA, hj, defaultValue]
theorem o_getfield (B : Bx own bs ml Z p l e R s m args below meth c T h locs cells slots) {R0 O f d host : String} {index : Nat} {v : Value} (pc pc' : Nat) (hd : decode bs pc = .ok (.getfield index, 3)) (hp : pc + 3 = pc') (w : (Cond.fieldLink own index R0 f d).before a0 Z = true ∨ (Cond.fieldLinkNest own index R0 f d host).before a0 Z = true) (via : Via Z R0 O f d) (F : Fld Z h a O f d v) :
    ∃ T', Bx own bs ml Z p l e R s m args below meth c T' h locs cells slots ∧ ∀ {P : Outcome → State → Prop}, OG p.tables e below P (T'.setTop (mkF m pc' Ls (v :: rest))) → OG p.tables e below P (T.setTop (mkF m pc Ls (.ref a :: rest))) := by
  subst hp
  obtain ⟨X, hx, hby, hml, hown, hZ, eT⟩ := B
  obtain ⟨T', X', e', st⟩ := getF X hx hZ hown w via eT F (g := mkF m pc Ls (.ref a :: rest)) rfl rfl (hb hby hd)
  exact ⟨T', ⟨X', hx, hby, hml, hown, hZ, e'⟩, fun k => k.of st⟩
theorem o_putfield (B : Bx own bs ml Z p l e R s m args below meth c T h locs cells slots) (N : Fr n0 locs) (ge : n0 ≤ a) {R0 O f d host C : String} {index kk : Nat} {v old : Value} {ty : FieldType} (pc pc' : Nat) (hd : decode bs pc = .ok (.putfield index, 3)) (hp : pc + 3 = pc') (w : (Cond.fieldLink own index R0 f d).before a0 Z = true ∨ (Cond.fieldLinkNest own index R0 f d host).before a0 Z = true) (via : Via Z R0 O f d) (F : Fld Z h a O f d old) (E : Exa Z h a C) (L : (Cond.lays C O f d).before a0 Z = true ∨ ((Cond.laysFinal C O f d).before a0 Z = true ∧ own = O ∧ meth.name = "<init>")) (wi : (Cond.instantiable C kk).before a0 Z = true) (hty : parseFieldDescriptor d = some ty) (hn : narrow ty v = v) (hf : fits ty v = true) :
    ∃ T' h' L', Bx own bs ml Z p l e R s m args below meth c T' h' L' cells slots ∧ Fr n0 L' ∧ Wr h h' a (Jvm.RoadKit.slotOf Z O f d) v ∧ ∀ {P : Outcome → State → Prop}, OG p.tables e below P (T'.setTop (mkF m pc' Ls rest)) → OG p.tables e below P (T.setTop (mkF m pc Ls (v :: .ref a :: rest))) := by
  subst hp
  obtain ⟨X, hx, hby, hml, hown, hZ, eT⟩ := B
  obtain ⟨T', h', X', e', W, st⟩ := putF X hx hZ hown w via eT F E L wi hty hn hf (g := mkF m pc Ls (v :: .ref a :: rest)) rfl rfl (hb hby hd)
  exact ⟨T', h', _, ⟨X', hx, hby, hml, hown, hZ, e'⟩, Fr.snoc X' N ge, W, fun k => k.of st⟩
theorem o_new (B : Bx own bs ml Z p l e R s m args below meth c T h locs cells slots) {C : String} {index : Nat} (pc pc' : Nat) (hd : decode bs pc = .ok (.new index, 3)) (hp : pc + 3 = pc') (w : (Cond.classLink own index C).before a0 Z = true) (wi : (Cond.instantiable C n).before a0 Z = true) (wz : (Cond.initialized C).before a0 Z = true) (hc : cells + 1 ≤ R.cells) (hl : slots + n ≤ R.slots) :
    ∃ a T' h', a = h.size ∧ Bx own bs ml Z p l e R s m args below meth c T' h' locs (cells + 1) (slots + n) ∧ Ext h h' ∧ Exa Z h' a C ∧ (∀ {O nm d : String} {ty : FieldType}, Laid Z a0 C O nm d → parseFieldDescriptor d = some ty → Fld Z h' a O nm d (defaultValue ty)) ∧ ∀ {P : Outcome → State → Prop}, OG p.tables e below P (T'.setTop (mkF m pc' Ls (.ref a :: rest))) → OG p.tables e below P (T.setTop (mkF m pc Ls rest)) := by
  subst hp
  obtain ⟨X, hx, hby, hml, hown, hZ, eT⟩ := B
  obtain ⟨T', h', X', e', E, A, D, -, st⟩ := newO X hx hZ hown w wi wz eT (g := mkF m pc Ls rest) rfl (hb hby hd) hc hl
  exact ⟨h.size, T', h', rfl, ⟨X', hx, hby, hml, hown, hZ, e'⟩, E, A, D, fun k => k.of st⟩
theorem o_initO (B : Bx own bs ml Z p l e R s m args below meth c T h locs cells slots) {index : Nat} (pc pc' : Nat) (hd : decode bs pc = .ok (.invokespecial index, 3)) (hp : pc + 3 = pc') (w1 : (Cond.methodLink own index Lib.objectInit).before a0 Z = true) (w2 : (Cond.instanceMethod Lib.objectInit).before a0 Z = true) (w3 : (Cond.code Lib.objectInit ⟨#[0xb1]⟩ 1 none).before a0 Z = true) (hsz : Ls.size = ml) (W : Nat) (hW : (rest.map fun v => v.category).sum ≤ W) (hf : 1 ≤ R.frames) (hl : W + 12 ≤ R.locals) :
    ∃ T', Bx own bs ml Z p l e R s m args below meth c T' h locs cells slots ∧ ∀ {P : Outcome → State → Prop}, OG p.tables e below P (T'.setTop (mkF m pc' Ls rest)) → OG p.tables e below P (T.setTop (mkF m pc Ls (.ref a :: rest))) := by
  subst hp
  obtain ⟨X, hx, hby, hml, hown, hZ, eT⟩ := B
  obtain ⟨T', X', e', st⟩ := initO X hx hZ hown w1 w2 w3 eT (g := mkF m pc Ls (.ref a :: rest)) rfl (by rw [hml]; exact hsz) rfl (hb hby hd) hf (W := W) (by simpa using hW) hl
  exact ⟨T', ⟨X', hx, hby, hml, hown, hZ, e'⟩, fun k => k.of st⟩
theorem o_callN {index : Nat} {y : MethodName} {bytes : ByteArray} {maxL : Nat} {rm : Room} {as' : Array Value} {Q : Option Value → Heap → List Loc → Prop} {ps : List FieldType} {rt : Option FieldType}
    (B : Bx own bs ml Z p l e R s m args below meth c T h locs cells slots) (pc pc' : Nat) (hd : decode bs pc = .ok (.invokespecial index, 3)) (hp : pc + 3 = pc') (hy1 : y.name = "<init>")
    (w1 : (Cond.methodLink own index y).before a0 Z = true) (w2 : (Cond.instanceMethod y).before a0 Z = true) (w3 : (Cond.initialized y.cls).before a0 Z = true) (w4 : (Cond.code y bytes maxL none).before a0 Z = true) (hy : y.cls ≠ "java/lang/invoke/MethodHandle" ∧ y.cls ≠ "java/lang/invoke/VarHandle")
    (hM : Met l Z y bytes maxL none rm as' h Q) (W : Nat) (argsL rest : List Value) (hpd : parseMethodDescriptor y.desc = some ⟨ps, rt⟩) (hlen : argsL.length = ps.length) (has : (.ref a :: argsL).toArray = as') {st : List Value} (hst : st = argsL.reverse ++ .ref a :: rest) (hsz : Ls.size = ml)
    (hW : (rest.map fun v => v.category).sum ≤ W) (hf : rm.frames + 1 ≤ R.frames) (hl : W + (maxL + 11) + rm.locals ≤ R.locals) (hcl : cells + rm.cells ≤ R.cells) (hsl : slots + rm.slots ≤ R.slots) :
    ∃ v T' L, Bx own bs ml Z p l e R s m args below meth c T' T'.heap (locs ++ L) (cells + rm.cells) (slots + rm.slots) ∧ Q v T'.heap L ∧
      ∀ {P : Outcome → State → Prop}, OG p.tables e below P (T'.setTop (mkF m pc' Ls (v.toList ++ rest))) → OG p.tables e below P (T.setTop (mkF m pc Ls st)) := by
  subst hp hst
  obtain ⟨X, hx, hby, hml, hown, hZ, eT⟩ := B
  obtain ⟨v, vm1, ⟨T', L', k', n'⟩, -, X', ⟨Lc, hQ, l', y', z'⟩, st⟩ := X.specialBack hx (y := y) hy1 hown (mvT hZ w1) (mvT hZ w2) (mvT hZ w4) hy (backOf (W := W) hM hZ w4 w3 hf hl) (g := mkF m pc Ls (argsL.reverse ++ .ref a :: rest)) rfl (by rw [hml]; exact hsz) (Steps.refl _) (a := a) (argsL := argsL) (rest := rest) (lenOf hpd hlen) rfl (by simpa using hW) (hb hby hd) (fun _ _ => ⟨has, eT, hcl, hsl⟩)
  dsimp only [Pt.U, Pt.locs, Pt.cells, Pt.slots] at X' l' y' z' st hQ
  subst l' y' z'
  exact ⟨v, T', Lc, ⟨X', hx, hby, hml, hown, hZ, rfl⟩, hQ, fun k => k.of fun t q => st.trans q⟩
theorem o_callV {index : Nat} {y : MethodName} {C : String} {bytes : ByteArray} {maxL : Nat} {ret : Option FieldType} {rm : Room} {as' : Array Value} {Q : Option Value → Heap → List Loc → Prop} {ps : List FieldType} {rt : Option FieldType}
    (B : Bx own bs ml Z p l e R s m args below meth c T h locs cells slots) (pc pc' : Nat) (hd : decode bs pc = .ok (.invokevirtual index, 3)) (hp : pc + 3 = pc')
    (w1 : (Cond.methodLink own index y).before a0 Z = true) (w2 : (Cond.declares y).before a0 Z = true) (w5 : (Cond.selects C y y).before a0 Z = true) (w6 : (Cond.instanceMethod y).before a0 Z = true) (w3 : (Cond.initialized y.cls).before a0 Z = true) (w4 : (Cond.code y bytes maxL ret).before a0 Z = true) (hy : y.cls ≠ "java/lang/invoke/MethodHandle" ∧ y.cls ≠ "java/lang/invoke/VarHandle") (E : Exa Z h a C)
    (hM : Met l Z y bytes maxL ret rm as' h Q) (W : Nat) (argsL rest : List Value) (hpd : parseMethodDescriptor y.desc = some ⟨ps, rt⟩) (hlen : argsL.length = ps.length) (has : (.ref a :: argsL).toArray = as') {st : List Value} (hst : st = argsL.reverse ++ .ref a :: rest) (hsz : Ls.size = ml)
    (hW : (rest.map fun v => v.category).sum ≤ W) (hf : rm.frames + 1 ≤ R.frames) (hl : W + (maxL + 11) + rm.locals ≤ R.locals) (hcl : cells + rm.cells ≤ R.cells) (hsl : slots + rm.slots ≤ R.slots) :
    ∃ v T' L, Bx own bs ml Z p l e R s m args below meth c T' T'.heap (locs ++ L) (cells + rm.cells) (slots + rm.slots) ∧ Q v T'.heap L ∧
      ∀ {P : Outcome → State → Prop}, OG p.tables e below P (T'.setTop (mkF m pc' Ls (v.toList ++ rest))) → OG p.tables e below P (T.setTop (mkF m pc Ls st)) := by
  subst hp hst
  obtain ⟨X, hx, hby, hml, hown, hZ, eT⟩ := B
  obtain ⟨cq, kq, qa, qb, qc⟩ := isOf hZ eT E
  obtain ⟨v, vm1, ⟨T', L', k', n'⟩, -, X', ⟨Lc, hQ, l', y', z'⟩, st⟩ := X.virtualBack hx (y := y) (z := y) hown (mvT hZ w1) (mvT hZ w2) (notFace_of_selects (args := #[]) (mvT hZ w5)) (mvT hZ w5) (mvT hZ w6) hy (backOf (W := W) hM hZ w4 w3 hf hl) qa qc (g := mkF m pc Ls (argsL.reverse ++ .ref a :: rest)) rfl (by rw [hml]; exact hsz) (Steps.refl _) (argsL := argsL) (rest := rest) (lenOf hpd hlen) rfl (by simpa using hW) (hb hby hd) (fun _ _ => ⟨has, eT, hcl, hsl⟩)
  dsimp only [Pt.U, Pt.locs, Pt.cells, Pt.slots] at X' l' y' z' st hQ
  subst l' y' z'
  exact ⟨v, T', Lc, ⟨X', hx, hby, hml, hown, hZ, rfl⟩, hQ, fun k => k.of fun t q => st.trans q⟩
theorem o_callVP {index : Nat} {y : MethodName} {C : String} {bytes : ByteArray} {maxL : Nat} {ret : Option FieldType} {fr lo : Nat} {as' : Array Value} {r : Value} {ps : List FieldType} {rt : Option FieldType}
    (B : Bx own bs ml Z p l e R s m args below meth c T h locs cells slots) (pc pc' : Nat) (hd : decode bs pc = .ok (.invokevirtual index, 3)) (hp : pc + 3 = pc')
    (w1 : (Cond.methodLink own index y).before a0 Z = true) (w2 : (Cond.declares y).before a0 Z = true) (w5 : (Cond.selects C y y).before a0 Z = true) (w6 : (Cond.instanceMethod y).before a0 Z = true) (w3 : (Cond.initialized y.cls).before a0 Z = true) (w4 : (Cond.code y bytes maxL ret).before a0 Z = true) (hy : y.cls ≠ "java/lang/invoke/MethodHandle" ∧ y.cls ≠ "java/lang/invoke/VarHandle") (E : Exa Z h a C)
    (hM : Met l Z y bytes maxL ret ({ frames := fr, cells := 0, slots := 0, locals := lo } : Room) as' h (Pu (some r) h)) (W : Nat) (argsL rest : List Value) (hpd : parseMethodDescriptor y.desc = some ⟨ps, rt⟩) (hlen : argsL.length = ps.length) (has : (.ref a :: argsL).toArray = as') {st : List Value} (hst : st = argsL.reverse ++ .ref a :: rest) (hsz : Ls.size = ml)
    (hW : (rest.map fun v => v.category).sum ≤ W) (hf : fr + 1 ≤ R.frames) (hl : W + (maxL + 11) + lo ≤ R.locals) (hcl : cells ≤ R.cells) (hsl : slots ≤ R.slots) :
    ∃ T', Bx own bs ml Z p l e R s m args below meth c T' h locs cells slots ∧
      ∀ {P : Outcome → State → Prop}, OG p.tables e below P (T'.setTop (mkF m pc' Ls (r :: rest))) → OG p.tables e below P (T.setTop (mkF m pc Ls st)) := by
  obtain ⟨v, T', L, B', ⟨rfl, rfl, hh⟩, st⟩ := o_callV B pc pc' hd hp w1 w2 w5 w6 w3 w4 hy E hM W argsL rest hpd hlen has hst hsz hW hf hl hcl hsl
  rw [hh, List.append_nil] at B'
  exact ⟨T', B', st⟩
theorem o_callNP {index : Nat} {y : MethodName} {bytes : ByteArray} {maxL : Nat} {fr lo : Nat} {as' : Array Value} {ps : List FieldType} {rt : Option FieldType}
    (B : Bx own bs ml Z p l e R s m args below meth c T h locs cells slots) (pc pc' : Nat) (hd : decode bs pc = .ok (.invokespecial index, 3)) (hp : pc + 3 = pc') (hy1 : y.name = "<init>")
    (w1 : (Cond.methodLink own index y).before a0 Z = true) (w2 : (Cond.instanceMethod y).before a0 Z = true) (w3 : (Cond.initialized y.cls).before a0 Z = true) (w4 : (Cond.code y bytes maxL none).before a0 Z = true) (hy : y.cls ≠ "java/lang/invoke/MethodHandle" ∧ y.cls ≠ "java/lang/invoke/VarHandle")
    (hM : Met l Z y bytes maxL none ({ frames := fr, cells := 0, slots := 0, locals := lo } : Room) as' h (Pu none h)) (W : Nat) (argsL rest : List Value) (hpd : parseMethodDescriptor y.desc = some ⟨ps, rt⟩) (hlen : argsL.length = ps.length) (has : (.ref a :: argsL).toArray = as') {st : List Value} (hst : st = argsL.reverse ++ .ref a :: rest) (hsz : Ls.size = ml)
    (hW : (rest.map fun v => v.category).sum ≤ W) (hf : fr + 1 ≤ R.frames) (hl : W + (maxL + 11) + lo ≤ R.locals) (hcl : cells ≤ R.cells) (hsl : slots ≤ R.slots) :
    ∃ T', Bx own bs ml Z p l e R s m args below meth c T' h locs cells slots ∧
      ∀ {P : Outcome → State → Prop}, OG p.tables e below P (T'.setTop (mkF m pc' Ls rest)) → OG p.tables e below P (T.setTop (mkF m pc Ls st)) := by
  obtain ⟨v, T', L, B', ⟨rfl, rfl, hh⟩, st⟩ := o_callN B pc pc' hd hp hy1 w1 w2 w3 w4 hy hM W argsL rest hpd hlen has hst hsz hW hf hl hcl hsl
  rw [hh, List.append_nil] at B'
  exact ⟨T', B', st⟩
end Walk2
theorem d1_0 : decode prog_58_method_9_code 0 = .ok (.iload_n 1, 1) := by decide +kernel
theorem d1_1 : decode prog_58_method_9_code 1 = .ok (.i2l, 1) := by decide +kernel
theorem d1_2 : decode prog_58_method_9_code 2 = .ok (.lstore_n 2, 1) := by decide +kernel
theorem d1_3 : decode prog_58_method_9_code 3 = .ok (.iconst 0, 1) := by decide +kernel
theorem d1_4 : decode prog_58_method_9_code 4 = .ok (.istore 4, 2) := by decide +kernel
theorem d1_6 : decode prog_58_method_9_code 6 = .ok (.iload 4, 2) := by decide +kernel
theorem d1_8 : decode prog_58_method_9_code 8 = .ok (.iload_n 1, 1) := by decide +kernel
theorem d1_9 : decode prog_58_method_9_code 9 = .ok (.if_icmp .ge 21, 3) := by decide +kernel
theorem d1_12 : decode prog_58_method_9_code 12 = .ok (.lload_n 2, 1) := by decide +kernel
theorem d1_13 : decode prog_58_method_9_code 13 = .ok (.aload_n 0, 1) := by decide +kernel
theorem d1_14 : decode prog_58_method_9_code 14 = .ok (.iload 4, 2) := by decide +kernel
theorem d1_16 : decode prog_58_method_9_code 16 = .ok (.caload, 1) := by decide +kernel
theorem d1_17 : decode prog_58_method_9_code 17 = .ok (.i2l, 1) := by decide +kernel
theorem d1_18 : decode prog_58_method_9_code 18 = .ok (.ladd, 1) := by decide +kernel
theorem d1_19 : decode prog_58_method_9_code 19 = .ok (.ldc2_w 83, 3) := by decide +kernel
theorem d1_22 : decode prog_58_method_9_code 22 = .ok (.lmul, 1) := by decide +kernel
theorem d1_23 : decode prog_58_method_9_code 23 = .ok (.lstore_n 2, 1) := by decide +kernel
theorem d1_24 : decode prog_58_method_9_code 24 = .ok (.iinc 4 1, 3) := by decide +kernel
theorem d1_27 : decode prog_58_method_9_code 27 = .ok (.goto (-21), 3) := by decide +kernel
theorem d1_30 : decode prog_58_method_9_code 30 = .ok (.lload_n 2, 1) := by decide +kernel
theorem d1_31 : decode prog_58_method_9_code 31 = .ok (.bipush 32, 2) := by decide +kernel
theorem d1_33 : decode prog_58_method_9_code 33 = .ok (.lushr, 1) := by decide +kernel
theorem d1_34 : decode prog_58_method_9_code 34 = .ok (.l2i, 1) := by decide +kernel
theorem d1_35 : decode prog_58_method_9_code 35 = .ok (.ireturn, 1) := by decide +kernel
theorem pl1 : plainFor (⟨"com/example/micro_ranker/microranker/engine/TermDictionary", "hash", "([CI)I"⟩ : MethodName) = true := by first | exact plainFor_of_name (by first | (simp [plainName, overriddenIn]; done) | decide +kernel) | decide +kernel
def f1_0 (g : Nat → Int32) : Int32 := (0 : Int32)
set_option maxRecDepth 65536 in
set_option maxHeartbeats 40000000 in
theorem rm1_0 (l : Launch) (Z : State) (a0 : Array Value) (hw : ∀ d ∈ tables_1, d.before a0 Z = true) (g : Nat → Int32) (x0 : Addr) (h0 : Heap) (A0 : AI Z h0 x0 .char 5 g) :
    Met l Z (⟨"com/example/micro_ranker/microranker/engine/TermDictionary", "hash", "([CI)I"⟩ : MethodName) prog_58_method_9_code 5 (some .int) ({ frames := 0, cells := 0, slots := 0, locals := 0 } : Room) #[(.ref x0), (.int (0 : Int32))] h0 (Pu (some (.int (f1_0 g))) h0) := by
  refine enter pl1 #[.val (.ref x0), .val (.int (0 : Int32)), .unset, .unset, .unset] rfl ?_
  intro p e s m below meth c T B hret hlk hnm
  · refine o_iloadN B 0 1 (v := (0 : Int32)) d1_0 rfl rfl ?_
    refine o_i2l B 1 2 d1_1 rfl ?_
    refine o_topJ (show (0 : Int32).toInt64 = (0 : Int64) by decide) ?_
    refine o_lstoreN B 2 3 (l' := #[.val (.ref x0), .val (.int (0 : Int32)), .val (.long (0 : Int64)), .second, .unset]) d1_2 rfl rfl ?_
    refine o_iconst B 3 4 (0 : Int32) d1_3 rfl (by decide) ?_
    refine o_istore B 4 6 (l' := #[.val (.ref x0), .val (.int (0 : Int32)), .val (.long (0 : Int64)), .second, .val (.int (0 : Int32))]) d1_4 rfl rfl ?_
    refine o_iload B 6 8 (v := (0 : Int32)) d1_6 rfl rfl ?_
    refine o_iloadN B 8 9 (v := (0 : Int32)) d1_8 rfl rfl ?_
    refine o_icY B 9 30 d1_9 (XT.ii_ge_t (by decide)) (by decide) (by decide) ?_
    refine o_lloadN B 30 31 (v := (0 : Int64)) d1_30 rfl rfl ?_
    refine o_bipush B 31 33 (32 : Int32) d1_31 rfl (by decide) ?_
    refine o_lushr B 33 34 d1_33 rfl ?_
    refine o_topJ (show (XT.ushrL (0 : Int64) (32 : Int32)) = (0 : Int64) by decide) ?_
    refine o_l2i B 34 35 d1_34 rfl ?_
    refine o_topI (show (0 : Int64).toInt32 = (0 : Int32) by decide) ?_
    refine o_retI B 35 d1_35 hret hlk (by decide) (by decide) ⟨(congrArg (fun z => some (Value.int z)) (show f1_0 g = (0 : Int32) from rfl)).symm, rfl, rfl⟩
def q1_1_1 (g : Nat → Int32) : Int64 := (((1 : Int64) + (g 0).toInt64) * (-7046029254386353131 : Int64))
def f1_1 (g : Nat → Int32) : Int32 := (XT.ushrL (q1_1_1 g) (32 : Int32)).toInt32
set_option maxRecDepth 65536 in
set_option maxHeartbeats 40000000 in
theorem rm1_1 (l : Launch) (Z : State) (a0 : Array Value) (hw : ∀ d ∈ tables_1, d.before a0 Z = true) (g : Nat → Int32) (x0 : Addr) (h0 : Heap) (A0 : AI Z h0 x0 .char 5 g) :
    Met l Z (⟨"com/example/micro_ranker/microranker/engine/TermDictionary", "hash", "([CI)I"⟩ : MethodName) prog_58_method_9_code 5 (some .int) ({ frames := 0, cells := 0, slots := 0, locals := 0 } : Room) #[(.ref x0), (.int (1 : Int32))] h0 (Pu (some (.int (f1_1 g))) h0) := by
  refine enter pl1 #[.val (.ref x0), .val (.int (1 : Int32)), .unset, .unset, .unset] rfl ?_
  intro p e s m below meth c T B hret hlk hnm
  · refine o_iloadN B 0 1 (v := (1 : Int32)) d1_0 rfl rfl ?_
    refine o_i2l B 1 2 d1_1 rfl ?_
    refine o_topJ (show (1 : Int32).toInt64 = (1 : Int64) by decide) ?_
    refine o_lstoreN B 2 3 (l' := #[.val (.ref x0), .val (.int (1 : Int32)), .val (.long (1 : Int64)), .second, .unset]) d1_2 rfl rfl ?_
    refine o_iconst B 3 4 (0 : Int32) d1_3 rfl (by decide) ?_
    refine o_istore B 4 6 (l' := #[.val (.ref x0), .val (.int (1 : Int32)), .val (.long (1 : Int64)), .second, .val (.int (0 : Int32))]) d1_4 rfl rfl ?_
    refine o_iload B 6 8 (v := (0 : Int32)) d1_6 rfl rfl ?_
    refine o_iloadN B 8 9 (v := (1 : Int32)) d1_8 rfl rfl ?_
    refine o_icN B 9 12 d1_9 rfl (XT.ii_ge_f (by decide)) ?_
    refine o_lloadN B 12 13 (v := (1 : Int64)) d1_12 rfl rfl ?_
    refine o_aloadN B 13 14 (v := (.ref x0)) d1_13 rfl rfl rfl ?_
    refine o_iload B 14 16 (v := (0 : Int32)) d1_14 rfl rfl ?_
    refine o_caload B 16 17 A0 0 (g 0) d1_16 rfl (by decide) (by decide) (by decide) rfl ?_
    refine o_i2l B 17 18 d1_17 rfl ?_
    refine o_ladd B 18 19 d1_18 rfl ?_
    refine o_ldc2 B 19 22 d1_19 rfl (hw _ (List.mem_of_getElem? (i := 9) rfl)) ?_
    refine o_lmul B 22 23 d1_22 rfl ?_
    refine o_lstoreN B 23 24 (l' := #[.val (.ref x0), .val (.int (1 : Int32)), .val (.long (q1_1_1 g)), .second, .val (.int (0 : Int32))]) d1_23 rfl rfl ?_
    refine o_iincC B 24 27 (l' := #[.val (.ref x0), .val (.int (1 : Int32)), .val (.long (q1_1_1 g)), .second, .val (.int (1 : Int32))]) (1 : Int32) (1 : Int32) d1_24 rfl (by decide) rfl (by decide) rfl ?_
    refine o_goto B 27 6 d1_27 (by decide) (by decide) ?_
    refine o_iload B 6 8 (v := (1 : Int32)) d1_6 rfl rfl ?_
    refine o_iloadN B 8 9 (v := (1 : Int32)) d1_8 rfl rfl ?_
    refine o_icY B 9 30 d1_9 (XT.ii_ge_t (by decide)) (by decide) (by decide) ?_
    refine o_lloadN B 30 31 (v := (q1_1_1 g)) d1_30 rfl rfl ?_
    refine o_bipush B 31 33 (32 : Int32) d1_31 rfl (by decide) ?_
    refine o_lushr B 33 34 d1_33 rfl ?_
    refine o_l2i B 34 35 d1_34 rfl ?_
    refine o_retI B 35 d1_35 hret hlk (by decide) (by decide) ⟨(congrArg (fun z => some (Value.int z)) (show f1_1 g = (XT.ushrL (q1_1_1 g) (32 : Int32)).toInt32 from rfl)).symm, rfl, rfl⟩
def q1_2_1 (g : Nat → Int32) : Int64 := (((2 : Int64) + (g 0).toInt64) * (-7046029254386353131 : Int64))
def q1_2_2 (g : Nat → Int32) : Int64 := (((q1_2_1 g) + (g 1).toInt64) * (-7046029254386353131 : Int64))
def f1_2 (g : Nat → Int32) : Int32 := (XT.ushrL (q1_2_2 g) (32 : Int32)).toInt32
set_option maxRecDepth 65536 in
set_option maxHeartbeats 40000000 in
theorem rm1_2 (l : Launch) (Z : State) (a0 : Array Value) (hw : ∀ d ∈ tables_1, d.before a0 Z = true) (g : Nat → Int32) (x0 : Addr) (h0 : Heap) (A0 : AI Z h0 x0 .char 5 g) :
    Met l Z (⟨"com/example/micro_ranker/microranker/engine/TermDictionary", "hash", "([CI)I"⟩ : MethodName) prog_58_method_9_code 5 (some .int) ({ frames := 0, cells := 0, slots := 0, locals := 0 } : Room) #[(.ref x0), (.int (2 : Int32))] h0 (Pu (some (.int (f1_2 g))) h0) := by
  refine enter pl1 #[.val (.ref x0), .val (.int (2 : Int32)), .unset, .unset, .unset] rfl ?_
  intro p e s m below meth c T B hret hlk hnm
  · refine o_iloadN B 0 1 (v := (2 : Int32)) d1_0 rfl rfl ?_
    refine o_i2l B 1 2 d1_1 rfl ?_
    refine o_topJ (show (2 : Int32).toInt64 = (2 : Int64) by decide) ?_
    refine o_lstoreN B 2 3 (l' := #[.val (.ref x0), .val (.int (2 : Int32)), .val (.long (2 : Int64)), .second, .unset]) d1_2 rfl rfl ?_
    refine o_iconst B 3 4 (0 : Int32) d1_3 rfl (by decide) ?_
    refine o_istore B 4 6 (l' := #[.val (.ref x0), .val (.int (2 : Int32)), .val (.long (2 : Int64)), .second, .val (.int (0 : Int32))]) d1_4 rfl rfl ?_
    refine o_iload B 6 8 (v := (0 : Int32)) d1_6 rfl rfl ?_
    refine o_iloadN B 8 9 (v := (2 : Int32)) d1_8 rfl rfl ?_
    refine o_icN B 9 12 d1_9 rfl (XT.ii_ge_f (by decide)) ?_
    refine o_lloadN B 12 13 (v := (2 : Int64)) d1_12 rfl rfl ?_
    refine o_aloadN B 13 14 (v := (.ref x0)) d1_13 rfl rfl rfl ?_
    refine o_iload B 14 16 (v := (0 : Int32)) d1_14 rfl rfl ?_
    refine o_caload B 16 17 A0 0 (g 0) d1_16 rfl (by decide) (by decide) (by decide) rfl ?_
    refine o_i2l B 17 18 d1_17 rfl ?_
    refine o_ladd B 18 19 d1_18 rfl ?_
    refine o_ldc2 B 19 22 d1_19 rfl (hw _ (List.mem_of_getElem? (i := 9) rfl)) ?_
    refine o_lmul B 22 23 d1_22 rfl ?_
    refine o_lstoreN B 23 24 (l' := #[.val (.ref x0), .val (.int (2 : Int32)), .val (.long (q1_2_1 g)), .second, .val (.int (0 : Int32))]) d1_23 rfl rfl ?_
    refine o_iincC B 24 27 (l' := #[.val (.ref x0), .val (.int (2 : Int32)), .val (.long (q1_2_1 g)), .second, .val (.int (1 : Int32))]) (1 : Int32) (1 : Int32) d1_24 rfl (by decide) rfl (by decide) rfl ?_
    refine o_goto B 27 6 d1_27 (by decide) (by decide) ?_
    refine o_iload B 6 8 (v := (1 : Int32)) d1_6 rfl rfl ?_
    refine o_iloadN B 8 9 (v := (2 : Int32)) d1_8 rfl rfl ?_
    refine o_icN B 9 12 d1_9 rfl (XT.ii_ge_f (by decide)) ?_
    refine o_lloadN B 12 13 (v := (q1_2_1 g)) d1_12 rfl rfl ?_
    refine o_aloadN B 13 14 (v := (.ref x0)) d1_13 rfl rfl rfl ?_
    refine o_iload B 14 16 (v := (1 : Int32)) d1_14 rfl rfl ?_
    refine o_caload B 16 17 A0 1 (g 1) d1_16 rfl (by decide) (by decide) (by decide) rfl ?_
    refine o_i2l B 17 18 d1_17 rfl ?_
    refine o_ladd B 18 19 d1_18 rfl ?_
    refine o_ldc2 B 19 22 d1_19 rfl (hw _ (List.mem_of_getElem? (i := 9) rfl)) ?_
    refine o_lmul B 22 23 d1_22 rfl ?_
    refine o_lstoreN B 23 24 (l' := #[.val (.ref x0), .val (.int (2 : Int32)), .val (.long (q1_2_2 g)), .second, .val (.int (1 : Int32))]) d1_23 rfl rfl ?_
    refine o_iincC B 24 27 (l' := #[.val (.ref x0), .val (.int (2 : Int32)), .val (.long (q1_2_2 g)), .second, .val (.int (2 : Int32))]) (1 : Int32) (2 : Int32) d1_24 rfl (by decide) rfl (by decide) rfl ?_
    refine o_goto B 27 6 d1_27 (by decide) (by decide) ?_
    refine o_iload B 6 8 (v := (2 : Int32)) d1_6 rfl rfl ?_
    refine o_iloadN B 8 9 (v := (2 : Int32)) d1_8 rfl rfl ?_
    refine o_icY B 9 30 d1_9 (XT.ii_ge_t (by decide)) (by decide) (by decide) ?_
    refine o_lloadN B 30 31 (v := (q1_2_2 g)) d1_30 rfl rfl ?_
    refine o_bipush B 31 33 (32 : Int32) d1_31 rfl (by decide) ?_
    refine o_lushr B 33 34 d1_33 rfl ?_
    refine o_l2i B 34 35 d1_34 rfl ?_
    refine o_retI B 35 d1_35 hret hlk (by decide) (by decide) ⟨(congrArg (fun z => some (Value.int z)) (show f1_2 g = (XT.ushrL (q1_2_2 g) (32 : Int32)).toInt32 from rfl)).symm, rfl, rfl⟩
def q1_3_1 (g : Nat → Int32) : Int64 := (((3 : Int64) + (g 0).toInt64) * (-7046029254386353131 : Int64))
def q1_3_2 (g : Nat → Int32) : Int64 := (((q1_3_1 g) + (g 1).toInt64) * (-7046029254386353131 : Int64))
def q1_3_3 (g : Nat → Int32) : Int64 := (((q1_3_2 g) + (g 2).toInt64) * (-7046029254386353131 : Int64))
def f1_3 (g : Nat → Int32) : Int32 := (XT.ushrL (q1_3_3 g) (32 : Int32)).toInt32
set_option maxRecDepth 65536 in
set_option maxHeartbeats 40000000 in
theorem rm1_3 (l : Launch) (Z : State) (a0 : Array Value) (hw : ∀ d ∈ tables_1, d.before a0 Z = true) (g : Nat → Int32) (x0 : Addr) (h0 : Heap) (A0 : AI Z h0 x0 .char 5 g) :
    Met l Z (⟨"com/example/micro_ranker/microranker/engine/TermDictionary", "hash", "([CI)I"⟩ : MethodName) prog_58_method_9_code 5 (some .int) ({ frames := 0, cells := 0, slots := 0, locals := 0 } : Room) #[(.ref x0), (.int (3 : Int32))] h0 (Pu (some (.int (f1_3 g))) h0) := by
  refine enter pl1 #[.val (.ref x0), .val (.int (3 : Int32)), .unset, .unset, .unset] rfl ?_
  intro p e s m below meth c T B hret hlk hnm
  · refine o_iloadN B 0 1 (v := (3 : Int32)) d1_0 rfl rfl ?_
    refine o_i2l B 1 2 d1_1 rfl ?_
    refine o_topJ (show (3 : Int32).toInt64 = (3 : Int64) by decide) ?_
    refine o_lstoreN B 2 3 (l' := #[.val (.ref x0), .val (.int (3 : Int32)), .val (.long (3 : Int64)), .second, .unset]) d1_2 rfl rfl ?_
    refine o_iconst B 3 4 (0 : Int32) d1_3 rfl (by decide) ?_
    refine o_istore B 4 6 (l' := #[.val (.ref x0), .val (.int (3 : Int32)), .val (.long (3 : Int64)), .second, .val (.int (0 : Int32))]) d1_4 rfl rfl ?_
    refine o_iload B 6 8 (v := (0 : Int32)) d1_6 rfl rfl ?_
    refine o_iloadN B 8 9 (v := (3 : Int32)) d1_8 rfl rfl ?_
    refine o_icN B 9 12 d1_9 rfl (XT.ii_ge_f (by decide)) ?_
    refine o_lloadN B 12 13 (v := (3 : Int64)) d1_12 rfl rfl ?_
    refine o_aloadN B 13 14 (v := (.ref x0)) d1_13 rfl rfl rfl ?_
    refine o_iload B 14 16 (v := (0 : Int32)) d1_14 rfl rfl ?_
    refine o_caload B 16 17 A0 0 (g 0) d1_16 rfl (by decide) (by decide) (by decide) rfl ?_
    refine o_i2l B 17 18 d1_17 rfl ?_
    refine o_ladd B 18 19 d1_18 rfl ?_
    refine o_ldc2 B 19 22 d1_19 rfl (hw _ (List.mem_of_getElem? (i := 9) rfl)) ?_
    refine o_lmul B 22 23 d1_22 rfl ?_
    refine o_lstoreN B 23 24 (l' := #[.val (.ref x0), .val (.int (3 : Int32)), .val (.long (q1_3_1 g)), .second, .val (.int (0 : Int32))]) d1_23 rfl rfl ?_
    refine o_iincC B 24 27 (l' := #[.val (.ref x0), .val (.int (3 : Int32)), .val (.long (q1_3_1 g)), .second, .val (.int (1 : Int32))]) (1 : Int32) (1 : Int32) d1_24 rfl (by decide) rfl (by decide) rfl ?_
    refine o_goto B 27 6 d1_27 (by decide) (by decide) ?_
    refine o_iload B 6 8 (v := (1 : Int32)) d1_6 rfl rfl ?_
    refine o_iloadN B 8 9 (v := (3 : Int32)) d1_8 rfl rfl ?_
    refine o_icN B 9 12 d1_9 rfl (XT.ii_ge_f (by decide)) ?_
    refine o_lloadN B 12 13 (v := (q1_3_1 g)) d1_12 rfl rfl ?_
    refine o_aloadN B 13 14 (v := (.ref x0)) d1_13 rfl rfl rfl ?_
    refine o_iload B 14 16 (v := (1 : Int32)) d1_14 rfl rfl ?_
    refine o_caload B 16 17 A0 1 (g 1) d1_16 rfl (by decide) (by decide) (by decide) rfl ?_
    refine o_i2l B 17 18 d1_17 rfl ?_
    refine o_ladd B 18 19 d1_18 rfl ?_
    refine o_ldc2 B 19 22 d1_19 rfl (hw _ (List.mem_of_getElem? (i := 9) rfl)) ?_
    refine o_lmul B 22 23 d1_22 rfl ?_
    refine o_lstoreN B 23 24 (l' := #[.val (.ref x0), .val (.int (3 : Int32)), .val (.long (q1_3_2 g)), .second, .val (.int (1 : Int32))]) d1_23 rfl rfl ?_
    refine o_iincC B 24 27 (l' := #[.val (.ref x0), .val (.int (3 : Int32)), .val (.long (q1_3_2 g)), .second, .val (.int (2 : Int32))]) (1 : Int32) (2 : Int32) d1_24 rfl (by decide) rfl (by decide) rfl ?_
    refine o_goto B 27 6 d1_27 (by decide) (by decide) ?_
    refine o_iload B 6 8 (v := (2 : Int32)) d1_6 rfl rfl ?_
    refine o_iloadN B 8 9 (v := (3 : Int32)) d1_8 rfl rfl ?_
    refine o_icN B 9 12 d1_9 rfl (XT.ii_ge_f (by decide)) ?_
    refine o_lloadN B 12 13 (v := (q1_3_2 g)) d1_12 rfl rfl ?_
    refine o_aloadN B 13 14 (v := (.ref x0)) d1_13 rfl rfl rfl ?_
    refine o_iload B 14 16 (v := (2 : Int32)) d1_14 rfl rfl ?_
    refine o_caload B 16 17 A0 2 (g 2) d1_16 rfl (by decide) (by decide) (by decide) rfl ?_
    refine o_i2l B 17 18 d1_17 rfl ?_
    refine o_ladd B 18 19 d1_18 rfl ?_
    refine o_ldc2 B 19 22 d1_19 rfl (hw _ (List.mem_of_getElem? (i := 9) rfl)) ?_
    refine o_lmul B 22 23 d1_22 rfl ?_
    refine o_lstoreN B 23 24 (l' := #[.val (.ref x0), .val (.int (3 : Int32)), .val (.long (q1_3_3 g)), .second, .val (.int (2 : Int32))]) d1_23 rfl rfl ?_
    refine o_iincC B 24 27 (l' := #[.val (.ref x0), .val (.int (3 : Int32)), .val (.long (q1_3_3 g)), .second, .val (.int (3 : Int32))]) (1 : Int32) (3 : Int32) d1_24 rfl (by decide) rfl (by decide) rfl ?_
    refine o_goto B 27 6 d1_27 (by decide) (by decide) ?_
    refine o_iload B 6 8 (v := (3 : Int32)) d1_6 rfl rfl ?_
    refine o_iloadN B 8 9 (v := (3 : Int32)) d1_8 rfl rfl ?_
    refine o_icY B 9 30 d1_9 (XT.ii_ge_t (by decide)) (by decide) (by decide) ?_
    refine o_lloadN B 30 31 (v := (q1_3_3 g)) d1_30 rfl rfl ?_
    refine o_bipush B 31 33 (32 : Int32) d1_31 rfl (by decide) ?_
    refine o_lushr B 33 34 d1_33 rfl ?_
    refine o_l2i B 34 35 d1_34 rfl ?_
    refine o_retI B 35 d1_35 hret hlk (by decide) (by decide) ⟨(congrArg (fun z => some (Value.int z)) (show f1_3 g = (XT.ushrL (q1_3_3 g) (32 : Int32)).toInt32 from rfl)).symm, rfl, rfl⟩
def q1_4_1 (g : Nat → Int32) : Int64 := (((4 : Int64) + (g 0).toInt64) * (-7046029254386353131 : Int64))
def q1_4_2 (g : Nat → Int32) : Int64 := (((q1_4_1 g) + (g 1).toInt64) * (-7046029254386353131 : Int64))
def q1_4_3 (g : Nat → Int32) : Int64 := (((q1_4_2 g) + (g 2).toInt64) * (-7046029254386353131 : Int64))
def q1_4_4 (g : Nat → Int32) : Int64 := (((q1_4_3 g) + (g 3).toInt64) * (-7046029254386353131 : Int64))
def f1_4 (g : Nat → Int32) : Int32 := (XT.ushrL (q1_4_4 g) (32 : Int32)).toInt32
set_option maxRecDepth 65536 in
set_option maxHeartbeats 40000000 in
theorem rm1_4 (l : Launch) (Z : State) (a0 : Array Value) (hw : ∀ d ∈ tables_1, d.before a0 Z = true) (g : Nat → Int32) (x0 : Addr) (h0 : Heap) (A0 : AI Z h0 x0 .char 5 g) :
    Met l Z (⟨"com/example/micro_ranker/microranker/engine/TermDictionary", "hash", "([CI)I"⟩ : MethodName) prog_58_method_9_code 5 (some .int) ({ frames := 0, cells := 0, slots := 0, locals := 0 } : Room) #[(.ref x0), (.int (4 : Int32))] h0 (Pu (some (.int (f1_4 g))) h0) := by
  refine enter pl1 #[.val (.ref x0), .val (.int (4 : Int32)), .unset, .unset, .unset] rfl ?_
  intro p e s m below meth c T B hret hlk hnm
  · refine o_iloadN B 0 1 (v := (4 : Int32)) d1_0 rfl rfl ?_
    refine o_i2l B 1 2 d1_1 rfl ?_
    refine o_topJ (show (4 : Int32).toInt64 = (4 : Int64) by decide) ?_
    refine o_lstoreN B 2 3 (l' := #[.val (.ref x0), .val (.int (4 : Int32)), .val (.long (4 : Int64)), .second, .unset]) d1_2 rfl rfl ?_
    refine o_iconst B 3 4 (0 : Int32) d1_3 rfl (by decide) ?_
    refine o_istore B 4 6 (l' := #[.val (.ref x0), .val (.int (4 : Int32)), .val (.long (4 : Int64)), .second, .val (.int (0 : Int32))]) d1_4 rfl rfl ?_
    refine o_iload B 6 8 (v := (0 : Int32)) d1_6 rfl rfl ?_
    refine o_iloadN B 8 9 (v := (4 : Int32)) d1_8 rfl rfl ?_
    refine o_icN B 9 12 d1_9 rfl (XT.ii_ge_f (by decide)) ?_
    refine o_lloadN B 12 13 (v := (4 : Int64)) d1_12 rfl rfl ?_
    refine o_aloadN B 13 14 (v := (.ref x0)) d1_13 rfl rfl rfl ?_
    refine o_iload B 14 16 (v := (0 : Int32)) d1_14 rfl rfl ?_
    refine o_caload B 16 17 A0 0 (g 0) d1_16 rfl (by decide) (by decide) (by decide) rfl ?_
    refine o_i2l B 17 18 d1_17 rfl ?_
    refine o_ladd B 18 19 d1_18 rfl ?_
    refine o_ldc2 B 19 22 d1_19 rfl (hw _ (List.mem_of_getElem? (i := 9) rfl)) ?_
    refine o_lmul B 22 23 d1_22 rfl ?_
    refine o_lstoreN B 23 24 (l' := #[.val (.ref x0), .val (.int (4 : Int32)), .val (.long (q1_4_1 g)), .second, .val (.int (0 : Int32))]) d1_23 rfl rfl ?_
    refine o_iincC B 24 27 (l' := #[.val (.ref x0), .val (.int (4 : Int32)), .val (.long (q1_4_1 g)), .second, .val (.int (1 : Int32))]) (1 : Int32) (1 : Int32) d1_24 rfl (by decide) rfl (by decide) rfl ?_
    refine o_goto B 27 6 d1_27 (by decide) (by decide) ?_
    refine o_iload B 6 8 (v := (1 : Int32)) d1_6 rfl rfl ?_
    refine o_iloadN B 8 9 (v := (4 : Int32)) d1_8 rfl rfl ?_
    refine o_icN B 9 12 d1_9 rfl (XT.ii_ge_f (by decide)) ?_
    refine o_lloadN B 12 13 (v := (q1_4_1 g)) d1_12 rfl rfl ?_
    refine o_aloadN B 13 14 (v := (.ref x0)) d1_13 rfl rfl rfl ?_
    refine o_iload B 14 16 (v := (1 : Int32)) d1_14 rfl rfl ?_
    refine o_caload B 16 17 A0 1 (g 1) d1_16 rfl (by decide) (by decide) (by decide) rfl ?_
    refine o_i2l B 17 18 d1_17 rfl ?_
    refine o_ladd B 18 19 d1_18 rfl ?_
    refine o_ldc2 B 19 22 d1_19 rfl (hw _ (List.mem_of_getElem? (i := 9) rfl)) ?_
    refine o_lmul B 22 23 d1_22 rfl ?_
    refine o_lstoreN B 23 24 (l' := #[.val (.ref x0), .val (.int (4 : Int32)), .val (.long (q1_4_2 g)), .second, .val (.int (1 : Int32))]) d1_23 rfl rfl ?_
    refine o_iincC B 24 27 (l' := #[.val (.ref x0), .val (.int (4 : Int32)), .val (.long (q1_4_2 g)), .second, .val (.int (2 : Int32))]) (1 : Int32) (2 : Int32) d1_24 rfl (by decide) rfl (by decide) rfl ?_
    refine o_goto B 27 6 d1_27 (by decide) (by decide) ?_
    refine o_iload B 6 8 (v := (2 : Int32)) d1_6 rfl rfl ?_
    refine o_iloadN B 8 9 (v := (4 : Int32)) d1_8 rfl rfl ?_
    refine o_icN B 9 12 d1_9 rfl (XT.ii_ge_f (by decide)) ?_
    refine o_lloadN B 12 13 (v := (q1_4_2 g)) d1_12 rfl rfl ?_
    refine o_aloadN B 13 14 (v := (.ref x0)) d1_13 rfl rfl rfl ?_
    refine o_iload B 14 16 (v := (2 : Int32)) d1_14 rfl rfl ?_
    refine o_caload B 16 17 A0 2 (g 2) d1_16 rfl (by decide) (by decide) (by decide) rfl ?_
    refine o_i2l B 17 18 d1_17 rfl ?_
    refine o_ladd B 18 19 d1_18 rfl ?_
    refine o_ldc2 B 19 22 d1_19 rfl (hw _ (List.mem_of_getElem? (i := 9) rfl)) ?_
    refine o_lmul B 22 23 d1_22 rfl ?_
    refine o_lstoreN B 23 24 (l' := #[.val (.ref x0), .val (.int (4 : Int32)), .val (.long (q1_4_3 g)), .second, .val (.int (2 : Int32))]) d1_23 rfl rfl ?_
    refine o_iincC B 24 27 (l' := #[.val (.ref x0), .val (.int (4 : Int32)), .val (.long (q1_4_3 g)), .second, .val (.int (3 : Int32))]) (1 : Int32) (3 : Int32) d1_24 rfl (by decide) rfl (by decide) rfl ?_
    refine o_goto B 27 6 d1_27 (by decide) (by decide) ?_
    refine o_iload B 6 8 (v := (3 : Int32)) d1_6 rfl rfl ?_
    refine o_iloadN B 8 9 (v := (4 : Int32)) d1_8 rfl rfl ?_
    refine o_icN B 9 12 d1_9 rfl (XT.ii_ge_f (by decide)) ?_
    refine o_lloadN B 12 13 (v := (q1_4_3 g)) d1_12 rfl rfl ?_
    refine o_aloadN B 13 14 (v := (.ref x0)) d1_13 rfl rfl rfl ?_
    refine o_iload B 14 16 (v := (3 : Int32)) d1_14 rfl rfl ?_
    refine o_caload B 16 17 A0 3 (g 3) d1_16 rfl (by decide) (by decide) (by decide) rfl ?_
    refine o_i2l B 17 18 d1_17 rfl ?_
    refine o_ladd B 18 19 d1_18 rfl ?_
    refine o_ldc2 B 19 22 d1_19 rfl (hw _ (List.mem_of_getElem? (i := 9) rfl)) ?_
    refine o_lmul B 22 23 d1_22 rfl ?_
    refine o_lstoreN B 23 24 (l' := #[.val (.ref x0), .val (.int (4 : Int32)), .val (.long (q1_4_4 g)), .second, .val (.int (3 : Int32))]) d1_23 rfl rfl ?_
    refine o_iincC B 24 27 (l' := #[.val (.ref x0), .val (.int (4 : Int32)), .val (.long (q1_4_4 g)), .second, .val (.int (4 : Int32))]) (1 : Int32) (4 : Int32) d1_24 rfl (by decide) rfl (by decide) rfl ?_
    refine o_goto B 27 6 d1_27 (by decide) (by decide) ?_
    refine o_iload B 6 8 (v := (4 : Int32)) d1_6 rfl rfl ?_
    refine o_iloadN B 8 9 (v := (4 : Int32)) d1_8 rfl rfl ?_
    refine o_icY B 9 30 d1_9 (XT.ii_ge_t (by decide)) (by decide) (by decide) ?_
    refine o_lloadN B 30 31 (v := (q1_4_4 g)) d1_30 rfl rfl ?_
    refine o_bipush B 31 33 (32 : Int32) d1_31 rfl (by decide) ?_
    refine o_lushr B 33 34 d1_33 rfl ?_
    refine o_l2i B 34 35 d1_34 rfl ?_
    refine o_retI B 35 d1_35 hret hlk (by decide) (by decide) ⟨(congrArg (fun z => some (Value.int z)) (show f1_4 g = (XT.ushrL (q1_4_4 g) (32 : Int32)).toInt32 from rfl)).symm, rfl, rfl⟩
theorem pl0 : plainFor x = true := by first | exact plainFor_of_name (by first | (simp [plainName, overriddenIn]; done) | decide +kernel) | decide +kernel
theorem pd___CI_I : parseMethodDescriptor "([CI)I" = some ⟨[(.array .char), .int], some .int⟩ := by decide +kernel
def q0_1 (x0 : Int32) (x1 : Int32) (x2 : Int32) (x3 : Int32) (x4 : Int32) (x5 : Int32) : Int32 := ((x5 &&& (2147483647 : Int32)) % (5 : Int32))
def w0_2 (x0 : Int32) (x1 : Int32) (x2 : Int32) (x3 : Int32) (x4 : Int32) (x5 : Int32) : Nat → Int32 := fun j => if j = 0 then x0.toUInt32.toUInt16.toUInt32.toInt32 else (fun _ => 0) j
def w0_3 (x0 : Int32) (x1 : Int32) (x2 : Int32) (x3 : Int32) (x4 : Int32) (x5 : Int32) : Nat → Int32 := fun j => if j = 1 then x1.toUInt32.toUInt16.toUInt32.toInt32 else (w0_2 x0 x1 x2 x3 x4 x5) j
def w0_4 (x0 : Int32) (x1 : Int32) (x2 : Int32) (x3 : Int32) (x4 : Int32) (x5 : Int32) : Nat → Int32 := fun j => if j = 2 then x2.toUInt32.toUInt16.toUInt32.toInt32 else (w0_3 x0 x1 x2 x3 x4 x5) j
def w0_5 (x0 : Int32) (x1 : Int32) (x2 : Int32) (x3 : Int32) (x4 : Int32) (x5 : Int32) : Nat → Int32 := fun j => if j = 3 then x3.toUInt32.toUInt16.toUInt32.toInt32 else (w0_4 x0 x1 x2 x3 x4 x5) j
def w0_6 (x0 : Int32) (x1 : Int32) (x2 : Int32) (x3 : Int32) (x4 : Int32) (x5 : Int32) : Nat → Int32 := fun j => if j = 4 then x4.toUInt32.toUInt16.toUInt32.toInt32 else (w0_5 x0 x1 x2 x3 x4 x5) j
def w0_7 (x0 : Int32) (x1 : Int32) (x2 : Int32) (x3 : Int32) (x4 : Int32) (x5 : Int32) : Nat → Int64 := fun j => if j = 0 then (1 : Int64) else (fun _ => 0) j
def w0_8 (x0 : Int32) (x1 : Int32) (x2 : Int32) (x3 : Int32) (x4 : Int32) (x5 : Int32) : Nat → Int64 := fun j => if j = 1 then (-7046029254386353131 : Int64) else (w0_7 x0 x1 x2 x3 x4 x5) j
def w0_9 (x0 : Int32) (x1 : Int32) (x2 : Int32) (x3 : Int32) (x4 : Int32) (x5 : Int32) : Nat → Int64 := fun j => if j = 2 then (-2358710677322311239 : Int64) else (w0_8 x0 x1 x2 x3 x4 x5) j
def w0_10 (x0 : Int32) (x1 : Int32) (x2 : Int32) (x3 : Int32) (x4 : Int32) (x5 : Int32) : Nat → Int64 := fun j => if j = 3 then (6938460308862072877 : Int64) else (w0_9 x0 x1 x2 x3 x4 x5) j
def w0_11 (x0 : Int32) (x1 : Int32) (x2 : Int32) (x3 : Int32) (x4 : Int32) (x5 : Int32) : Nat → Int64 := fun j => if j = 4 then (-2791277408655628367 : Int64) else (w0_10 x0 x1 x2 x3 x4 x5) j
def q0_12 (x0 : Int32) (x1 : Int32) (x2 : Int32) (x3 : Int32) (x4 : Int32) (x5 : Int32) : Int64 := ((-7046029254386353131 : Int64) + ((x0 &&& (65535 : Int32)).toInt64 * (-7046029254386353131 : Int64)))
def q0_13 (x0 : Int32) (x1 : Int32) (x2 : Int32) (x3 : Int32) (x4 : Int32) (x5 : Int32) : Int32 := (XT.ushrL (q0_12 x0 x1 x2 x3 x4 x5) (32 : Int32)).toInt32
def q0_14 (x0 : Int32) (x1 : Int32) (x2 : Int32) (x3 : Int32) (x4 : Int32) (x5 : Int32) : Int64 := ((-4717421354644622478 : Int64) + ((x0 &&& (65535 : Int32)).toInt64 * (-2358710677322311239 : Int64)))
def q0_15 (x0 : Int32) (x1 : Int32) (x2 : Int32) (x3 : Int32) (x4 : Int32) (x5 : Int32) : Int64 := ((q0_14 x0 x1 x2 x3 x4 x5) + ((x1 &&& (65535 : Int32)).toInt64 * (-7046029254386353131 : Int64)))
def q0_16 (x0 : Int32) (x1 : Int32) (x2 : Int32) (x3 : Int32) (x4 : Int32) (x5 : Int32) : Int32 := (XT.ushrL (q0_15 x0 x1 x2 x3 x4 x5) (32 : Int32)).toInt32
def q0_17 (x0 : Int32) (x1 : Int32) (x2 : Int32) (x3 : Int32) (x4 : Int32) (x5 : Int32) : Int64 := ((2368636852876667015 : Int64) + ((x0 &&& (65535 : Int32)).toInt64 * (6938460308862072877 : Int64)))
def q0_18 (x0 : Int32) (x1 : Int32) (x2 : Int32) (x3 : Int32) (x4 : Int32) (x5 : Int32) : Int64 := ((q0_17 x0 x1 x2 x3 x4 x5) + ((x1 &&& (65535 : Int32)).toInt64 * (-2358710677322311239 : Int64)))
def q0_19 (x0 : Int32) (x1 : Int32) (x2 : Int32) (x3 : Int32) (x4 : Int32) (x5 : Int32) : Int64 := ((q0_18 x0 x1 x2 x3 x4 x5) + ((x2 &&& (65535 : Int32)).toInt64 * (-7046029254386353131 : Int64)))
def q0_20 (x0 : Int32) (x1 : Int32) (x2 : Int32) (x3 : Int32) (x4 : Int32) (x5 : Int32) : Int32 := (XT.ushrL (q0_19 x0 x1 x2 x3 x4 x5) (32 : Int32)).toInt32
def q0_21 (x0 : Int32) (x1 : Int32) (x2 : Int32) (x3 : Int32) (x4 : Int32) (x5 : Int32) : Int64 := ((7281634439087038148 : Int64) + ((x0 &&& (65535 : Int32)).toInt64 * (-2791277408655628367 : Int64)))
def q0_22 (x0 : Int32) (x1 : Int32) (x2 : Int32) (x3 : Int32) (x4 : Int32) (x5 : Int32) : Int64 := ((q0_21 x0 x1 x2 x3 x4 x5) + ((x1 &&& (65535 : Int32)).toInt64 * (6938460308862072877 : Int64)))
def q0_23 (x0 : Int32) (x1 : Int32) (x2 : Int32) (x3 : Int32) (x4 : Int32) (x5 : Int32) : Int64 := ((q0_22 x0 x1 x2 x3 x4 x5) + ((x2 &&& (65535 : Int32)).toInt64 * (-2358710677322311239 : Int64)))
def q0_24 (x0 : Int32) (x1 : Int32) (x2 : Int32) (x3 : Int32) (x4 : Int32) (x5 : Int32) : Int64 := ((q0_23 x0 x1 x2 x3 x4 x5) + ((x3 &&& (65535 : Int32)).toInt64 * (-7046029254386353131 : Int64)))
def q0_25 (x0 : Int32) (x1 : Int32) (x2 : Int32) (x3 : Int32) (x4 : Int32) (x5 : Int32) : Int32 := (XT.ushrL (q0_24 x0 x1 x2 x3 x4 x5) (32 : Int32)).toInt32
def f0 (x0 : Int32) (x1 : Int32) (x2 : Int32) (x3 : Int32) (x4 : Int32) (x5 : Int32) : Int32 := (if (q0_1 x0 x1 x2 x3 x4 x5) = (0 : Int32) then (if (f1_0 (w0_6 x0 x1 x2 x3 x4 x5)) = (0 : Int32) then (1 : Int32) else (0 : Int32)) else (if (q0_1 x0 x1 x2 x3 x4 x5) = (1 : Int32) then (if (f1_1 (w0_6 x0 x1 x2 x3 x4 x5)) = (q0_13 x0 x1 x2 x3 x4 x5) then (1 : Int32) else (0 : Int32)) else (if (q0_1 x0 x1 x2 x3 x4 x5) = (2 : Int32) then (if (f1_2 (w0_6 x0 x1 x2 x3 x4 x5)) = (q0_16 x0 x1 x2 x3 x4 x5) then (1 : Int32) else (0 : Int32)) else (if (q0_1 x0 x1 x2 x3 x4 x5) = (3 : Int32) then (if (f1_3 (w0_6 x0 x1 x2 x3 x4 x5)) = (q0_20 x0 x1 x2 x3 x4 x5) then (1 : Int32) else (0 : Int32)) else (if (f1_4 (w0_6 x0 x1 x2 x3 x4 x5)) = (q0_25 x0 x1 x2 x3 x4 x5) then (1 : Int32) else (0 : Int32))))))
theorem own_n (x0 x1 x2 x3 x4 x5 : Int32) (h0 : ¬ q0_1 x0 x1 x2 x3 x4 x5 = 0) (h1 : ¬ q0_1 x0 x1 x2 x3 x4 x5 = 1) (h2 : ¬ q0_1 x0 x1 x2 x3 x4 x5 = 2) (h3 : ¬ q0_1 x0 x1 x2 x3 x4 x5 = 3) : q0_1 x0 x1 x2 x3 x4 x5 = 4 := by
  have m := c_mask x5 2147483647 31 (by decide) (by decide)
  have r := c_irem (x5 &&& 2147483647) 5 5 (by decide)
  have e : (q0_1 x0 x1 x2 x3 x4 x5).toInt = ((x5 &&& 2147483647) % 5).toInt := rfl
  simp only [← Int32.toInt_inj, Int32.reduceToInt] at *
  omega
set_option maxRecDepth 65536 in
set_option maxHeartbeats 40000000 in
theorem rm0 (l : Launch) (Z : State) (a0 : Array Value) (hw : ∀ d ∈ tables_1, d.before a0 Z = true) (ws : List Jvm.Cond) (x0 : Int32) (x1 : Int32) (x2 : Int32) (x3 : Int32) (x4 : Int32) (x5 : Int32) (h0 : Heap) (n0 : Nat) (hz : n0 ≤ h0.size) :
    MetFree l x (head1 (Jvm.Cond.code x code maxLocals ret :: ws) room_1) (fun a U => a = #[(.int x0), (.int x1), (.int x2), (.int x3), (.int x4), (.int x5)] ∧ Z.Warmed39 U.vm ∧ U.heap = h0) (fun _ _ _ _ _ => True) (fun _ U o U' => ∃ v L, o = .returned v ∧ Lw n0 (some (.int (f0 x0 x1 x2 x3 x4 x5))) v U'.heap L ∧ FrameEnd U o U' L room_1.cells room_1.slots) := by
  refine enter (y := x) (bs := code) (ml := maxLocals) (ret := ret) (Q := Lw n0 (some (.int (f0 x0 x1 x2 x3 x4 x5)))) pl0 #[.val (.int x0), .val (.int x1), .val (.int x2), .val (.int x3), .val (.int x4), .val (.int x5), .unset, .unset, .unset, .unset, .unset, .unset, .unset, .unset, .unset, .unset, .unset, .unset, .unset, .unset, .unset, .unset] rfl ?_
  intro p e s m below meth c T B hret hlk hnm
  have N0 := Fr.nil n0
  refine o_iload B 0 2 (v := x5) at_0 rfl rfl ?_
  refine o_ldc B 2 4 at_2 rfl (hw _ (List.mem_of_getElem? (i := 0) rfl)) ?_
  refine o_iand B 4 5 at_4 rfl ?_
  refine o_iconst B 5 6 (5 : Int32) at_5 rfl (by decide) ?_
  refine o_irem B 6 7 at_6 rfl (by decide) ?_
  refine o_istore B 7 9 (l' := #[.val (.int x0), .val (.int x1), .val (.int x2), .val (.int x3), .val (.int x4), .val (.int x5), .val (.int (q0_1 x0 x1 x2 x3 x4 x5)), .unset, .unset, .unset, .unset, .unset, .unset, .unset, .unset, .unset, .unset, .unset, .unset, .unset, .unset, .unset]) at_7 rfl rfl ?_
  by_cases k1 : (q0_1 x0 x1 x2 x3 x4 x5) = (0 : Int32)
  · rw [k1]
    refine o_iconst B 9 10 (5 : Int32) at_9 rfl (by decide) ?_
    obtain ⟨a1, T1, h1, z1, B1, E1, A1, c1⟩ := o_newI B 10 12 (ty := .char) (z := (5 : Int32)) 5 5 (hw _ (List.mem_of_getElem? (i := 1) rfl)) at_10 rfl rfl rfl (by decide) (by decide) (by decide) (by decide) (by decide) (by decide) (Ls := #[.val (.int x0), .val (.int x1), .val (.int x2), .val (.int x3), .val (.int x4), .val (.int x5), .val (.int (0 : Int32)), .unset, .unset, .unset, .unset, .unset, .unset, .unset, .unset, .unset, .unset, .unset, .unset, .unset, .unset, .unset]) (rest := [])
    have g1 : n0 ≤ a1 := by rw [z1]; exact hz
    have s1 : n0 ≤ h1.size := Nat.le_trans hz E1.1
    refine c1 ?_
    refine o_astore B1 12 14 (l' := #[.val (.int x0), .val (.int x1), .val (.int x2), .val (.int x3), .val (.int x4), .val (.int x5), .val (.int (0 : Int32)), .val (.ref a1), .unset, .unset, .unset, .unset, .unset, .unset, .unset, .unset, .unset, .unset, .unset, .unset, .unset, .unset]) at_12 rfl rfl rfl ?_
    refine o_aload B1 14 16 (v := (.ref a1)) at_14 rfl rfl rfl ?_
    refine o_iconst B1 16 17 (0 : Int32) at_16 rfl (by decide) ?_
    refine o_iloadN B1 17 18 (v := x0) at_17 rfl rfl ?_
    refine o_i2c B1 18 19 at_18 rfl ?_
    obtain ⟨T2, h2, L2, B2, N2, W2, Q2, c2⟩ := o_castore B1 N0 g1 19 20 A1 (j := (0 : Int32)) (x := x0.toUInt32.toUInt16.toUInt32.toInt32) 0 x0.toUInt32.toUInt16.toUInt32.toInt32 at_19 rfl (by decide) (by decide) (by decide) (nar_cc _) (Ls := #[.val (.int x0), .val (.int x1), .val (.int x2), .val (.int x3), .val (.int x4), .val (.int x5), .val (.int (0 : Int32)), .val (.ref a1), .unset, .unset, .unset, .unset, .unset, .unset, .unset, .unset, .unset, .unset, .unset, .unset, .unset, .unset]) (rest := [])
    have A2 : AI Z h2 a1 .char 5 (w0_2 x0 x1 x2 x3 x4 x5) := Q2
    refine c2 ?_
    refine o_aload B2 20 22 (v := (.ref a1)) at_20 rfl rfl rfl ?_
    refine o_iconst B2 22 23 (1 : Int32) at_22 rfl (by decide) ?_
    refine o_iloadN B2 23 24 (v := x1) at_23 rfl rfl ?_
    refine o_i2c B2 24 25 at_24 rfl ?_
    obtain ⟨T3, h3, L3, B3, N3, W3, Q3, c3⟩ := o_castore B2 N2 g1 25 26 A2 (j := (1 : Int32)) (x := x1.toUInt32.toUInt16.toUInt32.toInt32) 1 x1.toUInt32.toUInt16.toUInt32.toInt32 at_25 rfl (by decide) (by decide) (by decide) (nar_cc _) (Ls := #[.val (.int x0), .val (.int x1), .val (.int x2), .val (.int x3), .val (.int x4), .val (.int x5), .val (.int (0 : Int32)), .val (.ref a1), .unset, .unset, .unset, .unset, .unset, .unset, .unset, .unset, .unset, .unset, .unset, .unset, .unset, .unset]) (rest := [])
    have A3 : AI Z h3 a1 .char 5 (w0_3 x0 x1 x2 x3 x4 x5) := Q3
    refine c3 ?_
    refine o_aload B3 26 28 (v := (.ref a1)) at_26 rfl rfl rfl ?_
    refine o_iconst B3 28 29 (2 : Int32) at_28 rfl (by decide) ?_
    refine o_iloadN B3 29 30 (v := x2) at_29 rfl rfl ?_
    refine o_i2c B3 30 31 at_30 rfl ?_
    obtain ⟨T4, h4, L4, B4, N4, W4, Q4, c4⟩ := o_castore B3 N3 g1 31 32 A3 (j := (2 : Int32)) (x := x2.toUInt32.toUInt16.toUInt32.toInt32) 2 x2.toUInt32.toUInt16.toUInt32.toInt32 at_31 rfl (by decide) (by decide) (by decide) (nar_cc _) (Ls := #[.val (.int x0), .val (.int x1), .val (.int x2), .val (.int x3), .val (.int x4), .val (.int x5), .val (.int (0 : Int32)), .val (.ref a1), .unset, .unset, .unset, .unset, .unset, .unset, .unset, .unset, .unset, .unset, .unset, .unset, .unset, .unset]) (rest := [])
    have A4 : AI Z h4 a1 .char 5 (w0_4 x0 x1 x2 x3 x4 x5) := Q4
    refine c4 ?_
    refine o_aload B4 32 34 (v := (.ref a1)) at_32 rfl rfl rfl ?_
    refine o_iconst B4 34 35 (3 : Int32) at_34 rfl (by decide) ?_
    refine o_iloadN B4 35 36 (v := x3) at_35 rfl rfl ?_
    refine o_i2c B4 36 37 at_36 rfl ?_
    obtain ⟨T5, h5, L5, B5, N5, W5, Q5, c5⟩ := o_castore B4 N4 g1 37 38 A4 (j := (3 : Int32)) (x := x3.toUInt32.toUInt16.toUInt32.toInt32) 3 x3.toUInt32.toUInt16.toUInt32.toInt32 at_37 rfl (by decide) (by decide) (by decide) (nar_cc _) (Ls := #[.val (.int x0), .val (.int x1), .val (.int x2), .val (.int x3), .val (.int x4), .val (.int x5), .val (.int (0 : Int32)), .val (.ref a1), .unset, .unset, .unset, .unset, .unset, .unset, .unset, .unset, .unset, .unset, .unset, .unset, .unset, .unset]) (rest := [])
    have A5 : AI Z h5 a1 .char 5 (w0_5 x0 x1 x2 x3 x4 x5) := Q5
    refine c5 ?_
    refine o_aload B5 38 40 (v := (.ref a1)) at_38 rfl rfl rfl ?_
    refine o_iconst B5 40 41 (4 : Int32) at_40 rfl (by decide) ?_
    refine o_iload B5 41 43 (v := x4) at_41 rfl rfl ?_
    refine o_i2c B5 43 44 at_43 rfl ?_
    obtain ⟨T6, h6, L6, B6, N6, W6, Q6, c6⟩ := o_castore B5 N5 g1 44 45 A5 (j := (4 : Int32)) (x := x4.toUInt32.toUInt16.toUInt32.toInt32) 4 x4.toUInt32.toUInt16.toUInt32.toInt32 at_44 rfl (by decide) (by decide) (by decide) (nar_cc _) (Ls := #[.val (.int x0), .val (.int x1), .val (.int x2), .val (.int x3), .val (.int x4), .val (.int x5), .val (.int (0 : Int32)), .val (.ref a1), .unset, .unset, .unset, .unset, .unset, .unset, .unset, .unset, .unset, .unset, .unset, .unset, .unset, .unset]) (rest := [])
    have A6 : AI Z h6 a1 .char 5 (w0_6 x0 x1 x2 x3 x4 x5) := Q6
    refine c6 ?_
    refine o_ldc2 B6 45 48 at_45 rfl (hw _ (List.mem_of_getElem? (i := 2) rfl)) ?_
    refine o_lstore B6 48 50 (l' := #[.val (.int x0), .val (.int x1), .val (.int x2), .val (.int x3), .val (.int x4), .val (.int x5), .val (.int (0 : Int32)), .val (.ref a1), .val (.long (-7046029254386353131 : Int64)), .second, .unset, .unset, .unset, .unset, .unset, .unset, .unset, .unset, .unset, .unset, .unset, .unset]) at_48 rfl rfl ?_
    refine o_iconst B6 50 51 (5 : Int32) at_50 rfl (by decide) ?_
    obtain ⟨a7, T7, h7, z7, B7, E7, A7, c7⟩ := o_newJ B6 51 53 (z := (5 : Int32)) 5 5 (hw _ (List.mem_of_getElem? (i := 3) rfl)) at_51 rfl rfl (by decide) (by decide) (by decide) (by decide) (by decide) (by decide) (Ls := #[.val (.int x0), .val (.int x1), .val (.int x2), .val (.int x3), .val (.int x4), .val (.int x5), .val (.int (0 : Int32)), .val (.ref a1), .val (.long (-7046029254386353131 : Int64)), .second, .unset, .unset, .unset, .unset, .unset, .unset, .unset, .unset, .unset, .unset, .unset, .unset]) (rest := [])
    have ne8 : a1 ≠ a7 := by rw [z7]; exact Nat.ne_of_lt A6.lt
    have g7 : n0 ≤ a7 := by rw [z7]; exact (W6.size ▸ (W5.size ▸ (W4.size ▸ (W3.size ▸ (W2.size ▸ s1)))))
    have s7 : n0 ≤ h7.size := Nat.le_trans (W6.size ▸ (W5.size ▸ (W4.size ▸ (W3.size ▸ (W2.size ▸ s1))))) E7.1
    refine c7 ?_
    refine o_astore B7 53 55 (l' := #[.val (.int x0), .val (.int x1), .val (.int x2), .val (.int x3), .val (.int x4), .val (.int x5), .val (.int (0 : Int32)), .val (.ref a1), .val (.long (-7046029254386353131 : Int64)), .second, .val (.ref a7), .unset, .unset, .unset, .unset, .unset, .unset, .unset, .unset, .unset, .unset, .unset]) at_53 rfl rfl rfl ?_
    refine o_aload B7 55 57 (v := (.ref a7)) at_55 rfl rfl rfl ?_
    refine o_iconst B7 57 58 (0 : Int32) at_57 rfl (by decide) ?_
    refine o_lconst B7 58 59 (1 : Int64) at_58 rfl (by decide) ?_
    obtain ⟨T9, h9, L9, B9, N9, W9, Q9, c9⟩ := o_lastore B7 N6 g7 59 60 A7 (j := (0 : Int32)) (x := (1 : Int64)) 0 (1 : Int64) at_59 rfl (by decide) (by decide) (by decide) rfl (Ls := #[.val (.int x0), .val (.int x1), .val (.int x2), .val (.int x3), .val (.int x4), .val (.int x5), .val (.int (0 : Int32)), .val (.ref a1), .val (.long (-7046029254386353131 : Int64)), .second, .val (.ref a7), .unset, .unset, .unset, .unset, .unset, .unset, .unset, .unset, .unset, .unset, .unset]) (rest := [])
    have A9 : AJ Z h9 a7 5 (w0_7 x0 x1 x2 x3 x4 x5) := Q9
    refine c9 ?_
    refine o_aload B9 60 62 (v := (.ref a7)) at_60 rfl rfl rfl ?_
    refine o_iconst B9 62 63 (1 : Int32) at_62 rfl (by decide) ?_
    refine o_lload B9 63 65 (v := (-7046029254386353131 : Int64)) at_63 rfl rfl ?_
    obtain ⟨T10, h10, L10, B10, N10, W10, Q10, c10⟩ := o_lastore B9 N9 g7 65 66 A9 (j := (1 : Int32)) (x := (-7046029254386353131 : Int64)) 1 (-7046029254386353131 : Int64) at_65 rfl (by decide) (by decide) (by decide) rfl (Ls := #[.val (.int x0), .val (.int x1), .val (.int x2), .val (.int x3), .val (.int x4), .val (.int x5), .val (.int (0 : Int32)), .val (.ref a1), .val (.long (-7046029254386353131 : Int64)), .second, .val (.ref a7), .unset, .unset, .unset, .unset, .unset, .unset, .unset, .unset, .unset, .unset, .unset]) (rest := [])
    have A10 : AJ Z h10 a7 5 (w0_8 x0 x1 x2 x3 x4 x5) := Q10
    refine c10 ?_
    refine o_aload B10 66 68 (v := (.ref a7)) at_66 rfl rfl rfl ?_
    refine o_iconst B10 68 69 (2 : Int32) at_68 rfl (by decide) ?_
    refine o_aload B10 69 71 (v := (.ref a7)) at_69 rfl rfl rfl ?_
    refine o_iconst B10 71 72 (1 : Int32) at_71 rfl (by decide) ?_
    refine o_laload B10 72 73 A10 1 (-7046029254386353131 : Int64) at_72 rfl (by decide) (by decide) (by decide) rfl ?_
    refine o_lload B10 73 75 (v := (-7046029254386353131 : Int64)) at_73 rfl rfl ?_
    refine o_lmul B10 75 76 at_75 rfl ?_
    refine o_topJ (show ((-7046029254386353131 : Int64) * (-7046029254386353131 : Int64)) = (-2358710677322311239 : Int64) by decide) ?_
    obtain ⟨T12, h12, L12, B12, N12, W12, Q12, c12⟩ := o_lastore B10 N10 g7 76 77 A10 (j := (2 : Int32)) (x := (-2358710677322311239 : Int64)) 2 (-2358710677322311239 : Int64) at_76 rfl (by decide) (by decide) (by decide) rfl (Ls := #[.val (.int x0), .val (.int x1), .val (.int x2), .val (.int x3), .val (.int x4), .val (.int x5), .val (.int (0 : Int32)), .val (.ref a1), .val (.long (-7046029254386353131 : Int64)), .second, .val (.ref a7), .unset, .unset, .unset, .unset, .unset, .unset, .unset, .unset, .unset, .unset, .unset]) (rest := [])
    have A12 : AJ Z h12 a7 5 (w0_9 x0 x1 x2 x3 x4 x5) := Q12
    refine c12 ?_
    refine o_aload B12 77 79 (v := (.ref a7)) at_77 rfl rfl rfl ?_
    refine o_iconst B12 79 80 (3 : Int32) at_79 rfl (by decide) ?_
    refine o_aload B12 80 82 (v := (.ref a7)) at_80 rfl rfl rfl ?_
    refine o_iconst B12 82 83 (2 : Int32) at_82 rfl (by decide) ?_
    refine o_laload B12 83 84 A12 2 (-2358710677322311239 : Int64) at_83 rfl (by decide) (by decide) (by decide) rfl ?_
    refine o_lload B12 84 86 (v := (-7046029254386353131 : Int64)) at_84 rfl rfl ?_
    refine o_lmul B12 86 87 at_86 rfl ?_
    refine o_topJ (show ((-2358710677322311239 : Int64) * (-7046029254386353131 : Int64)) = (6938460308862072877 : Int64) by decide) ?_
    obtain ⟨T14, h14, L14, B14, N14, W14, Q14, c14⟩ := o_lastore B12 N12 g7 87 88 A12 (j := (3 : Int32)) (x := (6938460308862072877 : Int64)) 3 (6938460308862072877 : Int64) at_87 rfl (by decide) (by decide) (by decide) rfl (Ls := #[.val (.int x0), .val (.int x1), .val (.int x2), .val (.int x3), .val (.int x4), .val (.int x5), .val (.int (0 : Int32)), .val (.ref a1), .val (.long (-7046029254386353131 : Int64)), .second, .val (.ref a7), .unset, .unset, .unset, .unset, .unset, .unset, .unset, .unset, .unset, .unset, .unset]) (rest := [])
    have A14 : AJ Z h14 a7 5 (w0_10 x0 x1 x2 x3 x4 x5) := Q14
    refine c14 ?_
    refine o_aload B14 88 90 (v := (.ref a7)) at_88 rfl rfl rfl ?_
    refine o_iconst B14 90 91 (4 : Int32) at_90 rfl (by decide) ?_
    refine o_aload B14 91 93 (v := (.ref a7)) at_91 rfl rfl rfl ?_
    refine o_iconst B14 93 94 (3 : Int32) at_93 rfl (by decide) ?_
    refine o_laload B14 94 95 A14 3 (6938460308862072877 : Int64) at_94 rfl (by decide) (by decide) (by decide) rfl ?_
    refine o_lload B14 95 97 (v := (-7046029254386353131 : Int64)) at_95 rfl rfl ?_
    refine o_lmul B14 97 98 at_97 rfl ?_
    refine o_topJ (show ((6938460308862072877 : Int64) * (-7046029254386353131 : Int64)) = (-2791277408655628367 : Int64) by decide) ?_
    obtain ⟨T16, h16, L16, B16, N16, W16, Q16, c16⟩ := o_lastore B14 N14 g7 98 99 A14 (j := (4 : Int32)) (x := (-2791277408655628367 : Int64)) 4 (-2791277408655628367 : Int64) at_98 rfl (by decide) (by decide) (by decide) rfl (Ls := #[.val (.int x0), .val (.int x1), .val (.int x2), .val (.int x3), .val (.int x4), .val (.int x5), .val (.int (0 : Int32)), .val (.ref a1), .val (.long (-7046029254386353131 : Int64)), .second, .val (.ref a7), .unset, .unset, .unset, .unset, .unset, .unset, .unset, .unset, .unset, .unset, .unset]) (rest := [])
    have A16 : AJ Z h16 a7 5 (w0_11 x0 x1 x2 x3 x4 x5) := Q16
    refine c16 ?_
    refine o_iloadN B16 99 100 (v := x0) at_99 rfl rfl ?_
    refine o_ldc B16 100 102 at_100 rfl (hw _ (List.mem_of_getElem? (i := 4) rfl)) ?_
    refine o_iand B16 102 103 at_102 rfl ?_
    refine o_i2l B16 103 104 at_103 rfl ?_
    refine o_lstore B16 104 106 (l' := #[.val (.int x0), .val (.int x1), .val (.int x2), .val (.int x3), .val (.int x4), .val (.int x5), .val (.int (0 : Int32)), .val (.ref a1), .val (.long (-7046029254386353131 : Int64)), .second, .val (.ref a7), .val (.long (x0 &&& (65535 : Int32)).toInt64), .second, .unset, .unset, .unset, .unset, .unset, .unset, .unset, .unset, .unset]) at_104 rfl rfl ?_
    refine o_iloadN B16 106 107 (v := x1) at_106 rfl rfl ?_
    refine o_ldc B16 107 109 at_107 rfl (hw _ (List.mem_of_getElem? (i := 4) rfl)) ?_
    refine o_iand B16 109 110 at_109 rfl ?_
    refine o_i2l B16 110 111 at_110 rfl ?_
    refine o_lstore B16 111 113 (l' := #[.val (.int x0), .val (.int x1), .val (.int x2), .val (.int x3), .val (.int x4), .val (.int x5), .val (.int (0 : Int32)), .val (.ref a1), .val (.long (-7046029254386353131 : Int64)), .second, .val (.ref a7), .val (.long (x0 &&& (65535 : Int32)).toInt64), .second, .val (.long (x1 &&& (65535 : Int32)).toInt64), .second, .unset, .unset, .unset, .unset, .unset, .unset, .unset]) at_111 rfl rfl ?_
    refine o_iloadN B16 113 114 (v := x2) at_113 rfl rfl ?_
    refine o_ldc B16 114 116 at_114 rfl (hw _ (List.mem_of_getElem? (i := 4) rfl)) ?_
    refine o_iand B16 116 117 at_116 rfl ?_
    refine o_i2l B16 117 118 at_117 rfl ?_
    refine o_lstore B16 118 120 (l' := #[.val (.int x0), .val (.int x1), .val (.int x2), .val (.int x3), .val (.int x4), .val (.int x5), .val (.int (0 : Int32)), .val (.ref a1), .val (.long (-7046029254386353131 : Int64)), .second, .val (.ref a7), .val (.long (x0 &&& (65535 : Int32)).toInt64), .second, .val (.long (x1 &&& (65535 : Int32)).toInt64), .second, .val (.long (x2 &&& (65535 : Int32)).toInt64), .second, .unset, .unset, .unset, .unset, .unset]) at_118 rfl rfl ?_
    refine o_iloadN B16 120 121 (v := x3) at_120 rfl rfl ?_
    refine o_ldc B16 121 123 at_121 rfl (hw _ (List.mem_of_getElem? (i := 4) rfl)) ?_
    refine o_iand B16 123 124 at_123 rfl ?_
    refine o_i2l B16 124 125 at_124 rfl ?_
    refine o_lstore B16 125 127 (l' := #[.val (.int x0), .val (.int x1), .val (.int x2), .val (.int x3), .val (.int x4), .val (.int x5), .val (.int (0 : Int32)), .val (.ref a1), .val (.long (-7046029254386353131 : Int64)), .second, .val (.ref a7), .val (.long (x0 &&& (65535 : Int32)).toInt64), .second, .val (.long (x1 &&& (65535 : Int32)).toInt64), .second, .val (.long (x2 &&& (65535 : Int32)).toInt64), .second, .val (.long (x3 &&& (65535 : Int32)).toInt64), .second, .unset, .unset, .unset]) at_125 rfl rfl ?_
    refine o_iload B16 127 129 (v := (0 : Int32)) at_127 rfl rfl ?_
    refine o_i2l B16 129 130 at_129 rfl ?_
    refine o_topJ (show (0 : Int32).toInt64 = (0 : Int64) by decide) ?_
    refine o_aload B16 130 132 (v := (.ref a7)) at_130 rfl rfl rfl ?_
    refine o_iload B16 132 134 (v := (0 : Int32)) at_132 rfl rfl ?_
    refine o_laload B16 134 135 A16 0 (1 : Int64) at_134 rfl (by decide) (by decide) (by decide) rfl ?_
    refine o_lmul B16 135 136 at_135 rfl ?_
    refine o_topJ (show ((0 : Int64) * (1 : Int64)) = (0 : Int64) by decide) ?_
    refine o_lstore B16 136 138 (l' := #[.val (.int x0), .val (.int x1), .val (.int x2), .val (.int x3), .val (.int x4), .val (.int x5), .val (.int (0 : Int32)), .val (.ref a1), .val (.long (-7046029254386353131 : Int64)), .second, .val (.ref a7), .val (.long (x0 &&& (65535 : Int32)).toInt64), .second, .val (.long (x1 &&& (65535 : Int32)).toInt64), .second, .val (.long (x2 &&& (65535 : Int32)).toInt64), .second, .val (.long (x3 &&& (65535 : Int32)).toInt64), .second, .val (.long (0 : Int64)), .second, .unset]) at_136 rfl rfl ?_
    refine o_iload B16 138 140 (v := (0 : Int32)) at_138 rfl rfl ?_
    refine o_ifY B16 140 156 at_140 (XT.i0_le_t (by decide)) (by decide) (by decide) ?_
    refine o_iload B16 156 158 (v := (0 : Int32)) at_156 rfl rfl ?_
    refine o_iconst B16 158 159 (1 : Int32) at_158 rfl (by decide) ?_
    refine o_icY B16 159 177 at_159 (XT.ii_le_t (by decide)) (by decide) (by decide) ?_
    refine o_iload B16 177 179 (v := (0 : Int32)) at_177 rfl rfl ?_
    refine o_iconst B16 179 180 (2 : Int32) at_179 rfl (by decide) ?_
    refine o_icY B16 180 198 at_180 (XT.ii_le_t (by decide)) (by decide) (by decide) ?_
    refine o_iload B16 198 200 (v := (0 : Int32)) at_198 rfl rfl ?_
    refine o_iconst B16 200 201 (3 : Int32) at_200 rfl (by decide) ?_
    refine o_icY B16 201 219 at_201 (XT.ii_le_t (by decide)) (by decide) (by decide) ?_
    refine o_lload B16 219 221 (v := (0 : Int64)) at_219 rfl rfl ?_
    refine o_bipush B16 221 223 (32 : Int32) at_221 rfl (by decide) ?_
    refine o_lushr B16 223 224 at_223 rfl ?_
    refine o_topJ (show (XT.ushrL (0 : Int64) (32 : Int32)) = (0 : Int64) by decide) ?_
    refine o_l2i B16 224 225 at_224 rfl ?_
    refine o_topI (show (0 : Int64).toInt32 = (0 : Int32) by decide) ?_
    refine o_istore B16 225 227 (l' := #[.val (.int x0), .val (.int x1), .val (.int x2), .val (.int x3), .val (.int x4), .val (.int x5), .val (.int (0 : Int32)), .val (.ref a1), .val (.long (-7046029254386353131 : Int64)), .second, .val (.ref a7), .val (.long (x0 &&& (65535 : Int32)).toInt64), .second, .val (.long (x1 &&& (65535 : Int32)).toInt64), .second, .val (.long (x2 &&& (65535 : Int32)).toInt64), .second, .val (.long (x3 &&& (65535 : Int32)).toInt64), .second, .val (.long (0 : Int64)), .second, .val (.int (0 : Int32))]) at_225 rfl rfl ?_
    refine o_aload B16 227 229 (v := (.ref a1)) at_227 rfl rfl rfl ?_
    refine o_iload B16 229 231 (v := (0 : Int32)) at_229 rfl rfl ?_
    have F18 := ((((((A6.ext E7).other W9 ne8).other W10 ne8).other W12 ne8).other W14 ne8).other W16 ne8)
    obtain ⟨T19, B19, c19⟩ := o_callP B16 231 234 at_231 rfl (hw _ (List.mem_of_getElem? (i := 5) rfl)) (hw _ (List.mem_of_getElem? (i := 6) rfl)) (hw _ (List.mem_of_getElem? (i := 7) rfl)) (hw _ (List.mem_of_getElem? (i := 8) rfl)) (by decide) (rm1_0 l Z a0 hw (w0_6 x0 x1 x2 x3 x4 x5) a1 h16 F18) 0 [(.ref a1), (.int (0 : Int32))] [] pd___CI_I rfl rfl (st := [(.int (0 : Int32)), (.ref a1)]) rfl (Ls := #[.val (.int x0), .val (.int x1), .val (.int x2), .val (.int x3), .val (.int x4), .val (.int x5), .val (.int (0 : Int32)), .val (.ref a1), .val (.long (-7046029254386353131 : Int64)), .second, .val (.ref a7), .val (.long (x0 &&& (65535 : Int32)).toInt64), .second, .val (.long (x1 &&& (65535 : Int32)).toInt64), .second, .val (.long (x2 &&& (65535 : Int32)).toInt64), .second, .val (.long (x3 &&& (65535 : Int32)).toInt64), .second, .val (.long (0 : Int64)), .second, .val (.int (0 : Int32))]) rfl (Nat.le_of_eq rfl) (by decide) (by decide) (by decide) (by decide)
    refine c19 ?_
    refine o_iload B19 234 236 (v := (0 : Int32)) at_234 rfl rfl ?_
    by_cases k2 : (f1_0 (w0_6 x0 x1 x2 x3 x4 x5)) = (0 : Int32)
    · refine o_icN B19 236 239 at_236 rfl (XT.ii_ne_f k2) ?_
      refine o_iconst B19 239 240 (1 : Int32) at_239 rfl (by decide) ?_
      refine o_goto B19 240 244 at_240 (by decide) (by decide) ?_
      refine o_retZ (t := .boolean) B19 244 at_244 hret hlk (by simp) (by decide) (by decide) ⟨(congrArg (fun z => some (Value.int z)) ((show nar .boolean (1 : Int32) = (1 : Int32) from rfl).trans (show f0 x0 x1 x2 x3 x4 x5 = (1 : Int32) from (if_pos k1).trans ((if_pos k2).trans (rfl))).symm)), N16⟩
    · refine o_icY B19 236 243 at_236 (XT.ii_ne_t k2) (by decide) (by decide) ?_
      refine o_iconst B19 243 244 (0 : Int32) at_243 rfl (by decide) ?_
      refine o_retZ (t := .boolean) B19 244 at_244 hret hlk (by simp) (by decide) (by decide) ⟨(congrArg (fun z => some (Value.int z)) ((show nar .boolean (0 : Int32) = (0 : Int32) from rfl).trans (show f0 x0 x1 x2 x3 x4 x5 = (0 : Int32) from (if_pos k1).trans ((if_neg k2).trans (rfl))).symm)), N16⟩
  · by_cases k3 : (q0_1 x0 x1 x2 x3 x4 x5) = (1 : Int32)
    · rw [k3]
      refine o_iconst B 9 10 (5 : Int32) at_9 rfl (by decide) ?_
      obtain ⟨a20, T20, h20, z20, B20, E20, A20, c20⟩ := o_newI B 10 12 (ty := .char) (z := (5 : Int32)) 5 5 (hw _ (List.mem_of_getElem? (i := 1) rfl)) at_10 rfl rfl rfl (by decide) (by decide) (by decide) (by decide) (by decide) (by decide) (Ls := #[.val (.int x0), .val (.int x1), .val (.int x2), .val (.int x3), .val (.int x4), .val (.int x5), .val (.int (1 : Int32)), .unset, .unset, .unset, .unset, .unset, .unset, .unset, .unset, .unset, .unset, .unset, .unset, .unset, .unset, .unset]) (rest := [])
      have g20 : n0 ≤ a20 := by rw [z20]; exact hz
      have s20 : n0 ≤ h20.size := Nat.le_trans hz E20.1
      refine c20 ?_
      refine o_astore B20 12 14 (l' := #[.val (.int x0), .val (.int x1), .val (.int x2), .val (.int x3), .val (.int x4), .val (.int x5), .val (.int (1 : Int32)), .val (.ref a20), .unset, .unset, .unset, .unset, .unset, .unset, .unset, .unset, .unset, .unset, .unset, .unset, .unset, .unset]) at_12 rfl rfl rfl ?_
      refine o_aload B20 14 16 (v := (.ref a20)) at_14 rfl rfl rfl ?_
      refine o_iconst B20 16 17 (0 : Int32) at_16 rfl (by decide) ?_
      refine o_iloadN B20 17 18 (v := x0) at_17 rfl rfl ?_
      refine o_i2c B20 18 19 at_18 rfl ?_
      obtain ⟨T21, h21, L21, B21, N21, W21, Q21, c21⟩ := o_castore B20 N0 g20 19 20 A20 (j := (0 : Int32)) (x := x0.toUInt32.toUInt16.toUInt32.toInt32) 0 x0.toUInt32.toUInt16.toUInt32.toInt32 at_19 rfl (by decide) (by decide) (by decide) (nar_cc _) (Ls := #[.val (.int x0), .val (.int x1), .val (.int x2), .val (.int x3), .val (.int x4), .val (.int x5), .val (.int (1 : Int32)), .val (.ref a20), .unset, .unset, .unset, .unset, .unset, .unset, .unset, .unset, .unset, .unset, .unset, .unset, .unset, .unset]) (rest := [])
      have A21 : AI Z h21 a20 .char 5 (w0_2 x0 x1 x2 x3 x4 x5) := Q21
      refine c21 ?_
      refine o_aload B21 20 22 (v := (.ref a20)) at_20 rfl rfl rfl ?_
      refine o_iconst B21 22 23 (1 : Int32) at_22 rfl (by decide) ?_
      refine o_iloadN B21 23 24 (v := x1) at_23 rfl rfl ?_
      refine o_i2c B21 24 25 at_24 rfl ?_
      obtain ⟨T22, h22, L22, B22, N22, W22, Q22, c22⟩ := o_castore B21 N21 g20 25 26 A21 (j := (1 : Int32)) (x := x1.toUInt32.toUInt16.toUInt32.toInt32) 1 x1.toUInt32.toUInt16.toUInt32.toInt32 at_25 rfl (by decide) (by decide) (by decide) (nar_cc _) (Ls := #[.val (.int x0), .val (.int x1), .val (.int x2), .val (.int x3), .val (.int x4), .val (.int x5), .val (.int (1 : Int32)), .val (.ref a20), .unset, .unset, .unset, .unset, .unset, .unset, .unset, .unset, .unset, .unset, .unset, .unset, .unset, .unset]) (rest := [])
      have A22 : AI Z h22 a20 .char 5 (w0_3 x0 x1 x2 x3 x4 x5) := Q22
      refine c22 ?_
      refine o_aload B22 26 28 (v := (.ref a20)) at_26 rfl rfl rfl ?_
      refine o_iconst B22 28 29 (2 : Int32) at_28 rfl (by decide) ?_
      refine o_iloadN B22 29 30 (v := x2) at_29 rfl rfl ?_
      refine o_i2c B22 30 31 at_30 rfl ?_
      obtain ⟨T23, h23, L23, B23, N23, W23, Q23, c23⟩ := o_castore B22 N22 g20 31 32 A22 (j := (2 : Int32)) (x := x2.toUInt32.toUInt16.toUInt32.toInt32) 2 x2.toUInt32.toUInt16.toUInt32.toInt32 at_31 rfl (by decide) (by decide) (by decide) (nar_cc _) (Ls := #[.val (.int x0), .val (.int x1), .val (.int x2), .val (.int x3), .val (.int x4), .val (.int x5), .val (.int (1 : Int32)), .val (.ref a20), .unset, .unset, .unset, .unset, .unset, .unset, .unset, .unset, .unset, .unset, .unset, .unset, .unset, .unset]) (rest := [])
      have A23 : AI Z h23 a20 .char 5 (w0_4 x0 x1 x2 x3 x4 x5) := Q23
      refine c23 ?_
      refine o_aload B23 32 34 (v := (.ref a20)) at_32 rfl rfl rfl ?_
      refine o_iconst B23 34 35 (3 : Int32) at_34 rfl (by decide) ?_
      refine o_iloadN B23 35 36 (v := x3) at_35 rfl rfl ?_
      refine o_i2c B23 36 37 at_36 rfl ?_
      obtain ⟨T24, h24, L24, B24, N24, W24, Q24, c24⟩ := o_castore B23 N23 g20 37 38 A23 (j := (3 : Int32)) (x := x3.toUInt32.toUInt16.toUInt32.toInt32) 3 x3.toUInt32.toUInt16.toUInt32.toInt32 at_37 rfl (by decide) (by decide) (by decide) (nar_cc _) (Ls := #[.val (.int x0), .val (.int x1), .val (.int x2), .val (.int x3), .val (.int x4), .val (.int x5), .val (.int (1 : Int32)), .val (.ref a20), .unset, .unset, .unset, .unset, .unset, .unset, .unset, .unset, .unset, .unset, .unset, .unset, .unset, .unset]) (rest := [])
      have A24 : AI Z h24 a20 .char 5 (w0_5 x0 x1 x2 x3 x4 x5) := Q24
      refine c24 ?_
      refine o_aload B24 38 40 (v := (.ref a20)) at_38 rfl rfl rfl ?_
      refine o_iconst B24 40 41 (4 : Int32) at_40 rfl (by decide) ?_
      refine o_iload B24 41 43 (v := x4) at_41 rfl rfl ?_
      refine o_i2c B24 43 44 at_43 rfl ?_
      obtain ⟨T25, h25, L25, B25, N25, W25, Q25, c25⟩ := o_castore B24 N24 g20 44 45 A24 (j := (4 : Int32)) (x := x4.toUInt32.toUInt16.toUInt32.toInt32) 4 x4.toUInt32.toUInt16.toUInt32.toInt32 at_44 rfl (by decide) (by decide) (by decide) (nar_cc _) (Ls := #[.val (.int x0), .val (.int x1), .val (.int x2), .val (.int x3), .val (.int x4), .val (.int x5), .val (.int (1 : Int32)), .val (.ref a20), .unset, .unset, .unset, .unset, .unset, .unset, .unset, .unset, .unset, .unset, .unset, .unset, .unset, .unset]) (rest := [])
      have A25 : AI Z h25 a20 .char 5 (w0_6 x0 x1 x2 x3 x4 x5) := Q25
      refine c25 ?_
      refine o_ldc2 B25 45 48 at_45 rfl (hw _ (List.mem_of_getElem? (i := 2) rfl)) ?_
      refine o_lstore B25 48 50 (l' := #[.val (.int x0), .val (.int x1), .val (.int x2), .val (.int x3), .val (.int x4), .val (.int x5), .val (.int (1 : Int32)), .val (.ref a20), .val (.long (-7046029254386353131 : Int64)), .second, .unset, .unset, .unset, .unset, .unset, .unset, .unset, .unset, .unset, .unset, .unset, .unset]) at_48 rfl rfl ?_
      refine o_iconst B25 50 51 (5 : Int32) at_50 rfl (by decide) ?_
      obtain ⟨a26, T26, h26, z26, B26, E26, A26, c26⟩ := o_newJ B25 51 53 (z := (5 : Int32)) 5 5 (hw _ (List.mem_of_getElem? (i := 3) rfl)) at_51 rfl rfl (by decide) (by decide) (by decide) (by decide) (by decide) (by decide) (Ls := #[.val (.int x0), .val (.int x1), .val (.int x2), .val (.int x3), .val (.int x4), .val (.int x5), .val (.int (1 : Int32)), .val (.ref a20), .val (.long (-7046029254386353131 : Int64)), .second, .unset, .unset, .unset, .unset, .unset, .unset, .unset, .unset, .unset, .unset, .unset, .unset]) (rest := [])
      have ne27 : a20 ≠ a26 := by rw [z26]; exact Nat.ne_of_lt A25.lt
      have g26 : n0 ≤ a26 := by rw [z26]; exact (W25.size ▸ (W24.size ▸ (W23.size ▸ (W22.size ▸ (W21.size ▸ s20)))))
      have s26 : n0 ≤ h26.size := Nat.le_trans (W25.size ▸ (W24.size ▸ (W23.size ▸ (W22.size ▸ (W21.size ▸ s20))))) E26.1
      refine c26 ?_
      refine o_astore B26 53 55 (l' := #[.val (.int x0), .val (.int x1), .val (.int x2), .val (.int x3), .val (.int x4), .val (.int x5), .val (.int (1 : Int32)), .val (.ref a20), .val (.long (-7046029254386353131 : Int64)), .second, .val (.ref a26), .unset, .unset, .unset, .unset, .unset, .unset, .unset, .unset, .unset, .unset, .unset]) at_53 rfl rfl rfl ?_
      refine o_aload B26 55 57 (v := (.ref a26)) at_55 rfl rfl rfl ?_
      refine o_iconst B26 57 58 (0 : Int32) at_57 rfl (by decide) ?_
      refine o_lconst B26 58 59 (1 : Int64) at_58 rfl (by decide) ?_
      obtain ⟨T28, h28, L28, B28, N28, W28, Q28, c28⟩ := o_lastore B26 N25 g26 59 60 A26 (j := (0 : Int32)) (x := (1 : Int64)) 0 (1 : Int64) at_59 rfl (by decide) (by decide) (by decide) rfl (Ls := #[.val (.int x0), .val (.int x1), .val (.int x2), .val (.int x3), .val (.int x4), .val (.int x5), .val (.int (1 : Int32)), .val (.ref a20), .val (.long (-7046029254386353131 : Int64)), .second, .val (.ref a26), .unset, .unset, .unset, .unset, .unset, .unset, .unset, .unset, .unset, .unset, .unset]) (rest := [])
      have A28 : AJ Z h28 a26 5 (w0_7 x0 x1 x2 x3 x4 x5) := Q28
      refine c28 ?_
      refine o_aload B28 60 62 (v := (.ref a26)) at_60 rfl rfl rfl ?_
      refine o_iconst B28 62 63 (1 : Int32) at_62 rfl (by decide) ?_
      refine o_lload B28 63 65 (v := (-7046029254386353131 : Int64)) at_63 rfl rfl ?_
      obtain ⟨T29, h29, L29, B29, N29, W29, Q29, c29⟩ := o_lastore B28 N28 g26 65 66 A28 (j := (1 : Int32)) (x := (-7046029254386353131 : Int64)) 1 (-7046029254386353131 : Int64) at_65 rfl (by decide) (by decide) (by decide) rfl (Ls := #[.val (.int x0), .val (.int x1), .val (.int x2), .val (.int x3), .val (.int x4), .val (.int x5), .val (.int (1 : Int32)), .val (.ref a20), .val (.long (-7046029254386353131 : Int64)), .second, .val (.ref a26), .unset, .unset, .unset, .unset, .unset, .unset, .unset, .unset, .unset, .unset, .unset]) (rest := [])
      have A29 : AJ Z h29 a26 5 (w0_8 x0 x1 x2 x3 x4 x5) := Q29
      refine c29 ?_
      refine o_aload B29 66 68 (v := (.ref a26)) at_66 rfl rfl rfl ?_
      refine o_iconst B29 68 69 (2 : Int32) at_68 rfl (by decide) ?_
      refine o_aload B29 69 71 (v := (.ref a26)) at_69 rfl rfl rfl ?_
      refine o_iconst B29 71 72 (1 : Int32) at_71 rfl (by decide) ?_
      refine o_laload B29 72 73 A29 1 (-7046029254386353131 : Int64) at_72 rfl (by decide) (by decide) (by decide) rfl ?_
      refine o_lload B29 73 75 (v := (-7046029254386353131 : Int64)) at_73 rfl rfl ?_
      refine o_lmul B29 75 76 at_75 rfl ?_
      refine o_topJ (show ((-7046029254386353131 : Int64) * (-7046029254386353131 : Int64)) = (-2358710677322311239 : Int64) by decide) ?_
      obtain ⟨T31, h31, L31, B31, N31, W31, Q31, c31⟩ := o_lastore B29 N29 g26 76 77 A29 (j := (2 : Int32)) (x := (-2358710677322311239 : Int64)) 2 (-2358710677322311239 : Int64) at_76 rfl (by decide) (by decide) (by decide) rfl (Ls := #[.val (.int x0), .val (.int x1), .val (.int x2), .val (.int x3), .val (.int x4), .val (.int x5), .val (.int (1 : Int32)), .val (.ref a20), .val (.long (-7046029254386353131 : Int64)), .second, .val (.ref a26), .unset, .unset, .unset, .unset, .unset, .unset, .unset, .unset, .unset, .unset, .unset]) (rest := [])
      have A31 : AJ Z h31 a26 5 (w0_9 x0 x1 x2 x3 x4 x5) := Q31
      refine c31 ?_
      refine o_aload B31 77 79 (v := (.ref a26)) at_77 rfl rfl rfl ?_
      refine o_iconst B31 79 80 (3 : Int32) at_79 rfl (by decide) ?_
      refine o_aload B31 80 82 (v := (.ref a26)) at_80 rfl rfl rfl ?_
      refine o_iconst B31 82 83 (2 : Int32) at_82 rfl (by decide) ?_
      refine o_laload B31 83 84 A31 2 (-2358710677322311239 : Int64) at_83 rfl (by decide) (by decide) (by decide) rfl ?_
      refine o_lload B31 84 86 (v := (-7046029254386353131 : Int64)) at_84 rfl rfl ?_
      refine o_lmul B31 86 87 at_86 rfl ?_
      refine o_topJ (show ((-2358710677322311239 : Int64) * (-7046029254386353131 : Int64)) = (6938460308862072877 : Int64) by decide) ?_
      obtain ⟨T33, h33, L33, B33, N33, W33, Q33, c33⟩ := o_lastore B31 N31 g26 87 88 A31 (j := (3 : Int32)) (x := (6938460308862072877 : Int64)) 3 (6938460308862072877 : Int64) at_87 rfl (by decide) (by decide) (by decide) rfl (Ls := #[.val (.int x0), .val (.int x1), .val (.int x2), .val (.int x3), .val (.int x4), .val (.int x5), .val (.int (1 : Int32)), .val (.ref a20), .val (.long (-7046029254386353131 : Int64)), .second, .val (.ref a26), .unset, .unset, .unset, .unset, .unset, .unset, .unset, .unset, .unset, .unset, .unset]) (rest := [])
      have A33 : AJ Z h33 a26 5 (w0_10 x0 x1 x2 x3 x4 x5) := Q33
      refine c33 ?_
      refine o_aload B33 88 90 (v := (.ref a26)) at_88 rfl rfl rfl ?_
      refine o_iconst B33 90 91 (4 : Int32) at_90 rfl (by decide) ?_
      refine o_aload B33 91 93 (v := (.ref a26)) at_91 rfl rfl rfl ?_
      refine o_iconst B33 93 94 (3 : Int32) at_93 rfl (by decide) ?_
      refine o_laload B33 94 95 A33 3 (6938460308862072877 : Int64) at_94 rfl (by decide) (by decide) (by decide) rfl ?_
      refine o_lload B33 95 97 (v := (-7046029254386353131 : Int64)) at_95 rfl rfl ?_
      refine o_lmul B33 97 98 at_97 rfl ?_
      refine o_topJ (show ((6938460308862072877 : Int64) * (-7046029254386353131 : Int64)) = (-2791277408655628367 : Int64) by decide) ?_
      obtain ⟨T35, h35, L35, B35, N35, W35, Q35, c35⟩ := o_lastore B33 N33 g26 98 99 A33 (j := (4 : Int32)) (x := (-2791277408655628367 : Int64)) 4 (-2791277408655628367 : Int64) at_98 rfl (by decide) (by decide) (by decide) rfl (Ls := #[.val (.int x0), .val (.int x1), .val (.int x2), .val (.int x3), .val (.int x4), .val (.int x5), .val (.int (1 : Int32)), .val (.ref a20), .val (.long (-7046029254386353131 : Int64)), .second, .val (.ref a26), .unset, .unset, .unset, .unset, .unset, .unset, .unset, .unset, .unset, .unset, .unset]) (rest := [])
      have A35 : AJ Z h35 a26 5 (w0_11 x0 x1 x2 x3 x4 x5) := Q35
      refine c35 ?_
      refine o_iloadN B35 99 100 (v := x0) at_99 rfl rfl ?_
      refine o_ldc B35 100 102 at_100 rfl (hw _ (List.mem_of_getElem? (i := 4) rfl)) ?_
      refine o_iand B35 102 103 at_102 rfl ?_
      refine o_i2l B35 103 104 at_103 rfl ?_
      refine o_lstore B35 104 106 (l' := #[.val (.int x0), .val (.int x1), .val (.int x2), .val (.int x3), .val (.int x4), .val (.int x5), .val (.int (1 : Int32)), .val (.ref a20), .val (.long (-7046029254386353131 : Int64)), .second, .val (.ref a26), .val (.long (x0 &&& (65535 : Int32)).toInt64), .second, .unset, .unset, .unset, .unset, .unset, .unset, .unset, .unset, .unset]) at_104 rfl rfl ?_
      refine o_iloadN B35 106 107 (v := x1) at_106 rfl rfl ?_
      refine o_ldc B35 107 109 at_107 rfl (hw _ (List.mem_of_getElem? (i := 4) rfl)) ?_
      refine o_iand B35 109 110 at_109 rfl ?_
      refine o_i2l B35 110 111 at_110 rfl ?_
      refine o_lstore B35 111 113 (l' := #[.val (.int x0), .val (.int x1), .val (.int x2), .val (.int x3), .val (.int x4), .val (.int x5), .val (.int (1 : Int32)), .val (.ref a20), .val (.long (-7046029254386353131 : Int64)), .second, .val (.ref a26), .val (.long (x0 &&& (65535 : Int32)).toInt64), .second, .val (.long (x1 &&& (65535 : Int32)).toInt64), .second, .unset, .unset, .unset, .unset, .unset, .unset, .unset]) at_111 rfl rfl ?_
      refine o_iloadN B35 113 114 (v := x2) at_113 rfl rfl ?_
      refine o_ldc B35 114 116 at_114 rfl (hw _ (List.mem_of_getElem? (i := 4) rfl)) ?_
      refine o_iand B35 116 117 at_116 rfl ?_
      refine o_i2l B35 117 118 at_117 rfl ?_
      refine o_lstore B35 118 120 (l' := #[.val (.int x0), .val (.int x1), .val (.int x2), .val (.int x3), .val (.int x4), .val (.int x5), .val (.int (1 : Int32)), .val (.ref a20), .val (.long (-7046029254386353131 : Int64)), .second, .val (.ref a26), .val (.long (x0 &&& (65535 : Int32)).toInt64), .second, .val (.long (x1 &&& (65535 : Int32)).toInt64), .second, .val (.long (x2 &&& (65535 : Int32)).toInt64), .second, .unset, .unset, .unset, .unset, .unset]) at_118 rfl rfl ?_
      refine o_iloadN B35 120 121 (v := x3) at_120 rfl rfl ?_
      refine o_ldc B35 121 123 at_121 rfl (hw _ (List.mem_of_getElem? (i := 4) rfl)) ?_
      refine o_iand B35 123 124 at_123 rfl ?_
      refine o_i2l B35 124 125 at_124 rfl ?_
      refine o_lstore B35 125 127 (l' := #[.val (.int x0), .val (.int x1), .val (.int x2), .val (.int x3), .val (.int x4), .val (.int x5), .val (.int (1 : Int32)), .val (.ref a20), .val (.long (-7046029254386353131 : Int64)), .second, .val (.ref a26), .val (.long (x0 &&& (65535 : Int32)).toInt64), .second, .val (.long (x1 &&& (65535 : Int32)).toInt64), .second, .val (.long (x2 &&& (65535 : Int32)).toInt64), .second, .val (.long (x3 &&& (65535 : Int32)).toInt64), .second, .unset, .unset, .unset]) at_125 rfl rfl ?_
      refine o_iload B35 127 129 (v := (1 : Int32)) at_127 rfl rfl ?_
      refine o_i2l B35 129 130 at_129 rfl ?_
      refine o_topJ (show (1 : Int32).toInt64 = (1 : Int64) by decide) ?_
      refine o_aload B35 130 132 (v := (.ref a26)) at_130 rfl rfl rfl ?_
      refine o_iload B35 132 134 (v := (1 : Int32)) at_132 rfl rfl ?_
      refine o_laload B35 134 135 A35 1 (-7046029254386353131 : Int64) at_134 rfl (by decide) (by decide) (by decide) rfl ?_
      refine o_lmul B35 135 136 at_135 rfl ?_
      refine o_topJ (show ((1 : Int64) * (-7046029254386353131 : Int64)) = (-7046029254386353131 : Int64) by decide) ?_
      refine o_lstore B35 136 138 (l' := #[.val (.int x0), .val (.int x1), .val (.int x2), .val (.int x3), .val (.int x4), .val (.int x5), .val (.int (1 : Int32)), .val (.ref a20), .val (.long (-7046029254386353131 : Int64)), .second, .val (.ref a26), .val (.long (x0 &&& (65535 : Int32)).toInt64), .second, .val (.long (x1 &&& (65535 : Int32)).toInt64), .second, .val (.long (x2 &&& (65535 : Int32)).toInt64), .second, .val (.long (x3 &&& (65535 : Int32)).toInt64), .second, .val (.long (-7046029254386353131 : Int64)), .second, .unset]) at_136 rfl rfl ?_
      refine o_iload B35 138 140 (v := (1 : Int32)) at_138 rfl rfl ?_
      refine o_ifN B35 140 143 at_140 rfl (XT.i0_le_f (by decide)) ?_
      refine o_lload B35 143 145 (v := (-7046029254386353131 : Int64)) at_143 rfl rfl ?_
      refine o_lload B35 145 147 (v := (x0 &&& (65535 : Int32)).toInt64) at_145 rfl rfl ?_
      refine o_aload B35 147 149 (v := (.ref a26)) at_147 rfl rfl rfl ?_
      refine o_iload B35 149 151 (v := (1 : Int32)) at_149 rfl rfl ?_
      refine o_laload B35 151 152 A35 1 (-7046029254386353131 : Int64) at_151 rfl (by decide) (by decide) (by decide) rfl ?_
      refine o_lmul B35 152 153 at_152 rfl ?_
      refine o_ladd B35 153 154 at_153 rfl ?_
      refine o_lstore B35 154 156 (l' := #[.val (.int x0), .val (.int x1), .val (.int x2), .val (.int x3), .val (.int x4), .val (.int x5), .val (.int (1 : Int32)), .val (.ref a20), .val (.long (-7046029254386353131 : Int64)), .second, .val (.ref a26), .val (.long (x0 &&& (65535 : Int32)).toInt64), .second, .val (.long (x1 &&& (65535 : Int32)).toInt64), .second, .val (.long (x2 &&& (65535 : Int32)).toInt64), .second, .val (.long (x3 &&& (65535 : Int32)).toInt64), .second, .val (.long (q0_12 x0 x1 x2 x3 x4 x5)), .second, .unset]) at_154 rfl rfl ?_
      refine o_iload B35 156 158 (v := (1 : Int32)) at_156 rfl rfl ?_
      refine o_iconst B35 158 159 (1 : Int32) at_158 rfl (by decide) ?_
      refine o_icY B35 159 177 at_159 (XT.ii_le_t (by decide)) (by decide) (by decide) ?_
      refine o_iload B35 177 179 (v := (1 : Int32)) at_177 rfl rfl ?_
      refine o_iconst B35 179 180 (2 : Int32) at_179 rfl (by decide) ?_
      refine o_icY B35 180 198 at_180 (XT.ii_le_t (by decide)) (by decide) (by decide) ?_
      refine o_iload B35 198 200 (v := (1 : Int32)) at_198 rfl rfl ?_
      refine o_iconst B35 200 201 (3 : Int32) at_200 rfl (by decide) ?_
      refine o_icY B35 201 219 at_201 (XT.ii_le_t (by decide)) (by decide) (by decide) ?_
      refine o_lload B35 219 221 (v := (q0_12 x0 x1 x2 x3 x4 x5)) at_219 rfl rfl ?_
      refine o_bipush B35 221 223 (32 : Int32) at_221 rfl (by decide) ?_
      refine o_lushr B35 223 224 at_223 rfl ?_
      refine o_l2i B35 224 225 at_224 rfl ?_
      refine o_istore B35 225 227 (l' := #[.val (.int x0), .val (.int x1), .val (.int x2), .val (.int x3), .val (.int x4), .val (.int x5), .val (.int (1 : Int32)), .val (.ref a20), .val (.long (-7046029254386353131 : Int64)), .second, .val (.ref a26), .val (.long (x0 &&& (65535 : Int32)).toInt64), .second, .val (.long (x1 &&& (65535 : Int32)).toInt64), .second, .val (.long (x2 &&& (65535 : Int32)).toInt64), .second, .val (.long (x3 &&& (65535 : Int32)).toInt64), .second, .val (.long (q0_12 x0 x1 x2 x3 x4 x5)), .second, .val (.int (q0_13 x0 x1 x2 x3 x4 x5))]) at_225 rfl rfl ?_
      refine o_aload B35 227 229 (v := (.ref a20)) at_227 rfl rfl rfl ?_
      refine o_iload B35 229 231 (v := (1 : Int32)) at_229 rfl rfl ?_
      have F38 := ((((((A25.ext E26).other W28 ne27).other W29 ne27).other W31 ne27).other W33 ne27).other W35 ne27)
      obtain ⟨T39, B39, c39⟩ := o_callP B35 231 234 at_231 rfl (hw _ (List.mem_of_getElem? (i := 5) rfl)) (hw _ (List.mem_of_getElem? (i := 6) rfl)) (hw _ (List.mem_of_getElem? (i := 7) rfl)) (hw _ (List.mem_of_getElem? (i := 8) rfl)) (by decide) (rm1_1 l Z a0 hw (w0_6 x0 x1 x2 x3 x4 x5) a20 h35 F38) 0 [(.ref a20), (.int (1 : Int32))] [] pd___CI_I rfl rfl (st := [(.int (1 : Int32)), (.ref a20)]) rfl (Ls := #[.val (.int x0), .val (.int x1), .val (.int x2), .val (.int x3), .val (.int x4), .val (.int x5), .val (.int (1 : Int32)), .val (.ref a20), .val (.long (-7046029254386353131 : Int64)), .second, .val (.ref a26), .val (.long (x0 &&& (65535 : Int32)).toInt64), .second, .val (.long (x1 &&& (65535 : Int32)).toInt64), .second, .val (.long (x2 &&& (65535 : Int32)).toInt64), .second, .val (.long (x3 &&& (65535 : Int32)).toInt64), .second, .val (.long (q0_12 x0 x1 x2 x3 x4 x5)), .second, .val (.int (q0_13 x0 x1 x2 x3 x4 x5))]) rfl (Nat.le_of_eq rfl) (by decide) (by decide) (by decide) (by decide)
      refine c39 ?_
      refine o_iload B39 234 236 (v := (q0_13 x0 x1 x2 x3 x4 x5)) at_234 rfl rfl ?_
      by_cases k4 : (f1_1 (w0_6 x0 x1 x2 x3 x4 x5)) = (q0_13 x0 x1 x2 x3 x4 x5)
      · refine o_icN B39 236 239 at_236 rfl (XT.ii_ne_f k4) ?_
        refine o_iconst B39 239 240 (1 : Int32) at_239 rfl (by decide) ?_
        refine o_goto B39 240 244 at_240 (by decide) (by decide) ?_
        refine o_retZ (t := .boolean) B39 244 at_244 hret hlk (by simp) (by decide) (by decide) ⟨(congrArg (fun z => some (Value.int z)) ((show nar .boolean (1 : Int32) = (1 : Int32) from rfl).trans (show f0 x0 x1 x2 x3 x4 x5 = (1 : Int32) from (if_neg k1).trans ((if_pos k3).trans ((if_pos k4).trans (rfl)))).symm)), N35⟩
      · refine o_icY B39 236 243 at_236 (XT.ii_ne_t k4) (by decide) (by decide) ?_
        refine o_iconst B39 243 244 (0 : Int32) at_243 rfl (by decide) ?_
        refine o_retZ (t := .boolean) B39 244 at_244 hret hlk (by simp) (by decide) (by decide) ⟨(congrArg (fun z => some (Value.int z)) ((show nar .boolean (0 : Int32) = (0 : Int32) from rfl).trans (show f0 x0 x1 x2 x3 x4 x5 = (0 : Int32) from (if_neg k1).trans ((if_pos k3).trans ((if_neg k4).trans (rfl)))).symm)), N35⟩
    · by_cases k5 : (q0_1 x0 x1 x2 x3 x4 x5) = (2 : Int32)
      · rw [k5]
        refine o_iconst B 9 10 (5 : Int32) at_9 rfl (by decide) ?_
        obtain ⟨a40, T40, h40, z40, B40, E40, A40, c40⟩ := o_newI B 10 12 (ty := .char) (z := (5 : Int32)) 5 5 (hw _ (List.mem_of_getElem? (i := 1) rfl)) at_10 rfl rfl rfl (by decide) (by decide) (by decide) (by decide) (by decide) (by decide) (Ls := #[.val (.int x0), .val (.int x1), .val (.int x2), .val (.int x3), .val (.int x4), .val (.int x5), .val (.int (2 : Int32)), .unset, .unset, .unset, .unset, .unset, .unset, .unset, .unset, .unset, .unset, .unset, .unset, .unset, .unset, .unset]) (rest := [])
        have g40 : n0 ≤ a40 := by rw [z40]; exact hz
        have s40 : n0 ≤ h40.size := Nat.le_trans hz E40.1
        refine c40 ?_
        refine o_astore B40 12 14 (l' := #[.val (.int x0), .val (.int x1), .val (.int x2), .val (.int x3), .val (.int x4), .val (.int x5), .val (.int (2 : Int32)), .val (.ref a40), .unset, .unset, .unset, .unset, .unset, .unset, .unset, .unset, .unset, .unset, .unset, .unset, .unset, .unset]) at_12 rfl rfl rfl ?_
        refine o_aload B40 14 16 (v := (.ref a40)) at_14 rfl rfl rfl ?_
        refine o_iconst B40 16 17 (0 : Int32) at_16 rfl (by decide) ?_
        refine o_iloadN B40 17 18 (v := x0) at_17 rfl rfl ?_
        refine o_i2c B40 18 19 at_18 rfl ?_
        obtain ⟨T41, h41, L41, B41, N41, W41, Q41, c41⟩ := o_castore B40 N0 g40 19 20 A40 (j := (0 : Int32)) (x := x0.toUInt32.toUInt16.toUInt32.toInt32) 0 x0.toUInt32.toUInt16.toUInt32.toInt32 at_19 rfl (by decide) (by decide) (by decide) (nar_cc _) (Ls := #[.val (.int x0), .val (.int x1), .val (.int x2), .val (.int x3), .val (.int x4), .val (.int x5), .val (.int (2 : Int32)), .val (.ref a40), .unset, .unset, .unset, .unset, .unset, .unset, .unset, .unset, .unset, .unset, .unset, .unset, .unset, .unset]) (rest := [])
        have A41 : AI Z h41 a40 .char 5 (w0_2 x0 x1 x2 x3 x4 x5) := Q41
        refine c41 ?_
        refine o_aload B41 20 22 (v := (.ref a40)) at_20 rfl rfl rfl ?_
        refine o_iconst B41 22 23 (1 : Int32) at_22 rfl (by decide) ?_
        refine o_iloadN B41 23 24 (v := x1) at_23 rfl rfl ?_
        refine o_i2c B41 24 25 at_24 rfl ?_
        obtain ⟨T42, h42, L42, B42, N42, W42, Q42, c42⟩ := o_castore B41 N41 g40 25 26 A41 (j := (1 : Int32)) (x := x1.toUInt32.toUInt16.toUInt32.toInt32) 1 x1.toUInt32.toUInt16.toUInt32.toInt32 at_25 rfl (by decide) (by decide) (by decide) (nar_cc _) (Ls := #[.val (.int x0), .val (.int x1), .val (.int x2), .val (.int x3), .val (.int x4), .val (.int x5), .val (.int (2 : Int32)), .val (.ref a40), .unset, .unset, .unset, .unset, .unset, .unset, .unset, .unset, .unset, .unset, .unset, .unset, .unset, .unset]) (rest := [])
        have A42 : AI Z h42 a40 .char 5 (w0_3 x0 x1 x2 x3 x4 x5) := Q42
        refine c42 ?_
        refine o_aload B42 26 28 (v := (.ref a40)) at_26 rfl rfl rfl ?_
        refine o_iconst B42 28 29 (2 : Int32) at_28 rfl (by decide) ?_
        refine o_iloadN B42 29 30 (v := x2) at_29 rfl rfl ?_
        refine o_i2c B42 30 31 at_30 rfl ?_
        obtain ⟨T43, h43, L43, B43, N43, W43, Q43, c43⟩ := o_castore B42 N42 g40 31 32 A42 (j := (2 : Int32)) (x := x2.toUInt32.toUInt16.toUInt32.toInt32) 2 x2.toUInt32.toUInt16.toUInt32.toInt32 at_31 rfl (by decide) (by decide) (by decide) (nar_cc _) (Ls := #[.val (.int x0), .val (.int x1), .val (.int x2), .val (.int x3), .val (.int x4), .val (.int x5), .val (.int (2 : Int32)), .val (.ref a40), .unset, .unset, .unset, .unset, .unset, .unset, .unset, .unset, .unset, .unset, .unset, .unset, .unset, .unset]) (rest := [])
        have A43 : AI Z h43 a40 .char 5 (w0_4 x0 x1 x2 x3 x4 x5) := Q43
        refine c43 ?_
        refine o_aload B43 32 34 (v := (.ref a40)) at_32 rfl rfl rfl ?_
        refine o_iconst B43 34 35 (3 : Int32) at_34 rfl (by decide) ?_
        refine o_iloadN B43 35 36 (v := x3) at_35 rfl rfl ?_
        refine o_i2c B43 36 37 at_36 rfl ?_
        obtain ⟨T44, h44, L44, B44, N44, W44, Q44, c44⟩ := o_castore B43 N43 g40 37 38 A43 (j := (3 : Int32)) (x := x3.toUInt32.toUInt16.toUInt32.toInt32) 3 x3.toUInt32.toUInt16.toUInt32.toInt32 at_37 rfl (by decide) (by decide) (by decide) (nar_cc _) (Ls := #[.val (.int x0), .val (.int x1), .val (.int x2), .val (.int x3), .val (.int x4), .val (.int x5), .val (.int (2 : Int32)), .val (.ref a40), .unset, .unset, .unset, .unset, .unset, .unset, .unset, .unset, .unset, .unset, .unset, .unset, .unset, .unset]) (rest := [])
        have A44 : AI Z h44 a40 .char 5 (w0_5 x0 x1 x2 x3 x4 x5) := Q44
        refine c44 ?_
        refine o_aload B44 38 40 (v := (.ref a40)) at_38 rfl rfl rfl ?_
        refine o_iconst B44 40 41 (4 : Int32) at_40 rfl (by decide) ?_
        refine o_iload B44 41 43 (v := x4) at_41 rfl rfl ?_
        refine o_i2c B44 43 44 at_43 rfl ?_
        obtain ⟨T45, h45, L45, B45, N45, W45, Q45, c45⟩ := o_castore B44 N44 g40 44 45 A44 (j := (4 : Int32)) (x := x4.toUInt32.toUInt16.toUInt32.toInt32) 4 x4.toUInt32.toUInt16.toUInt32.toInt32 at_44 rfl (by decide) (by decide) (by decide) (nar_cc _) (Ls := #[.val (.int x0), .val (.int x1), .val (.int x2), .val (.int x3), .val (.int x4), .val (.int x5), .val (.int (2 : Int32)), .val (.ref a40), .unset, .unset, .unset, .unset, .unset, .unset, .unset, .unset, .unset, .unset, .unset, .unset, .unset, .unset]) (rest := [])
        have A45 : AI Z h45 a40 .char 5 (w0_6 x0 x1 x2 x3 x4 x5) := Q45
        refine c45 ?_
        refine o_ldc2 B45 45 48 at_45 rfl (hw _ (List.mem_of_getElem? (i := 2) rfl)) ?_
        refine o_lstore B45 48 50 (l' := #[.val (.int x0), .val (.int x1), .val (.int x2), .val (.int x3), .val (.int x4), .val (.int x5), .val (.int (2 : Int32)), .val (.ref a40), .val (.long (-7046029254386353131 : Int64)), .second, .unset, .unset, .unset, .unset, .unset, .unset, .unset, .unset, .unset, .unset, .unset, .unset]) at_48 rfl rfl ?_
        refine o_iconst B45 50 51 (5 : Int32) at_50 rfl (by decide) ?_
        obtain ⟨a46, T46, h46, z46, B46, E46, A46, c46⟩ := o_newJ B45 51 53 (z := (5 : Int32)) 5 5 (hw _ (List.mem_of_getElem? (i := 3) rfl)) at_51 rfl rfl (by decide) (by decide) (by decide) (by decide) (by decide) (by decide) (Ls := #[.val (.int x0), .val (.int x1), .val (.int x2), .val (.int x3), .val (.int x4), .val (.int x5), .val (.int (2 : Int32)), .val (.ref a40), .val (.long (-7046029254386353131 : Int64)), .second, .unset, .unset, .unset, .unset, .unset, .unset, .unset, .unset, .unset, .unset, .unset, .unset]) (rest := [])
        have ne47 : a40 ≠ a46 := by rw [z46]; exact Nat.ne_of_lt A45.lt
        have g46 : n0 ≤ a46 := by rw [z46]; exact (W45.size ▸ (W44.size ▸ (W43.size ▸ (W42.size ▸ (W41.size ▸ s40)))))
        have s46 : n0 ≤ h46.size := Nat.le_trans (W45.size ▸ (W44.size ▸ (W43.size ▸ (W42.size ▸ (W41.size ▸ s40))))) E46.1
        refine c46 ?_
        refine o_astore B46 53 55 (l' := #[.val (.int x0), .val (.int x1), .val (.int x2), .val (.int x3), .val (.int x4), .val (.int x5), .val (.int (2 : Int32)), .val (.ref a40), .val (.long (-7046029254386353131 : Int64)), .second, .val (.ref a46), .unset, .unset, .unset, .unset, .unset, .unset, .unset, .unset, .unset, .unset, .unset]) at_53 rfl rfl rfl ?_
        refine o_aload B46 55 57 (v := (.ref a46)) at_55 rfl rfl rfl ?_
        refine o_iconst B46 57 58 (0 : Int32) at_57 rfl (by decide) ?_
        refine o_lconst B46 58 59 (1 : Int64) at_58 rfl (by decide) ?_
        obtain ⟨T48, h48, L48, B48, N48, W48, Q48, c48⟩ := o_lastore B46 N45 g46 59 60 A46 (j := (0 : Int32)) (x := (1 : Int64)) 0 (1 : Int64) at_59 rfl (by decide) (by decide) (by decide) rfl (Ls := #[.val (.int x0), .val (.int x1), .val (.int x2), .val (.int x3), .val (.int x4), .val (.int x5), .val (.int (2 : Int32)), .val (.ref a40), .val (.long (-7046029254386353131 : Int64)), .second, .val (.ref a46), .unset, .unset, .unset, .unset, .unset, .unset, .unset, .unset, .unset, .unset, .unset]) (rest := [])
        have A48 : AJ Z h48 a46 5 (w0_7 x0 x1 x2 x3 x4 x5) := Q48
        refine c48 ?_
        refine o_aload B48 60 62 (v := (.ref a46)) at_60 rfl rfl rfl ?_
        refine o_iconst B48 62 63 (1 : Int32) at_62 rfl (by decide) ?_
        refine o_lload B48 63 65 (v := (-7046029254386353131 : Int64)) at_63 rfl rfl ?_
        obtain ⟨T49, h49, L49, B49, N49, W49, Q49, c49⟩ := o_lastore B48 N48 g46 65 66 A48 (j := (1 : Int32)) (x := (-7046029254386353131 : Int64)) 1 (-7046029254386353131 : Int64) at_65 rfl (by decide) (by decide) (by decide) rfl (Ls := #[.val (.int x0), .val (.int x1), .val (.int x2), .val (.int x3), .val (.int x4), .val (.int x5), .val (.int (2 : Int32)), .val (.ref a40), .val (.long (-7046029254386353131 : Int64)), .second, .val (.ref a46), .unset, .unset, .unset, .unset, .unset, .unset, .unset, .unset, .unset, .unset, .unset]) (rest := [])
        have A49 : AJ Z h49 a46 5 (w0_8 x0 x1 x2 x3 x4 x5) := Q49
        refine c49 ?_
        refine o_aload B49 66 68 (v := (.ref a46)) at_66 rfl rfl rfl ?_
        refine o_iconst B49 68 69 (2 : Int32) at_68 rfl (by decide) ?_
        refine o_aload B49 69 71 (v := (.ref a46)) at_69 rfl rfl rfl ?_
        refine o_iconst B49 71 72 (1 : Int32) at_71 rfl (by decide) ?_
        refine o_laload B49 72 73 A49 1 (-7046029254386353131 : Int64) at_72 rfl (by decide) (by decide) (by decide) rfl ?_
        refine o_lload B49 73 75 (v := (-7046029254386353131 : Int64)) at_73 rfl rfl ?_
        refine o_lmul B49 75 76 at_75 rfl ?_
        refine o_topJ (show ((-7046029254386353131 : Int64) * (-7046029254386353131 : Int64)) = (-2358710677322311239 : Int64) by decide) ?_
        obtain ⟨T51, h51, L51, B51, N51, W51, Q51, c51⟩ := o_lastore B49 N49 g46 76 77 A49 (j := (2 : Int32)) (x := (-2358710677322311239 : Int64)) 2 (-2358710677322311239 : Int64) at_76 rfl (by decide) (by decide) (by decide) rfl (Ls := #[.val (.int x0), .val (.int x1), .val (.int x2), .val (.int x3), .val (.int x4), .val (.int x5), .val (.int (2 : Int32)), .val (.ref a40), .val (.long (-7046029254386353131 : Int64)), .second, .val (.ref a46), .unset, .unset, .unset, .unset, .unset, .unset, .unset, .unset, .unset, .unset, .unset]) (rest := [])
        have A51 : AJ Z h51 a46 5 (w0_9 x0 x1 x2 x3 x4 x5) := Q51
        refine c51 ?_
        refine o_aload B51 77 79 (v := (.ref a46)) at_77 rfl rfl rfl ?_
        refine o_iconst B51 79 80 (3 : Int32) at_79 rfl (by decide) ?_
        refine o_aload B51 80 82 (v := (.ref a46)) at_80 rfl rfl rfl ?_
        refine o_iconst B51 82 83 (2 : Int32) at_82 rfl (by decide) ?_
        refine o_laload B51 83 84 A51 2 (-2358710677322311239 : Int64) at_83 rfl (by decide) (by decide) (by decide) rfl ?_
        refine o_lload B51 84 86 (v := (-7046029254386353131 : Int64)) at_84 rfl rfl ?_
        refine o_lmul B51 86 87 at_86 rfl ?_
        refine o_topJ (show ((-2358710677322311239 : Int64) * (-7046029254386353131 : Int64)) = (6938460308862072877 : Int64) by decide) ?_
        obtain ⟨T53, h53, L53, B53, N53, W53, Q53, c53⟩ := o_lastore B51 N51 g46 87 88 A51 (j := (3 : Int32)) (x := (6938460308862072877 : Int64)) 3 (6938460308862072877 : Int64) at_87 rfl (by decide) (by decide) (by decide) rfl (Ls := #[.val (.int x0), .val (.int x1), .val (.int x2), .val (.int x3), .val (.int x4), .val (.int x5), .val (.int (2 : Int32)), .val (.ref a40), .val (.long (-7046029254386353131 : Int64)), .second, .val (.ref a46), .unset, .unset, .unset, .unset, .unset, .unset, .unset, .unset, .unset, .unset, .unset]) (rest := [])
        have A53 : AJ Z h53 a46 5 (w0_10 x0 x1 x2 x3 x4 x5) := Q53
        refine c53 ?_
        refine o_aload B53 88 90 (v := (.ref a46)) at_88 rfl rfl rfl ?_
        refine o_iconst B53 90 91 (4 : Int32) at_90 rfl (by decide) ?_
        refine o_aload B53 91 93 (v := (.ref a46)) at_91 rfl rfl rfl ?_
        refine o_iconst B53 93 94 (3 : Int32) at_93 rfl (by decide) ?_
        refine o_laload B53 94 95 A53 3 (6938460308862072877 : Int64) at_94 rfl (by decide) (by decide) (by decide) rfl ?_
        refine o_lload B53 95 97 (v := (-7046029254386353131 : Int64)) at_95 rfl rfl ?_
        refine o_lmul B53 97 98 at_97 rfl ?_
        refine o_topJ (show ((6938460308862072877 : Int64) * (-7046029254386353131 : Int64)) = (-2791277408655628367 : Int64) by decide) ?_
        obtain ⟨T55, h55, L55, B55, N55, W55, Q55, c55⟩ := o_lastore B53 N53 g46 98 99 A53 (j := (4 : Int32)) (x := (-2791277408655628367 : Int64)) 4 (-2791277408655628367 : Int64) at_98 rfl (by decide) (by decide) (by decide) rfl (Ls := #[.val (.int x0), .val (.int x1), .val (.int x2), .val (.int x3), .val (.int x4), .val (.int x5), .val (.int (2 : Int32)), .val (.ref a40), .val (.long (-7046029254386353131 : Int64)), .second, .val (.ref a46), .unset, .unset, .unset, .unset, .unset, .unset, .unset, .unset, .unset, .unset, .unset]) (rest := [])
        have A55 : AJ Z h55 a46 5 (w0_11 x0 x1 x2 x3 x4 x5) := Q55
        refine c55 ?_
        refine o_iloadN B55 99 100 (v := x0) at_99 rfl rfl ?_
        refine o_ldc B55 100 102 at_100 rfl (hw _ (List.mem_of_getElem? (i := 4) rfl)) ?_
        refine o_iand B55 102 103 at_102 rfl ?_
        refine o_i2l B55 103 104 at_103 rfl ?_
        refine o_lstore B55 104 106 (l' := #[.val (.int x0), .val (.int x1), .val (.int x2), .val (.int x3), .val (.int x4), .val (.int x5), .val (.int (2 : Int32)), .val (.ref a40), .val (.long (-7046029254386353131 : Int64)), .second, .val (.ref a46), .val (.long (x0 &&& (65535 : Int32)).toInt64), .second, .unset, .unset, .unset, .unset, .unset, .unset, .unset, .unset, .unset]) at_104 rfl rfl ?_
        refine o_iloadN B55 106 107 (v := x1) at_106 rfl rfl ?_
        refine o_ldc B55 107 109 at_107 rfl (hw _ (List.mem_of_getElem? (i := 4) rfl)) ?_
        refine o_iand B55 109 110 at_109 rfl ?_
        refine o_i2l B55 110 111 at_110 rfl ?_
        refine o_lstore B55 111 113 (l' := #[.val (.int x0), .val (.int x1), .val (.int x2), .val (.int x3), .val (.int x4), .val (.int x5), .val (.int (2 : Int32)), .val (.ref a40), .val (.long (-7046029254386353131 : Int64)), .second, .val (.ref a46), .val (.long (x0 &&& (65535 : Int32)).toInt64), .second, .val (.long (x1 &&& (65535 : Int32)).toInt64), .second, .unset, .unset, .unset, .unset, .unset, .unset, .unset]) at_111 rfl rfl ?_
        refine o_iloadN B55 113 114 (v := x2) at_113 rfl rfl ?_
        refine o_ldc B55 114 116 at_114 rfl (hw _ (List.mem_of_getElem? (i := 4) rfl)) ?_
        refine o_iand B55 116 117 at_116 rfl ?_
        refine o_i2l B55 117 118 at_117 rfl ?_
        refine o_lstore B55 118 120 (l' := #[.val (.int x0), .val (.int x1), .val (.int x2), .val (.int x3), .val (.int x4), .val (.int x5), .val (.int (2 : Int32)), .val (.ref a40), .val (.long (-7046029254386353131 : Int64)), .second, .val (.ref a46), .val (.long (x0 &&& (65535 : Int32)).toInt64), .second, .val (.long (x1 &&& (65535 : Int32)).toInt64), .second, .val (.long (x2 &&& (65535 : Int32)).toInt64), .second, .unset, .unset, .unset, .unset, .unset]) at_118 rfl rfl ?_
        refine o_iloadN B55 120 121 (v := x3) at_120 rfl rfl ?_
        refine o_ldc B55 121 123 at_121 rfl (hw _ (List.mem_of_getElem? (i := 4) rfl)) ?_
        refine o_iand B55 123 124 at_123 rfl ?_
        refine o_i2l B55 124 125 at_124 rfl ?_
        refine o_lstore B55 125 127 (l' := #[.val (.int x0), .val (.int x1), .val (.int x2), .val (.int x3), .val (.int x4), .val (.int x5), .val (.int (2 : Int32)), .val (.ref a40), .val (.long (-7046029254386353131 : Int64)), .second, .val (.ref a46), .val (.long (x0 &&& (65535 : Int32)).toInt64), .second, .val (.long (x1 &&& (65535 : Int32)).toInt64), .second, .val (.long (x2 &&& (65535 : Int32)).toInt64), .second, .val (.long (x3 &&& (65535 : Int32)).toInt64), .second, .unset, .unset, .unset]) at_125 rfl rfl ?_
        refine o_iload B55 127 129 (v := (2 : Int32)) at_127 rfl rfl ?_
        refine o_i2l B55 129 130 at_129 rfl ?_
        refine o_topJ (show (2 : Int32).toInt64 = (2 : Int64) by decide) ?_
        refine o_aload B55 130 132 (v := (.ref a46)) at_130 rfl rfl rfl ?_
        refine o_iload B55 132 134 (v := (2 : Int32)) at_132 rfl rfl ?_
        refine o_laload B55 134 135 A55 2 (-2358710677322311239 : Int64) at_134 rfl (by decide) (by decide) (by decide) rfl ?_
        refine o_lmul B55 135 136 at_135 rfl ?_
        refine o_topJ (show ((2 : Int64) * (-2358710677322311239 : Int64)) = (-4717421354644622478 : Int64) by decide) ?_
        refine o_lstore B55 136 138 (l' := #[.val (.int x0), .val (.int x1), .val (.int x2), .val (.int x3), .val (.int x4), .val (.int x5), .val (.int (2 : Int32)), .val (.ref a40), .val (.long (-7046029254386353131 : Int64)), .second, .val (.ref a46), .val (.long (x0 &&& (65535 : Int32)).toInt64), .second, .val (.long (x1 &&& (65535 : Int32)).toInt64), .second, .val (.long (x2 &&& (65535 : Int32)).toInt64), .second, .val (.long (x3 &&& (65535 : Int32)).toInt64), .second, .val (.long (-4717421354644622478 : Int64)), .second, .unset]) at_136 rfl rfl ?_
        refine o_iload B55 138 140 (v := (2 : Int32)) at_138 rfl rfl ?_
        refine o_ifN B55 140 143 at_140 rfl (XT.i0_le_f (by decide)) ?_
        refine o_lload B55 143 145 (v := (-4717421354644622478 : Int64)) at_143 rfl rfl ?_
        refine o_lload B55 145 147 (v := (x0 &&& (65535 : Int32)).toInt64) at_145 rfl rfl ?_
        refine o_aload B55 147 149 (v := (.ref a46)) at_147 rfl rfl rfl ?_
        refine o_iload B55 149 151 (v := (2 : Int32)) at_149 rfl rfl ?_
        refine o_laload B55 151 152 A55 2 (-2358710677322311239 : Int64) at_151 rfl (by decide) (by decide) (by decide) rfl ?_
        refine o_lmul B55 152 153 at_152 rfl ?_
        refine o_ladd B55 153 154 at_153 rfl ?_
        refine o_lstore B55 154 156 (l' := #[.val (.int x0), .val (.int x1), .val (.int x2), .val (.int x3), .val (.int x4), .val (.int x5), .val (.int (2 : Int32)), .val (.ref a40), .val (.long (-7046029254386353131 : Int64)), .second, .val (.ref a46), .val (.long (x0 &&& (65535 : Int32)).toInt64), .second, .val (.long (x1 &&& (65535 : Int32)).toInt64), .second, .val (.long (x2 &&& (65535 : Int32)).toInt64), .second, .val (.long (x3 &&& (65535 : Int32)).toInt64), .second, .val (.long (q0_14 x0 x1 x2 x3 x4 x5)), .second, .unset]) at_154 rfl rfl ?_
        refine o_iload B55 156 158 (v := (2 : Int32)) at_156 rfl rfl ?_
        refine o_iconst B55 158 159 (1 : Int32) at_158 rfl (by decide) ?_
        refine o_icN B55 159 162 at_159 rfl (XT.ii_le_f (by decide)) ?_
        refine o_lload B55 162 164 (v := (q0_14 x0 x1 x2 x3 x4 x5)) at_162 rfl rfl ?_
        refine o_lload B55 164 166 (v := (x1 &&& (65535 : Int32)).toInt64) at_164 rfl rfl ?_
        refine o_aload B55 166 168 (v := (.ref a46)) at_166 rfl rfl rfl ?_
        refine o_iload B55 168 170 (v := (2 : Int32)) at_168 rfl rfl ?_
        refine o_iconst B55 170 171 (1 : Int32) at_170 rfl (by decide) ?_
        refine o_isub B55 171 172 at_171 rfl ?_
        refine o_topI (show ((2 : Int32) - (1 : Int32)) = (1 : Int32) by decide) ?_
        refine o_laload B55 172 173 A55 1 (-7046029254386353131 : Int64) at_172 rfl (by decide) (by decide) (by decide) rfl ?_
        refine o_lmul B55 173 174 at_173 rfl ?_
        refine o_ladd B55 174 175 at_174 rfl ?_
        refine o_lstore B55 175 177 (l' := #[.val (.int x0), .val (.int x1), .val (.int x2), .val (.int x3), .val (.int x4), .val (.int x5), .val (.int (2 : Int32)), .val (.ref a40), .val (.long (-7046029254386353131 : Int64)), .second, .val (.ref a46), .val (.long (x0 &&& (65535 : Int32)).toInt64), .second, .val (.long (x1 &&& (65535 : Int32)).toInt64), .second, .val (.long (x2 &&& (65535 : Int32)).toInt64), .second, .val (.long (x3 &&& (65535 : Int32)).toInt64), .second, .val (.long (q0_15 x0 x1 x2 x3 x4 x5)), .second, .unset]) at_175 rfl rfl ?_
        refine o_iload B55 177 179 (v := (2 : Int32)) at_177 rfl rfl ?_
        refine o_iconst B55 179 180 (2 : Int32) at_179 rfl (by decide) ?_
        refine o_icY B55 180 198 at_180 (XT.ii_le_t (by decide)) (by decide) (by decide) ?_
        refine o_iload B55 198 200 (v := (2 : Int32)) at_198 rfl rfl ?_
        refine o_iconst B55 200 201 (3 : Int32) at_200 rfl (by decide) ?_
        refine o_icY B55 201 219 at_201 (XT.ii_le_t (by decide)) (by decide) (by decide) ?_
        refine o_lload B55 219 221 (v := (q0_15 x0 x1 x2 x3 x4 x5)) at_219 rfl rfl ?_
        refine o_bipush B55 221 223 (32 : Int32) at_221 rfl (by decide) ?_
        refine o_lushr B55 223 224 at_223 rfl ?_
        refine o_l2i B55 224 225 at_224 rfl ?_
        refine o_istore B55 225 227 (l' := #[.val (.int x0), .val (.int x1), .val (.int x2), .val (.int x3), .val (.int x4), .val (.int x5), .val (.int (2 : Int32)), .val (.ref a40), .val (.long (-7046029254386353131 : Int64)), .second, .val (.ref a46), .val (.long (x0 &&& (65535 : Int32)).toInt64), .second, .val (.long (x1 &&& (65535 : Int32)).toInt64), .second, .val (.long (x2 &&& (65535 : Int32)).toInt64), .second, .val (.long (x3 &&& (65535 : Int32)).toInt64), .second, .val (.long (q0_15 x0 x1 x2 x3 x4 x5)), .second, .val (.int (q0_16 x0 x1 x2 x3 x4 x5))]) at_225 rfl rfl ?_
        refine o_aload B55 227 229 (v := (.ref a40)) at_227 rfl rfl rfl ?_
        refine o_iload B55 229 231 (v := (2 : Int32)) at_229 rfl rfl ?_
        have F59 := ((((((A45.ext E46).other W48 ne47).other W49 ne47).other W51 ne47).other W53 ne47).other W55 ne47)
        obtain ⟨T60, B60, c60⟩ := o_callP B55 231 234 at_231 rfl (hw _ (List.mem_of_getElem? (i := 5) rfl)) (hw _ (List.mem_of_getElem? (i := 6) rfl)) (hw _ (List.mem_of_getElem? (i := 7) rfl)) (hw _ (List.mem_of_getElem? (i := 8) rfl)) (by decide) (rm1_2 l Z a0 hw (w0_6 x0 x1 x2 x3 x4 x5) a40 h55 F59) 0 [(.ref a40), (.int (2 : Int32))] [] pd___CI_I rfl rfl (st := [(.int (2 : Int32)), (.ref a40)]) rfl (Ls := #[.val (.int x0), .val (.int x1), .val (.int x2), .val (.int x3), .val (.int x4), .val (.int x5), .val (.int (2 : Int32)), .val (.ref a40), .val (.long (-7046029254386353131 : Int64)), .second, .val (.ref a46), .val (.long (x0 &&& (65535 : Int32)).toInt64), .second, .val (.long (x1 &&& (65535 : Int32)).toInt64), .second, .val (.long (x2 &&& (65535 : Int32)).toInt64), .second, .val (.long (x3 &&& (65535 : Int32)).toInt64), .second, .val (.long (q0_15 x0 x1 x2 x3 x4 x5)), .second, .val (.int (q0_16 x0 x1 x2 x3 x4 x5))]) rfl (Nat.le_of_eq rfl) (by decide) (by decide) (by decide) (by decide)
        refine c60 ?_
        refine o_iload B60 234 236 (v := (q0_16 x0 x1 x2 x3 x4 x5)) at_234 rfl rfl ?_
        by_cases k6 : (f1_2 (w0_6 x0 x1 x2 x3 x4 x5)) = (q0_16 x0 x1 x2 x3 x4 x5)
        · refine o_icN B60 236 239 at_236 rfl (XT.ii_ne_f k6) ?_
          refine o_iconst B60 239 240 (1 : Int32) at_239 rfl (by decide) ?_
          refine o_goto B60 240 244 at_240 (by decide) (by decide) ?_
          refine o_retZ (t := .boolean) B60 244 at_244 hret hlk (by simp) (by decide) (by decide) ⟨(congrArg (fun z => some (Value.int z)) ((show nar .boolean (1 : Int32) = (1 : Int32) from rfl).trans (show f0 x0 x1 x2 x3 x4 x5 = (1 : Int32) from (if_neg k1).trans ((if_neg k3).trans ((if_pos k5).trans ((if_pos k6).trans (rfl))))).symm)), N55⟩
        · refine o_icY B60 236 243 at_236 (XT.ii_ne_t k6) (by decide) (by decide) ?_
          refine o_iconst B60 243 244 (0 : Int32) at_243 rfl (by decide) ?_
          refine o_retZ (t := .boolean) B60 244 at_244 hret hlk (by simp) (by decide) (by decide) ⟨(congrArg (fun z => some (Value.int z)) ((show nar .boolean (0 : Int32) = (0 : Int32) from rfl).trans (show f0 x0 x1 x2 x3 x4 x5 = (0 : Int32) from (if_neg k1).trans ((if_neg k3).trans ((if_pos k5).trans ((if_neg k6).trans (rfl))))).symm)), N55⟩
      · by_cases k7 : (q0_1 x0 x1 x2 x3 x4 x5) = (3 : Int32)
        · rw [k7]
          refine o_iconst B 9 10 (5 : Int32) at_9 rfl (by decide) ?_
          obtain ⟨a61, T61, h61, z61, B61, E61, A61, c61⟩ := o_newI B 10 12 (ty := .char) (z := (5 : Int32)) 5 5 (hw _ (List.mem_of_getElem? (i := 1) rfl)) at_10 rfl rfl rfl (by decide) (by decide) (by decide) (by decide) (by decide) (by decide) (Ls := #[.val (.int x0), .val (.int x1), .val (.int x2), .val (.int x3), .val (.int x4), .val (.int x5), .val (.int (3 : Int32)), .unset, .unset, .unset, .unset, .unset, .unset, .unset, .unset, .unset, .unset, .unset, .unset, .unset, .unset, .unset]) (rest := [])
          have g61 : n0 ≤ a61 := by rw [z61]; exact hz
          have s61 : n0 ≤ h61.size := Nat.le_trans hz E61.1
          refine c61 ?_
          refine o_astore B61 12 14 (l' := #[.val (.int x0), .val (.int x1), .val (.int x2), .val (.int x3), .val (.int x4), .val (.int x5), .val (.int (3 : Int32)), .val (.ref a61), .unset, .unset, .unset, .unset, .unset, .unset, .unset, .unset, .unset, .unset, .unset, .unset, .unset, .unset]) at_12 rfl rfl rfl ?_
          refine o_aload B61 14 16 (v := (.ref a61)) at_14 rfl rfl rfl ?_
          refine o_iconst B61 16 17 (0 : Int32) at_16 rfl (by decide) ?_
          refine o_iloadN B61 17 18 (v := x0) at_17 rfl rfl ?_
          refine o_i2c B61 18 19 at_18 rfl ?_
          obtain ⟨T62, h62, L62, B62, N62, W62, Q62, c62⟩ := o_castore B61 N0 g61 19 20 A61 (j := (0 : Int32)) (x := x0.toUInt32.toUInt16.toUInt32.toInt32) 0 x0.toUInt32.toUInt16.toUInt32.toInt32 at_19 rfl (by decide) (by decide) (by decide) (nar_cc _) (Ls := #[.val (.int x0), .val (.int x1), .val (.int x2), .val (.int x3), .val (.int x4), .val (.int x5), .val (.int (3 : Int32)), .val (.ref a61), .unset, .unset, .unset, .unset, .unset, .unset, .unset, .unset, .unset, .unset, .unset, .unset, .unset, .unset]) (rest := [])
          have A62 : AI Z h62 a61 .char 5 (w0_2 x0 x1 x2 x3 x4 x5) := Q62
          refine c62 ?_
          refine o_aload B62 20 22 (v := (.ref a61)) at_20 rfl rfl rfl ?_
          refine o_iconst B62 22 23 (1 : Int32) at_22 rfl (by decide) ?_
          refine o_iloadN B62 23 24 (v := x1) at_23 rfl rfl ?_
          refine o_i2c B62 24 25 at_24 rfl ?_
          obtain ⟨T63, h63, L63, B63, N63, W63, Q63, c63⟩ := o_castore B62 N62 g61 25 26 A62 (j := (1 : Int32)) (x := x1.toUInt32.toUInt16.toUInt32.toInt32) 1 x1.toUInt32.toUInt16.toUInt32.toInt32 at_25 rfl (by decide) (by decide) (by decide) (nar_cc _) (Ls := #[.val (.int x0), .val (.int x1), .val (.int x2), .val (.int x3), .val (.int x4), .val (.int x5), .val (.int (3 : Int32)), .val (.ref a61), .unset, .unset, .unset, .unset, .unset, .unset, .unset, .unset, .unset, .unset, .unset, .unset, .unset, .unset]) (rest := [])
          have A63 : AI Z h63 a61 .char 5 (w0_3 x0 x1 x2 x3 x4 x5) := Q63
          refine c63 ?_
          refine o_aload B63 26 28 (v := (.ref a61)) at_26 rfl rfl rfl ?_
          refine o_iconst B63 28 29 (2 : Int32) at_28 rfl (by decide) ?_
          refine o_iloadN B63 29 30 (v := x2) at_29 rfl rfl ?_
          refine o_i2c B63 30 31 at_30 rfl ?_
          obtain ⟨T64, h64, L64, B64, N64, W64, Q64, c64⟩ := o_castore B63 N63 g61 31 32 A63 (j := (2 : Int32)) (x := x2.toUInt32.toUInt16.toUInt32.toInt32) 2 x2.toUInt32.toUInt16.toUInt32.toInt32 at_31 rfl (by decide) (by decide) (by decide) (nar_cc _) (Ls := #[.val (.int x0), .val (.int x1), .val (.int x2), .val (.int x3), .val (.int x4), .val (.int x5), .val (.int (3 : Int32)), .val (.ref a61), .unset, .unset, .unset, .unset, .unset, .unset, .unset, .unset, .unset, .unset, .unset, .unset, .unset, .unset]) (rest := [])
          have A64 : AI Z h64 a61 .char 5 (w0_4 x0 x1 x2 x3 x4 x5) := Q64
          refine c64 ?_
          refine o_aload B64 32 34 (v := (.ref a61)) at_32 rfl rfl rfl ?_
          refine o_iconst B64 34 35 (3 : Int32) at_34 rfl (by decide) ?_
          refine o_iloadN B64 35 36 (v := x3) at_35 rfl rfl ?_
          refine o_i2c B64 36 37 at_36 rfl ?_
          obtain ⟨T65, h65, L65, B65, N65, W65, Q65, c65⟩ := o_castore B64 N64 g61 37 38 A64 (j := (3 : Int32)) (x := x3.toUInt32.toUInt16.toUInt32.toInt32) 3 x3.toUInt32.toUInt16.toUInt32.toInt32 at_37 rfl (by decide) (by decide) (by decide) (nar_cc _) (Ls := #[.val (.int x0), .val (.int x1), .val (.int x2), .val (.int x3), .val (.int x4), .val (.int x5), .val (.int (3 : Int32)), .val (.ref a61), .unset, .unset, .unset, .unset, .unset, .unset, .unset, .unset, .unset, .unset, .unset, .unset, .unset, .unset]) (rest := [])
          have A65 : AI Z h65 a61 .char 5 (w0_5 x0 x1 x2 x3 x4 x5) := Q65
          refine c65 ?_
          refine o_aload B65 38 40 (v := (.ref a61)) at_38 rfl rfl rfl ?_
          refine o_iconst B65 40 41 (4 : Int32) at_40 rfl (by decide) ?_
          refine o_iload B65 41 43 (v := x4) at_41 rfl rfl ?_
          refine o_i2c B65 43 44 at_43 rfl ?_
          obtain ⟨T66, h66, L66, B66, N66, W66, Q66, c66⟩ := o_castore B65 N65 g61 44 45 A65 (j := (4 : Int32)) (x := x4.toUInt32.toUInt16.toUInt32.toInt32) 4 x4.toUInt32.toUInt16.toUInt32.toInt32 at_44 rfl (by decide) (by decide) (by decide) (nar_cc _) (Ls := #[.val (.int x0), .val (.int x1), .val (.int x2), .val (.int x3), .val (.int x4), .val (.int x5), .val (.int (3 : Int32)), .val (.ref a61), .unset, .unset, .unset, .unset, .unset, .unset, .unset, .unset, .unset, .unset, .unset, .unset, .unset, .unset]) (rest := [])
          have A66 : AI Z h66 a61 .char 5 (w0_6 x0 x1 x2 x3 x4 x5) := Q66
          refine c66 ?_
          refine o_ldc2 B66 45 48 at_45 rfl (hw _ (List.mem_of_getElem? (i := 2) rfl)) ?_
          refine o_lstore B66 48 50 (l' := #[.val (.int x0), .val (.int x1), .val (.int x2), .val (.int x3), .val (.int x4), .val (.int x5), .val (.int (3 : Int32)), .val (.ref a61), .val (.long (-7046029254386353131 : Int64)), .second, .unset, .unset, .unset, .unset, .unset, .unset, .unset, .unset, .unset, .unset, .unset, .unset]) at_48 rfl rfl ?_
          refine o_iconst B66 50 51 (5 : Int32) at_50 rfl (by decide) ?_
          obtain ⟨a67, T67, h67, z67, B67, E67, A67, c67⟩ := o_newJ B66 51 53 (z := (5 : Int32)) 5 5 (hw _ (List.mem_of_getElem? (i := 3) rfl)) at_51 rfl rfl (by decide) (by decide) (by decide) (by decide) (by decide) (by decide) (Ls := #[.val (.int x0), .val (.int x1), .val (.int x2), .val (.int x3), .val (.int x4), .val (.int x5), .val (.int (3 : Int32)), .val (.ref a61), .val (.long (-7046029254386353131 : Int64)), .second, .unset, .unset, .unset, .unset, .unset, .unset, .unset, .unset, .unset, .unset, .unset, .unset]) (rest := [])
          have ne68 : a61 ≠ a67 := by rw [z67]; exact Nat.ne_of_lt A66.lt
          have g67 : n0 ≤ a67 := by rw [z67]; exact (W66.size ▸ (W65.size ▸ (W64.size ▸ (W63.size ▸ (W62.size ▸ s61)))))
          have s67 : n0 ≤ h67.size := Nat.le_trans (W66.size ▸ (W65.size ▸ (W64.size ▸ (W63.size ▸ (W62.size ▸ s61))))) E67.1
          refine c67 ?_
          refine o_astore B67 53 55 (l' := #[.val (.int x0), .val (.int x1), .val (.int x2), .val (.int x3), .val (.int x4), .val (.int x5), .val (.int (3 : Int32)), .val (.ref a61), .val (.long (-7046029254386353131 : Int64)), .second, .val (.ref a67), .unset, .unset, .unset, .unset, .unset, .unset, .unset, .unset, .unset, .unset, .unset]) at_53 rfl rfl rfl ?_
          refine o_aload B67 55 57 (v := (.ref a67)) at_55 rfl rfl rfl ?_
          refine o_iconst B67 57 58 (0 : Int32) at_57 rfl (by decide) ?_
          refine o_lconst B67 58 59 (1 : Int64) at_58 rfl (by decide) ?_
          obtain ⟨T69, h69, L69, B69, N69, W69, Q69, c69⟩ := o_lastore B67 N66 g67 59 60 A67 (j := (0 : Int32)) (x := (1 : Int64)) 0 (1 : Int64) at_59 rfl (by decide) (by decide) (by decide) rfl (Ls := #[.val (.int x0), .val (.int x1), .val (.int x2), .val (.int x3), .val (.int x4), .val (.int x5), .val (.int (3 : Int32)), .val (.ref a61), .val (.long (-7046029254386353131 : Int64)), .second, .val (.ref a67), .unset, .unset, .unset, .unset, .unset, .unset, .unset, .unset, .unset, .unset, .unset]) (rest := [])
          have A69 : AJ Z h69 a67 5 (w0_7 x0 x1 x2 x3 x4 x5) := Q69
          refine c69 ?_
          refine o_aload B69 60 62 (v := (.ref a67)) at_60 rfl rfl rfl ?_
          refine o_iconst B69 62 63 (1 : Int32) at_62 rfl (by decide) ?_
          refine o_lload B69 63 65 (v := (-7046029254386353131 : Int64)) at_63 rfl rfl ?_
          obtain ⟨T70, h70, L70, B70, N70, W70, Q70, c70⟩ := o_lastore B69 N69 g67 65 66 A69 (j := (1 : Int32)) (x := (-7046029254386353131 : Int64)) 1 (-7046029254386353131 : Int64) at_65 rfl (by decide) (by decide) (by decide) rfl (Ls := #[.val (.int x0), .val (.int x1), .val (.int x2), .val (.int x3), .val (.int x4), .val (.int x5), .val (.int (3 : Int32)), .val (.ref a61), .val (.long (-7046029254386353131 : Int64)), .second, .val (.ref a67), .unset, .unset, .unset, .unset, .unset, .unset, .unset, .unset, .unset, .unset, .unset]) (rest := [])
          have A70 : AJ Z h70 a67 5 (w0_8 x0 x1 x2 x3 x4 x5) := Q70
          refine c70 ?_
          refine o_aload B70 66 68 (v := (.ref a67)) at_66 rfl rfl rfl ?_
          refine o_iconst B70 68 69 (2 : Int32) at_68 rfl (by decide) ?_
          refine o_aload B70 69 71 (v := (.ref a67)) at_69 rfl rfl rfl ?_
          refine o_iconst B70 71 72 (1 : Int32) at_71 rfl (by decide) ?_
          refine o_laload B70 72 73 A70 1 (-7046029254386353131 : Int64) at_72 rfl (by decide) (by decide) (by decide) rfl ?_
          refine o_lload B70 73 75 (v := (-7046029254386353131 : Int64)) at_73 rfl rfl ?_
          refine o_lmul B70 75 76 at_75 rfl ?_
          refine o_topJ (show ((-7046029254386353131 : Int64) * (-7046029254386353131 : Int64)) = (-2358710677322311239 : Int64) by decide) ?_
          obtain ⟨T72, h72, L72, B72, N72, W72, Q72, c72⟩ := o_lastore B70 N70 g67 76 77 A70 (j := (2 : Int32)) (x := (-2358710677322311239 : Int64)) 2 (-2358710677322311239 : Int64) at_76 rfl (by decide) (by decide) (by decide) rfl (Ls := #[.val (.int x0), .val (.int x1), .val (.int x2), .val (.int x3), .val (.int x4), .val (.int x5), .val (.int (3 : Int32)), .val (.ref a61), .val (.long (-7046029254386353131 : Int64)), .second, .val (.ref a67), .unset, .unset, .unset, .unset, .unset, .unset, .unset, .unset, .unset, .unset, .unset]) (rest := [])
          have A72 : AJ Z h72 a67 5 (w0_9 x0 x1 x2 x3 x4 x5) := Q72
          refine c72 ?_
          refine o_aload B72 77 79 (v := (.ref a67)) at_77 rfl rfl rfl ?_
          refine o_iconst B72 79 80 (3 : Int32) at_79 rfl (by decide) ?_
          refine o_aload B72 80 82 (v := (.ref a67)) at_80 rfl rfl rfl ?_
          refine o_iconst B72 82 83 (2 : Int32) at_82 rfl (by decide) ?_
          refine o_laload B72 83 84 A72 2 (-2358710677322311239 : Int64) at_83 rfl (by decide) (by decide) (by decide) rfl ?_
          refine o_lload B72 84 86 (v := (-7046029254386353131 : Int64)) at_84 rfl rfl ?_
          refine o_lmul B72 86 87 at_86 rfl ?_
          refine o_topJ (show ((-2358710677322311239 : Int64) * (-7046029254386353131 : Int64)) = (6938460308862072877 : Int64) by decide) ?_
          obtain ⟨T74, h74, L74, B74, N74, W74, Q74, c74⟩ := o_lastore B72 N72 g67 87 88 A72 (j := (3 : Int32)) (x := (6938460308862072877 : Int64)) 3 (6938460308862072877 : Int64) at_87 rfl (by decide) (by decide) (by decide) rfl (Ls := #[.val (.int x0), .val (.int x1), .val (.int x2), .val (.int x3), .val (.int x4), .val (.int x5), .val (.int (3 : Int32)), .val (.ref a61), .val (.long (-7046029254386353131 : Int64)), .second, .val (.ref a67), .unset, .unset, .unset, .unset, .unset, .unset, .unset, .unset, .unset, .unset, .unset]) (rest := [])
          have A74 : AJ Z h74 a67 5 (w0_10 x0 x1 x2 x3 x4 x5) := Q74
          refine c74 ?_
          refine o_aload B74 88 90 (v := (.ref a67)) at_88 rfl rfl rfl ?_
          refine o_iconst B74 90 91 (4 : Int32) at_90 rfl (by decide) ?_
          refine o_aload B74 91 93 (v := (.ref a67)) at_91 rfl rfl rfl ?_
          refine o_iconst B74 93 94 (3 : Int32) at_93 rfl (by decide) ?_
          refine o_laload B74 94 95 A74 3 (6938460308862072877 : Int64) at_94 rfl (by decide) (by decide) (by decide) rfl ?_
          refine o_lload B74 95 97 (v := (-7046029254386353131 : Int64)) at_95 rfl rfl ?_
          refine o_lmul B74 97 98 at_97 rfl ?_
          refine o_topJ (show ((6938460308862072877 : Int64) * (-7046029254386353131 : Int64)) = (-2791277408655628367 : Int64) by decide) ?_
          obtain ⟨T76, h76, L76, B76, N76, W76, Q76, c76⟩ := o_lastore B74 N74 g67 98 99 A74 (j := (4 : Int32)) (x := (-2791277408655628367 : Int64)) 4 (-2791277408655628367 : Int64) at_98 rfl (by decide) (by decide) (by decide) rfl (Ls := #[.val (.int x0), .val (.int x1), .val (.int x2), .val (.int x3), .val (.int x4), .val (.int x5), .val (.int (3 : Int32)), .val (.ref a61), .val (.long (-7046029254386353131 : Int64)), .second, .val (.ref a67), .unset, .unset, .unset, .unset, .unset, .unset, .unset, .unset, .unset, .unset, .unset]) (rest := [])
          have A76 : AJ Z h76 a67 5 (w0_11 x0 x1 x2 x3 x4 x5) := Q76
          refine c76 ?_
          refine o_iloadN B76 99 100 (v := x0) at_99 rfl rfl ?_
          refine o_ldc B76 100 102 at_100 rfl (hw _ (List.mem_of_getElem? (i := 4) rfl)) ?_
          refine o_iand B76 102 103 at_102 rfl ?_
          refine o_i2l B76 103 104 at_103 rfl ?_
          refine o_lstore B76 104 106 (l' := #[.val (.int x0), .val (.int x1), .val (.int x2), .val (.int x3), .val (.int x4), .val (.int x5), .val (.int (3 : Int32)), .val (.ref a61), .val (.long (-7046029254386353131 : Int64)), .second, .val (.ref a67), .val (.long (x0 &&& (65535 : Int32)).toInt64), .second, .unset, .unset, .unset, .unset, .unset, .unset, .unset, .unset, .unset]) at_104 rfl rfl ?_
          refine o_iloadN B76 106 107 (v := x1) at_106 rfl rfl ?_
          refine o_ldc B76 107 109 at_107 rfl (hw _ (List.mem_of_getElem? (i := 4) rfl)) ?_
          refine o_iand B76 109 110 at_109 rfl ?_
          refine o_i2l B76 110 111 at_110 rfl ?_
          refine o_lstore B76 111 113 (l' := #[.val (.int x0), .val (.int x1), .val (.int x2), .val (.int x3), .val (.int x4), .val (.int x5), .val (.int (3 : Int32)), .val (.ref a61), .val (.long (-7046029254386353131 : Int64)), .second, .val (.ref a67), .val (.long (x0 &&& (65535 : Int32)).toInt64), .second, .val (.long (x1 &&& (65535 : Int32)).toInt64), .second, .unset, .unset, .unset, .unset, .unset, .unset, .unset]) at_111 rfl rfl ?_
          refine o_iloadN B76 113 114 (v := x2) at_113 rfl rfl ?_
          refine o_ldc B76 114 116 at_114 rfl (hw _ (List.mem_of_getElem? (i := 4) rfl)) ?_
          refine o_iand B76 116 117 at_116 rfl ?_
          refine o_i2l B76 117 118 at_117 rfl ?_
          refine o_lstore B76 118 120 (l' := #[.val (.int x0), .val (.int x1), .val (.int x2), .val (.int x3), .val (.int x4), .val (.int x5), .val (.int (3 : Int32)), .val (.ref a61), .val (.long (-7046029254386353131 : Int64)), .second, .val (.ref a67), .val (.long (x0 &&& (65535 : Int32)).toInt64), .second, .val (.long (x1 &&& (65535 : Int32)).toInt64), .second, .val (.long (x2 &&& (65535 : Int32)).toInt64), .second, .unset, .unset, .unset, .unset, .unset]) at_118 rfl rfl ?_
          refine o_iloadN B76 120 121 (v := x3) at_120 rfl rfl ?_
          refine o_ldc B76 121 123 at_121 rfl (hw _ (List.mem_of_getElem? (i := 4) rfl)) ?_
          refine o_iand B76 123 124 at_123 rfl ?_
          refine o_i2l B76 124 125 at_124 rfl ?_
          refine o_lstore B76 125 127 (l' := #[.val (.int x0), .val (.int x1), .val (.int x2), .val (.int x3), .val (.int x4), .val (.int x5), .val (.int (3 : Int32)), .val (.ref a61), .val (.long (-7046029254386353131 : Int64)), .second, .val (.ref a67), .val (.long (x0 &&& (65535 : Int32)).toInt64), .second, .val (.long (x1 &&& (65535 : Int32)).toInt64), .second, .val (.long (x2 &&& (65535 : Int32)).toInt64), .second, .val (.long (x3 &&& (65535 : Int32)).toInt64), .second, .unset, .unset, .unset]) at_125 rfl rfl ?_
          refine o_iload B76 127 129 (v := (3 : Int32)) at_127 rfl rfl ?_
          refine o_i2l B76 129 130 at_129 rfl ?_
          refine o_topJ (show (3 : Int32).toInt64 = (3 : Int64) by decide) ?_
          refine o_aload B76 130 132 (v := (.ref a67)) at_130 rfl rfl rfl ?_
          refine o_iload B76 132 134 (v := (3 : Int32)) at_132 rfl rfl ?_
          refine o_laload B76 134 135 A76 3 (6938460308862072877 : Int64) at_134 rfl (by decide) (by decide) (by decide) rfl ?_
          refine o_lmul B76 135 136 at_135 rfl ?_
          refine o_topJ (show ((3 : Int64) * (6938460308862072877 : Int64)) = (2368636852876667015 : Int64) by decide) ?_
          refine o_lstore B76 136 138 (l' := #[.val (.int x0), .val (.int x1), .val (.int x2), .val (.int x3), .val (.int x4), .val (.int x5), .val (.int (3 : Int32)), .val (.ref a61), .val (.long (-7046029254386353131 : Int64)), .second, .val (.ref a67), .val (.long (x0 &&& (65535 : Int32)).toInt64), .second, .val (.long (x1 &&& (65535 : Int32)).toInt64), .second, .val (.long (x2 &&& (65535 : Int32)).toInt64), .second, .val (.long (x3 &&& (65535 : Int32)).toInt64), .second, .val (.long (2368636852876667015 : Int64)), .second, .unset]) at_136 rfl rfl ?_
          refine o_iload B76 138 140 (v := (3 : Int32)) at_138 rfl rfl ?_
          refine o_ifN B76 140 143 at_140 rfl (XT.i0_le_f (by decide)) ?_
          refine o_lload B76 143 145 (v := (2368636852876667015 : Int64)) at_143 rfl rfl ?_
          refine o_lload B76 145 147 (v := (x0 &&& (65535 : Int32)).toInt64) at_145 rfl rfl ?_
          refine o_aload B76 147 149 (v := (.ref a67)) at_147 rfl rfl rfl ?_
          refine o_iload B76 149 151 (v := (3 : Int32)) at_149 rfl rfl ?_
          refine o_laload B76 151 152 A76 3 (6938460308862072877 : Int64) at_151 rfl (by decide) (by decide) (by decide) rfl ?_
          refine o_lmul B76 152 153 at_152 rfl ?_
          refine o_ladd B76 153 154 at_153 rfl ?_
          refine o_lstore B76 154 156 (l' := #[.val (.int x0), .val (.int x1), .val (.int x2), .val (.int x3), .val (.int x4), .val (.int x5), .val (.int (3 : Int32)), .val (.ref a61), .val (.long (-7046029254386353131 : Int64)), .second, .val (.ref a67), .val (.long (x0 &&& (65535 : Int32)).toInt64), .second, .val (.long (x1 &&& (65535 : Int32)).toInt64), .second, .val (.long (x2 &&& (65535 : Int32)).toInt64), .second, .val (.long (x3 &&& (65535 : Int32)).toInt64), .second, .val (.long (q0_17 x0 x1 x2 x3 x4 x5)), .second, .unset]) at_154 rfl rfl ?_
          refine o_iload B76 156 158 (v := (3 : Int32)) at_156 rfl rfl ?_
          refine o_iconst B76 158 159 (1 : Int32) at_158 rfl (by decide) ?_
          refine o_icN B76 159 162 at_159 rfl (XT.ii_le_f (by decide)) ?_
          refine o_lload B76 162 164 (v := (q0_17 x0 x1 x2 x3 x4 x5)) at_162 rfl rfl ?_
          refine o_lload B76 164 166 (v := (x1 &&& (65535 : Int32)).toInt64) at_164 rfl rfl ?_
          refine o_aload B76 166 168 (v := (.ref a67)) at_166 rfl rfl rfl ?_
          refine o_iload B76 168 170 (v := (3 : Int32)) at_168 rfl rfl ?_
          refine o_iconst B76 170 171 (1 : Int32) at_170 rfl (by decide) ?_
          refine o_isub B76 171 172 at_171 rfl ?_
          refine o_topI (show ((3 : Int32) - (1 : Int32)) = (2 : Int32) by decide) ?_
          refine o_laload B76 172 173 A76 2 (-2358710677322311239 : Int64) at_172 rfl (by decide) (by decide) (by decide) rfl ?_
          refine o_lmul B76 173 174 at_173 rfl ?_
          refine o_ladd B76 174 175 at_174 rfl ?_
          refine o_lstore B76 175 177 (l' := #[.val (.int x0), .val (.int x1), .val (.int x2), .val (.int x3), .val (.int x4), .val (.int x5), .val (.int (3 : Int32)), .val (.ref a61), .val (.long (-7046029254386353131 : Int64)), .second, .val (.ref a67), .val (.long (x0 &&& (65535 : Int32)).toInt64), .second, .val (.long (x1 &&& (65535 : Int32)).toInt64), .second, .val (.long (x2 &&& (65535 : Int32)).toInt64), .second, .val (.long (x3 &&& (65535 : Int32)).toInt64), .second, .val (.long (q0_18 x0 x1 x2 x3 x4 x5)), .second, .unset]) at_175 rfl rfl ?_
          refine o_iload B76 177 179 (v := (3 : Int32)) at_177 rfl rfl ?_
          refine o_iconst B76 179 180 (2 : Int32) at_179 rfl (by decide) ?_
          refine o_icN B76 180 183 at_180 rfl (XT.ii_le_f (by decide)) ?_
          refine o_lload B76 183 185 (v := (q0_18 x0 x1 x2 x3 x4 x5)) at_183 rfl rfl ?_
          refine o_lload B76 185 187 (v := (x2 &&& (65535 : Int32)).toInt64) at_185 rfl rfl ?_
          refine o_aload B76 187 189 (v := (.ref a67)) at_187 rfl rfl rfl ?_
          refine o_iload B76 189 191 (v := (3 : Int32)) at_189 rfl rfl ?_
          refine o_iconst B76 191 192 (2 : Int32) at_191 rfl (by decide) ?_
          refine o_isub B76 192 193 at_192 rfl ?_
          refine o_topI (show ((3 : Int32) - (2 : Int32)) = (1 : Int32) by decide) ?_
          refine o_laload B76 193 194 A76 1 (-7046029254386353131 : Int64) at_193 rfl (by decide) (by decide) (by decide) rfl ?_
          refine o_lmul B76 194 195 at_194 rfl ?_
          refine o_ladd B76 195 196 at_195 rfl ?_
          refine o_lstore B76 196 198 (l' := #[.val (.int x0), .val (.int x1), .val (.int x2), .val (.int x3), .val (.int x4), .val (.int x5), .val (.int (3 : Int32)), .val (.ref a61), .val (.long (-7046029254386353131 : Int64)), .second, .val (.ref a67), .val (.long (x0 &&& (65535 : Int32)).toInt64), .second, .val (.long (x1 &&& (65535 : Int32)).toInt64), .second, .val (.long (x2 &&& (65535 : Int32)).toInt64), .second, .val (.long (x3 &&& (65535 : Int32)).toInt64), .second, .val (.long (q0_19 x0 x1 x2 x3 x4 x5)), .second, .unset]) at_196 rfl rfl ?_
          refine o_iload B76 198 200 (v := (3 : Int32)) at_198 rfl rfl ?_
          refine o_iconst B76 200 201 (3 : Int32) at_200 rfl (by decide) ?_
          refine o_icY B76 201 219 at_201 (XT.ii_le_t (by decide)) (by decide) (by decide) ?_
          refine o_lload B76 219 221 (v := (q0_19 x0 x1 x2 x3 x4 x5)) at_219 rfl rfl ?_
          refine o_bipush B76 221 223 (32 : Int32) at_221 rfl (by decide) ?_
          refine o_lushr B76 223 224 at_223 rfl ?_
          refine o_l2i B76 224 225 at_224 rfl ?_
          refine o_istore B76 225 227 (l' := #[.val (.int x0), .val (.int x1), .val (.int x2), .val (.int x3), .val (.int x4), .val (.int x5), .val (.int (3 : Int32)), .val (.ref a61), .val (.long (-7046029254386353131 : Int64)), .second, .val (.ref a67), .val (.long (x0 &&& (65535 : Int32)).toInt64), .second, .val (.long (x1 &&& (65535 : Int32)).toInt64), .second, .val (.long (x2 &&& (65535 : Int32)).toInt64), .second, .val (.long (x3 &&& (65535 : Int32)).toInt64), .second, .val (.long (q0_19 x0 x1 x2 x3 x4 x5)), .second, .val (.int (q0_20 x0 x1 x2 x3 x4 x5))]) at_225 rfl rfl ?_
          refine o_aload B76 227 229 (v := (.ref a61)) at_227 rfl rfl rfl ?_
          refine o_iload B76 229 231 (v := (3 : Int32)) at_229 rfl rfl ?_
          have F81 := ((((((A66.ext E67).other W69 ne68).other W70 ne68).other W72 ne68).other W74 ne68).other W76 ne68)
          obtain ⟨T82, B82, c82⟩ := o_callP B76 231 234 at_231 rfl (hw _ (List.mem_of_getElem? (i := 5) rfl)) (hw _ (List.mem_of_getElem? (i := 6) rfl)) (hw _ (List.mem_of_getElem? (i := 7) rfl)) (hw _ (List.mem_of_getElem? (i := 8) rfl)) (by decide) (rm1_3 l Z a0 hw (w0_6 x0 x1 x2 x3 x4 x5) a61 h76 F81) 0 [(.ref a61), (.int (3 : Int32))] [] pd___CI_I rfl rfl (st := [(.int (3 : Int32)), (.ref a61)]) rfl (Ls := #[.val (.int x0), .val (.int x1), .val (.int x2), .val (.int x3), .val (.int x4), .val (.int x5), .val (.int (3 : Int32)), .val (.ref a61), .val (.long (-7046029254386353131 : Int64)), .second, .val (.ref a67), .val (.long (x0 &&& (65535 : Int32)).toInt64), .second, .val (.long (x1 &&& (65535 : Int32)).toInt64), .second, .val (.long (x2 &&& (65535 : Int32)).toInt64), .second, .val (.long (x3 &&& (65535 : Int32)).toInt64), .second, .val (.long (q0_19 x0 x1 x2 x3 x4 x5)), .second, .val (.int (q0_20 x0 x1 x2 x3 x4 x5))]) rfl (Nat.le_of_eq rfl) (by decide) (by decide) (by decide) (by decide)
          refine c82 ?_
          refine o_iload B82 234 236 (v := (q0_20 x0 x1 x2 x3 x4 x5)) at_234 rfl rfl ?_
          by_cases k8 : (f1_3 (w0_6 x0 x1 x2 x3 x4 x5)) = (q0_20 x0 x1 x2 x3 x4 x5)
          · refine o_icN B82 236 239 at_236 rfl (XT.ii_ne_f k8) ?_
            refine o_iconst B82 239 240 (1 : Int32) at_239 rfl (by decide) ?_
            refine o_goto B82 240 244 at_240 (by decide) (by decide) ?_
            refine o_retZ (t := .boolean) B82 244 at_244 hret hlk (by simp) (by decide) (by decide) ⟨(congrArg (fun z => some (Value.int z)) ((show nar .boolean (1 : Int32) = (1 : Int32) from rfl).trans (show f0 x0 x1 x2 x3 x4 x5 = (1 : Int32) from (if_neg k1).trans ((if_neg k3).trans ((if_neg k5).trans ((if_pos k7).trans ((if_pos k8).trans (rfl)))))).symm)), N76⟩
          · refine o_icY B82 236 243 at_236 (XT.ii_ne_t k8) (by decide) (by decide) ?_
            refine o_iconst B82 243 244 (0 : Int32) at_243 rfl (by decide) ?_
            refine o_retZ (t := .boolean) B82 244 at_244 hret hlk (by simp) (by decide) (by decide) ⟨(congrArg (fun z => some (Value.int z)) ((show nar .boolean (0 : Int32) = (0 : Int32) from rfl).trans (show f0 x0 x1 x2 x3 x4 x5 = (0 : Int32) from (if_neg k1).trans ((if_neg k3).trans ((if_neg k5).trans ((if_pos k7).trans ((if_neg k8).trans (rfl)))))).symm)), N76⟩
        · have k9 : (q0_1 x0 x1 x2 x3 x4 x5) = (4 : Int32) := (own_n x0 x1 x2 x3 x4 x5 k1 k3 k5 k7)
          rw [k9]
          refine o_iconst B 9 10 (5 : Int32) at_9 rfl (by decide) ?_
          obtain ⟨a83, T83, h83, z83, B83, E83, A83, c83⟩ := o_newI B 10 12 (ty := .char) (z := (5 : Int32)) 5 5 (hw _ (List.mem_of_getElem? (i := 1) rfl)) at_10 rfl rfl rfl (by decide) (by decide) (by decide) (by decide) (by decide) (by decide) (Ls := #[.val (.int x0), .val (.int x1), .val (.int x2), .val (.int x3), .val (.int x4), .val (.int x5), .val (.int (4 : Int32)), .unset, .unset, .unset, .unset, .unset, .unset, .unset, .unset, .unset, .unset, .unset, .unset, .unset, .unset, .unset]) (rest := [])
          have g83 : n0 ≤ a83 := by rw [z83]; exact hz
          have s83 : n0 ≤ h83.size := Nat.le_trans hz E83.1
          refine c83 ?_
          refine o_astore B83 12 14 (l' := #[.val (.int x0), .val (.int x1), .val (.int x2), .val (.int x3), .val (.int x4), .val (.int x5), .val (.int (4 : Int32)), .val (.ref a83), .unset, .unset, .unset, .unset, .unset, .unset, .unset, .unset, .unset, .unset, .unset, .unset, .unset, .unset]) at_12 rfl rfl rfl ?_
          refine o_aload B83 14 16 (v := (.ref a83)) at_14 rfl rfl rfl ?_
          refine o_iconst B83 16 17 (0 : Int32) at_16 rfl (by decide) ?_
          refine o_iloadN B83 17 18 (v := x0) at_17 rfl rfl ?_
          refine o_i2c B83 18 19 at_18 rfl ?_
          obtain ⟨T84, h84, L84, B84, N84, W84, Q84, c84⟩ := o_castore B83 N0 g83 19 20 A83 (j := (0 : Int32)) (x := x0.toUInt32.toUInt16.toUInt32.toInt32) 0 x0.toUInt32.toUInt16.toUInt32.toInt32 at_19 rfl (by decide) (by decide) (by decide) (nar_cc _) (Ls := #[.val (.int x0), .val (.int x1), .val (.int x2), .val (.int x3), .val (.int x4), .val (.int x5), .val (.int (4 : Int32)), .val (.ref a83), .unset, .unset, .unset, .unset, .unset, .unset, .unset, .unset, .unset, .unset, .unset, .unset, .unset, .unset]) (rest := [])
          have A84 : AI Z h84 a83 .char 5 (w0_2 x0 x1 x2 x3 x4 x5) := Q84
          refine c84 ?_
          refine o_aload B84 20 22 (v := (.ref a83)) at_20 rfl rfl rfl ?_
          refine o_iconst B84 22 23 (1 : Int32) at_22 rfl (by decide) ?_
          refine o_iloadN B84 23 24 (v := x1) at_23 rfl rfl ?_
          refine o_i2c B84 24 25 at_24 rfl ?_
          obtain ⟨T85, h85, L85, B85, N85, W85, Q85, c85⟩ := o_castore B84 N84 g83 25 26 A84 (j := (1 : Int32)) (x := x1.toUInt32.toUInt16.toUInt32.toInt32) 1 x1.toUInt32.toUInt16.toUInt32.toInt32 at_25 rfl (by decide) (by decide) (by decide) (nar_cc _) (Ls := #[.val (.int x0), .val (.int x1), .val (.int x2), .val (.int x3), .val (.int x4), .val (.int x5), .val (.int (4 : Int32)), .val (.ref a83), .unset, .unset, .unset, .unset, .unset, .unset, .unset, .unset, .unset, .unset, .unset, .unset, .unset, .unset]) (rest := [])
          have A85 : AI Z h85 a83 .char 5 (w0_3 x0 x1 x2 x3 x4 x5) := Q85
          refine c85 ?_
          refine o_aload B85 26 28 (v := (.ref a83)) at_26 rfl rfl rfl ?_
          refine o_iconst B85 28 29 (2 : Int32) at_28 rfl (by decide) ?_
          refine o_iloadN B85 29 30 (v := x2) at_29 rfl rfl ?_
          refine o_i2c B85 30 31 at_30 rfl ?_
          obtain ⟨T86, h86, L86, B86, N86, W86, Q86, c86⟩ := o_castore B85 N85 g83 31 32 A85 (j := (2 : Int32)) (x := x2.toUInt32.toUInt16.toUInt32.toInt32) 2 x2.toUInt32.toUInt16.toUInt32.toInt32 at_31 rfl (by decide) (by decide) (by decide) (nar_cc _) (Ls := #[.val (.int x0), .val (.int x1), .val (.int x2), .val (.int x3), .val (.int x4), .val (.int x5), .val (.int (4 : Int32)), .val (.ref a83), .unset, .unset, .unset, .unset, .unset, .unset, .unset, .unset, .unset, .unset, .unset, .unset, .unset, .unset]) (rest := [])
          have A86 : AI Z h86 a83 .char 5 (w0_4 x0 x1 x2 x3 x4 x5) := Q86
          refine c86 ?_
          refine o_aload B86 32 34 (v := (.ref a83)) at_32 rfl rfl rfl ?_
          refine o_iconst B86 34 35 (3 : Int32) at_34 rfl (by decide) ?_
          refine o_iloadN B86 35 36 (v := x3) at_35 rfl rfl ?_
          refine o_i2c B86 36 37 at_36 rfl ?_
          obtain ⟨T87, h87, L87, B87, N87, W87, Q87, c87⟩ := o_castore B86 N86 g83 37 38 A86 (j := (3 : Int32)) (x := x3.toUInt32.toUInt16.toUInt32.toInt32) 3 x3.toUInt32.toUInt16.toUInt32.toInt32 at_37 rfl (by decide) (by decide) (by decide) (nar_cc _) (Ls := #[.val (.int x0), .val (.int x1), .val (.int x2), .val (.int x3), .val (.int x4), .val (.int x5), .val (.int (4 : Int32)), .val (.ref a83), .unset, .unset, .unset, .unset, .unset, .unset, .unset, .unset, .unset, .unset, .unset, .unset, .unset, .unset]) (rest := [])
          have A87 : AI Z h87 a83 .char 5 (w0_5 x0 x1 x2 x3 x4 x5) := Q87
          refine c87 ?_
          refine o_aload B87 38 40 (v := (.ref a83)) at_38 rfl rfl rfl ?_
          refine o_iconst B87 40 41 (4 : Int32) at_40 rfl (by decide) ?_
          refine o_iload B87 41 43 (v := x4) at_41 rfl rfl ?_
          refine o_i2c B87 43 44 at_43 rfl ?_
          obtain ⟨T88, h88, L88, B88, N88, W88, Q88, c88⟩ := o_castore B87 N87 g83 44 45 A87 (j := (4 : Int32)) (x := x4.toUInt32.toUInt16.toUInt32.toInt32) 4 x4.toUInt32.toUInt16.toUInt32.toInt32 at_44 rfl (by decide) (by decide) (by decide) (nar_cc _) (Ls := #[.val (.int x0), .val (.int x1), .val (.int x2), .val (.int x3), .val (.int x4), .val (.int x5), .val (.int (4 : Int32)), .val (.ref a83), .unset, .unset, .unset, .unset, .unset, .unset, .unset, .unset, .unset, .unset, .unset, .unset, .unset, .unset]) (rest := [])
          have A88 : AI Z h88 a83 .char 5 (w0_6 x0 x1 x2 x3 x4 x5) := Q88
          refine c88 ?_
          refine o_ldc2 B88 45 48 at_45 rfl (hw _ (List.mem_of_getElem? (i := 2) rfl)) ?_
          refine o_lstore B88 48 50 (l' := #[.val (.int x0), .val (.int x1), .val (.int x2), .val (.int x3), .val (.int x4), .val (.int x5), .val (.int (4 : Int32)), .val (.ref a83), .val (.long (-7046029254386353131 : Int64)), .second, .unset, .unset, .unset, .unset, .unset, .unset, .unset, .unset, .unset, .unset, .unset, .unset]) at_48 rfl rfl ?_
          refine o_iconst B88 50 51 (5 : Int32) at_50 rfl (by decide) ?_
          obtain ⟨a89, T89, h89, z89, B89, E89, A89, c89⟩ := o_newJ B88 51 53 (z := (5 : Int32)) 5 5 (hw _ (List.mem_of_getElem? (i := 3) rfl)) at_51 rfl rfl (by decide) (by decide) (by decide) (by decide) (by decide) (by decide) (Ls := #[.val (.int x0), .val (.int x1), .val (.int x2), .val (.int x3), .val (.int x4), .val (.int x5), .val (.int (4 : Int32)), .val (.ref a83), .val (.long (-7046029254386353131 : Int64)), .second, .unset, .unset, .unset, .unset, .unset, .unset, .unset, .unset, .unset, .unset, .unset, .unset]) (rest := [])
          have ne90 : a83 ≠ a89 := by rw [z89]; exact Nat.ne_of_lt A88.lt
          have g89 : n0 ≤ a89 := by rw [z89]; exact (W88.size ▸ (W87.size ▸ (W86.size ▸ (W85.size ▸ (W84.size ▸ s83)))))
          have s89 : n0 ≤ h89.size := Nat.le_trans (W88.size ▸ (W87.size ▸ (W86.size ▸ (W85.size ▸ (W84.size ▸ s83))))) E89.1
          refine c89 ?_
          refine o_astore B89 53 55 (l' := #[.val (.int x0), .val (.int x1), .val (.int x2), .val (.int x3), .val (.int x4), .val (.int x5), .val (.int (4 : Int32)), .val (.ref a83), .val (.long (-7046029254386353131 : Int64)), .second, .val (.ref a89), .unset, .unset, .unset, .unset, .unset, .unset, .unset, .unset, .unset, .unset, .unset]) at_53 rfl rfl rfl ?_
          refine o_aload B89 55 57 (v := (.ref a89)) at_55 rfl rfl rfl ?_
          refine o_iconst B89 57 58 (0 : Int32) at_57 rfl (by decide) ?_
          refine o_lconst B89 58 59 (1 : Int64) at_58 rfl (by decide) ?_
          obtain ⟨T91, h91, L91, B91, N91, W91, Q91, c91⟩ := o_lastore B89 N88 g89 59 60 A89 (j := (0 : Int32)) (x := (1 : Int64)) 0 (1 : Int64) at_59 rfl (by decide) (by decide) (by decide) rfl (Ls := #[.val (.int x0), .val (.int x1), .val (.int x2), .val (.int x3), .val (.int x4), .val (.int x5), .val (.int (4 : Int32)), .val (.ref a83), .val (.long (-7046029254386353131 : Int64)), .second, .val (.ref a89), .unset, .unset, .unset, .unset, .unset, .unset, .unset, .unset, .unset, .unset, .unset]) (rest := [])
          have A91 : AJ Z h91 a89 5 (w0_7 x0 x1 x2 x3 x4 x5) := Q91
          refine c91 ?_
          refine o_aload B91 60 62 (v := (.ref a89)) at_60 rfl rfl rfl ?_
          refine o_iconst B91 62 63 (1 : Int32) at_62 rfl (by decide) ?_
          refine o_lload B91 63 65 (v := (-7046029254386353131 : Int64)) at_63 rfl rfl ?_
          obtain ⟨T92, h92, L92, B92, N92, W92, Q92, c92⟩ := o_lastore B91 N91 g89 65 66 A91 (j := (1 : Int32)) (x := (-7046029254386353131 : Int64)) 1 (-7046029254386353131 : Int64) at_65 rfl (by decide) (by decide) (by decide) rfl (Ls := #[.val (.int x0), .val (.int x1), .val (.int x2), .val (.int x3), .val (.int x4), .val (.int x5), .val (.int (4 : Int32)), .val (.ref a83), .val (.long (-7046029254386353131 : Int64)), .second, .val (.ref a89), .unset, .unset, .unset, .unset, .unset, .unset, .unset, .unset, .unset, .unset, .unset]) (rest := [])
          have A92 : AJ Z h92 a89 5 (w0_8 x0 x1 x2 x3 x4 x5) := Q92
          refine c92 ?_
          refine o_aload B92 66 68 (v := (.ref a89)) at_66 rfl rfl rfl ?_
          refine o_iconst B92 68 69 (2 : Int32) at_68 rfl (by decide) ?_
          refine o_aload B92 69 71 (v := (.ref a89)) at_69 rfl rfl rfl ?_
          refine o_iconst B92 71 72 (1 : Int32) at_71 rfl (by decide) ?_
          refine o_laload B92 72 73 A92 1 (-7046029254386353131 : Int64) at_72 rfl (by decide) (by decide) (by decide) rfl ?_
          refine o_lload B92 73 75 (v := (-7046029254386353131 : Int64)) at_73 rfl rfl ?_
          refine o_lmul B92 75 76 at_75 rfl ?_
          refine o_topJ (show ((-7046029254386353131 : Int64) * (-7046029254386353131 : Int64)) = (-2358710677322311239 : Int64) by decide) ?_
          obtain ⟨T94, h94, L94, B94, N94, W94, Q94, c94⟩ := o_lastore B92 N92 g89 76 77 A92 (j := (2 : Int32)) (x := (-2358710677322311239 : Int64)) 2 (-2358710677322311239 : Int64) at_76 rfl (by decide) (by decide) (by decide) rfl (Ls := #[.val (.int x0), .val (.int x1), .val (.int x2), .val (.int x3), .val (.int x4), .val (.int x5), .val (.int (4 : Int32)), .val (.ref a83), .val (.long (-7046029254386353131 : Int64)), .second, .val (.ref a89), .unset, .unset, .unset, .unset, .unset, .unset, .unset, .unset, .unset, .unset, .unset]) (rest := [])
          have A94 : AJ Z h94 a89 5 (w0_9 x0 x1 x2 x3 x4 x5) := Q94
          refine c94 ?_
          refine o_aload B94 77 79 (v := (.ref a89)) at_77 rfl rfl rfl ?_
          refine o_iconst B94 79 80 (3 : Int32) at_79 rfl (by decide) ?_
          refine o_aload B94 80 82 (v := (.ref a89)) at_80 rfl rfl rfl ?_
          refine o_iconst B94 82 83 (2 : Int32) at_82 rfl (by decide) ?_
          refine o_laload B94 83 84 A94 2 (-2358710677322311239 : Int64) at_83 rfl (by decide) (by decide) (by decide) rfl ?_
          refine o_lload B94 84 86 (v := (-7046029254386353131 : Int64)) at_84 rfl rfl ?_
          refine o_lmul B94 86 87 at_86 rfl ?_
          refine o_topJ (show ((-2358710677322311239 : Int64) * (-7046029254386353131 : Int64)) = (6938460308862072877 : Int64) by decide) ?_
          obtain ⟨T96, h96, L96, B96, N96, W96, Q96, c96⟩ := o_lastore B94 N94 g89 87 88 A94 (j := (3 : Int32)) (x := (6938460308862072877 : Int64)) 3 (6938460308862072877 : Int64) at_87 rfl (by decide) (by decide) (by decide) rfl (Ls := #[.val (.int x0), .val (.int x1), .val (.int x2), .val (.int x3), .val (.int x4), .val (.int x5), .val (.int (4 : Int32)), .val (.ref a83), .val (.long (-7046029254386353131 : Int64)), .second, .val (.ref a89), .unset, .unset, .unset, .unset, .unset, .unset, .unset, .unset, .unset, .unset, .unset]) (rest := [])
          have A96 : AJ Z h96 a89 5 (w0_10 x0 x1 x2 x3 x4 x5) := Q96
          refine c96 ?_
          refine o_aload B96 88 90 (v := (.ref a89)) at_88 rfl rfl rfl ?_
          refine o_iconst B96 90 91 (4 : Int32) at_90 rfl (by decide) ?_
          refine o_aload B96 91 93 (v := (.ref a89)) at_91 rfl rfl rfl ?_
          refine o_iconst B96 93 94 (3 : Int32) at_93 rfl (by decide) ?_
          refine o_laload B96 94 95 A96 3 (6938460308862072877 : Int64) at_94 rfl (by decide) (by decide) (by decide) rfl ?_
          refine o_lload B96 95 97 (v := (-7046029254386353131 : Int64)) at_95 rfl rfl ?_
          refine o_lmul B96 97 98 at_97 rfl ?_
          refine o_topJ (show ((6938460308862072877 : Int64) * (-7046029254386353131 : Int64)) = (-2791277408655628367 : Int64) by decide) ?_
          obtain ⟨T98, h98, L98, B98, N98, W98, Q98, c98⟩ := o_lastore B96 N96 g89 98 99 A96 (j := (4 : Int32)) (x := (-2791277408655628367 : Int64)) 4 (-2791277408655628367 : Int64) at_98 rfl (by decide) (by decide) (by decide) rfl (Ls := #[.val (.int x0), .val (.int x1), .val (.int x2), .val (.int x3), .val (.int x4), .val (.int x5), .val (.int (4 : Int32)), .val (.ref a83), .val (.long (-7046029254386353131 : Int64)), .second, .val (.ref a89), .unset, .unset, .unset, .unset, .unset, .unset, .unset, .unset, .unset, .unset, .unset]) (rest := [])
          have A98 : AJ Z h98 a89 5 (w0_11 x0 x1 x2 x3 x4 x5) := Q98
          refine c98 ?_
          refine o_iloadN B98 99 100 (v := x0) at_99 rfl rfl ?_
          refine o_ldc B98 100 102 at_100 rfl (hw _ (List.mem_of_getElem? (i := 4) rfl)) ?_
          refine o_iand B98 102 103 at_102 rfl ?_
          refine o_i2l B98 103 104 at_103 rfl ?_
          refine o_lstore B98 104 106 (l' := #[.val (.int x0), .val (.int x1), .val (.int x2), .val (.int x3), .val (.int x4), .val (.int x5), .val (.int (4 : Int32)), .val (.ref a83), .val (.long (-7046029254386353131 : Int64)), .second, .val (.ref a89), .val (.long (x0 &&& (65535 : Int32)).toInt64), .second, .unset, .unset, .unset, .unset, .unset, .unset, .unset, .unset, .unset]) at_104 rfl rfl ?_
          refine o_iloadN B98 106 107 (v := x1) at_106 rfl rfl ?_
          refine o_ldc B98 107 109 at_107 rfl (hw _ (List.mem_of_getElem? (i := 4) rfl)) ?_
          refine o_iand B98 109 110 at_109 rfl ?_
          refine o_i2l B98 110 111 at_110 rfl ?_
          refine o_lstore B98 111 113 (l' := #[.val (.int x0), .val (.int x1), .val (.int x2), .val (.int x3), .val (.int x4), .val (.int x5), .val (.int (4 : Int32)), .val (.ref a83), .val (.long (-7046029254386353131 : Int64)), .second, .val (.ref a89), .val (.long (x0 &&& (65535 : Int32)).toInt64), .second, .val (.long (x1 &&& (65535 : Int32)).toInt64), .second, .unset, .unset, .unset, .unset, .unset, .unset, .unset]) at_111 rfl rfl ?_
          refine o_iloadN B98 113 114 (v := x2) at_113 rfl rfl ?_
          refine o_ldc B98 114 116 at_114 rfl (hw _ (List.mem_of_getElem? (i := 4) rfl)) ?_
          refine o_iand B98 116 117 at_116 rfl ?_
          refine o_i2l B98 117 118 at_117 rfl ?_
          refine o_lstore B98 118 120 (l' := #[.val (.int x0), .val (.int x1), .val (.int x2), .val (.int x3), .val (.int x4), .val (.int x5), .val (.int (4 : Int32)), .val (.ref a83), .val (.long (-7046029254386353131 : Int64)), .second, .val (.ref a89), .val (.long (x0 &&& (65535 : Int32)).toInt64), .second, .val (.long (x1 &&& (65535 : Int32)).toInt64), .second, .val (.long (x2 &&& (65535 : Int32)).toInt64), .second, .unset, .unset, .unset, .unset, .unset]) at_118 rfl rfl ?_
          refine o_iloadN B98 120 121 (v := x3) at_120 rfl rfl ?_
          refine o_ldc B98 121 123 at_121 rfl (hw _ (List.mem_of_getElem? (i := 4) rfl)) ?_
          refine o_iand B98 123 124 at_123 rfl ?_
          refine o_i2l B98 124 125 at_124 rfl ?_
          refine o_lstore B98 125 127 (l' := #[.val (.int x0), .val (.int x1), .val (.int x2), .val (.int x3), .val (.int x4), .val (.int x5), .val (.int (4 : Int32)), .val (.ref a83), .val (.long (-7046029254386353131 : Int64)), .second, .val (.ref a89), .val (.long (x0 &&& (65535 : Int32)).toInt64), .second, .val (.long (x1 &&& (65535 : Int32)).toInt64), .second, .val (.long (x2 &&& (65535 : Int32)).toInt64), .second, .val (.long (x3 &&& (65535 : Int32)).toInt64), .second, .unset, .unset, .unset]) at_125 rfl rfl ?_
          refine o_iload B98 127 129 (v := (4 : Int32)) at_127 rfl rfl ?_
          refine o_i2l B98 129 130 at_129 rfl ?_
          refine o_topJ (show (4 : Int32).toInt64 = (4 : Int64) by decide) ?_
          refine o_aload B98 130 132 (v := (.ref a89)) at_130 rfl rfl rfl ?_
          refine o_iload B98 132 134 (v := (4 : Int32)) at_132 rfl rfl ?_
          refine o_laload B98 134 135 A98 4 (-2791277408655628367 : Int64) at_134 rfl (by decide) (by decide) (by decide) rfl ?_
          refine o_lmul B98 135 136 at_135 rfl ?_
          refine o_topJ (show ((4 : Int64) * (-2791277408655628367 : Int64)) = (7281634439087038148 : Int64) by decide) ?_
          refine o_lstore B98 136 138 (l' := #[.val (.int x0), .val (.int x1), .val (.int x2), .val (.int x3), .val (.int x4), .val (.int x5), .val (.int (4 : Int32)), .val (.ref a83), .val (.long (-7046029254386353131 : Int64)), .second, .val (.ref a89), .val (.long (x0 &&& (65535 : Int32)).toInt64), .second, .val (.long (x1 &&& (65535 : Int32)).toInt64), .second, .val (.long (x2 &&& (65535 : Int32)).toInt64), .second, .val (.long (x3 &&& (65535 : Int32)).toInt64), .second, .val (.long (7281634439087038148 : Int64)), .second, .unset]) at_136 rfl rfl ?_
          refine o_iload B98 138 140 (v := (4 : Int32)) at_138 rfl rfl ?_
          refine o_ifN B98 140 143 at_140 rfl (XT.i0_le_f (by decide)) ?_
          refine o_lload B98 143 145 (v := (7281634439087038148 : Int64)) at_143 rfl rfl ?_
          refine o_lload B98 145 147 (v := (x0 &&& (65535 : Int32)).toInt64) at_145 rfl rfl ?_
          refine o_aload B98 147 149 (v := (.ref a89)) at_147 rfl rfl rfl ?_
          refine o_iload B98 149 151 (v := (4 : Int32)) at_149 rfl rfl ?_
          refine o_laload B98 151 152 A98 4 (-2791277408655628367 : Int64) at_151 rfl (by decide) (by decide) (by decide) rfl ?_
          refine o_lmul B98 152 153 at_152 rfl ?_
          refine o_ladd B98 153 154 at_153 rfl ?_
          refine o_lstore B98 154 156 (l' := #[.val (.int x0), .val (.int x1), .val (.int x2), .val (.int x3), .val (.int x4), .val (.int x5), .val (.int (4 : Int32)), .val (.ref a83), .val (.long (-7046029254386353131 : Int64)), .second, .val (.ref a89), .val (.long (x0 &&& (65535 : Int32)).toInt64), .second, .val (.long (x1 &&& (65535 : Int32)).toInt64), .second, .val (.long (x2 &&& (65535 : Int32)).toInt64), .second, .val (.long (x3 &&& (65535 : Int32)).toInt64), .second, .val (.long (q0_21 x0 x1 x2 x3 x4 x5)), .second, .unset]) at_154 rfl rfl ?_
          refine o_iload B98 156 158 (v := (4 : Int32)) at_156 rfl rfl ?_
          refine o_iconst B98 158 159 (1 : Int32) at_158 rfl (by decide) ?_
          refine o_icN B98 159 162 at_159 rfl (XT.ii_le_f (by decide)) ?_
          refine o_lload B98 162 164 (v := (q0_21 x0 x1 x2 x3 x4 x5)) at_162 rfl rfl ?_
          refine o_lload B98 164 166 (v := (x1 &&& (65535 : Int32)).toInt64) at_164 rfl rfl ?_
          refine o_aload B98 166 168 (v := (.ref a89)) at_166 rfl rfl rfl ?_
          refine o_iload B98 168 170 (v := (4 : Int32)) at_168 rfl rfl ?_
          refine o_iconst B98 170 171 (1 : Int32) at_170 rfl (by decide) ?_
          refine o_isub B98 171 172 at_171 rfl ?_
          refine o_topI (show ((4 : Int32) - (1 : Int32)) = (3 : Int32) by decide) ?_
          refine o_laload B98 172 173 A98 3 (6938460308862072877 : Int64) at_172 rfl (by decide) (by decide) (by decide) rfl ?_
          refine o_lmul B98 173 174 at_173 rfl ?_
          refine o_ladd B98 174 175 at_174 rfl ?_
          refine o_lstore B98 175 177 (l' := #[.val (.int x0), .val (.int x1), .val (.int x2), .val (.int x3), .val (.int x4), .val (.int x5), .val (.int (4 : Int32)), .val (.ref a83), .val (.long (-7046029254386353131 : Int64)), .second, .val (.ref a89), .val (.long (x0 &&& (65535 : Int32)).toInt64), .second, .val (.long (x1 &&& (65535 : Int32)).toInt64), .second, .val (.long (x2 &&& (65535 : Int32)).toInt64), .second, .val (.long (x3 &&& (65535 : Int32)).toInt64), .second, .val (.long (q0_22 x0 x1 x2 x3 x4 x5)), .second, .unset]) at_175 rfl rfl ?_
          refine o_iload B98 177 179 (v := (4 : Int32)) at_177 rfl rfl ?_
          refine o_iconst B98 179 180 (2 : Int32) at_179 rfl (by decide) ?_
          refine o_icN B98 180 183 at_180 rfl (XT.ii_le_f (by decide)) ?_
          refine o_lload B98 183 185 (v := (q0_22 x0 x1 x2 x3 x4 x5)) at_183 rfl rfl ?_
          refine o_lload B98 185 187 (v := (x2 &&& (65535 : Int32)).toInt64) at_185 rfl rfl ?_
          refine o_aload B98 187 189 (v := (.ref a89)) at_187 rfl rfl rfl ?_
          refine o_iload B98 189 191 (v := (4 : Int32)) at_189 rfl rfl ?_
          refine o_iconst B98 191 192 (2 : Int32) at_191 rfl (by decide) ?_
          refine o_isub B98 192 193 at_192 rfl ?_
          refine o_topI (show ((4 : Int32) - (2 : Int32)) = (2 : Int32) by decide) ?_
          refine o_laload B98 193 194 A98 2 (-2358710677322311239 : Int64) at_193 rfl (by decide) (by decide) (by decide) rfl ?_
          refine o_lmul B98 194 195 at_194 rfl ?_
          refine o_ladd B98 195 196 at_195 rfl ?_
          refine o_lstore B98 196 198 (l' := #[.val (.int x0), .val (.int x1), .val (.int x2), .val (.int x3), .val (.int x4), .val (.int x5), .val (.int (4 : Int32)), .val (.ref a83), .val (.long (-7046029254386353131 : Int64)), .second, .val (.ref a89), .val (.long (x0 &&& (65535 : Int32)).toInt64), .second, .val (.long (x1 &&& (65535 : Int32)).toInt64), .second, .val (.long (x2 &&& (65535 : Int32)).toInt64), .second, .val (.long (x3 &&& (65535 : Int32)).toInt64), .second, .val (.long (q0_23 x0 x1 x2 x3 x4 x5)), .second, .unset]) at_196 rfl rfl ?_
          refine o_iload B98 198 200 (v := (4 : Int32)) at_198 rfl rfl ?_
          refine o_iconst B98 200 201 (3 : Int32) at_200 rfl (by decide) ?_
          refine o_icN B98 201 204 at_201 rfl (XT.ii_le_f (by decide)) ?_
          refine o_lload B98 204 206 (v := (q0_23 x0 x1 x2 x3 x4 x5)) at_204 rfl rfl ?_
          refine o_lload B98 206 208 (v := (x3 &&& (65535 : Int32)).toInt64) at_206 rfl rfl ?_
          refine o_aload B98 208 210 (v := (.ref a89)) at_208 rfl rfl rfl ?_
          refine o_iload B98 210 212 (v := (4 : Int32)) at_210 rfl rfl ?_
          refine o_iconst B98 212 213 (3 : Int32) at_212 rfl (by decide) ?_
          refine o_isub B98 213 214 at_213 rfl ?_
          refine o_topI (show ((4 : Int32) - (3 : Int32)) = (1 : Int32) by decide) ?_
          refine o_laload B98 214 215 A98 1 (-7046029254386353131 : Int64) at_214 rfl (by decide) (by decide) (by decide) rfl ?_
          refine o_lmul B98 215 216 at_215 rfl ?_
          refine o_ladd B98 216 217 at_216 rfl ?_
          refine o_lstore B98 217 219 (l' := #[.val (.int x0), .val (.int x1), .val (.int x2), .val (.int x3), .val (.int x4), .val (.int x5), .val (.int (4 : Int32)), .val (.ref a83), .val (.long (-7046029254386353131 : Int64)), .second, .val (.ref a89), .val (.long (x0 &&& (65535 : Int32)).toInt64), .second, .val (.long (x1 &&& (65535 : Int32)).toInt64), .second, .val (.long (x2 &&& (65535 : Int32)).toInt64), .second, .val (.long (x3 &&& (65535 : Int32)).toInt64), .second, .val (.long (q0_24 x0 x1 x2 x3 x4 x5)), .second, .unset]) at_217 rfl rfl ?_
          refine o_lload B98 219 221 (v := (q0_24 x0 x1 x2 x3 x4 x5)) at_219 rfl rfl ?_
          refine o_bipush B98 221 223 (32 : Int32) at_221 rfl (by decide) ?_
          refine o_lushr B98 223 224 at_223 rfl ?_
          refine o_l2i B98 224 225 at_224 rfl ?_
          refine o_istore B98 225 227 (l' := #[.val (.int x0), .val (.int x1), .val (.int x2), .val (.int x3), .val (.int x4), .val (.int x5), .val (.int (4 : Int32)), .val (.ref a83), .val (.long (-7046029254386353131 : Int64)), .second, .val (.ref a89), .val (.long (x0 &&& (65535 : Int32)).toInt64), .second, .val (.long (x1 &&& (65535 : Int32)).toInt64), .second, .val (.long (x2 &&& (65535 : Int32)).toInt64), .second, .val (.long (x3 &&& (65535 : Int32)).toInt64), .second, .val (.long (q0_24 x0 x1 x2 x3 x4 x5)), .second, .val (.int (q0_25 x0 x1 x2 x3 x4 x5))]) at_225 rfl rfl ?_
          refine o_aload B98 227 229 (v := (.ref a83)) at_227 rfl rfl rfl ?_
          refine o_iload B98 229 231 (v := (4 : Int32)) at_229 rfl rfl ?_
          have F104 := ((((((A88.ext E89).other W91 ne90).other W92 ne90).other W94 ne90).other W96 ne90).other W98 ne90)
          obtain ⟨T105, B105, c105⟩ := o_callP B98 231 234 at_231 rfl (hw _ (List.mem_of_getElem? (i := 5) rfl)) (hw _ (List.mem_of_getElem? (i := 6) rfl)) (hw _ (List.mem_of_getElem? (i := 7) rfl)) (hw _ (List.mem_of_getElem? (i := 8) rfl)) (by decide) (rm1_4 l Z a0 hw (w0_6 x0 x1 x2 x3 x4 x5) a83 h98 F104) 0 [(.ref a83), (.int (4 : Int32))] [] pd___CI_I rfl rfl (st := [(.int (4 : Int32)), (.ref a83)]) rfl (Ls := #[.val (.int x0), .val (.int x1), .val (.int x2), .val (.int x3), .val (.int x4), .val (.int x5), .val (.int (4 : Int32)), .val (.ref a83), .val (.long (-7046029254386353131 : Int64)), .second, .val (.ref a89), .val (.long (x0 &&& (65535 : Int32)).toInt64), .second, .val (.long (x1 &&& (65535 : Int32)).toInt64), .second, .val (.long (x2 &&& (65535 : Int32)).toInt64), .second, .val (.long (x3 &&& (65535 : Int32)).toInt64), .second, .val (.long (q0_24 x0 x1 x2 x3 x4 x5)), .second, .val (.int (q0_25 x0 x1 x2 x3 x4 x5))]) rfl (Nat.le_of_eq rfl) (by decide) (by decide) (by decide) (by decide)
          refine c105 ?_
          refine o_iload B105 234 236 (v := (q0_25 x0 x1 x2 x3 x4 x5)) at_234 rfl rfl ?_
          by_cases k10 : (f1_4 (w0_6 x0 x1 x2 x3 x4 x5)) = (q0_25 x0 x1 x2 x3 x4 x5)
          · refine o_icN B105 236 239 at_236 rfl (XT.ii_ne_f k10) ?_
            refine o_iconst B105 239 240 (1 : Int32) at_239 rfl (by decide) ?_
            refine o_goto B105 240 244 at_240 (by decide) (by decide) ?_
            refine o_retZ (t := .boolean) B105 244 at_244 hret hlk (by simp) (by decide) (by decide) ⟨(congrArg (fun z => some (Value.int z)) ((show nar .boolean (1 : Int32) = (1 : Int32) from rfl).trans (show f0 x0 x1 x2 x3 x4 x5 = (1 : Int32) from (if_neg k1).trans ((if_neg k3).trans ((if_neg k5).trans ((if_neg k7).trans ((if_pos k10).trans (rfl)))))).symm)), N98⟩
          · refine o_icY B105 236 243 at_236 (XT.ii_ne_t k10) (by decide) (by decide) ?_
            refine o_iconst B105 243 244 (0 : Int32) at_243 rfl (by decide) ?_
            refine o_retZ (t := .boolean) B105 244 at_244 hret hlk (by simp) (by decide) (by decide) ⟨(congrArg (fun z => some (Value.int z)) ((show nar .boolean (0 : Int32) = (0 : Int32) from rfl).trans (show f0 x0 x1 x2 x3 x4 x5 = (0 : Int32) from (if_neg k1).trans ((if_neg k3).trans ((if_neg k5).trans ((if_neg k7).trans ((if_neg k10).trans (rfl)))))).symm)), N98⟩
theorem own_ch (x : Int32) : x.toUInt32.toUInt16.toUInt32.toInt32 = x &&& 65535 := by
  have a := c_i2c x
  have b := c_mask x 65535 16 (by decide) (by decide)
  apply Int32.toInt_inj.mp
  omega
theorem own_p1 (a m : Int64) : (1 + a) * m = m + a * m := by simp only [Int64.add_mul, Int64.one_mul]
theorem own_p2 (a b m : Int64) : ((2 + a) * m + b) * m = 2 * (m * m) + a * (m * m) + b * m := by simp only [Int64.add_mul, Int64.mul_assoc]
theorem own_p3 (a b c m : Int64) : (((3 + a) * m + b) * m + c) * m = 3 * (m * (m * m)) + a * (m * (m * m)) + b * (m * m) + c * m := by simp only [Int64.add_mul, Int64.mul_assoc]
theorem own_p4 (a b c d m : Int64) : ((((4 + a) * m + b) * m + c) * m + d) * m = 4 * (m * (m * (m * m))) + a * (m * (m * (m * m))) + b * (m * (m * m)) + c * (m * m) + d * m := by simp only [Int64.add_mul, Int64.mul_assoc]
theorem law_true (x0 x1 x2 x3 x4 x5 : Int32) : f0 x0 x1 x2 x3 x4 x5 = 1 := by
  have m2 : (-7046029254386353131 : Int64) * (-7046029254386353131) = -2358710677322311239 := by decide
  have m3 : (-7046029254386353131 : Int64) * (-2358710677322311239) = 6938460308862072877 := by decide
  have m4 : (-7046029254386353131 : Int64) * 6938460308862072877 = -2791277408655628367 := by decide
  have e0 : w0_6 x0 x1 x2 x3 x4 x5 0 = x0 &&& 65535 := own_ch x0
  have e1 : w0_6 x0 x1 x2 x3 x4 x5 1 = x1 &&& 65535 := own_ch x1
  have e2 : w0_6 x0 x1 x2 x3 x4 x5 2 = x2 &&& 65535 := own_ch x2
  have e3 : w0_6 x0 x1 x2 x3 x4 x5 3 = x3 &&& 65535 := own_ch x3
  have h1 : f1_1 (w0_6 x0 x1 x2 x3 x4 x5) = q0_13 x0 x1 x2 x3 x4 x5 := by
    unfold f1_1 q0_13 q1_1_1 q0_12
    rw [e0, own_p1]
  have h2 : f1_2 (w0_6 x0 x1 x2 x3 x4 x5) = q0_16 x0 x1 x2 x3 x4 x5 := by
    unfold f1_2 q0_16 q1_2_2 q1_2_1 q0_15 q0_14
    rw [e0, e1, own_p2, m2, show (2 : Int64) * (-2358710677322311239) = -4717421354644622478 by decide]
  have h3 : f1_3 (w0_6 x0 x1 x2 x3 x4 x5) = q0_20 x0 x1 x2 x3 x4 x5 := by
    unfold f1_3 q0_20 q1_3_3 q1_3_2 q1_3_1 q0_19 q0_18 q0_17
    rw [e0, e1, e2, own_p3, m2, m3, show (3 : Int64) * 6938460308862072877 = 2368636852876667015 by decide]
  have h4 : f1_4 (w0_6 x0 x1 x2 x3 x4 x5) = q0_25 x0 x1 x2 x3 x4 x5 := by
    unfold f1_4 q0_25 q1_4_4 q1_4_3 q1_4_2 q1_4_1 q0_24 q0_23 q0_22 q0_21
    rw [e0, e1, e2, e3, own_p4, m2, m3, m4, show (4 : Int64) * (-2791277408655628367) = 7281634439087038148 by decide]
  unfold f0
  rw [h1, h2, h3, h4]
  simp only [f1_0, if_true, ite_self]
set_option maxRecDepth 65536 in
set_option maxHeartbeats 40000000 in
theorem comes_1 {Post : Tables → Env → Array Value → State → Outcome → State → Prop} (hpost : ∀ tb e args s v u, (limb_1_1.after args s (.returned v) u = true ∧ limb_1_2.after args s (.returned v) u = true ∧ True) → FrameEnd s (.returned v) u (Jvm.fieldLocs frame_1_writes args s ++ Jvm.arrayLocs frame_1_arrays args s ++ Jvm.staticLocs frame_1_statics s) 16 128 → Post tb e args s (.returned v) u) :
    ArmFor flags0 classFile x code maxLocals ret World_1 tables_1 room_1 Calls_1 rest_1 Pre_1 Post := by
  intro l hfl _ _ p e ha hc hk s m args below hf hA hF happ hP
  obtain ⟨hcalls, hrest, hpre⟩ := hP
  obtain ⟨-, -, -, hnamed, -, -, -, hat⟩ := (Spec.applies_iff hf).mp happ
  obtain ⟨hg, hn⟩ := and_e (Cond.before_iff.mp (show (Jvm.Cond.and given_1 narrow_1).before args s = true from hpre))
  obtain ⟨g0, hg⟩ := and_e hg
  obtain ⟨g1, hg⟩ := and_e hg
  obtain ⟨g2, hg⟩ := and_e hg
  obtain ⟨g3, hg⟩ := and_e hg
  obtain ⟨g4, hg⟩ := and_e hg
  obtain ⟨g5, hg⟩ := and_e hg
  obtain ⟨w0, w1, w2, w3, w4, w5, rfl⟩ : ∃ w0 w1 w2 w3 w4 w5 : Value, args = #[w0, w1, w2, w3, w4, w5] := by
    have hs : args.size = 6 := by simpa [Cond.value, given_1] using g0
    obtain ⟨L⟩ := args
    match L, hs with
    | [w0, w1, w2, w3, w4, w5], _ => exact ⟨w0, w1, w2, w3, w4, w5, rfl⟩
  have hw := fun d (hd : d ∈ tables_1) => atoms_spec (ws := Jvm.Cond.code x code maxLocals ret :: tables_1) hat d (List.mem_cons_of_mem _ hd)
  obtain ⟨i0, e0⟩ := is_v g1
  obtain rfl : w0 = (.int i0) := Option.some.inj e0
  obtain ⟨i1, e1⟩ := is_v g2
  obtain rfl : w1 = (.int i1) := Option.some.inj e1
  obtain ⟨i2, e2⟩ := is_v g3
  obtain rfl : w2 = (.int i2) := Option.some.inj e2
  obtain ⟨i3, e3⟩ := is_v g4
  obtain rfl : w3 = (.int i3) := Option.some.inj e3
  obtain ⟨i4, e4⟩ := is_v g5
  obtain rfl : w4 = (.int i4) := Option.some.inj e4
  obtain ⟨i5, e5⟩ := is_v hg
  obtain rfl : w5 = (.int i5) := Option.some.inj e5
  obtain ⟨n, o, h1, h2, h3, v, L, rfl, ⟨rfl, N⟩, hq⟩ := rm0 l s _ hw tables_1 i0 i1 i2 i3 i4 i5 s.heap s.heap.size (Nat.le_refl _) p e ha hc hk s m _ below hf ((Spec.applies_iff_loose hf).mp happ).1 ⟨rfl, State.Warmed39.refl s, rfl⟩ trivial
  rw [law_true] at h3 hq
  refine ⟨n, _, h1, h2, h3, hpost _ _ _ _ _ _ ⟨Cond.after_iff.mpr rfl, Cond.after_iff.mpr (eq_i res_at (Term.int_eval (1)) rfl), trivial⟩ ⟨hq.1, hq.2.1, (hq.2.2.sift fun y hy => Or.inr (N y hy)).mono (by decide) (by decide)⟩⟩
theorem main_1_1 : Claimed_1_1 := comes_1 fun _ _ _ _ _ _ h hF => ⟨h.1, hF⟩
theorem main_1_2 : Claimed_1_2 := comes_1 fun _ _ _ _ _ _ h hF => ⟨h.2.1, hF⟩
end Jvm.Pilot.@@N@@
namespace Jvm.Pilot.@@N@@
open Jvm Jvm.ClassFile Sem Op Lib Jvm.Free Jvm.Stand Jvm.Pilot.@@N@@.Jvm.D
/-! MADE BY PROGRAM (witnessworld.py) out of the Statement's table words and the real class files: 13 classes; the members and pool entries that the words name. The judged class is class 1, her method 1. -/
namespace start1
open Jvm.ClassFile
def u (s : String) : CpInfo := .utf8 (stringToUtf16 s)
/-- a pool by its gaps: so many unusable entries, then the entry; so many at the end -/
def gap : Nat → List CpInfo → List CpInfo
  | 0, r => r
  | n + 1, r => .unusable :: gap n r
def poolList (es : List (Nat × CpInfo)) (last : Nat) : List CpInfo := es.foldr (fun e r => gap e.1 (e.2 :: r)) (gap last [])
def pool (es : List (Nat × CpInfo)) (last : Nat) : Array CpInfo := ⟨poolList es last⟩
def fileOf (pool : Array CpInfo) (this : Nat) (attrs : Array Attribute := #[]) (ms : Array MethodInfo := #[]) (fl : Nat := 33) (sup : Nat := 0) (ifs : Array Nat := #[]) (fds : Array FieldInfo := #[]) : ClassFile where
  minorVersion := 0
  majorVersion := 65
  constantPool := pool
  accessFlags := fl
  thisClass := this
  superClass := sup
  interfaces := ifs
  fields := fds
  methods := ms
  attributes := attrs
def plain (name : String) (sup : Option ClassId) : Class where
  name := name
  kind := .ordinary
  loader := none
  accessFlags := 33
  super := sup
  interfaces := #[]
  cf := none
  fields := #[]
  methods := #[]
  instanceTypes := #[]
  staticTypes := #[]
  resolved := #[]
  callSites := []
  init := .initialized
  statics := none
  mirror := none

def pool0 : Array CpInfo := pool [(5, u "<init>"), (0, u "()V"), (1, .class_ 10), (1, u "java/lang/Object")] 113

def k0m0 : Method := { name := "<init>", desc := "()V", sig := { parameters := [], returnType := none }, accessFlags := 1, code := none }
/-- java/lang/Object -/
def k0 : Class := { plain "java/lang/Object" none with
  accessFlags := 33
  interfaces := #[]
  cf := some (fileOf pool0 8 #[] #[{ accessFlags := 1, nameIndex := 5, descriptorIndex := 6, attributes := #[] }] 33 0 #[] #[])
  fields := #[]
  methods := #[k0m0]
  instanceTypes := #[]
  staticTypes := #[]
  resolved := Array.replicate 124 none
  statics := none }

def pool1 : Array CpInfo := pool [(2, .class_ 4), (1, u "java/lang/Object"), (0, u "<init>"), (0, u "()V"), (0, .integer 2147483647), (0, .long 11400714819323198485), (1, .integer 65535), (0, .methodref 12 13), (0, .class_ 14), (0, .nameAndType 15 16), (0, u "com/example/micro_ranker/microranker/engine/TermDictionary"), (0, u "hash"), (0, u "([CI)I"), (0, .class_ 18), (0, u "com/example/micro_ranker/microranker/engine/TermDictionaryHashPinLaw"), (2, u "law"), (0, u "(IIIIII)Z")] 7

def k1m0 : Method := { name := "<init>", desc := "()V", sig := { parameters := [], returnType := none }, accessFlags := 1, code := none }
def k1c1 : Code := { maxStack := 7, maxLocals := 22, code := code, exceptionTable := #[], attributes := #[] }
def k1m1 : Method := { name := "law", desc := "(IIIIII)Z", sig := { parameters := [.int, .int, .int, .int, .int, .int], returnType := some .boolean }, accessFlags := 9, code := some k1c1 }
/-- com/example/micro_ranker/microranker/engine/TermDictionaryHashPinLaw -/
def k1 : Class := { plain "com/example/micro_ranker/microranker/engine/TermDictionaryHashPinLaw" (some 0) with
  accessFlags := 49
  interfaces := #[]
  cf := some (fileOf pool1 17 #[] #[{ accessFlags := 1, nameIndex := 5, descriptorIndex := 6, attributes := #[] }, { accessFlags := 9, nameIndex := 21, descriptorIndex := 22, attributes := #[] }] 49 2 #[] #[])
  fields := #[]
  methods := #[k1m0, k1m1]
  instanceTypes := #[]
  staticTypes := #[]
  resolved := Array.replicate 30 none
  statics := none }

def pool2 : Array CpInfo := pool [(2, .class_ 4), (1, u "java/lang/Object"), (0, u "<init>"), (0, u "()V"), (1, .class_ 10), (1, u "com/example/micro_ranker/microranker/engine/TermDictionary"), (0, u "slots"), (0, u "[J"), (5, u "terms"), (0, u "Lcom/example/micro_ranker/microranker/engine/Texts;"), (10, u "numbers"), (0, u "Ljava/util/Map;"), (2, u "hash"), (0, u "([CI)I"), (47, .long 11400714819323198485), (13, u "MULTIPLIER"), (0, u "J"), (1, u "LONGEST_WALK"), (0, u "I")] 13

def k2m0 : Method := { name := "<init>", desc := "()V", sig := { parameters := [], returnType := none }, accessFlags := 0, code := none }
def k2c1 : Code := { maxStack := 4, maxLocals := 5, code := prog_58_method_9_code, exceptionTable := #[], attributes := #[] }
def k2m1 : Method := { name := "hash", desc := "([CI)I", sig := { parameters := [(.array .char), .int], returnType := some .int }, accessFlags := 8, code := some k2c1 }
/-- com/example/micro_ranker/microranker/engine/TermDictionary -/
def k2 : Class := { plain "com/example/micro_ranker/microranker/engine/TermDictionary" (some 0) with
  accessFlags := 32
  interfaces := #[]
  cf := some (fileOf pool2 8 #[] #[{ accessFlags := 0, nameIndex := 5, descriptorIndex := 6, attributes := #[] }, { accessFlags := 8, nameIndex := 34, descriptorIndex := 35, attributes := #[] }] 32 2 #[] #[{ accessFlags := 26, nameIndex := 97, descriptorIndex := 98, attributes := #[] }, { accessFlags := 26, nameIndex := 100, descriptorIndex := 101, attributes := #[] }, { accessFlags := 2, nameIndex := 11, descriptorIndex := 12, attributes := #[] }, { accessFlags := 2, nameIndex := 30, descriptorIndex := 31, attributes := #[] }, { accessFlags := 18, nameIndex := 18, descriptorIndex := 19, attributes := #[] }])
  fields := #[{ name := "MULTIPLIER", type := .long, accessFlags := 26, slot := 0, constantValue := 0 }, { name := "LONGEST_WALK", type := .int, accessFlags := 26, slot := 1, constantValue := 0 }, { name := "slots", type := (.array .long), accessFlags := 2, slot := 0, constantValue := 0 }, { name := "numbers", type := (.object "java/util/Map"), accessFlags := 2, slot := 1, constantValue := 0 }, { name := "terms", type := (.object "com/example/micro_ranker/microranker/engine/Texts"), accessFlags := 18, slot := 2, constantValue := 0 }]
  methods := #[k2m0, k2m1]
  instanceTypes := #[(.array .long), (.object "java/util/Map"), (.object "com/example/micro_ranker/microranker/engine/Texts")]
  staticTypes := #[.long, .int]
  resolved := Array.replicate 115 none
  statics := none }

def pool3 : Array CpInfo := pool [(1, u "java/lang/Cloneable"), (0, .class_ 1), (0, u "java/lang/Object"), (0, .class_ 3)] 3

/-- java/lang/Cloneable -/
def k3 : Class := { plain "java/lang/Cloneable" (some 0) with
  accessFlags := 1537
  interfaces := #[]
  cf := some (fileOf pool3 2 #[] #[] 1537 4 #[] #[])
  fields := #[]
  methods := #[]
  instanceTypes := #[]
  staticTypes := #[]
  resolved := Array.replicate 8 none
  statics := none }

def pool4 : Array CpInfo := pool [(1, u "java/io/Serializable"), (0, .class_ 1), (0, u "java/lang/Object"), (0, .class_ 3)] 3

/-- java/io/Serializable -/
def k4 : Class := { plain "java/io/Serializable" (some 0) with
  accessFlags := 1537
  interfaces := #[]
  cf := some (fileOf pool4 2 #[] #[] 1537 4 #[] #[])
  fields := #[]
  methods := #[]
  instanceTypes := #[]
  staticTypes := #[]
  resolved := Array.replicate 8 none
  statics := none }

/-- the primitive byte -/
def k5 : Class := { plain "byte" none with kind := .primitive 'B', accessFlags := 0x411 }
/-- [B -/
def k6 : Class := { plain "[B" (some 0) with kind := .array 5 .byte, interfaces := #[3, 4], accessFlags := 1041 }

/-- the primitive char -/
def k7 : Class := { plain "char" none with kind := .primitive 'C', accessFlags := 0x411 }
/-- [C -/
def k8 : Class := { plain "[C" (some 0) with kind := .array 7 .char, interfaces := #[3, 4], accessFlags := 1041 }

/-- the primitive int -/
def k9 : Class := { plain "int" none with kind := .primitive 'I', accessFlags := 0x411 }
/-- [I -/
def k10 : Class := { plain "[I" (some 0) with kind := .array 9 .int, interfaces := #[3, 4], accessFlags := 1041 }

/-- the primitive long -/
def k11 : Class := { plain "long" none with kind := .primitive 'J', accessFlags := 0x411 }
/-- [J -/
def k12 : Class := { plain "[J" (some 0) with kind := .array 11 .long, interfaces := #[3, 4], accessFlags := 1041 }

def heap : Heap := #[]
def classes : Array Class := #[k0, k1, k2, k3, k4, k5, k6, k7, k8, k9, k10, k11, k12]
def interned : List (Array UInt16 × Addr) := []
def slotsUsed : Nat := 0
def theMethod : MethodId := ⟨1, 1⟩
def args0 : Array Value := #[.int 1, .int 2, .int 3, .int 4, .int 5, .int 6]
def aboutOver (below : List Frame) : State where
  vm := { classes := classes, interned := interned.toArray }
  heap := heap
  slotsUsed := slotsUsed
  threads := #[{ frames := .invoking theMethod args0 :: below }]
def below0 : List Frame := [.native { method := ⟨0, 0⟩, args := #[] }]
def about1 : State := aboutOver below0
def p0 : Program := .bare "" "" ""
def e0 : Env := launch0.env 0 0 0
theorem w_frames : about1.frames = Frame.invoking theMethod args0 :: below0 := rfl
set_option maxRecDepth 65536 in
theorem w_args : argsFit about1.vm theMethod args0 = true := by decide +kernel
set_option maxRecDepth 65536 in
theorem w_heap : heapFits about1 = true := by decide +kernel
set_option maxRecDepth 65536 in
theorem w_runnable : about1.curStatus? = some .runnable := by decide +kernel
set_option maxRecDepth 65536 in
theorem w_alone : about1.alone = true := by decide +kernel
set_option maxRecDepth 65536 in
theorem w_named : about1.methodNamed? x = some theMethod := by decide +kernel
set_option maxRecDepth 65536 in
theorem w_hears : about1.hears theMethod below0 = true := by decide +kernel
set_option maxRecDepth 65536 in
theorem w_ripe : about1.ripe theMethod args0 below0 = true := by decide +kernel
theorem w_running : about1.status = .running := rfl
set_option maxRecDepth 65536 in
theorem w_room : about1.hasRoom e0.platform room_1 = true :=
  launch0.hasRoom_least _ room_1 (by decide +kernel) (by decide +kernel) (by decide +kernel) (by decide +kernel) (by decide +kernel) (by decide +kernel)
theorem allAtoms_all (ts : List Jvm.Cond) (a : Array Jvm.Value) (st : Jvm.State) : (allAtoms ts).before a st = ts.all (fun c => c.before a st) := by
  induction ts with
  | nil => rfl
  | cons c t ih =>
    show (Jvm.Cond.and c (allAtoms t)).before a st = _
    rw [Jvm.Cond.before_and, ih, List.all_cons]
def words1 : List Jvm.Cond := Jvm.Cond.code x code maxLocals ret :: tables_1
/-- a 'code' word, met by the world's own term for the bytes: nothing is compared byte by byte -/
theorem code_word {y : MethodName} {bytes : ByteArray} {mx : Nat} {rt : Option FieldType} {a : Array Value} {s : State} {m : MethodId} {meth : Method} {c : Code} (h1 : s.methodNamed? y = some m) (h2 : s.vm.method? m = some meth) (h3 : meth.code = some c) (h4 : c.code = bytes)
    (h5 : (c.maxLocals == mx && c.exceptionTable.isEmpty && decide (c.maxStack ≤ mostOperands) && decide (meth.sig.returnType = rt) && !meth.locks && decide (parseMethodDescriptor y.desc = some meth.sig)) = true) : (Jvm.Cond.code y bytes mx rt).before a s = true := by
  simp only [Bool.and_eq_true, beq_iff_eq, Bool.not_eq_true', decide_eq_true_eq] at h5
  obtain ⟨⟨⟨⟨⟨g1, g2⟩, g3⟩, g4⟩, g5⟩, g6⟩ := h5
  simp [Cond.before, Cond.holds, Cond.value, h1, h2, h3, h4, g1, g2, g3, g4, g5, g6]
def isCode : Jvm.Cond → Bool
  | .code _ _ _ _ => true
  | _ => false
theorem all_split {L : List Jvm.Cond} {P : Jvm.Cond → Bool} (h1 : L.all (fun c => isCode c || P c) = true) (h2 : ∀ c ∈ L.filter isCode, P c = true) : L.all P = true := by
  refine List.all_eq_true.mpr fun c hc => ?_
  have h := List.all_eq_true.mp h1 c hc
  rcases Bool.eq_false_or_eq_true (isCode c) with hi | hi
  · exact h2 c (List.mem_filter.mpr ⟨hc, hi⟩)
  · simpa [hi] using h
set_option maxRecDepth 65536 in
theorem w_c0 : (Jvm.Cond.code x code maxLocals ret).before args0 about1 = true := code_word (m := ⟨1, 1⟩) (meth := k1m1) (c := k1c1) (by decide +kernel) rfl rfl rfl (by decide +kernel)
set_option maxRecDepth 65536 in
theorem w_c1 : (Jvm.Cond.code ({ cls := "com/example/micro_ranker/microranker/engine/TermDictionary", name := "hash", desc := "([CI)I" } : Jvm.MethodName) prog_58_method_9_code (5 : Nat) (Option.some Jvm.ClassFile.FieldType.int)).before args0 about1 = true := code_word (m := ⟨2, 1⟩) (meth := k2m1) (c := k2c1) (by decide +kernel) rfl rfl rfl (by decide +kernel)
def codes1 : List Jvm.Cond := [Jvm.Cond.code x code maxLocals ret, Jvm.Cond.code ({ cls := "com/example/micro_ranker/microranker/engine/TermDictionary", name := "hash", desc := "([CI)I" } : Jvm.MethodName) prog_58_method_9_code (5 : Nat) (Option.some Jvm.ClassFile.FieldType.int)]
set_option maxRecDepth 65536 in
theorem codes_eq : words1.filter isCode = codes1 := rfl
theorem w_codes : ∀ c ∈ words1.filter isCode, c.before args0 about1 = true := by
  rw [codes_eq]
  intro c hc
  simp only [codes1, List.mem_cons, List.not_mem_nil, or_false] at hc
  rcases hc with rfl | rfl
  · exact w_c0
  · exact w_c1
set_option maxRecDepth 65536 in
theorem w_t1 : words1.all (fun c => isCode c || c.before args0 about1) = true := by decide +kernel
theorem w_tables : (allAtoms (Jvm.Cond.code x code maxLocals ret :: tables_1)).before args0 about1 = true := by
  rw [allAtoms_all]
  show words1.all (fun c => c.before args0 about1) = true
  refine all_split ?_ w_codes
  rw [w_t1]
set_option maxRecDepth 65536 in
theorem w_case : (Jvm.Cond.and given_1 narrow_1).before args0 about1 = true := by decide +kernel
theorem w_applies : (headSpec (Jvm.Cond.code x code maxLocals ret :: tables_1) room_1).applies x e0.platform about1 = true :=
  (Spec.applies_iff w_frames).mpr ⟨w_running, w_runnable, w_alone, w_named, w_hears, w_ripe, w_room, w_tables⟩
theorem atStart : AtStart classFile x code maxLocals ret World_1 tables_1 room_1 Calls_1 rest_1 Pre_1 launch0 p0 e0 about1 theMethod args0 below0 :=
  ⟨lists_1, trivial, launch0.admits_env _ _ _, launch0.least_env, fairChoices_fair.cas, fairChoices_fair.clock, w_frames, w_args, w_heap, w_applies, trivial, trivial, w_case⟩
end start1
theorem witness_1 : WitnessClaimed_1 := ⟨start1.p0, start1.e0, start1.about1, start1.theMethod, start1.args0, start1.below0, start1.atStart⟩
end Jvm.Pilot.@@N@@
