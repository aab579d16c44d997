import JvmDerived
import JvmDerived.Pilot.@@N@@Statement
import JvmDerived.Pilot.@@N@@Code
set_option linter.unusedVariables false
set_option linter.unusedSimpArgs false
namespace Jvm.Pilot.@@N@@
open Jvm Jvm.ClassFile Sem Op Lib Jvm.Free Jvm.Stand Jvm.LawKit Jvm.RoadKit Bundle Jvm.Pilot.@@N@@.Jvm.D
/-! 1. the walk's own words -/
def OG (tb : Tables) (e : Env) (below : List Frame) (P : Outcome → State → Prop) (A : State) : Prop :=
  ∃ s₂ o, Steps tb e below A s₂ ∧ s₂.status = .running ∧ Ended s₂ below o ∧ P o s₂
theorem OG.of {tb : Tables} {e : Env} {below : List Frame} {P : Outcome → State → Prop} {A B : State} (h : OG tb e below P B) (k : ∀ t, Steps tb e below B t → Steps tb e below A t) : OG tb e below P A := by
  obtain ⟨t, o, st, r⟩ := h
  exact ⟨t, o, k t st, r⟩
def Bx (own : String) (bs : ByteArray) (ml : Nat) (Z : State) (p : Program) (l : Launch) (e : Env) (R : Room) (s : State) (m : MethodId) (args : Array Value) (below : List Frame) (meth : Method) (c : Code) (T : State) (h : Heap) (locs : List Loc) (cells slots : Nat) : Prop :=
  Stand p l e R s m args below meth c T locs cells slots ∧ p.tables.exec = Jvm.exec ∧ c.code = bs ∧ c.maxLocals = ml ∧ s.vm.findClass own = some m.cls ∧ Z.Warmed39 s.vm ∧ T.heap = h
section Walk
variable {own : String} {bs : ByteArray} {ml : Nat} {Z : State} {p : Program} {l : Launch} {e : Env} {R : Room} {s : State} {m : MethodId} {args : Array Value} {below : List Frame} {meth : Method} {c : Code} {T : State} {h : Heap} {locs : List Loc} {cells slots : Nat} {P : Outcome → State → Prop} {Ls : Array Slot} {rest : List Value} {a0 : Array Value}
theorem o_iadd (B : Bx own bs ml Z p l e R s m args below meth c T h locs cells slots) (pc pc' : Nat) {x y : Int32} (hd : decode bs pc = .ok (.iadd, 1)) (hp : pc + 1 = pc') 
    (hr : OG p.tables e below P (T.setTop (mkF m pc' Ls (.int (x + y) :: rest)))) : OG p.tables e below P (T.setTop (mkF m pc Ls (.int y :: .int x :: rest))) := by
  subst hp
  obtain ⟨X, hx, hby, hml, hown, hZ, eT⟩ := B
  exact hr.of fun t k => XS.iadd X.here hx rfl (hb hby hd) rfl k
theorem o_isub (B : Bx own bs ml Z p l e R s m args below meth c T h locs cells slots) (pc pc' : Nat) {x y : Int32} (hd : decode bs pc = .ok (.isub, 1)) (hp : pc + 1 = pc') 
    (hr : OG p.tables e below P (T.setTop (mkF m pc' Ls (.int (x - y) :: rest)))) : OG p.tables e below P (T.setTop (mkF m pc Ls (.int y :: .int x :: rest))) := by
  subst hp
  obtain ⟨X, hx, hby, hml, hown, hZ, eT⟩ := B
  exact hr.of fun t k => XS.isub X.here hx rfl (hb hby hd) rfl k
theorem o_imul (B : Bx own bs ml Z p l e R s m args below meth c T h locs cells slots) (pc pc' : Nat) {x y : Int32} (hd : decode bs pc = .ok (.imul, 1)) (hp : pc + 1 = pc') 
    (hr : OG p.tables e below P (T.setTop (mkF m pc' Ls (.int (x * y) :: rest)))) : OG p.tables e below P (T.setTop (mkF m pc Ls (.int y :: .int x :: rest))) := by
  subst hp
  obtain ⟨X, hx, hby, hml, hown, hZ, eT⟩ := B
  exact hr.of fun t k => XS.imul X.here hx rfl (hb hby hd) rfl k
theorem o_iand (B : Bx own bs ml Z p l e R s m args below meth c T h locs cells slots) (pc pc' : Nat) {x y : Int32} (hd : decode bs pc = .ok (.iand, 1)) (hp : pc + 1 = pc') 
    (hr : OG p.tables e below P (T.setTop (mkF m pc' Ls (.int (x &&& y) :: rest)))) : OG p.tables e below P (T.setTop (mkF m pc Ls (.int y :: .int x :: rest))) := by
  subst hp
  obtain ⟨X, hx, hby, hml, hown, hZ, eT⟩ := B
  exact hr.of fun t k => XS.iand X.here hx rfl (hb hby hd) rfl k
theorem o_ior (B : Bx own bs ml Z p l e R s m args below meth c T h locs cells slots) (pc pc' : Nat) {x y : Int32} (hd : decode bs pc = .ok (.ior, 1)) (hp : pc + 1 = pc') 
    (hr : OG p.tables e below P (T.setTop (mkF m pc' Ls (.int (x ||| y) :: rest)))) : OG p.tables e below P (T.setTop (mkF m pc Ls (.int y :: .int x :: rest))) := by
  subst hp
  obtain ⟨X, hx, hby, hml, hown, hZ, eT⟩ := B
  exact hr.of fun t k => XT.ior X.here hx rfl (hb hby hd) rfl k
theorem o_ixor (B : Bx own bs ml Z p l e R s m args below meth c T h locs cells slots) (pc pc' : Nat) {x y : Int32} (hd : decode bs pc = .ok (.ixor, 1)) (hp : pc + 1 = pc') 
    (hr : OG p.tables e below P (T.setTop (mkF m pc' Ls (.int (x ^^^ y) :: rest)))) : OG p.tables e below P (T.setTop (mkF m pc Ls (.int y :: .int x :: rest))) := by
  subst hp
  obtain ⟨X, hx, hby, hml, hown, hZ, eT⟩ := B
  exact hr.of fun t k => XT.ixor X.here hx rfl (hb hby hd) rfl k
theorem o_ishl (B : Bx own bs ml Z p l e R s m args below meth c T h locs cells slots) (pc pc' : Nat) {x y : Int32} (hd : decode bs pc = .ok (.ishl, 1)) (hp : pc + 1 = pc') 
    (hr : OG p.tables e below P (T.setTop (mkF m pc' Ls (.int (x <<< (y &&& 31)) :: rest)))) : OG p.tables e below P (T.setTop (mkF m pc Ls (.int y :: .int x :: rest))) := by
  subst hp
  obtain ⟨X, hx, hby, hml, hown, hZ, eT⟩ := B
  exact hr.of fun t k => XT.ishl X.here hx rfl (hb hby hd) rfl k
theorem o_ishr (B : Bx own bs ml Z p l e R s m args below meth c T h locs cells slots) (pc pc' : Nat) {x y : Int32} (hd : decode bs pc = .ok (.ishr, 1)) (hp : pc + 1 = pc') 
    (hr : OG p.tables e below P (T.setTop (mkF m pc' Ls (.int (x >>> (y &&& 31)) :: rest)))) : OG p.tables e below P (T.setTop (mkF m pc Ls (.int y :: .int x :: rest))) := by
  subst hp
  obtain ⟨X, hx, hby, hml, hown, hZ, eT⟩ := B
  exact hr.of fun t k => XT.ishr X.here hx rfl (hb hby hd) rfl k
theorem o_iushr (B : Bx own bs ml Z p l e R s m args below meth c T h locs cells slots) (pc pc' : Nat) {x y : Int32} (hd : decode bs pc = .ok (.iushr, 1)) (hp : pc + 1 = pc') 
    (hr : OG p.tables e below P (T.setTop (mkF m pc' Ls (.int (XT.ushr x y) :: rest)))) : OG p.tables e below P (T.setTop (mkF m pc Ls (.int y :: .int x :: rest))) := by
  subst hp
  obtain ⟨X, hx, hby, hml, hown, hZ, eT⟩ := B
  exact hr.of fun t k => XT.iushr X.here hx rfl (hb hby hd) rfl k
theorem o_idiv (B : Bx own bs ml Z p l e R s m args below meth c T h locs cells slots) (pc pc' : Nat) {x y : Int32} (hd : decode bs pc = .ok (.idiv, 1)) (hp : pc + 1 = pc') (hy : y ≠ 0)
    (hr : OG p.tables e below P (T.setTop (mkF m pc' Ls (.int (x / y) :: rest)))) : OG p.tables e below P (T.setTop (mkF m pc Ls (.int y :: .int x :: rest))) := by
  subst hp
  obtain ⟨X, hx, hby, hml, hown, hZ, eT⟩ := B
  exact hr.of fun t k => XS.idiv X.here hx rfl (hb hby hd) rfl hy k
theorem o_irem (B : Bx own bs ml Z p l e R s m args below meth c T h locs cells slots) (pc pc' : Nat) {x y : Int32} (hd : decode bs pc = .ok (.irem, 1)) (hp : pc + 1 = pc') (hy : y ≠ 0)
    (hr : OG p.tables e below P (T.setTop (mkF m pc' Ls (.int (x % y) :: rest)))) : OG p.tables e below P (T.setTop (mkF m pc Ls (.int y :: .int x :: rest))) := by
  subst hp
  obtain ⟨X, hx, hby, hml, hown, hZ, eT⟩ := B
  exact hr.of fun t k => XS.irem X.here hx rfl (hb hby hd) rfl hy (by rw [irem_eq_mod]; exact k)
theorem o_ladd (B : Bx own bs ml Z p l e R s m args below meth c T h locs cells slots) (pc pc' : Nat) {x y : Int64} (hd : decode bs pc = .ok (.ladd, 1)) (hp : pc + 1 = pc') 
    (hr : OG p.tables e below P (T.setTop (mkF m pc' Ls (.long (x + y) :: rest)))) : OG p.tables e below P (T.setTop (mkF m pc Ls (.long y :: .long x :: rest))) := by
  subst hp
  obtain ⟨X, hx, hby, hml, hown, hZ, eT⟩ := B
  exact hr.of fun t k => XT.ladd X.here hx rfl (hb hby hd) rfl k
theorem o_lsub (B : Bx own bs ml Z p l e R s m args below meth c T h locs cells slots) (pc pc' : Nat) {x y : Int64} (hd : decode bs pc = .ok (.lsub, 1)) (hp : pc + 1 = pc') 
    (hr : OG p.tables e below P (T.setTop (mkF m pc' Ls (.long (x - y) :: rest)))) : OG p.tables e below P (T.setTop (mkF m pc Ls (.long y :: .long x :: rest))) := by
  subst hp
  obtain ⟨X, hx, hby, hml, hown, hZ, eT⟩ := B
  exact hr.of fun t k => XT.lsub X.here hx rfl (hb hby hd) rfl k
theorem o_lmul (B : Bx own bs ml Z p l e R s m args below meth c T h locs cells slots) (pc pc' : Nat) {x y : Int64} (hd : decode bs pc = .ok (.lmul, 1)) (hp : pc + 1 = pc') 
    (hr : OG p.tables e below P (T.setTop (mkF m pc' Ls (.long (x * y) :: rest)))) : OG p.tables e below P (T.setTop (mkF m pc Ls (.long y :: .long x :: rest))) := by
  subst hp
  obtain ⟨X, hx, hby, hml, hown, hZ, eT⟩ := B
  exact hr.of fun t k => XT.lmul X.here hx rfl (hb hby hd) rfl k
theorem o_land (B : Bx own bs ml Z p l e R s m args below meth c T h locs cells slots) (pc pc' : Nat) {x y : Int64} (hd : decode bs pc = .ok (.land, 1)) (hp : pc + 1 = pc') 
    (hr : OG p.tables e below P (T.setTop (mkF m pc' Ls (.long (x &&& y) :: rest)))) : OG p.tables e below P (T.setTop (mkF m pc Ls (.long y :: .long x :: rest))) := by
  subst hp
  obtain ⟨X, hx, hby, hml, hown, hZ, eT⟩ := B
  exact hr.of fun t k => XT.land X.here hx rfl (hb hby hd) rfl k
theorem o_lor (B : Bx own bs ml Z p l e R s m args below meth c T h locs cells slots) (pc pc' : Nat) {x y : Int64} (hd : decode bs pc = .ok (.lor, 1)) (hp : pc + 1 = pc') 
    (hr : OG p.tables e below P (T.setTop (mkF m pc' Ls (.long (x ||| y) :: rest)))) : OG p.tables e below P (T.setTop (mkF m pc Ls (.long y :: .long x :: rest))) := by
  subst hp
  obtain ⟨X, hx, hby, hml, hown, hZ, eT⟩ := B
  exact hr.of fun t k => XT.lor X.here hx rfl (hb hby hd) rfl k
theorem o_lxor (B : Bx own bs ml Z p l e R s m args below meth c T h locs cells slots) (pc pc' : Nat) {x y : Int64} (hd : decode bs pc = .ok (.lxor, 1)) (hp : pc + 1 = pc') 
    (hr : OG p.tables e below P (T.setTop (mkF m pc' Ls (.long (x ^^^ y) :: rest)))) : OG p.tables e below P (T.setTop (mkF m pc Ls (.long y :: .long x :: rest))) := by
  subst hp
  obtain ⟨X, hx, hby, hml, hown, hZ, eT⟩ := B
  exact hr.of fun t k => XT.lxor X.here hx rfl (hb hby hd) rfl k
theorem o_ldiv (B : Bx own bs ml Z p l e R s m args below meth c T h locs cells slots) (pc pc' : Nat) {x y : Int64} (hd : decode bs pc = .ok (.ldiv, 1)) (hp : pc + 1 = pc') (hy : y ≠ 0)
    (hr : OG p.tables e below P (T.setTop (mkF m pc' Ls (.long (x / y) :: rest)))) : OG p.tables e below P (T.setTop (mkF m pc Ls (.long y :: .long x :: rest))) := by
  subst hp
  obtain ⟨X, hx, hby, hml, hown, hZ, eT⟩ := B
  exact hr.of fun t k => XT.ldiv X.here hx rfl (hb hby hd) rfl hy k
theorem o_lrem (B : Bx own bs ml Z p l e R s m args below meth c T h locs cells slots) (pc pc' : Nat) {x y : Int64} (hd : decode bs pc = .ok (.lrem, 1)) (hp : pc + 1 = pc') (hy : y ≠ 0)
    (hr : OG p.tables e below P (T.setTop (mkF m pc' Ls (.long (x % y) :: rest)))) : OG p.tables e below P (T.setTop (mkF m pc Ls (.long y :: .long x :: rest))) := by
  subst hp
  obtain ⟨X, hx, hby, hml, hown, hZ, eT⟩ := B
  exact hr.of fun t k => XT.lrem X.here hx rfl (hb hby hd) rfl hy (by rw [lrem_mod]; exact k)
theorem o_lshl (B : Bx own bs ml Z p l e R s m args below meth c T h locs cells slots) (pc pc' : Nat) {x : Int64} {y : Int32} (hd : decode bs pc = .ok (.lshl, 1)) (hp : pc + 1 = pc') 
    (hr : OG p.tables e below P (T.setTop (mkF m pc' Ls (.long (x <<< (y.toInt64 &&& 63)) :: rest)))) : OG p.tables e below P (T.setTop (mkF m pc Ls (.int y :: .long x :: rest))) := by
  subst hp
  obtain ⟨X, hx, hby, hml, hown, hZ, eT⟩ := B
  exact hr.of fun t k => XT.lshl X.here hx rfl (hb hby hd) rfl k
theorem o_lshr (B : Bx own bs ml Z p l e R s m args below meth c T h locs cells slots) (pc pc' : Nat) {x : Int64} {y : Int32} (hd : decode bs pc = .ok (.lshr, 1)) (hp : pc + 1 = pc') 
    (hr : OG p.tables e below P (T.setTop (mkF m pc' Ls (.long (x >>> (y.toInt64 &&& 63)) :: rest)))) : OG p.tables e below P (T.setTop (mkF m pc Ls (.int y :: .long x :: rest))) := by
  subst hp
  obtain ⟨X, hx, hby, hml, hown, hZ, eT⟩ := B
  exact hr.of fun t k => XT.lshr X.here hx rfl (hb hby hd) rfl k
theorem o_lushr (B : Bx own bs ml Z p l e R s m args below meth c T h locs cells slots) (pc pc' : Nat) {x : Int64} {y : Int32} (hd : decode bs pc = .ok (.lushr, 1)) (hp : pc + 1 = pc') 
    (hr : OG p.tables e below P (T.setTop (mkF m pc' Ls (.long (XT.ushrL x y) :: rest)))) : OG p.tables e below P (T.setTop (mkF m pc Ls (.int y :: .long x :: rest))) := by
  subst hp
  obtain ⟨X, hx, hby, hml, hown, hZ, eT⟩ := B
  exact hr.of fun t k => XT.lushr X.here hx rfl (hb hby hd) rfl k
theorem o_lcmp (B : Bx own bs ml Z p l e R s m args below meth c T h locs cells slots) (pc pc' : Nat) {x y : Int64} (hd : decode bs pc = .ok (.lcmp, 1)) (hp : pc + 1 = pc') 
    (hr : OG p.tables e below P (T.setTop (mkF m pc' Ls (.int (XT.cmpL x y) :: rest)))) : OG p.tables e below P (T.setTop (mkF m pc Ls (.long y :: .long x :: rest))) := by
  subst hp
  obtain ⟨X, hx, hby, hml, hown, hZ, eT⟩ := B
  exact hr.of fun t k => XT.lcmp X.here hx rfl (hb hby hd) rfl k
theorem o_ineg (B : Bx own bs ml Z p l e R s m args below meth c T h locs cells slots) (pc pc' : Nat) {x : Int32} (hd : decode bs pc = .ok (.ineg, 1)) (hp : pc + 1 = pc') 
    (hr : OG p.tables e below P (T.setTop (mkF m pc' Ls (.int (-x) :: rest)))) : OG p.tables e below P (T.setTop (mkF m pc Ls (.int x :: rest))) := by
  subst hp
  obtain ⟨X, hx, hby, hml, hown, hZ, eT⟩ := B
  exact hr.of fun t k => XS.ineg X.here hx rfl (hb hby hd) rfl k
theorem o_lneg (B : Bx own bs ml Z p l e R s m args below meth c T h locs cells slots) (pc pc' : Nat) {x : Int64} (hd : decode bs pc = .ok (.lneg, 1)) (hp : pc + 1 = pc') 
    (hr : OG p.tables e below P (T.setTop (mkF m pc' Ls (.long (-x) :: rest)))) : OG p.tables e below P (T.setTop (mkF m pc Ls (.long x :: rest))) := by
  subst hp
  obtain ⟨X, hx, hby, hml, hown, hZ, eT⟩ := B
  exact hr.of fun t k => XT.lneg X.here hx rfl (hb hby hd) rfl k
theorem o_i2l (B : Bx own bs ml Z p l e R s m args below meth c T h locs cells slots) (pc pc' : Nat) {x : Int32} (hd : decode bs pc = .ok (.i2l, 1)) (hp : pc + 1 = pc') 
    (hr : OG p.tables e below P (T.setTop (mkF m pc' Ls (.long (x.toInt64) :: rest)))) : OG p.tables e below P (T.setTop (mkF m pc Ls (.int x :: rest))) := by
  subst hp
  obtain ⟨X, hx, hby, hml, hown, hZ, eT⟩ := B
  exact hr.of fun t k => XT.i2l X.here hx rfl (hb hby hd) rfl k
theorem o_l2i (B : Bx own bs ml Z p l e R s m args below meth c T h locs cells slots) (pc pc' : Nat) {x : Int64} (hd : decode bs pc = .ok (.l2i, 1)) (hp : pc + 1 = pc') 
    (hr : OG p.tables e below P (T.setTop (mkF m pc' Ls (.int (x.toInt32) :: rest)))) : OG p.tables e below P (T.setTop (mkF m pc Ls (.long x :: rest))) := by
  subst hp
  obtain ⟨X, hx, hby, hml, hown, hZ, eT⟩ := B
  exact hr.of fun t k => XT.l2i X.here hx rfl (hb hby hd) rfl k
theorem o_i2b (B : Bx own bs ml Z p l e R s m args below meth c T h locs cells slots) (pc pc' : Nat) {x : Int32} (hd : decode bs pc = .ok (.i2b, 1)) (hp : pc + 1 = pc') 
    (hr : OG p.tables e below P (T.setTop (mkF m pc' Ls (.int (x.toInt8.toInt32) :: rest)))) : OG p.tables e below P (T.setTop (mkF m pc Ls (.int x :: rest))) := by
  subst hp
  obtain ⟨X, hx, hby, hml, hown, hZ, eT⟩ := B
  exact hr.of fun t k => XT.i2b X.here hx rfl (hb hby hd) rfl k
theorem o_i2c (B : Bx own bs ml Z p l e R s m args below meth c T h locs cells slots) (pc pc' : Nat) {x : Int32} (hd : decode bs pc = .ok (.i2c, 1)) (hp : pc + 1 = pc') 
    (hr : OG p.tables e below P (T.setTop (mkF m pc' Ls (.int (x.toUInt32.toUInt16.toUInt32.toInt32) :: rest)))) : OG p.tables e below P (T.setTop (mkF m pc Ls (.int x :: rest))) := by
  subst hp
  obtain ⟨X, hx, hby, hml, hown, hZ, eT⟩ := B
  exact hr.of fun t k => XT.i2c X.here hx rfl (hb hby hd) rfl k
theorem o_i2s (B : Bx own bs ml Z p l e R s m args below meth c T h locs cells slots) (pc pc' : Nat) {x : Int32} (hd : decode bs pc = .ok (.i2s, 1)) (hp : pc + 1 = pc') 
    (hr : OG p.tables e below P (T.setTop (mkF m pc' Ls (.int (x.toInt16.toInt32) :: rest)))) : OG p.tables e below P (T.setTop (mkF m pc Ls (.int x :: rest))) := by
  subst hp
  obtain ⟨X, hx, hby, hml, hown, hZ, eT⟩ := B
  exact hr.of fun t k => XT.i2s X.here hx rfl (hb hby hd) rfl k
theorem o_iconst (B : Bx own bs ml Z p l e R s m args below meth c T h locs cells slots) (pc pc' : Nat) {i : Int} (v : Int32) (hd : decode bs pc = .ok (.iconst i, 1)) (hp : pc + 1 = pc') (hv : Int32.ofInt i = v)
    (hr : OG p.tables e below P (T.setTop (mkF m pc' Ls (.int v :: rest)))) : OG p.tables e below P (T.setTop (mkF m pc Ls rest)) := by
  subst hp
  obtain ⟨X, hx, hby, hml, hown, hZ, eT⟩ := B
  exact hr.of fun t k => XT.iconstV X.here hx rfl v (hb hby hd) hv k
theorem o_bipush (B : Bx own bs ml Z p l e R s m args below meth c T h locs cells slots) (pc pc' : Nat) {i : Int} (v : Int32) (hd : decode bs pc = .ok (.bipush i, 2)) (hp : pc + 2 = pc') (hv : (Int8.ofInt i).toInt32 = v)
    (hr : OG p.tables e below P (T.setTop (mkF m pc' Ls (.int v :: rest)))) : OG p.tables e below P (T.setTop (mkF m pc Ls rest)) := by
  subst hp
  obtain ⟨X, hx, hby, hml, hown, hZ, eT⟩ := B
  exact hr.of fun t k => XT.bipushV X.here hx rfl v (hb hby hd) hv k
theorem o_sipush (B : Bx own bs ml Z p l e R s m args below meth c T h locs cells slots) (pc pc' : Nat) {i : Int} (v : Int32) (hd : decode bs pc = .ok (.sipush i, 3)) (hp : pc + 3 = pc') (hv : (Int16.ofInt i).toInt32 = v)
    (hr : OG p.tables e below P (T.setTop (mkF m pc' Ls (.int v :: rest)))) : OG p.tables e below P (T.setTop (mkF m pc Ls rest)) := by
  subst hp
  obtain ⟨X, hx, hby, hml, hown, hZ, eT⟩ := B
  exact hr.of fun t k => XT.sipushV X.here hx rfl v (hb hby hd) hv k
theorem o_lconst (B : Bx own bs ml Z p l e R s m args below meth c T h locs cells slots) (pc pc' : Nat) {i : Fin 2} (v : Int64) (hd : decode bs pc = .ok (.lconst i, 1)) (hp : pc + 1 = pc') (hv : Int64.ofNat i = v)
    (hr : OG p.tables e below P (T.setTop (mkF m pc' Ls (.long v :: rest)))) : OG p.tables e below P (T.setTop (mkF m pc Ls rest)) := by
  subst hp
  obtain ⟨X, hx, hby, hml, hown, hZ, eT⟩ := B
  exact hr.of fun t k => XT.lconstV X.here hx rfl v (hb hby hd) hv k
theorem o_aconst_null (B : Bx own bs ml Z p l e R s m args below meth c T h locs cells slots) (pc pc' : Nat)  (hd : decode bs pc = .ok (.aconst_null, 1)) (hp : pc + 1 = pc') 
    (hr : OG p.tables e below P (T.setTop (mkF m pc' Ls (.null :: rest)))) : OG p.tables e below P (T.setTop (mkF m pc Ls rest)) := by
  subst hp
  obtain ⟨X, hx, hby, hml, hown, hZ, eT⟩ := B
  exact hr.of fun t k => XS.aconstNull X.here hx rfl (hb hby hd) k
theorem o_iloadN (B : Bx own bs ml Z p l e R s m args below meth c T h locs cells slots) (pc pc' : Nat) {k : Fin 4} {v : Int32} (hd : decode bs pc = .ok (.iload_n k, 1)) (hp : pc + 1 = pc') (hl : Ls[k.val]? = some (.val (.int v)))
    (hr : OG p.tables e below P (T.setTop (mkF m pc' Ls (.int v :: rest)))) : OG p.tables e below P (T.setTop (mkF m pc Ls rest)) := by
  subst hp
  obtain ⟨X, hx, hby, hml, hown, hZ, eT⟩ := B
  exact hr.of fun t k => XS.iloadN X.here hx rfl (hb hby hd) hl k
theorem o_iload (B : Bx own bs ml Z p l e R s m args below meth c T h locs cells slots) (pc pc' : Nat) {k : Nat} {v : Int32} (hd : decode bs pc = .ok (.iload k, 2)) (hp : pc + 2 = pc') (hl : Ls[k]? = some (.val (.int v)))
    (hr : OG p.tables e below P (T.setTop (mkF m pc' Ls (.int v :: rest)))) : OG p.tables e below P (T.setTop (mkF m pc Ls rest)) := by
  subst hp
  obtain ⟨X, hx, hby, hml, hown, hZ, eT⟩ := B
  exact hr.of fun t k => XS.iload X.here hx rfl (hb hby hd) hl k
theorem o_lloadN (B : Bx own bs ml Z p l e R s m args below meth c T h locs cells slots) (pc pc' : Nat) {k : Fin 4} {v : Int64} (hd : decode bs pc = .ok (.lload_n k, 1)) (hp : pc + 1 = pc') (hl : Ls[k.val]? = some (.val (.long v)))
    (hr : OG p.tables e below P (T.setTop (mkF m pc' Ls (.long v :: rest)))) : OG p.tables e below P (T.setTop (mkF m pc Ls rest)) := by
  subst hp
  obtain ⟨X, hx, hby, hml, hown, hZ, eT⟩ := B
  exact hr.of fun t k => XT.lloadN X.here hx rfl (hb hby hd) hl k
theorem o_lload (B : Bx own bs ml Z p l e R s m args below meth c T h locs cells slots) (pc pc' : Nat) {k : Nat} {v : Int64} (hd : decode bs pc = .ok (.lload k, 2)) (hp : pc + 2 = pc') (hl : Ls[k]? = some (.val (.long v)))
    (hr : OG p.tables e below P (T.setTop (mkF m pc' Ls (.long v :: rest)))) : OG p.tables e below P (T.setTop (mkF m pc Ls rest)) := by
  subst hp
  obtain ⟨X, hx, hby, hml, hown, hZ, eT⟩ := B
  exact hr.of fun t k => XT.lload X.here hx rfl (hb hby hd) hl k
theorem o_aloadN (B : Bx own bs ml Z p l e R s m args below meth c T h locs cells slots) (pc pc' : Nat) {k : Fin 4} {v : Value} (hd : decode bs pc = .ok (.aload_n k, 1)) (hp : pc + 1 = pc') (hl : Ls[k.val]? = some (.val v)) (hv : v.isRef = true)
    (hr : OG p.tables e below P (T.setTop (mkF m pc' Ls (v :: rest)))) : OG p.tables e below P (T.setTop (mkF m pc Ls rest)) := by
  subst hp
  obtain ⟨X, hx, hby, hml, hown, hZ, eT⟩ := B
  exact hr.of fun t k => XS.aloadN X.here hx rfl (hb hby hd) hl hv k
theorem o_aload (B : Bx own bs ml Z p l e R s m args below meth c T h locs cells slots) (pc pc' : Nat) {k : Nat} {v : Value} (hd : decode bs pc = .ok (.aload k, 2)) (hp : pc + 2 = pc') (hl : Ls[k]? = some (.val v)) (hv : v.isRef = true)
    (hr : OG p.tables e below P (T.setTop (mkF m pc' Ls (v :: rest)))) : OG p.tables e below P (T.setTop (mkF m pc Ls rest)) := by
  subst hp
  obtain ⟨X, hx, hby, hml, hown, hZ, eT⟩ := B
  exact hr.of fun t k => XS.aload X.here hx rfl (hb hby hd) hl hv k
theorem o_istoreN (B : Bx own bs ml Z p l e R s m args below meth c T h locs cells slots) (pc pc' : Nat) {k : Fin 4} {x : Int32} {l' : Array Slot} (hd : decode bs pc = .ok (.istore_n k, 1)) (hp : pc + 1 = pc') (hl : storeLocals Ls k.val (.int x) = some l')
    (hr : OG p.tables e below P (T.setTop (mkF m pc' l' rest))) : OG p.tables e below P (T.setTop (mkF m pc Ls (.int x :: rest))) := by
  subst hp
  obtain ⟨X, hx, hby, hml, hown, hZ, eT⟩ := B
  exact hr.of fun t k => XS.istoreN X.here hx rfl (hb hby hd) rfl hl k
theorem o_istore (B : Bx own bs ml Z p l e R s m args below meth c T h locs cells slots) (pc pc' : Nat) {k : Nat} {x : Int32} {l' : Array Slot} (hd : decode bs pc = .ok (.istore k, 2)) (hp : pc + 2 = pc') (hl : storeLocals Ls k (.int x) = some l')
    (hr : OG p.tables e below P (T.setTop (mkF m pc' l' rest))) : OG p.tables e below P (T.setTop (mkF m pc Ls (.int x :: rest))) := by
  subst hp
  obtain ⟨X, hx, hby, hml, hown, hZ, eT⟩ := B
  exact hr.of fun t k => XS.istore X.here hx rfl (hb hby hd) rfl hl k
theorem o_lstoreN (B : Bx own bs ml Z p l e R s m args below meth c T h locs cells slots) (pc pc' : Nat) {k : Fin 4} {x : Int64} {l' : Array Slot} (hd : decode bs pc = .ok (.lstore_n k, 1)) (hp : pc + 1 = pc') (hl : storeLocals Ls k.val (.long x) = some l')
    (hr : OG p.tables e below P (T.setTop (mkF m pc' l' rest))) : OG p.tables e below P (T.setTop (mkF m pc Ls (.long x :: rest))) := by
  subst hp
  obtain ⟨X, hx, hby, hml, hown, hZ, eT⟩ := B
  exact hr.of fun t k => XT.lstoreN X.here hx rfl (hb hby hd) rfl hl k
theorem o_lstore (B : Bx own bs ml Z p l e R s m args below meth c T h locs cells slots) (pc pc' : Nat) {k : Nat} {x : Int64} {l' : Array Slot} (hd : decode bs pc = .ok (.lstore k, 2)) (hp : pc + 2 = pc') (hl : storeLocals Ls k (.long x) = some l')
    (hr : OG p.tables e below P (T.setTop (mkF m pc' l' rest))) : OG p.tables e below P (T.setTop (mkF m pc Ls (.long x :: rest))) := by
  subst hp
  obtain ⟨X, hx, hby, hml, hown, hZ, eT⟩ := B
  exact hr.of fun t k => XT.lstore X.here hx rfl (hb hby hd) rfl hl k
theorem o_astoreN (B : Bx own bs ml Z p l e R s m args below meth c T h locs cells slots) (pc pc' : Nat) {k : Fin 4} {x : Value} {l' : Array Slot} (hd : decode bs pc = .ok (.astore_n k, 1)) (hp : pc + 1 = pc') (hv : x.isRef = true) (hl : storeLocals Ls k.val x = some l')
    (hr : OG p.tables e below P (T.setTop (mkF m pc' l' rest))) : OG p.tables e below P (T.setTop (mkF m pc Ls (x :: rest))) := by
  subst hp
  obtain ⟨X, hx, hby, hml, hown, hZ, eT⟩ := B
  exact hr.of fun t k => XS.astoreN X.here hx rfl (hb hby hd) rfl hv hl k
theorem o_astore (B : Bx own bs ml Z p l e R s m args below meth c T h locs cells slots) (pc pc' : Nat) {k : Nat} {x : Value} {l' : Array Slot} (hd : decode bs pc = .ok (.astore k, 2)) (hp : pc + 2 = pc') (hv : x.isRef = true) (hl : storeLocals Ls k x = some l')
    (hr : OG p.tables e below P (T.setTop (mkF m pc' l' rest))) : OG p.tables e below P (T.setTop (mkF m pc Ls (x :: rest))) := by
  subst hp
  obtain ⟨X, hx, hby, hml, hown, hZ, eT⟩ := B
  exact hr.of fun t k => XS.astore X.here hx rfl (hb hby hd) rfl hv hl k
theorem o_iinc (B : Bx own bs ml Z p l e R s m args below meth c T h locs cells slots) (pc pc' : Nat) {k : Nat} {cst : Int} {x : Int32} {l' : Array Slot} (v : Int32) (hd : decode bs pc = .ok (.iinc k cst, 3)) (hp : pc + 3 = pc') (hv : Int32.ofInt cst = v) (hl : Ls[k]? = some (.val (.int x))) (hl' : storeLocals Ls k (.int (x + v)) = some l')
    (hr : OG p.tables e below P (T.setTop (mkF m pc' l' rest))) : OG p.tables e below P (T.setTop (mkF m pc Ls rest)) := by
  subst hp
  obtain ⟨X, hx, hby, hml, hown, hZ, eT⟩ := B
  exact hr.of fun t k => XT.iincV X.here hx rfl v (hb hby hd) hv hl hl' k
theorem o_goto (B : Bx own bs ml Z p l e R s m args below meth c T h locs cells slots) (pc pc' : Nat) {o : Int} (hd : decode bs pc = .ok (.goto o, 3))  (ho : 0 ≤ (pc : Int) + o) (hp : ((pc : Int) + o).toNat = pc')
    (hr : OG p.tables e below P (T.setTop (mkF m pc' Ls rest))) : OG p.tables e below P (T.setTop (mkF m pc Ls rest)) := by
  obtain ⟨X, hx, hby, hml, hown, hZ, eT⟩ := B
  exact hr.of fun t k => XS.goto X.here hx rfl (pc0 := pc) (pc' := pc') rfl (hb hby hd) ho hp k
theorem o_ifY (B : Bx own bs ml Z p l e R s m args below meth c T h locs cells slots) (pc pc' : Nat) {cd : ClassFile.Cond} {o : Int} {x : Int32} (hd : decode bs pc = .ok (.ifCond cd o, 3))  (hc : ifCond.holds cd x = true) (ho : 0 ≤ (pc : Int) + o) (hp : ((pc : Int) + o).toNat = pc')
    (hr : OG p.tables e below P (T.setTop (mkF m pc' Ls rest))) : OG p.tables e below P (T.setTop (mkF m pc Ls (.int x :: rest))) := by
  obtain ⟨X, hx, hby, hml, hown, hZ, eT⟩ := B
  exact hr.of fun t k => XS.ifYes X.here hx rfl (pc0 := pc) (pc' := pc') rfl (hb hby hd) rfl hc ho hp k
theorem o_ifN (B : Bx own bs ml Z p l e R s m args below meth c T h locs cells slots) (pc pc' : Nat) {cd : ClassFile.Cond} {o : Int} {x : Int32} (hd : decode bs pc = .ok (.ifCond cd o, 3)) (hp : pc + 3 = pc') (hc : ifCond.holds cd x = false)
    (hr : OG p.tables e below P (T.setTop (mkF m pc' Ls rest))) : OG p.tables e below P (T.setTop (mkF m pc Ls (.int x :: rest))) := by
  subst hp
  obtain ⟨X, hx, hby, hml, hown, hZ, eT⟩ := B
  exact hr.of fun t k => XS.ifNo X.here hx rfl (hb hby hd) rfl hc k
theorem o_icY (B : Bx own bs ml Z p l e R s m args below meth c T h locs cells slots) (pc pc' : Nat) {cd : ClassFile.Cond} {o : Int} {x y : Int32} (hd : decode bs pc = .ok (.if_icmp cd o, 3))  (hc : if_icmp.holds cd x y = true) (ho : 0 ≤ (pc : Int) + o) (hp : ((pc : Int) + o).toNat = pc')
    (hr : OG p.tables e below P (T.setTop (mkF m pc' Ls rest))) : OG p.tables e below P (T.setTop (mkF m pc Ls (.int y :: .int x :: rest))) := by
  obtain ⟨X, hx, hby, hml, hown, hZ, eT⟩ := B
  exact hr.of fun t k => XS.icmpYes X.here hx rfl (pc0 := pc) (pc' := pc') rfl (hb hby hd) rfl hc ho hp k
theorem o_icN (B : Bx own bs ml Z p l e R s m args below meth c T h locs cells slots) (pc pc' : Nat) {cd : ClassFile.Cond} {o : Int} {x y : Int32} (hd : decode bs pc = .ok (.if_icmp cd o, 3)) (hp : pc + 3 = pc') (hc : if_icmp.holds cd x y = false)
    (hr : OG p.tables e below P (T.setTop (mkF m pc' Ls rest))) : OG p.tables e below P (T.setTop (mkF m pc Ls (.int y :: .int x :: rest))) := by
  subst hp
  obtain ⟨X, hx, hby, hml, hown, hZ, eT⟩ := B
  exact hr.of fun t k => XS.icmpNo X.here hx rfl (hb hby hd) rfl hc k
theorem o_dup (B : Bx own bs ml Z p l e R s m args below meth c T h locs cells slots) (pc pc' : Nat) {x : Value} (hd : decode bs pc = .ok (.dup, 1)) (hp : pc + 1 = pc') (hc : x.category = 1)
    (hr : OG p.tables e below P (T.setTop (mkF m pc' Ls (x :: x :: rest)))) : OG p.tables e below P (T.setTop (mkF m pc Ls (x :: rest))) := by
  subst hp
  obtain ⟨X, hx, hby, hml, hown, hZ, eT⟩ := B
  exact hr.of fun t k => XS.dup X.here hx rfl (hb hby hd) rfl hc k
theorem o_pop (B : Bx own bs ml Z p l e R s m args below meth c T h locs cells slots) (pc pc' : Nat) {x : Value} (hd : decode bs pc = .ok (.pop, 1)) (hp : pc + 1 = pc') (hc : x.category = 1)
    (hr : OG p.tables e below P (T.setTop (mkF m pc' Ls rest))) : OG p.tables e below P (T.setTop (mkF m pc Ls (x :: rest))) := by
  subst hp
  obtain ⟨X, hx, hby, hml, hown, hZ, eT⟩ := B
  exact hr.of fun t k => XT.pop X.here hx rfl (hb hby hd) rfl hc k
theorem o_dup_x1 (B : Bx own bs ml Z p l e R s m args below meth c T h locs cells slots) (pc pc' : Nat) {x y : Value} (hd : decode bs pc = .ok (.dup_x1, 1)) (hp : pc + 1 = pc') (hc : x.category = 1) (hc' : y.category = 1)
    (hr : OG p.tables e below P (T.setTop (mkF m pc' Ls (x :: y :: x :: rest)))) : OG p.tables e below P (T.setTop (mkF m pc Ls (x :: y :: rest))) := by
  subst hp
  obtain ⟨X, hx, hby, hml, hown, hZ, eT⟩ := B
  exact hr.of fun t k => XT.dupX1 X.here hx rfl (hb hby hd) rfl hc hc' k
theorem o_dup2 (B : Bx own bs ml Z p l e R s m args below meth c T h locs cells slots) (pc pc' : Nat) {x y : Value} (hd : decode bs pc = .ok (.dup2, 1)) (hp : pc + 1 = pc') (hc : x.category = 1) (hc' : y.category = 1)
    (hr : OG p.tables e below P (T.setTop (mkF m pc' Ls (x :: y :: x :: y :: rest)))) : OG p.tables e below P (T.setTop (mkF m pc Ls (x :: y :: rest))) := by
  subst hp
  obtain ⟨X, hx, hby, hml, hown, hZ, eT⟩ := B
  exact hr.of fun t k => XT.dup2 X.here hx rfl (hb hby hd) rfl hc hc' k
theorem o_dup2L (B : Bx own bs ml Z p l e R s m args below meth c T h locs cells slots) (pc pc' : Nat) {x : Int64} (hd : decode bs pc = .ok (.dup2, 1)) (hp : pc + 1 = pc') 
    (hr : OG p.tables e below P (T.setTop (mkF m pc' Ls (.long x :: .long x :: rest)))) : OG p.tables e below P (T.setTop (mkF m pc Ls (.long x :: rest))) := by
  subst hp
  obtain ⟨X, hx, hby, hml, hown, hZ, eT⟩ := B
  exact hr.of fun t k => XT.dup2L X.here hx rfl (hb hby hd) rfl k
theorem o_ldc (B : Bx own bs ml Z p l e R s m args below meth c T h locs cells slots) (pc pc' : Nat) {i : Nat} {v : Int32} (hd : decode bs pc = .ok (.ldc i, 2)) (hp : pc + 2 = pc') (w : (Cond.constant own i v).before a0 Z = true)
    (hr : OG p.tables e below P (T.setTop (mkF m pc' Ls (.int v :: rest)))) : OG p.tables e below P (T.setTop (mkF m pc Ls rest)) := by
  subst hp
  obtain ⟨X, hx, hby, hml, hown, hZ, eT⟩ := B
  exact hr.of fun t k => X.ldcI hx hown (mv hZ w) rfl (hb hby hd) k
theorem o_ldc_w (B : Bx own bs ml Z p l e R s m args below meth c T h locs cells slots) (pc pc' : Nat) {i : Nat} {v : Int32} (hd : decode bs pc = .ok (.ldc_w i, 3)) (hp : pc + 3 = pc') (w : (Cond.constant own i v).before a0 Z = true)
    (hr : OG p.tables e below P (T.setTop (mkF m pc' Ls (.int v :: rest)))) : OG p.tables e below P (T.setTop (mkF m pc Ls rest)) := by
  subst hp
  obtain ⟨X, hx, hby, hml, hown, hZ, eT⟩ := B
  exact hr.of fun t k => X.ldcWI hx hown (mv hZ w) rfl (hb hby hd) k
theorem o_ldc2 (B : Bx own bs ml Z p l e R s m args below meth c T h locs cells slots) (pc pc' : Nat) {i : Nat} {v : Int64} (hd : decode bs pc = .ok (.ldc2_w i, 3)) (hp : pc + 3 = pc') (w : (Cond.constantLong own i v).before a0 Z = true)
    (hr : OG p.tables e below P (T.setTop (mkF m pc' Ls (.long v :: rest)))) : OG p.tables e below P (T.setTop (mkF m pc Ls rest)) := by
  subst hp
  obtain ⟨X, hx, hby, hml, hown, hZ, eT⟩ := B
  exact hr.of fun t k => X.ldc2J hx hown (mv hZ w) rfl (hb hby hd) k
theorem o_topI {pc : Nat} {x y : Int32} (q : x = y) (hr : OG p.tables e below P (T.setTop (mkF m pc Ls (.int y :: rest)))) : OG p.tables e below P (T.setTop (mkF m pc Ls (.int x :: rest))) := q ▸ hr
theorem o_topJ {pc : Nat} {x y : Int64} (q : x = y) (hr : OG p.tables e below P (T.setTop (mkF m pc Ls (.long y :: rest)))) : OG p.tables e below P (T.setTop (mkF m pc Ls (.long x :: rest))) := q ▸ hr
theorem o_iincC (B : Bx own bs ml Z p l e R s m args below meth c T h locs cells slots) (pc pc' : Nat) {k : Nat} {cst : Int} {x : Int32} {l' : Array Slot} (v y : Int32) (hd : decode bs pc = .ok (.iinc k cst, 3)) (hp : pc + 3 = pc') (hv : Int32.ofInt cst = v) (hl : Ls[k]? = some (.val (.int x))) (hy : x + v = y) (hl' : storeLocals Ls k (.int y) = some l')
    (hr : OG p.tables e below P (T.setTop (mkF m pc' l' rest))) : OG p.tables e below P (T.setTop (mkF m pc Ls rest)) := by
  subst hp
  obtain ⟨X, hx, hby, hml, hown, hZ, eT⟩ := B
  exact hr.of fun t k => XT.iincV X.here hx rfl v (hb hby hd) hv hl (hy ▸ hl') k
theorem o_retZ {Q : Option Value → Heap → List Loc → Prop} {kc ks : Nat} (B : Bx own bs ml Z p l e R s m args below meth c T h locs cells slots) (pc : Nat) {z : Int32} {t : FieldType} (hd : decode bs pc = .ok (.ireturn, 1)) (hret : meth.sig.returnType = some t) (hlk : meth.locks = false) (ht : t = .boolean ∨ t = .byte ∨ t = .char ∨ t = .short) (hc : cells ≤ kc) (hs : slots ≤ ks) (hq : Q (some (.int (nar t z))) h locs) :
    OG p.tables e below (fun o s₂ => ∃ v L, o = .returned v ∧ Q v s₂.heap L ∧ FrameEnd s o s₂ L kc ks) (T.setTop (mkF m pc Ls (.int z :: rest))) := by
  obtain ⟨X, hx, hby, hml, hown, hZ, eT⟩ := B
  subst eT
  obtain ⟨fs, hr, hrun, hended, hW, hsame⟩ := X.leave (v := some (.int (nar t z))) (fun hn => by rw [hret] at hn; cases hn) hlk
  exact ⟨_, _, retN X hx hret ht (hb hby hd) hr, hrun, hended, _, _, rfl, hq, ⟨_, rfl⟩, hW, hsame.mono hc hs⟩
theorem o_retI0 (X : Stand p l e R s m args below meth c T locs cells slots) (hx : p.tables.exec = Jvm.exec) {pc : Nat} {z : Int32} (hret : meth.sig.returnType = some .int) (hd : decode c.code pc = .ok (.ireturn, 1)) {fs : List Frame}
    (hl : ∀ (f : JFrame) (acts : List Action), f.method = m → f.locked = none → f.entered = [] → (doReturn e (T.setTop f) acts (some (.int z))).1 = T.setFrames fs) : Steps p.tables e below (T.setTop (mkF m pc Ls (.int z :: rest))) (T.setFrames fs) :=
  retOut X hx hret rfl (Or.inl ⟨rfl, Or.inl rfl, _, rfl⟩) hd hl
theorem o_retI {Q : Option Value → Heap → List Loc → Prop} {kc ks : Nat} (B : Bx own bs ml Z p l e R s m args below meth c T h locs cells slots) (pc : Nat) {z : Int32} (hd : decode bs pc = .ok (.ireturn, 1)) (hret : meth.sig.returnType = some .int) (hlk : meth.locks = false)  (hc : cells ≤ kc) (hs : slots ≤ ks) (hq : Q (some (.int z)) h locs) :
    OG p.tables e below (fun o s₂ => ∃ v L, o = .returned v ∧ Q v s₂.heap L ∧ FrameEnd s o s₂ L kc ks) (T.setTop (mkF m pc Ls (.int z :: rest))) := by
  obtain ⟨X, hx, hby, hml, hown, hZ, eT⟩ := B
  subst eT
  obtain ⟨fs, hr, hrun, hended, hW, hsame⟩ := X.leave (v := some (.int z)) (fun hn => by rw [hret] at hn; cases hn) hlk
  exact ⟨_, _, o_retI0 X hx hret (hb hby hd) hr, hrun, hended, _, _, rfl, hq, ⟨_, rfl⟩, hW, hsame.mono hc hs⟩
theorem o_retL {Q : Option Value → Heap → List Loc → Prop} {kc ks : Nat} (B : Bx own bs ml Z p l e R s m args below meth c T h locs cells slots) (pc : Nat) {z : Int64} (hd : decode bs pc = .ok (.lreturn, 1)) (hret : meth.sig.returnType = some .long) (hlk : meth.locks = false)  (hc : cells ≤ kc) (hs : slots ≤ ks) (hq : Q (some (.long z)) h locs) :
    OG p.tables e below (fun o s₂ => ∃ v L, o = .returned v ∧ Q v s₂.heap L ∧ FrameEnd s o s₂ L kc ks) (T.setTop (mkF m pc Ls [.long z])) := by
  obtain ⟨X, hx, hby, hml, hown, hZ, eT⟩ := B
  subst eT
  obtain ⟨fs, hr, hrun, hended, hW, hsame⟩ := X.leave (v := some (.long z)) (fun hn => by rw [hret] at hn; cases hn) hlk
  exact ⟨_, _, X.lreturnOut hx hret (hb hby hd) hr, hrun, hended, _, _, rfl, hq, ⟨_, rfl⟩, hW, hsame.mono hc hs⟩
theorem o_retA {Q : Option Value → Heap → List Loc → Prop} {kc ks : Nat} (B : Bx own bs ml Z p l e R s m args below meth c T h locs cells slots) (pc : Nat) {z : Value} {t : FieldType} (hd : decode bs pc = .ok (.areturn, 1)) (hret : meth.sig.returnType = some t) (hlk : meth.locks = false) (ht : t.isReference = true) (hz : z.isRef = true) (hc : cells ≤ kc) (hs : slots ≤ ks) (hq : Q (some z) h locs) :
    OG p.tables e below (fun o s₂ => ∃ v L, o = .returned v ∧ Q v s₂.heap L ∧ FrameEnd s o s₂ L kc ks) (T.setTop (mkF m pc Ls [z])) := by
  obtain ⟨X, hx, hby, hml, hown, hZ, eT⟩ := B
  subst eT
  obtain ⟨fs, hr, hrun, hended, hW, hsame⟩ := X.leave (v := some z) (fun hn => by rw [hret] at hn; cases hn) hlk
  exact ⟨_, _, X.areturnOut hx hz hret ht (hb hby hd) hr, hrun, hended, _, _, rfl, hq, ⟨_, rfl⟩, hW, hsame.mono hc hs⟩
theorem o_retV {Q : Option Value → Heap → List Loc → Prop} {kc ks : Nat} (B : Bx own bs ml Z p l e R s m args below meth c T h locs cells slots) (pc : Nat)  (hd : decode bs pc = .ok (.return_, 1)) (hret : meth.sig.returnType = none) (hlk : meth.locks = false)  (hc : cells ≤ kc) (hs : slots ≤ ks) (hq : Q (none) h locs) :
    OG p.tables e below (fun o s₂ => ∃ v L, o = .returned v ∧ Q v s₂.heap L ∧ FrameEnd s o s₂ L kc ks) (T.setTop (mkF m pc Ls [])) := by
  obtain ⟨X, hx, hby, hml, hown, hZ, eT⟩ := B
  subst eT
  obtain ⟨fs, hr, hrun, hended, hW, hsame⟩ := X.leave (v := none) (fun _ => rfl) hlk
  exact ⟨_, _, X.returnOut hx hret (hb hby hd) hr, hrun, hended, _, _, rfl, hq, ⟨_, rfl⟩, hW, hsame.mono hc hs⟩
/-- a body's contract, out of its walk -/
theorem enter {y : MethodName} {ret : Option FieldType} {rm : Room} {ws : List Jvm.Cond} {as' : Array Value} {h0 : Heap} {Q : Option Value → Heap → List Loc → Prop} {kc ks : Nat} (hpl : plainFor y = true) (Ls : Array Slot)
    (hL : Jvm.Sym.laidSlots as'.toList ++ List.replicate (ml - (Jvm.Sym.laidSlots as'.toList).length) .unset = Ls.toList)
    (body : ∀ (p : Program) (e : Env) (s : State) (m : MethodId) (below : List Frame) (meth : Method) (c : Code) (T : State), Bx y.cls bs ml Z p l e rm s m as' below meth c T h0 [] 0 0 → meth.sig.returnType = ret → meth.locks = false → meth.name = y.name →
      OG p.tables e below (fun o s₂ => ∃ v L, o = .returned v ∧ Q v s₂.heap L ∧ FrameEnd s o s₂ L kc ks) (T.setTop (mkF m 0 Ls []))) :
    MetFree l y (head1 (Jvm.Cond.code y bs ml ret :: ws) rm) (fun a U => a = as' ∧ Z.Warmed39 U.vm ∧ U.heap = h0) (fun _ _ _ _ _ => True) (fun _ U o U' => ∃ v L, o = .returned v ∧ Q v U'.heap L ∧ FrameEnd U o U' L kc ks) := by
  refine MetFree.of_bodySF hpl hisR ?_
  intro p e s m args below meth c s₁ Bd hml0 hP hK
  obtain ⟨rfl, hZ, hh⟩ := hP
  have e0 : s₁.heap = h0 := by rw [← hh, Bd.state]; rfl
  have r := body p e s m below meth c s₁ ⟨Stand.of_body Bd, Bd.exec, Bd.bytes, hml0, findClass_of_methodNamed Bd.named, hZ, e0⟩ Bd.returns (BodyLoose.notSynchronized Bd) (name_of_methodNamed Bd.named Bd.method).1
  exact OG.of r fun t k => (XT.entry hL).trans k
/-- what a callee owes -/
abbrev Met (l : Launch) (Z : State) (y : MethodName) (bytes : ByteArray) (maxL : Nat) (ret : Option FieldType) (rm : Room) (as' : Array Value) (h : Heap) (Q : Option Value → Heap → List Loc → Prop) : Prop :=
  MetFree l y (head1 [Jvm.Cond.code y bytes maxL ret] rm) (fun a U => a = as' ∧ Z.Warmed39 U.vm ∧ U.heap = h) (fun _ _ _ _ _ => True) (fun _ U o U' => ∃ v L, o = .returned v ∧ Q v U'.heap L ∧ FrameEnd U o U' L rm.cells rm.slots)
theorem o_callS {index : Nat} {y : MethodName} {bytes : ByteArray} {maxL : Nat} {ret : Option FieldType} {rm : Room} {as' : Array Value} {Q : Option Value → Heap → List Loc → Prop} {ps : List FieldType} {rt : Option FieldType}
    (B : Bx own bs ml Z p l e R s m args below meth c T h locs cells slots) (pc pc' : Nat) (hd : decode bs pc = .ok (.invokestatic index, 3)) (hp : pc + 3 = pc')
    (w1 : (Cond.methodLink own index y).before a0 Z = true) (w2 : (Cond.static y).before a0 Z = true) (w3 : (Cond.initialized y.cls).before a0 Z = true) (w4 : (Cond.code y bytes maxL ret).before a0 Z = true) (hy : y.cls ≠ "java/lang/invoke/MethodHandle" ∧ y.cls ≠ "java/lang/invoke/VarHandle")
    (hM : Met l Z y bytes maxL ret rm as' h Q) (W : Nat) (argsL rest : List Value) (hpd : parseMethodDescriptor y.desc = some ⟨ps, rt⟩) (hlen : argsL.length = ps.length) (has : argsL.toArray = as') {st : List Value} (hst : st = argsL.reverse ++ rest) (hsz : Ls.size = ml)
    (hW : (rest.map fun v => v.category).sum ≤ W) (hf : rm.frames + 1 ≤ R.frames) (hl : W + (maxL + 11) + rm.locals ≤ R.locals) (hcl : cells + rm.cells ≤ R.cells) (hsl : slots + rm.slots ≤ R.slots) :
    ∃ v T' L, Bx own bs ml Z p l e R s m args below meth c T' T'.heap (locs ++ L) (cells + rm.cells) (slots + rm.slots) ∧ Q v T'.heap L ∧
      ∀ {P : Outcome → State → Prop}, OG p.tables e below P (T'.setTop (mkF m pc' Ls (v.toList ++ rest))) → OG p.tables e below P (T.setTop (mkF m pc Ls st)) := by
  subst hp hst
  obtain ⟨X, hx, hby, hml, hown, hZ, eT⟩ := B
  obtain ⟨v, vm1, ⟨T', L', k', n'⟩, -, X', ⟨Lc, hQ, l', y', z'⟩, st⟩ := Jvm.LawKit.callS X hx (y := y) hown (mvT hZ w1) (mvT hZ w2) (mvT hZ w3) (mvT hZ w4) hy (backOf (W := W) hM hZ w4 w3 hf hl) (g := mkF m pc Ls (argsL.reverse ++ rest)) rfl (by rw [hml]; exact hsz) (argsL := argsL) (rest := rest) (lenOf hpd hlen) rfl (by simpa using hW) (hb hby hd) (fun _ _ => ⟨has, eT, hcl, hsl⟩)
  dsimp only [Pt.U, Pt.locs, Pt.cells, Pt.slots] at X' l' y' z' st hQ
  subst l' y' z'
  exact ⟨v, T', Lc, ⟨X', hx, hby, hml, hown, hZ, rfl⟩, hQ, fun k => k.of st⟩
/-- a callee that writes and makes nothing -/
def Pu (r : Option Value) (h : Heap) (v : Option Value) (h' : Heap) (L : List Loc) : Prop := v = r ∧ L = [] ∧ h' = h
theorem o_callP {index : Nat} {y : MethodName} {bytes : ByteArray} {maxL : Nat} {ret : Option FieldType} {fr lo : Nat} {as' : Array Value} {r : Value} {ps : List FieldType} {rt : Option FieldType}
    (B : Bx own bs ml Z p l e R s m args below meth c T h locs cells slots) (pc pc' : Nat) (hd : decode bs pc = .ok (.invokestatic index, 3)) (hp : pc + 3 = pc')
    (w1 : (Cond.methodLink own index y).before a0 Z = true) (w2 : (Cond.static y).before a0 Z = true) (w3 : (Cond.initialized y.cls).before a0 Z = true) (w4 : (Cond.code y bytes maxL ret).before a0 Z = true) (hy : y.cls ≠ "java/lang/invoke/MethodHandle" ∧ y.cls ≠ "java/lang/invoke/VarHandle")
    (hM : Met l Z y bytes maxL ret ({ frames := fr, cells := 0, slots := 0, locals := lo } : Room) as' h (Pu (some r) h)) (W : Nat) (argsL rest : List Value) (hpd : parseMethodDescriptor y.desc = some ⟨ps, rt⟩) (hlen : argsL.length = ps.length) (has : argsL.toArray = as') {st : List Value} (hst : st = argsL.reverse ++ rest) (hsz : Ls.size = ml)
    (hW : (rest.map fun v => v.category).sum ≤ W) (hf : fr + 1 ≤ R.frames) (hl : W + (maxL + 11) + lo ≤ R.locals) (hcl : cells ≤ R.cells) (hsl : slots ≤ R.slots) :
    ∃ T', Bx own bs ml Z p l e R s m args below meth c T' h locs cells slots ∧
      ∀ {P : Outcome → State → Prop}, OG p.tables e below P (T'.setTop (mkF m pc' Ls (r :: rest))) → OG p.tables e below P (T.setTop (mkF m pc Ls st)) := by
  obtain ⟨v, T', L, B', ⟨rfl, rfl, hh⟩, st⟩ := o_callS B pc pc' hd hp w1 w2 w3 w4 hy hM W argsL rest hpd hlen has hst hsz hW hf hl hcl hsl
  rw [hh, List.append_nil] at B'
  exact ⟨T', B', st⟩
end Walk
theorem b_ne_t {c : Prop} [Decidable c] (h : c) : ifCond.holds .ne (if c then (1 : Int32) else 0) = true := by rw [if_pos h]; rfl
theorem b_ne_f {c : Prop} [Decidable c] (h : ¬ c) : ifCond.holds .ne (if c then (1 : Int32) else 0) = false := by rw [if_neg h]; rfl
theorem b_eq_t {c : Prop} [Decidable c] (h : ¬ c) : ifCond.holds .eq (if c then (1 : Int32) else 0) = true := by rw [if_neg h]; rfl
theorem b_eq_f {c : Prop} [Decidable c] (h : c) : ifCond.holds .eq (if c then (1 : Int32) else 0) = false := by rw [if_pos h]; rfl
/-! 2. arrays by a function of the place -/
def AI (Z : State) (h : Heap) (a : Addr) (ty : FieldType) (n : Nat) (g : Nat → Int32) : Prop := ∃ c : Cell, Arr Z h a c ty ∧ c.slots.size = n ∧ n < 2147483648 ∧ ∀ j, j < n → c.slots[j]? = some (.int (g j))
def AJ (Z : State) (h : Heap) (a : Addr) (n : Nat) (g : Nat → Int64) : Prop := ∃ c : Cell, Arr Z h a c .long ∧ c.slots.size = n ∧ n < 2147483648 ∧ ∀ j, j < n → c.slots[j]? = some (.long (g j))
section Arrays
variable {Z : State} {h h' : Heap} {a b : Addr} {ty : FieldType} {n i : Nat} {v : Value} {ws : List Addr}
theorem AI.ext {g : Nat → Int32} (A : AI Z h a ty n g) (E : Ext h h') : AI Z h' a ty n g := by obtain ⟨c, A, r⟩ := A; exact ⟨c, A.ext E, r⟩
theorem AI.other {g : Nat → Int32} (A : AI Z h a ty n g) (W : Wr h h' b i v) (q : a ≠ b) : AI Z h' a ty n g := by obtain ⟨c, A, r⟩ := A; exact ⟨c, A.other W q, r⟩
theorem AI.keep {g : Nat → Int32} (A : AI Z h a ty n g) (K : Keep h h' ws) (q : a ∉ ws) : AI Z h' a ty n g := by obtain ⟨c, A, r⟩ := A; exact ⟨c, ⟨K.2.1 a c A.1 q, A.2⟩, r⟩
theorem AI.lt {g : Nat → Int32} (A : AI Z h a ty n g) : a < h.size := by obtain ⟨c, A, r⟩ := A; exact A.lt
theorem AI.len {g : Nat → Int32} (A : AI Z h a ty n g) : n < 2147483648 := by obtain ⟨c, A, r, q, _⟩ := A; exact q
theorem AI.alt {g g' : Nat → Int32} (A : AI Z h a ty n g) (q : ∀ j, j < n → g' j = g j) : AI Z h a ty n g' := by obtain ⟨c, A, r, s, H⟩ := A; exact ⟨c, A, r, s, fun j hj => by rw [q j hj]; exact H j hj⟩
theorem AI.set {g : Nat → Int32} {x : Int32} (A : AI Z h a ty n g) (W : Wr h h' a i (.int x)) : AI Z h' a ty n (fun j => if j = i then x else g j) := by
  obtain ⟨c, A, S, hn, H⟩ := A
  refine ⟨c.setSlot i (.int x), Arr.same W A, by simp [Cell.setSlot, S], hn, fun j hj => ?_⟩
  show (c.slots.setIfInBounds i (.int x))[j]? = some (.int (if j = i then x else g j))
  by_cases e : j = i
  · subst e; rw [if_pos rfl]; simp [S, hj]
  · rw [if_neg e, Array.getElem?_setIfInBounds_ne (Ne.symm e)]; exact H j hj
theorem AJ.ext {g : Nat → Int64} (A : AJ Z h a n g) (E : Ext h h') : AJ Z h' a n g := by obtain ⟨c, A, r⟩ := A; exact ⟨c, A.ext E, r⟩
theorem AJ.other {g : Nat → Int64} (A : AJ Z h a n g) (W : Wr h h' b i v) (q : a ≠ b) : AJ Z h' a n g := by obtain ⟨c, A, r⟩ := A; exact ⟨c, A.other W q, r⟩
theorem AJ.keep {g : Nat → Int64} (A : AJ Z h a n g) (K : Keep h h' ws) (q : a ∉ ws) : AJ Z h' a n g := by obtain ⟨c, A, r⟩ := A; exact ⟨c, ⟨K.2.1 a c A.1 q, A.2⟩, r⟩
theorem AJ.lt {g : Nat → Int64} (A : AJ Z h a n g) : a < h.size := by obtain ⟨c, A, r⟩ := A; exact A.lt
theorem AJ.len {g : Nat → Int64} (A : AJ Z h a n g) : n < 2147483648 := by obtain ⟨c, A, r, q, _⟩ := A; exact q
theorem AJ.alt {g g' : Nat → Int64} (A : AJ Z h a n g) (q : ∀ j, j < n → g' j = g j) : AJ Z h a n g' := by obtain ⟨c, A, r, s, H⟩ := A; exact ⟨c, A, r, s, fun j hj => by rw [q j hj]; exact H j hj⟩
theorem AJ.set {g : Nat → Int64} {x : Int64} (A : AJ Z h a n g) (W : Wr h h' a i (.long x)) : AJ Z h' a n (fun j => if j = i then x else g j) := by
  obtain ⟨c, A, S, hn, H⟩ := A
  refine ⟨c.setSlot i (.long x), Arr.same W A, by simp [Cell.setSlot, S], hn, fun j hj => ?_⟩
  show (c.slots.setIfInBounds i (.long x))[j]? = some (.long (if j = i then x else g j))
  by_cases e : j = i
  · subst e; rw [if_pos rfl]; simp [S, hj]
  · rw [if_neg e, Array.getElem?_setIfInBounds_ne (Ne.symm e)]; exact H j hj
theorem in_of {c : Cell} {j : Int32} (S : c.slots.size = n) (h0 : ¬ j < 0) (hj : j.toNatClampNeg = i) (hi : i < n) : ¬ (j < 0 ∨ c.slots.size ≤ j.toNatClampNeg) := by rw [S, hj]; rintro (q | q); exact h0 q; omega
end Arrays
theorem ix_of {j : Int32} {k : Nat} (h : j.toInt = k) : ¬ j < 0 ∧ j.toNatClampNeg = k := by
  rw [Int32.lt_iff_toInt_lt, Int32.toInt_zero]
  simp only [Int32.toNatClampNeg, h]
  omega
theorem ix_add {j : Int32} {k : Nat} (c : Int32) (n : Nat) (h : j.toInt = k) (hc : c.toInt = n) (hk : k + n < 2147483648) : (j + c).toInt = (k + n : Nat) := by
  have a := c_iadd j c
  have r := rng32 (j + c)
  omega
theorem nar_bb (x : Int32) : nar .byte x.toInt8.toInt32 = x.toInt8.toInt32 := by simp [nar]
theorem nar_cc (x : Int32) : nar .char x.toUInt32.toUInt16.toUInt32.toInt32 = x.toUInt32.toUInt16.toUInt32.toInt32 := by simp only [nar, UInt32.toUInt32_toInt32, UInt16.toUInt16_toUInt32]
def Lw (n0 : Nat) (r : Option Value) (v : Option Value) (h : Heap) (L : List Loc) : Prop := v = r ∧ Fr n0 L
section Walk2
variable {own : String} {bs : ByteArray} {ml : Nat} {Z : State} {p : Program} {l : Launch} {e : Env} {R : Room} {s : State} {m : MethodId} {args : Array Value} {below : List Frame} {meth : Method} {c : Code} {T : State} {h : Heap} {locs : List Loc} {cells slots n0 : Nat} {P : Outcome → State → Prop} {Ls : Array Slot} {rest : List Value} {a0 : Array Value} {a : Addr} {n : Nat}
theorem o_iaload (B : Bx own bs ml Z p l e R s m args below meth c T h locs cells slots) (pc pc' : Nat) {g : Nat → Int32} (A : AI Z h a .int n g) {j : Int32} (i : Nat) (v : Int32) (hd : decode bs pc = .ok (.iaload, 1)) (hp : pc + 1 = pc') (h0 : ¬ j < 0) (hj : j.toNatClampNeg = i) (hi : i < n) (hv : g i = v)
    (hr : OG p.tables e below P (T.setTop (mkF m pc' Ls (.int v :: rest)))) : OG p.tables e below P (T.setTop (mkF m pc Ls (.int j :: .ref a :: rest))) := by
  subst hp hv
  obtain ⟨X, hx, hby, hml, hown, hZ, eT⟩ := B
  obtain ⟨cl, A, S, hn, H⟩ := A
  exact hr.of fun t k => X.iaload hx (by rw [eT]; exact A.1) (State.isArrayOf_alike hZ.alike A.2.1) A.2.2 (in_of S h0 hj hi) (by rw [hj]; exact H i hi) (g := mkF m pc Ls (.int j :: .ref a :: rest)) rfl rfl (hb hby hd) t k
theorem o_caload (B : Bx own bs ml Z p l e R s m args below meth c T h locs cells slots) (pc pc' : Nat) {g : Nat → Int32} (A : AI Z h a .char n g) {j : Int32} (i : Nat) (v : Int32) (hd : decode bs pc = .ok (.caload, 1)) (hp : pc + 1 = pc') (h0 : ¬ j < 0) (hj : j.toNatClampNeg = i) (hi : i < n) (hv : g i = v)
    (hr : OG p.tables e below P (T.setTop (mkF m pc' Ls (.int v :: rest)))) : OG p.tables e below P (T.setTop (mkF m pc Ls (.int j :: .ref a :: rest))) := by
  subst hp hv
  obtain ⟨X, hx, hby, hml, hown, hZ, eT⟩ := B
  obtain ⟨cl, A, S, hn, H⟩ := A
  exact hr.of fun t k => X.caload hx (by rw [eT]; exact A.1) (State.isArrayOf_alike hZ.alike A.2.1) A.2.2 (in_of S h0 hj hi) (by rw [hj]; exact H i hi) (g := mkF m pc Ls (.int j :: .ref a :: rest)) rfl rfl (hb hby hd) t k
theorem o_baload (B : Bx own bs ml Z p l e R s m args below meth c T h locs cells slots) (pc pc' : Nat) {g : Nat → Int32} (A : AI Z h a .byte n g) {j : Int32} (i : Nat) (v : Int32) (hd : decode bs pc = .ok (.baload, 1)) (hp : pc + 1 = pc') (h0 : ¬ j < 0) (hj : j.toNatClampNeg = i) (hi : i < n) (hv : g i = v)
    (hr : OG p.tables e below P (T.setTop (mkF m pc' Ls (.int v :: rest)))) : OG p.tables e below P (T.setTop (mkF m pc Ls (.int j :: .ref a :: rest))) := by
  subst hp hv
  obtain ⟨X, hx, hby, hml, hown, hZ, eT⟩ := B
  obtain ⟨cl, A, S, hn, H⟩ := A
  exact hr.of fun t k => X.baloadBytes hx (by rw [eT]; exact A.1) (State.isArrayOf_alike hZ.alike A.2.1) A.2.2 (in_of S h0 hj hi) (by rw [hj]; exact H i hi) (g := mkF m pc Ls (.int j :: .ref a :: rest)) rfl rfl (hb hby hd) t k
theorem o_zaload (B : Bx own bs ml Z p l e R s m args below meth c T h locs cells slots) (pc pc' : Nat) {g : Nat → Int32} (A : AI Z h a .boolean n g) {j : Int32} (i : Nat) (v : Int32) (hd : decode bs pc = .ok (.baload, 1)) (hp : pc + 1 = pc') (h0 : ¬ j < 0) (hj : j.toNatClampNeg = i) (hi : i < n) (hv : g i = v)
    (hr : OG p.tables e below P (T.setTop (mkF m pc' Ls (.int v :: rest)))) : OG p.tables e below P (T.setTop (mkF m pc Ls (.int j :: .ref a :: rest))) := by
  subst hp hv
  obtain ⟨X, hx, hby, hml, hown, hZ, eT⟩ := B
  obtain ⟨cl, A, S, hn, H⟩ := A
  exact hr.of fun t k => X.baloadBooleans hx (by rw [eT]; exact A.1) (State.isArrayOf_alike hZ.alike A.2.1) A.2.2 (in_of S h0 hj hi) (by rw [hj]; exact H i hi) (g := mkF m pc Ls (.int j :: .ref a :: rest)) rfl rfl (hb hby hd) t k
theorem o_laload (B : Bx own bs ml Z p l e R s m args below meth c T h locs cells slots) (pc pc' : Nat) {g : Nat → Int64} (A : AJ Z h a n g) {j : Int32} (i : Nat) (v : Int64) (hd : decode bs pc = .ok (.laload, 1)) (hp : pc + 1 = pc') (h0 : ¬ j < 0) (hj : j.toNatClampNeg = i) (hi : i < n) (hv : g i = v)
    (hr : OG p.tables e below P (T.setTop (mkF m pc' Ls (.long v :: rest)))) : OG p.tables e below P (T.setTop (mkF m pc Ls (.int j :: .ref a :: rest))) := by
  subst hp hv
  obtain ⟨X, hx, hby, hml, hown, hZ, eT⟩ := B
  obtain ⟨cl, A, S, hn, H⟩ := A
  exact hr.of fun t k => X.laload hx (by rw [eT]; exact A.1) (State.isArrayOf_alike hZ.alike A.2.1) A.2.2 (in_of S h0 hj hi) (by rw [hj]; exact H i hi) (g := mkF m pc Ls (.int j :: .ref a :: rest)) rfl rfl (hb hby hd) t k
theorem o_alenI (B : Bx own bs ml Z p l e R s m args below meth c T h locs cells slots) (pc pc' : Nat) {ty : FieldType} {g : Nat → Int32} (A : AI Z h a ty n g) (v : Int32) (hd : decode bs pc = .ok (.arraylength, 1)) (hp : pc + 1 = pc') (hv : n.toInt32 = v)
    (hr : OG p.tables e below P (T.setTop (mkF m pc' Ls (.int v :: rest)))) : OG p.tables e below P (T.setTop (mkF m pc Ls (.ref a :: rest))) := by
  subst hp hv
  obtain ⟨X, hx, hby, hml, hown, hZ, eT⟩ := B
  obtain ⟨cl, A, S, hn, H⟩ := A
  exact hr.of fun t k => X.arraylength hx (by rw [eT]; exact A.1) (State.isArrayOf_alike hZ.alike A.2.1) (g := mkF m pc Ls (.ref a :: rest)) rfl rfl (hb hby hd) t (by rw [S]; exact k)
theorem o_alenJ (B : Bx own bs ml Z p l e R s m args below meth c T h locs cells slots) (pc pc' : Nat) {g : Nat → Int64} (A : AJ Z h a n g) (v : Int32) (hd : decode bs pc = .ok (.arraylength, 1)) (hp : pc + 1 = pc') (hv : n.toInt32 = v)
    (hr : OG p.tables e below P (T.setTop (mkF m pc' Ls (.int v :: rest)))) : OG p.tables e below P (T.setTop (mkF m pc Ls (.ref a :: rest))) := by
  subst hp hv
  obtain ⟨X, hx, hby, hml, hown, hZ, eT⟩ := B
  obtain ⟨cl, A, S, hn, H⟩ := A
  exact hr.of fun t k => X.arraylength hx (by rw [eT]; exact A.1) (State.isArrayOf_alike hZ.alike A.2.1) (g := mkF m pc Ls (.ref a :: rest)) rfl rfl (hb hby hd) t (by rw [S]; exact k)
theorem o_iastore (B : Bx own bs ml Z p l e R s m args below meth c T h locs cells slots) (N : Fr n0 locs) (ge : n0 ≤ a) (pc pc' : Nat) {g : Nat → Int32} (A : AI Z h a .int n g) {j : Int32} {x : Int32} (i : Nat) (y : Int32) (hd : decode bs pc = .ok (.iastore, 1)) (hp : pc + 1 = pc') (h0 : ¬ j < 0) (hj : j.toNatClampNeg = i) (hi : i < n) (hy : x = y) :
    ∃ T' h' L', Bx own bs ml Z p l e R s m args below meth c T' h' L' cells slots ∧ Fr n0 L' ∧ Wr h h' a i (.int y) ∧ AI Z h' a .int n (fun j => if j = i then y else g j) ∧ ∀ {P : Outcome → State → Prop}, OG p.tables e below P (T'.setTop (mkF m pc' Ls rest)) → OG p.tables e below P (T.setTop (mkF m pc Ls (.int x :: .int j :: .ref a :: rest))) := by
  subst hp hj hy
  obtain ⟨X, hx, hby, hml, hown, hZ, eT⟩ := B
  have A' := A
  obtain ⟨cl, A, S, hn, H⟩ := A
  obtain ⟨T', h', X', e', W, st⟩ := stI X hx hZ eT A (in_of S h0 rfl hi) (g := mkF m pc Ls (.int x :: .int j :: .ref a :: rest)) rfl rfl (hb hby hd)
  exact ⟨T', h', _, ⟨X', hx, hby, hml, hown, hZ, e'⟩, Fr.snoc X' N ge, W, A'.set W, fun k => k.of st⟩
theorem o_castore (B : Bx own bs ml Z p l e R s m args below meth c T h locs cells slots) (N : Fr n0 locs) (ge : n0 ≤ a) (pc pc' : Nat) {g : Nat → Int32} (A : AI Z h a .char n g) {j : Int32} {x : Int32} (i : Nat) (y : Int32) (hd : decode bs pc = .ok (.castore, 1)) (hp : pc + 1 = pc') (h0 : ¬ j < 0) (hj : j.toNatClampNeg = i) (hi : i < n) (hy : nar .char x = y) :
    ∃ T' h' L', Bx own bs ml Z p l e R s m args below meth c T' h' L' cells slots ∧ Fr n0 L' ∧ Wr h h' a i (.int y) ∧ AI Z h' a .char n (fun j => if j = i then y else g j) ∧ ∀ {P : Outcome → State → Prop}, OG p.tables e below P (T'.setTop (mkF m pc' Ls rest)) → OG p.tables e below P (T.setTop (mkF m pc Ls (.int x :: .int j :: .ref a :: rest))) := by
  subst hp hj hy
  obtain ⟨X, hx, hby, hml, hown, hZ, eT⟩ := B
  have A' := A
  obtain ⟨cl, A, S, hn, H⟩ := A
  obtain ⟨T', h', X', e', W, st⟩ := stC X hx hZ eT A (in_of S h0 rfl hi) (g := mkF m pc Ls (.int x :: .int j :: .ref a :: rest)) rfl rfl (hb hby hd)
  exact ⟨T', h', _, ⟨X', hx, hby, hml, hown, hZ, e'⟩, Fr.snoc X' N ge, W, A'.set W, fun k => k.of st⟩
theorem o_bastore (B : Bx own bs ml Z p l e R s m args below meth c T h locs cells slots) (N : Fr n0 locs) (ge : n0 ≤ a) (pc pc' : Nat) {g : Nat → Int32} (A : AI Z h a .byte n g) {j : Int32} {x : Int32} (i : Nat) (y : Int32) (hd : decode bs pc = .ok (.bastore, 1)) (hp : pc + 1 = pc') (h0 : ¬ j < 0) (hj : j.toNatClampNeg = i) (hi : i < n) (hy : nar .byte x = y) :
    ∃ T' h' L', Bx own bs ml Z p l e R s m args below meth c T' h' L' cells slots ∧ Fr n0 L' ∧ Wr h h' a i (.int y) ∧ AI Z h' a .byte n (fun j => if j = i then y else g j) ∧ ∀ {P : Outcome → State → Prop}, OG p.tables e below P (T'.setTop (mkF m pc' Ls rest)) → OG p.tables e below P (T.setTop (mkF m pc Ls (.int x :: .int j :: .ref a :: rest))) := by
  subst hp hj hy
  obtain ⟨X, hx, hby, hml, hown, hZ, eT⟩ := B
  have A' := A
  obtain ⟨cl, A, S, hn, H⟩ := A
  obtain ⟨T', h', X', e', W, st⟩ := stB X hx hZ eT A (in_of S h0 rfl hi) (g := mkF m pc Ls (.int x :: .int j :: .ref a :: rest)) rfl rfl (hb hby hd)
  exact ⟨T', h', _, ⟨X', hx, hby, hml, hown, hZ, e'⟩, Fr.snoc X' N ge, W, A'.set W, fun k => k.of st⟩
theorem o_zastore (B : Bx own bs ml Z p l e R s m args below meth c T h locs cells slots) (N : Fr n0 locs) (ge : n0 ≤ a) (pc pc' : Nat) {g : Nat → Int32} (A : AI Z h a .boolean n g) {j : Int32} {x : Int32} (i : Nat) (y : Int32) (hd : decode bs pc = .ok (.bastore, 1)) (hp : pc + 1 = pc') (h0 : ¬ j < 0) (hj : j.toNatClampNeg = i) (hi : i < n) (hy : nar .boolean x = y) :
    ∃ T' h' L', Bx own bs ml Z p l e R s m args below meth c T' h' L' cells slots ∧ Fr n0 L' ∧ Wr h h' a i (.int y) ∧ AI Z h' a .boolean n (fun j => if j = i then y else g j) ∧ ∀ {P : Outcome → State → Prop}, OG p.tables e below P (T'.setTop (mkF m pc' Ls rest)) → OG p.tables e below P (T.setTop (mkF m pc Ls (.int x :: .int j :: .ref a :: rest))) := by
  subst hp hj hy
  obtain ⟨X, hx, hby, hml, hown, hZ, eT⟩ := B
  have A' := A
  obtain ⟨cl, A, S, hn, H⟩ := A
  obtain ⟨T', h', X', e', W, st⟩ := stZ X hx hZ eT A (in_of S h0 rfl hi) (g := mkF m pc Ls (.int x :: .int j :: .ref a :: rest)) rfl rfl (hb hby hd)
  exact ⟨T', h', _, ⟨X', hx, hby, hml, hown, hZ, e'⟩, Fr.snoc X' N ge, W, A'.set W, fun k => k.of st⟩
theorem o_lastore (B : Bx own bs ml Z p l e R s m args below meth c T h locs cells slots) (N : Fr n0 locs) (ge : n0 ≤ a) (pc pc' : Nat) {g : Nat → Int64} (A : AJ Z h a n g) {j : Int32} {x : Int64} (i : Nat) (y : Int64) (hd : decode bs pc = .ok (.lastore, 1)) (hp : pc + 1 = pc') (h0 : ¬ j < 0) (hj : j.toNatClampNeg = i) (hi : i < n) (hy : x = y) :
    ∃ T' h' L', Bx own bs ml Z p l e R s m args below meth c T' h' L' cells slots ∧ Fr n0 L' ∧ Wr h h' a i (.long y) ∧ AJ Z h' a n (fun j => if j = i then y else g j) ∧ ∀ {P : Outcome → State → Prop}, OG p.tables e below P (T'.setTop (mkF m pc' Ls rest)) → OG p.tables e below P (T.setTop (mkF m pc Ls (.long x :: .int j :: .ref a :: rest))) := by
  subst hp hj hy
  obtain ⟨X, hx, hby, hml, hown, hZ, eT⟩ := B
  have A' := A
  obtain ⟨cl, A, S, hn, H⟩ := A
  obtain ⟨T', h', X', e', W, st⟩ := stJ X hx hZ eT A (in_of S h0 rfl hi) (g := mkF m pc Ls (.long x :: .int j :: .ref a :: rest)) rfl rfl (hb hby hd)
  exact ⟨T', h', _, ⟨X', hx, hby, hml, hown, hZ, e'⟩, Fr.snoc X' N ge, W, A'.set W, fun k => k.of st⟩
theorem o_newI (B : Bx own bs ml Z p l e R s m args below meth c T h locs cells slots) (pc pc' : Nat) {aty : ArrayType} {ty : FieldType} {z : Int32} (k cap : Nat) (w : (Cond.arrayClass (newarray.typeOf aty)).before a0 Z = true) (hd : decode bs pc = .ok (.newarray aty, 2)) (hp : pc + 2 = pc') (hty : newarray.typeOf aty = ty) (hdv : defaultValue ty = .int 0) (hz : ¬ z < 0) (hk : z.toNatClampNeg = k) (hcap : k ≤ cap) (hb8 : cap * 8 ≤ 536870912) (hc : cells + 1 ≤ R.cells) (hl : slots + cap ≤ R.slots) :
    ∃ a T' h', a = h.size ∧ Bx own bs ml Z p l e R s m args below meth c T' h' locs (cells + 1) (slots + cap) ∧ Ext h h' ∧ AI Z h' a ty k (fun _ => 0) ∧ ∀ {P : Outcome → State → Prop}, OG p.tables e below P (T'.setTop (mkF m pc' Ls (.ref a :: rest))) → OG p.tables e below P (T.setTop (mkF m pc Ls (.int z :: rest))) := by
  subst hp hk
  obtain ⟨X, hx, hby, hml, hown, hZ, eT⟩ := B
  obtain ⟨T', h', cA, X', e', E, A, st⟩ := newP X hx hZ w eT (g := mkF m pc Ls (.int z :: rest)) rfl (hb hby hd) rfl hz (cap := cap) hcap hb8 hc hl
  rw [hty] at A
  refine ⟨h.size, T', h', rfl, ⟨X', hx, hby, hml, hown, hZ, e'⟩, E, ⟨_, A, sz_new _ _ _, (back32 hz).2, fun j hj => ?_⟩, fun k => k.of st⟩
  simp [newA, hj, hdv]
theorem o_newJ (B : Bx own bs ml Z p l e R s m args below meth c T h locs cells slots) (pc pc' : Nat) {aty : ArrayType} {z : Int32} (k cap : Nat) (w : (Cond.arrayClass (newarray.typeOf aty)).before a0 Z = true) (hd : decode bs pc = .ok (.newarray aty, 2)) (hp : pc + 2 = pc') (hty : newarray.typeOf aty = .long) (hz : ¬ z < 0) (hk : z.toNatClampNeg = k) (hcap : k ≤ cap) (hb8 : cap * 8 ≤ 536870912) (hc : cells + 1 ≤ R.cells) (hl : slots + cap ≤ R.slots) :
    ∃ a T' h', a = h.size ∧ Bx own bs ml Z p l e R s m args below meth c T' h' locs (cells + 1) (slots + cap) ∧ Ext h h' ∧ AJ Z h' a k (fun _ => 0) ∧ ∀ {P : Outcome → State → Prop}, OG p.tables e below P (T'.setTop (mkF m pc' Ls (.ref a :: rest))) → OG p.tables e below P (T.setTop (mkF m pc Ls (.int z :: rest))) := by
  subst hp hk
  obtain ⟨X, hx, hby, hml, hown, hZ, eT⟩ := B
  obtain ⟨T', h', cA, X', e', E, A, st⟩ := newP X hx hZ w eT (g := mkF m pc Ls (.int z :: rest)) rfl (hb hby hd) rfl hz (cap := cap) hcap hb8 hc hl
  rw [hty] at A
  refine ⟨h.size, T', h', rfl, ⟨X', hx, hby, hml, hown, hZ, e'⟩, E, ⟨_, A, sz_new _ _ _, (back32 hz).2, fun j hj => ?_⟩, fun k => k.of st⟩
  simp [newA, hj, defaultValue]
theorem o_getfield (B : Bx own bs ml Z p l e R s m args below meth c T h locs cells slots) {R0 O f d host : String} {index : Nat} {v : Value} (pc pc' : Nat) (hd : decode bs pc = .ok (.getfield index, 3)) (hp : pc + 3 = pc') (w : (Cond.fieldLink own index R0 f d).before a0 Z = true ∨ (Cond.fieldLinkNest own index R0 f d host).before a0 Z = true) (via : Via Z R0 O f d) (F : Fld Z h a O f d v) :
    ∃ T', Bx own bs ml Z p l e R s m args below meth c T' h locs cells slots ∧ ∀ {P : Outcome → State → Prop}, OG p.tables e below P (T'.setTop (mkF m pc' Ls (v :: rest))) → OG p.tables e below P (T.setTop (mkF m pc Ls (.ref a :: rest))) := by
  subst hp
  obtain ⟨X, hx, hby, hml, hown, hZ, eT⟩ := B
  obtain ⟨T', X', e', st⟩ := getF X hx hZ hown w via eT F (g := mkF m pc Ls (.ref a :: rest)) rfl rfl (hb hby hd)
  exact ⟨T', ⟨X', hx, hby, hml, hown, hZ, e'⟩, fun k => k.of st⟩
theorem o_putfield (B : Bx own bs ml Z p l e R s m args below meth c T h locs cells slots) (N : Fr n0 locs) (ge : n0 ≤ a) {R0 O f d host C : String} {index kk : Nat} {v old : Value} {ty : FieldType} (pc pc' : Nat) (hd : decode bs pc = .ok (.putfield index, 3)) (hp : pc + 3 = pc') (w : (Cond.fieldLink own index R0 f d).before a0 Z = true ∨ (Cond.fieldLinkNest own index R0 f d host).before a0 Z = true) (via : Via Z R0 O f d) (F : Fld Z h a O f d old) (E : Exa Z h a C) (L : (Cond.lays C O f d).before a0 Z = true ∨ ((Cond.laysFinal C O f d).before a0 Z = true ∧ own = O ∧ meth.name = "<init>")) (wi : (Cond.instantiable C kk).before a0 Z = true) (hty : parseFieldDescriptor d = some ty) (hn : narrow ty v = v) (hf : fits ty v = true) :
    ∃ T' h' L', Bx own bs ml Z p l e R s m args below meth c T' h' L' cells slots ∧ Fr n0 L' ∧ Wr h h' a (Jvm.RoadKit.slotOf Z O f d) v ∧ ∀ {P : Outcome → State → Prop}, OG p.tables e below P (T'.setTop (mkF m pc' Ls rest)) → OG p.tables e below P (T.setTop (mkF m pc Ls (v :: .ref a :: rest))) := by
  subst hp
  obtain ⟨X, hx, hby, hml, hown, hZ, eT⟩ := B
  obtain ⟨T', h', X', e', W, st⟩ := putF X hx hZ hown w via eT F E L wi hty hn hf (g := mkF m pc Ls (v :: .ref a :: rest)) rfl rfl (hb hby hd)
  exact ⟨T', h', _, ⟨X', hx, hby, hml, hown, hZ, e'⟩, Fr.snoc X' N ge, W, fun k => k.of st⟩
theorem o_new (B : Bx own bs ml Z p l e R s m args below meth c T h locs cells slots) {C : String} {index : Nat} (pc pc' : Nat) (hd : decode bs pc = .ok (.new index, 3)) (hp : pc + 3 = pc') (w : (Cond.classLink own index C).before a0 Z = true) (wi : (Cond.instantiable C n).before a0 Z = true) (wz : (Cond.initialized C).before a0 Z = true) (hc : cells + 1 ≤ R.cells) (hl : slots + n ≤ R.slots) :
    ∃ a T' h', a = h.size ∧ Bx own bs ml Z p l e R s m args below meth c T' h' locs (cells + 1) (slots + n) ∧ Ext h h' ∧ Exa Z h' a C ∧ (∀ {O nm d : String} {ty : FieldType}, Laid Z a0 C O nm d → parseFieldDescriptor d = some ty → Fld Z h' a O nm d (defaultValue ty)) ∧ ∀ {P : Outcome → State → Prop}, OG p.tables e below P (T'.setTop (mkF m pc' Ls (.ref a :: rest))) → OG p.tables e below P (T.setTop (mkF m pc Ls rest)) := by
  subst hp
  obtain ⟨X, hx, hby, hml, hown, hZ, eT⟩ := B
  obtain ⟨T', h', X', e', E, A, D, -, st⟩ := newO X hx hZ hown w wi wz eT (g := mkF m pc Ls rest) rfl (hb hby hd) hc hl
  exact ⟨h.size, T', h', rfl, ⟨X', hx, hby, hml, hown, hZ, e'⟩, E, A, D, fun k => k.of st⟩
theorem o_initO (B : Bx own bs ml Z p l e R s m args below meth c T h locs cells slots) {index : Nat} (pc pc' : Nat) (hd : decode bs pc = .ok (.invokespecial index, 3)) (hp : pc + 3 = pc') (w1 : (Cond.methodLink own index Lib.objectInit).before a0 Z = true) (w2 : (Cond.instanceMethod Lib.objectInit).before a0 Z = true) (w3 : (Cond.code Lib.objectInit ⟨#[0xb1]⟩ 1 none).before a0 Z = true) (hsz : Ls.size = ml) (W : Nat) (hW : (rest.map fun v => v.category).sum ≤ W) (hf : 1 ≤ R.frames) (hl : W + 12 ≤ R.locals) :
    ∃ T', Bx own bs ml Z p l e R s m args below meth c T' h locs cells slots ∧ ∀ {P : Outcome → State → Prop}, OG p.tables e below P (T'.setTop (mkF m pc' Ls rest)) → OG p.tables e below P (T.setTop (mkF m pc Ls (.ref a :: rest))) := by
  subst hp
  obtain ⟨X, hx, hby, hml, hown, hZ, eT⟩ := B
  obtain ⟨T', X', e', st⟩ := initO X hx hZ hown w1 w2 w3 eT (g := mkF m pc Ls (.ref a :: rest)) rfl (by rw [hml]; exact hsz) rfl (hb hby hd) hf (W := W) (by simpa using hW) hl
  exact ⟨T', ⟨X', hx, hby, hml, hown, hZ, e'⟩, fun k => k.of st⟩
theorem o_callN {index : Nat} {y : MethodName} {bytes : ByteArray} {maxL : Nat} {rm : Room} {as' : Array Value} {Q : Option Value → Heap → List Loc → Prop} {ps : List FieldType} {rt : Option FieldType}
    (B : Bx own bs ml Z p l e R s m args below meth c T h locs cells slots) (pc pc' : Nat) (hd : decode bs pc = .ok (.invokespecial index, 3)) (hp : pc + 3 = pc') (hy1 : y.name = "<init>")
    (w1 : (Cond.methodLink own index y).before a0 Z = true) (w2 : (Cond.instanceMethod y).before a0 Z = true) (w3 : (Cond.initialized y.cls).before a0 Z = true) (w4 : (Cond.code y bytes maxL none).before a0 Z = true) (hy : y.cls ≠ "java/lang/invoke/MethodHandle" ∧ y.cls ≠ "java/lang/invoke/VarHandle")
    (hM : Met l Z y bytes maxL none rm as' h Q) (W : Nat) (argsL rest : List Value) (hpd : parseMethodDescriptor y.desc = some ⟨ps, rt⟩) (hlen : argsL.length = ps.length) (has : (.ref a :: argsL).toArray = as') {st : List Value} (hst : st = argsL.reverse ++ .ref a :: rest) (hsz : Ls.size = ml)
    (hW : (rest.map fun v => v.category).sum ≤ W) (hf : rm.frames + 1 ≤ R.frames) (hl : W + (maxL + 11) + rm.locals ≤ R.locals) (hcl : cells + rm.cells ≤ R.cells) (hsl : slots + rm.slots ≤ R.slots) :
    ∃ v T' L, Bx own bs ml Z p l e R s m args below meth c T' T'.heap (locs ++ L) (cells + rm.cells) (slots + rm.slots) ∧ Q v T'.heap L ∧
      ∀ {P : Outcome → State → Prop}, OG p.tables e below P (T'.setTop (mkF m pc' Ls (v.toList ++ rest))) → OG p.tables e below P (T.setTop (mkF m pc Ls st)) := by
  subst hp hst
  obtain ⟨X, hx, hby, hml, hown, hZ, eT⟩ := B
  obtain ⟨v, vm1, ⟨T', L', k', n'⟩, -, X', ⟨Lc, hQ, l', y', z'⟩, st⟩ := X.specialBack hx (y := y) hy1 hown (mvT hZ w1) (mvT hZ w2) (mvT hZ w4) hy (backOf (W := W) hM hZ w4 w3 hf hl) (g := mkF m pc Ls (argsL.reverse ++ .ref a :: rest)) rfl (by rw [hml]; exact hsz) (Steps.refl _) (a := a) (argsL := argsL) (rest := rest) (lenOf hpd hlen) rfl (by simpa using hW) (hb hby hd) (fun _ _ => ⟨has, eT, hcl, hsl⟩)
  dsimp only [Pt.U, Pt.locs, Pt.cells, Pt.slots] at X' l' y' z' st hQ
  subst l' y' z'
  exact ⟨v, T', Lc, ⟨X', hx, hby, hml, hown, hZ, rfl⟩, hQ, fun k => k.of fun t q => st.trans q⟩
theorem o_callV {index : Nat} {y : MethodName} {C : String} {bytes : ByteArray} {maxL : Nat} {ret : Option FieldType} {rm : Room} {as' : Array Value} {Q : Option Value → Heap → List Loc → Prop} {ps : List FieldType} {rt : Option FieldType}
    (B : Bx own bs ml Z p l e R s m args below meth c T h locs cells slots) (pc pc' : Nat) (hd : decode bs pc = .ok (.invokevirtual index, 3)) (hp : pc + 3 = pc')
    (w1 : (Cond.methodLink own index y).before a0 Z = true) (w2 : (Cond.declares y).before a0 Z = true) (w5 : (Cond.selects C y y).before a0 Z = true) (w6 : (Cond.instanceMethod y).before a0 Z = true) (w3 : (Cond.initialized y.cls).before a0 Z = true) (w4 : (Cond.code y bytes maxL ret).before a0 Z = true) (hy : y.cls ≠ "java/lang/invoke/MethodHandle" ∧ y.cls ≠ "java/lang/invoke/VarHandle") (E : Exa Z h a C)
    (hM : Met l Z y bytes maxL ret rm as' h Q) (W : Nat) (argsL rest : List Value) (hpd : parseMethodDescriptor y.desc = some ⟨ps, rt⟩) (hlen : argsL.length = ps.length) (has : (.ref a :: argsL).toArray = as') {st : List Value} (hst : st = argsL.reverse ++ .ref a :: rest) (hsz : Ls.size = ml)
    (hW : (rest.map fun v => v.category).sum ≤ W) (hf : rm.frames + 1 ≤ R.frames) (hl : W + (maxL + 11) + rm.locals ≤ R.locals) (hcl : cells + rm.cells ≤ R.cells) (hsl : slots + rm.slots ≤ R.slots) :
    ∃ v T' L, Bx own bs ml Z p l e R s m args below meth c T' T'.heap (locs ++ L) (cells + rm.cells) (slots + rm.slots) ∧ Q v T'.heap L ∧
      ∀ {P : Outcome → State → Prop}, OG p.tables e below P (T'.setTop (mkF m pc' Ls (v.toList ++ rest))) → OG p.tables e below P (T.setTop (mkF m pc Ls st)) := by
  subst hp hst
  obtain ⟨X, hx, hby, hml, hown, hZ, eT⟩ := B
  obtain ⟨cq, kq, qa, qb, qc⟩ := isOf hZ eT E
  obtain ⟨v, vm1, ⟨T', L', k', n'⟩, -, X', ⟨Lc, hQ, l', y', z'⟩, st⟩ := X.virtualBack hx (y := y) (z := y) hown (mvT hZ w1) (mvT hZ w2) (notFace_of_selects (args := #[]) (mvT hZ w5)) (mvT hZ w5) (mvT hZ w6) hy (backOf (W := W) hM hZ w4 w3 hf hl) qa qc (g := mkF m pc Ls (argsL.reverse ++ .ref a :: rest)) rfl (by rw [hml]; exact hsz) (Steps.refl _) (argsL := argsL) (rest := rest) (lenOf hpd hlen) rfl (by simpa using hW) (hb hby hd) (fun _ _ => ⟨has, eT, hcl, hsl⟩)
  dsimp only [Pt.U, Pt.locs, Pt.cells, Pt.slots] at X' l' y' z' st hQ
  subst l' y' z'
  exact ⟨v, T', Lc, ⟨X', hx, hby, hml, hown, hZ, rfl⟩, hQ, fun k => k.of fun t q => st.trans q⟩
theorem o_callVP {index : Nat} {y : MethodName} {C : String} {bytes : ByteArray} {maxL : Nat} {ret : Option FieldType} {fr lo : Nat} {as' : Array Value} {r : Value} {ps : List FieldType} {rt : Option FieldType}
    (B : Bx own bs ml Z p l e R s m args below meth c T h locs cells slots) (pc pc' : Nat) (hd : decode bs pc = .ok (.invokevirtual index, 3)) (hp : pc + 3 = pc')
    (w1 : (Cond.methodLink own index y).before a0 Z = true) (w2 : (Cond.declares y).before a0 Z = true) (w5 : (Cond.selects C y y).before a0 Z = true) (w6 : (Cond.instanceMethod y).before a0 Z = true) (w3 : (Cond.initialized y.cls).before a0 Z = true) (w4 : (Cond.code y bytes maxL ret).before a0 Z = true) (hy : y.cls ≠ "java/lang/invoke/MethodHandle" ∧ y.cls ≠ "java/lang/invoke/VarHandle") (E : Exa Z h a C)
    (hM : Met l Z y bytes maxL ret ({ frames := fr, cells := 0, slots := 0, locals := lo } : Room) as' h (Pu (some r) h)) (W : Nat) (argsL rest : List Value) (hpd : parseMethodDescriptor y.desc = some ⟨ps, rt⟩) (hlen : argsL.length = ps.length) (has : (.ref a :: argsL).toArray = as') {st : List Value} (hst : st = argsL.reverse ++ .ref a :: rest) (hsz : Ls.size = ml)
    (hW : (rest.map fun v => v.category).sum ≤ W) (hf : fr + 1 ≤ R.frames) (hl : W + (maxL + 11) + lo ≤ R.locals) (hcl : cells ≤ R.cells) (hsl : slots ≤ R.slots) :
    ∃ T', Bx own bs ml Z p l e R s m args below meth c T' h locs cells slots ∧
      ∀ {P : Outcome → State → Prop}, OG p.tables e below P (T'.setTop (mkF m pc' Ls (r :: rest))) → OG p.tables e below P (T.setTop (mkF m pc Ls st)) := by
  obtain ⟨v, T', L, B', ⟨rfl, rfl, hh⟩, st⟩ := o_callV B pc pc' hd hp w1 w2 w5 w6 w3 w4 hy E hM W argsL rest hpd hlen has hst hsz hW hf hl hcl hsl
  rw [hh, List.append_nil] at B'
  exact ⟨T', B', st⟩
theorem o_callNP {index : Nat} {y : MethodName} {bytes : ByteArray} {maxL : Nat} {fr lo : Nat} {as' : Array Value} {ps : List FieldType} {rt : Option FieldType}
    (B : Bx own bs ml Z p l e R s m args below meth c T h locs cells slots) (pc pc' : Nat) (hd : decode bs pc = .ok (.invokespecial index, 3)) (hp : pc + 3 = pc') (hy1 : y.name = "<init>")
    (w1 : (Cond.methodLink own index y).before a0 Z = true) (w2 : (Cond.instanceMethod y).before a0 Z = true) (w3 : (Cond.initialized y.cls).before a0 Z = true) (w4 : (Cond.code y bytes maxL none).before a0 Z = true) (hy : y.cls ≠ "java/lang/invoke/MethodHandle" ∧ y.cls ≠ "java/lang/invoke/VarHandle")
    (hM : Met l Z y bytes maxL none ({ frames := fr, cells := 0, slots := 0, locals := lo } : Room) as' h (Pu none h)) (W : Nat) (argsL rest : List Value) (hpd : parseMethodDescriptor y.desc = some ⟨ps, rt⟩) (hlen : argsL.length = ps.length) (has : (.ref a :: argsL).toArray = as') {st : List Value} (hst : st = argsL.reverse ++ .ref a :: rest) (hsz : Ls.size = ml)
    (hW : (rest.map fun v => v.category).sum ≤ W) (hf : fr + 1 ≤ R.frames) (hl : W + (maxL + 11) + lo ≤ R.locals) (hcl : cells ≤ R.cells) (hsl : slots ≤ R.slots) :
    ∃ T', Bx own bs ml Z p l e R s m args below meth c T' h locs cells slots ∧
      ∀ {P : Outcome → State → Prop}, OG p.tables e below P (T'.setTop (mkF m pc' Ls rest)) → OG p.tables e below P (T.setTop (mkF m pc Ls st)) := by
  obtain ⟨v, T', L, B', ⟨rfl, rfl, hh⟩, st⟩ := o_callN B pc pc' hd hp hy1 w1 w2 w3 w4 hy hM W argsL rest hpd hlen has hst hsz hW hf hl hcl hsl
  rw [hh, List.append_nil] at B'
  exact ⟨T', B', st⟩
end Walk2
theorem d2_0 : decode jdk_2022_method_1_code 0 = .ok (.aload_n 0, 1) := by decide +kernel
theorem d2_1 : decode jdk_2022_method_1_code 1 = .ok (.invokespecial 3, 3) := by decide +kernel
theorem d2_4 : decode jdk_2022_method_1_code 4 = .ok (.return_, 1) := by decide +kernel
theorem pl2 : plainFor (⟨"java/io/InputStream", "<init>", "()V"⟩ : MethodName) = true := by first | exact plainFor_of_name (by first | (simp [plainName, overriddenIn]; done) | decide +kernel) | decide +kernel
set_option maxRecDepth 65536 in
set_option maxHeartbeats 40000000 in
theorem rm2 (l : Launch) (Z : State) (a0 : Array Value) (hw : ∀ d ∈ tables_1, d.before a0 Z = true) (a : Addr)  (h0 : Heap) :
    Met l Z (⟨"java/io/InputStream", "<init>", "()V"⟩ : MethodName) jdk_2022_method_1_code 1 (none) ({ frames := 1, cells := 0, slots := 0, locals := 12 } : Room) #[(.ref a)] h0 (Pu none h0) := by
  refine enter pl2 #[.val (.ref a)] rfl ?_
  intro p e s m below meth c T B hret hlk hnm
  · refine o_aloadN B 0 1 (v := (.ref a)) d2_0 rfl rfl rfl ?_
    obtain ⟨T1, B1, c1⟩ := o_initO B 1 4 d2_1 rfl (hw _ (List.mem_of_getElem? (i := 11) rfl)) (hw _ (List.mem_of_getElem? (i := 12) rfl)) (hw _ (List.mem_of_getElem? (i := 13) rfl)) (a := a) (Ls := #[.val (.ref a)]) (rest := []) rfl 0 (Nat.le_of_eq rfl) (by decide) (by decide)
    refine c1 ?_
    refine o_retV B1 4 d2_4 hret hlk (by decide) (by decide) ⟨rfl, rfl, rfl⟩
theorem d1_0 : decode prog_64_method_1_code 0 = .ok (.aload_n 0, 1) := by decide +kernel
theorem d1_1 : decode prog_64_method_1_code 1 = .ok (.invokespecial 1, 3) := by decide +kernel
theorem d1_4 : decode prog_64_method_1_code 4 = .ok (.return_, 1) := by decide +kernel
theorem pl1 : plainFor (⟨"com/example/doorward/doorward/server/Http1Reader$Arrived", "<init>", "()V"⟩ : MethodName) = true := by first | exact plainFor_of_name (by first | (simp [plainName, overriddenIn]; done) | decide +kernel) | decide +kernel
theorem pd___V : parseMethodDescriptor "()V" = some ⟨[], none⟩ := by decide +kernel
set_option maxRecDepth 65536 in
set_option maxHeartbeats 40000000 in
theorem rm1 (l : Launch) (Z : State) (a0 : Array Value) (hw : ∀ d ∈ tables_1, d.before a0 Z = true) (a : Addr)  (h0 : Heap) :
    Met l Z (⟨"com/example/doorward/doorward/server/Http1Reader$Arrived", "<init>", "()V"⟩ : MethodName) prog_64_method_1_code 1 (none) ({ frames := 2, cells := 0, slots := 0, locals := 24 } : Room) #[(.ref a)] h0 (Pu none h0) := by
  refine enter pl1 #[.val (.ref a)] rfl ?_
  intro p e s m below meth c T B hret hlk hnm
  · refine o_aloadN B 0 1 (v := (.ref a)) d1_0 rfl rfl rfl ?_
    obtain ⟨T1, B1, c1⟩ := o_callNP B 1 4 d1_1 rfl rfl (hw _ (List.mem_of_getElem? (i := 6) rfl)) (hw _ (List.mem_of_getElem? (i := 7) rfl)) (hw _ (List.mem_of_getElem? (i := 9) rfl)) (hw _ (List.mem_of_getElem? (i := 10) rfl)) (by decide) (rm2 l Z a0 hw a  h0 ) 0 [] [] pd___V rfl rfl (st := [(.ref a)]) rfl (Ls := #[.val (.ref a)]) rfl (Nat.le_of_eq rfl) (by decide) (by decide) (by decide) (by decide)
    refine c1 ?_
    refine o_retV B1 4 d1_4 hret hlk (by decide) (by decide) ⟨rfl, rfl, rfl⟩
theorem d4_0 : decode jdk_29_method_65_code 0 = .ok (.iload_n 0, 1) := by decide +kernel
theorem d4_1 : decode jdk_29_method_65_code 1 = .ok (.iload_n 1, 1) := by decide +kernel
theorem d4_2 : decode jdk_29_method_65_code 2 = .ok (.if_icmp .lt 7, 3) := by decide +kernel
theorem d4_5 : decode jdk_29_method_65_code 5 = .ok (.iload_n 0, 1) := by decide +kernel
theorem d4_6 : decode jdk_29_method_65_code 6 = .ok (.goto 4, 3) := by decide +kernel
theorem d4_9 : decode jdk_29_method_65_code 9 = .ok (.iload_n 1, 1) := by decide +kernel
theorem d4_10 : decode jdk_29_method_65_code 10 = .ok (.ireturn, 1) := by decide +kernel
theorem pl4 : plainFor (⟨"java/lang/Math", "max", "(II)I"⟩ : MethodName) = true := by first | exact plainFor_of_name (by first | (simp [plainName, overriddenIn]; done) | decide +kernel) | decide +kernel
def f4 (x0 : Int32) (x1 : Int32) : Int32 := (if x0 < x1 then x1 else x0)
set_option maxRecDepth 65536 in
set_option maxHeartbeats 40000000 in
theorem rm4 (l : Launch) (Z : State) (a0 : Array Value) (hw : ∀ d ∈ tables_1, d.before a0 Z = true) (x0 : Int32) (x1 : Int32) (h0 : Heap) :
    Met l Z (⟨"java/lang/Math", "max", "(II)I"⟩ : MethodName) jdk_29_method_65_code 2 (some .int) ({ frames := 0, cells := 0, slots := 0, locals := 0 } : Room) #[(.int x0), (.int x1)] h0 (Pu (some (.int (f4 x0 x1))) h0) := by
  refine enter pl4 #[.val (.int x0), .val (.int x1)] rfl ?_
  intro p e s m below meth c T B hret hlk hnm
  · refine o_iloadN B 0 1 (v := x0) d4_0 rfl rfl ?_
    refine o_iloadN B 1 2 (v := x1) d4_1 rfl rfl ?_
    by_cases k1 : x0 < x1
    · refine o_icY B 2 9 d4_2 (XT.ii_lt_t k1) (by decide) (by decide) ?_
      refine o_iloadN B 9 10 (v := x1) d4_9 rfl rfl ?_
      refine o_retI B 10 d4_10 hret hlk (by decide) (by decide) ⟨(congrArg (fun z => some (Value.int z)) (show f4 x0 x1 = x1 from (if_pos k1).trans (rfl))).symm, rfl, rfl⟩
    · refine o_icN B 2 5 d4_2 rfl (XT.ii_lt_f k1) ?_
      refine o_iloadN B 5 6 (v := x0) d4_5 rfl rfl ?_
      refine o_goto B 6 10 d4_6 (by decide) (by decide) ?_
      refine o_retI B 10 d4_10 hret hlk (by decide) (by decide) ⟨(congrArg (fun z => some (Value.int z)) (show f4 x0 x1 = x0 from (if_neg k1).trans (rfl))).symm, rfl, rfl⟩
theorem d11_0 : decode jdk_29_method_69_code 0 = .ok (.iload_n 0, 1) := by decide +kernel
theorem d11_1 : decode jdk_29_method_69_code 1 = .ok (.iload_n 1, 1) := by decide +kernel
theorem d11_2 : decode jdk_29_method_69_code 2 = .ok (.if_icmp .gt 7, 3) := by decide +kernel
theorem d11_5 : decode jdk_29_method_69_code 5 = .ok (.iload_n 0, 1) := by decide +kernel
theorem d11_6 : decode jdk_29_method_69_code 6 = .ok (.goto 4, 3) := by decide +kernel
theorem d11_9 : decode jdk_29_method_69_code 9 = .ok (.iload_n 1, 1) := by decide +kernel
theorem d11_10 : decode jdk_29_method_69_code 10 = .ok (.ireturn, 1) := by decide +kernel
theorem pl11 : plainFor (⟨"java/lang/Math", "min", "(II)I"⟩ : MethodName) = true := by first | exact plainFor_of_name (by first | (simp [plainName, overriddenIn]; done) | decide +kernel) | decide +kernel
def f11 (x0 : Int32) (x1 : Int32) : Int32 := (if x1 < x0 then x1 else x0)
set_option maxRecDepth 65536 in
set_option maxHeartbeats 40000000 in
theorem rm11 (l : Launch) (Z : State) (a0 : Array Value) (hw : ∀ d ∈ tables_1, d.before a0 Z = true) (x0 : Int32) (x1 : Int32) (h0 : Heap) :
    Met l Z (⟨"java/lang/Math", "min", "(II)I"⟩ : MethodName) jdk_29_method_69_code 2 (some .int) ({ frames := 0, cells := 0, slots := 0, locals := 0 } : Room) #[(.int x0), (.int x1)] h0 (Pu (some (.int (f11 x0 x1))) h0) := by
  refine enter pl11 #[.val (.int x0), .val (.int x1)] rfl ?_
  intro p e s m below meth c T B hret hlk hnm
  · refine o_iloadN B 0 1 (v := x0) d11_0 rfl rfl ?_
    refine o_iloadN B 1 2 (v := x1) d11_1 rfl rfl ?_
    by_cases k1 : x1 < x0
    · refine o_icY B 2 9 d11_2 (XT.ii_gt_t k1) (by decide) (by decide) ?_
      refine o_iloadN B 9 10 (v := x1) d11_9 rfl rfl ?_
      refine o_retI B 10 d11_10 hret hlk (by decide) (by decide) ⟨(congrArg (fun z => some (Value.int z)) (show f11 x0 x1 = x1 from (if_pos k1).trans (rfl))).symm, rfl, rfl⟩
    · refine o_icN B 2 5 d11_2 rfl (XT.ii_gt_f k1) ?_
      refine o_iloadN B 5 6 (v := x0) d11_5 rfl rfl ?_
      refine o_goto B 6 10 d11_6 (by decide) (by decide) ?_
      refine o_retI B 10 d11_10 hret hlk (by decide) (by decide) ⟨(congrArg (fun z => some (Value.int z)) (show f11 x0 x1 = x0 from (if_neg k1).trans (rfl))).symm, rfl, rfl⟩
theorem d6_0 : decode prog_64_method_5_code 0 = .ok (.aload_n 0, 1) := by decide +kernel
theorem d6_1 : decode prog_64_method_5_code 1 = .ok (.getfield 13, 3) := by decide +kernel
theorem d6_4 : decode prog_64_method_5_code 4 = .ok (.aload_n 0, 1) := by decide +kernel
theorem d6_5 : decode prog_64_method_5_code 5 = .ok (.getfield 17, 3) := by decide +kernel
theorem d6_8 : decode prog_64_method_5_code 8 = .ok (.if_icmp .ne 14, 3) := by decide +kernel
theorem d6_11 : decode prog_64_method_5_code 11 = .ok (.aload_n 0, 1) := by decide +kernel
theorem d6_12 : decode prog_64_method_5_code 12 = .ok (.getfield 20, 3) := by decide +kernel
theorem d6_15 : decode prog_64_method_5_code 15 = .ok (.ifCond .ne 7, 3) := by decide +kernel
theorem d6_18 : decode prog_64_method_5_code 18 = .ok (.iconst 1, 1) := by decide +kernel
theorem d6_19 : decode prog_64_method_5_code 19 = .ok (.goto 4, 3) := by decide +kernel
theorem d6_22 : decode prog_64_method_5_code 22 = .ok (.iconst 0, 1) := by decide +kernel
theorem d6_23 : decode prog_64_method_5_code 23 = .ok (.ireturn, 1) := by decide +kernel
theorem pl6 : plainFor (⟨"com/example/doorward/doorward/server/Http1Reader$Arrived", "nothingLeft", "()Z"⟩ : MethodName) = true := by first | exact plainFor_of_name (by first | (simp [plainName, overriddenIn]; done) | decide +kernel) | decide +kernel
def f6 (y0 : Int32) (y1 : Int32) (y2 : Int32) : Int32 := (if y0 = y1 then (if y2 = 0 then (1 : Int32) else (0 : Int32)) else (0 : Int32))
set_option maxRecDepth 65536 in
set_option maxHeartbeats 40000000 in
theorem rm6 (l : Launch) (Z : State) (a0 : Array Value) (hw : ∀ d ∈ tables_1, d.before a0 Z = true) (a : Addr) (y0 : Int32) (y1 : Int32) (y2 : Int32) (h0 : Heap) (G0 : Fld Z h0 a "com/example/doorward/doorward/server/Http1Reader$Arrived" "position" "I" (.int y0)) (G1 : Fld Z h0 a "com/example/doorward/doorward/server/Http1Reader$Arrived" "limit" "I" (.int y1)) (G2 : Fld Z h0 a "com/example/doorward/doorward/server/Http1Reader$Arrived" "ended" "Z" (.int y2)) :
    Met l Z (⟨"com/example/doorward/doorward/server/Http1Reader$Arrived", "nothingLeft", "()Z"⟩ : MethodName) prog_64_method_5_code 1 (some .boolean) ({ frames := 0, cells := 0, slots := 0, locals := 0 } : Room) #[(.ref a)] h0 (Pu (some (.int (f6 y0 y1 y2))) h0) := by
  refine enter pl6 #[.val (.ref a)] rfl ?_
  intro p e s m below meth c T B hret hlk hnm
  · refine o_aloadN B 0 1 (v := (.ref a)) d6_0 rfl rfl rfl ?_
    obtain ⟨T1, B1, c1⟩ := o_getfield B 1 4 d6_1 rfl (host := "") (Or.inl (hw _ (List.mem_of_getElem? (i := 35) rfl))) Via.refl G0 (Ls := #[.val (.ref a)]) (rest := [])
    refine c1 ?_
    refine o_aloadN B1 4 5 (v := (.ref a)) d6_4 rfl rfl rfl ?_
    obtain ⟨T2, B2, c2⟩ := o_getfield B1 5 8 d6_5 rfl (host := "") (Or.inl (hw _ (List.mem_of_getElem? (i := 36) rfl))) Via.refl G1 (Ls := #[.val (.ref a)]) (rest := [(.int y0)])
    refine c2 ?_
    by_cases k1 : y0 = y1
    · refine o_icN B2 8 11 d6_8 rfl (XT.ii_ne_f k1) ?_
      refine o_aloadN B2 11 12 (v := (.ref a)) d6_11 rfl rfl rfl ?_
      obtain ⟨T3, B3, c3⟩ := o_getfield B2 12 15 d6_12 rfl (host := "") (Or.inl (hw _ (List.mem_of_getElem? (i := 28) rfl))) Via.refl G2 (Ls := #[.val (.ref a)]) (rest := [])
      refine c3 ?_
      by_cases k2 : y2 = 0
      · refine o_ifN B3 15 18 d6_15 rfl (XT.i0_ne_f k2) ?_
        refine o_iconst B3 18 19 (1 : Int32) d6_18 rfl (by decide) ?_
        refine o_goto B3 19 23 d6_19 (by decide) (by decide) ?_
        refine o_retZ (t := .boolean) B3 23 d6_23 hret hlk (by simp) (by decide) (by decide) ⟨(congrArg (fun z => some (Value.int z)) ((show nar .boolean (1 : Int32) = (1 : Int32) from rfl).trans (show f6 y0 y1 y2 = (1 : Int32) from (if_pos k1).trans ((if_pos k2).trans (rfl))).symm)), rfl, rfl⟩
      · refine o_ifY B3 15 22 d6_15 (XT.i0_ne_t k2) (by decide) (by decide) ?_
        refine o_iconst B3 22 23 (0 : Int32) d6_22 rfl (by decide) ?_
        refine o_retZ (t := .boolean) B3 23 d6_23 hret hlk (by simp) (by decide) (by decide) ⟨(congrArg (fun z => some (Value.int z)) ((show nar .boolean (0 : Int32) = (0 : Int32) from rfl).trans (show f6 y0 y1 y2 = (0 : Int32) from (if_pos k1).trans ((if_neg k2).trans (rfl))).symm)), rfl, rfl⟩
    · refine o_icY B2 8 22 d6_8 (XT.ii_ne_t k1) (by decide) (by decide) ?_
      refine o_iconst B2 22 23 (0 : Int32) d6_22 rfl (by decide) ?_
      refine o_retZ (t := .boolean) B2 23 d6_23 hret hlk (by simp) (by decide) (by decide) ⟨(congrArg (fun z => some (Value.int z)) ((show nar .boolean (0 : Int32) = (0 : Int32) from rfl).trans (show f6 y0 y1 y2 = (0 : Int32) from (if_neg k1).trans (rfl)).symm)), rfl, rfl⟩
theorem d5_0 : decode prog_64_method_3_code 0 = .ok (.aload_n 0, 1) := by decide +kernel
theorem d5_1 : decode prog_64_method_3_code 1 = .ok (.iconst 1, 1) := by decide +kernel
theorem d5_2 : decode prog_64_method_3_code 2 = .ok (.putfield 20, 3) := by decide +kernel
theorem d5_5 : decode prog_64_method_3_code 5 = .ok (.return_, 1) := by decide +kernel
theorem pl5 : plainFor (⟨"com/example/doorward/doorward/server/Http1Reader$Arrived", "end", "()V"⟩ : MethodName) = true := by first | exact plainFor_of_name (by first | (simp [plainName, overriddenIn]; done) | decide +kernel) | decide +kernel
def o5_0 (y0 : Int32) (y1 : Int32) (y2 : Int32) : Int32 := y0
def o5_1 (y0 : Int32) (y1 : Int32) (y2 : Int32) : Int32 := y1
def o5_2 (y0 : Int32) (y1 : Int32) (y2 : Int32) : Int32 := (1 : Int32)
def Q5 (Z : State) (a : Addr) (y0 : Int32) (y1 : Int32) (y2 : Int32) (h0 : Heap) (n0 : Nat) (v : Option Value) (h : Heap) (L : List Loc) : Prop := v = none ∧ Fr n0 L ∧ Keep h0 h [a] ∧ Fld Z h a "com/example/doorward/doorward/server/Http1Reader$Arrived" "position" "I" (.int (o5_0 y0 y1 y2)) ∧ Fld Z h a "com/example/doorward/doorward/server/Http1Reader$Arrived" "limit" "I" (.int (o5_1 y0 y1 y2)) ∧ Fld Z h a "com/example/doorward/doorward/server/Http1Reader$Arrived" "ended" "Z" (.int (o5_2 y0 y1 y2))
set_option maxRecDepth 65536 in
set_option maxHeartbeats 40000000 in
theorem rm5 (l : Launch) (Z : State) (a0 : Array Value) (hw : ∀ d ∈ tables_1, d.before a0 Z = true) (a : Addr) (y0 : Int32) (y1 : Int32) (y2 : Int32) (h0 : Heap) (n0 : Nat) (hz : n0 ≤ h0.size) (ga : n0 ≤ a) (hE : Exa Z h0 a "com/example/doorward/doorward/server/Http1Reader$Arrived") (G0 : Fld Z h0 a "com/example/doorward/doorward/server/Http1Reader$Arrived" "position" "I" (.int y0)) (G1 : Fld Z h0 a "com/example/doorward/doorward/server/Http1Reader$Arrived" "limit" "I" (.int y1)) (G2 : Fld Z h0 a "com/example/doorward/doorward/server/Http1Reader$Arrived" "ended" "Z" (.int y2)) :
    Met l Z (⟨"com/example/doorward/doorward/server/Http1Reader$Arrived", "end", "()V"⟩ : MethodName) prog_64_method_3_code 1 (none) ({ frames := 0, cells := 0, slots := 0, locals := 0 } : Room) #[(.ref a)] h0 (Q5 Z a y0 y1 y2 h0 n0) := by
  refine enter pl5 #[.val (.ref a)] rfl ?_
  intro p e s m below meth c T B hret hlk hnm
  have N0 := Fr.nil n0
  refine o_aloadN B 0 1 (v := (.ref a)) d5_0 rfl rfl rfl ?_
  refine o_iconst B 1 2 (1 : Int32) d5_1 rfl (by decide) ?_
  obtain ⟨T1, h1, L1, B1, N1, W1, c1⟩ := o_putfield B N0 ga 2 5 (v := (.int (1 : Int32))) d5_2 rfl (host := "") (Or.inl (hw _ (List.mem_of_getElem? (i := 28) rfl))) Via.refl G2 hE (Or.inl (hw _ (List.mem_of_getElem? (i := 29) rfl))) (hw _ (List.mem_of_getElem? (i := 1) rfl)) (ty := .boolean) (by decide) rfl rfl (Ls := #[.val (.ref a)]) (rest := [])
  have F1 : Fld Z h1 a "com/example/doorward/doorward/server/Http1Reader$Arrived" "ended" "Z" (.int (1 : Int32)) := Fld.same W1 G2
  refine c1 ?_
  have F2 := (Fld.other W1 G0 (Or.inr (slot_ne (a0 := a0) (C := "com/example/doorward/doorward/server/Http1Reader$Arrived") (Or.inl (hw _ (List.mem_of_getElem? (i := 20) rfl))) (Or.inl (hw _ (List.mem_of_getElem? (i := 29) rfl))) (by decide) (t := .int) (t' := .boolean) (by decide) (by decide))))
  have F3 := (Fld.other W1 G1 (Or.inr (slot_ne (a0 := a0) (C := "com/example/doorward/doorward/server/Http1Reader$Arrived") (Or.inl (hw _ (List.mem_of_getElem? (i := 22) rfl))) (Or.inl (hw _ (List.mem_of_getElem? (i := 29) rfl))) (by decide) (t := .int) (t' := .boolean) (by decide) (by decide))))
  refine o_retV B1 5 d5_5 hret hlk (by decide) (by decide) ⟨rfl, N1, ((Keep.refl _ _).wr W1 (Or.inl (List.mem_of_getElem? (i := 0) rfl))), (by rw [show (o5_0 y0 y1 y2) = y0 from rfl]; exact F2), (by rw [show (o5_1 y0 y1 y2) = y1 from rfl]; exact F3), (by rw [show (o5_2 y0 y1 y2) = (1 : Int32) from rfl]; exact F1)⟩
theorem d7_0 : decode prog_64_method_2_code 0 = .ok (.aload_n 0, 1) := by decide +kernel
theorem d7_1 : decode prog_64_method_2_code 1 = .ok (.aload_n 1, 1) := by decide +kernel
theorem d7_2 : decode prog_64_method_2_code 2 = .ok (.putfield 7, 3) := by decide +kernel
theorem d7_5 : decode prog_64_method_2_code 5 = .ok (.aload_n 0, 1) := by decide +kernel
theorem d7_6 : decode prog_64_method_2_code 6 = .ok (.iload_n 2, 1) := by decide +kernel
theorem d7_7 : decode prog_64_method_2_code 7 = .ok (.putfield 13, 3) := by decide +kernel
theorem d7_10 : decode prog_64_method_2_code 10 = .ok (.aload_n 0, 1) := by decide +kernel
theorem d7_11 : decode prog_64_method_2_code 11 = .ok (.iload_n 2, 1) := by decide +kernel
theorem d7_12 : decode prog_64_method_2_code 12 = .ok (.iload_n 3, 1) := by decide +kernel
theorem d7_13 : decode prog_64_method_2_code 13 = .ok (.iadd, 1) := by decide +kernel
theorem d7_14 : decode prog_64_method_2_code 14 = .ok (.putfield 17, 3) := by decide +kernel
theorem d7_17 : decode prog_64_method_2_code 17 = .ok (.return_, 1) := by decide +kernel
theorem pl7 : plainFor (⟨"com/example/doorward/doorward/server/Http1Reader$Arrived", "set", "([BII)V"⟩ : MethodName) = true := by first | exact plainFor_of_name (by first | (simp [plainName, overriddenIn]; done) | decide +kernel) | decide +kernel
def o7_1 (y0 : Int32) (y1 : Int32) (y2 : Int32) (x1 : Int32) (x2 : Int32) : Int32 := x1
def o7_2 (y0 : Int32) (y1 : Int32) (y2 : Int32) (x1 : Int32) (x2 : Int32) : Int32 := (x1 + x2)
def o7_3 (y0 : Int32) (y1 : Int32) (y2 : Int32) (x1 : Int32) (x2 : Int32) : Int32 := y2
def Q7 (Z : State) (a : Addr) (y0 : Int32) (y1 : Int32) (y2 : Int32) (x0 : Addr) (x1 : Int32) (x2 : Int32) (h0 : Heap) (n0 : Nat) (v : Option Value) (h : Heap) (L : List Loc) : Prop := v = none ∧ Fr n0 L ∧ Keep h0 h [a] ∧ Fld Z h a "com/example/doorward/doorward/server/Http1Reader$Arrived" "bytes" "[B" (.ref x0) ∧ Fld Z h a "com/example/doorward/doorward/server/Http1Reader$Arrived" "position" "I" (.int (o7_1 y0 y1 y2 x1 x2)) ∧ Fld Z h a "com/example/doorward/doorward/server/Http1Reader$Arrived" "limit" "I" (.int (o7_2 y0 y1 y2 x1 x2)) ∧ Fld Z h a "com/example/doorward/doorward/server/Http1Reader$Arrived" "ended" "Z" (.int (o7_3 y0 y1 y2 x1 x2))
set_option maxRecDepth 65536 in
set_option maxHeartbeats 40000000 in
theorem rm7 (l : Launch) (Z : State) (a0 : Array Value) (hw : ∀ d ∈ tables_1, d.before a0 Z = true) (a : Addr) (y0 : Int32) (y1 : Int32) (y2 : Int32) (x0 : Addr) (x1 : Int32) (x2 : Int32) (h0 : Heap) (n0 : Nat) (hz : n0 ≤ h0.size) (ga : n0 ≤ a) (hE : Exa Z h0 a "com/example/doorward/doorward/server/Http1Reader$Arrived") (G0 : Fld Z h0 a "com/example/doorward/doorward/server/Http1Reader$Arrived" "bytes" "[B" .null) (G1 : Fld Z h0 a "com/example/doorward/doorward/server/Http1Reader$Arrived" "position" "I" (.int y0)) (G2 : Fld Z h0 a "com/example/doorward/doorward/server/Http1Reader$Arrived" "limit" "I" (.int y1)) (G3 : Fld Z h0 a "com/example/doorward/doorward/server/Http1Reader$Arrived" "ended" "Z" (.int y2)) :
    Met l Z (⟨"com/example/doorward/doorward/server/Http1Reader$Arrived", "set", "([BII)V"⟩ : MethodName) prog_64_method_2_code 4 (none) ({ frames := 0, cells := 0, slots := 0, locals := 0 } : Room) #[(.ref a), (.ref x0), (.int x1), (.int x2)] h0 (Q7 Z a y0 y1 y2 x0 x1 x2 h0 n0) := by
  refine enter pl7 #[.val (.ref a), .val (.ref x0), .val (.int x1), .val (.int x2)] rfl ?_
  intro p e s m below meth c T B hret hlk hnm
  have N0 := Fr.nil n0
  refine o_aloadN B 0 1 (v := (.ref a)) d7_0 rfl rfl rfl ?_
  refine o_aloadN B 1 2 (v := (.ref x0)) d7_1 rfl rfl rfl ?_
  obtain ⟨T1, h1, L1, B1, N1, W1, c1⟩ := o_putfield B N0 ga 2 5 (v := (.ref x0)) d7_2 rfl (host := "") (Or.inl (hw _ (List.mem_of_getElem? (i := 42) rfl))) Via.refl G0 hE (Or.inl (hw _ (List.mem_of_getElem? (i := 43) rfl))) (hw _ (List.mem_of_getElem? (i := 1) rfl)) (ty := (.array .byte)) (by decide) rfl rfl (Ls := #[.val (.ref a), .val (.ref x0), .val (.int x1), .val (.int x2)]) (rest := [])
  have F1 : Fld Z h1 a "com/example/doorward/doorward/server/Http1Reader$Arrived" "bytes" "[B" (.ref x0) := Fld.same W1 G0
  refine c1 ?_
  refine o_aloadN B1 5 6 (v := (.ref a)) d7_5 rfl rfl rfl ?_
  refine o_iloadN B1 6 7 (v := x1) d7_6 rfl rfl ?_
  have F3 := (Fld.other W1 G1 (Or.inr (slot_ne (a0 := a0) (C := "com/example/doorward/doorward/server/Http1Reader$Arrived") (Or.inl (hw _ (List.mem_of_getElem? (i := 20) rfl))) (Or.inl (hw _ (List.mem_of_getElem? (i := 43) rfl))) (by decide) (t := .int) (t' := (.array .byte)) (by decide) (by decide))))
  have F4 := (Exa.wr W1 hE)
  obtain ⟨T2, h2, L2, B2, N2, W2, c2⟩ := o_putfield B1 N1 ga 7 10 (v := (.int x1)) d7_7 rfl (host := "") (Or.inl (hw _ (List.mem_of_getElem? (i := 35) rfl))) Via.refl F3 F4 (Or.inl (hw _ (List.mem_of_getElem? (i := 20) rfl))) (hw _ (List.mem_of_getElem? (i := 1) rfl)) (ty := .int) (by decide) rfl rfl (Ls := #[.val (.ref a), .val (.ref x0), .val (.int x1), .val (.int x2)]) (rest := [])
  have F2 : Fld Z h2 a "com/example/doorward/doorward/server/Http1Reader$Arrived" "position" "I" (.int x1) := Fld.same W2 F3
  refine c2 ?_
  refine o_aloadN B2 10 11 (v := (.ref a)) d7_10 rfl rfl rfl ?_
  refine o_iloadN B2 11 12 (v := x1) d7_11 rfl rfl ?_
  refine o_iloadN B2 12 13 (v := x2) d7_12 rfl rfl ?_
  refine o_iadd B2 13 14 d7_13 rfl ?_
  have F6 := (Fld.other W2 (Fld.other W1 G2 (Or.inr (slot_ne (a0 := a0) (C := "com/example/doorward/doorward/server/Http1Reader$Arrived") (Or.inl (hw _ (List.mem_of_getElem? (i := 22) rfl))) (Or.inl (hw _ (List.mem_of_getElem? (i := 43) rfl))) (by decide) (t := .int) (t' := (.array .byte)) (by decide) (by decide)))) (Or.inr (slot_ne (a0 := a0) (C := "com/example/doorward/doorward/server/Http1Reader$Arrived") (Or.inl (hw _ (List.mem_of_getElem? (i := 22) rfl))) (Or.inl (hw _ (List.mem_of_getElem? (i := 20) rfl))) (by decide) (t := .int) (t' := .int) (by decide) (by decide))))
  have F7 := (Exa.wr W2 F4)
  obtain ⟨T5, h5, L5, B5, N5, W5, c5⟩ := o_putfield B2 N2 ga 14 17 (v := (.int (x1 + x2))) d7_14 rfl (host := "") (Or.inl (hw _ (List.mem_of_getElem? (i := 36) rfl))) Via.refl F6 F7 (Or.inl (hw _ (List.mem_of_getElem? (i := 22) rfl))) (hw _ (List.mem_of_getElem? (i := 1) rfl)) (ty := .int) (by decide) rfl rfl (Ls := #[.val (.ref a), .val (.ref x0), .val (.int x1), .val (.int x2)]) (rest := [])
  have F5 : Fld Z h5 a "com/example/doorward/doorward/server/Http1Reader$Arrived" "limit" "I" (.int (x1 + x2)) := Fld.same W5 F6
  refine c5 ?_
  have F8 := (Fld.other W5 (Fld.other W2 F1 (Or.inr (slot_ne (a0 := a0) (C := "com/example/doorward/doorward/server/Http1Reader$Arrived") (Or.inl (hw _ (List.mem_of_getElem? (i := 43) rfl))) (Or.inl (hw _ (List.mem_of_getElem? (i := 20) rfl))) (by decide) (t := (.array .byte)) (t' := .int) (by decide) (by decide)))) (Or.inr (slot_ne (a0 := a0) (C := "com/example/doorward/doorward/server/Http1Reader$Arrived") (Or.inl (hw _ (List.mem_of_getElem? (i := 43) rfl))) (Or.inl (hw _ (List.mem_of_getElem? (i := 22) rfl))) (by decide) (t := (.array .byte)) (t' := .int) (by decide) (by decide))))
  have F9 := (Fld.other W5 F2 (Or.inr (slot_ne (a0 := a0) (C := "com/example/doorward/doorward/server/Http1Reader$Arrived") (Or.inl (hw _ (List.mem_of_getElem? (i := 20) rfl))) (Or.inl (hw _ (List.mem_of_getElem? (i := 22) rfl))) (by decide) (t := .int) (t' := .int) (by decide) (by decide))))
  have F10 := (Fld.other W5 (Fld.other W2 (Fld.other W1 G3 (Or.inr (slot_ne (a0 := a0) (C := "com/example/doorward/doorward/server/Http1Reader$Arrived") (Or.inl (hw _ (List.mem_of_getElem? (i := 29) rfl))) (Or.inl (hw _ (List.mem_of_getElem? (i := 43) rfl))) (by decide) (t := .boolean) (t' := (.array .byte)) (by decide) (by decide)))) (Or.inr (slot_ne (a0 := a0) (C := "com/example/doorward/doorward/server/Http1Reader$Arrived") (Or.inl (hw _ (List.mem_of_getElem? (i := 29) rfl))) (Or.inl (hw _ (List.mem_of_getElem? (i := 20) rfl))) (by decide) (t := .boolean) (t' := .int) (by decide) (by decide)))) (Or.inr (slot_ne (a0 := a0) (C := "com/example/doorward/doorward/server/Http1Reader$Arrived") (Or.inl (hw _ (List.mem_of_getElem? (i := 29) rfl))) (Or.inl (hw _ (List.mem_of_getElem? (i := 22) rfl))) (by decide) (t := .boolean) (t' := .int) (by decide) (by decide))))
  refine o_retV B5 17 d7_17 hret hlk (by decide) (by decide) ⟨rfl, N5, ((((Keep.refl _ _).wr W1 (Or.inl (List.mem_of_getElem? (i := 0) rfl))).wr W2 (Or.inl (List.mem_of_getElem? (i := 0) rfl))).wr W5 (Or.inl (List.mem_of_getElem? (i := 0) rfl))), F8, (by rw [show (o7_1 y0 y1 y2 x1 x2) = x1 from rfl]; exact F9), (by rw [show (o7_2 y0 y1 y2 x1 x2) = (x1 + x2) from rfl]; exact F5), (by rw [show (o7_3 y0 y1 y2 x1 x2) = y2 from rfl]; exact F10)⟩
theorem d10_0 : decode jdk_41_method_13_code 0 = .ok (.iload_n 2, 1) := by decide +kernel
theorem d10_1 : decode jdk_41_method_13_code 1 = .ok (.iload_n 0, 1) := by decide +kernel
theorem d10_2 : decode jdk_41_method_13_code 2 = .ok (.ior, 1) := by decide +kernel
theorem d10_3 : decode jdk_41_method_13_code 3 = .ok (.iload_n 1, 1) := by decide +kernel
theorem d10_4 : decode jdk_41_method_13_code 4 = .ok (.ior, 1) := by decide +kernel
theorem d10_5 : decode jdk_41_method_13_code 5 = .ok (.ifCond .lt 10, 3) := by decide +kernel
theorem d10_8 : decode jdk_41_method_13_code 8 = .ok (.iload_n 1, 1) := by decide +kernel
theorem d10_9 : decode jdk_41_method_13_code 9 = .ok (.iload_n 2, 1) := by decide +kernel
theorem d10_10 : decode jdk_41_method_13_code 10 = .ok (.iload_n 0, 1) := by decide +kernel
theorem d10_11 : decode jdk_41_method_13_code 11 = .ok (.isub, 1) := by decide +kernel
theorem d10_12 : decode jdk_41_method_13_code 12 = .ok (.if_icmp .le 11, 3) := by decide +kernel
theorem d10_15 : decode jdk_41_method_13_code 15 = .ok (.aload_n 3, 1) := by decide +kernel
theorem d10_16 : decode jdk_41_method_13_code 16 = .ok (.iload_n 0, 1) := by decide +kernel
theorem d10_17 : decode jdk_41_method_13_code 17 = .ok (.iload_n 1, 1) := by decide +kernel
theorem d10_18 : decode jdk_41_method_13_code 18 = .ok (.iload_n 2, 1) := by decide +kernel
theorem d10_19 : decode jdk_41_method_13_code 19 = .ok (.invokestatic 103, 3) := by decide +kernel
theorem d10_22 : decode jdk_41_method_13_code 22 = .ok (.athrow, 1) := by decide +kernel
theorem d10_23 : decode jdk_41_method_13_code 23 = .ok (.iload_n 0, 1) := by decide +kernel
theorem d10_24 : decode jdk_41_method_13_code 24 = .ok (.ireturn, 1) := by decide +kernel
theorem pl10 : plainFor (⟨"jdk/internal/util/Preconditions", "checkFromIndexSize", "(IIILjava/util/function/BiFunction;)I"⟩ : MethodName) = true := by first | exact plainFor_of_name (by first | (simp [plainName, overriddenIn]; done) | decide +kernel) | decide +kernel
def f10 (x0 : Int32) (x1 : Int32) (x2 : Int32) : Int32 := x0
set_option maxRecDepth 65536 in
set_option maxHeartbeats 40000000 in
theorem rm10 (l : Launch) (Z : State) (a0 : Array Value) (hw : ∀ d ∈ tables_1, d.before a0 Z = true) (x0 : Int32) (x1 : Int32) (x2 : Int32) (h0 : Heap) (h1 : ¬ ((x2 ||| x0) ||| x1) < 0) (h2 : ¬ (x2 - x0) < x1) :
    Met l Z (⟨"jdk/internal/util/Preconditions", "checkFromIndexSize", "(IIILjava/util/function/BiFunction;)I"⟩ : MethodName) jdk_41_method_13_code 4 (some .int) ({ frames := 0, cells := 0, slots := 0, locals := 0 } : Room) #[(.int x0), (.int x1), (.int x2), .null] h0 (Pu (some (.int (f10 x0 x1 x2))) h0) := by
  refine enter pl10 #[.val (.int x0), .val (.int x1), .val (.int x2), .val .null] rfl ?_
  intro p e s m below meth c T B hret hlk hnm
  · refine o_iloadN B 0 1 (v := x2) d10_0 rfl rfl ?_
    refine o_iloadN B 1 2 (v := x0) d10_1 rfl rfl ?_
    refine o_ior B 2 3 d10_2 rfl ?_
    refine o_iloadN B 3 4 (v := x1) d10_3 rfl rfl ?_
    refine o_ior B 4 5 d10_4 rfl ?_
    refine o_ifN B 5 8 d10_5 rfl (XT.i0_lt_f h1) ?_
    refine o_iloadN B 8 9 (v := x1) d10_8 rfl rfl ?_
    refine o_iloadN B 9 10 (v := x2) d10_9 rfl rfl ?_
    refine o_iloadN B 10 11 (v := x0) d10_10 rfl rfl ?_
    refine o_isub B 11 12 d10_11 rfl ?_
    refine o_icY B 12 23 d10_12 (XT.ii_le_t h2) (by decide) (by decide) ?_
    refine o_iloadN B 23 24 (v := x0) d10_23 rfl rfl ?_
    refine o_retI B 24 d10_24 hret hlk (by decide) (by decide) ⟨(congrArg (fun z => some (Value.int z)) (show f10 x0 x1 x2 = x0 from rfl)).symm, rfl, rfl⟩
theorem d9_0 : decode jdk_31_method_19_code 0 = .ok (.iload_n 0, 1) := by decide +kernel
theorem d9_1 : decode jdk_31_method_19_code 1 = .ok (.iload_n 1, 1) := by decide +kernel
theorem d9_2 : decode jdk_31_method_19_code 2 = .ok (.iload_n 2, 1) := by decide +kernel
theorem d9_3 : decode jdk_31_method_19_code 3 = .ok (.aconst_null, 1) := by decide +kernel
theorem d9_4 : decode jdk_31_method_19_code 4 = .ok (.invokestatic 115, 3) := by decide +kernel
theorem d9_7 : decode jdk_31_method_19_code 7 = .ok (.ireturn, 1) := by decide +kernel
theorem pl9 : plainFor (⟨"java/util/Objects", "checkFromIndexSize", "(III)I"⟩ : MethodName) = true := by first | exact plainFor_of_name (by first | (simp [plainName, overriddenIn]; done) | decide +kernel) | decide +kernel
theorem pd__IIILjava_util_function_BiFunction__I : parseMethodDescriptor "(IIILjava/util/function/BiFunction;)I" = some ⟨[.int, .int, .int, (.object "java/util/function/BiFunction")], some .int⟩ := by decide +kernel
def f9 (x0 : Int32) (x1 : Int32) (x2 : Int32) : Int32 := (f10 x0 x1 x2)
set_option maxRecDepth 65536 in
set_option maxHeartbeats 40000000 in
theorem rm9 (l : Launch) (Z : State) (a0 : Array Value) (hw : ∀ d ∈ tables_1, d.before a0 Z = true) (x0 : Int32) (x1 : Int32) (x2 : Int32) (h0 : Heap) (h1 : ¬ ((x2 ||| x0) ||| x1) < 0) (h2 : ¬ (x2 - x0) < x1) :
    Met l Z (⟨"java/util/Objects", "checkFromIndexSize", "(III)I"⟩ : MethodName) jdk_31_method_19_code 3 (some .int) ({ frames := 1, cells := 0, slots := 0, locals := 15 } : Room) #[(.int x0), (.int x1), (.int x2)] h0 (Pu (some (.int (f9 x0 x1 x2))) h0) := by
  refine enter pl9 #[.val (.int x0), .val (.int x1), .val (.int x2)] rfl ?_
  intro p e s m below meth c T B hret hlk hnm
  · refine o_iloadN B 0 1 (v := x0) d9_0 rfl rfl ?_
    refine o_iloadN B 1 2 (v := x1) d9_1 rfl rfl ?_
    refine o_iloadN B 2 3 (v := x2) d9_2 rfl rfl ?_
    refine o_aconst_null B 3 4 d9_3 rfl ?_
    obtain ⟨T1, B1, c1⟩ := o_callP B 4 7 d9_4 rfl (hw _ (List.mem_of_getElem? (i := 53) rfl)) (hw _ (List.mem_of_getElem? (i := 54) rfl)) (hw _ (List.mem_of_getElem? (i := 55) rfl)) (hw _ (List.mem_of_getElem? (i := 56) rfl)) (by decide) (rm10 l Z a0 hw x0 x1 x2 h0  h1 h2) 0 [(.int x0), (.int x1), (.int x2), .null] [] pd__IIILjava_util_function_BiFunction__I rfl rfl (st := [.null, (.int x2), (.int x1), (.int x0)]) rfl (Ls := #[.val (.int x0), .val (.int x1), .val (.int x2)]) rfl (Nat.le_of_eq rfl) (by decide) (by decide) (by decide) (by decide)
    refine c1 ?_
    refine o_retI B1 7 d9_7 hret hlk (by decide) (by decide) ⟨(congrArg (fun z => some (Value.int z)) (show f9 x0 x1 x2 = (f10 x0 x1 x2) from rfl)).symm, rfl, rfl⟩
theorem own_rep (n i : Nat) (x : Value) : (List.replicate n x).getD i x = x := by
  rw [List.getD_eq_getElem?_getD, List.getElem?_replicate]
  split <;> rfl
theorem own_all {x : Value} : ∀ (L : List Value) (i : Nat), (∀ y ∈ L, y = x) → L.getD i x = x := by
  intro L i h
  rw [List.getD_eq_getElem?_getD]
  cases e : L[i]? with
  | none => rfl
  | some v => exact h v (List.mem_of_getElem? e)
theorem own_cl (n : Nat) (h : n < 2147483648) : (Int32.ofNat n).toNatClampNeg = n ∧ ¬ Int32.ofNat n < 0 := by
  have e : (Int32.ofNat n).toInt = n := Int32.toInt_ofNat_of_lt (by omega)
  have q := ix_of e
  exact ⟨q.2, q.1⟩
theorem own_arv {Z : State} {h : Heap} {a : Addr} {n : Nat} (A : AI Z h a .byte n (fun _ => 0)) : ∃ k, Arv Z h a k .byte (Int32.ofNat n) (List.replicate n (.int 0)) (.int 0) := by
  obtain ⟨c, A, S, hn, H⟩ := A
  have e := own_cl n hn
  refine ⟨c.cls, c, A, rfl, by rw [e.1]; exact S, e.2, fun k hk => ?_, fun i hi => ?_⟩
  · rw [own_rep]; exact H k (by omega)
  · rw [own_rep]; decide
theorem own_back {Z : State} {h : Heap} {a : Addr} {n : Nat} {k : ClassId} {L : List Value} (A : Arv Z h a k .byte (Int32.ofNat n) L (.int 0)) (hn : n < 2147483648) (hL : ∀ y ∈ L, y = .int 0) : AI Z h a .byte n (fun _ => 0) := by
  obtain ⟨c, A, -, S, -, H, -⟩ := A
  have e := own_cl n hn
  rw [e.1] at S
  exact ⟨c, A, S, hn, fun j hj => by rw [H j (by omega), own_all L j hL]⟩
theorem o_copy0 {own : String} {bs : ByteArray} {ml : Nat} {Z : State} {p : Program} {l : Launch} {e : Env} {R : Room} {s : State} {m : MethodId} {args : Array Value} {below : List Frame} {meth : Method} {c : Code} {T : State} {h : Heap} {locs : List Loc} {cells slots n0 n n' : Nat} {Ls : Array Slot} {rest : List Value} {a0 : Array Value} {a b : Addr} {index : Nat} {sp dp nn : Int32}
    (B : Bx own bs ml Z p l e R s m args below meth c T h locs cells slots) (N : Fr n0 locs) (ge : n0 ≤ b) (pc pc' : Nat) (A : AI Z h a .byte n (fun _ => 0)) (A' : AI Z h b .byte n' (fun _ => 0)) (hd : decode bs pc = .ok (.invokestatic index, 3)) (hp : pc + 3 = pc')
    (w1 : (Cond.methodLink own index Jvm.Stand.acN).before a0 Z = true) (w2 : (Cond.native Jvm.Stand.acN).before a0 Z = true) (w3 : (Cond.static Jvm.Stand.acN).before a0 Z = true) (w4 : (Cond.initialized "java/lang/System").before a0 Z = true)
    (h1 : ¬ sp < 0) (h2 : ¬ dp < 0) (h3 : ¬ nn < 0) (h4 : sp.toNatClampNeg + nn.toNatClampNeg ≤ n) (h5 : dp.toNatClampNeg + nn.toNatClampNeg ≤ n') (hsz : Ls.size = ml) (W : Nat) (hW : (rest.map fun v => v.category).sum ≤ W) (hf : 1 ≤ R.frames) (hl : W + (nativeFrameWords "java/lang/System" "arraycopy" 5 + 11) ≤ R.locals) :
    ∃ T' h' L', Bx own bs ml Z p l e R s m args below meth c T' h' L' cells slots ∧ Fr n0 L' ∧ Keep h h' [b] ∧ AI Z h' b .byte n' (fun _ => 0) ∧ ∀ {P : Outcome → State → Prop}, OG p.tables e below P (T'.setTop (mkF m pc' Ls rest)) → OG p.tables e below P (T.setTop (mkF m pc Ls (.int nn :: .int dp :: .ref b :: .int sp :: .ref a :: rest))) := by
  subst hp
  obtain ⟨X, hx, hby, hml, hown, hZ, eT⟩ := B
  have ln := A.len
  have ln' := A'.len
  obtain ⟨k, V⟩ := own_arv A
  obtain ⟨k', V'⟩ := own_arv A'
  obtain ⟨T', h', L', X', e', N', K', V2, st⟩ := cpA X hx hZ hown w1 w2 w3 w4 eT V V' (Or.inl ⟨rfl, rfl⟩) h1 h2 h3 (by rw [(own_cl n ln).1]; exact h4) (by rw [(own_cl n' ln').1]; exact h5) rfl (by rw [List.length_replicate]; exact h5) N ge (g := mkF m pc Ls (.int nn :: .int dp :: .ref b :: .int sp :: .ref a :: rest)) rfl (by rw [hml]; exact hsz) rfl (hb hby hd) hf (W := W) (by simpa using hW) hl
  refine ⟨T', h', L', ⟨X', hx, hby, hml, hown, hZ, e'⟩, N', K', own_back V2 ln' ?_, fun k => k.of st⟩
  intro y hy
  rcases List.mem_append.mp hy with q | q
  · rcases List.mem_append.mp q with q | q
    · exact (List.mem_replicate.mp (List.mem_of_mem_take q)).2
    · obtain ⟨i, -, rfl⟩ := List.mem_map.mp q
      exact own_rep _ _ _
  · exact (List.mem_replicate.mp (List.mem_of_mem_drop q)).2
def Rd (y0 y1 x2 : Int32) : Prop := 0 ≤ y0.toInt ∧ y0.toInt ≤ 3 ∧ y1.toInt - y0.toInt ≤ 3 ∧ 1 ≤ x2.toInt ∧ x2.toInt ≤ y1.toInt - y0.toInt
theorem own_ok {y0 y1 : Int32} (x2 : Int32) (h : Rd y0 y1 x2) : (¬ ((4 ||| 0) ||| x2 : Int32) < 0) ∧ ¬ ((4 : Int32) - 0) < x2 := by
  unfold Rd at h
  have a := c_orS (4 ||| 0) x2
  rw [show ((4 : Int32) ||| 0).toInt = 4 by decide] at a
  constructor
  · rw [Int32.lt_iff_toInt_lt, Int32.toInt_zero]
    omega
  · rw [show ((4 : Int32) - 0) = 4 by decide, Int32.lt_iff_toInt_lt, show (4 : Int32).toInt = 4 by decide]
    omega
theorem own_min {y0 y1 x2 : Int32} (h : Rd y0 y1 x2) : f11 x2 (y1 - y0) = x2 := by
  unfold Rd at h
  have a := c_isub y1 y0
  have b := rng32 (y1 - y0)
  unfold f11
  split
  · rename_i q
    rw [Int32.lt_iff_toInt_lt] at q
    exfalso
    omega
  · rfl
theorem own_cp {y0 y1 x2 : Int32} (h : Rd y0 y1 x2) : ¬ y0 < 0 ∧ ¬ x2 < 0 ∧ y0.toNatClampNeg + x2.toNatClampNeg ≤ 8 ∧ (0 : Int32).toNatClampNeg + x2.toNatClampNeg ≤ 4 := by
  unfold Rd at h
  have a := ix_of (j := y0) (k := y0.toInt.toNat) (by omega)
  have b := ix_of (j := x2) (k := x2.toInt.toNat) (by omega)
  refine ⟨a.1, b.1, ?_, ?_⟩
  · rw [a.2, b.2]; omega
  · rw [b.2, show (0 : Int32).toNatClampNeg = 0 by decide]; omega
theorem own_rd {y0 y1 x2 : Int32} (h : Rd y0 y1 x2) : ¬ x2 = 0 ∧ ¬ y0 = y1 := by
  unfold Rd at h
  rw [← Int32.toInt_inj, ← Int32.toInt_inj, Int32.toInt_zero]
  omega
theorem d8_0 : decode prog_64_method_9_code 0 = .ok (.iload_n 2, 1) := by decide +kernel
theorem d8_1 : decode prog_64_method_9_code 1 = .ok (.iload_n 3, 1) := by decide +kernel
theorem d8_2 : decode prog_64_method_9_code 2 = .ok (.aload_n 1, 1) := by decide +kernel
theorem d8_3 : decode prog_64_method_9_code 3 = .ok (.arraylength, 1) := by decide +kernel
theorem d8_4 : decode prog_64_method_9_code 4 = .ok (.invokestatic 34, 3) := by decide +kernel
theorem d8_7 : decode prog_64_method_9_code 7 = .ok (.pop, 1) := by decide +kernel
theorem d8_8 : decode prog_64_method_9_code 8 = .ok (.iload_n 3, 1) := by decide +kernel
theorem d8_9 : decode prog_64_method_9_code 9 = .ok (.ifCond .ne 5, 3) := by decide +kernel
theorem d8_12 : decode prog_64_method_9_code 12 = .ok (.iconst 0, 1) := by decide +kernel
theorem d8_13 : decode prog_64_method_9_code 13 = .ok (.ireturn, 1) := by decide +kernel
theorem d8_14 : decode prog_64_method_9_code 14 = .ok (.aload_n 0, 1) := by decide +kernel
theorem d8_15 : decode prog_64_method_9_code 15 = .ok (.getfield 13, 3) := by decide +kernel
theorem d8_18 : decode prog_64_method_9_code 18 = .ok (.aload_n 0, 1) := by decide +kernel
theorem d8_19 : decode prog_64_method_9_code 19 = .ok (.getfield 17, 3) := by decide +kernel
theorem d8_22 : decode prog_64_method_9_code 22 = .ok (.if_icmp .ne 8, 3) := by decide +kernel
theorem d8_25 : decode prog_64_method_9_code 25 = .ok (.aload_n 0, 1) := by decide +kernel
theorem d8_26 : decode prog_64_method_9_code 26 = .ok (.invokevirtual 30, 3) := by decide +kernel
theorem d8_29 : decode prog_64_method_9_code 29 = .ok (.ireturn, 1) := by decide +kernel
theorem d8_30 : decode prog_64_method_9_code 30 = .ok (.iload_n 3, 1) := by decide +kernel
theorem d8_31 : decode prog_64_method_9_code 31 = .ok (.aload_n 0, 1) := by decide +kernel
theorem d8_32 : decode prog_64_method_9_code 32 = .ok (.getfield 17, 3) := by decide +kernel
theorem d8_35 : decode prog_64_method_9_code 35 = .ok (.aload_n 0, 1) := by decide +kernel
theorem d8_36 : decode prog_64_method_9_code 36 = .ok (.getfield 13, 3) := by decide +kernel
theorem d8_39 : decode prog_64_method_9_code 39 = .ok (.isub, 1) := by decide +kernel
theorem d8_40 : decode prog_64_method_9_code 40 = .ok (.invokestatic 40, 3) := by decide +kernel
theorem d8_43 : decode prog_64_method_9_code 43 = .ok (.istore 4, 2) := by decide +kernel
theorem d8_45 : decode prog_64_method_9_code 45 = .ok (.aload_n 0, 1) := by decide +kernel
theorem d8_46 : decode prog_64_method_9_code 46 = .ok (.getfield 7, 3) := by decide +kernel
theorem d8_49 : decode prog_64_method_9_code 49 = .ok (.aload_n 0, 1) := by decide +kernel
theorem d8_50 : decode prog_64_method_9_code 50 = .ok (.getfield 13, 3) := by decide +kernel
theorem d8_53 : decode prog_64_method_9_code 53 = .ok (.aload_n 1, 1) := by decide +kernel
theorem d8_54 : decode prog_64_method_9_code 54 = .ok (.iload_n 2, 1) := by decide +kernel
theorem d8_55 : decode prog_64_method_9_code 55 = .ok (.iload 4, 2) := by decide +kernel
theorem d8_57 : decode prog_64_method_9_code 57 = .ok (.invokestatic 46, 3) := by decide +kernel
theorem d8_60 : decode prog_64_method_9_code 60 = .ok (.aload_n 0, 1) := by decide +kernel
theorem d8_61 : decode prog_64_method_9_code 61 = .ok (.dup, 1) := by decide +kernel
theorem d8_62 : decode prog_64_method_9_code 62 = .ok (.getfield 13, 3) := by decide +kernel
theorem d8_65 : decode prog_64_method_9_code 65 = .ok (.iload 4, 2) := by decide +kernel
theorem d8_67 : decode prog_64_method_9_code 67 = .ok (.iadd, 1) := by decide +kernel
theorem d8_68 : decode prog_64_method_9_code 68 = .ok (.putfield 13, 3) := by decide +kernel
theorem d8_71 : decode prog_64_method_9_code 71 = .ok (.iload 4, 2) := by decide +kernel
theorem d8_73 : decode prog_64_method_9_code 73 = .ok (.ireturn, 1) := by decide +kernel
theorem pl8 : plainFor (⟨"com/example/doorward/doorward/server/Http1Reader$Arrived", "read", "([BII)I"⟩ : MethodName) = true := by first | exact plainFor_of_name (by first | (simp [plainName, overriddenIn]; done) | decide +kernel) | decide +kernel
theorem pd__III_I : parseMethodDescriptor "(III)I" = some ⟨[.int, .int, .int], some .int⟩ := by decide +kernel
theorem pd__II_I : parseMethodDescriptor "(II)I" = some ⟨[.int, .int], some .int⟩ := by decide +kernel
def f8 (y0 : Int32) (y1 : Int32) (y2 : Int32) (x2 : Int32) : Int32 := x2
def o8_0 (y0 : Int32) (y1 : Int32) (y2 : Int32) (x2 : Int32) : Nat → Int32 := (fun _ => 0)
def o8_1 (y0 : Int32) (y1 : Int32) (y2 : Int32) (x2 : Int32) : Int32 := (y0 + x2)
def o8_2 (y0 : Int32) (y1 : Int32) (y2 : Int32) (x2 : Int32) : Int32 := y1
def o8_3 (y0 : Int32) (y1 : Int32) (y2 : Int32) (x2 : Int32) : Int32 := y2
def Q8 (Z : State) (a : Addr) (yb : Addr) (y0 : Int32) (y1 : Int32) (y2 : Int32) (x0 : Addr) (x2 : Int32) (h0 : Heap) (n0 : Nat) (v : Option Value) (h : Heap) (L : List Loc) : Prop := v = some (.int (f8 y0 y1 y2 x2)) ∧ Fr n0 L ∧ Keep h0 h [a, x0] ∧ AI Z h x0 .byte 4 (o8_0 y0 y1 y2 x2) ∧ Fld Z h a "com/example/doorward/doorward/server/Http1Reader$Arrived" "position" "I" (.int (o8_1 y0 y1 y2 x2)) ∧ Fld Z h a "com/example/doorward/doorward/server/Http1Reader$Arrived" "limit" "I" (.int (o8_2 y0 y1 y2 x2)) ∧ Fld Z h a "com/example/doorward/doorward/server/Http1Reader$Arrived" "ended" "Z" (.int (o8_3 y0 y1 y2 x2))
set_option maxRecDepth 65536 in
set_option maxHeartbeats 40000000 in
theorem rm8 (l : Launch) (Z : State) (a0 : Array Value) (hw : ∀ d ∈ tables_1, d.before a0 Z = true) (a : Addr) (yb : Addr) (y0 : Int32) (y1 : Int32) (y2 : Int32) (x0 : Addr) (x2 : Int32) (h0 : Heap) (n0 : Nat) (hz : n0 ≤ h0.size) (ga : n0 ≤ a) (hE : Exa Z h0 a "com/example/doorward/doorward/server/Http1Reader$Arrived") (G0 : Fld Z h0 a "com/example/doorward/doorward/server/Http1Reader$Arrived" "bytes" "[B" (.ref yb)) (G1 : Fld Z h0 a "com/example/doorward/doorward/server/Http1Reader$Arrived" "position" "I" (.int y0)) (G2 : Fld Z h0 a "com/example/doorward/doorward/server/Http1Reader$Arrived" "limit" "I" (.int y1)) (G3 : Fld Z h0 a "com/example/doorward/doorward/server/Http1Reader$Arrived" "ended" "Z" (.int y2)) (A0 : AI Z h0 yb .byte 8 (fun _ => 0)) (A1 : AI Z h0 x0 .byte 4 (fun _ => 0)) (gw_x0 : n0 ≤ x0) (ne_yb_x0 : yb ≠ x0) (ne_a_x0 : a ≠ x0) (ne_a_yb : a ≠ yb) (hr : Rd y0 y1 x2) :
    Met l Z (⟨"com/example/doorward/doorward/server/Http1Reader$Arrived", "read", "([BII)I"⟩ : MethodName) prog_64_method_9_code 5 (some .int) ({ frames := 2, cells := 0, slots := 0, locals := 29 } : Room) #[(.ref a), (.ref x0), (.int (0 : Int32)), (.int x2)] h0 (Q8 Z a yb y0 y1 y2 x0 x2 h0 n0) := by
  refine enter pl8 #[.val (.ref a), .val (.ref x0), .val (.int (0 : Int32)), .val (.int x2), .unset] rfl ?_
  intro p e s m below meth c T B hret hlk hnm
  have N0 := Fr.nil n0
  refine o_iloadN B 0 1 (v := (0 : Int32)) d8_0 rfl rfl ?_
  refine o_iloadN B 1 2 (v := x2) d8_1 rfl rfl ?_
  refine o_aloadN B 2 3 (v := (.ref x0)) d8_2 rfl rfl rfl ?_
  refine o_alenI B 3 4 A1 (4 : Int32) d8_3 rfl (by decide) ?_
  obtain ⟨T2, B2, c2⟩ := o_callP B 4 7 d8_4 rfl (hw _ (List.mem_of_getElem? (i := 49) rfl)) (hw _ (List.mem_of_getElem? (i := 50) rfl)) (hw _ (List.mem_of_getElem? (i := 51) rfl)) (hw _ (List.mem_of_getElem? (i := 52) rfl)) (by decide) (rm9 l Z a0 hw (0 : Int32) x2 (4 : Int32) h0  (own_ok x2 hr).1 (own_ok x2 hr).2) 0 [(.int (0 : Int32)), (.int x2), (.int (4 : Int32))] [] pd__III_I rfl rfl (st := [(.int (4 : Int32)), (.int x2), (.int (0 : Int32))]) rfl (Ls := #[.val (.ref a), .val (.ref x0), .val (.int (0 : Int32)), .val (.int x2), .unset]) rfl (Nat.le_of_eq rfl) (by decide) (by decide) (by decide) (by decide)
  refine c2 ?_
  refine o_pop B2 7 8 d8_7 rfl rfl ?_
  refine o_iloadN B2 8 9 (v := x2) d8_8 rfl rfl ?_
  refine o_ifY B2 9 14 d8_9 (XT.i0_ne_t (own_rd hr).1) (by decide) (by decide) ?_
  refine o_aloadN B2 14 15 (v := (.ref a)) d8_14 rfl rfl rfl ?_
  obtain ⟨T3, B3, c3⟩ := o_getfield B2 15 18 d8_15 rfl (host := "") (Or.inl (hw _ (List.mem_of_getElem? (i := 35) rfl))) Via.refl G1 (Ls := #[.val (.ref a), .val (.ref x0), .val (.int (0 : Int32)), .val (.int x2), .unset]) (rest := [])
  refine c3 ?_
  refine o_aloadN B3 18 19 (v := (.ref a)) d8_18 rfl rfl rfl ?_
  obtain ⟨T4, B4, c4⟩ := o_getfield B3 19 22 d8_19 rfl (host := "") (Or.inl (hw _ (List.mem_of_getElem? (i := 36) rfl))) Via.refl G2 (Ls := #[.val (.ref a), .val (.ref x0), .val (.int (0 : Int32)), .val (.int x2), .unset]) (rest := [(.int y0)])
  refine c4 ?_
  refine o_icY B4 22 30 d8_22 (XT.ii_ne_t (own_rd hr).2) (by decide) (by decide) ?_
  refine o_iloadN B4 30 31 (v := x2) d8_30 rfl rfl ?_
  refine o_aloadN B4 31 32 (v := (.ref a)) d8_31 rfl rfl rfl ?_
  obtain ⟨T5, B5, c5⟩ := o_getfield B4 32 35 d8_32 rfl (host := "") (Or.inl (hw _ (List.mem_of_getElem? (i := 36) rfl))) Via.refl G2 (Ls := #[.val (.ref a), .val (.ref x0), .val (.int (0 : Int32)), .val (.int x2), .unset]) (rest := [(.int x2)])
  refine c5 ?_
  refine o_aloadN B5 35 36 (v := (.ref a)) d8_35 rfl rfl rfl ?_
  obtain ⟨T6, B6, c6⟩ := o_getfield B5 36 39 d8_36 rfl (host := "") (Or.inl (hw _ (List.mem_of_getElem? (i := 35) rfl))) Via.refl G1 (Ls := #[.val (.ref a), .val (.ref x0), .val (.int (0 : Int32)), .val (.int x2), .unset]) (rest := [(.int y1), (.int x2)])
  refine c6 ?_
  refine o_isub B6 39 40 d8_39 rfl ?_
  obtain ⟨T7, B7, c7⟩ := o_callP B6 40 43 d8_40 rfl (hw _ (List.mem_of_getElem? (i := 57) rfl)) (hw _ (List.mem_of_getElem? (i := 58) rfl)) (hw _ (List.mem_of_getElem? (i := 17) rfl)) (hw _ (List.mem_of_getElem? (i := 59) rfl)) (by decide) (rm11 l Z a0 hw x2 (y1 - y0) h0 ) 0 [(.int x2), (.int (y1 - y0))] [] pd__II_I rfl rfl (st := [(.int (y1 - y0)), (.int x2)]) rfl (Ls := #[.val (.ref a), .val (.ref x0), .val (.int (0 : Int32)), .val (.int x2), .unset]) rfl (Nat.le_of_eq rfl) (by decide) (by decide) (by decide) (by decide)
  refine c7 ?_
  rw [own_min hr]
  refine o_istore B7 43 45 (l' := #[.val (.ref a), .val (.ref x0), .val (.int (0 : Int32)), .val (.int x2), .val (.int x2)]) d8_43 rfl rfl ?_
  refine o_aloadN B7 45 46 (v := (.ref a)) d8_45 rfl rfl rfl ?_
  obtain ⟨T8, B8, c8⟩ := o_getfield B7 46 49 d8_46 rfl (host := "") (Or.inl (hw _ (List.mem_of_getElem? (i := 42) rfl))) Via.refl G0 (Ls := #[.val (.ref a), .val (.ref x0), .val (.int (0 : Int32)), .val (.int x2), .val (.int x2)]) (rest := [])
  refine c8 ?_
  refine o_aloadN B8 49 50 (v := (.ref a)) d8_49 rfl rfl rfl ?_
  obtain ⟨T9, B9, c9⟩ := o_getfield B8 50 53 d8_50 rfl (host := "") (Or.inl (hw _ (List.mem_of_getElem? (i := 35) rfl))) Via.refl G1 (Ls := #[.val (.ref a), .val (.ref x0), .val (.int (0 : Int32)), .val (.int x2), .val (.int x2)]) (rest := [(.ref yb)])
  refine c9 ?_
  refine o_aloadN B9 53 54 (v := (.ref x0)) d8_53 rfl rfl rfl ?_
  refine o_iloadN B9 54 55 (v := (0 : Int32)) d8_54 rfl rfl ?_
  refine o_iload B9 55 57 (v := x2) d8_55 rfl rfl ?_
  obtain ⟨T10, h10, L10, B10, N10, K10, A10, c10⟩ := o_copy0 B9 N0 gw_x0 57 60 A0 A1 d8_57 rfl (hw _ (List.mem_of_getElem? (i := 60) rfl)) (hw _ (List.mem_of_getElem? (i := 63) rfl)) (hw _ (List.mem_of_getElem? (i := 61) rfl)) (hw _ (List.mem_of_getElem? (i := 62) rfl)) (sp := y0) (dp := (0 : Int32)) (nn := x2) (own_cp hr).1 (by decide) (own_cp hr).2.1 (own_cp hr).2.2.1 (own_cp hr).2.2.2 (Ls := #[.val (.ref a), .val (.ref x0), .val (.int (0 : Int32)), .val (.int x2), .val (.int x2)]) rfl 0 (rest := []) (Nat.le_of_eq rfl) (by decide) (by decide)
  refine c10 ?_
  refine o_aloadN B10 60 61 (v := (.ref a)) d8_60 rfl rfl rfl ?_
  refine o_dup B10 61 62 d8_61 rfl rfl ?_
  have F12 := (G1.keep K10 (ninS ne_a_x0 nin0))
  obtain ⟨T11, B11, c11⟩ := o_getfield B10 62 65 d8_62 rfl (host := "") (Or.inl (hw _ (List.mem_of_getElem? (i := 35) rfl))) Via.refl F12 (Ls := #[.val (.ref a), .val (.ref x0), .val (.int (0 : Int32)), .val (.int x2), .val (.int x2)]) (rest := [(.ref a)])
  refine c11 ?_
  refine o_iload B11 65 67 (v := x2) d8_65 rfl rfl ?_
  refine o_iadd B11 67 68 d8_67 rfl ?_
  have F14 := (hE.keep K10)
  obtain ⟨T13, h13, L13, B13, N13, W13, c13⟩ := o_putfield B11 N10 ga 68 71 (v := (.int (y0 + x2))) d8_68 rfl (host := "") (Or.inl (hw _ (List.mem_of_getElem? (i := 35) rfl))) Via.refl F12 F14 (Or.inl (hw _ (List.mem_of_getElem? (i := 20) rfl))) (hw _ (List.mem_of_getElem? (i := 1) rfl)) (ty := .int) (by decide) rfl rfl (Ls := #[.val (.ref a), .val (.ref x0), .val (.int (0 : Int32)), .val (.int x2), .val (.int x2)]) (rest := [])
  have F13 : Fld Z h13 a "com/example/doorward/doorward/server/Http1Reader$Arrived" "position" "I" (.int (y0 + x2)) := Fld.same W13 F12
  refine c13 ?_
  refine o_iload B13 71 73 (v := x2) d8_71 rfl rfl ?_
  have F15 := (A10.other W13 (Ne.symm ne_a_x0))
  have F16 := (Fld.other W13 (G2.keep K10 (ninS ne_a_x0 nin0)) (Or.inr (slot_ne (a0 := a0) (C := "com/example/doorward/doorward/server/Http1Reader$Arrived") (Or.inl (hw _ (List.mem_of_getElem? (i := 22) rfl))) (Or.inl (hw _ (List.mem_of_getElem? (i := 20) rfl))) (by decide) (t := .int) (t' := .int) (by decide) (by decide))))
  have F17 := (Fld.other W13 (G3.keep K10 (ninS ne_a_x0 nin0)) (Or.inr (slot_ne (a0 := a0) (C := "com/example/doorward/doorward/server/Http1Reader$Arrived") (Or.inl (hw _ (List.mem_of_getElem? (i := 29) rfl))) (Or.inl (hw _ (List.mem_of_getElem? (i := 20) rfl))) (by decide) (t := .boolean) (t' := .int) (by decide) (by decide))))
  refine o_retI B13 73 d8_73 hret hlk (by decide) (by decide) ⟨(congrArg (fun z => some (Value.int z)) (show f8 y0 y1 y2 x2 = x2 from rfl)).symm, N13, (((Keep.refl _ _).trans K10 (allS (Or.inl (List.mem_of_getElem? (i := 1) rfl)) all0)).wr W13 (Or.inl (List.mem_of_getElem? (i := 0) rfl))), (by rw [show (o8_0 y0 y1 y2 x2) = (fun _ => 0) from rfl]; exact F15), (by rw [show (o8_1 y0 y1 y2 x2) = (y0 + x2) from rfl]; exact F13), (by rw [show (o8_2 y0 y1 y2 x2) = y1 from rfl]; exact F16), (by rw [show (o8_3 y0 y1 y2 x2) = y2 from rfl]; exact F17)⟩
theorem pl0 : plainFor x = true := by first | exact plainFor_of_name (by first | (simp [plainName, overriddenIn]; done) | decide +kernel) | decide +kernel
theorem pd___BII_V : parseMethodDescriptor "([BII)V" = some ⟨[(.array .byte), .int, .int], none⟩ := by decide +kernel
theorem pd___BII_I : parseMethodDescriptor "([BII)I" = some ⟨[(.array .byte), .int, .int], some .int⟩ := by decide +kernel
theorem pd___Z : parseMethodDescriptor "()Z" = some ⟨[], some .boolean⟩ := by decide +kernel
def q0_1 (x0 : Int32) (x1 : Int32) (x2 : Int32) (x3 : Int32) (x4 : Int32) (x5 : Int32) : Int32 := (if (x5 &&& (2 : Int32)) = 0 then (0 : Int32) else (1 : Int32))
def q0_2 (x0 : Int32) (x1 : Int32) (x2 : Int32) (x3 : Int32) (x4 : Int32) (x5 : Int32) : Int32 := (if (x5 &&& (1 : Int32)) = 0 then (0 : Int32) else (1 : Int32))
def q0_3 (x0 : Int32) (x1 : Int32) (x2 : Int32) (x3 : Int32) (x4 : Int32) (x5 : Int32) : Int32 := ((x2 &&& (3 : Int32)) % ((x1 &&& (3 : Int32)) + (1 : Int32)))
def q0_4 (x0 : Int32) (x1 : Int32) (x2 : Int32) (x3 : Int32) (x4 : Int32) (x5 : Int32) : Int32 := (if (q0_3 x0 x1 x2 x3 x4 x5) = (x1 &&& (3 : Int32)) then (1 : Int32) else 0)
def q0_5 (x0 : Int32) (x1 : Int32) (x2 : Int32) (x3 : Int32) (x4 : Int32) (x5 : Int32) : Int32 := (f6 ((x0 &&& (3 : Int32)) + (q0_3 x0 x1 x2 x3 x4 x5)) ((x0 &&& (3 : Int32)) + (x1 &&& (3 : Int32))) (0 : Int32))
def q0_6 (x0 : Int32) (x1 : Int32) (x2 : Int32) (x3 : Int32) (x4 : Int32) (x5 : Int32) : Int32 := (if (q0_2 x0 x1 x2 x3 x4 x5) = 0 then (1 : Int32) else 0)
def q0_7 (x0 : Int32) (x1 : Int32) (x2 : Int32) (x3 : Int32) (x4 : Int32) (x5 : Int32) : Int32 := (if (q0_3 x0 x1 x2 x3 x4 x5) = (x1 &&& (3 : Int32)) then (q0_6 x0 x1 x2 x3 x4 x5) else (0 : Int32))
def q0_8 (x0 : Int32) (x1 : Int32) (x2 : Int32) (x3 : Int32) (x4 : Int32) (x5 : Int32) : Int32 := (f6 ((x0 &&& (3 : Int32)) + (q0_3 x0 x1 x2 x3 x4 x5)) ((x0 &&& (3 : Int32)) + (x1 &&& (3 : Int32))) (1 : Int32))
def q0_9 (x0 : Int32) (x1 : Int32) (x2 : Int32) (x3 : Int32) (x4 : Int32) (x5 : Int32) : Int32 := (f6 (x0 &&& (3 : Int32)) ((x0 &&& (3 : Int32)) + (x1 &&& (3 : Int32))) (0 : Int32))
def q0_10 (x0 : Int32) (x1 : Int32) (x2 : Int32) (x3 : Int32) (x4 : Int32) (x5 : Int32) : Int32 := (f6 (x0 &&& (3 : Int32)) ((x0 &&& (3 : Int32)) + (x1 &&& (3 : Int32))) (1 : Int32))
def q0_11 (x0 : Int32) (x1 : Int32) (x2 : Int32) (x3 : Int32) (x4 : Int32) (x5 : Int32) : Int32 := (if (f4 x3 x4) = x3 then (q0_6 x0 x1 x2 x3 x4 x5) else (0 : Int32))
def f0 (x0 : Int32) (x1 : Int32) (x2 : Int32) (x3 : Int32) (x4 : Int32) (x5 : Int32) : Int32 := (if (q0_1 x0 x1 x2 x3 x4 x5) = 0 then (if 0 < (q0_3 x0 x1 x2 x3 x4 x5) then (if (q0_2 x0 x1 x2 x3 x4 x5) = 0 then (if (q0_5 x0 x1 x2 x3 x4 x5) = (q0_7 x0 x1 x2 x3 x4 x5) then (1 : Int32) else (0 : Int32)) else (if (q0_8 x0 x1 x2 x3 x4 x5) = (q0_7 x0 x1 x2 x3 x4 x5) then (1 : Int32) else (0 : Int32))) else (if (q0_2 x0 x1 x2 x3 x4 x5) = 0 then (if (q0_9 x0 x1 x2 x3 x4 x5) = (q0_7 x0 x1 x2 x3 x4 x5) then (1 : Int32) else (0 : Int32)) else (if (q0_10 x0 x1 x2 x3 x4 x5) = (q0_7 x0 x1 x2 x3 x4 x5) then (1 : Int32) else (0 : Int32)))) else (if (x5 &&& (4 : Int32)) = 0 then (if (q0_2 x0 x1 x2 x3 x4 x5) = 0 then (if (f6 x3 (f4 x3 x4) (0 : Int32)) = (q0_11 x0 x1 x2 x3 x4 x5) then (1 : Int32) else (0 : Int32)) else (if (f6 x3 (f4 x3 x4) (1 : Int32)) = (q0_11 x0 x1 x2 x3 x4 x5) then (1 : Int32) else (0 : Int32))) else (if (q0_2 x0 x1 x2 x3 x4 x5) = 0 then (if (f6 x3 x3 (0 : Int32)) = (q0_6 x0 x1 x2 x3 x4 x5) then (1 : Int32) else (0 : Int32)) else (if (f6 x3 x3 (1 : Int32)) = (q0_6 x0 x1 x2 x3 x4 x5) then (1 : Int32) else (0 : Int32)))))
theorem own_nz (x1 : Int32) : (x1 &&& 3) + 1 ≠ 0 := by
  have m := c_mask x1 3 2 (by decide) (by decide)
  have a := c_iadd (x1 &&& 3) 1
  rw [show (1 : Int32).toInt = 1 by decide] at a
  intro h
  rw [h] at a
  simp only [Int32.reduceToInt] at a
  omega
theorem own_r (x0 x1 x2 x3 x4 x5 : Int32) : 0 ≤ (x0 &&& 3).toInt ∧ (x0 &&& 3).toInt ≤ 3 ∧ 0 ≤ (x1 &&& 3).toInt ∧ (x1 &&& 3).toInt ≤ 3 ∧ 0 ≤ (q0_3 x0 x1 x2 x3 x4 x5).toInt ∧ (q0_3 x0 x1 x2 x3 x4 x5).toInt ≤ (x1 &&& 3).toInt ∧ ((x0 &&& 3) + (x1 &&& 3)).toInt = (x0 &&& 3).toInt + (x1 &&& 3).toInt ∧ ((x0 &&& 3) + (q0_3 x0 x1 x2 x3 x4 x5)).toInt = (x0 &&& 3).toInt + (q0_3 x0 x1 x2 x3 x4 x5).toInt := by
  have m0 := c_mask x0 3 2 (by decide) (by decide)
  have m1 := c_mask x1 3 2 (by decide) (by decide)
  have m2 := c_mask x2 3 2 (by decide) (by decide)
  have a := c_iadd (x1 &&& 3) 1
  have a2 := rng32 ((x1 &&& 3) + 1)
  rw [show (1 : Int32).toInt = 1 by decide] at a
  have r := c_iremV (x2 &&& 3) ((x1 &&& 3) + 1)
  have e : (q0_3 x0 x1 x2 x3 x4 x5).toInt = ((x2 &&& 3) % ((x1 &&& 3) + 1)).toInt := rfl
  have hr : 0 ≤ (q0_3 x0 x1 x2 x3 x4 x5).toInt ∧ (q0_3 x0 x1 x2 x3 x4 x5).toInt ≤ (x1 &&& 3).toInt := by omega
  have b := c_iadd (x0 &&& 3) (x1 &&& 3)
  have b2 := rng32 ((x0 &&& 3) + (x1 &&& 3))
  have d := c_iadd (x0 &&& 3) (q0_3 x0 x1 x2 x3 x4 x5)
  have d2 := rng32 ((x0 &&& 3) + (q0_3 x0 x1 x2 x3 x4 x5))
  clear e r
  omega
theorem own_hr (x0 x1 x2 x3 x4 x5 : Int32) (h : 0 < q0_3 x0 x1 x2 x3 x4 x5) : Rd (x0 &&& 3) ((x0 &&& 3) + (x1 &&& 3)) (q0_3 x0 x1 x2 x3 x4 x5) := by
  have q := own_r x0 x1 x2 x3 x4 x5
  rw [Int32.lt_iff_toInt_lt, Int32.toInt_zero] at h
  unfold Rd
  omega
set_option maxRecDepth 65536 in
set_option maxHeartbeats 40000000 in
theorem rm0 (l : Launch) (Z : State) (a0 : Array Value) (hw : ∀ d ∈ tables_1, d.before a0 Z = true) (ws : List Jvm.Cond) (x0 : Int32) (x1 : Int32) (x2 : Int32) (x3 : Int32) (x4 : Int32) (x5 : Int32) (h0 : Heap) (n0 : Nat) (hz : n0 ≤ h0.size) :
    MetFree l x (head1 (Jvm.Cond.code x code maxLocals ret :: ws) room_1) (fun a U => a = #[(.int x0), (.int x1), (.int x2), (.int x3), (.int x4), (.int x5)] ∧ Z.Warmed39 U.vm ∧ U.heap = h0) (fun _ _ _ _ _ => True) (fun _ U o U' => ∃ v L, o = .returned v ∧ Lw n0 (some (.int (f0 x0 x1 x2 x3 x4 x5))) v U'.heap L ∧ FrameEnd U o U' L room_1.cells room_1.slots) := by
  refine enter (y := x) (bs := code) (ml := maxLocals) (ret := ret) (Q := Lw n0 (some (.int (f0 x0 x1 x2 x3 x4 x5)))) pl0 #[.val (.int x0), .val (.int x1), .val (.int x2), .val (.int x3), .val (.int x4), .val (.int x5), .unset, .unset, .unset, .unset, .unset, .unset, .unset, .unset, .unset, .unset] rfl ?_
  intro p e s m below meth c T B hret hlk hnm
  have N0 := Fr.nil n0
  obtain ⟨a1, T1, h1, z1, B1, E1, X1, D1, c1⟩ := o_new B 0 3 at_0 rfl (hw _ (List.mem_of_getElem? (i := 0) rfl)) (hw _ (List.mem_of_getElem? (i := 1) rfl)) (hw _ (List.mem_of_getElem? (i := 2) rfl)) (by decide) (by decide) (Ls := #[.val (.int x0), .val (.int x1), .val (.int x2), .val (.int x3), .val (.int x4), .val (.int x5), .unset, .unset, .unset, .unset, .unset, .unset, .unset, .unset, .unset, .unset]) (rest := [])
  have g1 : n0 ≤ a1 := by rw [z1]; exact hz
  have s1 : n0 ≤ h1.size := Nat.le_trans hz E1.1
  have F2 : Fld Z h1 a1 "com/example/doorward/doorward/server/Http1Reader$Arrived" "position" "I" (.int (0 : Int32)) := D1 (Or.inl (hw _ (List.mem_of_getElem? (i := 20) rfl))) (ty := .int) (by decide)
  have F3 : Fld Z h1 a1 "com/example/doorward/doorward/server/Http1Reader$Arrived" "limit" "I" (.int (0 : Int32)) := D1 (Or.inl (hw _ (List.mem_of_getElem? (i := 22) rfl))) (ty := .int) (by decide)
  have F4 : Fld Z h1 a1 "com/example/doorward/doorward/server/Http1Reader$Arrived" "ended" "Z" (.int (0 : Int32)) := D1 (Or.inl (hw _ (List.mem_of_getElem? (i := 29) rfl))) (ty := .boolean) (by decide)
  have F5 : Fld Z h1 a1 "com/example/doorward/doorward/server/Http1Reader$Arrived" "bytes" "[B" .null := D1 (Or.inl (hw _ (List.mem_of_getElem? (i := 43) rfl))) (ty := (.array .byte)) (by decide)
  refine c1 ?_
  refine o_dup B1 3 4 at_3 rfl rfl ?_
  obtain ⟨T6, B6, c6⟩ := o_callNP B1 4 7 at_4 rfl rfl (hw _ (List.mem_of_getElem? (i := 3) rfl)) (hw _ (List.mem_of_getElem? (i := 4) rfl)) (hw _ (List.mem_of_getElem? (i := 2) rfl)) (hw _ (List.mem_of_getElem? (i := 5) rfl)) (by decide) (rm1 l Z a0 hw a1  h1 ) 1 [] [(.ref a1)] pd___V rfl rfl (st := [(.ref a1), (.ref a1)]) rfl (Ls := #[.val (.int x0), .val (.int x1), .val (.int x2), .val (.int x3), .val (.int x4), .val (.int x5), .unset, .unset, .unset, .unset, .unset, .unset, .unset, .unset, .unset, .unset]) rfl (Nat.le_of_eq rfl) (by decide) (by decide) (by decide) (by decide)
  refine c6 ?_
  refine o_astore B6 7 9 (l' := #[.val (.int x0), .val (.int x1), .val (.int x2), .val (.int x3), .val (.int x4), .val (.int x5), .val (.ref a1), .unset, .unset, .unset, .unset, .unset, .unset, .unset, .unset, .unset]) at_7 rfl rfl rfl ?_
  refine o_bipush B6 9 11 (8 : Int32) at_9 rfl (by decide) ?_
  obtain ⟨a7, T7, h7, z7, B7, E7, A7, c7⟩ := o_newI B6 11 13 (ty := .byte) (z := (8 : Int32)) 8 8 (hw _ (List.mem_of_getElem? (i := 14) rfl)) at_11 rfl rfl rfl (by decide) (by decide) (by decide) (by decide) (by decide) (by decide) (Ls := #[.val (.int x0), .val (.int x1), .val (.int x2), .val (.int x3), .val (.int x4), .val (.int x5), .val (.ref a1), .unset, .unset, .unset, .unset, .unset, .unset, .unset, .unset, .unset]) (rest := [])
  have ne8 : a1 ≠ a7 := by rw [z7]; exact Nat.ne_of_lt X1.lt
  have g7 : n0 ≤ a7 := by rw [z7]; exact s1
  have s7 : n0 ≤ h7.size := Nat.le_trans s1 E7.1
  refine c7 ?_
  refine o_astore B7 13 15 (l' := #[.val (.int x0), .val (.int x1), .val (.int x2), .val (.int x3), .val (.int x4), .val (.int x5), .val (.ref a1), .val (.ref a7), .unset, .unset, .unset, .unset, .unset, .unset, .unset, .unset]) at_13 rfl rfl rfl ?_
  refine o_iconst B7 15 16 (4 : Int32) at_15 rfl (by decide) ?_
  obtain ⟨a9, T9, h9, z9, B9, E9, A9, c9⟩ := o_newI B7 16 18 (ty := .byte) (z := (4 : Int32)) 4 4 (hw _ (List.mem_of_getElem? (i := 14) rfl)) at_16 rfl rfl rfl (by decide) (by decide) (by decide) (by decide) (by decide) (by decide) (Ls := #[.val (.int x0), .val (.int x1), .val (.int x2), .val (.int x3), .val (.int x4), .val (.int x5), .val (.ref a1), .val (.ref a7), .unset, .unset, .unset, .unset, .unset, .unset, .unset, .unset]) (rest := [])
  have F10 := (Exa.ext E7 X1)
  have ne11 : a1 ≠ a9 := by rw [z9]; exact Nat.ne_of_lt F10.lt
  have ne12 : a7 ≠ a9 := by rw [z9]; exact Nat.ne_of_lt A7.lt
  have g9 : n0 ≤ a9 := by rw [z9]; exact s7
  have s9 : n0 ≤ h9.size := Nat.le_trans s7 E9.1
  refine c9 ?_
  refine o_astore B9 18 20 (l' := #[.val (.int x0), .val (.int x1), .val (.int x2), .val (.int x3), .val (.int x4), .val (.int x5), .val (.ref a1), .val (.ref a7), .val (.ref a9), .unset, .unset, .unset, .unset, .unset, .unset, .unset]) at_18 rfl rfl rfl ?_
  refine o_iload B9 20 22 (v := x5) at_20 rfl rfl ?_
  refine o_iconst B9 22 23 (2 : Int32) at_22 rfl (by decide) ?_
  refine o_iand B9 23 24 at_23 rfl ?_
  have dm1 : ∀ {P : Outcome → State → Prop}, OG p.tables e below P (T9.setTop (mkF m 32 #[.val (.int x0), .val (.int x1), .val (.int x2), .val (.int x3), .val (.int x4), .val (.int x5), .val (.ref a1), .val (.ref a7), .val (.ref a9), .unset, .unset, .unset, .unset, .unset, .unset, .unset] [(.int (q0_1 x0 x1 x2 x3 x4 x5))])) → OG p.tables e below P (T9.setTop (mkF m 24 #[.val (.int x0), .val (.int x1), .val (.int x2), .val (.int x3), .val (.int x4), .val (.int x5), .val (.ref a1), .val (.ref a7), .val (.ref a9), .unset, .unset, .unset, .unset, .unset, .unset, .unset] [(.int (x5 &&& (2 : Int32)))])) := by
    intro P k
    by_cases k2 : (x5 &&& (2 : Int32)) = 0
    · refine o_ifY B9 24 31 at_24 (XT.i0_eq_t k2) (by decide) (by decide) ?_
      refine o_iconst B9 31 32 (0 : Int32) at_31 rfl (by decide) ?_
      have y0 : (q0_1 x0 x1 x2 x3 x4 x5) = (0 : Int32) := by simp only [q0_1, if_pos k2]
      rw [y0] at k
      exact k
    · refine o_ifN B9 24 27 at_24 rfl (XT.i0_eq_f k2) ?_
      refine o_iconst B9 27 28 (1 : Int32) at_27 rfl (by decide) ?_
      refine o_goto B9 28 32 at_28 (by decide) (by decide) ?_
      have y0 : (q0_1 x0 x1 x2 x3 x4 x5) = (1 : Int32) := by simp only [q0_1, if_neg k2]
      rw [y0] at k
      exact k
  refine dm1 ?_
  refine o_istore B9 32 34 (l' := #[.val (.int x0), .val (.int x1), .val (.int x2), .val (.int x3), .val (.int x4), .val (.int x5), .val (.ref a1), .val (.ref a7), .val (.ref a9), .val (.int (q0_1 x0 x1 x2 x3 x4 x5)), .unset, .unset, .unset, .unset, .unset, .unset]) at_32 rfl rfl ?_
  refine o_iload B9 34 36 (v := x5) at_34 rfl rfl ?_
  refine o_iconst B9 36 37 (1 : Int32) at_36 rfl (by decide) ?_
  refine o_iand B9 37 38 at_37 rfl ?_
  have dm3 : ∀ {P : Outcome → State → Prop}, OG p.tables e below P (T9.setTop (mkF m 46 #[.val (.int x0), .val (.int x1), .val (.int x2), .val (.int x3), .val (.int x4), .val (.int x5), .val (.ref a1), .val (.ref a7), .val (.ref a9), .val (.int (q0_1 x0 x1 x2 x3 x4 x5)), .unset, .unset, .unset, .unset, .unset, .unset] [(.int (q0_2 x0 x1 x2 x3 x4 x5))])) → OG p.tables e below P (T9.setTop (mkF m 38 #[.val (.int x0), .val (.int x1), .val (.int x2), .val (.int x3), .val (.int x4), .val (.int x5), .val (.ref a1), .val (.ref a7), .val (.ref a9), .val (.int (q0_1 x0 x1 x2 x3 x4 x5)), .unset, .unset, .unset, .unset, .unset, .unset] [(.int (x5 &&& (1 : Int32)))])) := by
    intro P k
    by_cases k4 : (x5 &&& (1 : Int32)) = 0
    · refine o_ifY B9 38 45 at_38 (XT.i0_eq_t k4) (by decide) (by decide) ?_
      refine o_iconst B9 45 46 (0 : Int32) at_45 rfl (by decide) ?_
      have y0 : (q0_2 x0 x1 x2 x3 x4 x5) = (0 : Int32) := by simp only [q0_2, if_pos k4]
      rw [y0] at k
      exact k
    · refine o_ifN B9 38 41 at_38 rfl (XT.i0_eq_f k4) ?_
      refine o_iconst B9 41 42 (1 : Int32) at_41 rfl (by decide) ?_
      refine o_goto B9 42 46 at_42 (by decide) (by decide) ?_
      have y0 : (q0_2 x0 x1 x2 x3 x4 x5) = (1 : Int32) := by simp only [q0_2, if_neg k4]
      rw [y0] at k
      exact k
  refine dm3 ?_
  refine o_istore B9 46 48 (l' := #[.val (.int x0), .val (.int x1), .val (.int x2), .val (.int x3), .val (.int x4), .val (.int x5), .val (.ref a1), .val (.ref a7), .val (.ref a9), .val (.int (q0_1 x0 x1 x2 x3 x4 x5)), .val (.int (q0_2 x0 x1 x2 x3 x4 x5)), .unset, .unset, .unset, .unset, .unset]) at_46 rfl rfl ?_
  refine o_iload B9 48 50 (v := (q0_1 x0 x1 x2 x3 x4 x5)) at_48 rfl rfl ?_
  by_cases k5 : (q0_1 x0 x1 x2 x3 x4 x5) = 0
  · refine o_ifY B9 50 101 at_50 (XT.i0_eq_t k5) (by decide) (by decide) ?_
    refine o_iloadN B9 101 102 (v := x0) at_101 rfl rfl ?_
    refine o_iconst B9 102 103 (3 : Int32) at_102 rfl (by decide) ?_
    refine o_iand B9 103 104 at_103 rfl ?_
    refine o_istore B9 104 106 (l' := #[.val (.int x0), .val (.int x1), .val (.int x2), .val (.int x3), .val (.int x4), .val (.int x5), .val (.ref a1), .val (.ref a7), .val (.ref a9), .val (.int (q0_1 x0 x1 x2 x3 x4 x5)), .val (.int (q0_2 x0 x1 x2 x3 x4 x5)), .unset, .val (.int (x0 &&& (3 : Int32))), .unset, .unset, .unset]) at_104 rfl rfl ?_
    refine o_iloadN B9 106 107 (v := x1) at_106 rfl rfl ?_
    refine o_iconst B9 107 108 (3 : Int32) at_107 rfl (by decide) ?_
    refine o_iand B9 108 109 at_108 rfl ?_
    refine o_istore B9 109 111 (l' := #[.val (.int x0), .val (.int x1), .val (.int x2), .val (.int x3), .val (.int x4), .val (.int x5), .val (.ref a1), .val (.ref a7), .val (.ref a9), .val (.int (q0_1 x0 x1 x2 x3 x4 x5)), .val (.int (q0_2 x0 x1 x2 x3 x4 x5)), .unset, .val (.int (x0 &&& (3 : Int32))), .val (.int (x1 &&& (3 : Int32))), .unset, .unset]) at_109 rfl rfl ?_
    refine o_iloadN B9 111 112 (v := x2) at_111 rfl rfl ?_
    refine o_iconst B9 112 113 (3 : Int32) at_112 rfl (by decide) ?_
    refine o_iand B9 113 114 at_113 rfl ?_
    refine o_iload B9 114 116 (v := (x1 &&& (3 : Int32))) at_114 rfl rfl ?_
    refine o_iconst B9 116 117 (1 : Int32) at_116 rfl (by decide) ?_
    refine o_iadd B9 117 118 at_117 rfl ?_
    refine o_irem B9 118 119 at_118 rfl (own_nz x1) ?_
    refine o_istore B9 119 121 (l' := #[.val (.int x0), .val (.int x1), .val (.int x2), .val (.int x3), .val (.int x4), .val (.int x5), .val (.ref a1), .val (.ref a7), .val (.ref a9), .val (.int (q0_1 x0 x1 x2 x3 x4 x5)), .val (.int (q0_2 x0 x1 x2 x3 x4 x5)), .unset, .val (.int (x0 &&& (3 : Int32))), .val (.int (x1 &&& (3 : Int32))), .val (.int (q0_3 x0 x1 x2 x3 x4 x5)), .unset]) at_119 rfl rfl ?_
    refine o_aload B9 121 123 (v := (.ref a1)) at_121 rfl rfl rfl ?_
    refine o_aload B9 123 125 (v := (.ref a7)) at_123 rfl rfl rfl ?_
    refine o_iload B9 125 127 (v := (x0 &&& (3 : Int32))) at_125 rfl rfl ?_
    refine o_iload B9 127 129 (v := (x1 &&& (3 : Int32))) at_127 rfl rfl ?_
    have F17 := (Exa.ext E9 F10)
    have F18 := (Fld.ext E9 (Fld.ext E7 F5))
    have F19 := (Fld.ext E9 (Fld.ext E7 F2))
    have F20 := (Fld.ext E9 (Fld.ext E7 F3))
    have F21 := (Fld.ext E9 (Fld.ext E7 F4))
    obtain ⟨v22, T22, L22, B22, Q22, c22⟩ := o_callV B9 129 132 at_129 rfl (hw _ (List.mem_of_getElem? (i := 37) rfl)) (hw _ (List.mem_of_getElem? (i := 38) rfl)) (hw _ (List.mem_of_getElem? (i := 40) rfl)) (hw _ (List.mem_of_getElem? (i := 39) rfl)) (hw _ (List.mem_of_getElem? (i := 2) rfl)) (hw _ (List.mem_of_getElem? (i := 41) rfl)) (by decide) F17 (rm7 l Z a0 hw a1 (0 : Int32) (0 : Int32) (0 : Int32) a7 (x0 &&& (3 : Int32)) (x1 &&& (3 : Int32)) h9 n0 s9 g1 F17 F18 F19 F20 F21) 0 [(.ref a7), (.int (x0 &&& (3 : Int32))), (.int (x1 &&& (3 : Int32)))] [] pd___BII_V rfl rfl (st := [(.int (x1 &&& (3 : Int32))), (.int (x0 &&& (3 : Int32))), (.ref a7), (.ref a1)]) rfl (Ls := #[.val (.int x0), .val (.int x1), .val (.int x2), .val (.int x3), .val (.int x4), .val (.int x5), .val (.ref a1), .val (.ref a7), .val (.ref a9), .val (.int (q0_1 x0 x1 x2 x3 x4 x5)), .val (.int (q0_2 x0 x1 x2 x3 x4 x5)), .unset, .val (.int (x0 &&& (3 : Int32))), .val (.int (x1 &&& (3 : Int32))), .val (.int (q0_3 x0 x1 x2 x3 x4 x5)), .unset]) rfl (Nat.le_of_eq rfl) (by decide) (by decide) (by decide) (by decide)
    obtain ⟨rfl, M22, K22, O22_0, O22_1, O22_2, O22_3⟩ := Q22
    have N22 := Fr.app N0 M22
    have s22 : n0 ≤ T22.heap.size := Nat.le_trans s9 K22.1
    have P22_1 : Fld Z T22.heap a1 "com/example/doorward/doorward/server/Http1Reader$Arrived" "position" "I" (.int (x0 &&& (3 : Int32))) := O22_1
    have P22_2 : Fld Z T22.heap a1 "com/example/doorward/doorward/server/Http1Reader$Arrived" "limit" "I" (.int ((x0 &&& (3 : Int32)) + (x1 &&& (3 : Int32)))) := O22_2
    have P22_3 : Fld Z T22.heap a1 "com/example/doorward/doorward/server/Http1Reader$Arrived" "ended" "Z" (.int (0 : Int32)) := O22_3
    refine c22 ?_
    show OG p.tables e below _ (T22.setTop (mkF m 132 #[.val (.int x0), .val (.int x1), .val (.int x2), .val (.int x3), .val (.int x4), .val (.int x5), .val (.ref a1), .val (.ref a7), .val (.ref a9), .val (.int (q0_1 x0 x1 x2 x3 x4 x5)), .val (.int (q0_2 x0 x1 x2 x3 x4 x5)), .unset, .val (.int (x0 &&& (3 : Int32))), .val (.int (x1 &&& (3 : Int32))), .val (.int (q0_3 x0 x1 x2 x3 x4 x5)), .unset] []))
    refine o_iload B22 132 134 (v := (q0_3 x0 x1 x2 x3 x4 x5)) at_132 rfl rfl ?_
    by_cases k6 : 0 < (q0_3 x0 x1 x2 x3 x4 x5)
    · refine o_ifN B22 134 137 at_134 rfl (XT.i0_le_f k6) ?_
      refine o_aload B22 137 139 (v := (.ref a1)) at_137 rfl rfl rfl ?_
      refine o_aload B22 139 141 (v := (.ref a9)) at_139 rfl rfl rfl ?_
      refine o_iconst B22 141 142 (0 : Int32) at_141 rfl (by decide) ?_
      refine o_iload B22 142 144 (v := (q0_3 x0 x1 x2 x3 x4 x5)) at_142 rfl rfl ?_
      have F23 := (F17.keep K22)
      have F24 := ((A7.ext E9).keep K22 (ninS (Ne.symm ne8) nin0))
      have F25 := (A9.keep K22 (ninS (Ne.symm ne11) nin0))
      obtain ⟨v26, T26, L26, B26, Q26, c26⟩ := o_callV B22 144 147 at_144 rfl (hw _ (List.mem_of_getElem? (i := 44) rfl)) (hw _ (List.mem_of_getElem? (i := 45) rfl)) (hw _ (List.mem_of_getElem? (i := 47) rfl)) (hw _ (List.mem_of_getElem? (i := 46) rfl)) (hw _ (List.mem_of_getElem? (i := 2) rfl)) (hw _ (List.mem_of_getElem? (i := 48) rfl)) (by decide) F23 (rm8 l Z a0 hw a1 a7 (x0 &&& (3 : Int32)) ((x0 &&& (3 : Int32)) + (x1 &&& (3 : Int32))) (0 : Int32) a9 (q0_3 x0 x1 x2 x3 x4 x5) T22.heap n0 s22 g1 F23 O22_0 P22_1 P22_2 P22_3 F24 F25 g9 ne12 ne11 ne8 (own_hr x0 x1 x2 x3 x4 x5 k6)) 0 [(.ref a9), (.int (0 : Int32)), (.int (q0_3 x0 x1 x2 x3 x4 x5))] [] pd___BII_I rfl rfl (st := [(.int (q0_3 x0 x1 x2 x3 x4 x5)), (.int (0 : Int32)), (.ref a9), (.ref a1)]) rfl (Ls := #[.val (.int x0), .val (.int x1), .val (.int x2), .val (.int x3), .val (.int x4), .val (.int x5), .val (.ref a1), .val (.ref a7), .val (.ref a9), .val (.int (q0_1 x0 x1 x2 x3 x4 x5)), .val (.int (q0_2 x0 x1 x2 x3 x4 x5)), .unset, .val (.int (x0 &&& (3 : Int32))), .val (.int (x1 &&& (3 : Int32))), .val (.int (q0_3 x0 x1 x2 x3 x4 x5)), .unset]) rfl (Nat.le_of_eq rfl) (by decide) (by decide) (by decide) (by decide)
      obtain ⟨rfl, M26, K26, O26_0, O26_1, O26_2, O26_3⟩ := Q26
      have N26 := Fr.app N22 M26
      have s26 : n0 ≤ T26.heap.size := Nat.le_trans s22 K26.1
      have P26_1 : Fld Z T26.heap a1 "com/example/doorward/doorward/server/Http1Reader$Arrived" "position" "I" (.int ((x0 &&& (3 : Int32)) + (q0_3 x0 x1 x2 x3 x4 x5))) := O26_1
      have P26_2 : Fld Z T26.heap a1 "com/example/doorward/doorward/server/Http1Reader$Arrived" "limit" "I" (.int ((x0 &&& (3 : Int32)) + (x1 &&& (3 : Int32)))) := O26_2
      have P26_3 : Fld Z T26.heap a1 "com/example/doorward/doorward/server/Http1Reader$Arrived" "ended" "Z" (.int (0 : Int32)) := O26_3
      refine c26 ?_
      show OG p.tables e below _ (T26.setTop (mkF m 147 #[.val (.int x0), .val (.int x1), .val (.int x2), .val (.int x3), .val (.int x4), .val (.int x5), .val (.ref a1), .val (.ref a7), .val (.ref a9), .val (.int (q0_1 x0 x1 x2 x3 x4 x5)), .val (.int (q0_2 x0 x1 x2 x3 x4 x5)), .unset, .val (.int (x0 &&& (3 : Int32))), .val (.int (x1 &&& (3 : Int32))), .val (.int (q0_3 x0 x1 x2 x3 x4 x5)), .unset] [(.int (q0_3 x0 x1 x2 x3 x4 x5))]))
      refine o_istore B26 147 149 (l' := #[.val (.int x0), .val (.int x1), .val (.int x2), .val (.int x3), .val (.int x4), .val (.int x5), .val (.ref a1), .val (.ref a7), .val (.ref a9), .val (.int (q0_1 x0 x1 x2 x3 x4 x5)), .val (.int (q0_2 x0 x1 x2 x3 x4 x5)), .unset, .val (.int (x0 &&& (3 : Int32))), .val (.int (x1 &&& (3 : Int32))), .val (.int (q0_3 x0 x1 x2 x3 x4 x5)), .val (.int (q0_3 x0 x1 x2 x3 x4 x5))]) at_147 rfl rfl ?_
      refine o_iload B26 149 151 (v := (q0_3 x0 x1 x2 x3 x4 x5)) at_149 rfl rfl ?_
      refine o_iload B26 151 153 (v := (q0_3 x0 x1 x2 x3 x4 x5)) at_151 rfl rfl ?_
      refine o_icY B26 153 158 at_153 (XT.ii_eq_t rfl) (by decide) (by decide) ?_
      refine o_iload B26 158 160 (v := (q0_3 x0 x1 x2 x3 x4 x5)) at_158 rfl rfl ?_
      refine o_iload B26 160 162 (v := (x1 &&& (3 : Int32))) at_160 rfl rfl ?_
      have dm7 : ∀ {P : Outcome → State → Prop}, OG p.tables e below P (T26.setTop (mkF m 170 #[.val (.int x0), .val (.int x1), .val (.int x2), .val (.int x3), .val (.int x4), .val (.int x5), .val (.ref a1), .val (.ref a7), .val (.ref a9), .val (.int (q0_1 x0 x1 x2 x3 x4 x5)), .val (.int (q0_2 x0 x1 x2 x3 x4 x5)), .unset, .val (.int (x0 &&& (3 : Int32))), .val (.int (x1 &&& (3 : Int32))), .val (.int (q0_3 x0 x1 x2 x3 x4 x5)), .val (.int (q0_3 x0 x1 x2 x3 x4 x5))] [(.int (q0_4 x0 x1 x2 x3 x4 x5))])) → OG p.tables e below P (T26.setTop (mkF m 162 #[.val (.int x0), .val (.int x1), .val (.int x2), .val (.int x3), .val (.int x4), .val (.int x5), .val (.ref a1), .val (.ref a7), .val (.ref a9), .val (.int (q0_1 x0 x1 x2 x3 x4 x5)), .val (.int (q0_2 x0 x1 x2 x3 x4 x5)), .unset, .val (.int (x0 &&& (3 : Int32))), .val (.int (x1 &&& (3 : Int32))), .val (.int (q0_3 x0 x1 x2 x3 x4 x5)), .val (.int (q0_3 x0 x1 x2 x3 x4 x5))] [(.int (x1 &&& (3 : Int32))), (.int (q0_3 x0 x1 x2 x3 x4 x5))])) := by
        intro P k
        by_cases k8 : (q0_3 x0 x1 x2 x3 x4 x5) = (x1 &&& (3 : Int32))
        · refine o_icN B26 162 165 at_162 rfl (XT.ii_ne_f k8) ?_
          refine o_iconst B26 165 166 (1 : Int32) at_165 rfl (by decide) ?_
          refine o_goto B26 166 170 at_166 (by decide) (by decide) ?_
          have y0 : (q0_4 x0 x1 x2 x3 x4 x5) = (1 : Int32) := by simp only [q0_4, if_pos k8]
          rw [y0] at k
          exact k
        · refine o_icY B26 162 169 at_162 (XT.ii_ne_t k8) (by decide) (by decide) ?_
          refine o_iconst B26 169 170 (0 : Int32) at_169 rfl (by decide) ?_
          have y0 : (q0_4 x0 x1 x2 x3 x4 x5) = (0 : Int32) := by simp only [q0_4, if_neg k8]
          rw [y0] at k
          exact k
      refine dm7 ?_
      refine o_istore B26 170 172 (l' := #[.val (.int x0), .val (.int x1), .val (.int x2), .val (.int x3), .val (.int x4), .val (.int x5), .val (.ref a1), .val (.ref a7), .val (.ref a9), .val (.int (q0_1 x0 x1 x2 x3 x4 x5)), .val (.int (q0_2 x0 x1 x2 x3 x4 x5)), .val (.int (q0_4 x0 x1 x2 x3 x4 x5)), .val (.int (x0 &&& (3 : Int32))), .val (.int (x1 &&& (3 : Int32))), .val (.int (q0_3 x0 x1 x2 x3 x4 x5)), .val (.int (q0_3 x0 x1 x2 x3 x4 x5))]) at_170 rfl rfl ?_
      refine o_iload B26 172 174 (v := (q0_2 x0 x1 x2 x3 x4 x5)) at_172 rfl rfl ?_
      by_cases k9 : (q0_2 x0 x1 x2 x3 x4 x5) = 0
      · refine o_ifY B26 174 182 at_174 (XT.i0_eq_t k9) (by decide) (by decide) ?_
        refine o_aload B26 182 184 (v := (.ref a1)) at_182 rfl rfl rfl ?_
        have F29 := (F23.keep K26)
        obtain ⟨T30, B30, c30⟩ := o_callVP B26 184 187 at_184 rfl (hw _ (List.mem_of_getElem? (i := 30) rfl)) (hw _ (List.mem_of_getElem? (i := 31) rfl)) (hw _ (List.mem_of_getElem? (i := 33) rfl)) (hw _ (List.mem_of_getElem? (i := 32) rfl)) (hw _ (List.mem_of_getElem? (i := 2) rfl)) (hw _ (List.mem_of_getElem? (i := 34) rfl)) (by decide) F29 (rm6 l Z a0 hw a1 ((x0 &&& (3 : Int32)) + (q0_3 x0 x1 x2 x3 x4 x5)) ((x0 &&& (3 : Int32)) + (x1 &&& (3 : Int32))) (0 : Int32) T26.heap P26_1 P26_2 P26_3) 0 [] [] pd___Z rfl rfl (st := [(.ref a1)]) rfl (Ls := #[.val (.int x0), .val (.int x1), .val (.int x2), .val (.int x3), .val (.int x4), .val (.int x5), .val (.ref a1), .val (.ref a7), .val (.ref a9), .val (.int (q0_1 x0 x1 x2 x3 x4 x5)), .val (.int (q0_2 x0 x1 x2 x3 x4 x5)), .val (.int (q0_4 x0 x1 x2 x3 x4 x5)), .val (.int (x0 &&& (3 : Int32))), .val (.int (x1 &&& (3 : Int32))), .val (.int (q0_3 x0 x1 x2 x3 x4 x5)), .val (.int (q0_3 x0 x1 x2 x3 x4 x5))]) rfl (Nat.le_of_eq rfl) (by decide) (by decide) (by decide) (by decide)
        refine c30 ?_
        refine o_iload B30 187 189 (v := (q0_4 x0 x1 x2 x3 x4 x5)) at_187 rfl rfl ?_
        have dm10 : ∀ {P : Outcome → State → Prop}, OG p.tables e below P (T30.setTop (mkF m 202 #[.val (.int x0), .val (.int x1), .val (.int x2), .val (.int x3), .val (.int x4), .val (.int x5), .val (.ref a1), .val (.ref a7), .val (.ref a9), .val (.int (q0_1 x0 x1 x2 x3 x4 x5)), .val (.int (q0_2 x0 x1 x2 x3 x4 x5)), .val (.int (q0_4 x0 x1 x2 x3 x4 x5)), .val (.int (x0 &&& (3 : Int32))), .val (.int (x1 &&& (3 : Int32))), .val (.int (q0_3 x0 x1 x2 x3 x4 x5)), .val (.int (q0_3 x0 x1 x2 x3 x4 x5))] [(.int (q0_7 x0 x1 x2 x3 x4 x5)), (.int (q0_5 x0 x1 x2 x3 x4 x5))])) → OG p.tables e below P (T30.setTop (mkF m 189 #[.val (.int x0), .val (.int x1), .val (.int x2), .val (.int x3), .val (.int x4), .val (.int x5), .val (.ref a1), .val (.ref a7), .val (.ref a9), .val (.int (q0_1 x0 x1 x2 x3 x4 x5)), .val (.int (q0_2 x0 x1 x2 x3 x4 x5)), .val (.int (q0_4 x0 x1 x2 x3 x4 x5)), .val (.int (x0 &&& (3 : Int32))), .val (.int (x1 &&& (3 : Int32))), .val (.int (q0_3 x0 x1 x2 x3 x4 x5)), .val (.int (q0_3 x0 x1 x2 x3 x4 x5))] [(.int (q0_4 x0 x1 x2 x3 x4 x5)), (.int (q0_5 x0 x1 x2 x3 x4 x5))])) := by
          intro P k
          by_cases k11 : (q0_3 x0 x1 x2 x3 x4 x5) = (x1 &&& (3 : Int32))
          · refine o_ifN B30 189 192 at_189 rfl ((b_eq_f (c := (q0_3 x0 x1 x2 x3 x4 x5) = (x1 &&& (3 : Int32)))) k11) ?_
            refine o_iload B30 192 194 (v := (q0_2 x0 x1 x2 x3 x4 x5)) at_192 rfl rfl ?_
            by_cases k12 : (q0_2 x0 x1 x2 x3 x4 x5) = 0
            · refine o_ifN B30 194 197 at_194 rfl (XT.i0_ne_f k12) ?_
              refine o_iconst B30 197 198 (1 : Int32) at_197 rfl (by decide) ?_
              refine o_goto B30 198 202 at_198 (by decide) (by decide) ?_
              have y0 : (q0_7 x0 x1 x2 x3 x4 x5) = (1 : Int32) := by simp only [q0_6, q0_7, if_pos k11, if_pos k12]
              rw [y0] at k
              exact k
            · refine o_ifY B30 194 201 at_194 (XT.i0_ne_t k12) (by decide) (by decide) ?_
              refine o_iconst B30 201 202 (0 : Int32) at_201 rfl (by decide) ?_
              have y0 : (q0_7 x0 x1 x2 x3 x4 x5) = (0 : Int32) := by simp only [q0_6, q0_7, if_pos k11, if_neg k12]
              rw [y0] at k
              exact k
          · refine o_ifY B30 189 201 at_189 ((b_eq_t (c := (q0_3 x0 x1 x2 x3 x4 x5) = (x1 &&& (3 : Int32)))) k11) (by decide) (by decide) ?_
            refine o_iconst B30 201 202 (0 : Int32) at_201 rfl (by decide) ?_
            have y0 : (q0_7 x0 x1 x2 x3 x4 x5) = (0 : Int32) := by simp only [q0_6, q0_7, if_neg k11]
            rw [y0] at k
            exact k
        refine dm10 ?_
        by_cases k13 : (q0_5 x0 x1 x2 x3 x4 x5) = (q0_7 x0 x1 x2 x3 x4 x5)
        · refine o_icN B30 202 205 at_202 rfl (XT.ii_ne_f k13) ?_
          refine o_iconst B30 205 206 (1 : Int32) at_205 rfl (by decide) ?_
          refine o_goto B30 206 210 at_206 (by decide) (by decide) ?_
          refine o_retZ (t := .boolean) B30 210 at_210 hret hlk (by simp) (by decide) (by decide) ⟨(congrArg (fun z => some (Value.int z)) ((show nar .boolean (1 : Int32) = (1 : Int32) from rfl).trans (show f0 x0 x1 x2 x3 x4 x5 = (1 : Int32) from (if_pos k5).trans ((if_pos k6).trans ((if_pos k9).trans ((if_pos k13).trans (rfl))))).symm)), N26⟩
        · refine o_icY B30 202 209 at_202 (XT.ii_ne_t k13) (by decide) (by decide) ?_
          refine o_iconst B30 209 210 (0 : Int32) at_209 rfl (by decide) ?_
          refine o_retZ (t := .boolean) B30 210 at_210 hret hlk (by simp) (by decide) (by decide) ⟨(congrArg (fun z => some (Value.int z)) ((show nar .boolean (0 : Int32) = (0 : Int32) from rfl).trans (show f0 x0 x1 x2 x3 x4 x5 = (0 : Int32) from (if_pos k5).trans ((if_pos k6).trans ((if_pos k9).trans ((if_neg k13).trans (rfl))))).symm)), N26⟩
      · refine o_ifN B26 174 177 at_174 rfl (XT.i0_eq_f k9) ?_
        refine o_aload B26 177 179 (v := (.ref a1)) at_177 rfl rfl rfl ?_
        have F34 := (F23.keep K26)
        obtain ⟨v35, T35, L35, B35, Q35, c35⟩ := o_callV B26 179 182 at_179 rfl (hw _ (List.mem_of_getElem? (i := 23) rfl)) (hw _ (List.mem_of_getElem? (i := 24) rfl)) (hw _ (List.mem_of_getElem? (i := 26) rfl)) (hw _ (List.mem_of_getElem? (i := 25) rfl)) (hw _ (List.mem_of_getElem? (i := 2) rfl)) (hw _ (List.mem_of_getElem? (i := 27) rfl)) (by decide) F34 (rm5 l Z a0 hw a1 ((x0 &&& (3 : Int32)) + (q0_3 x0 x1 x2 x3 x4 x5)) ((x0 &&& (3 : Int32)) + (x1 &&& (3 : Int32))) (0 : Int32) T26.heap n0 s26 g1 F34 P26_1 P26_2 P26_3) 0 [] [] pd___V rfl rfl (st := [(.ref a1)]) rfl (Ls := #[.val (.int x0), .val (.int x1), .val (.int x2), .val (.int x3), .val (.int x4), .val (.int x5), .val (.ref a1), .val (.ref a7), .val (.ref a9), .val (.int (q0_1 x0 x1 x2 x3 x4 x5)), .val (.int (q0_2 x0 x1 x2 x3 x4 x5)), .val (.int (q0_4 x0 x1 x2 x3 x4 x5)), .val (.int (x0 &&& (3 : Int32))), .val (.int (x1 &&& (3 : Int32))), .val (.int (q0_3 x0 x1 x2 x3 x4 x5)), .val (.int (q0_3 x0 x1 x2 x3 x4 x5))]) rfl (Nat.le_of_eq rfl) (by decide) (by decide) (by decide) (by decide)
        obtain ⟨rfl, M35, K35, O35_0, O35_1, O35_2⟩ := Q35
        have N35 := Fr.app N26 M35
        have s35 : n0 ≤ T35.heap.size := Nat.le_trans s26 K35.1
        have P35_0 : Fld Z T35.heap a1 "com/example/doorward/doorward/server/Http1Reader$Arrived" "position" "I" (.int ((x0 &&& (3 : Int32)) + (q0_3 x0 x1 x2 x3 x4 x5))) := O35_0
        have P35_1 : Fld Z T35.heap a1 "com/example/doorward/doorward/server/Http1Reader$Arrived" "limit" "I" (.int ((x0 &&& (3 : Int32)) + (x1 &&& (3 : Int32)))) := O35_1
        have P35_2 : Fld Z T35.heap a1 "com/example/doorward/doorward/server/Http1Reader$Arrived" "ended" "Z" (.int (1 : Int32)) := O35_2
        refine c35 ?_
        show OG p.tables e below _ (T35.setTop (mkF m 182 #[.val (.int x0), .val (.int x1), .val (.int x2), .val (.int x3), .val (.int x4), .val (.int x5), .val (.ref a1), .val (.ref a7), .val (.ref a9), .val (.int (q0_1 x0 x1 x2 x3 x4 x5)), .val (.int (q0_2 x0 x1 x2 x3 x4 x5)), .val (.int (q0_4 x0 x1 x2 x3 x4 x5)), .val (.int (x0 &&& (3 : Int32))), .val (.int (x1 &&& (3 : Int32))), .val (.int (q0_3 x0 x1 x2 x3 x4 x5)), .val (.int (q0_3 x0 x1 x2 x3 x4 x5))] []))
        refine o_aload B35 182 184 (v := (.ref a1)) at_182 rfl rfl rfl ?_
        have F36 := (F34.keep K35)
        obtain ⟨T37, B37, c37⟩ := o_callVP B35 184 187 at_184 rfl (hw _ (List.mem_of_getElem? (i := 30) rfl)) (hw _ (List.mem_of_getElem? (i := 31) rfl)) (hw _ (List.mem_of_getElem? (i := 33) rfl)) (hw _ (List.mem_of_getElem? (i := 32) rfl)) (hw _ (List.mem_of_getElem? (i := 2) rfl)) (hw _ (List.mem_of_getElem? (i := 34) rfl)) (by decide) F36 (rm6 l Z a0 hw a1 ((x0 &&& (3 : Int32)) + (q0_3 x0 x1 x2 x3 x4 x5)) ((x0 &&& (3 : Int32)) + (x1 &&& (3 : Int32))) (1 : Int32) T35.heap P35_0 P35_1 P35_2) 0 [] [] pd___Z rfl rfl (st := [(.ref a1)]) rfl (Ls := #[.val (.int x0), .val (.int x1), .val (.int x2), .val (.int x3), .val (.int x4), .val (.int x5), .val (.ref a1), .val (.ref a7), .val (.ref a9), .val (.int (q0_1 x0 x1 x2 x3 x4 x5)), .val (.int (q0_2 x0 x1 x2 x3 x4 x5)), .val (.int (q0_4 x0 x1 x2 x3 x4 x5)), .val (.int (x0 &&& (3 : Int32))), .val (.int (x1 &&& (3 : Int32))), .val (.int (q0_3 x0 x1 x2 x3 x4 x5)), .val (.int (q0_3 x0 x1 x2 x3 x4 x5))]) rfl (Nat.le_of_eq rfl) (by decide) (by decide) (by decide) (by decide)
        refine c37 ?_
        refine o_iload B37 187 189 (v := (q0_4 x0 x1 x2 x3 x4 x5)) at_187 rfl rfl ?_
        have dm14 : ∀ {P : Outcome → State → Prop}, OG p.tables e below P (T37.setTop (mkF m 202 #[.val (.int x0), .val (.int x1), .val (.int x2), .val (.int x3), .val (.int x4), .val (.int x5), .val (.ref a1), .val (.ref a7), .val (.ref a9), .val (.int (q0_1 x0 x1 x2 x3 x4 x5)), .val (.int (q0_2 x0 x1 x2 x3 x4 x5)), .val (.int (q0_4 x0 x1 x2 x3 x4 x5)), .val (.int (x0 &&& (3 : Int32))), .val (.int (x1 &&& (3 : Int32))), .val (.int (q0_3 x0 x1 x2 x3 x4 x5)), .val (.int (q0_3 x0 x1 x2 x3 x4 x5))] [(.int (q0_7 x0 x1 x2 x3 x4 x5)), (.int (q0_8 x0 x1 x2 x3 x4 x5))])) → OG p.tables e below P (T37.setTop (mkF m 189 #[.val (.int x0), .val (.int x1), .val (.int x2), .val (.int x3), .val (.int x4), .val (.int x5), .val (.ref a1), .val (.ref a7), .val (.ref a9), .val (.int (q0_1 x0 x1 x2 x3 x4 x5)), .val (.int (q0_2 x0 x1 x2 x3 x4 x5)), .val (.int (q0_4 x0 x1 x2 x3 x4 x5)), .val (.int (x0 &&& (3 : Int32))), .val (.int (x1 &&& (3 : Int32))), .val (.int (q0_3 x0 x1 x2 x3 x4 x5)), .val (.int (q0_3 x0 x1 x2 x3 x4 x5))] [(.int (q0_4 x0 x1 x2 x3 x4 x5)), (.int (q0_8 x0 x1 x2 x3 x4 x5))])) := by
          intro P k
          by_cases k15 : (q0_3 x0 x1 x2 x3 x4 x5) = (x1 &&& (3 : Int32))
          · refine o_ifN B37 189 192 at_189 rfl ((b_eq_f (c := (q0_3 x0 x1 x2 x3 x4 x5) = (x1 &&& (3 : Int32)))) k15) ?_
            refine o_iload B37 192 194 (v := (q0_2 x0 x1 x2 x3 x4 x5)) at_192 rfl rfl ?_
            by_cases k16 : (q0_2 x0 x1 x2 x3 x4 x5) = 0
            · refine o_ifN B37 194 197 at_194 rfl (XT.i0_ne_f k16) ?_
              refine o_iconst B37 197 198 (1 : Int32) at_197 rfl (by decide) ?_
              refine o_goto B37 198 202 at_198 (by decide) (by decide) ?_
              have y0 : (q0_7 x0 x1 x2 x3 x4 x5) = (1 : Int32) := by simp only [q0_6, q0_7, if_pos k15, if_pos k16]
              rw [y0] at k
              exact k
            · refine o_ifY B37 194 201 at_194 (XT.i0_ne_t k16) (by decide) (by decide) ?_
              refine o_iconst B37 201 202 (0 : Int32) at_201 rfl (by decide) ?_
              have y0 : (q0_7 x0 x1 x2 x3 x4 x5) = (0 : Int32) := by simp only [q0_6, q0_7, if_pos k15, if_neg k16]
              rw [y0] at k
              exact k
          · refine o_ifY B37 189 201 at_189 ((b_eq_t (c := (q0_3 x0 x1 x2 x3 x4 x5) = (x1 &&& (3 : Int32)))) k15) (by decide) (by decide) ?_
            refine o_iconst B37 201 202 (0 : Int32) at_201 rfl (by decide) ?_
            have y0 : (q0_7 x0 x1 x2 x3 x4 x5) = (0 : Int32) := by simp only [q0_6, q0_7, if_neg k15]
            rw [y0] at k
            exact k
        refine dm14 ?_
        by_cases k17 : (q0_8 x0 x1 x2 x3 x4 x5) = (q0_7 x0 x1 x2 x3 x4 x5)
        · refine o_icN B37 202 205 at_202 rfl (XT.ii_ne_f k17) ?_
          refine o_iconst B37 205 206 (1 : Int32) at_205 rfl (by decide) ?_
          refine o_goto B37 206 210 at_206 (by decide) (by decide) ?_
          refine o_retZ (t := .boolean) B37 210 at_210 hret hlk (by simp) (by decide) (by decide) ⟨(congrArg (fun z => some (Value.int z)) ((show nar .boolean (1 : Int32) = (1 : Int32) from rfl).trans (show f0 x0 x1 x2 x3 x4 x5 = (1 : Int32) from (if_pos k5).trans ((if_pos k6).trans ((if_neg k9).trans ((if_pos k17).trans (rfl))))).symm)), N35⟩
        · refine o_icY B37 202 209 at_202 (XT.ii_ne_t k17) (by decide) (by decide) ?_
          refine o_iconst B37 209 210 (0 : Int32) at_209 rfl (by decide) ?_
          refine o_retZ (t := .boolean) B37 210 at_210 hret hlk (by simp) (by decide) (by decide) ⟨(congrArg (fun z => some (Value.int z)) ((show nar .boolean (0 : Int32) = (0 : Int32) from rfl).trans (show f0 x0 x1 x2 x3 x4 x5 = (0 : Int32) from (if_pos k5).trans ((if_pos k6).trans ((if_neg k9).trans ((if_neg k17).trans (rfl))))).symm)), N35⟩
    · refine o_ifY B22 134 158 at_134 (XT.i0_le_t k6) (by decide) (by decide) ?_
      refine o_iload B22 158 160 (v := (q0_3 x0 x1 x2 x3 x4 x5)) at_158 rfl rfl ?_
      refine o_iload B22 160 162 (v := (x1 &&& (3 : Int32))) at_160 rfl rfl ?_
      have dm18 : ∀ {P : Outcome → State → Prop}, OG p.tables e below P (T22.setTop (mkF m 170 #[.val (.int x0), .val (.int x1), .val (.int x2), .val (.int x3), .val (.int x4), .val (.int x5), .val (.ref a1), .val (.ref a7), .val (.ref a9), .val (.int (q0_1 x0 x1 x2 x3 x4 x5)), .val (.int (q0_2 x0 x1 x2 x3 x4 x5)), .unset, .val (.int (x0 &&& (3 : Int32))), .val (.int (x1 &&& (3 : Int32))), .val (.int (q0_3 x0 x1 x2 x3 x4 x5)), .unset] [(.int (q0_4 x0 x1 x2 x3 x4 x5))])) → OG p.tables e below P (T22.setTop (mkF m 162 #[.val (.int x0), .val (.int x1), .val (.int x2), .val (.int x3), .val (.int x4), .val (.int x5), .val (.ref a1), .val (.ref a7), .val (.ref a9), .val (.int (q0_1 x0 x1 x2 x3 x4 x5)), .val (.int (q0_2 x0 x1 x2 x3 x4 x5)), .unset, .val (.int (x0 &&& (3 : Int32))), .val (.int (x1 &&& (3 : Int32))), .val (.int (q0_3 x0 x1 x2 x3 x4 x5)), .unset] [(.int (x1 &&& (3 : Int32))), (.int (q0_3 x0 x1 x2 x3 x4 x5))])) := by
        intro P k
        by_cases k19 : (q0_3 x0 x1 x2 x3 x4 x5) = (x1 &&& (3 : Int32))
        · refine o_icN B22 162 165 at_162 rfl (XT.ii_ne_f k19) ?_
          refine o_iconst B22 165 166 (1 : Int32) at_165 rfl (by decide) ?_
          refine o_goto B22 166 170 at_166 (by decide) (by decide) ?_
          have y0 : (q0_4 x0 x1 x2 x3 x4 x5) = (1 : Int32) := by simp only [q0_4, if_pos k19]
          rw [y0] at k
          exact k
        · refine o_icY B22 162 169 at_162 (XT.ii_ne_t k19) (by decide) (by decide) ?_
          refine o_iconst B22 169 170 (0 : Int32) at_169 rfl (by decide) ?_
          have y0 : (q0_4 x0 x1 x2 x3 x4 x5) = (0 : Int32) := by simp only [q0_4, if_neg k19]
          rw [y0] at k
          exact k
      refine dm18 ?_
      refine o_istore B22 170 172 (l' := #[.val (.int x0), .val (.int x1), .val (.int x2), .val (.int x3), .val (.int x4), .val (.int x5), .val (.ref a1), .val (.ref a7), .val (.ref a9), .val (.int (q0_1 x0 x1 x2 x3 x4 x5)), .val (.int (q0_2 x0 x1 x2 x3 x4 x5)), .val (.int (q0_4 x0 x1 x2 x3 x4 x5)), .val (.int (x0 &&& (3 : Int32))), .val (.int (x1 &&& (3 : Int32))), .val (.int (q0_3 x0 x1 x2 x3 x4 x5)), .unset]) at_170 rfl rfl ?_
      refine o_iload B22 172 174 (v := (q0_2 x0 x1 x2 x3 x4 x5)) at_172 rfl rfl ?_
      by_cases k20 : (q0_2 x0 x1 x2 x3 x4 x5) = 0
      · refine o_ifY B22 174 182 at_174 (XT.i0_eq_t k20) (by decide) (by decide) ?_
        refine o_aload B22 182 184 (v := (.ref a1)) at_182 rfl rfl rfl ?_
        have F43 := (F17.keep K22)
        obtain ⟨T44, B44, c44⟩ := o_callVP B22 184 187 at_184 rfl (hw _ (List.mem_of_getElem? (i := 30) rfl)) (hw _ (List.mem_of_getElem? (i := 31) rfl)) (hw _ (List.mem_of_getElem? (i := 33) rfl)) (hw _ (List.mem_of_getElem? (i := 32) rfl)) (hw _ (List.mem_of_getElem? (i := 2) rfl)) (hw _ (List.mem_of_getElem? (i := 34) rfl)) (by decide) F43 (rm6 l Z a0 hw a1 (x0 &&& (3 : Int32)) ((x0 &&& (3 : Int32)) + (x1 &&& (3 : Int32))) (0 : Int32) T22.heap P22_1 P22_2 P22_3) 0 [] [] pd___Z rfl rfl (st := [(.ref a1)]) rfl (Ls := #[.val (.int x0), .val (.int x1), .val (.int x2), .val (.int x3), .val (.int x4), .val (.int x5), .val (.ref a1), .val (.ref a7), .val (.ref a9), .val (.int (q0_1 x0 x1 x2 x3 x4 x5)), .val (.int (q0_2 x0 x1 x2 x3 x4 x5)), .val (.int (q0_4 x0 x1 x2 x3 x4 x5)), .val (.int (x0 &&& (3 : Int32))), .val (.int (x1 &&& (3 : Int32))), .val (.int (q0_3 x0 x1 x2 x3 x4 x5)), .unset]) rfl (Nat.le_of_eq rfl) (by decide) (by decide) (by decide) (by decide)
        refine c44 ?_
        refine o_iload B44 187 189 (v := (q0_4 x0 x1 x2 x3 x4 x5)) at_187 rfl rfl ?_
        have dm21 : ∀ {P : Outcome → State → Prop}, OG p.tables e below P (T44.setTop (mkF m 202 #[.val (.int x0), .val (.int x1), .val (.int x2), .val (.int x3), .val (.int x4), .val (.int x5), .val (.ref a1), .val (.ref a7), .val (.ref a9), .val (.int (q0_1 x0 x1 x2 x3 x4 x5)), .val (.int (q0_2 x0 x1 x2 x3 x4 x5)), .val (.int (q0_4 x0 x1 x2 x3 x4 x5)), .val (.int (x0 &&& (3 : Int32))), .val (.int (x1 &&& (3 : Int32))), .val (.int (q0_3 x0 x1 x2 x3 x4 x5)), .unset] [(.int (q0_7 x0 x1 x2 x3 x4 x5)), (.int (q0_9 x0 x1 x2 x3 x4 x5))])) → OG p.tables e below P (T44.setTop (mkF m 189 #[.val (.int x0), .val (.int x1), .val (.int x2), .val (.int x3), .val (.int x4), .val (.int x5), .val (.ref a1), .val (.ref a7), .val (.ref a9), .val (.int (q0_1 x0 x1 x2 x3 x4 x5)), .val (.int (q0_2 x0 x1 x2 x3 x4 x5)), .val (.int (q0_4 x0 x1 x2 x3 x4 x5)), .val (.int (x0 &&& (3 : Int32))), .val (.int (x1 &&& (3 : Int32))), .val (.int (q0_3 x0 x1 x2 x3 x4 x5)), .unset] [(.int (q0_4 x0 x1 x2 x3 x4 x5)), (.int (q0_9 x0 x1 x2 x3 x4 x5))])) := by
          intro P k
          by_cases k22 : (q0_3 x0 x1 x2 x3 x4 x5) = (x1 &&& (3 : Int32))
          · refine o_ifN B44 189 192 at_189 rfl ((b_eq_f (c := (q0_3 x0 x1 x2 x3 x4 x5) = (x1 &&& (3 : Int32)))) k22) ?_
            refine o_iload B44 192 194 (v := (q0_2 x0 x1 x2 x3 x4 x5)) at_192 rfl rfl ?_
            by_cases k23 : (q0_2 x0 x1 x2 x3 x4 x5) = 0
            · refine o_ifN B44 194 197 at_194 rfl (XT.i0_ne_f k23) ?_
              refine o_iconst B44 197 198 (1 : Int32) at_197 rfl (by decide) ?_
              refine o_goto B44 198 202 at_198 (by decide) (by decide) ?_
              have y0 : (q0_7 x0 x1 x2 x3 x4 x5) = (1 : Int32) := by simp only [q0_6, q0_7, if_pos k22, if_pos k23]
              rw [y0] at k
              exact k
            · refine o_ifY B44 194 201 at_194 (XT.i0_ne_t k23) (by decide) (by decide) ?_
              refine o_iconst B44 201 202 (0 : Int32) at_201 rfl (by decide) ?_
              have y0 : (q0_7 x0 x1 x2 x3 x4 x5) = (0 : Int32) := by simp only [q0_6, q0_7, if_pos k22, if_neg k23]
              rw [y0] at k
              exact k
          · refine o_ifY B44 189 201 at_189 ((b_eq_t (c := (q0_3 x0 x1 x2 x3 x4 x5) = (x1 &&& (3 : Int32)))) k22) (by decide) (by decide) ?_
            refine o_iconst B44 201 202 (0 : Int32) at_201 rfl (by decide) ?_
            have y0 : (q0_7 x0 x1 x2 x3 x4 x5) = (0 : Int32) := by simp only [q0_6, q0_7, if_neg k22]
            rw [y0] at k
            exact k
        refine dm21 ?_
        by_cases k24 : (q0_9 x0 x1 x2 x3 x4 x5) = (q0_7 x0 x1 x2 x3 x4 x5)
        · refine o_icN B44 202 205 at_202 rfl (XT.ii_ne_f k24) ?_
          refine o_iconst B44 205 206 (1 : Int32) at_205 rfl (by decide) ?_
          refine o_goto B44 206 210 at_206 (by decide) (by decide) ?_
          refine o_retZ (t := .boolean) B44 210 at_210 hret hlk (by simp) (by decide) (by decide) ⟨(congrArg (fun z => some (Value.int z)) ((show nar .boolean (1 : Int32) = (1 : Int32) from rfl).trans (show f0 x0 x1 x2 x3 x4 x5 = (1 : Int32) from (if_pos k5).trans ((if_neg k6).trans ((if_pos k20).trans ((if_pos k24).trans (rfl))))).symm)), N22⟩
        · refine o_icY B44 202 209 at_202 (XT.ii_ne_t k24) (by decide) (by decide) ?_
          refine o_iconst B44 209 210 (0 : Int32) at_209 rfl (by decide) ?_
          refine o_retZ (t := .boolean) B44 210 at_210 hret hlk (by simp) (by decide) (by decide) ⟨(congrArg (fun z => some (Value.int z)) ((show nar .boolean (0 : Int32) = (0 : Int32) from rfl).trans (show f0 x0 x1 x2 x3 x4 x5 = (0 : Int32) from (if_pos k5).trans ((if_neg k6).trans ((if_pos k20).trans ((if_neg k24).trans (rfl))))).symm)), N22⟩
      · refine o_ifN B22 174 177 at_174 rfl (XT.i0_eq_f k20) ?_
        refine o_aload B22 177 179 (v := (.ref a1)) at_177 rfl rfl rfl ?_
        have F48 := (F17.keep K22)
        obtain ⟨v49, T49, L49, B49, Q49, c49⟩ := o_callV B22 179 182 at_179 rfl (hw _ (List.mem_of_getElem? (i := 23) rfl)) (hw _ (List.mem_of_getElem? (i := 24) rfl)) (hw _ (List.mem_of_getElem? (i := 26) rfl)) (hw _ (List.mem_of_getElem? (i := 25) rfl)) (hw _ (List.mem_of_getElem? (i := 2) rfl)) (hw _ (List.mem_of_getElem? (i := 27) rfl)) (by decide) F48 (rm5 l Z a0 hw a1 (x0 &&& (3 : Int32)) ((x0 &&& (3 : Int32)) + (x1 &&& (3 : Int32))) (0 : Int32) T22.heap n0 s22 g1 F48 P22_1 P22_2 P22_3) 0 [] [] pd___V rfl rfl (st := [(.ref a1)]) rfl (Ls := #[.val (.int x0), .val (.int x1), .val (.int x2), .val (.int x3), .val (.int x4), .val (.int x5), .val (.ref a1), .val (.ref a7), .val (.ref a9), .val (.int (q0_1 x0 x1 x2 x3 x4 x5)), .val (.int (q0_2 x0 x1 x2 x3 x4 x5)), .val (.int (q0_4 x0 x1 x2 x3 x4 x5)), .val (.int (x0 &&& (3 : Int32))), .val (.int (x1 &&& (3 : Int32))), .val (.int (q0_3 x0 x1 x2 x3 x4 x5)), .unset]) rfl (Nat.le_of_eq rfl) (by decide) (by decide) (by decide) (by decide)
        obtain ⟨rfl, M49, K49, O49_0, O49_1, O49_2⟩ := Q49
        have N49 := Fr.app N22 M49
        have s49 : n0 ≤ T49.heap.size := Nat.le_trans s22 K49.1
        have P49_0 : Fld Z T49.heap a1 "com/example/doorward/doorward/server/Http1Reader$Arrived" "position" "I" (.int (x0 &&& (3 : Int32))) := O49_0
        have P49_1 : Fld Z T49.heap a1 "com/example/doorward/doorward/server/Http1Reader$Arrived" "limit" "I" (.int ((x0 &&& (3 : Int32)) + (x1 &&& (3 : Int32)))) := O49_1
        have P49_2 : Fld Z T49.heap a1 "com/example/doorward/doorward/server/Http1Reader$Arrived" "ended" "Z" (.int (1 : Int32)) := O49_2
        refine c49 ?_
        show OG p.tables e below _ (T49.setTop (mkF m 182 #[.val (.int x0), .val (.int x1), .val (.int x2), .val (.int x3), .val (.int x4), .val (.int x5), .val (.ref a1), .val (.ref a7), .val (.ref a9), .val (.int (q0_1 x0 x1 x2 x3 x4 x5)), .val (.int (q0_2 x0 x1 x2 x3 x4 x5)), .val (.int (q0_4 x0 x1 x2 x3 x4 x5)), .val (.int (x0 &&& (3 : Int32))), .val (.int (x1 &&& (3 : Int32))), .val (.int (q0_3 x0 x1 x2 x3 x4 x5)), .unset] []))
        refine o_aload B49 182 184 (v := (.ref a1)) at_182 rfl rfl rfl ?_
        have F50 := (F48.keep K49)
        obtain ⟨T51, B51, c51⟩ := o_callVP B49 184 187 at_184 rfl (hw _ (List.mem_of_getElem? (i := 30) rfl)) (hw _ (List.mem_of_getElem? (i := 31) rfl)) (hw _ (List.mem_of_getElem? (i := 33) rfl)) (hw _ (List.mem_of_getElem? (i := 32) rfl)) (hw _ (List.mem_of_getElem? (i := 2) rfl)) (hw _ (List.mem_of_getElem? (i := 34) rfl)) (by decide) F50 (rm6 l Z a0 hw a1 (x0 &&& (3 : Int32)) ((x0 &&& (3 : Int32)) + (x1 &&& (3 : Int32))) (1 : Int32) T49.heap P49_0 P49_1 P49_2) 0 [] [] pd___Z rfl rfl (st := [(.ref a1)]) rfl (Ls := #[.val (.int x0), .val (.int x1), .val (.int x2), .val (.int x3), .val (.int x4), .val (.int x5), .val (.ref a1), .val (.ref a7), .val (.ref a9), .val (.int (q0_1 x0 x1 x2 x3 x4 x5)), .val (.int (q0_2 x0 x1 x2 x3 x4 x5)), .val (.int (q0_4 x0 x1 x2 x3 x4 x5)), .val (.int (x0 &&& (3 : Int32))), .val (.int (x1 &&& (3 : Int32))), .val (.int (q0_3 x0 x1 x2 x3 x4 x5)), .unset]) rfl (Nat.le_of_eq rfl) (by decide) (by decide) (by decide) (by decide)
        refine c51 ?_
        refine o_iload B51 187 189 (v := (q0_4 x0 x1 x2 x3 x4 x5)) at_187 rfl rfl ?_
        have dm25 : ∀ {P : Outcome → State → Prop}, OG p.tables e below P (T51.setTop (mkF m 202 #[.val (.int x0), .val (.int x1), .val (.int x2), .val (.int x3), .val (.int x4), .val (.int x5), .val (.ref a1), .val (.ref a7), .val (.ref a9), .val (.int (q0_1 x0 x1 x2 x3 x4 x5)), .val (.int (q0_2 x0 x1 x2 x3 x4 x5)), .val (.int (q0_4 x0 x1 x2 x3 x4 x5)), .val (.int (x0 &&& (3 : Int32))), .val (.int (x1 &&& (3 : Int32))), .val (.int (q0_3 x0 x1 x2 x3 x4 x5)), .unset] [(.int (q0_7 x0 x1 x2 x3 x4 x5)), (.int (q0_10 x0 x1 x2 x3 x4 x5))])) → OG p.tables e below P (T51.setTop (mkF m 189 #[.val (.int x0), .val (.int x1), .val (.int x2), .val (.int x3), .val (.int x4), .val (.int x5), .val (.ref a1), .val (.ref a7), .val (.ref a9), .val (.int (q0_1 x0 x1 x2 x3 x4 x5)), .val (.int (q0_2 x0 x1 x2 x3 x4 x5)), .val (.int (q0_4 x0 x1 x2 x3 x4 x5)), .val (.int (x0 &&& (3 : Int32))), .val (.int (x1 &&& (3 : Int32))), .val (.int (q0_3 x0 x1 x2 x3 x4 x5)), .unset] [(.int (q0_4 x0 x1 x2 x3 x4 x5)), (.int (q0_10 x0 x1 x2 x3 x4 x5))])) := by
          intro P k
          by_cases k26 : (q0_3 x0 x1 x2 x3 x4 x5) = (x1 &&& (3 : Int32))
          · refine o_ifN B51 189 192 at_189 rfl ((b_eq_f (c := (q0_3 x0 x1 x2 x3 x4 x5) = (x1 &&& (3 : Int32)))) k26) ?_
            refine o_iload B51 192 194 (v := (q0_2 x0 x1 x2 x3 x4 x5)) at_192 rfl rfl ?_
            by_cases k27 : (q0_2 x0 x1 x2 x3 x4 x5) = 0
            · refine o_ifN B51 194 197 at_194 rfl (XT.i0_ne_f k27) ?_
              refine o_iconst B51 197 198 (1 : Int32) at_197 rfl (by decide) ?_
              refine o_goto B51 198 202 at_198 (by decide) (by decide) ?_
              have y0 : (q0_7 x0 x1 x2 x3 x4 x5) = (1 : Int32) := by simp only [q0_6, q0_7, if_pos k26, if_pos k27]
              rw [y0] at k
              exact k
            · refine o_ifY B51 194 201 at_194 (XT.i0_ne_t k27) (by decide) (by decide) ?_
              refine o_iconst B51 201 202 (0 : Int32) at_201 rfl (by decide) ?_
              have y0 : (q0_7 x0 x1 x2 x3 x4 x5) = (0 : Int32) := by simp only [q0_6, q0_7, if_pos k26, if_neg k27]
              rw [y0] at k
              exact k
          · refine o_ifY B51 189 201 at_189 ((b_eq_t (c := (q0_3 x0 x1 x2 x3 x4 x5) = (x1 &&& (3 : Int32)))) k26) (by decide) (by decide) ?_
            refine o_iconst B51 201 202 (0 : Int32) at_201 rfl (by decide) ?_
            have y0 : (q0_7 x0 x1 x2 x3 x4 x5) = (0 : Int32) := by simp only [q0_6, q0_7, if_neg k26]
            rw [y0] at k
            exact k
        refine dm25 ?_
        by_cases k28 : (q0_10 x0 x1 x2 x3 x4 x5) = (q0_7 x0 x1 x2 x3 x4 x5)
        · refine o_icN B51 202 205 at_202 rfl (XT.ii_ne_f k28) ?_
          refine o_iconst B51 205 206 (1 : Int32) at_205 rfl (by decide) ?_
          refine o_goto B51 206 210 at_206 (by decide) (by decide) ?_
          refine o_retZ (t := .boolean) B51 210 at_210 hret hlk (by simp) (by decide) (by decide) ⟨(congrArg (fun z => some (Value.int z)) ((show nar .boolean (1 : Int32) = (1 : Int32) from rfl).trans (show f0 x0 x1 x2 x3 x4 x5 = (1 : Int32) from (if_pos k5).trans ((if_neg k6).trans ((if_neg k20).trans ((if_pos k28).trans (rfl))))).symm)), N49⟩
        · refine o_icY B51 202 209 at_202 (XT.ii_ne_t k28) (by decide) (by decide) ?_
          refine o_iconst B51 209 210 (0 : Int32) at_209 rfl (by decide) ?_
          refine o_retZ (t := .boolean) B51 210 at_210 hret hlk (by simp) (by decide) (by decide) ⟨(congrArg (fun z => some (Value.int z)) ((show nar .boolean (0 : Int32) = (0 : Int32) from rfl).trans (show f0 x0 x1 x2 x3 x4 x5 = (0 : Int32) from (if_pos k5).trans ((if_neg k6).trans ((if_neg k20).trans ((if_neg k28).trans (rfl))))).symm)), N49⟩
  · refine o_ifN B9 50 53 at_50 rfl (XT.i0_eq_f k5) ?_
    refine o_iload B9 53 55 (v := x5) at_53 rfl rfl ?_
    refine o_iconst B9 55 56 (4 : Int32) at_55 rfl (by decide) ?_
    refine o_iand B9 56 57 at_56 rfl ?_
    by_cases k29 : (x5 &&& (4 : Int32)) = 0
    · refine o_ifY B9 57 64 at_57 (XT.i0_eq_t k29) (by decide) (by decide) ?_
      refine o_iloadN B9 64 65 (v := x3) at_64 rfl rfl ?_
      refine o_iload B9 65 67 (v := x4) at_65 rfl rfl ?_
      obtain ⟨T55, B55, c55⟩ := o_callP B9 67 70 at_67 rfl (hw _ (List.mem_of_getElem? (i := 15) rfl)) (hw _ (List.mem_of_getElem? (i := 16) rfl)) (hw _ (List.mem_of_getElem? (i := 17) rfl)) (hw _ (List.mem_of_getElem? (i := 18) rfl)) (by decide) (rm4 l Z a0 hw x3 x4 h9 ) 0 [(.int x3), (.int x4)] [] pd__II_I rfl rfl (st := [(.int x4), (.int x3)]) rfl (Ls := #[.val (.int x0), .val (.int x1), .val (.int x2), .val (.int x3), .val (.int x4), .val (.int x5), .val (.ref a1), .val (.ref a7), .val (.ref a9), .val (.int (q0_1 x0 x1 x2 x3 x4 x5)), .val (.int (q0_2 x0 x1 x2 x3 x4 x5)), .unset, .unset, .unset, .unset, .unset]) rfl (Nat.le_of_eq rfl) (by decide) (by decide) (by decide) (by decide)
      refine c55 ?_
      refine o_istore B55 70 72 (l' := #[.val (.int x0), .val (.int x1), .val (.int x2), .val (.int x3), .val (.int x4), .val (.int x5), .val (.ref a1), .val (.ref a7), .val (.ref a9), .val (.int (q0_1 x0 x1 x2 x3 x4 x5)), .val (.int (q0_2 x0 x1 x2 x3 x4 x5)), .unset, .val (.int (f4 x3 x4)), .unset, .unset, .unset]) at_70 rfl rfl ?_
      refine o_aload B55 72 74 (v := (.ref a1)) at_72 rfl rfl rfl ?_
      refine o_iloadN B55 74 75 (v := x3) at_74 rfl rfl ?_
      have F57 := (Fld.ext E9 (Fld.ext E7 F2))
      have F58 := (Exa.ext E9 F10)
      obtain ⟨T56, h56, L56, B56, N56, W56, c56⟩ := o_putfield B55 N0 g1 75 78 (v := (.int x3)) at_75 rfl (host := "") (Or.inl (hw _ (List.mem_of_getElem? (i := 19) rfl))) Via.refl F57 F58 (Or.inl (hw _ (List.mem_of_getElem? (i := 20) rfl))) (hw _ (List.mem_of_getElem? (i := 1) rfl)) (ty := .int) (by decide) rfl rfl (Ls := #[.val (.int x0), .val (.int x1), .val (.int x2), .val (.int x3), .val (.int x4), .val (.int x5), .val (.ref a1), .val (.ref a7), .val (.ref a9), .val (.int (q0_1 x0 x1 x2 x3 x4 x5)), .val (.int (q0_2 x0 x1 x2 x3 x4 x5)), .unset, .val (.int (f4 x3 x4)), .unset, .unset, .unset]) (rest := [])
      have F56 : Fld Z h56 a1 "com/example/doorward/doorward/server/Http1Reader$Arrived" "position" "I" (.int x3) := Fld.same W56 F57
      refine c56 ?_
      refine o_aload B56 78 80 (v := (.ref a1)) at_78 rfl rfl rfl ?_
      refine o_iload B56 80 82 (v := (f4 x3 x4)) at_80 rfl rfl ?_
      have F60 := (Fld.other W56 (Fld.ext E9 (Fld.ext E7 F3)) (Or.inr (slot_ne (a0 := a0) (C := "com/example/doorward/doorward/server/Http1Reader$Arrived") (Or.inl (hw _ (List.mem_of_getElem? (i := 22) rfl))) (Or.inl (hw _ (List.mem_of_getElem? (i := 20) rfl))) (by decide) (t := .int) (t' := .int) (by decide) (by decide))))
      have F61 := (Exa.wr W56 F58)
      obtain ⟨T59, h59, L59, B59, N59, W59, c59⟩ := o_putfield B56 N56 g1 82 85 (v := (.int (f4 x3 x4))) at_82 rfl (host := "") (Or.inl (hw _ (List.mem_of_getElem? (i := 21) rfl))) Via.refl F60 F61 (Or.inl (hw _ (List.mem_of_getElem? (i := 22) rfl))) (hw _ (List.mem_of_getElem? (i := 1) rfl)) (ty := .int) (by decide) rfl rfl (Ls := #[.val (.int x0), .val (.int x1), .val (.int x2), .val (.int x3), .val (.int x4), .val (.int x5), .val (.ref a1), .val (.ref a7), .val (.ref a9), .val (.int (q0_1 x0 x1 x2 x3 x4 x5)), .val (.int (q0_2 x0 x1 x2 x3 x4 x5)), .unset, .val (.int (f4 x3 x4)), .unset, .unset, .unset]) (rest := [])
      have F59 : Fld Z h59 a1 "com/example/doorward/doorward/server/Http1Reader$Arrived" "limit" "I" (.int (f4 x3 x4)) := Fld.same W59 F60
      refine c59 ?_
      refine o_iload B59 85 87 (v := (f4 x3 x4)) at_85 rfl rfl ?_
      refine o_iloadN B59 87 88 (v := x3) at_87 rfl rfl ?_
      have dm30 : ∀ {P : Outcome → State → Prop}, OG p.tables e below P (T59.setTop (mkF m 96 #[.val (.int x0), .val (.int x1), .val (.int x2), .val (.int x3), .val (.int x4), .val (.int x5), .val (.ref a1), .val (.ref a7), .val (.ref a9), .val (.int (q0_1 x0 x1 x2 x3 x4 x5)), .val (.int (q0_2 x0 x1 x2 x3 x4 x5)), .unset, .val (.int (f4 x3 x4)), .unset, .unset, .unset] [(.int (if (f4 x3 x4) = x3 then (1 : Int32) else 0))])) → OG p.tables e below P (T59.setTop (mkF m 88 #[.val (.int x0), .val (.int x1), .val (.int x2), .val (.int x3), .val (.int x4), .val (.int x5), .val (.ref a1), .val (.ref a7), .val (.ref a9), .val (.int (q0_1 x0 x1 x2 x3 x4 x5)), .val (.int (q0_2 x0 x1 x2 x3 x4 x5)), .unset, .val (.int (f4 x3 x4)), .unset, .unset, .unset] [(.int x3), (.int (f4 x3 x4))])) := by
        intro P k
        by_cases k31 : (f4 x3 x4) = x3
        · refine o_icN B59 88 91 at_88 rfl (XT.ii_ne_f k31) ?_
          refine o_iconst B59 91 92 (1 : Int32) at_91 rfl (by decide) ?_
          refine o_goto B59 92 96 at_92 (by decide) (by decide) ?_
          have y0 : (if (f4 x3 x4) = x3 then (1 : Int32) else 0) = (1 : Int32) := by simp only [if_pos k31]
          rw [y0] at k
          exact k
        · refine o_icY B59 88 95 at_88 (XT.ii_ne_t k31) (by decide) (by decide) ?_
          refine o_iconst B59 95 96 (0 : Int32) at_95 rfl (by decide) ?_
          have y0 : (if (f4 x3 x4) = x3 then (1 : Int32) else 0) = (0 : Int32) := by simp only [if_neg k31]
          rw [y0] at k
          exact k
      refine dm30 ?_
      refine o_istore B59 96 98 (l' := #[.val (.int x0), .val (.int x1), .val (.int x2), .val (.int x3), .val (.int x4), .val (.int x5), .val (.ref a1), .val (.ref a7), .val (.ref a9), .val (.int (q0_1 x0 x1 x2 x3 x4 x5)), .val (.int (q0_2 x0 x1 x2 x3 x4 x5)), .val (.int (if (f4 x3 x4) = x3 then (1 : Int32) else 0)), .val (.int (f4 x3 x4)), .unset, .unset, .unset]) at_96 rfl rfl ?_
      refine o_goto B59 98 172 at_98 (by decide) (by decide) ?_
      refine o_iload B59 172 174 (v := (q0_2 x0 x1 x2 x3 x4 x5)) at_172 rfl rfl ?_
      by_cases k32 : (q0_2 x0 x1 x2 x3 x4 x5) = 0
      · refine o_ifY B59 174 182 at_174 (XT.i0_eq_t k32) (by decide) (by decide) ?_
        refine o_aload B59 182 184 (v := (.ref a1)) at_182 rfl rfl rfl ?_
        have F64 := (Fld.other W59 F56 (Or.inr (slot_ne (a0 := a0) (C := "com/example/doorward/doorward/server/Http1Reader$Arrived") (Or.inl (hw _ (List.mem_of_getElem? (i := 20) rfl))) (Or.inl (hw _ (List.mem_of_getElem? (i := 22) rfl))) (by decide) (t := .int) (t' := .int) (by decide) (by decide))))
        have F65 := (Fld.other W59 (Fld.other W56 (Fld.ext E9 (Fld.ext E7 F4)) (Or.inr (slot_ne (a0 := a0) (C := "com/example/doorward/doorward/server/Http1Reader$Arrived") (Or.inl (hw _ (List.mem_of_getElem? (i := 29) rfl))) (Or.inl (hw _ (List.mem_of_getElem? (i := 20) rfl))) (by decide) (t := .boolean) (t' := .int) (by decide) (by decide)))) (Or.inr (slot_ne (a0 := a0) (C := "com/example/doorward/doorward/server/Http1Reader$Arrived") (Or.inl (hw _ (List.mem_of_getElem? (i := 29) rfl))) (Or.inl (hw _ (List.mem_of_getElem? (i := 22) rfl))) (by decide) (t := .boolean) (t' := .int) (by decide) (by decide))))
        have F66 := (Exa.wr W59 F61)
        obtain ⟨T67, B67, c67⟩ := o_callVP B59 184 187 at_184 rfl (hw _ (List.mem_of_getElem? (i := 30) rfl)) (hw _ (List.mem_of_getElem? (i := 31) rfl)) (hw _ (List.mem_of_getElem? (i := 33) rfl)) (hw _ (List.mem_of_getElem? (i := 32) rfl)) (hw _ (List.mem_of_getElem? (i := 2) rfl)) (hw _ (List.mem_of_getElem? (i := 34) rfl)) (by decide) F66 (rm6 l Z a0 hw a1 x3 (f4 x3 x4) (0 : Int32) h59 F64 F59 F65) 0 [] [] pd___Z rfl rfl (st := [(.ref a1)]) rfl (Ls := #[.val (.int x0), .val (.int x1), .val (.int x2), .val (.int x3), .val (.int x4), .val (.int x5), .val (.ref a1), .val (.ref a7), .val (.ref a9), .val (.int (q0_1 x0 x1 x2 x3 x4 x5)), .val (.int (q0_2 x0 x1 x2 x3 x4 x5)), .val (.int (if (f4 x3 x4) = x3 then (1 : Int32) else 0)), .val (.int (f4 x3 x4)), .unset, .unset, .unset]) rfl (Nat.le_of_eq rfl) (by decide) (by decide) (by decide) (by decide)
        refine c67 ?_
        refine o_iload B67 187 189 (v := (if (f4 x3 x4) = x3 then (1 : Int32) else 0)) at_187 rfl rfl ?_
        have dm33 : ∀ {P : Outcome → State → Prop}, OG p.tables e below P (T67.setTop (mkF m 202 #[.val (.int x0), .val (.int x1), .val (.int x2), .val (.int x3), .val (.int x4), .val (.int x5), .val (.ref a1), .val (.ref a7), .val (.ref a9), .val (.int (q0_1 x0 x1 x2 x3 x4 x5)), .val (.int (q0_2 x0 x1 x2 x3 x4 x5)), .val (.int (if (f4 x3 x4) = x3 then (1 : Int32) else 0)), .val (.int (f4 x3 x4)), .unset, .unset, .unset] [(.int (q0_11 x0 x1 x2 x3 x4 x5)), (.int (f6 x3 (f4 x3 x4) (0 : Int32)))])) → OG p.tables e below P (T67.setTop (mkF m 189 #[.val (.int x0), .val (.int x1), .val (.int x2), .val (.int x3), .val (.int x4), .val (.int x5), .val (.ref a1), .val (.ref a7), .val (.ref a9), .val (.int (q0_1 x0 x1 x2 x3 x4 x5)), .val (.int (q0_2 x0 x1 x2 x3 x4 x5)), .val (.int (if (f4 x3 x4) = x3 then (1 : Int32) else 0)), .val (.int (f4 x3 x4)), .unset, .unset, .unset] [(.int (if (f4 x3 x4) = x3 then (1 : Int32) else 0)), (.int (f6 x3 (f4 x3 x4) (0 : Int32)))])) := by
          intro P k
          by_cases k34 : (f4 x3 x4) = x3
          · refine o_ifN B67 189 192 at_189 rfl ((b_eq_f (c := (f4 x3 x4) = x3)) k34) ?_
            refine o_iload B67 192 194 (v := (q0_2 x0 x1 x2 x3 x4 x5)) at_192 rfl rfl ?_
            by_cases k35 : (q0_2 x0 x1 x2 x3 x4 x5) = 0
            · refine o_ifN B67 194 197 at_194 rfl (XT.i0_ne_f k35) ?_
              refine o_iconst B67 197 198 (1 : Int32) at_197 rfl (by decide) ?_
              refine o_goto B67 198 202 at_198 (by decide) (by decide) ?_
              have y0 : (q0_11 x0 x1 x2 x3 x4 x5) = (1 : Int32) := by simp only [q0_6, q0_11, if_pos k34, if_pos k35]
              rw [y0] at k
              exact k
            · refine o_ifY B67 194 201 at_194 (XT.i0_ne_t k35) (by decide) (by decide) ?_
              refine o_iconst B67 201 202 (0 : Int32) at_201 rfl (by decide) ?_
              have y0 : (q0_11 x0 x1 x2 x3 x4 x5) = (0 : Int32) := by simp only [q0_6, q0_11, if_pos k34, if_neg k35]
              rw [y0] at k
              exact k
          · refine o_ifY B67 189 201 at_189 ((b_eq_t (c := (f4 x3 x4) = x3)) k34) (by decide) (by decide) ?_
            refine o_iconst B67 201 202 (0 : Int32) at_201 rfl (by decide) ?_
            have y0 : (q0_11 x0 x1 x2 x3 x4 x5) = (0 : Int32) := by simp only [q0_6, q0_11, if_neg k34]
            rw [y0] at k
            exact k
        refine dm33 ?_
        by_cases k36 : (f6 x3 (f4 x3 x4) (0 : Int32)) = (q0_11 x0 x1 x2 x3 x4 x5)
        · refine o_icN B67 202 205 at_202 rfl (XT.ii_ne_f k36) ?_
          refine o_iconst B67 205 206 (1 : Int32) at_205 rfl (by decide) ?_
          refine o_goto B67 206 210 at_206 (by decide) (by decide) ?_
          refine o_retZ (t := .boolean) B67 210 at_210 hret hlk (by simp) (by decide) (by decide) ⟨(congrArg (fun z => some (Value.int z)) ((show nar .boolean (1 : Int32) = (1 : Int32) from rfl).trans (show f0 x0 x1 x2 x3 x4 x5 = (1 : Int32) from (if_neg k5).trans ((if_pos k29).trans ((if_pos k32).trans ((if_pos k36).trans (rfl))))).symm)), N59⟩
        · refine o_icY B67 202 209 at_202 (XT.ii_ne_t k36) (by decide) (by decide) ?_
          refine o_iconst B67 209 210 (0 : Int32) at_209 rfl (by decide) ?_
          refine o_retZ (t := .boolean) B67 210 at_210 hret hlk (by simp) (by decide) (by decide) ⟨(congrArg (fun z => some (Value.int z)) ((show nar .boolean (0 : Int32) = (0 : Int32) from rfl).trans (show f0 x0 x1 x2 x3 x4 x5 = (0 : Int32) from (if_neg k5).trans ((if_pos k29).trans ((if_pos k32).trans ((if_neg k36).trans (rfl))))).symm)), N59⟩
      · refine o_ifN B59 174 177 at_174 rfl (XT.i0_eq_f k32) ?_
        refine o_aload B59 177 179 (v := (.ref a1)) at_177 rfl rfl rfl ?_
        have F71 := (Exa.wr W59 F61)
        have F72 := (Fld.other W59 F56 (Or.inr (slot_ne (a0 := a0) (C := "com/example/doorward/doorward/server/Http1Reader$Arrived") (Or.inl (hw _ (List.mem_of_getElem? (i := 20) rfl))) (Or.inl (hw _ (List.mem_of_getElem? (i := 22) rfl))) (by decide) (t := .int) (t' := .int) (by decide) (by decide))))
        have F73 := (Fld.other W59 (Fld.other W56 (Fld.ext E9 (Fld.ext E7 F4)) (Or.inr (slot_ne (a0 := a0) (C := "com/example/doorward/doorward/server/Http1Reader$Arrived") (Or.inl (hw _ (List.mem_of_getElem? (i := 29) rfl))) (Or.inl (hw _ (List.mem_of_getElem? (i := 20) rfl))) (by decide) (t := .boolean) (t' := .int) (by decide) (by decide)))) (Or.inr (slot_ne (a0 := a0) (C := "com/example/doorward/doorward/server/Http1Reader$Arrived") (Or.inl (hw _ (List.mem_of_getElem? (i := 29) rfl))) (Or.inl (hw _ (List.mem_of_getElem? (i := 22) rfl))) (by decide) (t := .boolean) (t' := .int) (by decide) (by decide))))
        obtain ⟨v74, T74, L74, B74, Q74, c74⟩ := o_callV B59 179 182 at_179 rfl (hw _ (List.mem_of_getElem? (i := 23) rfl)) (hw _ (List.mem_of_getElem? (i := 24) rfl)) (hw _ (List.mem_of_getElem? (i := 26) rfl)) (hw _ (List.mem_of_getElem? (i := 25) rfl)) (hw _ (List.mem_of_getElem? (i := 2) rfl)) (hw _ (List.mem_of_getElem? (i := 27) rfl)) (by decide) F71 (rm5 l Z a0 hw a1 x3 (f4 x3 x4) (0 : Int32) h59 n0 (W59.size ▸ (W56.size ▸ s9)) g1 F71 F72 F59 F73) 0 [] [] pd___V rfl rfl (st := [(.ref a1)]) rfl (Ls := #[.val (.int x0), .val (.int x1), .val (.int x2), .val (.int x3), .val (.int x4), .val (.int x5), .val (.ref a1), .val (.ref a7), .val (.ref a9), .val (.int (q0_1 x0 x1 x2 x3 x4 x5)), .val (.int (q0_2 x0 x1 x2 x3 x4 x5)), .val (.int (if (f4 x3 x4) = x3 then (1 : Int32) else 0)), .val (.int (f4 x3 x4)), .unset, .unset, .unset]) rfl (Nat.le_of_eq rfl) (by decide) (by decide) (by decide) (by decide)
        obtain ⟨rfl, M74, K74, O74_0, O74_1, O74_2⟩ := Q74
        have N74 := Fr.app N59 M74
        have s74 : n0 ≤ T74.heap.size := Nat.le_trans (W59.size ▸ (W56.size ▸ s9)) K74.1
        have P74_0 : Fld Z T74.heap a1 "com/example/doorward/doorward/server/Http1Reader$Arrived" "position" "I" (.int x3) := O74_0
        have P74_1 : Fld Z T74.heap a1 "com/example/doorward/doorward/server/Http1Reader$Arrived" "limit" "I" (.int (f4 x3 x4)) := O74_1
        have P74_2 : Fld Z T74.heap a1 "com/example/doorward/doorward/server/Http1Reader$Arrived" "ended" "Z" (.int (1 : Int32)) := O74_2
        refine c74 ?_
        show OG p.tables e below _ (T74.setTop (mkF m 182 #[.val (.int x0), .val (.int x1), .val (.int x2), .val (.int x3), .val (.int x4), .val (.int x5), .val (.ref a1), .val (.ref a7), .val (.ref a9), .val (.int (q0_1 x0 x1 x2 x3 x4 x5)), .val (.int (q0_2 x0 x1 x2 x3 x4 x5)), .val (.int (if (f4 x3 x4) = x3 then (1 : Int32) else 0)), .val (.int (f4 x3 x4)), .unset, .unset, .unset] []))
        refine o_aload B74 182 184 (v := (.ref a1)) at_182 rfl rfl rfl ?_
        have F75 := (F71.keep K74)
        obtain ⟨T76, B76, c76⟩ := o_callVP B74 184 187 at_184 rfl (hw _ (List.mem_of_getElem? (i := 30) rfl)) (hw _ (List.mem_of_getElem? (i := 31) rfl)) (hw _ (List.mem_of_getElem? (i := 33) rfl)) (hw _ (List.mem_of_getElem? (i := 32) rfl)) (hw _ (List.mem_of_getElem? (i := 2) rfl)) (hw _ (List.mem_of_getElem? (i := 34) rfl)) (by decide) F75 (rm6 l Z a0 hw a1 x3 (f4 x3 x4) (1 : Int32) T74.heap P74_0 P74_1 P74_2) 0 [] [] pd___Z rfl rfl (st := [(.ref a1)]) rfl (Ls := #[.val (.int x0), .val (.int x1), .val (.int x2), .val (.int x3), .val (.int x4), .val (.int x5), .val (.ref a1), .val (.ref a7), .val (.ref a9), .val (.int (q0_1 x0 x1 x2 x3 x4 x5)), .val (.int (q0_2 x0 x1 x2 x3 x4 x5)), .val (.int (if (f4 x3 x4) = x3 then (1 : Int32) else 0)), .val (.int (f4 x3 x4)), .unset, .unset, .unset]) rfl (Nat.le_of_eq rfl) (by decide) (by decide) (by decide) (by decide)
        refine c76 ?_
        refine o_iload B76 187 189 (v := (if (f4 x3 x4) = x3 then (1 : Int32) else 0)) at_187 rfl rfl ?_
        have dm37 : ∀ {P : Outcome → State → Prop}, OG p.tables e below P (T76.setTop (mkF m 202 #[.val (.int x0), .val (.int x1), .val (.int x2), .val (.int x3), .val (.int x4), .val (.int x5), .val (.ref a1), .val (.ref a7), .val (.ref a9), .val (.int (q0_1 x0 x1 x2 x3 x4 x5)), .val (.int (q0_2 x0 x1 x2 x3 x4 x5)), .val (.int (if (f4 x3 x4) = x3 then (1 : Int32) else 0)), .val (.int (f4 x3 x4)), .unset, .unset, .unset] [(.int (q0_11 x0 x1 x2 x3 x4 x5)), (.int (f6 x3 (f4 x3 x4) (1 : Int32)))])) → OG p.tables e below P (T76.setTop (mkF m 189 #[.val (.int x0), .val (.int x1), .val (.int x2), .val (.int x3), .val (.int x4), .val (.int x5), .val (.ref a1), .val (.ref a7), .val (.ref a9), .val (.int (q0_1 x0 x1 x2 x3 x4 x5)), .val (.int (q0_2 x0 x1 x2 x3 x4 x5)), .val (.int (if (f4 x3 x4) = x3 then (1 : Int32) else 0)), .val (.int (f4 x3 x4)), .unset, .unset, .unset] [(.int (if (f4 x3 x4) = x3 then (1 : Int32) else 0)), (.int (f6 x3 (f4 x3 x4) (1 : Int32)))])) := by
          intro P k
          by_cases k38 : (f4 x3 x4) = x3
          · refine o_ifN B76 189 192 at_189 rfl ((b_eq_f (c := (f4 x3 x4) = x3)) k38) ?_
            refine o_iload B76 192 194 (v := (q0_2 x0 x1 x2 x3 x4 x5)) at_192 rfl rfl ?_
            by_cases k39 : (q0_2 x0 x1 x2 x3 x4 x5) = 0
            · refine o_ifN B76 194 197 at_194 rfl (XT.i0_ne_f k39) ?_
              refine o_iconst B76 197 198 (1 : Int32) at_197 rfl (by decide) ?_
              refine o_goto B76 198 202 at_198 (by decide) (by decide) ?_
              have y0 : (q0_11 x0 x1 x2 x3 x4 x5) = (1 : Int32) := by simp only [q0_6, q0_11, if_pos k38, if_pos k39]
              rw [y0] at k
              exact k
            · refine o_ifY B76 194 201 at_194 (XT.i0_ne_t k39) (by decide) (by decide) ?_
              refine o_iconst B76 201 202 (0 : Int32) at_201 rfl (by decide) ?_
              have y0 : (q0_11 x0 x1 x2 x3 x4 x5) = (0 : Int32) := by simp only [q0_6, q0_11, if_pos k38, if_neg k39]
              rw [y0] at k
              exact k
          · refine o_ifY B76 189 201 at_189 ((b_eq_t (c := (f4 x3 x4) = x3)) k38) (by decide) (by decide) ?_
            refine o_iconst B76 201 202 (0 : Int32) at_201 rfl (by decide) ?_
            have y0 : (q0_11 x0 x1 x2 x3 x4 x5) = (0 : Int32) := by simp only [q0_6, q0_11, if_neg k38]
            rw [y0] at k
            exact k
        refine dm37 ?_
        by_cases k40 : (f6 x3 (f4 x3 x4) (1 : Int32)) = (q0_11 x0 x1 x2 x3 x4 x5)
        · refine o_icN B76 202 205 at_202 rfl (XT.ii_ne_f k40) ?_
          refine o_iconst B76 205 206 (1 : Int32) at_205 rfl (by decide) ?_
          refine o_goto B76 206 210 at_206 (by decide) (by decide) ?_
          refine o_retZ (t := .boolean) B76 210 at_210 hret hlk (by simp) (by decide) (by decide) ⟨(congrArg (fun z => some (Value.int z)) ((show nar .boolean (1 : Int32) = (1 : Int32) from rfl).trans (show f0 x0 x1 x2 x3 x4 x5 = (1 : Int32) from (if_neg k5).trans ((if_pos k29).trans ((if_neg k32).trans ((if_pos k40).trans (rfl))))).symm)), N74⟩
        · refine o_icY B76 202 209 at_202 (XT.ii_ne_t k40) (by decide) (by decide) ?_
          refine o_iconst B76 209 210 (0 : Int32) at_209 rfl (by decide) ?_
          refine o_retZ (t := .boolean) B76 210 at_210 hret hlk (by simp) (by decide) (by decide) ⟨(congrArg (fun z => some (Value.int z)) ((show nar .boolean (0 : Int32) = (0 : Int32) from rfl).trans (show f0 x0 x1 x2 x3 x4 x5 = (0 : Int32) from (if_neg k5).trans ((if_pos k29).trans ((if_neg k32).trans ((if_neg k40).trans (rfl))))).symm)), N74⟩
    · refine o_ifN B9 57 60 at_57 rfl (XT.i0_eq_f k29) ?_
      refine o_iloadN B9 60 61 (v := x3) at_60 rfl rfl ?_
      refine o_goto B9 61 70 at_61 (by decide) (by decide) ?_
      refine o_istore B9 70 72 (l' := #[.val (.int x0), .val (.int x1), .val (.int x2), .val (.int x3), .val (.int x4), .val (.int x5), .val (.ref a1), .val (.ref a7), .val (.ref a9), .val (.int (q0_1 x0 x1 x2 x3 x4 x5)), .val (.int (q0_2 x0 x1 x2 x3 x4 x5)), .unset, .val (.int x3), .unset, .unset, .unset]) at_70 rfl rfl ?_
      refine o_aload B9 72 74 (v := (.ref a1)) at_72 rfl rfl rfl ?_
      refine o_iloadN B9 74 75 (v := x3) at_74 rfl rfl ?_
      have F81 := (Fld.ext E9 (Fld.ext E7 F2))
      have F82 := (Exa.ext E9 F10)
      obtain ⟨T80, h80, L80, B80, N80, W80, c80⟩ := o_putfield B9 N0 g1 75 78 (v := (.int x3)) at_75 rfl (host := "") (Or.inl (hw _ (List.mem_of_getElem? (i := 19) rfl))) Via.refl F81 F82 (Or.inl (hw _ (List.mem_of_getElem? (i := 20) rfl))) (hw _ (List.mem_of_getElem? (i := 1) rfl)) (ty := .int) (by decide) rfl rfl (Ls := #[.val (.int x0), .val (.int x1), .val (.int x2), .val (.int x3), .val (.int x4), .val (.int x5), .val (.ref a1), .val (.ref a7), .val (.ref a9), .val (.int (q0_1 x0 x1 x2 x3 x4 x5)), .val (.int (q0_2 x0 x1 x2 x3 x4 x5)), .unset, .val (.int x3), .unset, .unset, .unset]) (rest := [])
      have F80 : Fld Z h80 a1 "com/example/doorward/doorward/server/Http1Reader$Arrived" "position" "I" (.int x3) := Fld.same W80 F81
      refine c80 ?_
      refine o_aload B80 78 80 (v := (.ref a1)) at_78 rfl rfl rfl ?_
      refine o_iload B80 80 82 (v := x3) at_80 rfl rfl ?_
      have F84 := (Fld.other W80 (Fld.ext E9 (Fld.ext E7 F3)) (Or.inr (slot_ne (a0 := a0) (C := "com/example/doorward/doorward/server/Http1Reader$Arrived") (Or.inl (hw _ (List.mem_of_getElem? (i := 22) rfl))) (Or.inl (hw _ (List.mem_of_getElem? (i := 20) rfl))) (by decide) (t := .int) (t' := .int) (by decide) (by decide))))
      have F85 := (Exa.wr W80 F82)
      obtain ⟨T83, h83, L83, B83, N83, W83, c83⟩ := o_putfield B80 N80 g1 82 85 (v := (.int x3)) at_82 rfl (host := "") (Or.inl (hw _ (List.mem_of_getElem? (i := 21) rfl))) Via.refl F84 F85 (Or.inl (hw _ (List.mem_of_getElem? (i := 22) rfl))) (hw _ (List.mem_of_getElem? (i := 1) rfl)) (ty := .int) (by decide) rfl rfl (Ls := #[.val (.int x0), .val (.int x1), .val (.int x2), .val (.int x3), .val (.int x4), .val (.int x5), .val (.ref a1), .val (.ref a7), .val (.ref a9), .val (.int (q0_1 x0 x1 x2 x3 x4 x5)), .val (.int (q0_2 x0 x1 x2 x3 x4 x5)), .unset, .val (.int x3), .unset, .unset, .unset]) (rest := [])
      have F83 : Fld Z h83 a1 "com/example/doorward/doorward/server/Http1Reader$Arrived" "limit" "I" (.int x3) := Fld.same W83 F84
      refine c83 ?_
      refine o_iload B83 85 87 (v := x3) at_85 rfl rfl ?_
      refine o_iloadN B83 87 88 (v := x3) at_87 rfl rfl ?_
      refine o_icN B83 88 91 at_88 rfl (XT.ii_ne_f rfl) ?_
      refine o_iconst B83 91 92 (1 : Int32) at_91 rfl (by decide) ?_
      refine o_goto B83 92 96 at_92 (by decide) (by decide) ?_
      refine o_istore B83 96 98 (l' := #[.val (.int x0), .val (.int x1), .val (.int x2), .val (.int x3), .val (.int x4), .val (.int x5), .val (.ref a1), .val (.ref a7), .val (.ref a9), .val (.int (q0_1 x0 x1 x2 x3 x4 x5)), .val (.int (q0_2 x0 x1 x2 x3 x4 x5)), .val (.int (1 : Int32)), .val (.int x3), .unset, .unset, .unset]) at_96 rfl rfl ?_
      refine o_goto B83 98 172 at_98 (by decide) (by decide) ?_
      refine o_iload B83 172 174 (v := (q0_2 x0 x1 x2 x3 x4 x5)) at_172 rfl rfl ?_
      by_cases k41 : (q0_2 x0 x1 x2 x3 x4 x5) = 0
      · refine o_ifY B83 174 182 at_174 (XT.i0_eq_t k41) (by decide) (by decide) ?_
        refine o_aload B83 182 184 (v := (.ref a1)) at_182 rfl rfl rfl ?_
        have F86 := (Fld.other W83 F80 (Or.inr (slot_ne (a0 := a0) (C := "com/example/doorward/doorward/server/Http1Reader$Arrived") (Or.inl (hw _ (List.mem_of_getElem? (i := 20) rfl))) (Or.inl (hw _ (List.mem_of_getElem? (i := 22) rfl))) (by decide) (t := .int) (t' := .int) (by decide) (by decide))))
        have F87 := (Fld.other W83 (Fld.other W80 (Fld.ext E9 (Fld.ext E7 F4)) (Or.inr (slot_ne (a0 := a0) (C := "com/example/doorward/doorward/server/Http1Reader$Arrived") (Or.inl (hw _ (List.mem_of_getElem? (i := 29) rfl))) (Or.inl (hw _ (List.mem_of_getElem? (i := 20) rfl))) (by decide) (t := .boolean) (t' := .int) (by decide) (by decide)))) (Or.inr (slot_ne (a0 := a0) (C := "com/example/doorward/doorward/server/Http1Reader$Arrived") (Or.inl (hw _ (List.mem_of_getElem? (i := 29) rfl))) (Or.inl (hw _ (List.mem_of_getElem? (i := 22) rfl))) (by decide) (t := .boolean) (t' := .int) (by decide) (by decide))))
        have F88 := (Exa.wr W83 F85)
        obtain ⟨T89, B89, c89⟩ := o_callVP B83 184 187 at_184 rfl (hw _ (List.mem_of_getElem? (i := 30) rfl)) (hw _ (List.mem_of_getElem? (i := 31) rfl)) (hw _ (List.mem_of_getElem? (i := 33) rfl)) (hw _ (List.mem_of_getElem? (i := 32) rfl)) (hw _ (List.mem_of_getElem? (i := 2) rfl)) (hw _ (List.mem_of_getElem? (i := 34) rfl)) (by decide) F88 (rm6 l Z a0 hw a1 x3 x3 (0 : Int32) h83 F86 F83 F87) 0 [] [] pd___Z rfl rfl (st := [(.ref a1)]) rfl (Ls := #[.val (.int x0), .val (.int x1), .val (.int x2), .val (.int x3), .val (.int x4), .val (.int x5), .val (.ref a1), .val (.ref a7), .val (.ref a9), .val (.int (q0_1 x0 x1 x2 x3 x4 x5)), .val (.int (q0_2 x0 x1 x2 x3 x4 x5)), .val (.int (1 : Int32)), .val (.int x3), .unset, .unset, .unset]) rfl (Nat.le_of_eq rfl) (by decide) (by decide) (by decide) (by decide)
        refine c89 ?_
        refine o_iload B89 187 189 (v := (1 : Int32)) at_187 rfl rfl ?_
        refine o_ifN B89 189 192 at_189 rfl (XT.i0_eq_f (by decide)) ?_
        refine o_iload B89 192 194 (v := (q0_2 x0 x1 x2 x3 x4 x5)) at_192 rfl rfl ?_
        have dm42 : ∀ {P : Outcome → State → Prop}, OG p.tables e below P (T89.setTop (mkF m 202 #[.val (.int x0), .val (.int x1), .val (.int x2), .val (.int x3), .val (.int x4), .val (.int x5), .val (.ref a1), .val (.ref a7), .val (.ref a9), .val (.int (q0_1 x0 x1 x2 x3 x4 x5)), .val (.int (q0_2 x0 x1 x2 x3 x4 x5)), .val (.int (1 : Int32)), .val (.int x3), .unset, .unset, .unset] [(.int (q0_6 x0 x1 x2 x3 x4 x5)), (.int (f6 x3 x3 (0 : Int32)))])) → OG p.tables e below P (T89.setTop (mkF m 194 #[.val (.int x0), .val (.int x1), .val (.int x2), .val (.int x3), .val (.int x4), .val (.int x5), .val (.ref a1), .val (.ref a7), .val (.ref a9), .val (.int (q0_1 x0 x1 x2 x3 x4 x5)), .val (.int (q0_2 x0 x1 x2 x3 x4 x5)), .val (.int (1 : Int32)), .val (.int x3), .unset, .unset, .unset] [(.int (q0_2 x0 x1 x2 x3 x4 x5)), (.int (f6 x3 x3 (0 : Int32)))])) := by
          intro P k
          by_cases k43 : (q0_2 x0 x1 x2 x3 x4 x5) = 0
          · refine o_ifN B89 194 197 at_194 rfl (XT.i0_ne_f k43) ?_
            refine o_iconst B89 197 198 (1 : Int32) at_197 rfl (by decide) ?_
            refine o_goto B89 198 202 at_198 (by decide) (by decide) ?_
            have y0 : (q0_6 x0 x1 x2 x3 x4 x5) = (1 : Int32) := by simp only [q0_6, if_pos k43]
            rw [y0] at k
            exact k
          · refine o_ifY B89 194 201 at_194 (XT.i0_ne_t k43) (by decide) (by decide) ?_
            refine o_iconst B89 201 202 (0 : Int32) at_201 rfl (by decide) ?_
            have y0 : (q0_6 x0 x1 x2 x3 x4 x5) = (0 : Int32) := by simp only [q0_6, if_neg k43]
            rw [y0] at k
            exact k
        refine dm42 ?_
        by_cases k44 : (f6 x3 x3 (0 : Int32)) = (q0_6 x0 x1 x2 x3 x4 x5)
        · refine o_icN B89 202 205 at_202 rfl (XT.ii_ne_f k44) ?_
          refine o_iconst B89 205 206 (1 : Int32) at_205 rfl (by decide) ?_
          refine o_goto B89 206 210 at_206 (by decide) (by decide) ?_
          refine o_retZ (t := .boolean) B89 210 at_210 hret hlk (by simp) (by decide) (by decide) ⟨(congrArg (fun z => some (Value.int z)) ((show nar .boolean (1 : Int32) = (1 : Int32) from rfl).trans (show f0 x0 x1 x2 x3 x4 x5 = (1 : Int32) from (if_neg k5).trans ((if_neg k29).trans ((if_pos k41).trans ((if_pos k44).trans (rfl))))).symm)), N83⟩
        · refine o_icY B89 202 209 at_202 (XT.ii_ne_t k44) (by decide) (by decide) ?_
          refine o_iconst B89 209 210 (0 : Int32) at_209 rfl (by decide) ?_
          refine o_retZ (t := .boolean) B89 210 at_210 hret hlk (by simp) (by decide) (by decide) ⟨(congrArg (fun z => some (Value.int z)) ((show nar .boolean (0 : Int32) = (0 : Int32) from rfl).trans (show f0 x0 x1 x2 x3 x4 x5 = (0 : Int32) from (if_neg k5).trans ((if_neg k29).trans ((if_pos k41).trans ((if_neg k44).trans (rfl))))).symm)), N83⟩
      · refine o_ifN B83 174 177 at_174 rfl (XT.i0_eq_f k41) ?_
        refine o_aload B83 177 179 (v := (.ref a1)) at_177 rfl rfl rfl ?_
        have F92 := (Exa.wr W83 F85)
        have F93 := (Fld.other W83 F80 (Or.inr (slot_ne (a0 := a0) (C := "com/example/doorward/doorward/server/Http1Reader$Arrived") (Or.inl (hw _ (List.mem_of_getElem? (i := 20) rfl))) (Or.inl (hw _ (List.mem_of_getElem? (i := 22) rfl))) (by decide) (t := .int) (t' := .int) (by decide) (by decide))))
        have F94 := (Fld.other W83 (Fld.other W80 (Fld.ext E9 (Fld.ext E7 F4)) (Or.inr (slot_ne (a0 := a0) (C := "com/example/doorward/doorward/server/Http1Reader$Arrived") (Or.inl (hw _ (List.mem_of_getElem? (i := 29) rfl))) (Or.inl (hw _ (List.mem_of_getElem? (i := 20) rfl))) (by decide) (t := .boolean) (t' := .int) (by decide) (by decide)))) (Or.inr (slot_ne (a0 := a0) (C := "com/example/doorward/doorward/server/Http1Reader$Arrived") (Or.inl (hw _ (List.mem_of_getElem? (i := 29) rfl))) (Or.inl (hw _ (List.mem_of_getElem? (i := 22) rfl))) (by decide) (t := .boolean) (t' := .int) (by decide) (by decide))))
        obtain ⟨v95, T95, L95, B95, Q95, c95⟩ := o_callV B83 179 182 at_179 rfl (hw _ (List.mem_of_getElem? (i := 23) rfl)) (hw _ (List.mem_of_getElem? (i := 24) rfl)) (hw _ (List.mem_of_getElem? (i := 26) rfl)) (hw _ (List.mem_of_getElem? (i := 25) rfl)) (hw _ (List.mem_of_getElem? (i := 2) rfl)) (hw _ (List.mem_of_getElem? (i := 27) rfl)) (by decide) F92 (rm5 l Z a0 hw a1 x3 x3 (0 : Int32) h83 n0 (W83.size ▸ (W80.size ▸ s9)) g1 F92 F93 F83 F94) 0 [] [] pd___V rfl rfl (st := [(.ref a1)]) rfl (Ls := #[.val (.int x0), .val (.int x1), .val (.int x2), .val (.int x3), .val (.int x4), .val (.int x5), .val (.ref a1), .val (.ref a7), .val (.ref a9), .val (.int (q0_1 x0 x1 x2 x3 x4 x5)), .val (.int (q0_2 x0 x1 x2 x3 x4 x5)), .val (.int (1 : Int32)), .val (.int x3), .unset, .unset, .unset]) rfl (Nat.le_of_eq rfl) (by decide) (by decide) (by decide) (by decide)
        obtain ⟨rfl, M95, K95, O95_0, O95_1, O95_2⟩ := Q95
        have N95 := Fr.app N83 M95
        have s95 : n0 ≤ T95.heap.size := Nat.le_trans (W83.size ▸ (W80.size ▸ s9)) K95.1
        have P95_0 : Fld Z T95.heap a1 "com/example/doorward/doorward/server/Http1Reader$Arrived" "position" "I" (.int x3) := O95_0
        have P95_1 : Fld Z T95.heap a1 "com/example/doorward/doorward/server/Http1Reader$Arrived" "limit" "I" (.int x3) := O95_1
        have P95_2 : Fld Z T95.heap a1 "com/example/doorward/doorward/server/Http1Reader$Arrived" "ended" "Z" (.int (1 : Int32)) := O95_2
        refine c95 ?_
        show OG p.tables e below _ (T95.setTop (mkF m 182 #[.val (.int x0), .val (.int x1), .val (.int x2), .val (.int x3), .val (.int x4), .val (.int x5), .val (.ref a1), .val (.ref a7), .val (.ref a9), .val (.int (q0_1 x0 x1 x2 x3 x4 x5)), .val (.int (q0_2 x0 x1 x2 x3 x4 x5)), .val (.int (1 : Int32)), .val (.int x3), .unset, .unset, .unset] []))
        refine o_aload B95 182 184 (v := (.ref a1)) at_182 rfl rfl rfl ?_
        have F96 := (F92.keep K95)
        obtain ⟨T97, B97, c97⟩ := o_callVP B95 184 187 at_184 rfl (hw _ (List.mem_of_getElem? (i := 30) rfl)) (hw _ (List.mem_of_getElem? (i := 31) rfl)) (hw _ (List.mem_of_getElem? (i := 33) rfl)) (hw _ (List.mem_of_getElem? (i := 32) rfl)) (hw _ (List.mem_of_getElem? (i := 2) rfl)) (hw _ (List.mem_of_getElem? (i := 34) rfl)) (by decide) F96 (rm6 l Z a0 hw a1 x3 x3 (1 : Int32) T95.heap P95_0 P95_1 P95_2) 0 [] [] pd___Z rfl rfl (st := [(.ref a1)]) rfl (Ls := #[.val (.int x0), .val (.int x1), .val (.int x2), .val (.int x3), .val (.int x4), .val (.int x5), .val (.ref a1), .val (.ref a7), .val (.ref a9), .val (.int (q0_1 x0 x1 x2 x3 x4 x5)), .val (.int (q0_2 x0 x1 x2 x3 x4 x5)), .val (.int (1 : Int32)), .val (.int x3), .unset, .unset, .unset]) rfl (Nat.le_of_eq rfl) (by decide) (by decide) (by decide) (by decide)
        refine c97 ?_
        refine o_iload B97 187 189 (v := (1 : Int32)) at_187 rfl rfl ?_
        refine o_ifN B97 189 192 at_189 rfl (XT.i0_eq_f (by decide)) ?_
        refine o_iload B97 192 194 (v := (q0_2 x0 x1 x2 x3 x4 x5)) at_192 rfl rfl ?_
        have dm45 : ∀ {P : Outcome → State → Prop}, OG p.tables e below P (T97.setTop (mkF m 202 #[.val (.int x0), .val (.int x1), .val (.int x2), .val (.int x3), .val (.int x4), .val (.int x5), .val (.ref a1), .val (.ref a7), .val (.ref a9), .val (.int (q0_1 x0 x1 x2 x3 x4 x5)), .val (.int (q0_2 x0 x1 x2 x3 x4 x5)), .val (.int (1 : Int32)), .val (.int x3), .unset, .unset, .unset] [(.int (q0_6 x0 x1 x2 x3 x4 x5)), (.int (f6 x3 x3 (1 : Int32)))])) → OG p.tables e below P (T97.setTop (mkF m 194 #[.val (.int x0), .val (.int x1), .val (.int x2), .val (.int x3), .val (.int x4), .val (.int x5), .val (.ref a1), .val (.ref a7), .val (.ref a9), .val (.int (q0_1 x0 x1 x2 x3 x4 x5)), .val (.int (q0_2 x0 x1 x2 x3 x4 x5)), .val (.int (1 : Int32)), .val (.int x3), .unset, .unset, .unset] [(.int (q0_2 x0 x1 x2 x3 x4 x5)), (.int (f6 x3 x3 (1 : Int32)))])) := by
          intro P k
          by_cases k46 : (q0_2 x0 x1 x2 x3 x4 x5) = 0
          · refine o_ifN B97 194 197 at_194 rfl (XT.i0_ne_f k46) ?_
            refine o_iconst B97 197 198 (1 : Int32) at_197 rfl (by decide) ?_
            refine o_goto B97 198 202 at_198 (by decide) (by decide) ?_
            have y0 : (q0_6 x0 x1 x2 x3 x4 x5) = (1 : Int32) := by simp only [q0_6, if_pos k46]
            rw [y0] at k
            exact k
          · refine o_ifY B97 194 201 at_194 (XT.i0_ne_t k46) (by decide) (by decide) ?_
            refine o_iconst B97 201 202 (0 : Int32) at_201 rfl (by decide) ?_
            have y0 : (q0_6 x0 x1 x2 x3 x4 x5) = (0 : Int32) := by simp only [q0_6, if_neg k46]
            rw [y0] at k
            exact k
        refine dm45 ?_
        by_cases k47 : (f6 x3 x3 (1 : Int32)) = (q0_6 x0 x1 x2 x3 x4 x5)
        · refine o_icN B97 202 205 at_202 rfl (XT.ii_ne_f k47) ?_
          refine o_iconst B97 205 206 (1 : Int32) at_205 rfl (by decide) ?_
          refine o_goto B97 206 210 at_206 (by decide) (by decide) ?_
          refine o_retZ (t := .boolean) B97 210 at_210 hret hlk (by simp) (by decide) (by decide) ⟨(congrArg (fun z => some (Value.int z)) ((show nar .boolean (1 : Int32) = (1 : Int32) from rfl).trans (show f0 x0 x1 x2 x3 x4 x5 = (1 : Int32) from (if_neg k5).trans ((if_neg k29).trans ((if_neg k41).trans ((if_pos k47).trans (rfl))))).symm)), N95⟩
        · refine o_icY B97 202 209 at_202 (XT.ii_ne_t k47) (by decide) (by decide) ?_
          refine o_iconst B97 209 210 (0 : Int32) at_209 rfl (by decide) ?_
          refine o_retZ (t := .boolean) B97 210 at_210 hret hlk (by simp) (by decide) (by decide) ⟨(congrArg (fun z => some (Value.int z)) ((show nar .boolean (0 : Int32) = (0 : Int32) from rfl).trans (show f0 x0 x1 x2 x3 x4 x5 = (0 : Int32) from (if_neg k5).trans ((if_neg k29).trans ((if_neg k41).trans ((if_neg k47).trans (rfl))))).symm)), N95⟩
theorem law_true (x0 x1 x2 x3 x4 x5 : Int32) : f0 x0 x1 x2 x3 x4 x5 = 1 := by
  have q := own_r x0 x1 x2 x3 x4 x5
  unfold f0 q0_5 q0_7 q0_8 q0_9 q0_10 q0_11 q0_6 f6
  have e1 : (x0 &&& 3) + (q0_3 x0 x1 x2 x3 x4 x5) = (x0 &&& 3) + (x1 &&& 3) ↔ q0_3 x0 x1 x2 x3 x4 x5 = x1 &&& 3 := by
    rw [← Int32.toInt_inj, ← Int32.toInt_inj]; omega
  have e2 : ¬ 0 < q0_3 x0 x1 x2 x3 x4 x5 → (x0 &&& 3 = (x0 &&& 3) + (x1 &&& 3) ↔ q0_3 x0 x1 x2 x3 x4 x5 = x1 &&& 3) := by
    intro h
    rw [Int32.lt_iff_toInt_lt, Int32.toInt_zero] at h
    rw [← Int32.toInt_inj, ← Int32.toInt_inj]; omega
  have e3 : x3 = f4 x3 x4 ↔ f4 x3 x4 = x3 := ⟨Eq.symm, Eq.symm⟩
  simp only [e1, e3]
  generalize q0_2 x0 x1 x2 x3 x4 x5 = F
  generalize q0_1 x0 x1 x2 x3 x4 x5 = D
  by_cases h : 0 < q0_3 x0 x1 x2 x3 x4 x5
  · simp only [if_pos h]
    by_cases f : F = 0
    · simp [f]
      repeat' split
      all_goals simp_all
    · simp [f]
  · simp only [e2 h, if_neg h]
    by_cases f : F = 0
    · simp [f]
      repeat' split
      all_goals simp_all
    · simp [f]
set_option maxRecDepth 65536 in
set_option maxHeartbeats 40000000 in
theorem comes_1 {Post : Tables → Env → Array Value → State → Outcome → State → Prop} (hpost : ∀ tb e args s v u, (limb_1_1.after args s (.returned v) u = true ∧ limb_1_2.after args s (.returned v) u = true ∧ True) → FrameEnd s (.returned v) u (Jvm.fieldLocs frame_1_writes args s ++ Jvm.arrayLocs frame_1_arrays args s ++ Jvm.staticLocs frame_1_statics s) 16 128 → Post tb e args s (.returned v) u) :
    ArmFor flags0 classFile x code maxLocals ret World_1 tables_1 room_1 Calls_1 rest_1 Pre_1 Post := by
  intro l hfl _ _ p e ha hc hk s m args below hf hA hF happ hP
  obtain ⟨hcalls, hrest, hpre⟩ := hP
  obtain ⟨-, -, -, hnamed, -, -, -, hat⟩ := (Spec.applies_iff hf).mp happ
  obtain ⟨hg, hn⟩ := and_e (Cond.before_iff.mp (show (Jvm.Cond.and given_1 narrow_1).before args s = true from hpre))
  obtain ⟨g0, hg⟩ := and_e hg
  obtain ⟨g1, hg⟩ := and_e hg
  obtain ⟨g2, hg⟩ := and_e hg
  obtain ⟨g3, hg⟩ := and_e hg
  obtain ⟨g4, hg⟩ := and_e hg
  obtain ⟨g5, hg⟩ := and_e hg
  obtain ⟨w0, w1, w2, w3, w4, w5, rfl⟩ : ∃ w0 w1 w2 w3 w4 w5 : Value, args = #[w0, w1, w2, w3, w4, w5] := by
    have hs : args.size = 6 := by simpa [Cond.value, given_1] using g0
    obtain ⟨L⟩ := args
    match L, hs with
    | [w0, w1, w2, w3, w4, w5], _ => exact ⟨w0, w1, w2, w3, w4, w5, rfl⟩
  have hw := fun d (hd : d ∈ tables_1) => atoms_spec (ws := Jvm.Cond.code x code maxLocals ret :: tables_1) hat d (List.mem_cons_of_mem _ hd)
  obtain ⟨i0, e0⟩ := is_v g1
  obtain rfl : w0 = (.int i0) := Option.some.inj e0
  obtain ⟨i1, e1⟩ := is_v g2
  obtain rfl : w1 = (.int i1) := Option.some.inj e1
  obtain ⟨i2, e2⟩ := is_v g3
  obtain rfl : w2 = (.int i2) := Option.some.inj e2
  obtain ⟨i3, e3⟩ := is_v g4
  obtain rfl : w3 = (.int i3) := Option.some.inj e3
  obtain ⟨i4, e4⟩ := is_v g5
  obtain rfl : w4 = (.int i4) := Option.some.inj e4
  obtain ⟨i5, e5⟩ := is_v hg
  obtain rfl : w5 = (.int i5) := Option.some.inj e5
  obtain ⟨n, o, h1, h2, h3, v, L, rfl, ⟨rfl, N⟩, hq⟩ := rm0 l s _ hw tables_1 i0 i1 i2 i3 i4 i5 s.heap s.heap.size (Nat.le_refl _) p e ha hc hk s m _ below hf ((Spec.applies_iff_loose hf).mp happ).1 ⟨rfl, State.Warmed39.refl s, rfl⟩ trivial
  rw [law_true] at h3 hq
  refine ⟨n, _, h1, h2, h3, hpost _ _ _ _ _ _ ⟨Cond.after_iff.mpr rfl, Cond.after_iff.mpr (eq_i res_at (Term.int_eval (1)) rfl), trivial⟩ ⟨hq.1, hq.2.1, (hq.2.2.sift fun y hy => Or.inr (N y hy)).mono (by decide) (by decide)⟩⟩
theorem main_1_1 : Claimed_1_1 := comes_1 fun _ _ _ _ _ _ h hF => ⟨h.1, hF⟩
theorem main_1_2 : Claimed_1_2 := comes_1 fun _ _ _ _ _ _ h hF => ⟨h.2.1, hF⟩
end Jvm.Pilot.@@N@@
namespace Jvm.Pilot.@@N@@
open Jvm Jvm.ClassFile Sem Op Lib Jvm.Free Jvm.Stand Jvm.Pilot.@@N@@.Jvm.D
/-! MADE BY PROGRAM (witnessworld.py) out of the Statement's table words and the real class files: 16 classes; the members and pool entries that the words name. The judged class is class 1, her method 1. -/
namespace start1
open Jvm.ClassFile
def u (s : String) : CpInfo := .utf8 (stringToUtf16 s)
/-- a pool by its gaps: so many unusable entries, then the entry; so many at the end -/
def gap : Nat → List CpInfo → List CpInfo
  | 0, r => r
  | n + 1, r => .unusable :: gap n r
def poolList (es : List (Nat × CpInfo)) (last : Nat) : List CpInfo := es.foldr (fun e r => gap e.1 (e.2 :: r)) (gap last [])
def pool (es : List (Nat × CpInfo)) (last : Nat) : Array CpInfo := ⟨poolList es last⟩
def fileOf (pool : Array CpInfo) (this : Nat) (attrs : Array Attribute := #[]) (ms : Array MethodInfo := #[]) (fl : Nat := 33) (sup : Nat := 0) (ifs : Array Nat := #[]) (fds : Array FieldInfo := #[]) : ClassFile where
  minorVersion := 0
  majorVersion := 65
  constantPool := pool
  accessFlags := fl
  thisClass := this
  superClass := sup
  interfaces := ifs
  fields := fds
  methods := ms
  attributes := attrs
def plain (name : String) (sup : Option ClassId) : Class where
  name := name
  kind := .ordinary
  loader := none
  accessFlags := 33
  super := sup
  interfaces := #[]
  cf := none
  fields := #[]
  methods := #[]
  instanceTypes := #[]
  staticTypes := #[]
  resolved := #[]
  callSites := []
  init := .initialized
  statics := none
  mirror := none

def pool0 : Array CpInfo := pool [(5, u "<init>"), (0, u "()V"), (1, .class_ 10), (1, u "java/lang/Object")] 113

def k0c0 : Code := { maxStack := 0, maxLocals := 1, code := object_method_1_code, exceptionTable := #[], attributes := #[] }
def k0m0 : Method := { name := "<init>", desc := "()V", sig := { parameters := [], returnType := none }, accessFlags := 1, code := some k0c0 }
/-- java/lang/Object -/
def k0 : Class := { plain "java/lang/Object" none with
  accessFlags := 33
  interfaces := #[]
  cf := some (fileOf pool0 8 #[] #[{ accessFlags := 1, nameIndex := 5, descriptorIndex := 6, attributes := #[] }] 33 0 #[] #[])
  fields := #[]
  methods := #[k0m0]
  instanceTypes := #[]
  staticTypes := #[]
  resolved := Array.replicate 124 none
  statics := none }

def pool1 : Array CpInfo := pool [(2, .class_ 4), (0, .nameAndType 5 6), (0, u "java/lang/Object"), (0, u "<init>"), (0, u "()V"), (0, .class_ 8), (0, u "com/example/doorward/doorward/server/Http1Reader$Arrived"), (0, .methodref 7 3), (0, .methodref 11 12), (0, .class_ 13), (0, .nameAndType 14 15), (0, u "java/lang/Math"), (0, u "max"), (0, u "(II)I"), (0, .fieldref 7 17), (0, .nameAndType 18 19), (0, u "position"), (0, u "I"), (0, .fieldref 7 21), (0, .nameAndType 22 19), (0, u "limit"), (0, .methodref 7 24), (0, .nameAndType 25 26), (0, u "set"), (0, u "([BII)V"), (0, .methodref 7 28), (0, .nameAndType 29 30), (0, u "read"), (0, u "([BII)I"), (0, .methodref 7 32), (0, .nameAndType 33 6), (0, u "end"), (0, .methodref 7 35), (0, .nameAndType 36 37), (0, u "nothingLeft"), (0, u "()Z"), (0, .class_ 39), (0, u "com/example/doorward/doorward/server/ArrivedNothingLeftPinLaw"), (2, u "law"), (0, u "(IIIIII)Z")] 12

def k1m0 : Method := { name := "<init>", desc := "()V", sig := { parameters := [], returnType := none }, accessFlags := 1, code := none }
def k1c1 : Code := { maxStack := 4, maxLocals := 16, code := code, exceptionTable := #[], attributes := #[] }
def k1m1 : Method := { name := "law", desc := "(IIIIII)Z", sig := { parameters := [.int, .int, .int, .int, .int, .int], returnType := some .boolean }, accessFlags := 9, code := some k1c1 }
/-- com/example/doorward/doorward/server/ArrivedNothingLeftPinLaw -/
def k1 : Class := { plain "com/example/doorward/doorward/server/ArrivedNothingLeftPinLaw" (some 0) with
  accessFlags := 49
  interfaces := #[]
  cf := some (fileOf pool1 38 #[] #[{ accessFlags := 1, nameIndex := 5, descriptorIndex := 6, attributes := #[] }, { accessFlags := 9, nameIndex := 42, descriptorIndex := 43, attributes := #[] }] 49 2 #[] #[])
  fields := #[]
  methods := #[k1m0, k1m1]
  instanceTypes := #[]
  staticTypes := #[]
  resolved := Array.replicate 56 none
  statics := none }

def pool2 : Array CpInfo := pool [(1, .class_ 2), (0, u "java/lang/AutoCloseable"), (0, .class_ 4), (0, u "java/lang/Object")] 7

/-- java/lang/AutoCloseable -/
def k2 : Class := { plain "java/lang/AutoCloseable" (some 0) with
  accessFlags := 1537
  interfaces := #[]
  cf := some (fileOf pool2 1 #[] #[] 1537 3 #[] #[])
  fields := #[]
  methods := #[]
  instanceTypes := #[]
  staticTypes := #[]
  resolved := Array.replicate 12 none
  statics := none }

def pool3 : Array CpInfo := pool [(1, .class_ 2), (0, u "java/io/Closeable"), (0, .class_ 4), (0, u "java/lang/Object"), (0, .class_ 6), (0, u "java/lang/AutoCloseable")] 7

/-- java/io/Closeable -/
def k3 : Class := { plain "java/io/Closeable" (some 0) with
  accessFlags := 1537
  interfaces := #[2]
  cf := some (fileOf pool3 1 #[] #[] 1537 3 #[5] #[])
  fields := #[]
  methods := #[]
  instanceTypes := #[]
  staticTypes := #[]
  resolved := Array.replicate 14 none
  statics := none }

def pool4 : Array CpInfo := pool [(3, .methodref 4 5), (0, .class_ 6), (0, .nameAndType 7 8), (0, u "java/lang/Object"), (0, u "<init>"), (0, u "()V"), (0, .class_ 10), (0, u "java/io/InputStream$1"), (2, .class_ 15), (1, u "java/io/InputStream"), (116, .class_ 133), (0, u "java/io/Closeable"), (0, u "MAX_SKIP_BUFFER_SIZE"), (0, u "I"), (2, u "DEFAULT_BUFFER_SIZE"), (1, u "MAX_BUFFER_SIZE")] 54

def k4c0 : Code := { maxStack := 1, maxLocals := 1, code := jdk_2022_method_1_code, exceptionTable := #[], attributes := #[] }
def k4m0 : Method := { name := "<init>", desc := "()V", sig := { parameters := [], returnType := none }, accessFlags := 1, code := some k4c0 }
/-- java/io/InputStream -/
def k4 : Class := { plain "java/io/InputStream" (some 0) with
  accessFlags := 1057
  interfaces := #[3]
  cf := some (fileOf pool4 13 #[.nestMembers #[9]] #[{ accessFlags := 1, nameIndex := 7, descriptorIndex := 8, attributes := #[] }] 1057 4 #[132] #[{ accessFlags := 26, nameIndex := 134, descriptorIndex := 135, attributes := #[] }, { accessFlags := 26, nameIndex := 138, descriptorIndex := 135, attributes := #[] }, { accessFlags := 26, nameIndex := 140, descriptorIndex := 135, attributes := #[] }])
  fields := #[{ name := "MAX_SKIP_BUFFER_SIZE", type := .int, accessFlags := 26, slot := 0, constantValue := 0 }, { name := "DEFAULT_BUFFER_SIZE", type := .int, accessFlags := 26, slot := 1, constantValue := 0 }, { name := "MAX_BUFFER_SIZE", type := .int, accessFlags := 26, slot := 2, constantValue := 0 }]
  methods := #[k4m0]
  instanceTypes := #[]
  staticTypes := #[.int, .int, .int]
  resolved := Array.replicate 195 none
  statics := none }

def pool5 : Array CpInfo := pool [(1, .methodref 2 3), (0, .class_ 4), (0, .nameAndType 5 6), (0, u "java/io/InputStream"), (0, u "<init>"), (0, u "()V"), (0, .fieldref 8 9), (0, .class_ 10), (0, .nameAndType 11 12), (0, u "com/example/doorward/doorward/server/Http1Reader$Arrived"), (0, u "bytes"), (0, u "[B"), (0, .fieldref 8 14), (0, .nameAndType 15 16), (0, u "position"), (0, u "I"), (0, .fieldref 8 18), (0, .nameAndType 19 16), (0, u "limit"), (0, .fieldref 8 21), (0, .nameAndType 22 23), (0, u "ended"), (0, u "Z"), (10, .methodref 35 36), (0, .class_ 37), (0, .nameAndType 38 39), (0, u "java/util/Objects"), (0, u "checkFromIndexSize"), (0, u "(III)I"), (0, .methodref 41 42), (0, .class_ 43), (0, .nameAndType 44 45), (0, u "java/lang/Math"), (0, u "min"), (0, u "(II)I"), (0, .methodref 47 48), (0, .class_ 49), (0, .nameAndType 50 51), (0, u "java/lang/System"), (0, u "arraycopy"), (0, u "(Ljava/lang/Object;ILjava/lang/Object;II)V"), (5, u "set"), (0, u "([BII)V"), (0, u "end"), (0, u "()Z"), (0, u "nothingLeft"), (4, u "read"), (3, u "([BII)I"), (3, .class_ 75), (0, u "com/example/doorward/doorward/server/Http1Reader")] 3

def k5c0 : Code := { maxStack := 1, maxLocals := 1, code := prog_64_method_1_code, exceptionTable := #[], attributes := #[] }
def k5m0 : Method := { name := "<init>", desc := "()V", sig := { parameters := [], returnType := none }, accessFlags := 0, code := some k5c0 }
def k5c1 : Code := { maxStack := 3, maxLocals := 4, code := prog_64_method_2_code, exceptionTable := #[], attributes := #[] }
def k5m1 : Method := { name := "set", desc := "([BII)V", sig := { parameters := [(.array .byte), .int, .int], returnType := none }, accessFlags := 0, code := some k5c1 }
def k5c2 : Code := { maxStack := 2, maxLocals := 1, code := prog_64_method_3_code, exceptionTable := #[], attributes := #[] }
def k5m2 : Method := { name := "end", desc := "()V", sig := { parameters := [], returnType := none }, accessFlags := 0, code := some k5c2 }
def k5c3 : Code := { maxStack := 2, maxLocals := 1, code := prog_64_method_5_code, exceptionTable := #[], attributes := #[] }
def k5m3 : Method := { name := "nothingLeft", desc := "()Z", sig := { parameters := [], returnType := some .boolean }, accessFlags := 0, code := some k5c3 }
def k5c4 : Code := { maxStack := 5, maxLocals := 5, code := prog_64_method_9_code, exceptionTable := #[], attributes := #[] }
def k5m4 : Method := { name := "read", desc := "([BII)I", sig := { parameters := [(.array .byte), .int, .int], returnType := some .int }, accessFlags := 1, code := some k5c4 }
/-- com/example/doorward/doorward/server/Http1Reader$Arrived -/
def k5 : Class := { plain "com/example/doorward/doorward/server/Http1Reader$Arrived" (some 4) with
  accessFlags := 48
  interfaces := #[]
  cf := some (fileOf pool5 8 #[.nestHost 74] #[{ accessFlags := 0, nameIndex := 5, descriptorIndex := 6, attributes := #[] }, { accessFlags := 0, nameIndex := 57, descriptorIndex := 58, attributes := #[] }, { accessFlags := 0, nameIndex := 59, descriptorIndex := 6, attributes := #[] }, { accessFlags := 0, nameIndex := 61, descriptorIndex := 60, attributes := #[] }, { accessFlags := 1, nameIndex := 66, descriptorIndex := 70, attributes := #[] }] 48 2 #[] #[{ accessFlags := 0, nameIndex := 11, descriptorIndex := 12, attributes := #[] }, { accessFlags := 0, nameIndex := 15, descriptorIndex := 16, attributes := #[] }, { accessFlags := 0, nameIndex := 19, descriptorIndex := 16, attributes := #[] }, { accessFlags := 2, nameIndex := 22, descriptorIndex := 23, attributes := #[] }])
  fields := #[{ name := "bytes", type := (.array .byte), accessFlags := 0, slot := 0, constantValue := 0 }, { name := "position", type := .int, accessFlags := 0, slot := 1, constantValue := 0 }, { name := "limit", type := .int, accessFlags := 0, slot := 2, constantValue := 0 }, { name := "ended", type := .boolean, accessFlags := 2, slot := 3, constantValue := 0 }]
  methods := #[k5m0, k5m1, k5m2, k5m3, k5m4]
  instanceTypes := #[(.array .byte), .int, .int, .boolean]
  staticTypes := #[]
  resolved := Array.replicate 79 none
  statics := none }

def pool6 : Array CpInfo := pool [(1, .class_ 2), (0, u "java/lang/Math"), (1, .class_ 6), (1, u "java/lang/Object"), (0, u "<init>"), (0, u "()V"), (89, .class_ 100), (1, u "java/lang/Math$RandomNumberGeneratorHolder"), (71, u "negativeZeroFloatBits"), (0, u "J"), (2, u "negativeZeroDoubleBits"), (21, u "max"), (2, u "min"), (43, u "$assertionsDisabled"), (0, u "Z"), (88, u "(II)I"), (2, u "twoToTheDoubleScaleDown"), (0, u "D"), (4, u "twoToTheDoubleScaleUp"), (9, u "E"), (3, u "PI"), (2, u "TAU"), (2, u "DEGREES_TO_RADIANS"), (0, u "RADIANS_TO_DEGREES")] 94

def k6m0 : Method := { name := "<init>", desc := "()V", sig := { parameters := [], returnType := none }, accessFlags := 2, code := none }
def k6c1 : Code := { maxStack := 2, maxLocals := 2, code := jdk_29_method_65_code, exceptionTable := #[], attributes := #[] }
def k6m1 : Method := { name := "max", desc := "(II)I", sig := { parameters := [.int, .int], returnType := some .int }, accessFlags := 9, code := some k6c1 }
def k6c2 : Code := { maxStack := 2, maxLocals := 2, code := jdk_29_method_69_code, exceptionTable := #[], attributes := #[] }
def k6m2 : Method := { name := "min", desc := "(II)I", sig := { parameters := [.int, .int], returnType := some .int }, accessFlags := 9, code := some k6c2 }
/-- java/lang/Math -/
def k6 : Class := { plain "java/lang/Math" (some 0) with
  accessFlags := 49
  interfaces := #[]
  cf := some (fileOf pool6 1 #[.nestMembers #[98]] #[{ accessFlags := 2, nameIndex := 7, descriptorIndex := 8, attributes := #[] }, { accessFlags := 9, nameIndex := 198, descriptorIndex := 335, attributes := #[] }, { accessFlags := 9, nameIndex := 201, descriptorIndex := 335, attributes := #[] }] 49 4 #[] #[{ accessFlags := 25, nameIndex := 354, descriptorIndex := 339, attributes := #[] }, { accessFlags := 25, nameIndex := 358, descriptorIndex := 339, attributes := #[] }, { accessFlags := 25, nameIndex := 361, descriptorIndex := 339, attributes := #[] }, { accessFlags := 26, nameIndex := 364, descriptorIndex := 339, attributes := #[] }, { accessFlags := 26, nameIndex := 365, descriptorIndex := 339, attributes := #[] }, { accessFlags := 26, nameIndex := 172, descriptorIndex := 173, attributes := #[] }, { accessFlags := 26, nameIndex := 176, descriptorIndex := 173, attributes := #[] }, { accessFlags := 8, nameIndex := 344, descriptorIndex := 339, attributes := #[] }, { accessFlags := 8, nameIndex := 338, descriptorIndex := 339, attributes := #[] }, { accessFlags := 4120, nameIndex := 245, descriptorIndex := 246, attributes := #[] }])
  fields := #[{ name := "E", type := .double, accessFlags := 25, slot := 0, constantValue := 0 }, { name := "PI", type := .double, accessFlags := 25, slot := 1, constantValue := 0 }, { name := "TAU", type := .double, accessFlags := 25, slot := 2, constantValue := 0 }, { name := "DEGREES_TO_RADIANS", type := .double, accessFlags := 26, slot := 3, constantValue := 0 }, { name := "RADIANS_TO_DEGREES", type := .double, accessFlags := 26, slot := 4, constantValue := 0 }, { name := "negativeZeroFloatBits", type := .long, accessFlags := 26, slot := 5, constantValue := 0 }, { name := "negativeZeroDoubleBits", type := .long, accessFlags := 26, slot := 6, constantValue := 0 }, { name := "twoToTheDoubleScaleUp", type := .double, accessFlags := 8, slot := 7, constantValue := 0 }, { name := "twoToTheDoubleScaleDown", type := .double, accessFlags := 8, slot := 8, constantValue := 0 }, { name := "$assertionsDisabled", type := .boolean, accessFlags := 4120, slot := 9, constantValue := 0 }]
  methods := #[k6m0, k6m1, k6m2]
  instanceTypes := #[]
  staticTypes := #[.double, .double, .double, .double, .double, .long, .long, .double, .double, .boolean]
  resolved := Array.replicate 460 none
  statics := none }

def pool7 : Array CpInfo := pool [(2, .class_ 4), (1, u "java/lang/Object"), (0, u "<init>"), (0, u "()V"), (35, .class_ 44), (1, u "java/util/Objects"), (61, .class_ 108), (1, u "jdk/internal/util/Preconditions"), (5, u "(IIILjava/util/function/BiFunction;)I"), (0, .methodref 106 116), (0, .nameAndType 117 114), (0, u "checkFromIndexSize"), (57, u "(III)I")] 8

def k7m0 : Method := { name := "<init>", desc := "()V", sig := { parameters := [], returnType := none }, accessFlags := 2, code := none }
def k7c1 : Code := { maxStack := 4, maxLocals := 3, code := jdk_31_method_19_code, exceptionTable := #[], attributes := #[] }
def k7m1 : Method := { name := "checkFromIndexSize", desc := "(III)I", sig := { parameters := [.int, .int, .int], returnType := some .int }, accessFlags := 9, code := some k7c1 }
/-- java/util/Objects -/
def k7 : Class := { plain "java/util/Objects" (some 0) with
  accessFlags := 49
  interfaces := #[]
  cf := some (fileOf pool7 42 #[] #[{ accessFlags := 2, nameIndex := 5, descriptorIndex := 6, attributes := #[] }, { accessFlags := 9, nameIndex := 117, descriptorIndex := 175, attributes := #[] }] 49 2 #[] #[])
  fields := #[]
  methods := #[k7m0, k7m1]
  instanceTypes := #[]
  staticTypes := #[]
  resolved := Array.replicate 184 none
  statics := none }

def pool8 : Array CpInfo := pool [(2, .class_ 4), (1, u "java/lang/Object"), (0, u "<init>"), (0, u "()V"), (17, .class_ 26), (1, u "jdk/internal/util/Preconditions"), (22, u "checkFromIndexSize"), (5, .class_ 56), (0, u "jdk/internal/util/Preconditions$4"), (57, .class_ 115), (0, u "jdk/internal/util/Preconditions$1"), (7, u "SIOOBE_FORMATTER"), (0, u "Ljava/util/function/BiFunction;"), (0, .class_ 126), (0, u "jdk/internal/util/Preconditions$2"), (3, u "AIOOBE_FORMATTER"), (0, .class_ 132), (0, u "jdk/internal/util/Preconditions$3"), (3, u "IOOBE_FORMATTER"), (46, u "(IIILjava/util/function/BiFunction;)I")] 10

def k8m0 : Method := { name := "<init>", desc := "()V", sig := { parameters := [], returnType := none }, accessFlags := 1, code := none }
def k8c1 : Code := { maxStack := 4, maxLocals := 4, code := jdk_41_method_13_code, exceptionTable := #[], attributes := #[] }
def k8m1 : Method := { name := "checkFromIndexSize", desc := "(IIILjava/util/function/BiFunction;)I", sig := { parameters := [.int, .int, .int, (.object "java/util/function/BiFunction")], returnType := some .int }, accessFlags := 9, code := some k8c1 }
/-- jdk/internal/util/Preconditions -/
def k8 : Class := { plain "jdk/internal/util/Preconditions" (some 0) with
  accessFlags := 33
  interfaces := #[]
  cf := some (fileOf pool8 24 #[.nestMembers #[55, 131, 125, 114]] #[{ accessFlags := 1, nameIndex := 5, descriptorIndex := 6, attributes := #[] }, { accessFlags := 9, nameIndex := 49, descriptorIndex := 183, attributes := #[] }] 33 2 #[] #[{ accessFlags := 25, nameIndex := 123, descriptorIndex := 124, attributes := #[] }, { accessFlags := 25, nameIndex := 130, descriptorIndex := 124, attributes := #[] }, { accessFlags := 25, nameIndex := 136, descriptorIndex := 124, attributes := #[] }])
  fields := #[{ name := "SIOOBE_FORMATTER", type := (.object "java/util/function/BiFunction"), accessFlags := 25, slot := 0, constantValue := 0 }, { name := "AIOOBE_FORMATTER", type := (.object "java/util/function/BiFunction"), accessFlags := 25, slot := 1, constantValue := 0 }, { name := "IOOBE_FORMATTER", type := (.object "java/util/function/BiFunction"), accessFlags := 25, slot := 2, constantValue := 0 }]
  methods := #[k8m0, k8m1]
  instanceTypes := #[]
  staticTypes := #[(.object "java/util/function/BiFunction"), (.object "java/util/function/BiFunction"), (.object "java/util/function/BiFunction")]
  resolved := Array.replicate 194 none
  statics := none }

def pool9 : Array CpInfo := pool [(2, .class_ 4), (1, u "java/lang/Object"), (0, u "<init>"), (0, u "()V"), (1, .class_ 10), (1, u "java/lang/System"), (0, u "allowSecurityManager"), (0, u "I"), (16, u "cons"), (0, u "Ljava/io/Console;"), (77, .class_ 110), (1, u "java/lang/System$CallersHolder"), (43, u "initialErrStream"), (0, u "Ljava/io/PrintStream;"), (19, u "security"), (0, u "Ljava/lang/SecurityManager;"), (31, .class_ 209), (0, u "java/lang/System$1"), (7, u "props"), (0, u "Ljava/util/Properties;"), (2, u "lineSeparator"), (0, u "Ljava/lang/String;"), (96, .class_ 321), (1, u "java/lang/System$LoggerFinder"), (5, .class_ 328), (0, u "java/lang/System$Logger"), (67, u "err"), (2, u "out"), (91, u "notSupportedJnuEncoding"), (15, u "in"), (17, u "initialIn"), (0, u "Ljava/io/InputStream;"), (35, u "bootLayer"), (0, u "Ljava/lang/ModuleLayer;"), (99, .class_ 664), (0, u "java/lang/System$2"), (9, u "NEVER"), (2, u "MAYBE"), (49, u "arraycopy"), (0, u "(Ljava/lang/Object;ILjava/lang/Object;II)V"), (72, .class_ 802), (0, u "java/lang/System$Logger$Level")] 31

def k9m0 : Method := { name := "<init>", desc := "()V", sig := { parameters := [], returnType := none }, accessFlags := 2, code := none }
def k9m1 : Method := { name := "arraycopy", desc := "(Ljava/lang/Object;ILjava/lang/Object;II)V", sig := { parameters := [(.object "java/lang/Object"), .int, (.object "java/lang/Object"), .int, .int], returnType := none }, accessFlags := 265, code := none }
/-- java/lang/System -/
def k9 : Class := { plain "java/lang/System" (some 0) with
  accessFlags := 49
  interfaces := #[]
  cf := some (fileOf pool9 8 #[.nestMembers #[319, 327, 801, 108, 663, 208]] #[{ accessFlags := 2, nameIndex := 5, descriptorIndex := 6, attributes := #[] }, { accessFlags := 265, nameIndex := 727, descriptorIndex := 728, attributes := #[] }] 49 2 #[] #[{ accessFlags := 25, nameIndex := 507, descriptorIndex := 526, attributes := #[] }, { accessFlags := 25, nameIndex := 399, descriptorIndex := 155, attributes := #[] }, { accessFlags := 25, nameIndex := 396, descriptorIndex := 155, attributes := #[] }, { accessFlags := 10, nameIndex := 525, descriptorIndex := 526, attributes := #[] }, { accessFlags := 26, nameIndex := 674, descriptorIndex := 12, attributes := #[] }, { accessFlags := 26, nameIndex := 677, descriptorIndex := 12, attributes := #[] }, { accessFlags := 10, nameIndex := 11, descriptorIndex := 12, attributes := #[] }, { accessFlags := 74, nameIndex := 175, descriptorIndex := 176, attributes := #[] }, { accessFlags := 10, nameIndex := 491, descriptorIndex := 222, attributes := #[] }, { accessFlags := 74, nameIndex := 29, descriptorIndex := 30, attributes := #[] }, { accessFlags := 74, nameIndex := 154, descriptorIndex := 155, attributes := #[] }, { accessFlags := 10, nameIndex := 217, descriptorIndex := 218, attributes := #[] }, { accessFlags := 10, nameIndex := 221, descriptorIndex := 222, attributes := #[] }, { accessFlags := 8, nameIndex := 562, descriptorIndex := 563, attributes := #[] }])
  fields := #[{ name := "in", type := (.object "java/io/InputStream"), accessFlags := 25, slot := 0, constantValue := 0 }, { name := "out", type := (.object "java/io/PrintStream"), accessFlags := 25, slot := 1, constantValue := 0 }, { name := "err", type := (.object "java/io/PrintStream"), accessFlags := 25, slot := 2, constantValue := 0 }, { name := "initialIn", type := (.object "java/io/InputStream"), accessFlags := 10, slot := 3, constantValue := 0 }, { name := "NEVER", type := .int, accessFlags := 26, slot := 4, constantValue := 0 }, { name := "MAYBE", type := .int, accessFlags := 26, slot := 5, constantValue := 0 }, { name := "allowSecurityManager", type := .int, accessFlags := 10, slot := 6, constantValue := 0 }, { name := "security", type := (.object "java/lang/SecurityManager"), accessFlags := 74, slot := 7, constantValue := 0 }, { name := "notSupportedJnuEncoding", type := (.object "java/lang/String"), accessFlags := 10, slot := 8, constantValue := 0 }, { name := "cons", type := (.object "java/io/Console"), accessFlags := 74, slot := 9, constantValue := 0 }, { name := "initialErrStream", type := (.object "java/io/PrintStream"), accessFlags := 74, slot := 10, constantValue := 0 }, { name := "props", type := (.object "java/util/Properties"), accessFlags := 10, slot := 11, constantValue := 0 }, { name := "lineSeparator", type := (.object "java/lang/String"), accessFlags := 10, slot := 12, constantValue := 0 }, { name := "bootLayer", type := (.object "java/lang/ModuleLayer"), accessFlags := 8, slot := 13, constantValue := 0 }]
  methods := #[k9m0, k9m1]
  instanceTypes := #[]
  staticTypes := #[(.object "java/io/InputStream"), (.object "java/io/PrintStream"), (.object "java/io/PrintStream"), (.object "java/io/InputStream"), .int, .int, .int, (.object "java/lang/SecurityManager"), (.object "java/lang/String"), (.object "java/io/Console"), (.object "java/io/PrintStream"), (.object "java/util/Properties"), (.object "java/lang/String"), (.object "java/lang/ModuleLayer")]
  resolved := Array.replicate 834 none
  statics := none }

def pool10 : Array CpInfo := pool [(1, u "java/lang/Cloneable"), (0, .class_ 1), (0, u "java/lang/Object"), (0, .class_ 3)] 3

/-- java/lang/Cloneable -/
def k10 : Class := { plain "java/lang/Cloneable" (some 0) with
  accessFlags := 1537
  interfaces := #[]
  cf := some (fileOf pool10 2 #[] #[] 1537 4 #[] #[])
  fields := #[]
  methods := #[]
  instanceTypes := #[]
  staticTypes := #[]
  resolved := Array.replicate 8 none
  statics := none }

def pool11 : Array CpInfo := pool [(1, u "java/io/Serializable"), (0, .class_ 1), (0, u "java/lang/Object"), (0, .class_ 3)] 3

/-- java/io/Serializable -/
def k11 : Class := { plain "java/io/Serializable" (some 0) with
  accessFlags := 1537
  interfaces := #[]
  cf := some (fileOf pool11 2 #[] #[] 1537 4 #[] #[])
  fields := #[]
  methods := #[]
  instanceTypes := #[]
  staticTypes := #[]
  resolved := Array.replicate 8 none
  statics := none }

/-- the primitive byte -/
def k12 : Class := { plain "byte" none with kind := .primitive 'B', accessFlags := 0x411 }
/-- [B -/
def k13 : Class := { plain "[B" (some 0) with kind := .array 12 .byte, interfaces := #[10, 11], accessFlags := 1041 }

/-- the primitive int -/
def k14 : Class := { plain "int" none with kind := .primitive 'I', accessFlags := 0x411 }
/-- [I -/
def k15 : Class := { plain "[I" (some 0) with kind := .array 14 .int, interfaces := #[10, 11], accessFlags := 1041 }

def heap : Heap := #[]
def classes : Array Class := #[k0, k1, k2, k3, k4, k5, k6, k7, k8, k9, k10, k11, k12, k13, k14, k15]
def interned : List (Array UInt16 × Addr) := []
def slotsUsed : Nat := 0
def theMethod : MethodId := ⟨1, 1⟩
def args0 : Array Value := #[.int 1, .int 2, .int 3, .int 4, .int 5, .int 6]
def aboutOver (below : List Frame) : State where
  vm := { classes := classes, interned := interned.toArray }
  heap := heap
  slotsUsed := slotsUsed
  threads := #[{ frames := .invoking theMethod args0 :: below }]
def below0 : List Frame := [.native { method := ⟨0, 0⟩, args := #[] }]
def about1 : State := aboutOver below0
def p0 : Program := .bare "" "" ""
def e0 : Env := launch0.env 0 0 0
theorem w_frames : about1.frames = Frame.invoking theMethod args0 :: below0 := rfl
set_option maxRecDepth 65536 in
theorem w_args : argsFit about1.vm theMethod args0 = true := by decide +kernel
set_option maxRecDepth 65536 in
theorem w_heap : heapFits about1 = true := by decide +kernel
set_option maxRecDepth 65536 in
theorem w_runnable : about1.curStatus? = some .runnable := by decide +kernel
set_option maxRecDepth 65536 in
theorem w_alone : about1.alone = true := by decide +kernel
set_option maxRecDepth 65536 in
theorem w_named : about1.methodNamed? x = some theMethod := by decide +kernel
set_option maxRecDepth 65536 in
theorem w_hears : about1.hears theMethod below0 = true := by decide +kernel
set_option maxRecDepth 65536 in
theorem w_ripe : about1.ripe theMethod args0 below0 = true := by decide +kernel
theorem w_running : about1.status = .running := rfl
set_option maxRecDepth 65536 in
theorem w_room : about1.hasRoom e0.platform room_1 = true :=
  launch0.hasRoom_least _ room_1 (by decide +kernel) (by decide +kernel) (by decide +kernel) (by decide +kernel) (by decide +kernel) (by decide +kernel)
theorem allAtoms_all (ts : List Jvm.Cond) (a : Array Jvm.Value) (st : Jvm.State) : (allAtoms ts).before a st = ts.all (fun c => c.before a st) := by
  induction ts with
  | nil => rfl
  | cons c t ih =>
    show (Jvm.Cond.and c (allAtoms t)).before a st = _
    rw [Jvm.Cond.before_and, ih, List.all_cons]
def words1 : List Jvm.Cond := Jvm.Cond.code x code maxLocals ret :: tables_1
/-- a 'code' word, met by the world's own term for the bytes: nothing is compared byte by byte -/
theorem code_word {y : MethodName} {bytes : ByteArray} {mx : Nat} {rt : Option FieldType} {a : Array Value} {s : State} {m : MethodId} {meth : Method} {c : Code} (h1 : s.methodNamed? y = some m) (h2 : s.vm.method? m = some meth) (h3 : meth.code = some c) (h4 : c.code = bytes)
    (h5 : (c.maxLocals == mx && c.exceptionTable.isEmpty && decide (c.maxStack ≤ mostOperands) && decide (meth.sig.returnType = rt) && !meth.locks && decide (parseMethodDescriptor y.desc = some meth.sig)) = true) : (Jvm.Cond.code y bytes mx rt).before a s = true := by
  simp only [Bool.and_eq_true, beq_iff_eq, Bool.not_eq_true', decide_eq_true_eq] at h5
  obtain ⟨⟨⟨⟨⟨g1, g2⟩, g3⟩, g4⟩, g5⟩, g6⟩ := h5
  simp [Cond.before, Cond.holds, Cond.value, h1, h2, h3, h4, g1, g2, g3, g4, g5, g6]
def isCode : Jvm.Cond → Bool
  | .code _ _ _ _ => true
  | _ => false
theorem all_split {L : List Jvm.Cond} {P : Jvm.Cond → Bool} (h1 : L.all (fun c => isCode c || P c) = true) (h2 : ∀ c ∈ L.filter isCode, P c = true) : L.all P = true := by
  refine List.all_eq_true.mpr fun c hc => ?_
  have h := List.all_eq_true.mp h1 c hc
  rcases Bool.eq_false_or_eq_true (isCode c) with hi | hi
  · exact h2 c (List.mem_filter.mpr ⟨hc, hi⟩)
  · simpa [hi] using h
set_option maxRecDepth 65536 in
theorem w_c0 : (Jvm.Cond.code x code maxLocals ret).before args0 about1 = true := code_word (m := ⟨1, 1⟩) (meth := k1m1) (c := k1c1) (by decide +kernel) rfl rfl rfl (by decide +kernel)
set_option maxRecDepth 65536 in
theorem w_c1 : (Jvm.Cond.code ({ cls := "com/example/doorward/doorward/server/Http1Reader$Arrived", name := "<init>", desc := "()V" } : Jvm.MethodName) prog_64_method_1_code (1 : Nat) (Option.none : Option Jvm.ClassFile.FieldType)).before args0 about1 = true := code_word (m := ⟨5, 0⟩) (meth := k5m0) (c := k5c0) (by decide +kernel) rfl rfl rfl (by decide +kernel)
set_option maxRecDepth 65536 in
theorem w_c2 : (Jvm.Cond.code ({ cls := "java/io/InputStream", name := "<init>", desc := "()V" } : Jvm.MethodName) jdk_2022_method_1_code (1 : Nat) (Option.none : Option Jvm.ClassFile.FieldType)).before args0 about1 = true := code_word (m := ⟨4, 0⟩) (meth := k4m0) (c := k4c0) (by decide +kernel) rfl rfl rfl (by decide +kernel)
set_option maxRecDepth 65536 in
theorem w_c3 : (Jvm.Cond.code ({ cls := "java/lang/Object", name := "<init>", desc := "()V" } : Jvm.MethodName) object_method_1_code (1 : Nat) (Option.none : Option Jvm.ClassFile.FieldType)).before args0 about1 = true := code_word (m := ⟨0, 0⟩) (meth := k0m0) (c := k0c0) (by decide +kernel) rfl rfl rfl (by decide +kernel)
set_option maxRecDepth 65536 in
theorem w_c4 : (Jvm.Cond.code ({ cls := "java/lang/Math", name := "max", desc := "(II)I" } : Jvm.MethodName) jdk_29_method_65_code (2 : Nat) (Option.some Jvm.ClassFile.FieldType.int)).before args0 about1 = true := code_word (m := ⟨6, 1⟩) (meth := k6m1) (c := k6c1) (by decide +kernel) rfl rfl rfl (by decide +kernel)
set_option maxRecDepth 65536 in
theorem w_c5 : (Jvm.Cond.code ({ cls := "com/example/doorward/doorward/server/Http1Reader$Arrived", name := "end", desc := "()V" } : Jvm.MethodName) prog_64_method_3_code (1 : Nat) (Option.none : Option Jvm.ClassFile.FieldType)).before args0 about1 = true := code_word (m := ⟨5, 2⟩) (meth := k5m2) (c := k5c2) (by decide +kernel) rfl rfl rfl (by decide +kernel)
set_option maxRecDepth 65536 in
theorem w_c6 : (Jvm.Cond.code ({ cls := "com/example/doorward/doorward/server/Http1Reader$Arrived", name := "nothingLeft", desc := "()Z" } : Jvm.MethodName) prog_64_method_5_code (1 : Nat) (Option.some Jvm.ClassFile.FieldType.boolean)).before args0 about1 = true := code_word (m := ⟨5, 3⟩) (meth := k5m3) (c := k5c3) (by decide +kernel) rfl rfl rfl (by decide +kernel)
set_option maxRecDepth 65536 in
theorem w_c7 : (Jvm.Cond.code ({ cls := "com/example/doorward/doorward/server/Http1Reader$Arrived", name := "set", desc := "([BII)V" } : Jvm.MethodName) prog_64_method_2_code (4 : Nat) (Option.none : Option Jvm.ClassFile.FieldType)).before args0 about1 = true := code_word (m := ⟨5, 1⟩) (meth := k5m1) (c := k5c1) (by decide +kernel) rfl rfl rfl (by decide +kernel)
set_option maxRecDepth 65536 in
theorem w_c8 : (Jvm.Cond.code ({ cls := "com/example/doorward/doorward/server/Http1Reader$Arrived", name := "read", desc := "([BII)I" } : Jvm.MethodName) prog_64_method_9_code (5 : Nat) (Option.some Jvm.ClassFile.FieldType.int)).before args0 about1 = true := code_word (m := ⟨5, 4⟩) (meth := k5m4) (c := k5c4) (by decide +kernel) rfl rfl rfl (by decide +kernel)
set_option maxRecDepth 65536 in
theorem w_c9 : (Jvm.Cond.code ({ cls := "java/util/Objects", name := "checkFromIndexSize", desc := "(III)I" } : Jvm.MethodName) jdk_31_method_19_code (3 : Nat) (Option.some Jvm.ClassFile.FieldType.int)).before args0 about1 = true := code_word (m := ⟨7, 1⟩) (meth := k7m1) (c := k7c1) (by decide +kernel) rfl rfl rfl (by decide +kernel)
set_option maxRecDepth 65536 in
theorem w_c10 : (Jvm.Cond.code ({ cls := "jdk/internal/util/Preconditions", name := "checkFromIndexSize", desc := "(IIILjava/util/function/BiFunction;)I" } : Jvm.MethodName) jdk_41_method_13_code (4 : Nat) (Option.some Jvm.ClassFile.FieldType.int)).before args0 about1 = true := code_word (m := ⟨8, 1⟩) (meth := k8m1) (c := k8c1) (by decide +kernel) rfl rfl rfl (by decide +kernel)
set_option maxRecDepth 65536 in
theorem w_c11 : (Jvm.Cond.code ({ cls := "java/lang/Math", name := "min", desc := "(II)I" } : Jvm.MethodName) jdk_29_method_69_code (2 : Nat) (Option.some Jvm.ClassFile.FieldType.int)).before args0 about1 = true := code_word (m := ⟨6, 2⟩) (meth := k6m2) (c := k6c2) (by decide +kernel) rfl rfl rfl (by decide +kernel)
def codes1 : List Jvm.Cond := [Jvm.Cond.code x code maxLocals ret, Jvm.Cond.code ({ cls := "com/example/doorward/doorward/server/Http1Reader$Arrived", name := "<init>", desc := "()V" } : Jvm.MethodName) prog_64_method_1_code (1 : Nat) (Option.none : Option Jvm.ClassFile.FieldType), Jvm.Cond.code ({ cls := "java/io/InputStream", name := "<init>", desc := "()V" } : Jvm.MethodName) jdk_2022_method_1_code (1 : Nat) (Option.none : Option Jvm.ClassFile.FieldType), Jvm.Cond.code ({ cls := "java/lang/Object", name := "<init>", desc := "()V" } : Jvm.MethodName) object_method_1_code (1 : Nat) (Option.none : Option Jvm.ClassFile.FieldType), Jvm.Cond.code ({ cls := "java/lang/Math", name := "max", desc := "(II)I" } : Jvm.MethodName) jdk_29_method_65_code (2 : Nat) (Option.some Jvm.ClassFile.FieldType.int), Jvm.Cond.code ({ cls := "com/example/doorward/doorward/server/Http1Reader$Arrived", name := "end", desc := "()V" } : Jvm.MethodName) prog_64_method_3_code (1 : Nat) (Option.none : Option Jvm.ClassFile.FieldType), Jvm.Cond.code ({ cls := "com/example/doorward/doorward/server/Http1Reader$Arrived", name := "nothingLeft", desc := "()Z" } : Jvm.MethodName) prog_64_method_5_code (1 : Nat) (Option.some Jvm.ClassFile.FieldType.boolean), Jvm.Cond.code ({ cls := "com/example/doorward/doorward/server/Http1Reader$Arrived", name := "set", desc := "([BII)V" } : Jvm.MethodName) prog_64_method_2_code (4 : Nat) (Option.none : Option Jvm.ClassFile.FieldType), Jvm.Cond.code ({ cls := "com/example/doorward/doorward/server/Http1Reader$Arrived", name := "read", desc := "([BII)I" } : Jvm.MethodName) prog_64_method_9_code (5 : Nat) (Option.some Jvm.ClassFile.FieldType.int), Jvm.Cond.code ({ cls := "java/util/Objects", name := "checkFromIndexSize", desc := "(III)I" } : Jvm.MethodName) jdk_31_method_19_code (3 : Nat) (Option.some Jvm.ClassFile.FieldType.int), Jvm.Cond.code ({ cls := "jdk/internal/util/Preconditions", name := "checkFromIndexSize", desc := "(IIILjava/util/function/BiFunction;)I" } : Jvm.MethodName) jdk_41_method_13_code (4 : Nat) (Option.some Jvm.ClassFile.FieldType.int), Jvm.Cond.code ({ cls := "java/lang/Math", name := "min", desc := "(II)I" } : Jvm.MethodName) jdk_29_method_69_code (2 : Nat) (Option.some Jvm.ClassFile.FieldType.int)]
set_option maxRecDepth 65536 in
theorem codes_eq : words1.filter isCode = codes1 := rfl
theorem w_codes : ∀ c ∈ words1.filter isCode, c.before args0 about1 = true := by
  rw [codes_eq]
  intro c hc
  simp only [codes1, List.mem_cons, List.not_mem_nil, or_false] at hc
  rcases hc with rfl | rfl | rfl | rfl | rfl | rfl | rfl | rfl | rfl | rfl | rfl | rfl
  · exact w_c0
  · exact w_c1
  · exact w_c2
  · exact w_c3
  · exact w_c4
  · exact w_c5
  · exact w_c6
  · exact w_c7
  · exact w_c8
  · exact w_c9
  · exact w_c10
  · exact w_c11
set_option maxRecDepth 65536 in
theorem w_t1 : (words1.take 24).all (fun c => isCode c || c.before args0 about1) = true := by decide +kernel
set_option maxRecDepth 65536 in
theorem w_t2 : ((words1.drop 24).take 24).all (fun c => isCode c || c.before args0 about1) = true := by decide +kernel
set_option maxRecDepth 65536 in
theorem w_t3 : ((words1.drop 24).drop 24).all (fun c => isCode c || c.before args0 about1) = true := by decide +kernel
theorem w_tables : (allAtoms (Jvm.Cond.code x code maxLocals ret :: tables_1)).before args0 about1 = true := by
  rw [allAtoms_all]
  show words1.all (fun c => c.before args0 about1) = true
  refine all_split ?_ w_codes
  rw [← List.take_append_drop 24 words1, List.all_append, w_t1, ← List.take_append_drop 24 (words1.drop 24), List.all_append, w_t2, w_t3]
  rfl
set_option maxRecDepth 65536 in
theorem w_case : (Jvm.Cond.and given_1 narrow_1).before args0 about1 = true := by decide +kernel
theorem w_applies : (headSpec (Jvm.Cond.code x code maxLocals ret :: tables_1) room_1).applies x e0.platform about1 = true :=
  (Spec.applies_iff w_frames).mpr ⟨w_running, w_runnable, w_alone, w_named, w_hears, w_ripe, w_room, w_tables⟩
theorem atStart : AtStart classFile x code maxLocals ret World_1 tables_1 room_1 Calls_1 rest_1 Pre_1 launch0 p0 e0 about1 theMethod args0 below0 :=
  ⟨lists_1, trivial, launch0.admits_env _ _ _, launch0.least_env, fairChoices_fair.cas, fairChoices_fair.clock, w_frames, w_args, w_heap, w_applies, trivial, trivial, w_case⟩
end start1
theorem witness_1 : WitnessClaimed_1 := ⟨start1.p0, start1.e0, start1.about1, start1.theMethod, start1.args0, start1.below0, start1.atStart⟩
end Jvm.Pilot.@@N@@
