import JvmDerived
import JvmDerived.Pilot.@@N@@Statement
import JvmDerived.Pilot.@@N@@Code
set_option linter.unusedVariables false
set_option linter.unusedSimpArgs false
namespace Jvm.Pilot.@@N@@
open Jvm Jvm.ClassFile Sem Op Lib Jvm.Free Jvm.Stand Jvm.LawKit Jvm.RoadKit Bundle Jvm.Pilot.@@N@@.Jvm.D
/-! 1. the walk's own words -/
def OG (tb : Tables) (e : Env) (below : List Frame) (P : Outcome → State → Prop) (A : State) : Prop :=
  ∃ s₂ o, Steps tb e below A s₂ ∧ s₂.status = .running ∧ Ended s₂ below o ∧ P o s₂
theorem OG.of {tb : Tables} {e : Env} {below : List Frame} {P : Outcome → State → Prop} {A B : State} (h : OG tb e below P B) (k : ∀ t, Steps tb e below B t → Steps tb e below A t) : OG tb e below P A := by
  obtain ⟨t, o, st, r⟩ := h
  exact ⟨t, o, k t st, r⟩
def Bx (own : String) (bs : ByteArray) (ml : Nat) (Z : State) (p : Program) (l : Launch) (e : Env) (R : Room) (s : State) (m : MethodId) (args : Array Value) (below : List Frame) (meth : Method) (c : Code) (T : State) (h : Heap) (locs : List Loc) (cells slots : Nat) : Prop :=
  Stand p l e R s m args below meth c T locs cells slots ∧ p.tables.exec = Jvm.exec ∧ c.code = bs ∧ c.maxLocals = ml ∧ s.vm.findClass own = some m.cls ∧ Z.Warmed39 s.vm ∧ T.heap = h
section Walk
variable {own : String} {bs : ByteArray} {ml : Nat} {Z : State} {p : Program} {l : Launch} {e : Env} {R : Room} {s : State} {m : MethodId} {args : Array Value} {below : List Frame} {meth : Method} {c : Code} {T : State} {h : Heap} {locs : List Loc} {cells slots : Nat} {P : Outcome → State → Prop} {Ls : Array Slot} {rest : List Value} {a0 : Array Value}
theorem o_iadd (B : Bx own bs ml Z p l e R s m args below meth c T h locs cells slots) (pc pc' : Nat) {x y : Int32} (hd : decode bs pc = .ok (.iadd, 1)) (hp : pc + 1 = pc') 
    (hr : OG p.tables e below P (T.setTop (mkF m pc' Ls (.int (x + y) :: rest)))) : OG p.tables e below P (T.setTop (mkF m pc Ls (.int y :: .int x :: rest))) := by
  subst hp
  obtain ⟨X, hx, hby, hml, hown, hZ, eT⟩ := B
  exact hr.of fun t k => XS.iadd X.here hx rfl (hb hby hd) rfl k
theorem o_isub (B : Bx own bs ml Z p l e R s m args below meth c T h locs cells slots) (pc pc' : Nat) {x y : Int32} (hd : decode bs pc = .ok (.isub, 1)) (hp : pc + 1 = pc') 
    (hr : OG p.tables e below P (T.setTop (mkF m pc' Ls (.int (x - y) :: rest)))) : OG p.tables e below P (T.setTop (mkF m pc Ls (.int y :: .int x :: rest))) := by
  subst hp
  obtain ⟨X, hx, hby, hml, hown, hZ, eT⟩ := B
  exact hr.of fun t k => XS.isub X.here hx rfl (hb hby hd) rfl k
theorem o_imul (B : Bx own bs ml Z p l e R s m args below meth c T h locs cells slots) (pc pc' : Nat) {x y : Int32} (hd : decode bs pc = .ok (.imul, 1)) (hp : pc + 1 = pc') 
    (hr : OG p.tables e below P (T.setTop (mkF m pc' Ls (.int (x * y) :: rest)))) : OG p.tables e below P (T.setTop (mkF m pc Ls (.int y :: .int x :: rest))) := by
  subst hp
  obtain ⟨X, hx, hby, hml, hown, hZ, eT⟩ := B
  exact hr.of fun t k => XS.imul X.here hx rfl (hb hby hd) rfl k
theorem o_iand (B : Bx own bs ml Z p l e R s m args below meth c T h locs cells slots) (pc pc' : Nat) {x y : Int32} (hd : decode bs pc = .ok (.iand, 1)) (hp : pc + 1 = pc') 
    (hr : OG p.tables e below P (T.setTop (mkF m pc' Ls (.int (x &&& y) :: rest)))) : OG p.tables e below P (T.setTop (mkF m pc Ls (.int y :: .int x :: rest))) := by
  subst hp
  obtain ⟨X, hx, hby, hml, hown, hZ, eT⟩ := B
  exact hr.of fun t k => XS.iand X.here hx rfl (hb hby hd) rfl k
theorem o_ior (B : Bx own bs ml Z p l e R s m args below meth c T h locs cells slots) (pc pc' : Nat) {x y : Int32} (hd : decode bs pc = .ok (.ior, 1)) (hp : pc + 1 = pc') 
    (hr : OG p.tables e below P (T.setTop (mkF m pc' Ls (.int (x ||| y) :: rest)))) : OG p.tables e below P (T.setTop (mkF m pc Ls (.int y :: .int x :: rest))) := by
  subst hp
  obtain ⟨X, hx, hby, hml, hown, hZ, eT⟩ := B
  exact hr.of fun t k => XT.ior X.here hx rfl (hb hby hd) rfl k
theorem o_ixor (B : Bx own bs ml Z p l e R s m args below meth c T h locs cells slots) (pc pc' : Nat) {x y : Int32} (hd : decode bs pc = .ok (.ixor, 1)) (hp : pc + 1 = pc') 
    (hr : OG p.tables e below P (T.setTop (mkF m pc' Ls (.int (x ^^^ y) :: rest)))) : OG p.tables e below P (T.setTop (mkF m pc Ls (.int y :: .int x :: rest))) := by
  subst hp
  obtain ⟨X, hx, hby, hml, hown, hZ, eT⟩ := B
  exact hr.of fun t k => XT.ixor X.here hx rfl (hb hby hd) rfl k
theorem o_ishl (B : Bx own bs ml Z p l e R s m args below meth c T h locs cells slots) (pc pc' : Nat) {x y : Int32} (hd : decode bs pc = .ok (.ishl, 1)) (hp : pc + 1 = pc') 
    (hr : OG p.tables e below P (T.setTop (mkF m pc' Ls (.int (x <<< (y &&& 31)) :: rest)))) : OG p.tables e below P (T.setTop (mkF m pc Ls (.int y :: .int x :: rest))) := by
  subst hp
  obtain ⟨X, hx, hby, hml, hown, hZ, eT⟩ := B
  exact hr.of fun t k => XT.ishl X.here hx rfl (hb hby hd) rfl k
theorem o_ishr (B : Bx own bs ml Z p l e R s m args below meth c T h locs cells slots) (pc pc' : Nat) {x y : Int32} (hd : decode bs pc = .ok (.ishr, 1)) (hp : pc + 1 = pc') 
    (hr : OG p.tables e below P (T.setTop (mkF m pc' Ls (.int (x >>> (y &&& 31)) :: rest)))) : OG p.tables e below P (T.setTop (mkF m pc Ls (.int y :: .int x :: rest))) := by
  subst hp
  obtain ⟨X, hx, hby, hml, hown, hZ, eT⟩ := B
  exact hr.of fun t k => XT.ishr X.here hx rfl (hb hby hd) rfl k
theorem o_iushr (B : Bx own bs ml Z p l e R s m args below meth c T h locs cells slots) (pc pc' : Nat) {x y : Int32} (hd : decode bs pc = .ok (.iushr, 1)) (hp : pc + 1 = pc') 
    (hr : OG p.tables e below P (T.setTop (mkF m pc' Ls (.int (XT.ushr x y) :: rest)))) : OG p.tables e below P (T.setTop (mkF m pc Ls (.int y :: .int x :: rest))) := by
  subst hp
  obtain ⟨X, hx, hby, hml, hown, hZ, eT⟩ := B
  exact hr.of fun t k => XT.iushr X.here hx rfl (hb hby hd) rfl k
theorem o_idiv (B : Bx own bs ml Z p l e R s m args below meth c T h locs cells slots) (pc pc' : Nat) {x y : Int32} (hd : decode bs pc = .ok (.idiv, 1)) (hp : pc + 1 = pc') (hy : y ≠ 0)
    (hr : OG p.tables e below P (T.setTop (mkF m pc' Ls (.int (x / y) :: rest)))) : OG p.tables e below P (T.setTop (mkF m pc Ls (.int y :: .int x :: rest))) := by
  subst hp
  obtain ⟨X, hx, hby, hml, hown, hZ, eT⟩ := B
  exact hr.of fun t k => XS.idiv X.here hx rfl (hb hby hd) rfl hy k
theorem o_irem (B : Bx own bs ml Z p l e R s m args below meth c T h locs cells slots) (pc pc' : Nat) {x y : Int32} (hd : decode bs pc = .ok (.irem, 1)) (hp : pc + 1 = pc') (hy : y ≠ 0)
    (hr : OG p.tables e below P (T.setTop (mkF m pc' Ls (.int (x % y) :: rest)))) : OG p.tables e below P (T.setTop (mkF m pc Ls (.int y :: .int x :: rest))) := by
  subst hp
  obtain ⟨X, hx, hby, hml, hown, hZ, eT⟩ := B
  exact hr.of fun t k => XS.irem X.here hx rfl (hb hby hd) rfl hy (by rw [irem_eq_mod]; exact k)
theorem o_ladd (B : Bx own bs ml Z p l e R s m args below meth c T h locs cells slots) (pc pc' : Nat) {x y : Int64} (hd : decode bs pc = .ok (.ladd, 1)) (hp : pc + 1 = pc') 
    (hr : OG p.tables e below P (T.setTop (mkF m pc' Ls (.long (x + y) :: rest)))) : OG p.tables e below P (T.setTop (mkF m pc Ls (.long y :: .long x :: rest))) := by
  subst hp
  obtain ⟨X, hx, hby, hml, hown, hZ, eT⟩ := B
  exact hr.of fun t k => XT.ladd X.here hx rfl (hb hby hd) rfl k
theorem o_lsub (B : Bx own bs ml Z p l e R s m args below meth c T h locs cells slots) (pc pc' : Nat) {x y : Int64} (hd : decode bs pc = .ok (.lsub, 1)) (hp : pc + 1 = pc') 
    (hr : OG p.tables e below P (T.setTop (mkF m pc' Ls (.long (x - y) :: rest)))) : OG p.tables e below P (T.setTop (mkF m pc Ls (.long y :: .long x :: rest))) := by
  subst hp
  obtain ⟨X, hx, hby, hml, hown, hZ, eT⟩ := B
  exact hr.of fun t k => XT.lsub X.here hx rfl (hb hby hd) rfl k
theorem o_lmul (B : Bx own bs ml Z p l e R s m args below meth c T h locs cells slots) (pc pc' : Nat) {x y : Int64} (hd : decode bs pc = .ok (.lmul, 1)) (hp : pc + 1 = pc') 
    (hr : OG p.tables e below P (T.setTop (mkF m pc' Ls (.long (x * y) :: rest)))) : OG p.tables e below P (T.setTop (mkF m pc Ls (.long y :: .long x :: rest))) := by
  subst hp
  obtain ⟨X, hx, hby, hml, hown, hZ, eT⟩ := B
  exact hr.of fun t k => XT.lmul X.here hx rfl (hb hby hd) rfl k
theorem o_land (B : Bx own bs ml Z p l e R s m args below meth c T h locs cells slots) (pc pc' : Nat) {x y : Int64} (hd : decode bs pc = .ok (.land, 1)) (hp : pc + 1 = pc') 
    (hr : OG p.tables e below P (T.setTop (mkF m pc' Ls (.long (x &&& y) :: rest)))) : OG p.tables e below P (T.setTop (mkF m pc Ls (.long y :: .long x :: rest))) := by
  subst hp
  obtain ⟨X, hx, hby, hml, hown, hZ, eT⟩ := B
  exact hr.of fun t k => XT.land X.here hx rfl (hb hby hd) rfl k
theorem o_lor (B : Bx own bs ml Z p l e R s m args below meth c T h locs cells slots) (pc pc' : Nat) {x y : Int64} (hd : decode bs pc = .ok (.lor, 1)) (hp : pc + 1 = pc') 
    (hr : OG p.tables e below P (T.setTop (mkF m pc' Ls (.long (x ||| y) :: rest)))) : OG p.tables e below P (T.setTop (mkF m pc Ls (.long y :: .long x :: rest))) := by
  subst hp
  obtain ⟨X, hx, hby, hml, hown, hZ, eT⟩ := B
  exact hr.of fun t k => XT.lor X.here hx rfl (hb hby hd) rfl k
theorem o_lxor (B : Bx own bs ml Z p l e R s m args below meth c T h locs cells slots) (pc pc' : Nat) {x y : Int64} (hd : decode bs pc = .ok (.lxor, 1)) (hp : pc + 1 = pc') 
    (hr : OG p.tables e below P (T.setTop (mkF m pc' Ls (.long (x ^^^ y) :: rest)))) : OG p.tables e below P (T.setTop (mkF m pc Ls (.long y :: .long x :: rest))) := by
  subst hp
  obtain ⟨X, hx, hby, hml, hown, hZ, eT⟩ := B
  exact hr.of fun t k => XT.lxor X.here hx rfl (hb hby hd) rfl k
theorem o_ldiv (B : Bx own bs ml Z p l e R s m args below meth c T h locs cells slots) (pc pc' : Nat) {x y : Int64} (hd : decode bs pc = .ok (.ldiv, 1)) (hp : pc + 1 = pc') (hy : y ≠ 0)
    (hr : OG p.tables e below P (T.setTop (mkF m pc' Ls (.long (x / y) :: rest)))) : OG p.tables e below P (T.setTop (mkF m pc Ls (.long y :: .long x :: rest))) := by
  subst hp
  obtain ⟨X, hx, hby, hml, hown, hZ, eT⟩ := B
  exact hr.of fun t k => XT.ldiv X.here hx rfl (hb hby hd) rfl hy k
theorem o_lrem (B : Bx own bs ml Z p l e R s m args below meth c T h locs cells slots) (pc pc' : Nat) {x y : Int64} (hd : decode bs pc = .ok (.lrem, 1)) (hp : pc + 1 = pc') (hy : y ≠ 0)
    (hr : OG p.tables e below P (T.setTop (mkF m pc' Ls (.long (x % y) :: rest)))) : OG p.tables e below P (T.setTop (mkF m pc Ls (.long y :: .long x :: rest))) := by
  subst hp
  obtain ⟨X, hx, hby, hml, hown, hZ, eT⟩ := B
  exact hr.of fun t k => XT.lrem X.here hx rfl (hb hby hd) rfl hy (by rw [lrem_mod]; exact k)
theorem o_lshl (B : Bx own bs ml Z p l e R s m args below meth c T h locs cells slots) (pc pc' : Nat) {x : Int64} {y : Int32} (hd : decode bs pc = .ok (.lshl, 1)) (hp : pc + 1 = pc') 
    (hr : OG p.tables e below P (T.setTop (mkF m pc' Ls (.long (x <<< (y.toInt64 &&& 63)) :: rest)))) : OG p.tables e below P (T.setTop (mkF m pc Ls (.int y :: .long x :: rest))) := by
  subst hp
  obtain ⟨X, hx, hby, hml, hown, hZ, eT⟩ := B
  exact hr.of fun t k => XT.lshl X.here hx rfl (hb hby hd) rfl k
theorem o_lshr (B : Bx own bs ml Z p l e R s m args below meth c T h locs cells slots) (pc pc' : Nat) {x : Int64} {y : Int32} (hd : decode bs pc = .ok (.lshr, 1)) (hp : pc + 1 = pc') 
    (hr : OG p.tables e below P (T.setTop (mkF m pc' Ls (.long (x >>> (y.toInt64 &&& 63)) :: rest)))) : OG p.tables e below P (T.setTop (mkF m pc Ls (.int y :: .long x :: rest))) := by
  subst hp
  obtain ⟨X, hx, hby, hml, hown, hZ, eT⟩ := B
  exact hr.of fun t k => XT.lshr X.here hx rfl (hb hby hd) rfl k
theorem o_lushr (B : Bx own bs ml Z p l e R s m args below meth c T h locs cells slots) (pc pc' : Nat) {x : Int64} {y : Int32} (hd : decode bs pc = .ok (.lushr, 1)) (hp : pc + 1 = pc') 
    (hr : OG p.tables e below P (T.setTop (mkF m pc' Ls (.long (XT.ushrL x y) :: rest)))) : OG p.tables e below P (T.setTop (mkF m pc Ls (.int y :: .long x :: rest))) := by
  subst hp
  obtain ⟨X, hx, hby, hml, hown, hZ, eT⟩ := B
  exact hr.of fun t k => XT.lushr X.here hx rfl (hb hby hd) rfl k
theorem o_lcmp (B : Bx own bs ml Z p l e R s m args below meth c T h locs cells slots) (pc pc' : Nat) {x y : Int64} (hd : decode bs pc = .ok (.lcmp, 1)) (hp : pc + 1 = pc') 
    (hr : OG p.tables e below P (T.setTop (mkF m pc' Ls (.int (XT.cmpL x y) :: rest)))) : OG p.tables e below P (T.setTop (mkF m pc Ls (.long y :: .long x :: rest))) := by
  subst hp
  obtain ⟨X, hx, hby, hml, hown, hZ, eT⟩ := B
  exact hr.of fun t k => XT.lcmp X.here hx rfl (hb hby hd) rfl k
theorem o_ineg (B : Bx own bs ml Z p l e R s m args below meth c T h locs cells slots) (pc pc' : Nat) {x : Int32} (hd : decode bs pc = .ok (.ineg, 1)) (hp : pc + 1 = pc') 
    (hr : OG p.tables e below P (T.setTop (mkF m pc' Ls (.int (-x) :: rest)))) : OG p.tables e below P (T.setTop (mkF m pc Ls (.int x :: rest))) := by
  subst hp
  obtain ⟨X, hx, hby, hml, hown, hZ, eT⟩ := B
  exact hr.of fun t k => XS.ineg X.here hx rfl (hb hby hd) rfl k
theorem o_lneg (B : Bx own bs ml Z p l e R s m args below meth c T h locs cells slots) (pc pc' : Nat) {x : Int64} (hd : decode bs pc = .ok (.lneg, 1)) (hp : pc + 1 = pc') 
    (hr : OG p.tables e below P (T.setTop (mkF m pc' Ls (.long (-x) :: rest)))) : OG p.tables e below P (T.setTop (mkF m pc Ls (.long x :: rest))) := by
  subst hp
  obtain ⟨X, hx, hby, hml, hown, hZ, eT⟩ := B
  exact hr.of fun t k => XT.lneg X.here hx rfl (hb hby hd) rfl k
theorem o_i2l (B : Bx own bs ml Z p l e R s m args below meth c T h locs cells slots) (pc pc' : Nat) {x : Int32} (hd : decode bs pc = .ok (.i2l, 1)) (hp : pc + 1 = pc') 
    (hr : OG p.tables e below P (T.setTop (mkF m pc' Ls (.long (x.toInt64) :: rest)))) : OG p.tables e below P (T.setTop (mkF m pc Ls (.int x :: rest))) := by
  subst hp
  obtain ⟨X, hx, hby, hml, hown, hZ, eT⟩ := B
  exact hr.of fun t k => XT.i2l X.here hx rfl (hb hby hd) rfl k
theorem o_l2i (B : Bx own bs ml Z p l e R s m args below meth c T h locs cells slots) (pc pc' : Nat) {x : Int64} (hd : decode bs pc = .ok (.l2i, 1)) (hp : pc + 1 = pc') 
    (hr : OG p.tables e below P (T.setTop (mkF m pc' Ls (.int (x.toInt32) :: rest)))) : OG p.tables e below P (T.setTop (mkF m pc Ls (.long x :: rest))) := by
  subst hp
  obtain ⟨X, hx, hby, hml, hown, hZ, eT⟩ := B
  exact hr.of fun t k => XT.l2i X.here hx rfl (hb hby hd) rfl k
theorem o_i2b (B : Bx own bs ml Z p l e R s m args below meth c T h locs cells slots) (pc pc' : Nat) {x : Int32} (hd : decode bs pc = .ok (.i2b, 1)) (hp : pc + 1 = pc') 
    (hr : OG p.tables e below P (T.setTop (mkF m pc' Ls (.int (x.toInt8.toInt32) :: rest)))) : OG p.tables e below P (T.setTop (mkF m pc Ls (.int x :: rest))) := by
  subst hp
  obtain ⟨X, hx, hby, hml, hown, hZ, eT⟩ := B
  exact hr.of fun t k => XT.i2b X.here hx rfl (hb hby hd) rfl k
theorem o_i2c (B : Bx own bs ml Z p l e R s m args below meth c T h locs cells slots) (pc pc' : Nat) {x : Int32} (hd : decode bs pc = .ok (.i2c, 1)) (hp : pc + 1 = pc') 
    (hr : OG p.tables e below P (T.setTop (mkF m pc' Ls (.int (x.toUInt32.toUInt16.toUInt32.toInt32) :: rest)))) : OG p.tables e below P (T.setTop (mkF m pc Ls (.int x :: rest))) := by
  subst hp
  obtain ⟨X, hx, hby, hml, hown, hZ, eT⟩ := B
  exact hr.of fun t k => XT.i2c X.here hx rfl (hb hby hd) rfl k
theorem o_i2s (B : Bx own bs ml Z p l e R s m args below meth c T h locs cells slots) (pc pc' : Nat) {x : Int32} (hd : decode bs pc = .ok (.i2s, 1)) (hp : pc + 1 = pc') 
    (hr : OG p.tables e below P (T.setTop (mkF m pc' Ls (.int (x.toInt16.toInt32) :: rest)))) : OG p.tables e below P (T.setTop (mkF m pc Ls (.int x :: rest))) := by
  subst hp
  obtain ⟨X, hx, hby, hml, hown, hZ, eT⟩ := B
  exact hr.of fun t k => XT.i2s X.here hx rfl (hb hby hd) rfl k
theorem o_iconst (B : Bx own bs ml Z p l e R s m args below meth c T h locs cells slots) (pc pc' : Nat) {i : Int} (v : Int32) (hd : decode bs pc = .ok (.iconst i, 1)) (hp : pc + 1 = pc') (hv : Int32.ofInt i = v)
    (hr : OG p.tables e below P (T.setTop (mkF m pc' Ls (.int v :: rest)))) : OG p.tables e below P (T.setTop (mkF m pc Ls rest)) := by
  subst hp
  obtain ⟨X, hx, hby, hml, hown, hZ, eT⟩ := B
  exact hr.of fun t k => XT.iconstV X.here hx rfl v (hb hby hd) hv k
theorem o_bipush (B : Bx own bs ml Z p l e R s m args below meth c T h locs cells slots) (pc pc' : Nat) {i : Int} (v : Int32) (hd : decode bs pc = .ok (.bipush i, 2)) (hp : pc + 2 = pc') (hv : (Int8.ofInt i).toInt32 = v)
    (hr : OG p.tables e below P (T.setTop (mkF m pc' Ls (.int v :: rest)))) : OG p.tables e below P (T.setTop (mkF m pc Ls rest)) := by
  subst hp
  obtain ⟨X, hx, hby, hml, hown, hZ, eT⟩ := B
  exact hr.of fun t k => XT.bipushV X.here hx rfl v (hb hby hd) hv k
theorem o_sipush (B : Bx own bs ml Z p l e R s m args below meth c T h locs cells slots) (pc pc' : Nat) {i : Int} (v : Int32) (hd : decode bs pc = .ok (.sipush i, 3)) (hp : pc + 3 = pc') (hv : (Int16.ofInt i).toInt32 = v)
    (hr : OG p.tables e below P (T.setTop (mkF m pc' Ls (.int v :: rest)))) : OG p.tables e below P (T.setTop (mkF m pc Ls rest)) := by
  subst hp
  obtain ⟨X, hx, hby, hml, hown, hZ, eT⟩ := B
  exact hr.of fun t k => XT.sipushV X.here hx rfl v (hb hby hd) hv k
theorem o_lconst (B : Bx own bs ml Z p l e R s m args below meth c T h locs cells slots) (pc pc' : Nat) {i : Fin 2} (v : Int64) (hd : decode bs pc = .ok (.lconst i, 1)) (hp : pc + 1 = pc') (hv : Int64.ofNat i = v)
    (hr : OG p.tables e below P (T.setTop (mkF m pc' Ls (.long v :: rest)))) : OG p.tables e below P (T.setTop (mkF m pc Ls rest)) := by
  subst hp
  obtain ⟨X, hx, hby, hml, hown, hZ, eT⟩ := B
  exact hr.of fun t k => XT.lconstV X.here hx rfl v (hb hby hd) hv k
theorem o_aconst_null (B : Bx own bs ml Z p l e R s m args below meth c T h locs cells slots) (pc pc' : Nat)  (hd : decode bs pc = .ok (.aconst_null, 1)) (hp : pc + 1 = pc') 
    (hr : OG p.tables e below P (T.setTop (mkF m pc' Ls (.null :: rest)))) : OG p.tables e below P (T.setTop (mkF m pc Ls rest)) := by
  subst hp
  obtain ⟨X, hx, hby, hml, hown, hZ, eT⟩ := B
  exact hr.of fun t k => XS.aconstNull X.here hx rfl (hb hby hd) k
theorem o_iloadN (B : Bx own bs ml Z p l e R s m args below meth c T h locs cells slots) (pc pc' : Nat) {k : Fin 4} {v : Int32} (hd : decode bs pc = .ok (.iload_n k, 1)) (hp : pc + 1 = pc') (hl : Ls[k.val]? = some (.val (.int v)))
    (hr : OG p.tables e below P (T.setTop (mkF m pc' Ls (.int v :: rest)))) : OG p.tables e below P (T.setTop (mkF m pc Ls rest)) := by
  subst hp
  obtain ⟨X, hx, hby, hml, hown, hZ, eT⟩ := B
  exact hr.of fun t k => XS.iloadN X.here hx rfl (hb hby hd) hl k
theorem o_iload (B : Bx own bs ml Z p l e R s m args below meth c T h locs cells slots) (pc pc' : Nat) {k : Nat} {v : Int32} (hd : decode bs pc = .ok (.iload k, 2)) (hp : pc + 2 = pc') (hl : Ls[k]? = some (.val (.int v)))
    (hr : OG p.tables e below P (T.setTop (mkF m pc' Ls (.int v :: rest)))) : OG p.tables e below P (T.setTop (mkF m pc Ls rest)) := by
  subst hp
  obtain ⟨X, hx, hby, hml, hown, hZ, eT⟩ := B
  exact hr.of fun t k => XS.iload X.here hx rfl (hb hby hd) hl k
theorem o_lloadN (B : Bx own bs ml Z p l e R s m args below meth c T h locs cells slots) (pc pc' : Nat) {k : Fin 4} {v : Int64} (hd : decode bs pc = .ok (.lload_n k, 1)) (hp : pc + 1 = pc') (hl : Ls[k.val]? = some (.val (.long v)))
    (hr : OG p.tables e below P (T.setTop (mkF m pc' Ls (.long v :: rest)))) : OG p.tables e below P (T.setTop (mkF m pc Ls rest)) := by
  subst hp
  obtain ⟨X, hx, hby, hml, hown, hZ, eT⟩ := B
  exact hr.of fun t k => XT.lloadN X.here hx rfl (hb hby hd) hl k
theorem o_lload (B : Bx own bs ml Z p l e R s m args below meth c T h locs cells slots) (pc pc' : Nat) {k : Nat} {v : Int64} (hd : decode bs pc = .ok (.lload k, 2)) (hp : pc + 2 = pc') (hl : Ls[k]? = some (.val (.long v)))
    (hr : OG p.tables e below P (T.setTop (mkF m pc' Ls (.long v :: rest)))) : OG p.tables e below P (T.setTop (mkF m pc Ls rest)) := by
  subst hp
  obtain ⟨X, hx, hby, hml, hown, hZ, eT⟩ := B
  exact hr.of fun t k => XT.lload X.here hx rfl (hb hby hd) hl k
theorem o_aloadN (B : Bx own bs ml Z p l e R s m args below meth c T h locs cells slots) (pc pc' : Nat) {k : Fin 4} {v : Value} (hd : decode bs pc = .ok (.aload_n k, 1)) (hp : pc + 1 = pc') (hl : Ls[k.val]? = some (.val v)) (hv : v.isRef = true)
    (hr : OG p.tables e below P (T.setTop (mkF m pc' Ls (v :: rest)))) : OG p.tables e below P (T.setTop (mkF m pc Ls rest)) := by
  subst hp
  obtain ⟨X, hx, hby, hml, hown, hZ, eT⟩ := B
  exact hr.of fun t k => XS.aloadN X.here hx rfl (hb hby hd) hl hv k
theorem o_aload (B : Bx own bs ml Z p l e R s m args below meth c T h locs cells slots) (pc pc' : Nat) {k : Nat} {v : Value} (hd : decode bs pc = .ok (.aload k, 2)) (hp : pc + 2 = pc') (hl : Ls[k]? = some (.val v)) (hv : v.isRef = true)
    (hr : OG p.tables e below P (T.setTop (mkF m pc' Ls (v :: rest)))) : OG p.tables e below P (T.setTop (mkF m pc Ls rest)) := by
  subst hp
  obtain ⟨X, hx, hby, hml, hown, hZ, eT⟩ := B
  exact hr.of fun t k => XS.aload X.here hx rfl (hb hby hd) hl hv k
theorem o_istoreN (B : Bx own bs ml Z p l e R s m args below meth c T h locs cells slots) (pc pc' : Nat) {k : Fin 4} {x : Int32} {l' : Array Slot} (hd : decode bs pc = .ok (.istore_n k, 1)) (hp : pc + 1 = pc') (hl : storeLocals Ls k.val (.int x) = some l')
    (hr : OG p.tables e below P (T.setTop (mkF m pc' l' rest))) : OG p.tables e below P (T.setTop (mkF m pc Ls (.int x :: rest))) := by
  subst hp
  obtain ⟨X, hx, hby, hml, hown, hZ, eT⟩ := B
  exact hr.of fun t k => XS.istoreN X.here hx rfl (hb hby hd) rfl hl k
theorem o_istore (B : Bx own bs ml Z p l e R s m args below meth c T h locs cells slots) (pc pc' : Nat) {k : Nat} {x : Int32} {l' : Array Slot} (hd : decode bs pc = .ok (.istore k, 2)) (hp : pc + 2 = pc') (hl : storeLocals Ls k (.int x) = some l')
    (hr : OG p.tables e below P (T.setTop (mkF m pc' l' rest))) : OG p.tables e below P (T.setTop (mkF m pc Ls (.int x :: rest))) := by
  subst hp
  obtain ⟨X, hx, hby, hml, hown, hZ, eT⟩ := B
  exact hr.of fun t k => XS.istore X.here hx rfl (hb hby hd) rfl hl k
theorem o_lstoreN (B : Bx own bs ml Z p l e R s m args below meth c T h locs cells slots) (pc pc' : Nat) {k : Fin 4} {x : Int64} {l' : Array Slot} (hd : decode bs pc = .ok (.lstore_n k, 1)) (hp : pc + 1 = pc') (hl : storeLocals Ls k.val (.long x) = some l')
    (hr : OG p.tables e below P (T.setTop (mkF m pc' l' rest))) : OG p.tables e below P (T.setTop (mkF m pc Ls (.long x :: rest))) := by
  subst hp
  obtain ⟨X, hx, hby, hml, hown, hZ, eT⟩ := B
  exact hr.of fun t k => XT.lstoreN X.here hx rfl (hb hby hd) rfl hl k
theorem o_lstore (B : Bx own bs ml Z p l e R s m args below meth c T h locs cells slots) (pc pc' : Nat) {k : Nat} {x : Int64} {l' : Array Slot} (hd : decode bs pc = .ok (.lstore k, 2)) (hp : pc + 2 = pc') (hl : storeLocals Ls k (.long x) = some l')
    (hr : OG p.tables e below P (T.setTop (mkF m pc' l' rest))) : OG p.tables e below P (T.setTop (mkF m pc Ls (.long x :: rest))) := by
  subst hp
  obtain ⟨X, hx, hby, hml, hown, hZ, eT⟩ := B
  exact hr.of fun t k => XT.lstore X.here hx rfl (hb hby hd) rfl hl k
theorem o_astoreN (B : Bx own bs ml Z p l e R s m args below meth c T h locs cells slots) (pc pc' : Nat) {k : Fin 4} {x : Value} {l' : Array Slot} (hd : decode bs pc = .ok (.astore_n k, 1)) (hp : pc + 1 = pc') (hv : x.isRef = true) (hl : storeLocals Ls k.val x = some l')
    (hr : OG p.tables e below P (T.setTop (mkF m pc' l' rest))) : OG p.tables e below P (T.setTop (mkF m pc Ls (x :: rest))) := by
  subst hp
  obtain ⟨X, hx, hby, hml, hown, hZ, eT⟩ := B
  exact hr.of fun t k => XS.astoreN X.here hx rfl (hb hby hd) rfl hv hl k
theorem o_astore (B : Bx own bs ml Z p l e R s m args below meth c T h locs cells slots) (pc pc' : Nat) {k : Nat} {x : Value} {l' : Array Slot} (hd : decode bs pc = .ok (.astore k, 2)) (hp : pc + 2 = pc') (hv : x.isRef = true) (hl : storeLocals Ls k x = some l')
    (hr : OG p.tables e below P (T.setTop (mkF m pc' l' rest))) : OG p.tables e below P (T.setTop (mkF m pc Ls (x :: rest))) := by
  subst hp
  obtain ⟨X, hx, hby, hml, hown, hZ, eT⟩ := B
  exact hr.of fun t k => XS.astore X.here hx rfl (hb hby hd) rfl hv hl k
theorem o_iinc (B : Bx own bs ml Z p l e R s m args below meth c T h locs cells slots) (pc pc' : Nat) {k : Nat} {cst : Int} {x : Int32} {l' : Array Slot} (v : Int32) (hd : decode bs pc = .ok (.iinc k cst, 3)) (hp : pc + 3 = pc') (hv : Int32.ofInt cst = v) (hl : Ls[k]? = some (.val (.int x))) (hl' : storeLocals Ls k (.int (x + v)) = some l')
    (hr : OG p.tables e below P (T.setTop (mkF m pc' l' rest))) : OG p.tables e below P (T.setTop (mkF m pc Ls rest)) := by
  subst hp
  obtain ⟨X, hx, hby, hml, hown, hZ, eT⟩ := B
  exact hr.of fun t k => XT.iincV X.here hx rfl v (hb hby hd) hv hl hl' k
theorem o_goto (B : Bx own bs ml Z p l e R s m args below meth c T h locs cells slots) (pc pc' : Nat) {o : Int} (hd : decode bs pc = .ok (.goto o, 3))  (ho : 0 ≤ (pc : Int) + o) (hp : ((pc : Int) + o).toNat = pc')
    (hr : OG p.tables e below P (T.setTop (mkF m pc' Ls rest))) : OG p.tables e below P (T.setTop (mkF m pc Ls rest)) := by
  obtain ⟨X, hx, hby, hml, hown, hZ, eT⟩ := B
  exact hr.of fun t k => XS.goto X.here hx rfl (pc0 := pc) (pc' := pc') rfl (hb hby hd) ho hp k
theorem o_ifY (B : Bx own bs ml Z p l e R s m args below meth c T h locs cells slots) (pc pc' : Nat) {cd : ClassFile.Cond} {o : Int} {x : Int32} (hd : decode bs pc = .ok (.ifCond cd o, 3))  (hc : ifCond.holds cd x = true) (ho : 0 ≤ (pc : Int) + o) (hp : ((pc : Int) + o).toNat = pc')
    (hr : OG p.tables e below P (T.setTop (mkF m pc' Ls rest))) : OG p.tables e below P (T.setTop (mkF m pc Ls (.int x :: rest))) := by
  obtain ⟨X, hx, hby, hml, hown, hZ, eT⟩ := B
  exact hr.of fun t k => XS.ifYes X.here hx rfl (pc0 := pc) (pc' := pc') rfl (hb hby hd) rfl hc ho hp k
theorem o_ifN (B : Bx own bs ml Z p l e R s m args below meth c T h locs cells slots) (pc pc' : Nat) {cd : ClassFile.Cond} {o : Int} {x : Int32} (hd : decode bs pc = .ok (.ifCond cd o, 3)) (hp : pc + 3 = pc') (hc : ifCond.holds cd x = false)
    (hr : OG p.tables e below P (T.setTop (mkF m pc' Ls rest))) : OG p.tables e below P (T.setTop (mkF m pc Ls (.int x :: rest))) := by
  subst hp
  obtain ⟨X, hx, hby, hml, hown, hZ, eT⟩ := B
  exact hr.of fun t k => XS.ifNo X.here hx rfl (hb hby hd) rfl hc k
theorem o_icY (B : Bx own bs ml Z p l e R s m args below meth c T h locs cells slots) (pc pc' : Nat) {cd : ClassFile.Cond} {o : Int} {x y : Int32} (hd : decode bs pc = .ok (.if_icmp cd o, 3))  (hc : if_icmp.holds cd x y = true) (ho : 0 ≤ (pc : Int) + o) (hp : ((pc : Int) + o).toNat = pc')
    (hr : OG p.tables e below P (T.setTop (mkF m pc' Ls rest))) : OG p.tables e below P (T.setTop (mkF m pc Ls (.int y :: .int x :: rest))) := by
  obtain ⟨X, hx, hby, hml, hown, hZ, eT⟩ := B
  exact hr.of fun t k => XS.icmpYes X.here hx rfl (pc0 := pc) (pc' := pc') rfl (hb hby hd) rfl hc ho hp k
theorem o_icN (B : Bx own bs ml Z p l e R s m args below meth c T h locs cells slots) (pc pc' : Nat) {cd : ClassFile.Cond} {o : Int} {x y : Int32} (hd : decode bs pc = .ok (.if_icmp cd o, 3)) (hp : pc + 3 = pc') (hc : if_icmp.holds cd x y = false)
    (hr : OG p.tables e below P (T.setTop (mkF m pc' Ls rest))) : OG p.tables e below P (T.setTop (mkF m pc Ls (.int y :: .int x :: rest))) := by
  subst hp
  obtain ⟨X, hx, hby, hml, hown, hZ, eT⟩ := B
  exact hr.of fun t k => XS.icmpNo X.here hx rfl (hb hby hd) rfl hc k
theorem o_dup (B : Bx own bs ml Z p l e R s m args below meth c T h locs cells slots) (pc pc' : Nat) {x : Value} (hd : decode bs pc = .ok (.dup, 1)) (hp : pc + 1 = pc') (hc : x.category = 1)
    (hr : OG p.tables e below P (T.setTop (mkF m pc' Ls (x :: x :: rest)))) : OG p.tables e below P (T.setTop (mkF m pc Ls (x :: rest))) := by
  subst hp
  obtain ⟨X, hx, hby, hml, hown, hZ, eT⟩ := B
  exact hr.of fun t k => XS.dup X.here hx rfl (hb hby hd) rfl hc k
theorem o_pop (B : Bx own bs ml Z p l e R s m args below meth c T h locs cells slots) (pc pc' : Nat) {x : Value} (hd : decode bs pc = .ok (.pop, 1)) (hp : pc + 1 = pc') (hc : x.category = 1)
    (hr : OG p.tables e below P (T.setTop (mkF m pc' Ls rest))) : OG p.tables e below P (T.setTop (mkF m pc Ls (x :: rest))) := by
  subst hp
  obtain ⟨X, hx, hby, hml, hown, hZ, eT⟩ := B
  exact hr.of fun t k => XT.pop X.here hx rfl (hb hby hd) rfl hc k
theorem o_dup_x1 (B : Bx own bs ml Z p l e R s m args below meth c T h locs cells slots) (pc pc' : Nat) {x y : Value} (hd : decode bs pc = .ok (.dup_x1, 1)) (hp : pc + 1 = pc') (hc : x.category = 1) (hc' : y.category = 1)
    (hr : OG p.tables e below P (T.setTop (mkF m pc' Ls (x :: y :: x :: rest)))) : OG p.tables e below P (T.setTop (mkF m pc Ls (x :: y :: rest))) := by
  subst hp
  obtain ⟨X, hx, hby, hml, hown, hZ, eT⟩ := B
  exact hr.of fun t k => XT.dupX1 X.here hx rfl (hb hby hd) rfl hc hc' k
theorem o_dup2 (B : Bx own bs ml Z p l e R s m args below meth c T h locs cells slots) (pc pc' : Nat) {x y : Value} (hd : decode bs pc = .ok (.dup2, 1)) (hp : pc + 1 = pc') (hc : x.category = 1) (hc' : y.category = 1)
    (hr : OG p.tables e below P (T.setTop (mkF m pc' Ls (x :: y :: x :: y :: rest)))) : OG p.tables e below P (T.setTop (mkF m pc Ls (x :: y :: rest))) := by
  subst hp
  obtain ⟨X, hx, hby, hml, hown, hZ, eT⟩ := B
  exact hr.of fun t k => XT.dup2 X.here hx rfl (hb hby hd) rfl hc hc' k
theorem o_dup2L (B : Bx own bs ml Z p l e R s m args below meth c T h locs cells slots) (pc pc' : Nat) {x : Int64} (hd : decode bs pc = .ok (.dup2, 1)) (hp : pc + 1 = pc') 
    (hr : OG p.tables e below P (T.setTop (mkF m pc' Ls (.long x :: .long x :: rest)))) : OG p.tables e below P (T.setTop (mkF m pc Ls (.long x :: rest))) := by
  subst hp
  obtain ⟨X, hx, hby, hml, hown, hZ, eT⟩ := B
  exact hr.of fun t k => XT.dup2L X.here hx rfl (hb hby hd) rfl k
theorem o_ldc (B : Bx own bs ml Z p l e R s m args below meth c T h locs cells slots) (pc pc' : Nat) {i : Nat} {v : Int32} (hd : decode bs pc = .ok (.ldc i, 2)) (hp : pc + 2 = pc') (w : (Cond.constant own i v).before a0 Z = true)
    (hr : OG p.tables e below P (T.setTop (mkF m pc' Ls (.int v :: rest)))) : OG p.tables e below P (T.setTop (mkF m pc Ls rest)) := by
  subst hp
  obtain ⟨X, hx, hby, hml, hown, hZ, eT⟩ := B
  exact hr.of fun t k => X.ldcI hx hown (mv hZ w) rfl (hb hby hd) k
theorem o_ldc_w (B : Bx own bs ml Z p l e R s m args below meth c T h locs cells slots) (pc pc' : Nat) {i : Nat} {v : Int32} (hd : decode bs pc = .ok (.ldc_w i, 3)) (hp : pc + 3 = pc') (w : (Cond.constant own i v).before a0 Z = true)
    (hr : OG p.tables e below P (T.setTop (mkF m pc' Ls (.int v :: rest)))) : OG p.tables e below P (T.setTop (mkF m pc Ls rest)) := by
  subst hp
  obtain ⟨X, hx, hby, hml, hown, hZ, eT⟩ := B
  exact hr.of fun t k => X.ldcWI hx hown (mv hZ w) rfl (hb hby hd) k
theorem o_ldc2 (B : Bx own bs ml Z p l e R s m args below meth c T h locs cells slots) (pc pc' : Nat) {i : Nat} {v : Int64} (hd : decode bs pc = .ok (.ldc2_w i, 3)) (hp : pc + 3 = pc') (w : (Cond.constantLong own i v).before a0 Z = true)
    (hr : OG p.tables e below P (T.setTop (mkF m pc' Ls (.long v :: rest)))) : OG p.tables e below P (T.setTop (mkF m pc Ls rest)) := by
  subst hp
  obtain ⟨X, hx, hby, hml, hown, hZ, eT⟩ := B
  exact hr.of fun t k => X.ldc2J hx hown (mv hZ w) rfl (hb hby hd) k
theorem o_topI {pc : Nat} {x y : Int32} (q : x = y) (hr : OG p.tables e below P (T.setTop (mkF m pc Ls (.int y :: rest)))) : OG p.tables e below P (T.setTop (mkF m pc Ls (.int x :: rest))) := q ▸ hr
theorem o_topJ {pc : Nat} {x y : Int64} (q : x = y) (hr : OG p.tables e below P (T.setTop (mkF m pc Ls (.long y :: rest)))) : OG p.tables e below P (T.setTop (mkF m pc Ls (.long x :: rest))) := q ▸ hr
theorem o_iincC (B : Bx own bs ml Z p l e R s m args below meth c T h locs cells slots) (pc pc' : Nat) {k : Nat} {cst : Int} {x : Int32} {l' : Array Slot} (v y : Int32) (hd : decode bs pc = .ok (.iinc k cst, 3)) (hp : pc + 3 = pc') (hv : Int32.ofInt cst = v) (hl : Ls[k]? = some (.val (.int x))) (hy : x + v = y) (hl' : storeLocals Ls k (.int y) = some l')
    (hr : OG p.tables e below P (T.setTop (mkF m pc' l' rest))) : OG p.tables e below P (T.setTop (mkF m pc Ls rest)) := by
  subst hp
  obtain ⟨X, hx, hby, hml, hown, hZ, eT⟩ := B
  exact hr.of fun t k => XT.iincV X.here hx rfl v (hb hby hd) hv hl (hy ▸ hl') k
theorem o_retZ {Q : Option Value → Heap → List Loc → Prop} {kc ks : Nat} (B : Bx own bs ml Z p l e R s m args below meth c T h locs cells slots) (pc : Nat) {z : Int32} {t : FieldType} (hd : decode bs pc = .ok (.ireturn, 1)) (hret : meth.sig.returnType = some t) (hlk : meth.locks = false) (ht : t = .boolean ∨ t = .byte ∨ t = .char ∨ t = .short) (hc : cells ≤ kc) (hs : slots ≤ ks) (hq : Q (some (.int (nar t z))) h locs) :
    OG p.tables e below (fun o s₂ => ∃ v L, o = .returned v ∧ Q v s₂.heap L ∧ FrameEnd s o s₂ L kc ks) (T.setTop (mkF m pc Ls (.int z :: rest))) := by
  obtain ⟨X, hx, hby, hml, hown, hZ, eT⟩ := B
  subst eT
  obtain ⟨fs, hr, hrun, hended, hW, hsame⟩ := X.leave (v := some (.int (nar t z))) (fun hn => by rw [hret] at hn; cases hn) hlk
  exact ⟨_, _, retN X hx hret ht (hb hby hd) hr, hrun, hended, _, _, rfl, hq, ⟨_, rfl⟩, hW, hsame.mono hc hs⟩
theorem o_retI0 (X : Stand p l e R s m args below meth c T locs cells slots) (hx : p.tables.exec = Jvm.exec) {pc : Nat} {z : Int32} (hret : meth.sig.returnType = some .int) (hd : decode c.code pc = .ok (.ireturn, 1)) {fs : List Frame}
    (hl : ∀ (f : JFrame) (acts : List Action), f.method = m → f.locked = none → f.entered = [] → (doReturn e (T.setTop f) acts (some (.int z))).1 = T.setFrames fs) : Steps p.tables e below (T.setTop (mkF m pc Ls (.int z :: rest))) (T.setFrames fs) :=
  retOut X hx hret rfl (Or.inl ⟨rfl, Or.inl rfl, _, rfl⟩) hd hl
theorem o_retI {Q : Option Value → Heap → List Loc → Prop} {kc ks : Nat} (B : Bx own bs ml Z p l e R s m args below meth c T h locs cells slots) (pc : Nat) {z : Int32} (hd : decode bs pc = .ok (.ireturn, 1)) (hret : meth.sig.returnType = some .int) (hlk : meth.locks = false)  (hc : cells ≤ kc) (hs : slots ≤ ks) (hq : Q (some (.int z)) h locs) :
    OG p.tables e below (fun o s₂ => ∃ v L, o = .returned v ∧ Q v s₂.heap L ∧ FrameEnd s o s₂ L kc ks) (T.setTop (mkF m pc Ls (.int z :: rest))) := by
  obtain ⟨X, hx, hby, hml, hown, hZ, eT⟩ := B
  subst eT
  obtain ⟨fs, hr, hrun, hended, hW, hsame⟩ := X.leave (v := some (.int z)) (fun hn => by rw [hret] at hn; cases hn) hlk
  exact ⟨_, _, o_retI0 X hx hret (hb hby hd) hr, hrun, hended, _, _, rfl, hq, ⟨_, rfl⟩, hW, hsame.mono hc hs⟩
theorem o_retL {Q : Option Value → Heap → List Loc → Prop} {kc ks : Nat} (B : Bx own bs ml Z p l e R s m args below meth c T h locs cells slots) (pc : Nat) {z : Int64} (hd : decode bs pc = .ok (.lreturn, 1)) (hret : meth.sig.returnType = some .long) (hlk : meth.locks = false)  (hc : cells ≤ kc) (hs : slots ≤ ks) (hq : Q (some (.long z)) h locs) :
    OG p.tables e below (fun o s₂ => ∃ v L, o = .returned v ∧ Q v s₂.heap L ∧ FrameEnd s o s₂ L kc ks) (T.setTop (mkF m pc Ls [.long z])) := by
  obtain ⟨X, hx, hby, hml, hown, hZ, eT⟩ := B
  subst eT
  obtain ⟨fs, hr, hrun, hended, hW, hsame⟩ := X.leave (v := some (.long z)) (fun hn => by rw [hret] at hn; cases hn) hlk
  exact ⟨_, _, X.lreturnOut hx hret (hb hby hd) hr, hrun, hended, _, _, rfl, hq, ⟨_, rfl⟩, hW, hsame.mono hc hs⟩
theorem o_retA {Q : Option Value → Heap → List Loc → Prop} {kc ks : Nat} (B : Bx own bs ml Z p l e R s m args below meth c T h locs cells slots) (pc : Nat) {z : Value} {t : FieldType} (hd : decode bs pc = .ok (.areturn, 1)) (hret : meth.sig.returnType = some t) (hlk : meth.locks = false) (ht : t.isReference = true) (hz : z.isRef = true) (hc : cells ≤ kc) (hs : slots ≤ ks) (hq : Q (some z) h locs) :
    OG p.tables e below (fun o s₂ => ∃ v L, o = .returned v ∧ Q v s₂.heap L ∧ FrameEnd s o s₂ L kc ks) (T.setTop (mkF m pc Ls [z])) := by
  obtain ⟨X, hx, hby, hml, hown, hZ, eT⟩ := B
  subst eT
  obtain ⟨fs, hr, hrun, hended, hW, hsame⟩ := X.leave (v := some z) (fun hn => by rw [hret] at hn; cases hn) hlk
  exact ⟨_, _, X.areturnOut hx hz hret ht (hb hby hd) hr, hrun, hended, _, _, rfl, hq, ⟨_, rfl⟩, hW, hsame.mono hc hs⟩
theorem o_retV {Q : Option Value → Heap → List Loc → Prop} {kc ks : Nat} (B : Bx own bs ml Z p l e R s m args below meth c T h locs cells slots) (pc : Nat)  (hd : decode bs pc = .ok (.return_, 1)) (hret : meth.sig.returnType = none) (hlk : meth.locks = false)  (hc : cells ≤ kc) (hs : slots ≤ ks) (hq : Q (none) h locs) :
    OG p.tables e below (fun o s₂ => ∃ v L, o = .returned v ∧ Q v s₂.heap L ∧ FrameEnd s o s₂ L kc ks) (T.setTop (mkF m pc Ls [])) := by
  obtain ⟨X, hx, hby, hml, hown, hZ, eT⟩ := B
  subst eT
  obtain ⟨fs, hr, hrun, hended, hW, hsame⟩ := X.leave (v := none) (fun _ => rfl) hlk
  exact ⟨_, _, X.returnOut hx hret (hb hby hd) hr, hrun, hended, _, _, rfl, hq, ⟨_, rfl⟩, hW, hsame.mono hc hs⟩
/-- a body's contract, out of its walk -/
theorem enter {y : MethodName} {ret : Option FieldType} {rm : Room} {ws : List Jvm.Cond} {as' : Array Value} {h0 : Heap} {Q : Option Value → Heap → List Loc → Prop} {kc ks : Nat} (hpl : plainFor y = true) (Ls : Array Slot)
    (hL : Jvm.Sym.laidSlots as'.toList ++ List.replicate (ml - (Jvm.Sym.laidSlots as'.toList).length) .unset = Ls.toList)
    (body : ∀ (p : Program) (e : Env) (s : State) (m : MethodId) (below : List Frame) (meth : Method) (c : Code) (T : State), Bx y.cls bs ml Z p l e rm s m as' below meth c T h0 [] 0 0 → meth.sig.returnType = ret → meth.locks = false → meth.name = y.name →
      OG p.tables e below (fun o s₂ => ∃ v L, o = .returned v ∧ Q v s₂.heap L ∧ FrameEnd s o s₂ L kc ks) (T.setTop (mkF m 0 Ls []))) :
    MetFree l y (head1 (Jvm.Cond.code y bs ml ret :: ws) rm) (fun a U => a = as' ∧ Z.Warmed39 U.vm ∧ U.heap = h0) (fun _ _ _ _ _ => True) (fun _ U o U' => ∃ v L, o = .returned v ∧ Q v U'.heap L ∧ FrameEnd U o U' L kc ks) := by
  refine MetFree.of_bodySF hpl hisR ?_
  intro p e s m args below meth c s₁ Bd hml0 hP hK
  obtain ⟨rfl, hZ, hh⟩ := hP
  have e0 : s₁.heap = h0 := by rw [← hh, Bd.state]; rfl
  have r := body p e s m below meth c s₁ ⟨Stand.of_body Bd, Bd.exec, Bd.bytes, hml0, findClass_of_methodNamed Bd.named, hZ, e0⟩ Bd.returns (BodyLoose.notSynchronized Bd) (name_of_methodNamed Bd.named Bd.method).1
  exact OG.of r fun t k => (XT.entry hL).trans k
/-- what a callee owes -/
abbrev Met (l : Launch) (Z : State) (y : MethodName) (bytes : ByteArray) (maxL : Nat) (ret : Option FieldType) (rm : Room) (as' : Array Value) (h : Heap) (Q : Option Value → Heap → List Loc → Prop) : Prop :=
  MetFree l y (head1 [Jvm.Cond.code y bytes maxL ret] rm) (fun a U => a = as' ∧ Z.Warmed39 U.vm ∧ U.heap = h) (fun _ _ _ _ _ => True) (fun _ U o U' => ∃ v L, o = .returned v ∧ Q v U'.heap L ∧ FrameEnd U o U' L rm.cells rm.slots)
theorem o_callS {index : Nat} {y : MethodName} {bytes : ByteArray} {maxL : Nat} {ret : Option FieldType} {rm : Room} {as' : Array Value} {Q : Option Value → Heap → List Loc → Prop} {ps : List FieldType} {rt : Option FieldType}
    (B : Bx own bs ml Z p l e R s m args below meth c T h locs cells slots) (pc pc' : Nat) (hd : decode bs pc = .ok (.invokestatic index, 3)) (hp : pc + 3 = pc')
    (w1 : (Cond.methodLink own index y).before a0 Z = true) (w2 : (Cond.static y).before a0 Z = true) (w3 : (Cond.initialized y.cls).before a0 Z = true) (w4 : (Cond.code y bytes maxL ret).before a0 Z = true) (hy : y.cls ≠ "java/lang/invoke/MethodHandle" ∧ y.cls ≠ "java/lang/invoke/VarHandle")
    (hM : Met l Z y bytes maxL ret rm as' h Q) (W : Nat) (argsL rest : List Value) (hpd : parseMethodDescriptor y.desc = some ⟨ps, rt⟩) (hlen : argsL.length = ps.length) (has : argsL.toArray = as') {st : List Value} (hst : st = argsL.reverse ++ rest) (hsz : Ls.size = ml)
    (hW : (rest.map fun v => v.category).sum ≤ W) (hf : rm.frames + 1 ≤ R.frames) (hl : W + (maxL + 11) + rm.locals ≤ R.locals) (hcl : cells + rm.cells ≤ R.cells) (hsl : slots + rm.slots ≤ R.slots) :
    ∃ v T' L, Bx own bs ml Z p l e R s m args below meth c T' T'.heap (locs ++ L) (cells + rm.cells) (slots + rm.slots) ∧ Q v T'.heap L ∧
      ∀ {P : Outcome → State → Prop}, OG p.tables e below P (T'.setTop (mkF m pc' Ls (v.toList ++ rest))) → OG p.tables e below P (T.setTop (mkF m pc Ls st)) := by
  subst hp hst
  obtain ⟨X, hx, hby, hml, hown, hZ, eT⟩ := B
  obtain ⟨v, vm1, ⟨T', L', k', n'⟩, -, X', ⟨Lc, hQ, l', y', z'⟩, st⟩ := Jvm.LawKit.callS X hx (y := y) hown (mvT hZ w1) (mvT hZ w2) (mvT hZ w3) (mvT hZ w4) hy (backOf (W := W) hM hZ w4 w3 hf hl) (g := mkF m pc Ls (argsL.reverse ++ rest)) rfl (by rw [hml]; exact hsz) (argsL := argsL) (rest := rest) (lenOf hpd hlen) rfl (by simpa using hW) (hb hby hd) (fun _ _ => ⟨has, eT, hcl, hsl⟩)
  dsimp only [Pt.U, Pt.locs, Pt.cells, Pt.slots] at X' l' y' z' st hQ
  subst l' y' z'
  exact ⟨v, T', Lc, ⟨X', hx, hby, hml, hown, hZ, rfl⟩, hQ, fun k => k.of st⟩
/-- a callee that writes and makes nothing -/
def Pu (r : Option Value) (h : Heap) (v : Option Value) (h' : Heap) (L : List Loc) : Prop := v = r ∧ L = [] ∧ h' = h
theorem o_callP {index : Nat} {y : MethodName} {bytes : ByteArray} {maxL : Nat} {ret : Option FieldType} {fr lo : Nat} {as' : Array Value} {r : Value} {ps : List FieldType} {rt : Option FieldType}
    (B : Bx own bs ml Z p l e R s m args below meth c T h locs cells slots) (pc pc' : Nat) (hd : decode bs pc = .ok (.invokestatic index, 3)) (hp : pc + 3 = pc')
    (w1 : (Cond.methodLink own index y).before a0 Z = true) (w2 : (Cond.static y).before a0 Z = true) (w3 : (Cond.initialized y.cls).before a0 Z = true) (w4 : (Cond.code y bytes maxL ret).before a0 Z = true) (hy : y.cls ≠ "java/lang/invoke/MethodHandle" ∧ y.cls ≠ "java/lang/invoke/VarHandle")
    (hM : Met l Z y bytes maxL ret ({ frames := fr, cells := 0, slots := 0, locals := lo } : Room) as' h (Pu (some r) h)) (W : Nat) (argsL rest : List Value) (hpd : parseMethodDescriptor y.desc = some ⟨ps, rt⟩) (hlen : argsL.length = ps.length) (has : argsL.toArray = as') {st : List Value} (hst : st = argsL.reverse ++ rest) (hsz : Ls.size = ml)
    (hW : (rest.map fun v => v.category).sum ≤ W) (hf : fr + 1 ≤ R.frames) (hl : W + (maxL + 11) + lo ≤ R.locals) (hcl : cells ≤ R.cells) (hsl : slots ≤ R.slots) :
    ∃ T', Bx own bs ml Z p l e R s m args below meth c T' h locs cells slots ∧
      ∀ {P : Outcome → State → Prop}, OG p.tables e below P (T'.setTop (mkF m pc' Ls (r :: rest))) → OG p.tables e below P (T.setTop (mkF m pc Ls st)) := by
  obtain ⟨v, T', L, B', ⟨rfl, rfl, hh⟩, st⟩ := o_callS B pc pc' hd hp w1 w2 w3 w4 hy hM W argsL rest hpd hlen has hst hsz hW hf hl hcl hsl
  rw [hh, List.append_nil] at B'
  exact ⟨T', B', st⟩
end Walk
theorem b_ne_t {c : Prop} [Decidable c] (h : c) : ifCond.holds .ne (if c then (1 : Int32) else 0) = true := by rw [if_pos h]; rfl
theorem b_ne_f {c : Prop} [Decidable c] (h : ¬ c) : ifCond.holds .ne (if c then (1 : Int32) else 0) = false := by rw [if_neg h]; rfl
theorem b_eq_t {c : Prop} [Decidable c] (h : ¬ c) : ifCond.holds .eq (if c then (1 : Int32) else 0) = true := by rw [if_neg h]; rfl
theorem b_eq_f {c : Prop} [Decidable c] (h : c) : ifCond.holds .eq (if c then (1 : Int32) else 0) = false := by rw [if_pos h]; rfl
/-! 2. arrays by a function of the place -/
def AI (Z : State) (h : Heap) (a : Addr) (ty : FieldType) (n : Nat) (g : Nat → Int32) : Prop := ∃ c : Cell, Arr Z h a c ty ∧ c.slots.size = n ∧ n < 2147483648 ∧ ∀ j, j < n → c.slots[j]? = some (.int (g j))
def AJ (Z : State) (h : Heap) (a : Addr) (n : Nat) (g : Nat → Int64) : Prop := ∃ c : Cell, Arr Z h a c .long ∧ c.slots.size = n ∧ n < 2147483648 ∧ ∀ j, j < n → c.slots[j]? = some (.long (g j))
section Arrays
variable {Z : State} {h h' : Heap} {a b : Addr} {ty : FieldType} {n i : Nat} {v : Value} {ws : List Addr}
theorem AI.ext {g : Nat → Int32} (A : AI Z h a ty n g) (E : Ext h h') : AI Z h' a ty n g := by obtain ⟨c, A, r⟩ := A; exact ⟨c, A.ext E, r⟩
theorem AI.other {g : Nat → Int32} (A : AI Z h a ty n g) (W : Wr h h' b i v) (q : a ≠ b) : AI Z h' a ty n g := by obtain ⟨c, A, r⟩ := A; exact ⟨c, A.other W q, r⟩
theorem AI.keep {g : Nat → Int32} (A : AI Z h a ty n g) (K : Keep h h' ws) (q : a ∉ ws) : AI Z h' a ty n g := by obtain ⟨c, A, r⟩ := A; exact ⟨c, ⟨K.2.1 a c A.1 q, A.2⟩, r⟩
theorem AI.lt {g : Nat → Int32} (A : AI Z h a ty n g) : a < h.size := by obtain ⟨c, A, r⟩ := A; exact A.lt
theorem AI.len {g : Nat → Int32} (A : AI Z h a ty n g) : n < 2147483648 := by obtain ⟨c, A, r, q, _⟩ := A; exact q
theorem AI.alt {g g' : Nat → Int32} (A : AI Z h a ty n g) (q : ∀ j, j < n → g' j = g j) : AI Z h a ty n g' := by obtain ⟨c, A, r, s, H⟩ := A; exact ⟨c, A, r, s, fun j hj => by rw [q j hj]; exact H j hj⟩
theorem AI.set {g : Nat → Int32} {x : Int32} (A : AI Z h a ty n g) (W : Wr h h' a i (.int x)) : AI Z h' a ty n (fun j => if j = i then x else g j) := by
  obtain ⟨c, A, S, hn, H⟩ := A
  refine ⟨c.setSlot i (.int x), Arr.same W A, by simp [Cell.setSlot, S], hn, fun j hj => ?_⟩
  show (c.slots.setIfInBounds i (.int x))[j]? = some (.int (if j = i then x else g j))
  by_cases e : j = i
  · subst e; rw [if_pos rfl]; simp [S, hj]
  · rw [if_neg e, Array.getElem?_setIfInBounds_ne (Ne.symm e)]; exact H j hj
theorem AJ.ext {g : Nat → Int64} (A : AJ Z h a n g) (E : Ext h h') : AJ Z h' a n g := by obtain ⟨c, A, r⟩ := A; exact ⟨c, A.ext E, r⟩
theorem AJ.other {g : Nat → Int64} (A : AJ Z h a n g) (W : Wr h h' b i v) (q : a ≠ b) : AJ Z h' a n g := by obtain ⟨c, A, r⟩ := A; exact ⟨c, A.other W q, r⟩
theorem AJ.keep {g : Nat → Int64} (A : AJ Z h a n g) (K : Keep h h' ws) (q : a ∉ ws) : AJ Z h' a n g := by obtain ⟨c, A, r⟩ := A; exact ⟨c, ⟨K.2.1 a c A.1 q, A.2⟩, r⟩
theorem AJ.lt {g : Nat → Int64} (A : AJ Z h a n g) : a < h.size := by obtain ⟨c, A, r⟩ := A; exact A.lt
theorem AJ.len {g : Nat → Int64} (A : AJ Z h a n g) : n < 2147483648 := by obtain ⟨c, A, r, q, _⟩ := A; exact q
theorem AJ.alt {g g' : Nat → Int64} (A : AJ Z h a n g) (q : ∀ j, j < n → g' j = g j) : AJ Z h a n g' := by obtain ⟨c, A, r, s, H⟩ := A; exact ⟨c, A, r, s, fun j hj => by rw [q j hj]; exact H j hj⟩
theorem AJ.set {g : Nat → Int64} {x : Int64} (A : AJ Z h a n g) (W : Wr h h' a i (.long x)) : AJ Z h' a n (fun j => if j = i then x else g j) := by
  obtain ⟨c, A, S, hn, H⟩ := A
  refine ⟨c.setSlot i (.long x), Arr.same W A, by simp [Cell.setSlot, S], hn, fun j hj => ?_⟩
  show (c.slots.setIfInBounds i (.long x))[j]? = some (.long (if j = i then x else g j))
  by_cases e : j = i
  · subst e; rw [if_pos rfl]; simp [S, hj]
  · rw [if_neg e, Array.getElem?_setIfInBounds_ne (Ne.symm e)]; exact H j hj
theorem in_of {c : Cell} {j : Int32} (S : c.slots.size = n) (h0 : ¬ j < 0) (hj : j.toNatClampNeg = i) (hi : i < n) : ¬ (j < 0 ∨ c.slots.size ≤ j.toNatClampNeg) := by rw [S, hj]; rintro (q | q); exact h0 q; omega
end Arrays
theorem ix_of {j : Int32} {k : Nat} (h : j.toInt = k) : ¬ j < 0 ∧ j.toNatClampNeg = k := by
  rw [Int32.lt_iff_toInt_lt, Int32.toInt_zero]
  simp only [Int32.toNatClampNeg, h]
  omega
theorem ix_add {j : Int32} {k : Nat} (c : Int32) (n : Nat) (h : j.toInt = k) (hc : c.toInt = n) (hk : k + n < 2147483648) : (j + c).toInt = (k + n : Nat) := by
  have a := c_iadd j c
  have r := rng32 (j + c)
  omega
theorem nar_bb (x : Int32) : nar .byte x.toInt8.toInt32 = x.toInt8.toInt32 := by simp [nar]
theorem nar_cc (x : Int32) : nar .char x.toUInt32.toUInt16.toUInt32.toInt32 = x.toUInt32.toUInt16.toUInt32.toInt32 := by simp only [nar, UInt32.toUInt32_toInt32, UInt16.toUInt16_toUInt32]
def Lw (n0 : Nat) (r : Option Value) (v : Option Value) (h : Heap) (L : List Loc) : Prop := v = r ∧ Fr n0 L
section Walk2
variable {own : String} {bs : ByteArray} {ml : Nat} {Z : State} {p : Program} {l : Launch} {e : Env} {R : Room} {s : State} {m : MethodId} {args : Array Value} {below : List Frame} {meth : Method} {c : Code} {T : State} {h : Heap} {locs : List Loc} {cells slots n0 : Nat} {P : Outcome → State → Prop} {Ls : Array Slot} {rest : List Value} {a0 : Array Value} {a : Addr} {n : Nat}
theorem o_iaload (B : Bx own bs ml Z p l e R s m args below meth c T h locs cells slots) (pc pc' : Nat) {g : Nat → Int32} (A : AI Z h a .int n g) {j : Int32} (i : Nat) (v : Int32) (hd : decode bs pc = .ok (.iaload, 1)) (hp : pc + 1 = pc') (h0 : ¬ j < 0) (hj : j.toNatClampNeg = i) (hi : i < n) (hv : g i = v)
    (hr : OG p.tables e below P (T.setTop (mkF m pc' Ls (.int v :: rest)))) : OG p.tables e below P (T.setTop (mkF m pc Ls (.int j :: .ref a :: rest))) := by
  subst hp hv
  obtain ⟨X, hx, hby, hml, hown, hZ, eT⟩ := B
  obtain ⟨cl, A, S, hn, H⟩ := A
  exact hr.of fun t k => X.iaload hx (by rw [eT]; exact A.1) (State.isArrayOf_alike hZ.alike A.2.1) A.2.2 (in_of S h0 hj hi) (by rw [hj]; exact H i hi) (g := mkF m pc Ls (.int j :: .ref a :: rest)) rfl rfl (hb hby hd) t k
theorem o_caload (B : Bx own bs ml Z p l e R s m args below meth c T h locs cells slots) (pc pc' : Nat) {g : Nat → Int32} (A : AI Z h a .char n g) {j : Int32} (i : Nat) (v : Int32) (hd : decode bs pc = .ok (.caload, 1)) (hp : pc + 1 = pc') (h0 : ¬ j < 0) (hj : j.toNatClampNeg = i) (hi : i < n) (hv : g i = v)
    (hr : OG p.tables e below P (T.setTop (mkF m pc' Ls (.int v :: rest)))) : OG p.tables e below P (T.setTop (mkF m pc Ls (.int j :: .ref a :: rest))) := by
  subst hp hv
  obtain ⟨X, hx, hby, hml, hown, hZ, eT⟩ := B
  obtain ⟨cl, A, S, hn, H⟩ := A
  exact hr.of fun t k => X.caload hx (by rw [eT]; exact A.1) (State.isArrayOf_alike hZ.alike A.2.1) A.2.2 (in_of S h0 hj hi) (by rw [hj]; exact H i hi) (g := mkF m pc Ls (.int j :: .ref a :: rest)) rfl rfl (hb hby hd) t k
theorem o_baload (B : Bx own bs ml Z p l e R s m args below meth c T h locs cells slots) (pc pc' : Nat) {g : Nat → Int32} (A : AI Z h a .byte n g) {j : Int32} (i : Nat) (v : Int32) (hd : decode bs pc = .ok (.baload, 1)) (hp : pc + 1 = pc') (h0 : ¬ j < 0) (hj : j.toNatClampNeg = i) (hi : i < n) (hv : g i = v)
    (hr : OG p.tables e below P (T.setTop (mkF m pc' Ls (.int v :: rest)))) : OG p.tables e below P (T.setTop (mkF m pc Ls (.int j :: .ref a :: rest))) := by
  subst hp hv
  obtain ⟨X, hx, hby, hml, hown, hZ, eT⟩ := B
  obtain ⟨cl, A, S, hn, H⟩ := A
  exact hr.of fun t k => X.baloadBytes hx (by rw [eT]; exact A.1) (State.isArrayOf_alike hZ.alike A.2.1) A.2.2 (in_of S h0 hj hi) (by rw [hj]; exact H i hi) (g := mkF m pc Ls (.int j :: .ref a :: rest)) rfl rfl (hb hby hd) t k
theorem o_zaload (B : Bx own bs ml Z p l e R s m args below meth c T h locs cells slots) (pc pc' : Nat) {g : Nat → Int32} (A : AI Z h a .boolean n g) {j : Int32} (i : Nat) (v : Int32) (hd : decode bs pc = .ok (.baload, 1)) (hp : pc + 1 = pc') (h0 : ¬ j < 0) (hj : j.toNatClampNeg = i) (hi : i < n) (hv : g i = v)
    (hr : OG p.tables e below P (T.setTop (mkF m pc' Ls (.int v :: rest)))) : OG p.tables e below P (T.setTop (mkF m pc Ls (.int j :: .ref a :: rest))) := by
  subst hp hv
  obtain ⟨X, hx, hby, hml, hown, hZ, eT⟩ := B
  obtain ⟨cl, A, S, hn, H⟩ := A
  exact hr.of fun t k => X.baloadBooleans hx (by rw [eT]; exact A.1) (State.isArrayOf_alike hZ.alike A.2.1) A.2.2 (in_of S h0 hj hi) (by rw [hj]; exact H i hi) (g := mkF m pc Ls (.int j :: .ref a :: rest)) rfl rfl (hb hby hd) t k
theorem o_laload (B : Bx own bs ml Z p l e R s m args below meth c T h locs cells slots) (pc pc' : Nat) {g : Nat → Int64} (A : AJ Z h a n g) {j : Int32} (i : Nat) (v : Int64) (hd : decode bs pc = .ok (.laload, 1)) (hp : pc + 1 = pc') (h0 : ¬ j < 0) (hj : j.toNatClampNeg = i) (hi : i < n) (hv : g i = v)
    (hr : OG p.tables e below P (T.setTop (mkF m pc' Ls (.long v :: rest)))) : OG p.tables e below P (T.setTop (mkF m pc Ls (.int j :: .ref a :: rest))) := by
  subst hp hv
  obtain ⟨X, hx, hby, hml, hown, hZ, eT⟩ := B
  obtain ⟨cl, A, S, hn, H⟩ := A
  exact hr.of fun t k => X.laload hx (by rw [eT]; exact A.1) (State.isArrayOf_alike hZ.alike A.2.1) A.2.2 (in_of S h0 hj hi) (by rw [hj]; exact H i hi) (g := mkF m pc Ls (.int j :: .ref a :: rest)) rfl rfl (hb hby hd) t k
theorem o_alenI (B : Bx own bs ml Z p l e R s m args below meth c T h locs cells slots) (pc pc' : Nat) {ty : FieldType} {g : Nat → Int32} (A : AI Z h a ty n g) (v : Int32) (hd : decode bs pc = .ok (.arraylength, 1)) (hp : pc + 1 = pc') (hv : n.toInt32 = v)
    (hr : OG p.tables e below P (T.setTop (mkF m pc' Ls (.int v :: rest)))) : OG p.tables e below P (T.setTop (mkF m pc Ls (.ref a :: rest))) := by
  subst hp hv
  obtain ⟨X, hx, hby, hml, hown, hZ, eT⟩ := B
  obtain ⟨cl, A, S, hn, H⟩ := A
  exact hr.of fun t k => X.arraylength hx (by rw [eT]; exact A.1) (State.isArrayOf_alike hZ.alike A.2.1) (g := mkF m pc Ls (.ref a :: rest)) rfl rfl (hb hby hd) t (by rw [S]; exact k)
theorem o_alenJ (B : Bx own bs ml Z p l e R s m args below meth c T h locs cells slots) (pc pc' : Nat) {g : Nat → Int64} (A : AJ Z h a n g) (v : Int32) (hd : decode bs pc = .ok (.arraylength, 1)) (hp : pc + 1 = pc') (hv : n.toInt32 = v)
    (hr : OG p.tables e below P (T.setTop (mkF m pc' Ls (.int v :: rest)))) : OG p.tables e below P (T.setTop (mkF m pc Ls (.ref a :: rest))) := by
  subst hp hv
  obtain ⟨X, hx, hby, hml, hown, hZ, eT⟩ := B
  obtain ⟨cl, A, S, hn, H⟩ := A
  exact hr.of fun t k => X.arraylength hx (by rw [eT]; exact A.1) (State.isArrayOf_alike hZ.alike A.2.1) (g := mkF m pc Ls (.ref a :: rest)) rfl rfl (hb hby hd) t (by rw [S]; exact k)
theorem o_iastore (B : Bx own bs ml Z p l e R s m args below meth c T h locs cells slots) (N : Fr n0 locs) (ge : n0 ≤ a) (pc pc' : Nat) {g : Nat → Int32} (A : AI Z h a .int n g) {j : Int32} {x : Int32} (i : Nat) (y : Int32) (hd : decode bs pc = .ok (.iastore, 1)) (hp : pc + 1 = pc') (h0 : ¬ j < 0) (hj : j.toNatClampNeg = i) (hi : i < n) (hy : x = y) :
    ∃ T' h' L', Bx own bs ml Z p l e R s m args below meth c T' h' L' cells slots ∧ Fr n0 L' ∧ Wr h h' a i (.int y) ∧ AI Z h' a .int n (fun j => if j = i then y else g j) ∧ ∀ {P : Outcome → State → Prop}, OG p.tables e below P (T'.setTop (mkF m pc' Ls rest)) → OG p.tables e below P (T.setTop (mkF m pc Ls (.int x :: .int j :: .ref a :: rest))) := by
  subst hp hj hy
  obtain ⟨X, hx, hby, hml, hown, hZ, eT⟩ := B
  have A' := A
  obtain ⟨cl, A, S, hn, H⟩ := A
  obtain ⟨T', h', X', e', W, st⟩ := stI X hx hZ eT A (in_of S h0 rfl hi) (g := mkF m pc Ls (.int x :: .int j :: .ref a :: rest)) rfl rfl (hb hby hd)
  exact ⟨T', h', _, ⟨X', hx, hby, hml, hown, hZ, e'⟩, Fr.snoc X' N ge, W, A'.set W, fun k => k.of st⟩
theorem o_castore (B : Bx own bs ml Z p l e R s m args below meth c T h locs cells slots) (N : Fr n0 locs) (ge : n0 ≤ a) (pc pc' : Nat) {g : Nat → Int32} (A : AI Z h a .char n g) {j : Int32} {x : Int32} (i : Nat) (y : Int32) (hd : decode bs pc = .ok (.castore, 1)) (hp : pc + 1 = pc') (h0 : ¬ j < 0) (hj : j.toNatClampNeg = i) (hi : i < n) (hy : nar .char x = y) :
    ∃ T' h' L', Bx own bs ml Z p l e R s m args below meth c T' h' L' cells slots ∧ Fr n0 L' ∧ Wr h h' a i (.int y) ∧ AI Z h' a .char n (fun j => if j = i then y else g j) ∧ ∀ {P : Outcome → State → Prop}, OG p.tables e below P (T'.setTop (mkF m pc' Ls rest)) → OG p.tables e below P (T.setTop (mkF m pc Ls (.int x :: .int j :: .ref a :: rest))) := by
  subst hp hj hy
  obtain ⟨X, hx, hby, hml, hown, hZ, eT⟩ := B
  have A' := A
  obtain ⟨cl, A, S, hn, H⟩ := A
  obtain ⟨T', h', X', e', W, st⟩ := stC X hx hZ eT A (in_of S h0 rfl hi) (g := mkF m pc Ls (.int x :: .int j :: .ref a :: rest)) rfl rfl (hb hby hd)
  exact ⟨T', h', _, ⟨X', hx, hby, hml, hown, hZ, e'⟩, Fr.snoc X' N ge, W, A'.set W, fun k => k.of st⟩
theorem o_bastore (B : Bx own bs ml Z p l e R s m args below meth c T h locs cells slots) (N : Fr n0 locs) (ge : n0 ≤ a) (pc pc' : Nat) {g : Nat → Int32} (A : AI Z h a .byte n g) {j : Int32} {x : Int32} (i : Nat) (y : Int32) (hd : decode bs pc = .ok (.bastore, 1)) (hp : pc + 1 = pc') (h0 : ¬ j < 0) (hj : j.toNatClampNeg = i) (hi : i < n) (hy : nar .byte x = y) :
    ∃ T' h' L', Bx own bs ml Z p l e R s m args below meth c T' h' L' cells slots ∧ Fr n0 L' ∧ Wr h h' a i (.int y) ∧ AI Z h' a .byte n (fun j => if j = i then y else g j) ∧ ∀ {P : Outcome → State → Prop}, OG p.tables e below P (T'.setTop (mkF m pc' Ls rest)) → OG p.tables e below P (T.setTop (mkF m pc Ls (.int x :: .int j :: .ref a :: rest))) := by
  subst hp hj hy
  obtain ⟨X, hx, hby, hml, hown, hZ, eT⟩ := B
  have A' := A
  obtain ⟨cl, A, S, hn, H⟩ := A
  obtain ⟨T', h', X', e', W, st⟩ := stB X hx hZ eT A (in_of S h0 rfl hi) (g := mkF m pc Ls (.int x :: .int j :: .ref a :: rest)) rfl rfl (hb hby hd)
  exact ⟨T', h', _, ⟨X', hx, hby, hml, hown, hZ, e'⟩, Fr.snoc X' N ge, W, A'.set W, fun k => k.of st⟩
theorem o_zastore (B : Bx own bs ml Z p l e R s m args below meth c T h locs cells slots) (N : Fr n0 locs) (ge : n0 ≤ a) (pc pc' : Nat) {g : Nat → Int32} (A : AI Z h a .boolean n g) {j : Int32} {x : Int32} (i : Nat) (y : Int32) (hd : decode bs pc = .ok (.bastore, 1)) (hp : pc + 1 = pc') (h0 : ¬ j < 0) (hj : j.toNatClampNeg = i) (hi : i < n) (hy : nar .boolean x = y) :
    ∃ T' h' L', Bx own bs ml Z p l e R s m args below meth c T' h' L' cells slots ∧ Fr n0 L' ∧ Wr h h' a i (.int y) ∧ AI Z h' a .boolean n (fun j => if j = i then y else g j) ∧ ∀ {P : Outcome → State → Prop}, OG p.tables e below P (T'.setTop (mkF m pc' Ls rest)) → OG p.tables e below P (T.setTop (mkF m pc Ls (.int x :: .int j :: .ref a :: rest))) := by
  subst hp hj hy
  obtain ⟨X, hx, hby, hml, hown, hZ, eT⟩ := B
  have A' := A
  obtain ⟨cl, A, S, hn, H⟩ := A
  obtain ⟨T', h', X', e', W, st⟩ := stZ X hx hZ eT A (in_of S h0 rfl hi) (g := mkF m pc Ls (.int x :: .int j :: .ref a :: rest)) rfl rfl (hb hby hd)
  exact ⟨T', h', _, ⟨X', hx, hby, hml, hown, hZ, e'⟩, Fr.snoc X' N ge, W, A'.set W, fun k => k.of st⟩
theorem o_lastore (B : Bx own bs ml Z p l e R s m args below meth c T h locs cells slots) (N : Fr n0 locs) (ge : n0 ≤ a) (pc pc' : Nat) {g : Nat → Int64} (A : AJ Z h a n g) {j : Int32} {x : Int64} (i : Nat) (y : Int64) (hd : decode bs pc = .ok (.lastore, 1)) (hp : pc + 1 = pc') (h0 : ¬ j < 0) (hj : j.toNatClampNeg = i) (hi : i < n) (hy : x = y) :
    ∃ T' h' L', Bx own bs ml Z p l e R s m args below meth c T' h' L' cells slots ∧ Fr n0 L' ∧ Wr h h' a i (.long y) ∧ AJ Z h' a n (fun j => if j = i then y else g j) ∧ ∀ {P : Outcome → State → Prop}, OG p.tables e below P (T'.setTop (mkF m pc' Ls rest)) → OG p.tables e below P (T.setTop (mkF m pc Ls (.long x :: .int j :: .ref a :: rest))) := by
  subst hp hj hy
  obtain ⟨X, hx, hby, hml, hown, hZ, eT⟩ := B
  have A' := A
  obtain ⟨cl, A, S, hn, H⟩ := A
  obtain ⟨T', h', X', e', W, st⟩ := stJ X hx hZ eT A (in_of S h0 rfl hi) (g := mkF m pc Ls (.long x :: .int j :: .ref a :: rest)) rfl rfl (hb hby hd)
  exact ⟨T', h', _, ⟨X', hx, hby, hml, hown, hZ, e'⟩, Fr.snoc X' N ge, W, A'.set W, fun k => k.of st⟩
theorem o_newI (B : Bx own bs ml Z p l e R s m args below meth c T h locs cells slots) (pc pc' : Nat) {aty : ArrayType} {ty : FieldType} {z : Int32} (k cap : Nat) (w : (Cond.arrayClass (newarray.typeOf aty)).before a0 Z = true) (hd : decode bs pc = .ok (.newarray aty, 2)) (hp : pc + 2 = pc') (hty : newarray.typeOf aty = ty) (hdv : defaultValue ty = .int 0) (hz : ¬ z < 0) (hk : z.toNatClampNeg = k) (hcap : k ≤ cap) (hb8 : cap * 8 ≤ 536870912) (hc : cells + 1 ≤ R.cells) (hl : slots + cap ≤ R.slots) :
    ∃ a T' h', a = h.size ∧ Bx own bs ml Z p l e R s m args below meth c T' h' locs (cells + 1) (slots + cap) ∧ Ext h h' ∧ AI Z h' a ty k (fun _ => 0) ∧ ∀ {P : Outcome → State → Prop}, OG p.tables e below P (T'.setTop (mkF m pc' Ls (.ref a :: rest))) → OG p.tables e below P (T.setTop (mkF m pc Ls (.int z :: rest))) := by
  subst hp hk
  obtain ⟨X, hx, hby, hml, hown, hZ, eT⟩ := B
  obtain ⟨T', h', cA, X', e', E, A, st⟩ := newP X hx hZ w eT (g := mkF m pc Ls (.int z :: rest)) rfl (hb hby hd) rfl hz (cap := cap) hcap hb8 hc hl
  rw [hty] at A
  refine ⟨h.size, T', h', rfl, ⟨X', hx, hby, hml, hown, hZ, e'⟩, E, ⟨_, A, sz_new _ _ _, (back32 hz).2, fun j hj => ?_⟩, fun k => k.of st⟩
  simp [newA, hj, hdv]
theorem o_newJ (B : Bx own bs ml Z p l e R s m args below meth c T h locs cells slots) (pc pc' : Nat) {aty : ArrayType} {z : Int32} (k cap : Nat) (w : (Cond.arrayClass (newarray.typeOf aty)).before a0 Z = true) (hd : decode bs pc = .ok (.newarray aty, 2)) (hp : pc + 2 = pc') (hty : newarray.typeOf aty = .long) (hz : ¬ z < 0) (hk : z.toNatClampNeg = k) (hcap : k ≤ cap) (hb8 : cap * 8 ≤ 536870912) (hc : cells + 1 ≤ R.cells) (hl : slots + cap ≤ R.slots) :
    ∃ a T' h', a = h.size ∧ Bx own bs ml Z p l e R s m args below meth c T' h' locs (cells + 1) (slots + cap) ∧ Ext h h' ∧ AJ Z h' a k (fun _ => 0) ∧ ∀ {P : Outcome → State → Prop}, OG p.tables e below P (T'.setTop (mkF m pc' Ls (.ref a :: rest))) → OG p.tables e below P (T.setTop (mkF m pc Ls (.int z :: rest))) := by
  subst hp hk
  obtain ⟨X, hx, hby, hml, hown, hZ, eT⟩ := B
  obtain ⟨T', h', cA, X', e', E, A, st⟩ := newP X hx hZ w eT (g := mkF m pc Ls (.int z :: rest)) rfl (hb hby hd) rfl hz (cap := cap) hcap hb8 hc hl
  rw [hty] at A
  refine ⟨h.size, T', h', rfl, ⟨X', hx, hby, hml, hown, hZ, e'⟩, E, ⟨_, A, sz_new _ _ _, (back32 hz).2, fun j hj => ?_⟩, fun k => k.of st⟩
  simp [newA, hj, defaultValue]
theorem o_getfield (B : Bx own bs ml Z p l e R s m args below meth c T h locs cells slots) {R0 O f d host : String} {index : Nat} {v : Value} (pc pc' : Nat) (hd : decode bs pc = .ok (.getfield index, 3)) (hp : pc + 3 = pc') (w : (Cond.fieldLink own index R0 f d).before a0 Z = true ∨ (Cond.fieldLinkNest own index R0 f d host).before a0 Z = true) (via : Via Z R0 O f d) (F : Fld Z h a O f d v) :
    ∃ T', Bx own bs ml Z p l e R s m args below meth c T' h locs cells slots ∧ ∀ {P : Outcome → State → Prop}, OG p.tables e below P (T'.setTop (mkF m pc' Ls (v :: rest))) → OG p.tables e below P (T.setTop (mkF m pc Ls (.ref a :: rest))) := by
  subst hp
  obtain ⟨X, hx, hby, hml, hown, hZ, eT⟩ := B
  obtain ⟨T', X', e', st⟩ := getF X hx hZ hown w via eT F (g := mkF m pc Ls (.ref a :: rest)) rfl rfl (hb hby hd)
  exact ⟨T', ⟨X', hx, hby, hml, hown, hZ, e'⟩, fun k => k.of st⟩
theorem o_putfield (B : Bx own bs ml Z p l e R s m args below meth c T h locs cells slots) (N : Fr n0 locs) (ge : n0 ≤ a) {R0 O f d host C : String} {index kk : Nat} {v old : Value} {ty : FieldType} (pc pc' : Nat) (hd : decode bs pc = .ok (.putfield index, 3)) (hp : pc + 3 = pc') (w : (Cond.fieldLink own index R0 f d).before a0 Z = true ∨ (Cond.fieldLinkNest own index R0 f d host).before a0 Z = true) (via : Via Z R0 O f d) (F : Fld Z h a O f d old) (E : Exa Z h a C) (L : (Cond.lays C O f d).before a0 Z = true ∨ ((Cond.laysFinal C O f d).before a0 Z = true ∧ own = O ∧ meth.name = "<init>")) (wi : (Cond.instantiable C kk).before a0 Z = true) (hty : parseFieldDescriptor d = some ty) (hn : narrow ty v = v) (hf : fits ty v = true) :
    ∃ T' h' L', Bx own bs ml Z p l e R s m args below meth c T' h' L' cells slots ∧ Fr n0 L' ∧ Wr h h' a (Jvm.RoadKit.slotOf Z O f d) v ∧ ∀ {P : Outcome → State → Prop}, OG p.tables e below P (T'.setTop (mkF m pc' Ls rest)) → OG p.tables e below P (T.setTop (mkF m pc Ls (v :: .ref a :: rest))) := by
  subst hp
  obtain ⟨X, hx, hby, hml, hown, hZ, eT⟩ := B
  obtain ⟨T', h', X', e', W, st⟩ := putF X hx hZ hown w via eT F E L wi hty hn hf (g := mkF m pc Ls (v :: .ref a :: rest)) rfl rfl (hb hby hd)
  exact ⟨T', h', _, ⟨X', hx, hby, hml, hown, hZ, e'⟩, Fr.snoc X' N ge, W, fun k => k.of st⟩
theorem o_new (B : Bx own bs ml Z p l e R s m args below meth c T h locs cells slots) {C : String} {index : Nat} (pc pc' : Nat) (hd : decode bs pc = .ok (.new index, 3)) (hp : pc + 3 = pc') (w : (Cond.classLink own index C).before a0 Z = true) (wi : (Cond.instantiable C n).before a0 Z = true) (wz : (Cond.initialized C).before a0 Z = true) (hc : cells + 1 ≤ R.cells) (hl : slots + n ≤ R.slots) :
    ∃ a T' h', a = h.size ∧ Bx own bs ml Z p l e R s m args below meth c T' h' locs (cells + 1) (slots + n) ∧ Ext h h' ∧ Exa Z h' a C ∧ (∀ {O nm d : String} {ty : FieldType}, Laid Z a0 C O nm d → parseFieldDescriptor d = some ty → Fld Z h' a O nm d (defaultValue ty)) ∧ ∀ {P : Outcome → State → Prop}, OG p.tables e below P (T'.setTop (mkF m pc' Ls (.ref a :: rest))) → OG p.tables e below P (T.setTop (mkF m pc Ls rest)) := by
  subst hp
  obtain ⟨X, hx, hby, hml, hown, hZ, eT⟩ := B
  obtain ⟨T', h', X', e', E, A, D, -, st⟩ := newO X hx hZ hown w wi wz eT (g := mkF m pc Ls rest) rfl (hb hby hd) hc hl
  exact ⟨h.size, T', h', rfl, ⟨X', hx, hby, hml, hown, hZ, e'⟩, E, A, D, fun k => k.of st⟩
theorem o_initO (B : Bx own bs ml Z p l e R s m args below meth c T h locs cells slots) {index : Nat} (pc pc' : Nat) (hd : decode bs pc = .ok (.invokespecial index, 3)) (hp : pc + 3 = pc') (w1 : (Cond.methodLink own index Lib.objectInit).before a0 Z = true) (w2 : (Cond.instanceMethod Lib.objectInit).before a0 Z = true) (w3 : (Cond.code Lib.objectInit ⟨#[0xb1]⟩ 1 none).before a0 Z = true) (hsz : Ls.size = ml) (W : Nat) (hW : (rest.map fun v => v.category).sum ≤ W) (hf : 1 ≤ R.frames) (hl : W + 12 ≤ R.locals) :
    ∃ T', Bx own bs ml Z p l e R s m args below meth c T' h locs cells slots ∧ ∀ {P : Outcome → State → Prop}, OG p.tables e below P (T'.setTop (mkF m pc' Ls rest)) → OG p.tables e below P (T.setTop (mkF m pc Ls (.ref a :: rest))) := by
  subst hp
  obtain ⟨X, hx, hby, hml, hown, hZ, eT⟩ := B
  obtain ⟨T', X', e', st⟩ := initO X hx hZ hown w1 w2 w3 eT (g := mkF m pc Ls (.ref a :: rest)) rfl (by rw [hml]; exact hsz) rfl (hb hby hd) hf (W := W) (by simpa using hW) hl
  exact ⟨T', ⟨X', hx, hby, hml, hown, hZ, e'⟩, fun k => k.of st⟩
theorem o_callN {index : Nat} {y : MethodName} {bytes : ByteArray} {maxL : Nat} {rm : Room} {as' : Array Value} {Q : Option Value → Heap → List Loc → Prop} {ps : List FieldType} {rt : Option FieldType}
    (B : Bx own bs ml Z p l e R s m args below meth c T h locs cells slots) (pc pc' : Nat) (hd : decode bs pc = .ok (.invokespecial index, 3)) (hp : pc + 3 = pc') (hy1 : y.name = "<init>")
    (w1 : (Cond.methodLink own index y).before a0 Z = true) (w2 : (Cond.instanceMethod y).before a0 Z = true) (w3 : (Cond.initialized y.cls).before a0 Z = true) (w4 : (Cond.code y bytes maxL none).before a0 Z = true) (hy : y.cls ≠ "java/lang/invoke/MethodHandle" ∧ y.cls ≠ "java/lang/invoke/VarHandle")
    (hM : Met l Z y bytes maxL none rm as' h Q) (W : Nat) (argsL rest : List Value) (hpd : parseMethodDescriptor y.desc = some ⟨ps, rt⟩) (hlen : argsL.length = ps.length) (has : (.ref a :: argsL).toArray = as') {st : List Value} (hst : st = argsL.reverse ++ .ref a :: rest) (hsz : Ls.size = ml)
    (hW : (rest.map fun v => v.category).sum ≤ W) (hf : rm.frames + 1 ≤ R.frames) (hl : W + (maxL + 11) + rm.locals ≤ R.locals) (hcl : cells + rm.cells ≤ R.cells) (hsl : slots + rm.slots ≤ R.slots) :
    ∃ v T' L, Bx own bs ml Z p l e R s m args below meth c T' T'.heap (locs ++ L) (cells + rm.cells) (slots + rm.slots) ∧ Q v T'.heap L ∧
      ∀ {P : Outcome → State → Prop}, OG p.tables e below P (T'.setTop (mkF m pc' Ls (v.toList ++ rest))) → OG p.tables e below P (T.setTop (mkF m pc Ls st)) := by
  subst hp hst
  obtain ⟨X, hx, hby, hml, hown, hZ, eT⟩ := B
  obtain ⟨v, vm1, ⟨T', L', k', n'⟩, -, X', ⟨Lc, hQ, l', y', z'⟩, st⟩ := X.specialBack hx (y := y) hy1 hown (mvT hZ w1) (mvT hZ w2) (mvT hZ w4) hy (backOf (W := W) hM hZ w4 w3 hf hl) (g := mkF m pc Ls (argsL.reverse ++ .ref a :: rest)) rfl (by rw [hml]; exact hsz) (Steps.refl _) (a := a) (argsL := argsL) (rest := rest) (lenOf hpd hlen) rfl (by simpa using hW) (hb hby hd) (fun _ _ => ⟨has, eT, hcl, hsl⟩)
  dsimp only [Pt.U, Pt.locs, Pt.cells, Pt.slots] at X' l' y' z' st hQ
  subst l' y' z'
  exact ⟨v, T', Lc, ⟨X', hx, hby, hml, hown, hZ, rfl⟩, hQ, fun k => k.of fun t q => st.trans q⟩
theorem o_callV {index : Nat} {y : MethodName} {C : String} {bytes : ByteArray} {maxL : Nat} {ret : Option FieldType} {rm : Room} {as' : Array Value} {Q : Option Value → Heap → List Loc → Prop} {ps : List FieldType} {rt : Option FieldType}
    (B : Bx own bs ml Z p l e R s m args below meth c T h locs cells slots) (pc pc' : Nat) (hd : decode bs pc = .ok (.invokevirtual index, 3)) (hp : pc + 3 = pc')
    (w1 : (Cond.methodLink own index y).before a0 Z = true) (w2 : (Cond.declares y).before a0 Z = true) (w5 : (Cond.selects C y y).before a0 Z = true) (w6 : (Cond.instanceMethod y).before a0 Z = true) (w3 : (Cond.initialized y.cls).before a0 Z = true) (w4 : (Cond.code y bytes maxL ret).before a0 Z = true) (hy : y.cls ≠ "java/lang/invoke/MethodHandle" ∧ y.cls ≠ "java/lang/invoke/VarHandle") (E : Exa Z h a C)
    (hM : Met l Z y bytes maxL ret rm as' h Q) (W : Nat) (argsL rest : List Value) (hpd : parseMethodDescriptor y.desc = some ⟨ps, rt⟩) (hlen : argsL.length = ps.length) (has : (.ref a :: argsL).toArray = as') {st : List Value} (hst : st = argsL.reverse ++ .ref a :: rest) (hsz : Ls.size = ml)
    (hW : (rest.map fun v => v.category).sum ≤ W) (hf : rm.frames + 1 ≤ R.frames) (hl : W + (maxL + 11) + rm.locals ≤ R.locals) (hcl : cells + rm.cells ≤ R.cells) (hsl : slots + rm.slots ≤ R.slots) :
    ∃ v T' L, Bx own bs ml Z p l e R s m args below meth c T' T'.heap (locs ++ L) (cells + rm.cells) (slots + rm.slots) ∧ Q v T'.heap L ∧
      ∀ {P : Outcome → State → Prop}, OG p.tables e below P (T'.setTop (mkF m pc' Ls (v.toList ++ rest))) → OG p.tables e below P (T.setTop (mkF m pc Ls st)) := by
  subst hp hst
  obtain ⟨X, hx, hby, hml, hown, hZ, eT⟩ := B
  obtain ⟨cq, kq, qa, qb, qc⟩ := isOf hZ eT E
  obtain ⟨v, vm1, ⟨T', L', k', n'⟩, -, X', ⟨Lc, hQ, l', y', z'⟩, st⟩ := X.virtualBack hx (y := y) (z := y) hown (mvT hZ w1) (mvT hZ w2) (notFace_of_selects (args := #[]) (mvT hZ w5)) (mvT hZ w5) (mvT hZ w6) hy (backOf (W := W) hM hZ w4 w3 hf hl) qa qc (g := mkF m pc Ls (argsL.reverse ++ .ref a :: rest)) rfl (by rw [hml]; exact hsz) (Steps.refl _) (argsL := argsL) (rest := rest) (lenOf hpd hlen) rfl (by simpa using hW) (hb hby hd) (fun _ _ => ⟨has, eT, hcl, hsl⟩)
  dsimp only [Pt.U, Pt.locs, Pt.cells, Pt.slots] at X' l' y' z' st hQ
  subst l' y' z'
  exact ⟨v, T', Lc, ⟨X', hx, hby, hml, hown, hZ, rfl⟩, hQ, fun k => k.of fun t q => st.trans q⟩
theorem o_callVP {index : Nat} {y : MethodName} {C : String} {bytes : ByteArray} {maxL : Nat} {ret : Option FieldType} {fr lo : Nat} {as' : Array Value} {r : Value} {ps : List FieldType} {rt : Option FieldType}
    (B : Bx own bs ml Z p l e R s m args below meth c T h locs cells slots) (pc pc' : Nat) (hd : decode bs pc = .ok (.invokevirtual index, 3)) (hp : pc + 3 = pc')
    (w1 : (Cond.methodLink own index y).before a0 Z = true) (w2 : (Cond.declares y).before a0 Z = true) (w5 : (Cond.selects C y y).before a0 Z = true) (w6 : (Cond.instanceMethod y).before a0 Z = true) (w3 : (Cond.initialized y.cls).before a0 Z = true) (w4 : (Cond.code y bytes maxL ret).before a0 Z = true) (hy : y.cls ≠ "java/lang/invoke/MethodHandle" ∧ y.cls ≠ "java/lang/invoke/VarHandle") (E : Exa Z h a C)
    (hM : Met l Z y bytes maxL ret ({ frames := fr, cells := 0, slots := 0, locals := lo } : Room) as' h (Pu (some r) h)) (W : Nat) (argsL rest : List Value) (hpd : parseMethodDescriptor y.desc = some ⟨ps, rt⟩) (hlen : argsL.length = ps.length) (has : (.ref a :: argsL).toArray = as') {st : List Value} (hst : st = argsL.reverse ++ .ref a :: rest) (hsz : Ls.size = ml)
    (hW : (rest.map fun v => v.category).sum ≤ W) (hf : fr + 1 ≤ R.frames) (hl : W + (maxL + 11) + lo ≤ R.locals) (hcl : cells ≤ R.cells) (hsl : slots ≤ R.slots) :
    ∃ T', Bx own bs ml Z p l e R s m args below meth c T' h locs cells slots ∧
      ∀ {P : Outcome → State → Prop}, OG p.tables e below P (T'.setTop (mkF m pc' Ls (r :: rest))) → OG p.tables e below P (T.setTop (mkF m pc Ls st)) := by
  obtain ⟨v, T', L, B', ⟨rfl, rfl, hh⟩, st⟩ := o_callV B pc pc' hd hp w1 w2 w5 w6 w3 w4 hy E hM W argsL rest hpd hlen has hst hsz hW hf hl hcl hsl
  rw [hh, List.append_nil] at B'
  exact ⟨T', B', st⟩
theorem o_callNP {index : Nat} {y : MethodName} {bytes : ByteArray} {maxL : Nat} {fr lo : Nat} {as' : Array Value} {ps : List FieldType} {rt : Option FieldType}
    (B : Bx own bs ml Z p l e R s m args below meth c T h locs cells slots) (pc pc' : Nat) (hd : decode bs pc = .ok (.invokespecial index, 3)) (hp : pc + 3 = pc') (hy1 : y.name = "<init>")
    (w1 : (Cond.methodLink own index y).before a0 Z = true) (w2 : (Cond.instanceMethod y).before a0 Z = true) (w3 : (Cond.initialized y.cls).before a0 Z = true) (w4 : (Cond.code y bytes maxL none).before a0 Z = true) (hy : y.cls ≠ "java/lang/invoke/MethodHandle" ∧ y.cls ≠ "java/lang/invoke/VarHandle")
    (hM : Met l Z y bytes maxL none ({ frames := fr, cells := 0, slots := 0, locals := lo } : Room) as' h (Pu none h)) (W : Nat) (argsL rest : List Value) (hpd : parseMethodDescriptor y.desc = some ⟨ps, rt⟩) (hlen : argsL.length = ps.length) (has : (.ref a :: argsL).toArray = as') {st : List Value} (hst : st = argsL.reverse ++ .ref a :: rest) (hsz : Ls.size = ml)
    (hW : (rest.map fun v => v.category).sum ≤ W) (hf : fr + 1 ≤ R.frames) (hl : W + (maxL + 11) + lo ≤ R.locals) (hcl : cells ≤ R.cells) (hsl : slots ≤ R.slots) :
    ∃ T', Bx own bs ml Z p l e R s m args below meth c T' h locs cells slots ∧
      ∀ {P : Outcome → State → Prop}, OG p.tables e below P (T'.setTop (mkF m pc' Ls rest)) → OG p.tables e below P (T.setTop (mkF m pc Ls st)) := by
  obtain ⟨v, T', L, B', ⟨rfl, rfl, hh⟩, st⟩ := o_callN B pc pc' hd hp hy1 w1 w2 w3 w4 hy hM W argsL rest hpd hlen has hst hsz hW hf hl hcl hsl
  rw [hh, List.append_nil] at B'
  exact ⟨T', B', st⟩
end Walk2
def PB (lo hi : Int32) : Prop := 0 ≤ lo.toInt ∧ lo.toInt ≤ hi.toInt ∧ hi.toInt ≤ 100
theorem own_pv {lo hi : Int32} (h : PB lo hi) : ((hi - lo) + 1).toInt = hi.toInt - lo.toInt + 1 := by
  unfold PB at h
  have a := c_isub hi lo
  have b := rng32 (hi - lo)
  have c := c_iadd (hi - lo) 1
  have d := rng32 (hi - lo + 1)
  rw [show (1 : Int32).toInt = 1 by decide] at c
  omega
theorem own_pz {lo hi : Int32} (h : PB lo hi) : (hi - lo) + 1 ≠ 0 := by
  intro e
  have q := own_pv h
  unfold PB at h
  rw [e, Int32.toInt_zero] at q
  omega
theorem d1_0 : decode method_3_code 0 = .ok (.iload_n 0, 1) := by decide +kernel
theorem d1_1 : decode method_3_code 1 = .ok (.iload_n 2, 1) := by decide +kernel
theorem d1_2 : decode method_3_code 2 = .ok (.ldc 39, 2) := by decide +kernel
theorem d1_4 : decode method_3_code 4 = .ok (.iand, 1) := by decide +kernel
theorem d1_5 : decode method_3_code 5 = .ok (.iload_n 1, 1) := by decide +kernel
theorem d1_6 : decode method_3_code 6 = .ok (.iload_n 0, 1) := by decide +kernel
theorem d1_7 : decode method_3_code 7 = .ok (.isub, 1) := by decide +kernel
theorem d1_8 : decode method_3_code 8 = .ok (.iconst 1, 1) := by decide +kernel
theorem d1_9 : decode method_3_code 9 = .ok (.iadd, 1) := by decide +kernel
theorem d1_10 : decode method_3_code 10 = .ok (.irem, 1) := by decide +kernel
theorem d1_11 : decode method_3_code 11 = .ok (.iadd, 1) := by decide +kernel
theorem d1_12 : decode method_3_code 12 = .ok (.ireturn, 1) := by decide +kernel
theorem pl1 : plainFor (⟨"com/example/crosshatch/crosshatch/design/ParameterSetsAdvancePinLaw", "pick", "(III)I"⟩ : MethodName) = true := by first | exact plainFor_of_name (by first | (simp [plainName, overriddenIn]; done) | decide +kernel) | decide +kernel
def f1 (x0 : Int32) (x1 : Int32) (x2 : Int32) : Int32 := (x0 + ((x2 &&& (2147483647 : Int32)) % ((x1 - x0) + (1 : Int32))))
set_option maxRecDepth 65536 in
set_option maxHeartbeats 40000000 in
theorem rm1 (l : Launch) (Z : State) (a0 : Array Value) (hw : ∀ d ∈ tables_1, d.before a0 Z = true) (x0 : Int32) (x1 : Int32) (x2 : Int32) (h0 : Heap) (hp : PB x0 x1) :
    Met l Z (⟨"com/example/crosshatch/crosshatch/design/ParameterSetsAdvancePinLaw", "pick", "(III)I"⟩ : MethodName) method_3_code 3 (some .int) ({ frames := 0, cells := 0, slots := 0, locals := 0 } : Room) #[(.int x0), (.int x1), (.int x2)] h0 (Pu (some (.int (f1 x0 x1 x2))) h0) := by
  refine enter pl1 #[.val (.int x0), .val (.int x1), .val (.int x2)] rfl ?_
  intro p e s m below meth c T B hret hlk hnm
  · refine o_iloadN B 0 1 (v := x0) d1_0 rfl rfl ?_
    refine o_iloadN B 1 2 (v := x2) d1_1 rfl rfl ?_
    refine o_ldc B 2 4 d1_2 rfl (hw _ (List.mem_of_getElem? (i := 5) rfl)) ?_
    refine o_iand B 4 5 d1_4 rfl ?_
    refine o_iloadN B 5 6 (v := x1) d1_5 rfl rfl ?_
    refine o_iloadN B 6 7 (v := x0) d1_6 rfl rfl ?_
    refine o_isub B 7 8 d1_7 rfl ?_
    refine o_iconst B 8 9 (1 : Int32) d1_8 rfl (by decide) ?_
    refine o_iadd B 9 10 d1_9 rfl ?_
    refine o_irem B 10 11 d1_10 rfl (own_pz hp) ?_
    refine o_iadd B 11 12 d1_11 rfl ?_
    refine o_retI B 12 d1_12 hret hlk (by decide) (by decide) ⟨(congrArg (fun z => some (Value.int z)) (show f1 x0 x1 x2 = (x0 + ((x2 &&& (2147483647 : Int32)) % ((x1 - x0) + (1 : Int32)))) from rfl)).symm, rfl, rfl⟩
theorem d3_0 : decode method_8_code 0 = .ok (.iload_n 2, 1) := by decide +kernel
theorem d3_1 : decode method_8_code 1 = .ok (.ifCond .ne 5, 3) := by decide +kernel
theorem d3_4 : decode method_8_code 4 = .ok (.lconst 1, 1) := by decide +kernel
theorem d3_5 : decode method_8_code 5 = .ok (.lreturn, 1) := by decide +kernel
theorem d3_6 : decode method_8_code 6 = .ok (.lload_n 0, 1) := by decide +kernel
theorem d3_7 : decode method_8_code 7 = .ok (.iload_n 2, 1) := by decide +kernel
theorem d3_8 : decode method_8_code 8 = .ok (.i2l, 1) := by decide +kernel
theorem d3_9 : decode method_8_code 9 = .ok (.lcmp, 1) := by decide +kernel
theorem d3_10 : decode method_8_code 10 = .ok (.ifCond .ge 5, 3) := by decide +kernel
theorem d3_13 : decode method_8_code 13 = .ok (.lconst 0, 1) := by decide +kernel
theorem d3_14 : decode method_8_code 14 = .ok (.lreturn, 1) := by decide +kernel
theorem d3_15 : decode method_8_code 15 = .ok (.iload_n 2, 1) := by decide +kernel
theorem d3_16 : decode method_8_code 16 = .ok (.iconst 1, 1) := by decide +kernel
theorem d3_17 : decode method_8_code 17 = .ok (.if_icmp .ne 5, 3) := by decide +kernel
theorem d3_20 : decode method_8_code 20 = .ok (.lload_n 0, 1) := by decide +kernel
theorem d3_21 : decode method_8_code 21 = .ok (.lreturn, 1) := by decide +kernel
theorem d3_22 : decode method_8_code 22 = .ok (.iload_n 2, 1) := by decide +kernel
theorem d3_23 : decode method_8_code 23 = .ok (.iconst 2, 1) := by decide +kernel
theorem d3_24 : decode method_8_code 24 = .ok (.if_icmp .ne 13, 3) := by decide +kernel
theorem d3_27 : decode method_8_code 27 = .ok (.lload_n 0, 1) := by decide +kernel
theorem d3_28 : decode method_8_code 28 = .ok (.lload_n 0, 1) := by decide +kernel
theorem d3_29 : decode method_8_code 29 = .ok (.lconst 1, 1) := by decide +kernel
theorem d3_30 : decode method_8_code 30 = .ok (.lsub, 1) := by decide +kernel
theorem d3_31 : decode method_8_code 31 = .ok (.lmul, 1) := by decide +kernel
theorem d3_32 : decode method_8_code 32 = .ok (.ldc2_w 40, 3) := by decide +kernel
theorem d3_35 : decode method_8_code 35 = .ok (.ldiv, 1) := by decide +kernel
theorem d3_36 : decode method_8_code 36 = .ok (.lreturn, 1) := by decide +kernel
theorem d3_37 : decode method_8_code 37 = .ok (.iload_n 2, 1) := by decide +kernel
theorem d3_38 : decode method_8_code 38 = .ok (.iconst 3, 1) := by decide +kernel
theorem d3_39 : decode method_8_code 39 = .ok (.if_icmp .ne 19, 3) := by decide +kernel
theorem d3_42 : decode method_8_code 42 = .ok (.lload_n 0, 1) := by decide +kernel
theorem d3_43 : decode method_8_code 43 = .ok (.lload_n 0, 1) := by decide +kernel
theorem d3_44 : decode method_8_code 44 = .ok (.lconst 1, 1) := by decide +kernel
theorem d3_45 : decode method_8_code 45 = .ok (.lsub, 1) := by decide +kernel
theorem d3_46 : decode method_8_code 46 = .ok (.lmul, 1) := by decide +kernel
theorem d3_47 : decode method_8_code 47 = .ok (.lload_n 0, 1) := by decide +kernel
theorem d3_48 : decode method_8_code 48 = .ok (.ldc2_w 40, 3) := by decide +kernel
theorem d3_51 : decode method_8_code 51 = .ok (.lsub, 1) := by decide +kernel
theorem d3_52 : decode method_8_code 52 = .ok (.lmul, 1) := by decide +kernel
theorem d3_53 : decode method_8_code 53 = .ok (.ldc2_w 42, 3) := by decide +kernel
theorem d3_56 : decode method_8_code 56 = .ok (.ldiv, 1) := by decide +kernel
theorem d3_57 : decode method_8_code 57 = .ok (.lreturn, 1) := by decide +kernel
theorem d3_58 : decode method_8_code 58 = .ok (.lload_n 0, 1) := by decide +kernel
theorem d3_59 : decode method_8_code 59 = .ok (.lload_n 0, 1) := by decide +kernel
theorem d3_60 : decode method_8_code 60 = .ok (.lconst 1, 1) := by decide +kernel
theorem d3_61 : decode method_8_code 61 = .ok (.lsub, 1) := by decide +kernel
theorem d3_62 : decode method_8_code 62 = .ok (.lmul, 1) := by decide +kernel
theorem d3_63 : decode method_8_code 63 = .ok (.lload_n 0, 1) := by decide +kernel
theorem d3_64 : decode method_8_code 64 = .ok (.ldc2_w 40, 3) := by decide +kernel
theorem d3_67 : decode method_8_code 67 = .ok (.lsub, 1) := by decide +kernel
theorem d3_68 : decode method_8_code 68 = .ok (.lmul, 1) := by decide +kernel
theorem d3_69 : decode method_8_code 69 = .ok (.lload_n 0, 1) := by decide +kernel
theorem d3_70 : decode method_8_code 70 = .ok (.ldc2_w 44, 3) := by decide +kernel
theorem d3_73 : decode method_8_code 73 = .ok (.lsub, 1) := by decide +kernel
theorem d3_74 : decode method_8_code 74 = .ok (.lmul, 1) := by decide +kernel
theorem d3_75 : decode method_8_code 75 = .ok (.ldc2_w 46, 3) := by decide +kernel
theorem d3_78 : decode method_8_code 78 = .ok (.ldiv, 1) := by decide +kernel
theorem d3_79 : decode method_8_code 79 = .ok (.lreturn, 1) := by decide +kernel
theorem pl3 : plainFor (⟨"com/example/crosshatch/crosshatch/design/ParameterSetsAdvancePinLaw", "binom", "(JI)J"⟩ : MethodName) = true := by first | exact plainFor_of_name (by first | (simp [plainName, overriddenIn]; done) | decide +kernel) | decide +kernel
def f3 (x0 : Int64) (x1 : Int32) : Int64 := (if x1 = 0 then (1 : Int64) else (if x0 < x1.toInt64 then (0 : Int64) else (if x1 = (1 : Int32) then x0 else (if x1 = (2 : Int32) then ((x0 * (x0 - (1 : Int64))) / (2 : Int64)) else (if x1 = (3 : Int32) then (((x0 * (x0 - (1 : Int64))) * (x0 - (2 : Int64))) / (6 : Int64)) else ((((x0 * (x0 - (1 : Int64))) * (x0 - (2 : Int64))) * (x0 - (3 : Int64))) / (24 : Int64)))))))
set_option maxRecDepth 65536 in
set_option maxHeartbeats 40000000 in
theorem rm3 (l : Launch) (Z : State) (a0 : Array Value) (hw : ∀ d ∈ tables_1, d.before a0 Z = true) (x0 : Int64) (x1 : Int32) (h0 : Heap) :
    Met l Z (⟨"com/example/crosshatch/crosshatch/design/ParameterSetsAdvancePinLaw", "binom", "(JI)J"⟩ : MethodName) method_8_code 3 (some .long) ({ frames := 0, cells := 0, slots := 0, locals := 0 } : Room) #[(.long x0), (.int x1)] h0 (Pu (some (.long (f3 x0 x1))) h0) := by
  refine enter pl3 #[.val (.long x0), .second, .val (.int x1)] rfl ?_
  intro p e s m below meth c T B hret hlk hnm
  · refine o_iloadN B 0 1 (v := x1) d3_0 rfl rfl ?_
    by_cases k1 : x1 = 0
    · refine o_ifN B 1 4 d3_1 rfl (XT.i0_ne_f k1) ?_
      refine o_lconst B 4 5 (1 : Int64) d3_4 rfl (by decide) ?_
      refine o_retL B 5 d3_5 hret hlk (by decide) (by decide) ⟨(congrArg (fun z => some (Value.long z)) (show f3 x0 x1 = (1 : Int64) from (if_pos k1).trans (rfl))).symm, rfl, rfl⟩
    · refine o_ifY B 1 6 d3_1 (XT.i0_ne_t k1) (by decide) (by decide) ?_
      refine o_lloadN B 6 7 (v := x0) d3_6 rfl rfl ?_
      refine o_iloadN B 7 8 (v := x1) d3_7 rfl rfl ?_
      refine o_i2l B 8 9 d3_8 rfl ?_
      refine o_lcmp B 9 10 d3_9 rfl ?_
      by_cases k2 : x0 < x1.toInt64
      · refine o_ifN B 10 13 d3_10 rfl (XT.ll_ge_f k2) ?_
        refine o_lconst B 13 14 (0 : Int64) d3_13 rfl (by decide) ?_
        refine o_retL B 14 d3_14 hret hlk (by decide) (by decide) ⟨(congrArg (fun z => some (Value.long z)) (show f3 x0 x1 = (0 : Int64) from (if_neg k1).trans ((if_pos k2).trans (rfl)))).symm, rfl, rfl⟩
      · refine o_ifY B 10 15 d3_10 (XT.ll_ge_t k2) (by decide) (by decide) ?_
        refine o_iloadN B 15 16 (v := x1) d3_15 rfl rfl ?_
        refine o_iconst B 16 17 (1 : Int32) d3_16 rfl (by decide) ?_
        by_cases k3 : x1 = (1 : Int32)
        · refine o_icN B 17 20 d3_17 rfl (XT.ii_ne_f k3) ?_
          refine o_lloadN B 20 21 (v := x0) d3_20 rfl rfl ?_
          refine o_retL B 21 d3_21 hret hlk (by decide) (by decide) ⟨(congrArg (fun z => some (Value.long z)) (show f3 x0 x1 = x0 from (if_neg k1).trans ((if_neg k2).trans ((if_pos k3).trans (rfl))))).symm, rfl, rfl⟩
        · refine o_icY B 17 22 d3_17 (XT.ii_ne_t k3) (by decide) (by decide) ?_
          refine o_iloadN B 22 23 (v := x1) d3_22 rfl rfl ?_
          refine o_iconst B 23 24 (2 : Int32) d3_23 rfl (by decide) ?_
          by_cases k4 : x1 = (2 : Int32)
          · refine o_icN B 24 27 d3_24 rfl (XT.ii_ne_f k4) ?_
            refine o_lloadN B 27 28 (v := x0) d3_27 rfl rfl ?_
            refine o_lloadN B 28 29 (v := x0) d3_28 rfl rfl ?_
            refine o_lconst B 29 30 (1 : Int64) d3_29 rfl (by decide) ?_
            refine o_lsub B 30 31 d3_30 rfl ?_
            refine o_lmul B 31 32 d3_31 rfl ?_
            refine o_ldc2 B 32 35 d3_32 rfl (hw _ (List.mem_of_getElem? (i := 22) rfl)) ?_
            refine o_ldiv B 35 36 d3_35 rfl (by decide) ?_
            refine o_retL B 36 d3_36 hret hlk (by decide) (by decide) ⟨(congrArg (fun z => some (Value.long z)) (show f3 x0 x1 = ((x0 * (x0 - (1 : Int64))) / (2 : Int64)) from (if_neg k1).trans ((if_neg k2).trans ((if_neg k3).trans ((if_pos k4).trans (rfl)))))).symm, rfl, rfl⟩
          · refine o_icY B 24 37 d3_24 (XT.ii_ne_t k4) (by decide) (by decide) ?_
            refine o_iloadN B 37 38 (v := x1) d3_37 rfl rfl ?_
            refine o_iconst B 38 39 (3 : Int32) d3_38 rfl (by decide) ?_
            by_cases k5 : x1 = (3 : Int32)
            · refine o_icN B 39 42 d3_39 rfl (XT.ii_ne_f k5) ?_
              refine o_lloadN B 42 43 (v := x0) d3_42 rfl rfl ?_
              refine o_lloadN B 43 44 (v := x0) d3_43 rfl rfl ?_
              refine o_lconst B 44 45 (1 : Int64) d3_44 rfl (by decide) ?_
              refine o_lsub B 45 46 d3_45 rfl ?_
              refine o_lmul B 46 47 d3_46 rfl ?_
              refine o_lloadN B 47 48 (v := x0) d3_47 rfl rfl ?_
              refine o_ldc2 B 48 51 d3_48 rfl (hw _ (List.mem_of_getElem? (i := 22) rfl)) ?_
              refine o_lsub B 51 52 d3_51 rfl ?_
              refine o_lmul B 52 53 d3_52 rfl ?_
              refine o_ldc2 B 53 56 d3_53 rfl (hw _ (List.mem_of_getElem? (i := 28) rfl)) ?_
              refine o_ldiv B 56 57 d3_56 rfl (by decide) ?_
              refine o_retL B 57 d3_57 hret hlk (by decide) (by decide) ⟨(congrArg (fun z => some (Value.long z)) (show f3 x0 x1 = (((x0 * (x0 - (1 : Int64))) * (x0 - (2 : Int64))) / (6 : Int64)) from (if_neg k1).trans ((if_neg k2).trans ((if_neg k3).trans ((if_neg k4).trans ((if_pos k5).trans (rfl))))))).symm, rfl, rfl⟩
            · refine o_icY B 39 58 d3_39 (XT.ii_ne_t k5) (by decide) (by decide) ?_
              refine o_lloadN B 58 59 (v := x0) d3_58 rfl rfl ?_
              refine o_lloadN B 59 60 (v := x0) d3_59 rfl rfl ?_
              refine o_lconst B 60 61 (1 : Int64) d3_60 rfl (by decide) ?_
              refine o_lsub B 61 62 d3_61 rfl ?_
              refine o_lmul B 62 63 d3_62 rfl ?_
              refine o_lloadN B 63 64 (v := x0) d3_63 rfl rfl ?_
              refine o_ldc2 B 64 67 d3_64 rfl (hw _ (List.mem_of_getElem? (i := 22) rfl)) ?_
              refine o_lsub B 67 68 d3_67 rfl ?_
              refine o_lmul B 68 69 d3_68 rfl ?_
              refine o_lloadN B 69 70 (v := x0) d3_69 rfl rfl ?_
              refine o_ldc2 B 70 73 d3_70 rfl (hw _ (List.mem_of_getElem? (i := 26) rfl)) ?_
              refine o_lsub B 73 74 d3_73 rfl ?_
              refine o_lmul B 74 75 d3_74 rfl ?_
              refine o_ldc2 B 75 78 d3_75 rfl (hw _ (List.mem_of_getElem? (i := 27) rfl)) ?_
              refine o_ldiv B 78 79 d3_78 rfl (by decide) ?_
              refine o_retL B 79 d3_79 hret hlk (by decide) (by decide) ⟨(congrArg (fun z => some (Value.long z)) (show f3 x0 x1 = ((((x0 * (x0 - (1 : Int64))) * (x0 - (2 : Int64))) * (x0 - (3 : Int64))) / (24 : Int64)) from (if_neg k1).trans ((if_neg k2).trans ((if_neg k3).trans ((if_neg k4).trans ((if_neg k5).trans (rfl))))))).symm, rfl, rfl⟩
theorem d2_0 : decode prog_6_method_5_code 0 = .ok (.aload_n 0, 1) := by decide +kernel
theorem d2_1 : decode prog_6_method_5_code 1 = .ok (.arraylength, 1) := by decide +kernel
theorem d2_2 : decode prog_6_method_5_code 2 = .ok (.iconst 1, 1) := by decide +kernel
theorem d2_3 : decode prog_6_method_5_code 3 = .ok (.isub, 1) := by decide +kernel
theorem d2_4 : decode prog_6_method_5_code 4 = .ok (.istore_n 2, 1) := by decide +kernel
theorem d2_5 : decode prog_6_method_5_code 5 = .ok (.iload_n 2, 1) := by decide +kernel
theorem d2_6 : decode prog_6_method_5_code 6 = .ok (.ifCond .lt 21, 3) := by decide +kernel
theorem d2_9 : decode prog_6_method_5_code 9 = .ok (.aload_n 0, 1) := by decide +kernel
theorem d2_10 : decode prog_6_method_5_code 10 = .ok (.iload_n 2, 1) := by decide +kernel
theorem d2_11 : decode prog_6_method_5_code 11 = .ok (.iaload, 1) := by decide +kernel
theorem d2_12 : decode prog_6_method_5_code 12 = .ok (.iload_n 1, 1) := by decide +kernel
theorem d2_13 : decode prog_6_method_5_code 13 = .ok (.aload_n 0, 1) := by decide +kernel
theorem d2_14 : decode prog_6_method_5_code 14 = .ok (.arraylength, 1) := by decide +kernel
theorem d2_15 : decode prog_6_method_5_code 15 = .ok (.isub, 1) := by decide +kernel
theorem d2_16 : decode prog_6_method_5_code 16 = .ok (.iload_n 2, 1) := by decide +kernel
theorem d2_17 : decode prog_6_method_5_code 17 = .ok (.iadd, 1) := by decide +kernel
theorem d2_18 : decode prog_6_method_5_code 18 = .ok (.if_icmp .ne 9, 3) := by decide +kernel
theorem d2_21 : decode prog_6_method_5_code 21 = .ok (.iinc 2 (-1), 3) := by decide +kernel
theorem d2_24 : decode prog_6_method_5_code 24 = .ok (.goto (-19), 3) := by decide +kernel
theorem d2_27 : decode prog_6_method_5_code 27 = .ok (.iload_n 2, 1) := by decide +kernel
theorem d2_28 : decode prog_6_method_5_code 28 = .ok (.ifCond .ge 5, 3) := by decide +kernel
theorem d2_31 : decode prog_6_method_5_code 31 = .ok (.iconst (-1), 1) := by decide +kernel
theorem d2_32 : decode prog_6_method_5_code 32 = .ok (.ireturn, 1) := by decide +kernel
theorem d2_33 : decode prog_6_method_5_code 33 = .ok (.aload_n 0, 1) := by decide +kernel
theorem d2_34 : decode prog_6_method_5_code 34 = .ok (.iload_n 2, 1) := by decide +kernel
theorem d2_35 : decode prog_6_method_5_code 35 = .ok (.dup2, 1) := by decide +kernel
theorem d2_36 : decode prog_6_method_5_code 36 = .ok (.iaload, 1) := by decide +kernel
theorem d2_37 : decode prog_6_method_5_code 37 = .ok (.iconst 1, 1) := by decide +kernel
theorem d2_38 : decode prog_6_method_5_code 38 = .ok (.iadd, 1) := by decide +kernel
theorem d2_39 : decode prog_6_method_5_code 39 = .ok (.iastore, 1) := by decide +kernel
theorem d2_40 : decode prog_6_method_5_code 40 = .ok (.iload_n 2, 1) := by decide +kernel
theorem d2_41 : decode prog_6_method_5_code 41 = .ok (.iconst 1, 1) := by decide +kernel
theorem d2_42 : decode prog_6_method_5_code 42 = .ok (.iadd, 1) := by decide +kernel
theorem d2_43 : decode prog_6_method_5_code 43 = .ok (.istore_n 3, 1) := by decide +kernel
theorem d2_44 : decode prog_6_method_5_code 44 = .ok (.iload_n 3, 1) := by decide +kernel
theorem d2_45 : decode prog_6_method_5_code 45 = .ok (.aload_n 0, 1) := by decide +kernel
theorem d2_46 : decode prog_6_method_5_code 46 = .ok (.arraylength, 1) := by decide +kernel
theorem d2_47 : decode prog_6_method_5_code 47 = .ok (.if_icmp .ge 19, 3) := by decide +kernel
theorem d2_50 : decode prog_6_method_5_code 50 = .ok (.aload_n 0, 1) := by decide +kernel
theorem d2_51 : decode prog_6_method_5_code 51 = .ok (.iload_n 3, 1) := by decide +kernel
theorem d2_52 : decode prog_6_method_5_code 52 = .ok (.aload_n 0, 1) := by decide +kernel
theorem d2_53 : decode prog_6_method_5_code 53 = .ok (.iload_n 3, 1) := by decide +kernel
theorem d2_54 : decode prog_6_method_5_code 54 = .ok (.iconst 1, 1) := by decide +kernel
theorem d2_55 : decode prog_6_method_5_code 55 = .ok (.isub, 1) := by decide +kernel
theorem d2_56 : decode prog_6_method_5_code 56 = .ok (.iaload, 1) := by decide +kernel
theorem d2_57 : decode prog_6_method_5_code 57 = .ok (.iconst 1, 1) := by decide +kernel
theorem d2_58 : decode prog_6_method_5_code 58 = .ok (.iadd, 1) := by decide +kernel
theorem d2_59 : decode prog_6_method_5_code 59 = .ok (.iastore, 1) := by decide +kernel
theorem d2_60 : decode prog_6_method_5_code 60 = .ok (.iinc 3 1, 3) := by decide +kernel
theorem d2_63 : decode prog_6_method_5_code 63 = .ok (.goto (-19), 3) := by decide +kernel
theorem d2_66 : decode prog_6_method_5_code 66 = .ok (.iload_n 2, 1) := by decide +kernel
theorem d2_67 : decode prog_6_method_5_code 67 = .ok (.ireturn, 1) := by decide +kernel
theorem pl2 : plainFor (⟨"com/example/crosshatch/crosshatch/design/ParameterSets", "advance", "([II)I"⟩ : MethodName) = true := by first | exact plainFor_of_name (by first | (simp [plainName, overriddenIn]; done) | decide +kernel) | decide +kernel
def w2_1_1 (g : Nat → Int32) (x1 : Int32) : Nat → Int32 := fun j => if j = 0 then ((g 0) + (1 : Int32)) else g j
def f2_1 (g : Nat → Int32) (x1 : Int32) : Int32 := (if (g 0) = ((x1 - (1 : Int32)) + (0 : Int32)) then (-1 : Int32) else (0 : Int32))
def o2_1_0 (g : Nat → Int32) (x1 : Int32) : Nat → Int32 := (if (g 0) = ((x1 - (1 : Int32)) + (0 : Int32)) then g else (w2_1_1 g x1))
def Q2_1 (Z : State) (g : Nat → Int32) (x0 : Addr) (x1 : Int32) (h0 : Heap) (n0 : Nat) (v : Option Value) (h : Heap) (L : List Loc) : Prop := v = some (.int (f2_1 g x1)) ∧ Fr n0 L ∧ Keep h0 h [x0] ∧ AI Z h x0 .int 1 (o2_1_0 g x1)
set_option maxRecDepth 65536 in
set_option maxHeartbeats 40000000 in
theorem rm2_1 (l : Launch) (Z : State) (a0 : Array Value) (hw : ∀ d ∈ tables_1, d.before a0 Z = true) (g : Nat → Int32) (x0 : Addr) (x1 : Int32) (h0 : Heap) (n0 : Nat) (hz : n0 ≤ h0.size) (A0 : AI Z h0 x0 .int 1 g) (gw_x0 : n0 ≤ x0) :
    Met l Z (⟨"com/example/crosshatch/crosshatch/design/ParameterSets", "advance", "([II)I"⟩ : MethodName) prog_6_method_5_code 4 (some .int) ({ frames := 0, cells := 0, slots := 0, locals := 0 } : Room) #[(.ref x0), (.int x1)] h0 (Q2_1 Z g x0 x1 h0 n0) := by
  refine enter pl2 #[.val (.ref x0), .val (.int x1), .unset, .unset] rfl ?_
  intro p e s m below meth c T B hret hlk hnm
  have N0 := Fr.nil n0
  refine o_aloadN B 0 1 (v := (.ref x0)) d2_0 rfl rfl rfl ?_
  refine o_alenI B 1 2 A0 (1 : Int32) d2_1 rfl (by decide) ?_
  refine o_iconst B 2 3 (1 : Int32) d2_2 rfl (by decide) ?_
  refine o_isub B 3 4 d2_3 rfl ?_
  refine o_topI (show ((1 : Int32) - (1 : Int32)) = (0 : Int32) by decide) ?_
  refine o_istoreN B 4 5 (l' := #[.val (.ref x0), .val (.int x1), .val (.int (0 : Int32)), .unset]) d2_4 rfl rfl ?_
  refine o_iloadN B 5 6 (v := (0 : Int32)) d2_5 rfl rfl ?_
  refine o_ifN B 6 9 d2_6 rfl (XT.i0_lt_f (by decide)) ?_
  refine o_aloadN B 9 10 (v := (.ref x0)) d2_9 rfl rfl rfl ?_
  refine o_iloadN B 10 11 (v := (0 : Int32)) d2_10 rfl rfl ?_
  refine o_iaload B 11 12 A0 0 (g 0) d2_11 rfl (by decide) (by decide) (by decide) rfl ?_
  refine o_iloadN B 12 13 (v := x1) d2_12 rfl rfl ?_
  refine o_aloadN B 13 14 (v := (.ref x0)) d2_13 rfl rfl rfl ?_
  refine o_alenI B 14 15 A0 (1 : Int32) d2_14 rfl (by decide) ?_
  refine o_isub B 15 16 d2_15 rfl ?_
  refine o_iloadN B 16 17 (v := (0 : Int32)) d2_16 rfl rfl ?_
  refine o_iadd B 17 18 d2_17 rfl ?_
  by_cases k1 : (g 0) = ((x1 - (1 : Int32)) + (0 : Int32))
  · refine o_icN B 18 21 d2_18 rfl (XT.ii_ne_f k1) ?_
    refine o_iincC B 21 24 (l' := #[.val (.ref x0), .val (.int x1), .val (.int (-1 : Int32)), .unset]) (-1 : Int32) (-1 : Int32) d2_21 rfl (by decide) rfl (by decide) rfl ?_
    refine o_goto B 24 5 d2_24 (by decide) (by decide) ?_
    refine o_iloadN B 5 6 (v := (-1 : Int32)) d2_5 rfl rfl ?_
    refine o_ifY B 6 27 d2_6 (XT.i0_lt_t (by decide)) (by decide) (by decide) ?_
    refine o_iloadN B 27 28 (v := (-1 : Int32)) d2_27 rfl rfl ?_
    refine o_ifN B 28 31 d2_28 rfl (XT.i0_ge_f (by decide)) ?_
    refine o_iconst B 31 32 (-1 : Int32) d2_31 rfl (by decide) ?_
    refine o_retI B 32 d2_32 hret hlk (by decide) (by decide) ⟨(congrArg (fun z => some (Value.int z)) (show f2_1 g x1 = (-1 : Int32) from (if_pos k1).trans (rfl))).symm, N0, (Keep.refl h0 [x0]), (by rw [show (o2_1_0 g x1) = g from (if_pos k1).trans (rfl)]; exact A0)⟩
  · refine o_icY B 18 27 d2_18 (XT.ii_ne_t k1) (by decide) (by decide) ?_
    refine o_iloadN B 27 28 (v := (0 : Int32)) d2_27 rfl rfl ?_
    refine o_ifY B 28 33 d2_28 (XT.i0_ge_t (by decide)) (by decide) (by decide) ?_
    refine o_aloadN B 33 34 (v := (.ref x0)) d2_33 rfl rfl rfl ?_
    refine o_iloadN B 34 35 (v := (0 : Int32)) d2_34 rfl rfl ?_
    refine o_dup2 B 35 36 d2_35 rfl rfl rfl ?_
    refine o_iaload B 36 37 A0 0 (g 0) d2_36 rfl (by decide) (by decide) (by decide) rfl ?_
    refine o_iconst B 37 38 (1 : Int32) d2_37 rfl (by decide) ?_
    refine o_iadd B 38 39 d2_38 rfl ?_
    obtain ⟨T5, h5, L5, B5, N5, W5, Q5, c5⟩ := o_iastore B N0 gw_x0 39 40 A0 (j := (0 : Int32)) (x := ((g 0) + (1 : Int32))) 0 ((g 0) + (1 : Int32)) d2_39 rfl (by decide) (by decide) (by decide) rfl (Ls := #[.val (.ref x0), .val (.int x1), .val (.int (0 : Int32)), .unset]) (rest := [])
    have A5 : AI Z h5 x0 .int 1 (w2_1_1 g x1) := Q5
    refine c5 ?_
    refine o_iloadN B5 40 41 (v := (0 : Int32)) d2_40 rfl rfl ?_
    refine o_iconst B5 41 42 (1 : Int32) d2_41 rfl (by decide) ?_
    refine o_iadd B5 42 43 d2_42 rfl ?_
    refine o_topI (show ((0 : Int32) + (1 : Int32)) = (1 : Int32) by decide) ?_
    refine o_istoreN B5 43 44 (l' := #[.val (.ref x0), .val (.int x1), .val (.int (0 : Int32)), .val (.int (1 : Int32))]) d2_43 rfl rfl ?_
    refine o_iloadN B5 44 45 (v := (1 : Int32)) d2_44 rfl rfl ?_
    refine o_aloadN B5 45 46 (v := (.ref x0)) d2_45 rfl rfl rfl ?_
    refine o_alenI B5 46 47 A5 (1 : Int32) d2_46 rfl (by decide) ?_
    refine o_icY B5 47 66 d2_47 (XT.ii_ge_t (by decide)) (by decide) (by decide) ?_
    refine o_iloadN B5 66 67 (v := (0 : Int32)) d2_66 rfl rfl ?_
    refine o_retI B5 67 d2_67 hret hlk (by decide) (by decide) ⟨(congrArg (fun z => some (Value.int z)) (show f2_1 g x1 = (0 : Int32) from (if_neg k1).trans (rfl))).symm, N5, ((Keep.refl h0 [x0]).wr W5 (Or.inl (List.mem_of_getElem? (i := 0) rfl))), (by rw [show (o2_1_0 g x1) = (w2_1_1 g x1) from (if_neg k1).trans (rfl)]; exact A5)⟩
theorem d4_0 : decode method_6_code 0 = .ok (.aload_n 0, 1) := by decide +kernel
theorem d4_1 : decode method_6_code 1 = .ok (.arraylength, 1) := by decide +kernel
theorem d4_2 : decode method_6_code 2 = .ok (.istore_n 2, 1) := by decide +kernel
theorem d4_3 : decode method_6_code 3 = .ok (.aload_n 0, 1) := by decide +kernel
theorem d4_4 : decode method_6_code 4 = .ok (.iconst 0, 1) := by decide +kernel
theorem d4_5 : decode method_6_code 5 = .ok (.iaload, 1) := by decide +kernel
theorem d4_6 : decode method_6_code 6 = .ok (.ifCond .ge 5, 3) := by decide +kernel
theorem d4_9 : decode method_6_code 9 = .ok (.iconst 0, 1) := by decide +kernel
theorem d4_10 : decode method_6_code 10 = .ok (.ireturn, 1) := by decide +kernel
theorem d4_11 : decode method_6_code 11 = .ok (.iload_n 2, 1) := by decide +kernel
theorem d4_12 : decode method_6_code 12 = .ok (.iconst 1, 1) := by decide +kernel
theorem d4_13 : decode method_6_code 13 = .ok (.if_icmp .le 14, 3) := by decide +kernel
theorem d4_16 : decode method_6_code 16 = .ok (.aload_n 0, 1) := by decide +kernel
theorem d4_17 : decode method_6_code 17 = .ok (.iconst 1, 1) := by decide +kernel
theorem d4_18 : decode method_6_code 18 = .ok (.iaload, 1) := by decide +kernel
theorem d4_19 : decode method_6_code 19 = .ok (.aload_n 0, 1) := by decide +kernel
theorem d4_20 : decode method_6_code 20 = .ok (.iconst 0, 1) := by decide +kernel
theorem d4_21 : decode method_6_code 21 = .ok (.iaload, 1) := by decide +kernel
theorem d4_22 : decode method_6_code 22 = .ok (.if_icmp .gt 5, 3) := by decide +kernel
theorem d4_25 : decode method_6_code 25 = .ok (.iconst 0, 1) := by decide +kernel
theorem d4_26 : decode method_6_code 26 = .ok (.ireturn, 1) := by decide +kernel
theorem d4_27 : decode method_6_code 27 = .ok (.iload_n 2, 1) := by decide +kernel
theorem d4_28 : decode method_6_code 28 = .ok (.iconst 2, 1) := by decide +kernel
theorem d4_29 : decode method_6_code 29 = .ok (.if_icmp .le 14, 3) := by decide +kernel
theorem d4_32 : decode method_6_code 32 = .ok (.aload_n 0, 1) := by decide +kernel
theorem d4_33 : decode method_6_code 33 = .ok (.iconst 2, 1) := by decide +kernel
theorem d4_34 : decode method_6_code 34 = .ok (.iaload, 1) := by decide +kernel
theorem d4_35 : decode method_6_code 35 = .ok (.aload_n 0, 1) := by decide +kernel
theorem d4_36 : decode method_6_code 36 = .ok (.iconst 1, 1) := by decide +kernel
theorem d4_37 : decode method_6_code 37 = .ok (.iaload, 1) := by decide +kernel
theorem d4_38 : decode method_6_code 38 = .ok (.if_icmp .gt 5, 3) := by decide +kernel
theorem d4_41 : decode method_6_code 41 = .ok (.iconst 0, 1) := by decide +kernel
theorem d4_42 : decode method_6_code 42 = .ok (.ireturn, 1) := by decide +kernel
theorem d4_43 : decode method_6_code 43 = .ok (.iload_n 2, 1) := by decide +kernel
theorem d4_44 : decode method_6_code 44 = .ok (.iconst 3, 1) := by decide +kernel
theorem d4_45 : decode method_6_code 45 = .ok (.if_icmp .le 14, 3) := by decide +kernel
theorem d4_48 : decode method_6_code 48 = .ok (.aload_n 0, 1) := by decide +kernel
theorem d4_49 : decode method_6_code 49 = .ok (.iconst 3, 1) := by decide +kernel
theorem d4_50 : decode method_6_code 50 = .ok (.iaload, 1) := by decide +kernel
theorem d4_51 : decode method_6_code 51 = .ok (.aload_n 0, 1) := by decide +kernel
theorem d4_52 : decode method_6_code 52 = .ok (.iconst 2, 1) := by decide +kernel
theorem d4_53 : decode method_6_code 53 = .ok (.iaload, 1) := by decide +kernel
theorem d4_54 : decode method_6_code 54 = .ok (.if_icmp .gt 5, 3) := by decide +kernel
theorem d4_57 : decode method_6_code 57 = .ok (.iconst 0, 1) := by decide +kernel
theorem d4_58 : decode method_6_code 58 = .ok (.ireturn, 1) := by decide +kernel
theorem d4_59 : decode method_6_code 59 = .ok (.aload_n 0, 1) := by decide +kernel
theorem d4_60 : decode method_6_code 60 = .ok (.iload_n 2, 1) := by decide +kernel
theorem d4_61 : decode method_6_code 61 = .ok (.iconst 1, 1) := by decide +kernel
theorem d4_62 : decode method_6_code 62 = .ok (.isub, 1) := by decide +kernel
theorem d4_63 : decode method_6_code 63 = .ok (.iaload, 1) := by decide +kernel
theorem d4_64 : decode method_6_code 64 = .ok (.iload_n 1, 1) := by decide +kernel
theorem d4_65 : decode method_6_code 65 = .ok (.if_icmp .ge 7, 3) := by decide +kernel
theorem d4_68 : decode method_6_code 68 = .ok (.iconst 1, 1) := by decide +kernel
theorem d4_69 : decode method_6_code 69 = .ok (.goto 4, 3) := by decide +kernel
theorem d4_72 : decode method_6_code 72 = .ok (.iconst 0, 1) := by decide +kernel
theorem d4_73 : decode method_6_code 73 = .ok (.ireturn, 1) := by decide +kernel
theorem pl4 : plainFor (⟨"com/example/crosshatch/crosshatch/design/ParameterSetsAdvancePinLaw", "valid", "([II)Z"⟩ : MethodName) = true := by first | exact plainFor_of_name (by first | (simp [plainName, overriddenIn]; done) | decide +kernel) | decide +kernel
def f4_1 (g : Nat → Int32) (x1 : Int32) : Int32 := (if (g 0) < 0 then (0 : Int32) else (if (g 0) < x1 then (1 : Int32) else (0 : Int32)))
set_option maxRecDepth 65536 in
set_option maxHeartbeats 40000000 in
theorem rm4_1 (l : Launch) (Z : State) (a0 : Array Value) (hw : ∀ d ∈ tables_1, d.before a0 Z = true) (g : Nat → Int32) (x0 : Addr) (x1 : Int32) (h0 : Heap) (A0 : AI Z h0 x0 .int 1 g) :
    Met l Z (⟨"com/example/crosshatch/crosshatch/design/ParameterSetsAdvancePinLaw", "valid", "([II)Z"⟩ : MethodName) method_6_code 3 (some .boolean) ({ frames := 0, cells := 0, slots := 0, locals := 0 } : Room) #[(.ref x0), (.int x1)] h0 (Pu (some (.int (f4_1 g x1))) h0) := by
  refine enter pl4 #[.val (.ref x0), .val (.int x1), .unset] rfl ?_
  intro p e s m below meth c T B hret hlk hnm
  · refine o_aloadN B 0 1 (v := (.ref x0)) d4_0 rfl rfl rfl ?_
    refine o_alenI B 1 2 A0 (1 : Int32) d4_1 rfl (by decide) ?_
    refine o_istoreN B 2 3 (l' := #[.val (.ref x0), .val (.int x1), .val (.int (1 : Int32))]) d4_2 rfl rfl ?_
    refine o_aloadN B 3 4 (v := (.ref x0)) d4_3 rfl rfl rfl ?_
    refine o_iconst B 4 5 (0 : Int32) d4_4 rfl (by decide) ?_
    refine o_iaload B 5 6 A0 0 (g 0) d4_5 rfl (by decide) (by decide) (by decide) rfl ?_
    by_cases k1 : (g 0) < 0
    · refine o_ifN B 6 9 d4_6 rfl (XT.i0_ge_f k1) ?_
      refine o_iconst B 9 10 (0 : Int32) d4_9 rfl (by decide) ?_
      refine o_retZ (t := .boolean) B 10 d4_10 hret hlk (by simp) (by decide) (by decide) ⟨(congrArg (fun z => some (Value.int z)) ((show nar .boolean (0 : Int32) = (0 : Int32) from rfl).trans (show f4_1 g x1 = (0 : Int32) from (if_pos k1).trans (rfl)).symm)), rfl, rfl⟩
    · refine o_ifY B 6 11 d4_6 (XT.i0_ge_t k1) (by decide) (by decide) ?_
      refine o_iloadN B 11 12 (v := (1 : Int32)) d4_11 rfl rfl ?_
      refine o_iconst B 12 13 (1 : Int32) d4_12 rfl (by decide) ?_
      refine o_icY B 13 27 d4_13 (XT.ii_le_t (by decide)) (by decide) (by decide) ?_
      refine o_iloadN B 27 28 (v := (1 : Int32)) d4_27 rfl rfl ?_
      refine o_iconst B 28 29 (2 : Int32) d4_28 rfl (by decide) ?_
      refine o_icY B 29 43 d4_29 (XT.ii_le_t (by decide)) (by decide) (by decide) ?_
      refine o_iloadN B 43 44 (v := (1 : Int32)) d4_43 rfl rfl ?_
      refine o_iconst B 44 45 (3 : Int32) d4_44 rfl (by decide) ?_
      refine o_icY B 45 59 d4_45 (XT.ii_le_t (by decide)) (by decide) (by decide) ?_
      refine o_aloadN B 59 60 (v := (.ref x0)) d4_59 rfl rfl rfl ?_
      refine o_iloadN B 60 61 (v := (1 : Int32)) d4_60 rfl rfl ?_
      refine o_iconst B 61 62 (1 : Int32) d4_61 rfl (by decide) ?_
      refine o_isub B 62 63 d4_62 rfl ?_
      refine o_topI (show ((1 : Int32) - (1 : Int32)) = (0 : Int32) by decide) ?_
      refine o_iaload B 63 64 A0 0 (g 0) d4_63 rfl (by decide) (by decide) (by decide) rfl ?_
      refine o_iloadN B 64 65 (v := x1) d4_64 rfl rfl ?_
      by_cases k2 : (g 0) < x1
      · refine o_icN B 65 68 d4_65 rfl (XT.ii_ge_f k2) ?_
        refine o_iconst B 68 69 (1 : Int32) d4_68 rfl (by decide) ?_
        refine o_goto B 69 73 d4_69 (by decide) (by decide) ?_
        refine o_retZ (t := .boolean) B 73 d4_73 hret hlk (by simp) (by decide) (by decide) ⟨(congrArg (fun z => some (Value.int z)) ((show nar .boolean (1 : Int32) = (1 : Int32) from rfl).trans (show f4_1 g x1 = (1 : Int32) from (if_neg k1).trans ((if_pos k2).trans (rfl))).symm)), rfl, rfl⟩
      · refine o_icY B 65 72 d4_65 (XT.ii_ge_t k2) (by decide) (by decide) ?_
        refine o_iconst B 72 73 (0 : Int32) d4_72 rfl (by decide) ?_
        refine o_retZ (t := .boolean) B 73 d4_73 hret hlk (by simp) (by decide) (by decide) ⟨(congrArg (fun z => some (Value.int z)) ((show nar .boolean (0 : Int32) = (0 : Int32) from rfl).trans (show f4_1 g x1 = (0 : Int32) from (if_neg k1).trans ((if_neg k2).trans (rfl))).symm)), rfl, rfl⟩
theorem d5_0 : decode method_7_code 0 = .ok (.aload_n 0, 1) := by decide +kernel
theorem d5_1 : decode method_7_code 1 = .ok (.arraylength, 1) := by decide +kernel
theorem d5_2 : decode method_7_code 2 = .ok (.istore_n 2, 1) := by decide +kernel
theorem d5_3 : decode method_7_code 3 = .ok (.iload_n 1, 1) := by decide +kernel
theorem d5_4 : decode method_7_code 4 = .ok (.iconst 1, 1) := by decide +kernel
theorem d5_5 : decode method_7_code 5 = .ok (.isub, 1) := by decide +kernel
theorem d5_6 : decode method_7_code 6 = .ok (.aload_n 0, 1) := by decide +kernel
theorem d5_7 : decode method_7_code 7 = .ok (.iconst 0, 1) := by decide +kernel
theorem d5_8 : decode method_7_code 8 = .ok (.iaload, 1) := by decide +kernel
theorem d5_9 : decode method_7_code 9 = .ok (.isub, 1) := by decide +kernel
theorem d5_10 : decode method_7_code 10 = .ok (.i2l, 1) := by decide +kernel
theorem d5_11 : decode method_7_code 11 = .ok (.iload_n 2, 1) := by decide +kernel
theorem d5_12 : decode method_7_code 12 = .ok (.invokestatic 19, 3) := by decide +kernel
theorem d5_15 : decode method_7_code 15 = .ok (.lstore_n 3, 1) := by decide +kernel
theorem d5_16 : decode method_7_code 16 = .ok (.iload_n 2, 1) := by decide +kernel
theorem d5_17 : decode method_7_code 17 = .ok (.iconst 1, 1) := by decide +kernel
theorem d5_18 : decode method_7_code 18 = .ok (.if_icmp .le 20, 3) := by decide +kernel
theorem d5_21 : decode method_7_code 21 = .ok (.lload_n 3, 1) := by decide +kernel
theorem d5_22 : decode method_7_code 22 = .ok (.iload_n 1, 1) := by decide +kernel
theorem d5_23 : decode method_7_code 23 = .ok (.iconst 1, 1) := by decide +kernel
theorem d5_24 : decode method_7_code 24 = .ok (.isub, 1) := by decide +kernel
theorem d5_25 : decode method_7_code 25 = .ok (.aload_n 0, 1) := by decide +kernel
theorem d5_26 : decode method_7_code 26 = .ok (.iconst 1, 1) := by decide +kernel
theorem d5_27 : decode method_7_code 27 = .ok (.iaload, 1) := by decide +kernel
theorem d5_28 : decode method_7_code 28 = .ok (.isub, 1) := by decide +kernel
theorem d5_29 : decode method_7_code 29 = .ok (.i2l, 1) := by decide +kernel
theorem d5_30 : decode method_7_code 30 = .ok (.iload_n 2, 1) := by decide +kernel
theorem d5_31 : decode method_7_code 31 = .ok (.iconst 1, 1) := by decide +kernel
theorem d5_32 : decode method_7_code 32 = .ok (.isub, 1) := by decide +kernel
theorem d5_33 : decode method_7_code 33 = .ok (.invokestatic 19, 3) := by decide +kernel
theorem d5_36 : decode method_7_code 36 = .ok (.ladd, 1) := by decide +kernel
theorem d5_37 : decode method_7_code 37 = .ok (.lstore_n 3, 1) := by decide +kernel
theorem d5_38 : decode method_7_code 38 = .ok (.iload_n 2, 1) := by decide +kernel
theorem d5_39 : decode method_7_code 39 = .ok (.iconst 2, 1) := by decide +kernel
theorem d5_40 : decode method_7_code 40 = .ok (.if_icmp .le 20, 3) := by decide +kernel
theorem d5_43 : decode method_7_code 43 = .ok (.lload_n 3, 1) := by decide +kernel
theorem d5_44 : decode method_7_code 44 = .ok (.iload_n 1, 1) := by decide +kernel
theorem d5_45 : decode method_7_code 45 = .ok (.iconst 1, 1) := by decide +kernel
theorem d5_46 : decode method_7_code 46 = .ok (.isub, 1) := by decide +kernel
theorem d5_47 : decode method_7_code 47 = .ok (.aload_n 0, 1) := by decide +kernel
theorem d5_48 : decode method_7_code 48 = .ok (.iconst 2, 1) := by decide +kernel
theorem d5_49 : decode method_7_code 49 = .ok (.iaload, 1) := by decide +kernel
theorem d5_50 : decode method_7_code 50 = .ok (.isub, 1) := by decide +kernel
theorem d5_51 : decode method_7_code 51 = .ok (.i2l, 1) := by decide +kernel
theorem d5_52 : decode method_7_code 52 = .ok (.iload_n 2, 1) := by decide +kernel
theorem d5_53 : decode method_7_code 53 = .ok (.iconst 2, 1) := by decide +kernel
theorem d5_54 : decode method_7_code 54 = .ok (.isub, 1) := by decide +kernel
theorem d5_55 : decode method_7_code 55 = .ok (.invokestatic 19, 3) := by decide +kernel
theorem d5_58 : decode method_7_code 58 = .ok (.ladd, 1) := by decide +kernel
theorem d5_59 : decode method_7_code 59 = .ok (.lstore_n 3, 1) := by decide +kernel
theorem d5_60 : decode method_7_code 60 = .ok (.iload_n 2, 1) := by decide +kernel
theorem d5_61 : decode method_7_code 61 = .ok (.iconst 3, 1) := by decide +kernel
theorem d5_62 : decode method_7_code 62 = .ok (.if_icmp .le 20, 3) := by decide +kernel
theorem d5_65 : decode method_7_code 65 = .ok (.lload_n 3, 1) := by decide +kernel
theorem d5_66 : decode method_7_code 66 = .ok (.iload_n 1, 1) := by decide +kernel
theorem d5_67 : decode method_7_code 67 = .ok (.iconst 1, 1) := by decide +kernel
theorem d5_68 : decode method_7_code 68 = .ok (.isub, 1) := by decide +kernel
theorem d5_69 : decode method_7_code 69 = .ok (.aload_n 0, 1) := by decide +kernel
theorem d5_70 : decode method_7_code 70 = .ok (.iconst 3, 1) := by decide +kernel
theorem d5_71 : decode method_7_code 71 = .ok (.iaload, 1) := by decide +kernel
theorem d5_72 : decode method_7_code 72 = .ok (.isub, 1) := by decide +kernel
theorem d5_73 : decode method_7_code 73 = .ok (.i2l, 1) := by decide +kernel
theorem d5_74 : decode method_7_code 74 = .ok (.iload_n 2, 1) := by decide +kernel
theorem d5_75 : decode method_7_code 75 = .ok (.iconst 3, 1) := by decide +kernel
theorem d5_76 : decode method_7_code 76 = .ok (.isub, 1) := by decide +kernel
theorem d5_77 : decode method_7_code 77 = .ok (.invokestatic 19, 3) := by decide +kernel
theorem d5_80 : decode method_7_code 80 = .ok (.ladd, 1) := by decide +kernel
theorem d5_81 : decode method_7_code 81 = .ok (.lstore_n 3, 1) := by decide +kernel
theorem d5_82 : decode method_7_code 82 = .ok (.iload_n 1, 1) := by decide +kernel
theorem d5_83 : decode method_7_code 83 = .ok (.i2l, 1) := by decide +kernel
theorem d5_84 : decode method_7_code 84 = .ok (.iload_n 2, 1) := by decide +kernel
theorem d5_85 : decode method_7_code 85 = .ok (.invokestatic 19, 3) := by decide +kernel
theorem d5_88 : decode method_7_code 88 = .ok (.lconst 1, 1) := by decide +kernel
theorem d5_89 : decode method_7_code 89 = .ok (.lsub, 1) := by decide +kernel
theorem d5_90 : decode method_7_code 90 = .ok (.lload_n 3, 1) := by decide +kernel
theorem d5_91 : decode method_7_code 91 = .ok (.lsub, 1) := by decide +kernel
theorem d5_92 : decode method_7_code 92 = .ok (.lreturn, 1) := by decide +kernel
theorem pl5 : plainFor (⟨"com/example/crosshatch/crosshatch/design/ParameterSetsAdvancePinLaw", "rank", "([II)J"⟩ : MethodName) = true := by first | exact plainFor_of_name (by first | (simp [plainName, overriddenIn]; done) | decide +kernel) | decide +kernel
theorem pd__JI_J : parseMethodDescriptor "(JI)J" = some ⟨[.long, .int], some .long⟩ := by decide +kernel
def q5_1_1 (g : Nat → Int32) (x1 : Int32) : Int64 := (f3 ((x1 - (1 : Int32)) - (g 0)).toInt64 (1 : Int32))
def f5_1 (g : Nat → Int32) (x1 : Int32) : Int64 := (((f3 x1.toInt64 (1 : Int32)) - (1 : Int64)) - (q5_1_1 g x1))
set_option maxRecDepth 65536 in
set_option maxHeartbeats 40000000 in
theorem rm5_1 (l : Launch) (Z : State) (a0 : Array Value) (hw : ∀ d ∈ tables_1, d.before a0 Z = true) (g : Nat → Int32) (x0 : Addr) (x1 : Int32) (h0 : Heap) (A0 : AI Z h0 x0 .int 1 g) :
    Met l Z (⟨"com/example/crosshatch/crosshatch/design/ParameterSetsAdvancePinLaw", "rank", "([II)J"⟩ : MethodName) method_7_code 5 (some .long) ({ frames := 1, cells := 0, slots := 0, locals := 14 } : Room) #[(.ref x0), (.int x1)] h0 (Pu (some (.long (f5_1 g x1))) h0) := by
  refine enter pl5 #[.val (.ref x0), .val (.int x1), .unset, .unset, .unset] rfl ?_
  intro p e s m below meth c T B hret hlk hnm
  · refine o_aloadN B 0 1 (v := (.ref x0)) d5_0 rfl rfl rfl ?_
    refine o_alenI B 1 2 A0 (1 : Int32) d5_1 rfl (by decide) ?_
    refine o_istoreN B 2 3 (l' := #[.val (.ref x0), .val (.int x1), .val (.int (1 : Int32)), .unset, .unset]) d5_2 rfl rfl ?_
    refine o_iloadN B 3 4 (v := x1) d5_3 rfl rfl ?_
    refine o_iconst B 4 5 (1 : Int32) d5_4 rfl (by decide) ?_
    refine o_isub B 5 6 d5_5 rfl ?_
    refine o_aloadN B 6 7 (v := (.ref x0)) d5_6 rfl rfl rfl ?_
    refine o_iconst B 7 8 (0 : Int32) d5_7 rfl (by decide) ?_
    refine o_iaload B 8 9 A0 0 (g 0) d5_8 rfl (by decide) (by decide) (by decide) rfl ?_
    refine o_isub B 9 10 d5_9 rfl ?_
    refine o_i2l B 10 11 d5_10 rfl ?_
    refine o_iloadN B 11 12 (v := (1 : Int32)) d5_11 rfl rfl ?_
    obtain ⟨T3, B3, c3⟩ := o_callP B 12 15 d5_12 rfl (hw _ (List.mem_of_getElem? (i := 10) rfl)) (hw _ (List.mem_of_getElem? (i := 11) rfl)) (hw _ (List.mem_of_getElem? (i := 3) rfl)) (hw _ (List.mem_of_getElem? (i := 12) rfl)) (by decide) (rm3 l Z a0 hw ((x1 - (1 : Int32)) - (g 0)).toInt64 (1 : Int32) h0 ) 0 [(.long ((x1 - (1 : Int32)) - (g 0)).toInt64), (.int (1 : Int32))] [] pd__JI_J rfl rfl (st := [(.int (1 : Int32)), (.long ((x1 - (1 : Int32)) - (g 0)).toInt64)]) rfl (Ls := #[.val (.ref x0), .val (.int x1), .val (.int (1 : Int32)), .unset, .unset]) rfl (Nat.le_of_eq rfl) (by decide) (by decide) (by decide) (by decide)
    refine c3 ?_
    refine o_lstoreN B3 15 16 (l' := #[.val (.ref x0), .val (.int x1), .val (.int (1 : Int32)), .val (.long (q5_1_1 g x1)), .second]) d5_15 rfl rfl ?_
    refine o_iloadN B3 16 17 (v := (1 : Int32)) d5_16 rfl rfl ?_
    refine o_iconst B3 17 18 (1 : Int32) d5_17 rfl (by decide) ?_
    refine o_icY B3 18 38 d5_18 (XT.ii_le_t (by decide)) (by decide) (by decide) ?_
    refine o_iloadN B3 38 39 (v := (1 : Int32)) d5_38 rfl rfl ?_
    refine o_iconst B3 39 40 (2 : Int32) d5_39 rfl (by decide) ?_
    refine o_icY B3 40 60 d5_40 (XT.ii_le_t (by decide)) (by decide) (by decide) ?_
    refine o_iloadN B3 60 61 (v := (1 : Int32)) d5_60 rfl rfl ?_
    refine o_iconst B3 61 62 (3 : Int32) d5_61 rfl (by decide) ?_
    refine o_icY B3 62 82 d5_62 (XT.ii_le_t (by decide)) (by decide) (by decide) ?_
    refine o_iloadN B3 82 83 (v := x1) d5_82 rfl rfl ?_
    refine o_i2l B3 83 84 d5_83 rfl ?_
    refine o_iloadN B3 84 85 (v := (1 : Int32)) d5_84 rfl rfl ?_
    obtain ⟨T4, B4, c4⟩ := o_callP B3 85 88 d5_85 rfl (hw _ (List.mem_of_getElem? (i := 10) rfl)) (hw _ (List.mem_of_getElem? (i := 11) rfl)) (hw _ (List.mem_of_getElem? (i := 3) rfl)) (hw _ (List.mem_of_getElem? (i := 12) rfl)) (by decide) (rm3 l Z a0 hw x1.toInt64 (1 : Int32) h0 ) 0 [(.long x1.toInt64), (.int (1 : Int32))] [] pd__JI_J rfl rfl (st := [(.int (1 : Int32)), (.long x1.toInt64)]) rfl (Ls := #[.val (.ref x0), .val (.int x1), .val (.int (1 : Int32)), .val (.long (q5_1_1 g x1)), .second]) rfl (Nat.le_of_eq rfl) (by decide) (by decide) (by decide) (by decide)
    refine c4 ?_
    refine o_lconst B4 88 89 (1 : Int64) d5_88 rfl (by decide) ?_
    refine o_lsub B4 89 90 d5_89 rfl ?_
    refine o_lloadN B4 90 91 (v := (q5_1_1 g x1)) d5_90 rfl rfl ?_
    refine o_lsub B4 91 92 d5_91 rfl ?_
    refine o_retL B4 92 d5_92 hret hlk (by decide) (by decide) ⟨(congrArg (fun z => some (Value.long z)) (show f5_1 g x1 = (((f3 x1.toInt64 (1 : Int32)) - (1 : Int64)) - (q5_1_1 g x1)) from rfl)).symm, rfl, rfl⟩
theorem d6_0 : decode method_4_code 0 = .ok (.iload_n 3, 1) := by decide +kernel
theorem d6_1 : decode method_4_code 1 = .ok (.aload_n 0, 1) := by decide +kernel
theorem d6_2 : decode method_4_code 2 = .ok (.arraylength, 1) := by decide +kernel
theorem d6_3 : decode method_4_code 3 = .ok (.if_icmp .lt 5, 3) := by decide +kernel
theorem d6_6 : decode method_4_code 6 = .ok (.iconst 1, 1) := by decide +kernel
theorem d6_7 : decode method_4_code 7 = .ok (.ireturn, 1) := by decide +kernel
theorem d6_8 : decode method_4_code 8 = .ok (.iload_n 3, 1) := by decide +kernel
theorem d6_9 : decode method_4_code 9 = .ok (.iload_n 2, 1) := by decide +kernel
theorem d6_10 : decode method_4_code 10 = .ok (.if_icmp .ge 18, 3) := by decide +kernel
theorem d6_13 : decode method_4_code 13 = .ok (.aload_n 0, 1) := by decide +kernel
theorem d6_14 : decode method_4_code 14 = .ok (.iload_n 3, 1) := by decide +kernel
theorem d6_15 : decode method_4_code 15 = .ok (.iaload, 1) := by decide +kernel
theorem d6_16 : decode method_4_code 16 = .ok (.aload_n 1, 1) := by decide +kernel
theorem d6_17 : decode method_4_code 17 = .ok (.iload_n 3, 1) := by decide +kernel
theorem d6_18 : decode method_4_code 18 = .ok (.iaload, 1) := by decide +kernel
theorem d6_19 : decode method_4_code 19 = .ok (.if_icmp .ne 7, 3) := by decide +kernel
theorem d6_22 : decode method_4_code 22 = .ok (.iconst 1, 1) := by decide +kernel
theorem d6_23 : decode method_4_code 23 = .ok (.goto 4, 3) := by decide +kernel
theorem d6_26 : decode method_4_code 26 = .ok (.iconst 0, 1) := by decide +kernel
theorem d6_27 : decode method_4_code 27 = .ok (.ireturn, 1) := by decide +kernel
theorem d6_28 : decode method_4_code 28 = .ok (.iload_n 3, 1) := by decide +kernel
theorem d6_29 : decode method_4_code 29 = .ok (.iload_n 2, 1) := by decide +kernel
theorem d6_30 : decode method_4_code 30 = .ok (.if_icmp .ne 18, 3) := by decide +kernel
theorem d6_33 : decode method_4_code 33 = .ok (.aload_n 0, 1) := by decide +kernel
theorem d6_34 : decode method_4_code 34 = .ok (.iload_n 3, 1) := by decide +kernel
theorem d6_35 : decode method_4_code 35 = .ok (.iaload, 1) := by decide +kernel
theorem d6_36 : decode method_4_code 36 = .ok (.aload_n 1, 1) := by decide +kernel
theorem d6_37 : decode method_4_code 37 = .ok (.iload_n 3, 1) := by decide +kernel
theorem d6_38 : decode method_4_code 38 = .ok (.iaload, 1) := by decide +kernel
theorem d6_39 : decode method_4_code 39 = .ok (.if_icmp .eq 7, 3) := by decide +kernel
theorem d6_42 : decode method_4_code 42 = .ok (.iconst 1, 1) := by decide +kernel
theorem d6_43 : decode method_4_code 43 = .ok (.goto 4, 3) := by decide +kernel
theorem d6_46 : decode method_4_code 46 = .ok (.iconst 0, 1) := by decide +kernel
theorem d6_47 : decode method_4_code 47 = .ok (.ireturn, 1) := by decide +kernel
theorem d6_48 : decode method_4_code 48 = .ok (.iconst 1, 1) := by decide +kernel
theorem d6_49 : decode method_4_code 49 = .ok (.ireturn, 1) := by decide +kernel
theorem pl6 : plainFor (⟨"com/example/crosshatch/crosshatch/design/ParameterSetsAdvancePinLaw", "place", "([I[III)Z"⟩ : MethodName) = true := by first | exact plainFor_of_name (by first | (simp [plainName, overriddenIn]; done) | decide +kernel) | decide +kernel
def f6_1_0 (g : Nat → Int32) (k_ : Nat → Int32) (x2 : Int32) : Int32 := (if (0 : Int32) < x2 then (if (g 0) = (k_ 0) then (1 : Int32) else (0 : Int32)) else (if (0 : Int32) = x2 then (if (g 0) = (k_ 0) then (0 : Int32) else (1 : Int32)) else (1 : Int32)))
set_option maxRecDepth 65536 in
set_option maxHeartbeats 40000000 in
theorem rm6_1_0 (l : Launch) (Z : State) (a0 : Array Value) (hw : ∀ d ∈ tables_1, d.before a0 Z = true) (g : Nat → Int32) (k_ : Nat → Int32) (x0 : Addr) (x1 : Addr) (x2 : Int32) (h0 : Heap) (A0 : AI Z h0 x0 .int 1 g) (A1 : AI Z h0 x1 .int 1 k_) :
    Met l Z (⟨"com/example/crosshatch/crosshatch/design/ParameterSetsAdvancePinLaw", "place", "([I[III)Z"⟩ : MethodName) method_4_code 4 (some .boolean) ({ frames := 0, cells := 0, slots := 0, locals := 0 } : Room) #[(.ref x0), (.ref x1), (.int x2), (.int (0 : Int32))] h0 (Pu (some (.int (f6_1_0 g k_ x2))) h0) := by
  refine enter pl6 #[.val (.ref x0), .val (.ref x1), .val (.int x2), .val (.int (0 : Int32))] rfl ?_
  intro p e s m below meth c T B hret hlk hnm
  · refine o_iloadN B 0 1 (v := (0 : Int32)) d6_0 rfl rfl ?_
    refine o_aloadN B 1 2 (v := (.ref x0)) d6_1 rfl rfl rfl ?_
    refine o_alenI B 2 3 A0 (1 : Int32) d6_2 rfl (by decide) ?_
    refine o_icY B 3 8 d6_3 (XT.ii_lt_t (by decide)) (by decide) (by decide) ?_
    refine o_iloadN B 8 9 (v := (0 : Int32)) d6_8 rfl rfl ?_
    refine o_iloadN B 9 10 (v := x2) d6_9 rfl rfl ?_
    by_cases k1 : (0 : Int32) < x2
    · refine o_icN B 10 13 d6_10 rfl (XT.ii_ge_f k1) ?_
      refine o_aloadN B 13 14 (v := (.ref x0)) d6_13 rfl rfl rfl ?_
      refine o_iloadN B 14 15 (v := (0 : Int32)) d6_14 rfl rfl ?_
      refine o_iaload B 15 16 A0 0 (g 0) d6_15 rfl (by decide) (by decide) (by decide) rfl ?_
      refine o_aloadN B 16 17 (v := (.ref x1)) d6_16 rfl rfl rfl ?_
      refine o_iloadN B 17 18 (v := (0 : Int32)) d6_17 rfl rfl ?_
      refine o_iaload B 18 19 A1 0 (k_ 0) d6_18 rfl (by decide) (by decide) (by decide) rfl ?_
      by_cases k2 : (g 0) = (k_ 0)
      · refine o_icN B 19 22 d6_19 rfl (XT.ii_ne_f k2) ?_
        refine o_iconst B 22 23 (1 : Int32) d6_22 rfl (by decide) ?_
        refine o_goto B 23 27 d6_23 (by decide) (by decide) ?_
        refine o_retZ (t := .boolean) B 27 d6_27 hret hlk (by simp) (by decide) (by decide) ⟨(congrArg (fun z => some (Value.int z)) ((show nar .boolean (1 : Int32) = (1 : Int32) from rfl).trans (show f6_1_0 g k_ x2 = (1 : Int32) from (if_pos k1).trans ((if_pos k2).trans (rfl))).symm)), rfl, rfl⟩
      · refine o_icY B 19 26 d6_19 (XT.ii_ne_t k2) (by decide) (by decide) ?_
        refine o_iconst B 26 27 (0 : Int32) d6_26 rfl (by decide) ?_
        refine o_retZ (t := .boolean) B 27 d6_27 hret hlk (by simp) (by decide) (by decide) ⟨(congrArg (fun z => some (Value.int z)) ((show nar .boolean (0 : Int32) = (0 : Int32) from rfl).trans (show f6_1_0 g k_ x2 = (0 : Int32) from (if_pos k1).trans ((if_neg k2).trans (rfl))).symm)), rfl, rfl⟩
    · refine o_icY B 10 28 d6_10 (XT.ii_ge_t k1) (by decide) (by decide) ?_
      refine o_iloadN B 28 29 (v := (0 : Int32)) d6_28 rfl rfl ?_
      refine o_iloadN B 29 30 (v := x2) d6_29 rfl rfl ?_
      by_cases k3 : (0 : Int32) = x2
      · refine o_icN B 30 33 d6_30 rfl (XT.ii_ne_f k3) ?_
        refine o_aloadN B 33 34 (v := (.ref x0)) d6_33 rfl rfl rfl ?_
        refine o_iloadN B 34 35 (v := (0 : Int32)) d6_34 rfl rfl ?_
        refine o_iaload B 35 36 A0 0 (g 0) d6_35 rfl (by decide) (by decide) (by decide) rfl ?_
        refine o_aloadN B 36 37 (v := (.ref x1)) d6_36 rfl rfl rfl ?_
        refine o_iloadN B 37 38 (v := (0 : Int32)) d6_37 rfl rfl ?_
        refine o_iaload B 38 39 A1 0 (k_ 0) d6_38 rfl (by decide) (by decide) (by decide) rfl ?_
        by_cases k4 : (g 0) = (k_ 0)
        · refine o_icY B 39 46 d6_39 (XT.ii_eq_t k4) (by decide) (by decide) ?_
          refine o_iconst B 46 47 (0 : Int32) d6_46 rfl (by decide) ?_
          refine o_retZ (t := .boolean) B 47 d6_47 hret hlk (by simp) (by decide) (by decide) ⟨(congrArg (fun z => some (Value.int z)) ((show nar .boolean (0 : Int32) = (0 : Int32) from rfl).trans (show f6_1_0 g k_ x2 = (0 : Int32) from (if_neg k1).trans ((if_pos k3).trans ((if_pos k4).trans (rfl)))).symm)), rfl, rfl⟩
        · refine o_icN B 39 42 d6_39 rfl (XT.ii_eq_f k4) ?_
          refine o_iconst B 42 43 (1 : Int32) d6_42 rfl (by decide) ?_
          refine o_goto B 43 47 d6_43 (by decide) (by decide) ?_
          refine o_retZ (t := .boolean) B 47 d6_47 hret hlk (by simp) (by decide) (by decide) ⟨(congrArg (fun z => some (Value.int z)) ((show nar .boolean (1 : Int32) = (1 : Int32) from rfl).trans (show f6_1_0 g k_ x2 = (1 : Int32) from (if_neg k1).trans ((if_pos k3).trans ((if_neg k4).trans (rfl)))).symm)), rfl, rfl⟩
      · refine o_icY B 30 48 d6_30 (XT.ii_ne_t k3) (by decide) (by decide) ?_
        refine o_iconst B 48 49 (1 : Int32) d6_48 rfl (by decide) ?_
        refine o_retZ (t := .boolean) B 49 d6_49 hret hlk (by simp) (by decide) (by decide) ⟨(congrArg (fun z => some (Value.int z)) ((show nar .boolean (1 : Int32) = (1 : Int32) from rfl).trans (show f6_1_0 g k_ x2 = (1 : Int32) from (if_neg k1).trans ((if_neg k3).trans (rfl))).symm)), rfl, rfl⟩
def f6_1_1 (g : Nat → Int32) (k_ : Nat → Int32) (x2 : Int32) : Int32 := (1 : Int32)
set_option maxRecDepth 65536 in
set_option maxHeartbeats 40000000 in
theorem rm6_1_1 (l : Launch) (Z : State) (a0 : Array Value) (hw : ∀ d ∈ tables_1, d.before a0 Z = true) (g : Nat → Int32) (k_ : Nat → Int32) (x0 : Addr) (x1 : Addr) (x2 : Int32) (h0 : Heap) (A0 : AI Z h0 x0 .int 1 g) (A1 : AI Z h0 x1 .int 1 k_) :
    Met l Z (⟨"com/example/crosshatch/crosshatch/design/ParameterSetsAdvancePinLaw", "place", "([I[III)Z"⟩ : MethodName) method_4_code 4 (some .boolean) ({ frames := 0, cells := 0, slots := 0, locals := 0 } : Room) #[(.ref x0), (.ref x1), (.int x2), (.int (1 : Int32))] h0 (Pu (some (.int (f6_1_1 g k_ x2))) h0) := by
  refine enter pl6 #[.val (.ref x0), .val (.ref x1), .val (.int x2), .val (.int (1 : Int32))] rfl ?_
  intro p e s m below meth c T B hret hlk hnm
  · refine o_iloadN B 0 1 (v := (1 : Int32)) d6_0 rfl rfl ?_
    refine o_aloadN B 1 2 (v := (.ref x0)) d6_1 rfl rfl rfl ?_
    refine o_alenI B 2 3 A0 (1 : Int32) d6_2 rfl (by decide) ?_
    refine o_icN B 3 6 d6_3 rfl (XT.ii_lt_f (by decide)) ?_
    refine o_iconst B 6 7 (1 : Int32) d6_6 rfl (by decide) ?_
    refine o_retZ (t := .boolean) B 7 d6_7 hret hlk (by simp) (by decide) (by decide) ⟨(congrArg (fun z => some (Value.int z)) ((show nar .boolean (1 : Int32) = (1 : Int32) from rfl).trans (show f6_1_1 g k_ x2 = (1 : Int32) from rfl).symm)), rfl, rfl⟩
def f6_1_2 (g : Nat → Int32) (k_ : Nat → Int32) (x2 : Int32) : Int32 := (1 : Int32)
set_option maxRecDepth 65536 in
set_option maxHeartbeats 40000000 in
theorem rm6_1_2 (l : Launch) (Z : State) (a0 : Array Value) (hw : ∀ d ∈ tables_1, d.before a0 Z = true) (g : Nat → Int32) (k_ : Nat → Int32) (x0 : Addr) (x1 : Addr) (x2 : Int32) (h0 : Heap) (A0 : AI Z h0 x0 .int 1 g) (A1 : AI Z h0 x1 .int 1 k_) :
    Met l Z (⟨"com/example/crosshatch/crosshatch/design/ParameterSetsAdvancePinLaw", "place", "([I[III)Z"⟩ : MethodName) method_4_code 4 (some .boolean) ({ frames := 0, cells := 0, slots := 0, locals := 0 } : Room) #[(.ref x0), (.ref x1), (.int x2), (.int (2 : Int32))] h0 (Pu (some (.int (f6_1_2 g k_ x2))) h0) := by
  refine enter pl6 #[.val (.ref x0), .val (.ref x1), .val (.int x2), .val (.int (2 : Int32))] rfl ?_
  intro p e s m below meth c T B hret hlk hnm
  · refine o_iloadN B 0 1 (v := (2 : Int32)) d6_0 rfl rfl ?_
    refine o_aloadN B 1 2 (v := (.ref x0)) d6_1 rfl rfl rfl ?_
    refine o_alenI B 2 3 A0 (1 : Int32) d6_2 rfl (by decide) ?_
    refine o_icN B 3 6 d6_3 rfl (XT.ii_lt_f (by decide)) ?_
    refine o_iconst B 6 7 (1 : Int32) d6_6 rfl (by decide) ?_
    refine o_retZ (t := .boolean) B 7 d6_7 hret hlk (by simp) (by decide) (by decide) ⟨(congrArg (fun z => some (Value.int z)) ((show nar .boolean (1 : Int32) = (1 : Int32) from rfl).trans (show f6_1_2 g k_ x2 = (1 : Int32) from rfl).symm)), rfl, rfl⟩
def f6_1_3 (g : Nat → Int32) (k_ : Nat → Int32) (x2 : Int32) : Int32 := (1 : Int32)
set_option maxRecDepth 65536 in
set_option maxHeartbeats 40000000 in
theorem rm6_1_3 (l : Launch) (Z : State) (a0 : Array Value) (hw : ∀ d ∈ tables_1, d.before a0 Z = true) (g : Nat → Int32) (k_ : Nat → Int32) (x0 : Addr) (x1 : Addr) (x2 : Int32) (h0 : Heap) (A0 : AI Z h0 x0 .int 1 g) (A1 : AI Z h0 x1 .int 1 k_) :
    Met l Z (⟨"com/example/crosshatch/crosshatch/design/ParameterSetsAdvancePinLaw", "place", "([I[III)Z"⟩ : MethodName) method_4_code 4 (some .boolean) ({ frames := 0, cells := 0, slots := 0, locals := 0 } : Room) #[(.ref x0), (.ref x1), (.int x2), (.int (3 : Int32))] h0 (Pu (some (.int (f6_1_3 g k_ x2))) h0) := by
  refine enter pl6 #[.val (.ref x0), .val (.ref x1), .val (.int x2), .val (.int (3 : Int32))] rfl ?_
  intro p e s m below meth c T B hret hlk hnm
  · refine o_iloadN B 0 1 (v := (3 : Int32)) d6_0 rfl rfl ?_
    refine o_aloadN B 1 2 (v := (.ref x0)) d6_1 rfl rfl rfl ?_
    refine o_alenI B 2 3 A0 (1 : Int32) d6_2 rfl (by decide) ?_
    refine o_icN B 3 6 d6_3 rfl (XT.ii_lt_f (by decide)) ?_
    refine o_iconst B 6 7 (1 : Int32) d6_6 rfl (by decide) ?_
    refine o_retZ (t := .boolean) B 7 d6_7 hret hlk (by simp) (by decide) (by decide) ⟨(congrArg (fun z => some (Value.int z)) ((show nar .boolean (1 : Int32) = (1 : Int32) from rfl).trans (show f6_1_3 g k_ x2 = (1 : Int32) from rfl).symm)), rfl, rfl⟩
theorem d7_0 : decode method_5_code 0 = .ok (.aload_n 1, 1) := by decide +kernel
theorem d7_1 : decode method_5_code 1 = .ok (.arraylength, 1) := by decide +kernel
theorem d7_2 : decode method_5_code 2 = .ok (.istore_n 2, 1) := by decide +kernel
theorem d7_3 : decode method_5_code 3 = .ok (.aload_n 0, 1) := by decide +kernel
theorem d7_4 : decode method_5_code 4 = .ok (.arraylength, 1) := by decide +kernel
theorem d7_5 : decode method_5_code 5 = .ok (.iload_n 2, 1) := by decide +kernel
theorem d7_6 : decode method_5_code 6 = .ok (.if_icmp .eq 5, 3) := by decide +kernel
theorem d7_9 : decode method_5_code 9 = .ok (.iconst 0, 1) := by decide +kernel
theorem d7_10 : decode method_5_code 10 = .ok (.ireturn, 1) := by decide +kernel
theorem d7_11 : decode method_5_code 11 = .ok (.aload_n 0, 1) := by decide +kernel
theorem d7_12 : decode method_5_code 12 = .ok (.iconst 0, 1) := by decide +kernel
theorem d7_13 : decode method_5_code 13 = .ok (.iaload, 1) := by decide +kernel
theorem d7_14 : decode method_5_code 14 = .ok (.aload_n 1, 1) := by decide +kernel
theorem d7_15 : decode method_5_code 15 = .ok (.iconst 0, 1) := by decide +kernel
theorem d7_16 : decode method_5_code 16 = .ok (.iaload, 1) := by decide +kernel
theorem d7_17 : decode method_5_code 17 = .ok (.if_icmp .eq 5, 3) := by decide +kernel
theorem d7_20 : decode method_5_code 20 = .ok (.iconst 0, 1) := by decide +kernel
theorem d7_21 : decode method_5_code 21 = .ok (.ireturn, 1) := by decide +kernel
theorem d7_22 : decode method_5_code 22 = .ok (.iload_n 2, 1) := by decide +kernel
theorem d7_23 : decode method_5_code 23 = .ok (.iconst 1, 1) := by decide +kernel
theorem d7_24 : decode method_5_code 24 = .ok (.if_icmp .le 14, 3) := by decide +kernel
theorem d7_27 : decode method_5_code 27 = .ok (.aload_n 0, 1) := by decide +kernel
theorem d7_28 : decode method_5_code 28 = .ok (.iconst 1, 1) := by decide +kernel
theorem d7_29 : decode method_5_code 29 = .ok (.iaload, 1) := by decide +kernel
theorem d7_30 : decode method_5_code 30 = .ok (.aload_n 1, 1) := by decide +kernel
theorem d7_31 : decode method_5_code 31 = .ok (.iconst 1, 1) := by decide +kernel
theorem d7_32 : decode method_5_code 32 = .ok (.iaload, 1) := by decide +kernel
theorem d7_33 : decode method_5_code 33 = .ok (.if_icmp .eq 5, 3) := by decide +kernel
theorem d7_36 : decode method_5_code 36 = .ok (.iconst 0, 1) := by decide +kernel
theorem d7_37 : decode method_5_code 37 = .ok (.ireturn, 1) := by decide +kernel
theorem d7_38 : decode method_5_code 38 = .ok (.iload_n 2, 1) := by decide +kernel
theorem d7_39 : decode method_5_code 39 = .ok (.iconst 2, 1) := by decide +kernel
theorem d7_40 : decode method_5_code 40 = .ok (.if_icmp .le 14, 3) := by decide +kernel
theorem d7_43 : decode method_5_code 43 = .ok (.aload_n 0, 1) := by decide +kernel
theorem d7_44 : decode method_5_code 44 = .ok (.iconst 2, 1) := by decide +kernel
theorem d7_45 : decode method_5_code 45 = .ok (.iaload, 1) := by decide +kernel
theorem d7_46 : decode method_5_code 46 = .ok (.aload_n 1, 1) := by decide +kernel
theorem d7_47 : decode method_5_code 47 = .ok (.iconst 2, 1) := by decide +kernel
theorem d7_48 : decode method_5_code 48 = .ok (.iaload, 1) := by decide +kernel
theorem d7_49 : decode method_5_code 49 = .ok (.if_icmp .eq 5, 3) := by decide +kernel
theorem d7_52 : decode method_5_code 52 = .ok (.iconst 0, 1) := by decide +kernel
theorem d7_53 : decode method_5_code 53 = .ok (.ireturn, 1) := by decide +kernel
theorem d7_54 : decode method_5_code 54 = .ok (.iload_n 2, 1) := by decide +kernel
theorem d7_55 : decode method_5_code 55 = .ok (.iconst 3, 1) := by decide +kernel
theorem d7_56 : decode method_5_code 56 = .ok (.if_icmp .le 14, 3) := by decide +kernel
theorem d7_59 : decode method_5_code 59 = .ok (.aload_n 0, 1) := by decide +kernel
theorem d7_60 : decode method_5_code 60 = .ok (.iconst 3, 1) := by decide +kernel
theorem d7_61 : decode method_5_code 61 = .ok (.iaload, 1) := by decide +kernel
theorem d7_62 : decode method_5_code 62 = .ok (.aload_n 1, 1) := by decide +kernel
theorem d7_63 : decode method_5_code 63 = .ok (.iconst 3, 1) := by decide +kernel
theorem d7_64 : decode method_5_code 64 = .ok (.iaload, 1) := by decide +kernel
theorem d7_65 : decode method_5_code 65 = .ok (.if_icmp .eq 5, 3) := by decide +kernel
theorem d7_68 : decode method_5_code 68 = .ok (.iconst 0, 1) := by decide +kernel
theorem d7_69 : decode method_5_code 69 = .ok (.ireturn, 1) := by decide +kernel
theorem d7_70 : decode method_5_code 70 = .ok (.iconst 1, 1) := by decide +kernel
theorem d7_71 : decode method_5_code 71 = .ok (.ireturn, 1) := by decide +kernel
theorem pl7 : plainFor (⟨"com/example/crosshatch/crosshatch/design/ParameterSetsAdvancePinLaw", "same", "([I[I)Z"⟩ : MethodName) = true := by first | exact plainFor_of_name (by first | (simp [plainName, overriddenIn]; done) | decide +kernel) | decide +kernel
def f7_1 (g : Nat → Int32) (k_ : Nat → Int32) : Int32 := (if (g 0) = (k_ 0) then (1 : Int32) else (0 : Int32))
set_option maxRecDepth 65536 in
set_option maxHeartbeats 40000000 in
theorem rm7_1 (l : Launch) (Z : State) (a0 : Array Value) (hw : ∀ d ∈ tables_1, d.before a0 Z = true) (g : Nat → Int32) (k_ : Nat → Int32) (x0 : Addr) (x1 : Addr) (h0 : Heap) (A0 : AI Z h0 x0 .int 1 g) (A1 : AI Z h0 x1 .int 1 k_) :
    Met l Z (⟨"com/example/crosshatch/crosshatch/design/ParameterSetsAdvancePinLaw", "same", "([I[I)Z"⟩ : MethodName) method_5_code 3 (some .boolean) ({ frames := 0, cells := 0, slots := 0, locals := 0 } : Room) #[(.ref x0), (.ref x1)] h0 (Pu (some (.int (f7_1 g k_))) h0) := by
  refine enter pl7 #[.val (.ref x0), .val (.ref x1), .unset] rfl ?_
  intro p e s m below meth c T B hret hlk hnm
  · refine o_aloadN B 0 1 (v := (.ref x1)) d7_0 rfl rfl rfl ?_
    refine o_alenI B 1 2 A1 (1 : Int32) d7_1 rfl (by decide) ?_
    refine o_istoreN B 2 3 (l' := #[.val (.ref x0), .val (.ref x1), .val (.int (1 : Int32))]) d7_2 rfl rfl ?_
    refine o_aloadN B 3 4 (v := (.ref x0)) d7_3 rfl rfl rfl ?_
    refine o_alenI B 4 5 A0 (1 : Int32) d7_4 rfl (by decide) ?_
    refine o_iloadN B 5 6 (v := (1 : Int32)) d7_5 rfl rfl ?_
    refine o_icY B 6 11 d7_6 (XT.ii_eq_t (by decide)) (by decide) (by decide) ?_
    refine o_aloadN B 11 12 (v := (.ref x0)) d7_11 rfl rfl rfl ?_
    refine o_iconst B 12 13 (0 : Int32) d7_12 rfl (by decide) ?_
    refine o_iaload B 13 14 A0 0 (g 0) d7_13 rfl (by decide) (by decide) (by decide) rfl ?_
    refine o_aloadN B 14 15 (v := (.ref x1)) d7_14 rfl rfl rfl ?_
    refine o_iconst B 15 16 (0 : Int32) d7_15 rfl (by decide) ?_
    refine o_iaload B 16 17 A1 0 (k_ 0) d7_16 rfl (by decide) (by decide) (by decide) rfl ?_
    by_cases k1 : (g 0) = (k_ 0)
    · refine o_icY B 17 22 d7_17 (XT.ii_eq_t k1) (by decide) (by decide) ?_
      refine o_iloadN B 22 23 (v := (1 : Int32)) d7_22 rfl rfl ?_
      refine o_iconst B 23 24 (1 : Int32) d7_23 rfl (by decide) ?_
      refine o_icY B 24 38 d7_24 (XT.ii_le_t (by decide)) (by decide) (by decide) ?_
      refine o_iloadN B 38 39 (v := (1 : Int32)) d7_38 rfl rfl ?_
      refine o_iconst B 39 40 (2 : Int32) d7_39 rfl (by decide) ?_
      refine o_icY B 40 54 d7_40 (XT.ii_le_t (by decide)) (by decide) (by decide) ?_
      refine o_iloadN B 54 55 (v := (1 : Int32)) d7_54 rfl rfl ?_
      refine o_iconst B 55 56 (3 : Int32) d7_55 rfl (by decide) ?_
      refine o_icY B 56 70 d7_56 (XT.ii_le_t (by decide)) (by decide) (by decide) ?_
      refine o_iconst B 70 71 (1 : Int32) d7_70 rfl (by decide) ?_
      refine o_retZ (t := .boolean) B 71 d7_71 hret hlk (by simp) (by decide) (by decide) ⟨(congrArg (fun z => some (Value.int z)) ((show nar .boolean (1 : Int32) = (1 : Int32) from rfl).trans (show f7_1 g k_ = (1 : Int32) from (if_pos k1).trans (rfl)).symm)), rfl, rfl⟩
    · refine o_icN B 17 20 d7_17 rfl (XT.ii_eq_f k1) ?_
      refine o_iconst B 20 21 (0 : Int32) d7_20 rfl (by decide) ?_
      refine o_retZ (t := .boolean) B 21 d7_21 hret hlk (by simp) (by decide) (by decide) ⟨(congrArg (fun z => some (Value.int z)) ((show nar .boolean (0 : Int32) = (0 : Int32) from rfl).trans (show f7_1 g k_ = (0 : Int32) from (if_neg k1).trans (rfl)).symm)), rfl, rfl⟩
def w2_2_1 (g : Nat → Int32) (x1 : Int32) : Nat → Int32 := fun j => if j = 0 then ((g 0) + (1 : Int32)) else g j
def w2_2_2 (g : Nat → Int32) (x1 : Int32) : Nat → Int32 := fun j => if j = 1 then (((w2_2_1 g x1) 0) + (1 : Int32)) else (w2_2_1 g x1) j
def w2_2_3 (g : Nat → Int32) (x1 : Int32) : Nat → Int32 := fun j => if j = 1 then ((g 1) + (1 : Int32)) else g j
def f2_2 (g : Nat → Int32) (x1 : Int32) : Int32 := (if (g 1) = ((x1 - (2 : Int32)) + (1 : Int32)) then (if (g 0) = ((x1 - (2 : Int32)) + (0 : Int32)) then (-1 : Int32) else (0 : Int32)) else (1 : Int32))
def o2_2_0 (g : Nat → Int32) (x1 : Int32) : Nat → Int32 := (if (g 1) = ((x1 - (2 : Int32)) + (1 : Int32)) then (if (g 0) = ((x1 - (2 : Int32)) + (0 : Int32)) then g else (w2_2_2 g x1)) else (w2_2_3 g x1))
def Q2_2 (Z : State) (g : Nat → Int32) (x0 : Addr) (x1 : Int32) (h0 : Heap) (n0 : Nat) (v : Option Value) (h : Heap) (L : List Loc) : Prop := v = some (.int (f2_2 g x1)) ∧ Fr n0 L ∧ Keep h0 h [x0] ∧ AI Z h x0 .int 2 (o2_2_0 g x1)
set_option maxRecDepth 65536 in
set_option maxHeartbeats 40000000 in
theorem rm2_2 (l : Launch) (Z : State) (a0 : Array Value) (hw : ∀ d ∈ tables_1, d.before a0 Z = true) (g : Nat → Int32) (x0 : Addr) (x1 : Int32) (h0 : Heap) (n0 : Nat) (hz : n0 ≤ h0.size) (A0 : AI Z h0 x0 .int 2 g) (gw_x0 : n0 ≤ x0) :
    Met l Z (⟨"com/example/crosshatch/crosshatch/design/ParameterSets", "advance", "([II)I"⟩ : MethodName) prog_6_method_5_code 4 (some .int) ({ frames := 0, cells := 0, slots := 0, locals := 0 } : Room) #[(.ref x0), (.int x1)] h0 (Q2_2 Z g x0 x1 h0 n0) := by
  refine enter pl2 #[.val (.ref x0), .val (.int x1), .unset, .unset] rfl ?_
  intro p e s m below meth c T B hret hlk hnm
  have N0 := Fr.nil n0
  refine o_aloadN B 0 1 (v := (.ref x0)) d2_0 rfl rfl rfl ?_
  refine o_alenI B 1 2 A0 (2 : Int32) d2_1 rfl (by decide) ?_
  refine o_iconst B 2 3 (1 : Int32) d2_2 rfl (by decide) ?_
  refine o_isub B 3 4 d2_3 rfl ?_
  refine o_topI (show ((2 : Int32) - (1 : Int32)) = (1 : Int32) by decide) ?_
  refine o_istoreN B 4 5 (l' := #[.val (.ref x0), .val (.int x1), .val (.int (1 : Int32)), .unset]) d2_4 rfl rfl ?_
  refine o_iloadN B 5 6 (v := (1 : Int32)) d2_5 rfl rfl ?_
  refine o_ifN B 6 9 d2_6 rfl (XT.i0_lt_f (by decide)) ?_
  refine o_aloadN B 9 10 (v := (.ref x0)) d2_9 rfl rfl rfl ?_
  refine o_iloadN B 10 11 (v := (1 : Int32)) d2_10 rfl rfl ?_
  refine o_iaload B 11 12 A0 1 (g 1) d2_11 rfl (by decide) (by decide) (by decide) rfl ?_
  refine o_iloadN B 12 13 (v := x1) d2_12 rfl rfl ?_
  refine o_aloadN B 13 14 (v := (.ref x0)) d2_13 rfl rfl rfl ?_
  refine o_alenI B 14 15 A0 (2 : Int32) d2_14 rfl (by decide) ?_
  refine o_isub B 15 16 d2_15 rfl ?_
  refine o_iloadN B 16 17 (v := (1 : Int32)) d2_16 rfl rfl ?_
  refine o_iadd B 17 18 d2_17 rfl ?_
  by_cases k1 : (g 1) = ((x1 - (2 : Int32)) + (1 : Int32))
  · refine o_icN B 18 21 d2_18 rfl (XT.ii_ne_f k1) ?_
    refine o_iincC B 21 24 (l' := #[.val (.ref x0), .val (.int x1), .val (.int (0 : Int32)), .unset]) (-1 : Int32) (0 : Int32) d2_21 rfl (by decide) rfl (by decide) rfl ?_
    refine o_goto B 24 5 d2_24 (by decide) (by decide) ?_
    refine o_iloadN B 5 6 (v := (0 : Int32)) d2_5 rfl rfl ?_
    refine o_ifN B 6 9 d2_6 rfl (XT.i0_lt_f (by decide)) ?_
    refine o_aloadN B 9 10 (v := (.ref x0)) d2_9 rfl rfl rfl ?_
    refine o_iloadN B 10 11 (v := (0 : Int32)) d2_10 rfl rfl ?_
    refine o_iaload B 11 12 A0 0 (g 0) d2_11 rfl (by decide) (by decide) (by decide) rfl ?_
    refine o_iloadN B 12 13 (v := x1) d2_12 rfl rfl ?_
    refine o_aloadN B 13 14 (v := (.ref x0)) d2_13 rfl rfl rfl ?_
    refine o_alenI B 14 15 A0 (2 : Int32) d2_14 rfl (by decide) ?_
    refine o_isub B 15 16 d2_15 rfl ?_
    refine o_iloadN B 16 17 (v := (0 : Int32)) d2_16 rfl rfl ?_
    refine o_iadd B 17 18 d2_17 rfl ?_
    by_cases k2 : (g 0) = ((x1 - (2 : Int32)) + (0 : Int32))
    · refine o_icN B 18 21 d2_18 rfl (XT.ii_ne_f k2) ?_
      refine o_iincC B 21 24 (l' := #[.val (.ref x0), .val (.int x1), .val (.int (-1 : Int32)), .unset]) (-1 : Int32) (-1 : Int32) d2_21 rfl (by decide) rfl (by decide) rfl ?_
      refine o_goto B 24 5 d2_24 (by decide) (by decide) ?_
      refine o_iloadN B 5 6 (v := (-1 : Int32)) d2_5 rfl rfl ?_
      refine o_ifY B 6 27 d2_6 (XT.i0_lt_t (by decide)) (by decide) (by decide) ?_
      refine o_iloadN B 27 28 (v := (-1 : Int32)) d2_27 rfl rfl ?_
      refine o_ifN B 28 31 d2_28 rfl (XT.i0_ge_f (by decide)) ?_
      refine o_iconst B 31 32 (-1 : Int32) d2_31 rfl (by decide) ?_
      refine o_retI B 32 d2_32 hret hlk (by decide) (by decide) ⟨(congrArg (fun z => some (Value.int z)) (show f2_2 g x1 = (-1 : Int32) from (if_pos k1).trans ((if_pos k2).trans (rfl)))).symm, N0, (Keep.refl h0 [x0]), (by rw [show (o2_2_0 g x1) = g from (if_pos k1).trans ((if_pos k2).trans (rfl))]; exact A0)⟩
    · refine o_icY B 18 27 d2_18 (XT.ii_ne_t k2) (by decide) (by decide) ?_
      refine o_iloadN B 27 28 (v := (0 : Int32)) d2_27 rfl rfl ?_
      refine o_ifY B 28 33 d2_28 (XT.i0_ge_t (by decide)) (by decide) (by decide) ?_
      refine o_aloadN B 33 34 (v := (.ref x0)) d2_33 rfl rfl rfl ?_
      refine o_iloadN B 34 35 (v := (0 : Int32)) d2_34 rfl rfl ?_
      refine o_dup2 B 35 36 d2_35 rfl rfl rfl ?_
      refine o_iaload B 36 37 A0 0 (g 0) d2_36 rfl (by decide) (by decide) (by decide) rfl ?_
      refine o_iconst B 37 38 (1 : Int32) d2_37 rfl (by decide) ?_
      refine o_iadd B 38 39 d2_38 rfl ?_
      obtain ⟨T7, h7, L7, B7, N7, W7, Q7, c7⟩ := o_iastore B N0 gw_x0 39 40 A0 (j := (0 : Int32)) (x := ((g 0) + (1 : Int32))) 0 ((g 0) + (1 : Int32)) d2_39 rfl (by decide) (by decide) (by decide) rfl (Ls := #[.val (.ref x0), .val (.int x1), .val (.int (0 : Int32)), .unset]) (rest := [])
      have A7 : AI Z h7 x0 .int 2 (w2_2_1 g x1) := Q7
      refine c7 ?_
      refine o_iloadN B7 40 41 (v := (0 : Int32)) d2_40 rfl rfl ?_
      refine o_iconst B7 41 42 (1 : Int32) d2_41 rfl (by decide) ?_
      refine o_iadd B7 42 43 d2_42 rfl ?_
      refine o_topI (show ((0 : Int32) + (1 : Int32)) = (1 : Int32) by decide) ?_
      refine o_istoreN B7 43 44 (l' := #[.val (.ref x0), .val (.int x1), .val (.int (0 : Int32)), .val (.int (1 : Int32))]) d2_43 rfl rfl ?_
      refine o_iloadN B7 44 45 (v := (1 : Int32)) d2_44 rfl rfl ?_
      refine o_aloadN B7 45 46 (v := (.ref x0)) d2_45 rfl rfl rfl ?_
      refine o_alenI B7 46 47 A7 (2 : Int32) d2_46 rfl (by decide) ?_
      refine o_icN B7 47 50 d2_47 rfl (XT.ii_ge_f (by decide)) ?_
      refine o_aloadN B7 50 51 (v := (.ref x0)) d2_50 rfl rfl rfl ?_
      refine o_iloadN B7 51 52 (v := (1 : Int32)) d2_51 rfl rfl ?_
      refine o_aloadN B7 52 53 (v := (.ref x0)) d2_52 rfl rfl rfl ?_
      refine o_iloadN B7 53 54 (v := (1 : Int32)) d2_53 rfl rfl ?_
      refine o_iconst B7 54 55 (1 : Int32) d2_54 rfl (by decide) ?_
      refine o_isub B7 55 56 d2_55 rfl ?_
      refine o_topI (show ((1 : Int32) - (1 : Int32)) = (0 : Int32) by decide) ?_
      refine o_iaload B7 56 57 A7 0 ((w2_2_1 g x1) 0) d2_56 rfl (by decide) (by decide) (by decide) rfl ?_
      refine o_iconst B7 57 58 (1 : Int32) d2_57 rfl (by decide) ?_
      refine o_iadd B7 58 59 d2_58 rfl ?_
      obtain ⟨T10, h10, L10, B10, N10, W10, Q10, c10⟩ := o_iastore B7 N7 gw_x0 59 60 A7 (j := (1 : Int32)) (x := (((w2_2_1 g x1) 0) + (1 : Int32))) 1 (((w2_2_1 g x1) 0) + (1 : Int32)) d2_59 rfl (by decide) (by decide) (by decide) rfl (Ls := #[.val (.ref x0), .val (.int x1), .val (.int (0 : Int32)), .val (.int (1 : Int32))]) (rest := [])
      have A10 : AI Z h10 x0 .int 2 (w2_2_2 g x1) := Q10
      refine c10 ?_
      refine o_iincC B10 60 63 (l' := #[.val (.ref x0), .val (.int x1), .val (.int (0 : Int32)), .val (.int (2 : Int32))]) (1 : Int32) (2 : Int32) d2_60 rfl (by decide) rfl (by decide) rfl ?_
      refine o_goto B10 63 44 d2_63 (by decide) (by decide) ?_
      refine o_iloadN B10 44 45 (v := (2 : Int32)) d2_44 rfl rfl ?_
      refine o_aloadN B10 45 46 (v := (.ref x0)) d2_45 rfl rfl rfl ?_
      refine o_alenI B10 46 47 A10 (2 : Int32) d2_46 rfl (by decide) ?_
      refine o_icY B10 47 66 d2_47 (XT.ii_ge_t (by decide)) (by decide) (by decide) ?_
      refine o_iloadN B10 66 67 (v := (0 : Int32)) d2_66 rfl rfl ?_
      refine o_retI B10 67 d2_67 hret hlk (by decide) (by decide) ⟨(congrArg (fun z => some (Value.int z)) (show f2_2 g x1 = (0 : Int32) from (if_pos k1).trans ((if_neg k2).trans (rfl)))).symm, N10, (((Keep.refl h0 [x0]).wr W7 (Or.inl (List.mem_of_getElem? (i := 0) rfl))).wr W10 (Or.inl (List.mem_of_getElem? (i := 0) rfl))), (by rw [show (o2_2_0 g x1) = (w2_2_2 g x1) from (if_pos k1).trans ((if_neg k2).trans (rfl))]; exact A10)⟩
  · refine o_icY B 18 27 d2_18 (XT.ii_ne_t k1) (by decide) (by decide) ?_
    refine o_iloadN B 27 28 (v := (1 : Int32)) d2_27 rfl rfl ?_
    refine o_ifY B 28 33 d2_28 (XT.i0_ge_t (by decide)) (by decide) (by decide) ?_
    refine o_aloadN B 33 34 (v := (.ref x0)) d2_33 rfl rfl rfl ?_
    refine o_iloadN B 34 35 (v := (1 : Int32)) d2_34 rfl rfl ?_
    refine o_dup2 B 35 36 d2_35 rfl rfl rfl ?_
    refine o_iaload B 36 37 A0 1 (g 1) d2_36 rfl (by decide) (by decide) (by decide) rfl ?_
    refine o_iconst B 37 38 (1 : Int32) d2_37 rfl (by decide) ?_
    refine o_iadd B 38 39 d2_38 rfl ?_
    obtain ⟨T13, h13, L13, B13, N13, W13, Q13, c13⟩ := o_iastore B N0 gw_x0 39 40 A0 (j := (1 : Int32)) (x := ((g 1) + (1 : Int32))) 1 ((g 1) + (1 : Int32)) d2_39 rfl (by decide) (by decide) (by decide) rfl (Ls := #[.val (.ref x0), .val (.int x1), .val (.int (1 : Int32)), .unset]) (rest := [])
    have A13 : AI Z h13 x0 .int 2 (w2_2_3 g x1) := Q13
    refine c13 ?_
    refine o_iloadN B13 40 41 (v := (1 : Int32)) d2_40 rfl rfl ?_
    refine o_iconst B13 41 42 (1 : Int32) d2_41 rfl (by decide) ?_
    refine o_iadd B13 42 43 d2_42 rfl ?_
    refine o_topI (show ((1 : Int32) + (1 : Int32)) = (2 : Int32) by decide) ?_
    refine o_istoreN B13 43 44 (l' := #[.val (.ref x0), .val (.int x1), .val (.int (1 : Int32)), .val (.int (2 : Int32))]) d2_43 rfl rfl ?_
    refine o_iloadN B13 44 45 (v := (2 : Int32)) d2_44 rfl rfl ?_
    refine o_aloadN B13 45 46 (v := (.ref x0)) d2_45 rfl rfl rfl ?_
    refine o_alenI B13 46 47 A13 (2 : Int32) d2_46 rfl (by decide) ?_
    refine o_icY B13 47 66 d2_47 (XT.ii_ge_t (by decide)) (by decide) (by decide) ?_
    refine o_iloadN B13 66 67 (v := (1 : Int32)) d2_66 rfl rfl ?_
    refine o_retI B13 67 d2_67 hret hlk (by decide) (by decide) ⟨(congrArg (fun z => some (Value.int z)) (show f2_2 g x1 = (1 : Int32) from (if_neg k1).trans (rfl))).symm, N13, ((Keep.refl h0 [x0]).wr W13 (Or.inl (List.mem_of_getElem? (i := 0) rfl))), (by rw [show (o2_2_0 g x1) = (w2_2_3 g x1) from (if_neg k1).trans (rfl)]; exact A13)⟩
def f4_2 (g : Nat → Int32) (x1 : Int32) : Int32 := (if (g 0) < 0 then (0 : Int32) else (if (g 0) < (g 1) then (if (g 1) < x1 then (1 : Int32) else (0 : Int32)) else (0 : Int32)))
set_option maxRecDepth 65536 in
set_option maxHeartbeats 40000000 in
theorem rm4_2 (l : Launch) (Z : State) (a0 : Array Value) (hw : ∀ d ∈ tables_1, d.before a0 Z = true) (g : Nat → Int32) (x0 : Addr) (x1 : Int32) (h0 : Heap) (A0 : AI Z h0 x0 .int 2 g) :
    Met l Z (⟨"com/example/crosshatch/crosshatch/design/ParameterSetsAdvancePinLaw", "valid", "([II)Z"⟩ : MethodName) method_6_code 3 (some .boolean) ({ frames := 0, cells := 0, slots := 0, locals := 0 } : Room) #[(.ref x0), (.int x1)] h0 (Pu (some (.int (f4_2 g x1))) h0) := by
  refine enter pl4 #[.val (.ref x0), .val (.int x1), .unset] rfl ?_
  intro p e s m below meth c T B hret hlk hnm
  · refine o_aloadN B 0 1 (v := (.ref x0)) d4_0 rfl rfl rfl ?_
    refine o_alenI B 1 2 A0 (2 : Int32) d4_1 rfl (by decide) ?_
    refine o_istoreN B 2 3 (l' := #[.val (.ref x0), .val (.int x1), .val (.int (2 : Int32))]) d4_2 rfl rfl ?_
    refine o_aloadN B 3 4 (v := (.ref x0)) d4_3 rfl rfl rfl ?_
    refine o_iconst B 4 5 (0 : Int32) d4_4 rfl (by decide) ?_
    refine o_iaload B 5 6 A0 0 (g 0) d4_5 rfl (by decide) (by decide) (by decide) rfl ?_
    by_cases k1 : (g 0) < 0
    · refine o_ifN B 6 9 d4_6 rfl (XT.i0_ge_f k1) ?_
      refine o_iconst B 9 10 (0 : Int32) d4_9 rfl (by decide) ?_
      refine o_retZ (t := .boolean) B 10 d4_10 hret hlk (by simp) (by decide) (by decide) ⟨(congrArg (fun z => some (Value.int z)) ((show nar .boolean (0 : Int32) = (0 : Int32) from rfl).trans (show f4_2 g x1 = (0 : Int32) from (if_pos k1).trans (rfl)).symm)), rfl, rfl⟩
    · refine o_ifY B 6 11 d4_6 (XT.i0_ge_t k1) (by decide) (by decide) ?_
      refine o_iloadN B 11 12 (v := (2 : Int32)) d4_11 rfl rfl ?_
      refine o_iconst B 12 13 (1 : Int32) d4_12 rfl (by decide) ?_
      refine o_icN B 13 16 d4_13 rfl (XT.ii_le_f (by decide)) ?_
      refine o_aloadN B 16 17 (v := (.ref x0)) d4_16 rfl rfl rfl ?_
      refine o_iconst B 17 18 (1 : Int32) d4_17 rfl (by decide) ?_
      refine o_iaload B 18 19 A0 1 (g 1) d4_18 rfl (by decide) (by decide) (by decide) rfl ?_
      refine o_aloadN B 19 20 (v := (.ref x0)) d4_19 rfl rfl rfl ?_
      refine o_iconst B 20 21 (0 : Int32) d4_20 rfl (by decide) ?_
      refine o_iaload B 21 22 A0 0 (g 0) d4_21 rfl (by decide) (by decide) (by decide) rfl ?_
      by_cases k2 : (g 0) < (g 1)
      · refine o_icY B 22 27 d4_22 (XT.ii_gt_t k2) (by decide) (by decide) ?_
        refine o_iloadN B 27 28 (v := (2 : Int32)) d4_27 rfl rfl ?_
        refine o_iconst B 28 29 (2 : Int32) d4_28 rfl (by decide) ?_
        refine o_icY B 29 43 d4_29 (XT.ii_le_t (by decide)) (by decide) (by decide) ?_
        refine o_iloadN B 43 44 (v := (2 : Int32)) d4_43 rfl rfl ?_
        refine o_iconst B 44 45 (3 : Int32) d4_44 rfl (by decide) ?_
        refine o_icY B 45 59 d4_45 (XT.ii_le_t (by decide)) (by decide) (by decide) ?_
        refine o_aloadN B 59 60 (v := (.ref x0)) d4_59 rfl rfl rfl ?_
        refine o_iloadN B 60 61 (v := (2 : Int32)) d4_60 rfl rfl ?_
        refine o_iconst B 61 62 (1 : Int32) d4_61 rfl (by decide) ?_
        refine o_isub B 62 63 d4_62 rfl ?_
        refine o_topI (show ((2 : Int32) - (1 : Int32)) = (1 : Int32) by decide) ?_
        refine o_iaload B 63 64 A0 1 (g 1) d4_63 rfl (by decide) (by decide) (by decide) rfl ?_
        refine o_iloadN B 64 65 (v := x1) d4_64 rfl rfl ?_
        by_cases k3 : (g 1) < x1
        · refine o_icN B 65 68 d4_65 rfl (XT.ii_ge_f k3) ?_
          refine o_iconst B 68 69 (1 : Int32) d4_68 rfl (by decide) ?_
          refine o_goto B 69 73 d4_69 (by decide) (by decide) ?_
          refine o_retZ (t := .boolean) B 73 d4_73 hret hlk (by simp) (by decide) (by decide) ⟨(congrArg (fun z => some (Value.int z)) ((show nar .boolean (1 : Int32) = (1 : Int32) from rfl).trans (show f4_2 g x1 = (1 : Int32) from (if_neg k1).trans ((if_pos k2).trans ((if_pos k3).trans (rfl)))).symm)), rfl, rfl⟩
        · refine o_icY B 65 72 d4_65 (XT.ii_ge_t k3) (by decide) (by decide) ?_
          refine o_iconst B 72 73 (0 : Int32) d4_72 rfl (by decide) ?_
          refine o_retZ (t := .boolean) B 73 d4_73 hret hlk (by simp) (by decide) (by decide) ⟨(congrArg (fun z => some (Value.int z)) ((show nar .boolean (0 : Int32) = (0 : Int32) from rfl).trans (show f4_2 g x1 = (0 : Int32) from (if_neg k1).trans ((if_pos k2).trans ((if_neg k3).trans (rfl)))).symm)), rfl, rfl⟩
      · refine o_icN B 22 25 d4_22 rfl (XT.ii_gt_f k2) ?_
        refine o_iconst B 25 26 (0 : Int32) d4_25 rfl (by decide) ?_
        refine o_retZ (t := .boolean) B 26 d4_26 hret hlk (by simp) (by decide) (by decide) ⟨(congrArg (fun z => some (Value.int z)) ((show nar .boolean (0 : Int32) = (0 : Int32) from rfl).trans (show f4_2 g x1 = (0 : Int32) from (if_neg k1).trans ((if_neg k2).trans (rfl))).symm)), rfl, rfl⟩
def q5_2_1 (g : Nat → Int32) (x1 : Int32) : Int64 := (f3 ((x1 - (1 : Int32)) - (g 0)).toInt64 (2 : Int32))
def q5_2_2 (g : Nat → Int32) (x1 : Int32) : Int64 := (f3 ((x1 - (1 : Int32)) - (g 1)).toInt64 (1 : Int32))
def f5_2 (g : Nat → Int32) (x1 : Int32) : Int64 := (((f3 x1.toInt64 (2 : Int32)) - (1 : Int64)) - ((q5_2_1 g x1) + (q5_2_2 g x1)))
set_option maxRecDepth 65536 in
set_option maxHeartbeats 40000000 in
theorem rm5_2 (l : Launch) (Z : State) (a0 : Array Value) (hw : ∀ d ∈ tables_1, d.before a0 Z = true) (g : Nat → Int32) (x0 : Addr) (x1 : Int32) (h0 : Heap) (A0 : AI Z h0 x0 .int 2 g) :
    Met l Z (⟨"com/example/crosshatch/crosshatch/design/ParameterSetsAdvancePinLaw", "rank", "([II)J"⟩ : MethodName) method_7_code 5 (some .long) ({ frames := 1, cells := 0, slots := 0, locals := 16 } : Room) #[(.ref x0), (.int x1)] h0 (Pu (some (.long (f5_2 g x1))) h0) := by
  refine enter pl5 #[.val (.ref x0), .val (.int x1), .unset, .unset, .unset] rfl ?_
  intro p e s m below meth c T B hret hlk hnm
  · refine o_aloadN B 0 1 (v := (.ref x0)) d5_0 rfl rfl rfl ?_
    refine o_alenI B 1 2 A0 (2 : Int32) d5_1 rfl (by decide) ?_
    refine o_istoreN B 2 3 (l' := #[.val (.ref x0), .val (.int x1), .val (.int (2 : Int32)), .unset, .unset]) d5_2 rfl rfl ?_
    refine o_iloadN B 3 4 (v := x1) d5_3 rfl rfl ?_
    refine o_iconst B 4 5 (1 : Int32) d5_4 rfl (by decide) ?_
    refine o_isub B 5 6 d5_5 rfl ?_
    refine o_aloadN B 6 7 (v := (.ref x0)) d5_6 rfl rfl rfl ?_
    refine o_iconst B 7 8 (0 : Int32) d5_7 rfl (by decide) ?_
    refine o_iaload B 8 9 A0 0 (g 0) d5_8 rfl (by decide) (by decide) (by decide) rfl ?_
    refine o_isub B 9 10 d5_9 rfl ?_
    refine o_i2l B 10 11 d5_10 rfl ?_
    refine o_iloadN B 11 12 (v := (2 : Int32)) d5_11 rfl rfl ?_
    obtain ⟨T3, B3, c3⟩ := o_callP B 12 15 d5_12 rfl (hw _ (List.mem_of_getElem? (i := 10) rfl)) (hw _ (List.mem_of_getElem? (i := 11) rfl)) (hw _ (List.mem_of_getElem? (i := 3) rfl)) (hw _ (List.mem_of_getElem? (i := 12) rfl)) (by decide) (rm3 l Z a0 hw ((x1 - (1 : Int32)) - (g 0)).toInt64 (2 : Int32) h0 ) 0 [(.long ((x1 - (1 : Int32)) - (g 0)).toInt64), (.int (2 : Int32))] [] pd__JI_J rfl rfl (st := [(.int (2 : Int32)), (.long ((x1 - (1 : Int32)) - (g 0)).toInt64)]) rfl (Ls := #[.val (.ref x0), .val (.int x1), .val (.int (2 : Int32)), .unset, .unset]) rfl (Nat.le_of_eq rfl) (by decide) (by decide) (by decide) (by decide)
    refine c3 ?_
    refine o_lstoreN B3 15 16 (l' := #[.val (.ref x0), .val (.int x1), .val (.int (2 : Int32)), .val (.long (q5_2_1 g x1)), .second]) d5_15 rfl rfl ?_
    refine o_iloadN B3 16 17 (v := (2 : Int32)) d5_16 rfl rfl ?_
    refine o_iconst B3 17 18 (1 : Int32) d5_17 rfl (by decide) ?_
    refine o_icN B3 18 21 d5_18 rfl (XT.ii_le_f (by decide)) ?_
    refine o_lloadN B3 21 22 (v := (q5_2_1 g x1)) d5_21 rfl rfl ?_
    refine o_iloadN B3 22 23 (v := x1) d5_22 rfl rfl ?_
    refine o_iconst B3 23 24 (1 : Int32) d5_23 rfl (by decide) ?_
    refine o_isub B3 24 25 d5_24 rfl ?_
    refine o_aloadN B3 25 26 (v := (.ref x0)) d5_25 rfl rfl rfl ?_
    refine o_iconst B3 26 27 (1 : Int32) d5_26 rfl (by decide) ?_
    refine o_iaload B3 27 28 A0 1 (g 1) d5_27 rfl (by decide) (by decide) (by decide) rfl ?_
    refine o_isub B3 28 29 d5_28 rfl ?_
    refine o_i2l B3 29 30 d5_29 rfl ?_
    refine o_iloadN B3 30 31 (v := (2 : Int32)) d5_30 rfl rfl ?_
    refine o_iconst B3 31 32 (1 : Int32) d5_31 rfl (by decide) ?_
    refine o_isub B3 32 33 d5_32 rfl ?_
    refine o_topI (show ((2 : Int32) - (1 : Int32)) = (1 : Int32) by decide) ?_
    obtain ⟨T5, B5, c5⟩ := o_callP B3 33 36 d5_33 rfl (hw _ (List.mem_of_getElem? (i := 10) rfl)) (hw _ (List.mem_of_getElem? (i := 11) rfl)) (hw _ (List.mem_of_getElem? (i := 3) rfl)) (hw _ (List.mem_of_getElem? (i := 12) rfl)) (by decide) (rm3 l Z a0 hw ((x1 - (1 : Int32)) - (g 1)).toInt64 (1 : Int32) h0 ) 2 [(.long ((x1 - (1 : Int32)) - (g 1)).toInt64), (.int (1 : Int32))] [(.long (q5_2_1 g x1))] pd__JI_J rfl rfl (st := [(.int (1 : Int32)), (.long ((x1 - (1 : Int32)) - (g 1)).toInt64), (.long (q5_2_1 g x1))]) rfl (Ls := #[.val (.ref x0), .val (.int x1), .val (.int (2 : Int32)), .val (.long (q5_2_1 g x1)), .second]) rfl (Nat.le_of_eq rfl) (by decide) (by decide) (by decide) (by decide)
    refine c5 ?_
    refine o_ladd B5 36 37 d5_36 rfl ?_
    refine o_lstoreN B5 37 38 (l' := #[.val (.ref x0), .val (.int x1), .val (.int (2 : Int32)), .val (.long ((q5_2_1 g x1) + (q5_2_2 g x1))), .second]) d5_37 rfl rfl ?_
    refine o_iloadN B5 38 39 (v := (2 : Int32)) d5_38 rfl rfl ?_
    refine o_iconst B5 39 40 (2 : Int32) d5_39 rfl (by decide) ?_
    refine o_icY B5 40 60 d5_40 (XT.ii_le_t (by decide)) (by decide) (by decide) ?_
    refine o_iloadN B5 60 61 (v := (2 : Int32)) d5_60 rfl rfl ?_
    refine o_iconst B5 61 62 (3 : Int32) d5_61 rfl (by decide) ?_
    refine o_icY B5 62 82 d5_62 (XT.ii_le_t (by decide)) (by decide) (by decide) ?_
    refine o_iloadN B5 82 83 (v := x1) d5_82 rfl rfl ?_
    refine o_i2l B5 83 84 d5_83 rfl ?_
    refine o_iloadN B5 84 85 (v := (2 : Int32)) d5_84 rfl rfl ?_
    obtain ⟨T6, B6, c6⟩ := o_callP B5 85 88 d5_85 rfl (hw _ (List.mem_of_getElem? (i := 10) rfl)) (hw _ (List.mem_of_getElem? (i := 11) rfl)) (hw _ (List.mem_of_getElem? (i := 3) rfl)) (hw _ (List.mem_of_getElem? (i := 12) rfl)) (by decide) (rm3 l Z a0 hw x1.toInt64 (2 : Int32) h0 ) 0 [(.long x1.toInt64), (.int (2 : Int32))] [] pd__JI_J rfl rfl (st := [(.int (2 : Int32)), (.long x1.toInt64)]) rfl (Ls := #[.val (.ref x0), .val (.int x1), .val (.int (2 : Int32)), .val (.long ((q5_2_1 g x1) + (q5_2_2 g x1))), .second]) rfl (Nat.le_of_eq rfl) (by decide) (by decide) (by decide) (by decide)
    refine c6 ?_
    refine o_lconst B6 88 89 (1 : Int64) d5_88 rfl (by decide) ?_
    refine o_lsub B6 89 90 d5_89 rfl ?_
    refine o_lloadN B6 90 91 (v := ((q5_2_1 g x1) + (q5_2_2 g x1))) d5_90 rfl rfl ?_
    refine o_lsub B6 91 92 d5_91 rfl ?_
    refine o_retL B6 92 d5_92 hret hlk (by decide) (by decide) ⟨(congrArg (fun z => some (Value.long z)) (show f5_2 g x1 = (((f3 x1.toInt64 (2 : Int32)) - (1 : Int64)) - ((q5_2_1 g x1) + (q5_2_2 g x1))) from rfl)).symm, rfl, rfl⟩
def f6_2_0 (g : Nat → Int32) (k_ : Nat → Int32) (x2 : Int32) : Int32 := (if (0 : Int32) < x2 then (if (g 0) = (k_ 0) then (1 : Int32) else (0 : Int32)) else (if (0 : Int32) = x2 then (if (g 0) = (k_ 0) then (0 : Int32) else (1 : Int32)) else (1 : Int32)))
set_option maxRecDepth 65536 in
set_option maxHeartbeats 40000000 in
theorem rm6_2_0 (l : Launch) (Z : State) (a0 : Array Value) (hw : ∀ d ∈ tables_1, d.before a0 Z = true) (g : Nat → Int32) (k_ : Nat → Int32) (x0 : Addr) (x1 : Addr) (x2 : Int32) (h0 : Heap) (A0 : AI Z h0 x0 .int 2 g) (A1 : AI Z h0 x1 .int 2 k_) :
    Met l Z (⟨"com/example/crosshatch/crosshatch/design/ParameterSetsAdvancePinLaw", "place", "([I[III)Z"⟩ : MethodName) method_4_code 4 (some .boolean) ({ frames := 0, cells := 0, slots := 0, locals := 0 } : Room) #[(.ref x0), (.ref x1), (.int x2), (.int (0 : Int32))] h0 (Pu (some (.int (f6_2_0 g k_ x2))) h0) := by
  refine enter pl6 #[.val (.ref x0), .val (.ref x1), .val (.int x2), .val (.int (0 : Int32))] rfl ?_
  intro p e s m below meth c T B hret hlk hnm
  · refine o_iloadN B 0 1 (v := (0 : Int32)) d6_0 rfl rfl ?_
    refine o_aloadN B 1 2 (v := (.ref x0)) d6_1 rfl rfl rfl ?_
    refine o_alenI B 2 3 A0 (2 : Int32) d6_2 rfl (by decide) ?_
    refine o_icY B 3 8 d6_3 (XT.ii_lt_t (by decide)) (by decide) (by decide) ?_
    refine o_iloadN B 8 9 (v := (0 : Int32)) d6_8 rfl rfl ?_
    refine o_iloadN B 9 10 (v := x2) d6_9 rfl rfl ?_
    by_cases k1 : (0 : Int32) < x2
    · refine o_icN B 10 13 d6_10 rfl (XT.ii_ge_f k1) ?_
      refine o_aloadN B 13 14 (v := (.ref x0)) d6_13 rfl rfl rfl ?_
      refine o_iloadN B 14 15 (v := (0 : Int32)) d6_14 rfl rfl ?_
      refine o_iaload B 15 16 A0 0 (g 0) d6_15 rfl (by decide) (by decide) (by decide) rfl ?_
      refine o_aloadN B 16 17 (v := (.ref x1)) d6_16 rfl rfl rfl ?_
      refine o_iloadN B 17 18 (v := (0 : Int32)) d6_17 rfl rfl ?_
      refine o_iaload B 18 19 A1 0 (k_ 0) d6_18 rfl (by decide) (by decide) (by decide) rfl ?_
      by_cases k2 : (g 0) = (k_ 0)
      · refine o_icN B 19 22 d6_19 rfl (XT.ii_ne_f k2) ?_
        refine o_iconst B 22 23 (1 : Int32) d6_22 rfl (by decide) ?_
        refine o_goto B 23 27 d6_23 (by decide) (by decide) ?_
        refine o_retZ (t := .boolean) B 27 d6_27 hret hlk (by simp) (by decide) (by decide) ⟨(congrArg (fun z => some (Value.int z)) ((show nar .boolean (1 : Int32) = (1 : Int32) from rfl).trans (show f6_2_0 g k_ x2 = (1 : Int32) from (if_pos k1).trans ((if_pos k2).trans (rfl))).symm)), rfl, rfl⟩
      · refine o_icY B 19 26 d6_19 (XT.ii_ne_t k2) (by decide) (by decide) ?_
        refine o_iconst B 26 27 (0 : Int32) d6_26 rfl (by decide) ?_
        refine o_retZ (t := .boolean) B 27 d6_27 hret hlk (by simp) (by decide) (by decide) ⟨(congrArg (fun z => some (Value.int z)) ((show nar .boolean (0 : Int32) = (0 : Int32) from rfl).trans (show f6_2_0 g k_ x2 = (0 : Int32) from (if_pos k1).trans ((if_neg k2).trans (rfl))).symm)), rfl, rfl⟩
    · refine o_icY B 10 28 d6_10 (XT.ii_ge_t k1) (by decide) (by decide) ?_
      refine o_iloadN B 28 29 (v := (0 : Int32)) d6_28 rfl rfl ?_
      refine o_iloadN B 29 30 (v := x2) d6_29 rfl rfl ?_
      by_cases k3 : (0 : Int32) = x2
      · refine o_icN B 30 33 d6_30 rfl (XT.ii_ne_f k3) ?_
        refine o_aloadN B 33 34 (v := (.ref x0)) d6_33 rfl rfl rfl ?_
        refine o_iloadN B 34 35 (v := (0 : Int32)) d6_34 rfl rfl ?_
        refine o_iaload B 35 36 A0 0 (g 0) d6_35 rfl (by decide) (by decide) (by decide) rfl ?_
        refine o_aloadN B 36 37 (v := (.ref x1)) d6_36 rfl rfl rfl ?_
        refine o_iloadN B 37 38 (v := (0 : Int32)) d6_37 rfl rfl ?_
        refine o_iaload B 38 39 A1 0 (k_ 0) d6_38 rfl (by decide) (by decide) (by decide) rfl ?_
        by_cases k4 : (g 0) = (k_ 0)
        · refine o_icY B 39 46 d6_39 (XT.ii_eq_t k4) (by decide) (by decide) ?_
          refine o_iconst B 46 47 (0 : Int32) d6_46 rfl (by decide) ?_
          refine o_retZ (t := .boolean) B 47 d6_47 hret hlk (by simp) (by decide) (by decide) ⟨(congrArg (fun z => some (Value.int z)) ((show nar .boolean (0 : Int32) = (0 : Int32) from rfl).trans (show f6_2_0 g k_ x2 = (0 : Int32) from (if_neg k1).trans ((if_pos k3).trans ((if_pos k4).trans (rfl)))).symm)), rfl, rfl⟩
        · refine o_icN B 39 42 d6_39 rfl (XT.ii_eq_f k4) ?_
          refine o_iconst B 42 43 (1 : Int32) d6_42 rfl (by decide) ?_
          refine o_goto B 43 47 d6_43 (by decide) (by decide) ?_
          refine o_retZ (t := .boolean) B 47 d6_47 hret hlk (by simp) (by decide) (by decide) ⟨(congrArg (fun z => some (Value.int z)) ((show nar .boolean (1 : Int32) = (1 : Int32) from rfl).trans (show f6_2_0 g k_ x2 = (1 : Int32) from (if_neg k1).trans ((if_pos k3).trans ((if_neg k4).trans (rfl)))).symm)), rfl, rfl⟩
      · refine o_icY B 30 48 d6_30 (XT.ii_ne_t k3) (by decide) (by decide) ?_
        refine o_iconst B 48 49 (1 : Int32) d6_48 rfl (by decide) ?_
        refine o_retZ (t := .boolean) B 49 d6_49 hret hlk (by simp) (by decide) (by decide) ⟨(congrArg (fun z => some (Value.int z)) ((show nar .boolean (1 : Int32) = (1 : Int32) from rfl).trans (show f6_2_0 g k_ x2 = (1 : Int32) from (if_neg k1).trans ((if_neg k3).trans (rfl))).symm)), rfl, rfl⟩
def f6_2_1 (g : Nat → Int32) (k_ : Nat → Int32) (x2 : Int32) : Int32 := (if (1 : Int32) < x2 then (if (g 1) = (k_ 1) then (1 : Int32) else (0 : Int32)) else (if (1 : Int32) = x2 then (if (g 1) = (k_ 1) then (0 : Int32) else (1 : Int32)) else (1 : Int32)))
set_option maxRecDepth 65536 in
set_option maxHeartbeats 40000000 in
theorem rm6_2_1 (l : Launch) (Z : State) (a0 : Array Value) (hw : ∀ d ∈ tables_1, d.before a0 Z = true) (g : Nat → Int32) (k_ : Nat → Int32) (x0 : Addr) (x1 : Addr) (x2 : Int32) (h0 : Heap) (A0 : AI Z h0 x0 .int 2 g) (A1 : AI Z h0 x1 .int 2 k_) :
    Met l Z (⟨"com/example/crosshatch/crosshatch/design/ParameterSetsAdvancePinLaw", "place", "([I[III)Z"⟩ : MethodName) method_4_code 4 (some .boolean) ({ frames := 0, cells := 0, slots := 0, locals := 0 } : Room) #[(.ref x0), (.ref x1), (.int x2), (.int (1 : Int32))] h0 (Pu (some (.int (f6_2_1 g k_ x2))) h0) := by
  refine enter pl6 #[.val (.ref x0), .val (.ref x1), .val (.int x2), .val (.int (1 : Int32))] rfl ?_
  intro p e s m below meth c T B hret hlk hnm
  · refine o_iloadN B 0 1 (v := (1 : Int32)) d6_0 rfl rfl ?_
    refine o_aloadN B 1 2 (v := (.ref x0)) d6_1 rfl rfl rfl ?_
    refine o_alenI B 2 3 A0 (2 : Int32) d6_2 rfl (by decide) ?_
    refine o_icY B 3 8 d6_3 (XT.ii_lt_t (by decide)) (by decide) (by decide) ?_
    refine o_iloadN B 8 9 (v := (1 : Int32)) d6_8 rfl rfl ?_
    refine o_iloadN B 9 10 (v := x2) d6_9 rfl rfl ?_
    by_cases k1 : (1 : Int32) < x2
    · refine o_icN B 10 13 d6_10 rfl (XT.ii_ge_f k1) ?_
      refine o_aloadN B 13 14 (v := (.ref x0)) d6_13 rfl rfl rfl ?_
      refine o_iloadN B 14 15 (v := (1 : Int32)) d6_14 rfl rfl ?_
      refine o_iaload B 15 16 A0 1 (g 1) d6_15 rfl (by decide) (by decide) (by decide) rfl ?_
      refine o_aloadN B 16 17 (v := (.ref x1)) d6_16 rfl rfl rfl ?_
      refine o_iloadN B 17 18 (v := (1 : Int32)) d6_17 rfl rfl ?_
      refine o_iaload B 18 19 A1 1 (k_ 1) d6_18 rfl (by decide) (by decide) (by decide) rfl ?_
      by_cases k2 : (g 1) = (k_ 1)
      · refine o_icN B 19 22 d6_19 rfl (XT.ii_ne_f k2) ?_
        refine o_iconst B 22 23 (1 : Int32) d6_22 rfl (by decide) ?_
        refine o_goto B 23 27 d6_23 (by decide) (by decide) ?_
        refine o_retZ (t := .boolean) B 27 d6_27 hret hlk (by simp) (by decide) (by decide) ⟨(congrArg (fun z => some (Value.int z)) ((show nar .boolean (1 : Int32) = (1 : Int32) from rfl).trans (show f6_2_1 g k_ x2 = (1 : Int32) from (if_pos k1).trans ((if_pos k2).trans (rfl))).symm)), rfl, rfl⟩
      · refine o_icY B 19 26 d6_19 (XT.ii_ne_t k2) (by decide) (by decide) ?_
        refine o_iconst B 26 27 (0 : Int32) d6_26 rfl (by decide) ?_
        refine o_retZ (t := .boolean) B 27 d6_27 hret hlk (by simp) (by decide) (by decide) ⟨(congrArg (fun z => some (Value.int z)) ((show nar .boolean (0 : Int32) = (0 : Int32) from rfl).trans (show f6_2_1 g k_ x2 = (0 : Int32) from (if_pos k1).trans ((if_neg k2).trans (rfl))).symm)), rfl, rfl⟩
    · refine o_icY B 10 28 d6_10 (XT.ii_ge_t k1) (by decide) (by decide) ?_
      refine o_iloadN B 28 29 (v := (1 : Int32)) d6_28 rfl rfl ?_
      refine o_iloadN B 29 30 (v := x2) d6_29 rfl rfl ?_
      by_cases k3 : (1 : Int32) = x2
      · refine o_icN B 30 33 d6_30 rfl (XT.ii_ne_f k3) ?_
        refine o_aloadN B 33 34 (v := (.ref x0)) d6_33 rfl rfl rfl ?_
        refine o_iloadN B 34 35 (v := (1 : Int32)) d6_34 rfl rfl ?_
        refine o_iaload B 35 36 A0 1 (g 1) d6_35 rfl (by decide) (by decide) (by decide) rfl ?_
        refine o_aloadN B 36 37 (v := (.ref x1)) d6_36 rfl rfl rfl ?_
        refine o_iloadN B 37 38 (v := (1 : Int32)) d6_37 rfl rfl ?_
        refine o_iaload B 38 39 A1 1 (k_ 1) d6_38 rfl (by decide) (by decide) (by decide) rfl ?_
        by_cases k4 : (g 1) = (k_ 1)
        · refine o_icY B 39 46 d6_39 (XT.ii_eq_t k4) (by decide) (by decide) ?_
          refine o_iconst B 46 47 (0 : Int32) d6_46 rfl (by decide) ?_
          refine o_retZ (t := .boolean) B 47 d6_47 hret hlk (by simp) (by decide) (by decide) ⟨(congrArg (fun z => some (Value.int z)) ((show nar .boolean (0 : Int32) = (0 : Int32) from rfl).trans (show f6_2_1 g k_ x2 = (0 : Int32) from (if_neg k1).trans ((if_pos k3).trans ((if_pos k4).trans (rfl)))).symm)), rfl, rfl⟩
        · refine o_icN B 39 42 d6_39 rfl (XT.ii_eq_f k4) ?_
          refine o_iconst B 42 43 (1 : Int32) d6_42 rfl (by decide) ?_
          refine o_goto B 43 47 d6_43 (by decide) (by decide) ?_
          refine o_retZ (t := .boolean) B 47 d6_47 hret hlk (by simp) (by decide) (by decide) ⟨(congrArg (fun z => some (Value.int z)) ((show nar .boolean (1 : Int32) = (1 : Int32) from rfl).trans (show f6_2_1 g k_ x2 = (1 : Int32) from (if_neg k1).trans ((if_pos k3).trans ((if_neg k4).trans (rfl)))).symm)), rfl, rfl⟩
      · refine o_icY B 30 48 d6_30 (XT.ii_ne_t k3) (by decide) (by decide) ?_
        refine o_iconst B 48 49 (1 : Int32) d6_48 rfl (by decide) ?_
        refine o_retZ (t := .boolean) B 49 d6_49 hret hlk (by simp) (by decide) (by decide) ⟨(congrArg (fun z => some (Value.int z)) ((show nar .boolean (1 : Int32) = (1 : Int32) from rfl).trans (show f6_2_1 g k_ x2 = (1 : Int32) from (if_neg k1).trans ((if_neg k3).trans (rfl))).symm)), rfl, rfl⟩
def f6_2_2 (g : Nat → Int32) (k_ : Nat → Int32) (x2 : Int32) : Int32 := (1 : Int32)
set_option maxRecDepth 65536 in
set_option maxHeartbeats 40000000 in
theorem rm6_2_2 (l : Launch) (Z : State) (a0 : Array Value) (hw : ∀ d ∈ tables_1, d.before a0 Z = true) (g : Nat → Int32) (k_ : Nat → Int32) (x0 : Addr) (x1 : Addr) (x2 : Int32) (h0 : Heap) (A0 : AI Z h0 x0 .int 2 g) (A1 : AI Z h0 x1 .int 2 k_) :
    Met l Z (⟨"com/example/crosshatch/crosshatch/design/ParameterSetsAdvancePinLaw", "place", "([I[III)Z"⟩ : MethodName) method_4_code 4 (some .boolean) ({ frames := 0, cells := 0, slots := 0, locals := 0 } : Room) #[(.ref x0), (.ref x1), (.int x2), (.int (2 : Int32))] h0 (Pu (some (.int (f6_2_2 g k_ x2))) h0) := by
  refine enter pl6 #[.val (.ref x0), .val (.ref x1), .val (.int x2), .val (.int (2 : Int32))] rfl ?_
  intro p e s m below meth c T B hret hlk hnm
  · refine o_iloadN B 0 1 (v := (2 : Int32)) d6_0 rfl rfl ?_
    refine o_aloadN B 1 2 (v := (.ref x0)) d6_1 rfl rfl rfl ?_
    refine o_alenI B 2 3 A0 (2 : Int32) d6_2 rfl (by decide) ?_
    refine o_icN B 3 6 d6_3 rfl (XT.ii_lt_f (by decide)) ?_
    refine o_iconst B 6 7 (1 : Int32) d6_6 rfl (by decide) ?_
    refine o_retZ (t := .boolean) B 7 d6_7 hret hlk (by simp) (by decide) (by decide) ⟨(congrArg (fun z => some (Value.int z)) ((show nar .boolean (1 : Int32) = (1 : Int32) from rfl).trans (show f6_2_2 g k_ x2 = (1 : Int32) from rfl).symm)), rfl, rfl⟩
def f6_2_3 (g : Nat → Int32) (k_ : Nat → Int32) (x2 : Int32) : Int32 := (1 : Int32)
set_option maxRecDepth 65536 in
set_option maxHeartbeats 40000000 in
theorem rm6_2_3 (l : Launch) (Z : State) (a0 : Array Value) (hw : ∀ d ∈ tables_1, d.before a0 Z = true) (g : Nat → Int32) (k_ : Nat → Int32) (x0 : Addr) (x1 : Addr) (x2 : Int32) (h0 : Heap) (A0 : AI Z h0 x0 .int 2 g) (A1 : AI Z h0 x1 .int 2 k_) :
    Met l Z (⟨"com/example/crosshatch/crosshatch/design/ParameterSetsAdvancePinLaw", "place", "([I[III)Z"⟩ : MethodName) method_4_code 4 (some .boolean) ({ frames := 0, cells := 0, slots := 0, locals := 0 } : Room) #[(.ref x0), (.ref x1), (.int x2), (.int (3 : Int32))] h0 (Pu (some (.int (f6_2_3 g k_ x2))) h0) := by
  refine enter pl6 #[.val (.ref x0), .val (.ref x1), .val (.int x2), .val (.int (3 : Int32))] rfl ?_
  intro p e s m below meth c T B hret hlk hnm
  · refine o_iloadN B 0 1 (v := (3 : Int32)) d6_0 rfl rfl ?_
    refine o_aloadN B 1 2 (v := (.ref x0)) d6_1 rfl rfl rfl ?_
    refine o_alenI B 2 3 A0 (2 : Int32) d6_2 rfl (by decide) ?_
    refine o_icN B 3 6 d6_3 rfl (XT.ii_lt_f (by decide)) ?_
    refine o_iconst B 6 7 (1 : Int32) d6_6 rfl (by decide) ?_
    refine o_retZ (t := .boolean) B 7 d6_7 hret hlk (by simp) (by decide) (by decide) ⟨(congrArg (fun z => some (Value.int z)) ((show nar .boolean (1 : Int32) = (1 : Int32) from rfl).trans (show f6_2_3 g k_ x2 = (1 : Int32) from rfl).symm)), rfl, rfl⟩
def f7_2 (g : Nat → Int32) (k_ : Nat → Int32) : Int32 := (if (g 0) = (k_ 0) then (if (g 1) = (k_ 1) then (1 : Int32) else (0 : Int32)) else (0 : Int32))
set_option maxRecDepth 65536 in
set_option maxHeartbeats 40000000 in
theorem rm7_2 (l : Launch) (Z : State) (a0 : Array Value) (hw : ∀ d ∈ tables_1, d.before a0 Z = true) (g : Nat → Int32) (k_ : Nat → Int32) (x0 : Addr) (x1 : Addr) (h0 : Heap) (A0 : AI Z h0 x0 .int 2 g) (A1 : AI Z h0 x1 .int 2 k_) :
    Met l Z (⟨"com/example/crosshatch/crosshatch/design/ParameterSetsAdvancePinLaw", "same", "([I[I)Z"⟩ : MethodName) method_5_code 3 (some .boolean) ({ frames := 0, cells := 0, slots := 0, locals := 0 } : Room) #[(.ref x0), (.ref x1)] h0 (Pu (some (.int (f7_2 g k_))) h0) := by
  refine enter pl7 #[.val (.ref x0), .val (.ref x1), .unset] rfl ?_
  intro p e s m below meth c T B hret hlk hnm
  · refine o_aloadN B 0 1 (v := (.ref x1)) d7_0 rfl rfl rfl ?_
    refine o_alenI B 1 2 A1 (2 : Int32) d7_1 rfl (by decide) ?_
    refine o_istoreN B 2 3 (l' := #[.val (.ref x0), .val (.ref x1), .val (.int (2 : Int32))]) d7_2 rfl rfl ?_
    refine o_aloadN B 3 4 (v := (.ref x0)) d7_3 rfl rfl rfl ?_
    refine o_alenI B 4 5 A0 (2 : Int32) d7_4 rfl (by decide) ?_
    refine o_iloadN B 5 6 (v := (2 : Int32)) d7_5 rfl rfl ?_
    refine o_icY B 6 11 d7_6 (XT.ii_eq_t (by decide)) (by decide) (by decide) ?_
    refine o_aloadN B 11 12 (v := (.ref x0)) d7_11 rfl rfl rfl ?_
    refine o_iconst B 12 13 (0 : Int32) d7_12 rfl (by decide) ?_
    refine o_iaload B 13 14 A0 0 (g 0) d7_13 rfl (by decide) (by decide) (by decide) rfl ?_
    refine o_aloadN B 14 15 (v := (.ref x1)) d7_14 rfl rfl rfl ?_
    refine o_iconst B 15 16 (0 : Int32) d7_15 rfl (by decide) ?_
    refine o_iaload B 16 17 A1 0 (k_ 0) d7_16 rfl (by decide) (by decide) (by decide) rfl ?_
    by_cases k1 : (g 0) = (k_ 0)
    · refine o_icY B 17 22 d7_17 (XT.ii_eq_t k1) (by decide) (by decide) ?_
      refine o_iloadN B 22 23 (v := (2 : Int32)) d7_22 rfl rfl ?_
      refine o_iconst B 23 24 (1 : Int32) d7_23 rfl (by decide) ?_
      refine o_icN B 24 27 d7_24 rfl (XT.ii_le_f (by decide)) ?_
      refine o_aloadN B 27 28 (v := (.ref x0)) d7_27 rfl rfl rfl ?_
      refine o_iconst B 28 29 (1 : Int32) d7_28 rfl (by decide) ?_
      refine o_iaload B 29 30 A0 1 (g 1) d7_29 rfl (by decide) (by decide) (by decide) rfl ?_
      refine o_aloadN B 30 31 (v := (.ref x1)) d7_30 rfl rfl rfl ?_
      refine o_iconst B 31 32 (1 : Int32) d7_31 rfl (by decide) ?_
      refine o_iaload B 32 33 A1 1 (k_ 1) d7_32 rfl (by decide) (by decide) (by decide) rfl ?_
      by_cases k2 : (g 1) = (k_ 1)
      · refine o_icY B 33 38 d7_33 (XT.ii_eq_t k2) (by decide) (by decide) ?_
        refine o_iloadN B 38 39 (v := (2 : Int32)) d7_38 rfl rfl ?_
        refine o_iconst B 39 40 (2 : Int32) d7_39 rfl (by decide) ?_
        refine o_icY B 40 54 d7_40 (XT.ii_le_t (by decide)) (by decide) (by decide) ?_
        refine o_iloadN B 54 55 (v := (2 : Int32)) d7_54 rfl rfl ?_
        refine o_iconst B 55 56 (3 : Int32) d7_55 rfl (by decide) ?_
        refine o_icY B 56 70 d7_56 (XT.ii_le_t (by decide)) (by decide) (by decide) ?_
        refine o_iconst B 70 71 (1 : Int32) d7_70 rfl (by decide) ?_
        refine o_retZ (t := .boolean) B 71 d7_71 hret hlk (by simp) (by decide) (by decide) ⟨(congrArg (fun z => some (Value.int z)) ((show nar .boolean (1 : Int32) = (1 : Int32) from rfl).trans (show f7_2 g k_ = (1 : Int32) from (if_pos k1).trans ((if_pos k2).trans (rfl))).symm)), rfl, rfl⟩
      · refine o_icN B 33 36 d7_33 rfl (XT.ii_eq_f k2) ?_
        refine o_iconst B 36 37 (0 : Int32) d7_36 rfl (by decide) ?_
        refine o_retZ (t := .boolean) B 37 d7_37 hret hlk (by simp) (by decide) (by decide) ⟨(congrArg (fun z => some (Value.int z)) ((show nar .boolean (0 : Int32) = (0 : Int32) from rfl).trans (show f7_2 g k_ = (0 : Int32) from (if_pos k1).trans ((if_neg k2).trans (rfl))).symm)), rfl, rfl⟩
    · refine o_icN B 17 20 d7_17 rfl (XT.ii_eq_f k1) ?_
      refine o_iconst B 20 21 (0 : Int32) d7_20 rfl (by decide) ?_
      refine o_retZ (t := .boolean) B 21 d7_21 hret hlk (by simp) (by decide) (by decide) ⟨(congrArg (fun z => some (Value.int z)) ((show nar .boolean (0 : Int32) = (0 : Int32) from rfl).trans (show f7_2 g k_ = (0 : Int32) from (if_neg k1).trans (rfl)).symm)), rfl, rfl⟩
def w2_3_1 (g : Nat → Int32) (x1 : Int32) : Nat → Int32 := fun j => if j = 0 then ((g 0) + (1 : Int32)) else g j
def w2_3_2 (g : Nat → Int32) (x1 : Int32) : Nat → Int32 := fun j => if j = 1 then (((w2_3_1 g x1) 0) + (1 : Int32)) else (w2_3_1 g x1) j
def w2_3_3 (g : Nat → Int32) (x1 : Int32) : Nat → Int32 := fun j => if j = 2 then (((w2_3_2 g x1) 1) + (1 : Int32)) else (w2_3_2 g x1) j
def w2_3_4 (g : Nat → Int32) (x1 : Int32) : Nat → Int32 := fun j => if j = 1 then ((g 1) + (1 : Int32)) else g j
def w2_3_5 (g : Nat → Int32) (x1 : Int32) : Nat → Int32 := fun j => if j = 2 then (((w2_3_4 g x1) 1) + (1 : Int32)) else (w2_3_4 g x1) j
def w2_3_6 (g : Nat → Int32) (x1 : Int32) : Nat → Int32 := fun j => if j = 2 then ((g 2) + (1 : Int32)) else g j
def f2_3 (g : Nat → Int32) (x1 : Int32) : Int32 := (if (g 2) = ((x1 - (3 : Int32)) + (2 : Int32)) then (if (g 1) = ((x1 - (3 : Int32)) + (1 : Int32)) then (if (g 0) = ((x1 - (3 : Int32)) + (0 : Int32)) then (-1 : Int32) else (0 : Int32)) else (1 : Int32)) else (2 : Int32))
def o2_3_0 (g : Nat → Int32) (x1 : Int32) : Nat → Int32 := (if (g 2) = ((x1 - (3 : Int32)) + (2 : Int32)) then (if (g 1) = ((x1 - (3 : Int32)) + (1 : Int32)) then (if (g 0) = ((x1 - (3 : Int32)) + (0 : Int32)) then g else (w2_3_3 g x1)) else (w2_3_5 g x1)) else (w2_3_6 g x1))
def Q2_3 (Z : State) (g : Nat → Int32) (x0 : Addr) (x1 : Int32) (h0 : Heap) (n0 : Nat) (v : Option Value) (h : Heap) (L : List Loc) : Prop := v = some (.int (f2_3 g x1)) ∧ Fr n0 L ∧ Keep h0 h [x0] ∧ AI Z h x0 .int 3 (o2_3_0 g x1)
set_option maxRecDepth 65536 in
set_option maxHeartbeats 40000000 in
theorem rm2_3 (l : Launch) (Z : State) (a0 : Array Value) (hw : ∀ d ∈ tables_1, d.before a0 Z = true) (g : Nat → Int32) (x0 : Addr) (x1 : Int32) (h0 : Heap) (n0 : Nat) (hz : n0 ≤ h0.size) (A0 : AI Z h0 x0 .int 3 g) (gw_x0 : n0 ≤ x0) :
    Met l Z (⟨"com/example/crosshatch/crosshatch/design/ParameterSets", "advance", "([II)I"⟩ : MethodName) prog_6_method_5_code 4 (some .int) ({ frames := 0, cells := 0, slots := 0, locals := 0 } : Room) #[(.ref x0), (.int x1)] h0 (Q2_3 Z g x0 x1 h0 n0) := by
  refine enter pl2 #[.val (.ref x0), .val (.int x1), .unset, .unset] rfl ?_
  intro p e s m below meth c T B hret hlk hnm
  have N0 := Fr.nil n0
  refine o_aloadN B 0 1 (v := (.ref x0)) d2_0 rfl rfl rfl ?_
  refine o_alenI B 1 2 A0 (3 : Int32) d2_1 rfl (by decide) ?_
  refine o_iconst B 2 3 (1 : Int32) d2_2 rfl (by decide) ?_
  refine o_isub B 3 4 d2_3 rfl ?_
  refine o_topI (show ((3 : Int32) - (1 : Int32)) = (2 : Int32) by decide) ?_
  refine o_istoreN B 4 5 (l' := #[.val (.ref x0), .val (.int x1), .val (.int (2 : Int32)), .unset]) d2_4 rfl rfl ?_
  refine o_iloadN B 5 6 (v := (2 : Int32)) d2_5 rfl rfl ?_
  refine o_ifN B 6 9 d2_6 rfl (XT.i0_lt_f (by decide)) ?_
  refine o_aloadN B 9 10 (v := (.ref x0)) d2_9 rfl rfl rfl ?_
  refine o_iloadN B 10 11 (v := (2 : Int32)) d2_10 rfl rfl ?_
  refine o_iaload B 11 12 A0 2 (g 2) d2_11 rfl (by decide) (by decide) (by decide) rfl ?_
  refine o_iloadN B 12 13 (v := x1) d2_12 rfl rfl ?_
  refine o_aloadN B 13 14 (v := (.ref x0)) d2_13 rfl rfl rfl ?_
  refine o_alenI B 14 15 A0 (3 : Int32) d2_14 rfl (by decide) ?_
  refine o_isub B 15 16 d2_15 rfl ?_
  refine o_iloadN B 16 17 (v := (2 : Int32)) d2_16 rfl rfl ?_
  refine o_iadd B 17 18 d2_17 rfl ?_
  by_cases k1 : (g 2) = ((x1 - (3 : Int32)) + (2 : Int32))
  · refine o_icN B 18 21 d2_18 rfl (XT.ii_ne_f k1) ?_
    refine o_iincC B 21 24 (l' := #[.val (.ref x0), .val (.int x1), .val (.int (1 : Int32)), .unset]) (-1 : Int32) (1 : Int32) d2_21 rfl (by decide) rfl (by decide) rfl ?_
    refine o_goto B 24 5 d2_24 (by decide) (by decide) ?_
    refine o_iloadN B 5 6 (v := (1 : Int32)) d2_5 rfl rfl ?_
    refine o_ifN B 6 9 d2_6 rfl (XT.i0_lt_f (by decide)) ?_
    refine o_aloadN B 9 10 (v := (.ref x0)) d2_9 rfl rfl rfl ?_
    refine o_iloadN B 10 11 (v := (1 : Int32)) d2_10 rfl rfl ?_
    refine o_iaload B 11 12 A0 1 (g 1) d2_11 rfl (by decide) (by decide) (by decide) rfl ?_
    refine o_iloadN B 12 13 (v := x1) d2_12 rfl rfl ?_
    refine o_aloadN B 13 14 (v := (.ref x0)) d2_13 rfl rfl rfl ?_
    refine o_alenI B 14 15 A0 (3 : Int32) d2_14 rfl (by decide) ?_
    refine o_isub B 15 16 d2_15 rfl ?_
    refine o_iloadN B 16 17 (v := (1 : Int32)) d2_16 rfl rfl ?_
    refine o_iadd B 17 18 d2_17 rfl ?_
    by_cases k2 : (g 1) = ((x1 - (3 : Int32)) + (1 : Int32))
    · refine o_icN B 18 21 d2_18 rfl (XT.ii_ne_f k2) ?_
      refine o_iincC B 21 24 (l' := #[.val (.ref x0), .val (.int x1), .val (.int (0 : Int32)), .unset]) (-1 : Int32) (0 : Int32) d2_21 rfl (by decide) rfl (by decide) rfl ?_
      refine o_goto B 24 5 d2_24 (by decide) (by decide) ?_
      refine o_iloadN B 5 6 (v := (0 : Int32)) d2_5 rfl rfl ?_
      refine o_ifN B 6 9 d2_6 rfl (XT.i0_lt_f (by decide)) ?_
      refine o_aloadN B 9 10 (v := (.ref x0)) d2_9 rfl rfl rfl ?_
      refine o_iloadN B 10 11 (v := (0 : Int32)) d2_10 rfl rfl ?_
      refine o_iaload B 11 12 A0 0 (g 0) d2_11 rfl (by decide) (by decide) (by decide) rfl ?_
      refine o_iloadN B 12 13 (v := x1) d2_12 rfl rfl ?_
      refine o_aloadN B 13 14 (v := (.ref x0)) d2_13 rfl rfl rfl ?_
      refine o_alenI B 14 15 A0 (3 : Int32) d2_14 rfl (by decide) ?_
      refine o_isub B 15 16 d2_15 rfl ?_
      refine o_iloadN B 16 17 (v := (0 : Int32)) d2_16 rfl rfl ?_
      refine o_iadd B 17 18 d2_17 rfl ?_
      by_cases k3 : (g 0) = ((x1 - (3 : Int32)) + (0 : Int32))
      · refine o_icN B 18 21 d2_18 rfl (XT.ii_ne_f k3) ?_
        refine o_iincC B 21 24 (l' := #[.val (.ref x0), .val (.int x1), .val (.int (-1 : Int32)), .unset]) (-1 : Int32) (-1 : Int32) d2_21 rfl (by decide) rfl (by decide) rfl ?_
        refine o_goto B 24 5 d2_24 (by decide) (by decide) ?_
        refine o_iloadN B 5 6 (v := (-1 : Int32)) d2_5 rfl rfl ?_
        refine o_ifY B 6 27 d2_6 (XT.i0_lt_t (by decide)) (by decide) (by decide) ?_
        refine o_iloadN B 27 28 (v := (-1 : Int32)) d2_27 rfl rfl ?_
        refine o_ifN B 28 31 d2_28 rfl (XT.i0_ge_f (by decide)) ?_
        refine o_iconst B 31 32 (-1 : Int32) d2_31 rfl (by decide) ?_
        refine o_retI B 32 d2_32 hret hlk (by decide) (by decide) ⟨(congrArg (fun z => some (Value.int z)) (show f2_3 g x1 = (-1 : Int32) from (if_pos k1).trans ((if_pos k2).trans ((if_pos k3).trans (rfl))))).symm, N0, (Keep.refl h0 [x0]), (by rw [show (o2_3_0 g x1) = g from (if_pos k1).trans ((if_pos k2).trans ((if_pos k3).trans (rfl)))]; exact A0)⟩
      · refine o_icY B 18 27 d2_18 (XT.ii_ne_t k3) (by decide) (by decide) ?_
        refine o_iloadN B 27 28 (v := (0 : Int32)) d2_27 rfl rfl ?_
        refine o_ifY B 28 33 d2_28 (XT.i0_ge_t (by decide)) (by decide) (by decide) ?_
        refine o_aloadN B 33 34 (v := (.ref x0)) d2_33 rfl rfl rfl ?_
        refine o_iloadN B 34 35 (v := (0 : Int32)) d2_34 rfl rfl ?_
        refine o_dup2 B 35 36 d2_35 rfl rfl rfl ?_
        refine o_iaload B 36 37 A0 0 (g 0) d2_36 rfl (by decide) (by decide) (by decide) rfl ?_
        refine o_iconst B 37 38 (1 : Int32) d2_37 rfl (by decide) ?_
        refine o_iadd B 38 39 d2_38 rfl ?_
        obtain ⟨T9, h9, L9, B9, N9, W9, Q9, c9⟩ := o_iastore B N0 gw_x0 39 40 A0 (j := (0 : Int32)) (x := ((g 0) + (1 : Int32))) 0 ((g 0) + (1 : Int32)) d2_39 rfl (by decide) (by decide) (by decide) rfl (Ls := #[.val (.ref x0), .val (.int x1), .val (.int (0 : Int32)), .unset]) (rest := [])
        have A9 : AI Z h9 x0 .int 3 (w2_3_1 g x1) := Q9
        refine c9 ?_
        refine o_iloadN B9 40 41 (v := (0 : Int32)) d2_40 rfl rfl ?_
        refine o_iconst B9 41 42 (1 : Int32) d2_41 rfl (by decide) ?_
        refine o_iadd B9 42 43 d2_42 rfl ?_
        refine o_topI (show ((0 : Int32) + (1 : Int32)) = (1 : Int32) by decide) ?_
        refine o_istoreN B9 43 44 (l' := #[.val (.ref x0), .val (.int x1), .val (.int (0 : Int32)), .val (.int (1 : Int32))]) d2_43 rfl rfl ?_
        refine o_iloadN B9 44 45 (v := (1 : Int32)) d2_44 rfl rfl ?_
        refine o_aloadN B9 45 46 (v := (.ref x0)) d2_45 rfl rfl rfl ?_
        refine o_alenI B9 46 47 A9 (3 : Int32) d2_46 rfl (by decide) ?_
        refine o_icN B9 47 50 d2_47 rfl (XT.ii_ge_f (by decide)) ?_
        refine o_aloadN B9 50 51 (v := (.ref x0)) d2_50 rfl rfl rfl ?_
        refine o_iloadN B9 51 52 (v := (1 : Int32)) d2_51 rfl rfl ?_
        refine o_aloadN B9 52 53 (v := (.ref x0)) d2_52 rfl rfl rfl ?_
        refine o_iloadN B9 53 54 (v := (1 : Int32)) d2_53 rfl rfl ?_
        refine o_iconst B9 54 55 (1 : Int32) d2_54 rfl (by decide) ?_
        refine o_isub B9 55 56 d2_55 rfl ?_
        refine o_topI (show ((1 : Int32) - (1 : Int32)) = (0 : Int32) by decide) ?_
        refine o_iaload B9 56 57 A9 0 ((w2_3_1 g x1) 0) d2_56 rfl (by decide) (by decide) (by decide) rfl ?_
        refine o_iconst B9 57 58 (1 : Int32) d2_57 rfl (by decide) ?_
        refine o_iadd B9 58 59 d2_58 rfl ?_
        obtain ⟨T12, h12, L12, B12, N12, W12, Q12, c12⟩ := o_iastore B9 N9 gw_x0 59 60 A9 (j := (1 : Int32)) (x := (((w2_3_1 g x1) 0) + (1 : Int32))) 1 (((w2_3_1 g x1) 0) + (1 : Int32)) d2_59 rfl (by decide) (by decide) (by decide) rfl (Ls := #[.val (.ref x0), .val (.int x1), .val (.int (0 : Int32)), .val (.int (1 : Int32))]) (rest := [])
        have A12 : AI Z h12 x0 .int 3 (w2_3_2 g x1) := Q12
        refine c12 ?_
        refine o_iincC B12 60 63 (l' := #[.val (.ref x0), .val (.int x1), .val (.int (0 : Int32)), .val (.int (2 : Int32))]) (1 : Int32) (2 : Int32) d2_60 rfl (by decide) rfl (by decide) rfl ?_
        refine o_goto B12 63 44 d2_63 (by decide) (by decide) ?_
        refine o_iloadN B12 44 45 (v := (2 : Int32)) d2_44 rfl rfl ?_
        refine o_aloadN B12 45 46 (v := (.ref x0)) d2_45 rfl rfl rfl ?_
        refine o_alenI B12 46 47 A12 (3 : Int32) d2_46 rfl (by decide) ?_
        refine o_icN B12 47 50 d2_47 rfl (XT.ii_ge_f (by decide)) ?_
        refine o_aloadN B12 50 51 (v := (.ref x0)) d2_50 rfl rfl rfl ?_
        refine o_iloadN B12 51 52 (v := (2 : Int32)) d2_51 rfl rfl ?_
        refine o_aloadN B12 52 53 (v := (.ref x0)) d2_52 rfl rfl rfl ?_
        refine o_iloadN B12 53 54 (v := (2 : Int32)) d2_53 rfl rfl ?_
        refine o_iconst B12 54 55 (1 : Int32) d2_54 rfl (by decide) ?_
        refine o_isub B12 55 56 d2_55 rfl ?_
        refine o_topI (show ((2 : Int32) - (1 : Int32)) = (1 : Int32) by decide) ?_
        refine o_iaload B12 56 57 A12 1 ((w2_3_2 g x1) 1) d2_56 rfl (by decide) (by decide) (by decide) rfl ?_
        refine o_iconst B12 57 58 (1 : Int32) d2_57 rfl (by decide) ?_
        refine o_iadd B12 58 59 d2_58 rfl ?_
        obtain ⟨T15, h15, L15, B15, N15, W15, Q15, c15⟩ := o_iastore B12 N12 gw_x0 59 60 A12 (j := (2 : Int32)) (x := (((w2_3_2 g x1) 1) + (1 : Int32))) 2 (((w2_3_2 g x1) 1) + (1 : Int32)) d2_59 rfl (by decide) (by decide) (by decide) rfl (Ls := #[.val (.ref x0), .val (.int x1), .val (.int (0 : Int32)), .val (.int (2 : Int32))]) (rest := [])
        have A15 : AI Z h15 x0 .int 3 (w2_3_3 g x1) := Q15
        refine c15 ?_
        refine o_iincC B15 60 63 (l' := #[.val (.ref x0), .val (.int x1), .val (.int (0 : Int32)), .val (.int (3 : Int32))]) (1 : Int32) (3 : Int32) d2_60 rfl (by decide) rfl (by decide) rfl ?_
        refine o_goto B15 63 44 d2_63 (by decide) (by decide) ?_
        refine o_iloadN B15 44 45 (v := (3 : Int32)) d2_44 rfl rfl ?_
        refine o_aloadN B15 45 46 (v := (.ref x0)) d2_45 rfl rfl rfl ?_
        refine o_alenI B15 46 47 A15 (3 : Int32) d2_46 rfl (by decide) ?_
        refine o_icY B15 47 66 d2_47 (XT.ii_ge_t (by decide)) (by decide) (by decide) ?_
        refine o_iloadN B15 66 67 (v := (0 : Int32)) d2_66 rfl rfl ?_
        refine o_retI B15 67 d2_67 hret hlk (by decide) (by decide) ⟨(congrArg (fun z => some (Value.int z)) (show f2_3 g x1 = (0 : Int32) from (if_pos k1).trans ((if_pos k2).trans ((if_neg k3).trans (rfl))))).symm, N15, ((((Keep.refl h0 [x0]).wr W9 (Or.inl (List.mem_of_getElem? (i := 0) rfl))).wr W12 (Or.inl (List.mem_of_getElem? (i := 0) rfl))).wr W15 (Or.inl (List.mem_of_getElem? (i := 0) rfl))), (by rw [show (o2_3_0 g x1) = (w2_3_3 g x1) from (if_pos k1).trans ((if_pos k2).trans ((if_neg k3).trans (rfl)))]; exact A15)⟩
    · refine o_icY B 18 27 d2_18 (XT.ii_ne_t k2) (by decide) (by decide) ?_
      refine o_iloadN B 27 28 (v := (1 : Int32)) d2_27 rfl rfl ?_
      refine o_ifY B 28 33 d2_28 (XT.i0_ge_t (by decide)) (by decide) (by decide) ?_
      refine o_aloadN B 33 34 (v := (.ref x0)) d2_33 rfl rfl rfl ?_
      refine o_iloadN B 34 35 (v := (1 : Int32)) d2_34 rfl rfl ?_
      refine o_dup2 B 35 36 d2_35 rfl rfl rfl ?_
      refine o_iaload B 36 37 A0 1 (g 1) d2_36 rfl (by decide) (by decide) (by decide) rfl ?_
      refine o_iconst B 37 38 (1 : Int32) d2_37 rfl (by decide) ?_
      refine o_iadd B 38 39 d2_38 rfl ?_
      obtain ⟨T18, h18, L18, B18, N18, W18, Q18, c18⟩ := o_iastore B N0 gw_x0 39 40 A0 (j := (1 : Int32)) (x := ((g 1) + (1 : Int32))) 1 ((g 1) + (1 : Int32)) d2_39 rfl (by decide) (by decide) (by decide) rfl (Ls := #[.val (.ref x0), .val (.int x1), .val (.int (1 : Int32)), .unset]) (rest := [])
      have A18 : AI Z h18 x0 .int 3 (w2_3_4 g x1) := Q18
      refine c18 ?_
      refine o_iloadN B18 40 41 (v := (1 : Int32)) d2_40 rfl rfl ?_
      refine o_iconst B18 41 42 (1 : Int32) d2_41 rfl (by decide) ?_
      refine o_iadd B18 42 43 d2_42 rfl ?_
      refine o_topI (show ((1 : Int32) + (1 : Int32)) = (2 : Int32) by decide) ?_
      refine o_istoreN B18 43 44 (l' := #[.val (.ref x0), .val (.int x1), .val (.int (1 : Int32)), .val (.int (2 : Int32))]) d2_43 rfl rfl ?_
      refine o_iloadN B18 44 45 (v := (2 : Int32)) d2_44 rfl rfl ?_
      refine o_aloadN B18 45 46 (v := (.ref x0)) d2_45 rfl rfl rfl ?_
      refine o_alenI B18 46 47 A18 (3 : Int32) d2_46 rfl (by decide) ?_
      refine o_icN B18 47 50 d2_47 rfl (XT.ii_ge_f (by decide)) ?_
      refine o_aloadN B18 50 51 (v := (.ref x0)) d2_50 rfl rfl rfl ?_
      refine o_iloadN B18 51 52 (v := (2 : Int32)) d2_51 rfl rfl ?_
      refine o_aloadN B18 52 53 (v := (.ref x0)) d2_52 rfl rfl rfl ?_
      refine o_iloadN B18 53 54 (v := (2 : Int32)) d2_53 rfl rfl ?_
      refine o_iconst B18 54 55 (1 : Int32) d2_54 rfl (by decide) ?_
      refine o_isub B18 55 56 d2_55 rfl ?_
      refine o_topI (show ((2 : Int32) - (1 : Int32)) = (1 : Int32) by decide) ?_
      refine o_iaload B18 56 57 A18 1 ((w2_3_4 g x1) 1) d2_56 rfl (by decide) (by decide) (by decide) rfl ?_
      refine o_iconst B18 57 58 (1 : Int32) d2_57 rfl (by decide) ?_
      refine o_iadd B18 58 59 d2_58 rfl ?_
      obtain ⟨T21, h21, L21, B21, N21, W21, Q21, c21⟩ := o_iastore B18 N18 gw_x0 59 60 A18 (j := (2 : Int32)) (x := (((w2_3_4 g x1) 1) + (1 : Int32))) 2 (((w2_3_4 g x1) 1) + (1 : Int32)) d2_59 rfl (by decide) (by decide) (by decide) rfl (Ls := #[.val (.ref x0), .val (.int x1), .val (.int (1 : Int32)), .val (.int (2 : Int32))]) (rest := [])
      have A21 : AI Z h21 x0 .int 3 (w2_3_5 g x1) := Q21
      refine c21 ?_
      refine o_iincC B21 60 63 (l' := #[.val (.ref x0), .val (.int x1), .val (.int (1 : Int32)), .val (.int (3 : Int32))]) (1 : Int32) (3 : Int32) d2_60 rfl (by decide) rfl (by decide) rfl ?_
      refine o_goto B21 63 44 d2_63 (by decide) (by decide) ?_
      refine o_iloadN B21 44 45 (v := (3 : Int32)) d2_44 rfl rfl ?_
      refine o_aloadN B21 45 46 (v := (.ref x0)) d2_45 rfl rfl rfl ?_
      refine o_alenI B21 46 47 A21 (3 : Int32) d2_46 rfl (by decide) ?_
      refine o_icY B21 47 66 d2_47 (XT.ii_ge_t (by decide)) (by decide) (by decide) ?_
      refine o_iloadN B21 66 67 (v := (1 : Int32)) d2_66 rfl rfl ?_
      refine o_retI B21 67 d2_67 hret hlk (by decide) (by decide) ⟨(congrArg (fun z => some (Value.int z)) (show f2_3 g x1 = (1 : Int32) from (if_pos k1).trans ((if_neg k2).trans (rfl)))).symm, N21, (((Keep.refl h0 [x0]).wr W18 (Or.inl (List.mem_of_getElem? (i := 0) rfl))).wr W21 (Or.inl (List.mem_of_getElem? (i := 0) rfl))), (by rw [show (o2_3_0 g x1) = (w2_3_5 g x1) from (if_pos k1).trans ((if_neg k2).trans (rfl))]; exact A21)⟩
  · refine o_icY B 18 27 d2_18 (XT.ii_ne_t k1) (by decide) (by decide) ?_
    refine o_iloadN B 27 28 (v := (2 : Int32)) d2_27 rfl rfl ?_
    refine o_ifY B 28 33 d2_28 (XT.i0_ge_t (by decide)) (by decide) (by decide) ?_
    refine o_aloadN B 33 34 (v := (.ref x0)) d2_33 rfl rfl rfl ?_
    refine o_iloadN B 34 35 (v := (2 : Int32)) d2_34 rfl rfl ?_
    refine o_dup2 B 35 36 d2_35 rfl rfl rfl ?_
    refine o_iaload B 36 37 A0 2 (g 2) d2_36 rfl (by decide) (by decide) (by decide) rfl ?_
    refine o_iconst B 37 38 (1 : Int32) d2_37 rfl (by decide) ?_
    refine o_iadd B 38 39 d2_38 rfl ?_
    obtain ⟨T24, h24, L24, B24, N24, W24, Q24, c24⟩ := o_iastore B N0 gw_x0 39 40 A0 (j := (2 : Int32)) (x := ((g 2) + (1 : Int32))) 2 ((g 2) + (1 : Int32)) d2_39 rfl (by decide) (by decide) (by decide) rfl (Ls := #[.val (.ref x0), .val (.int x1), .val (.int (2 : Int32)), .unset]) (rest := [])
    have A24 : AI Z h24 x0 .int 3 (w2_3_6 g x1) := Q24
    refine c24 ?_
    refine o_iloadN B24 40 41 (v := (2 : Int32)) d2_40 rfl rfl ?_
    refine o_iconst B24 41 42 (1 : Int32) d2_41 rfl (by decide) ?_
    refine o_iadd B24 42 43 d2_42 rfl ?_
    refine o_topI (show ((2 : Int32) + (1 : Int32)) = (3 : Int32) by decide) ?_
    refine o_istoreN B24 43 44 (l' := #[.val (.ref x0), .val (.int x1), .val (.int (2 : Int32)), .val (.int (3 : Int32))]) d2_43 rfl rfl ?_
    refine o_iloadN B24 44 45 (v := (3 : Int32)) d2_44 rfl rfl ?_
    refine o_aloadN B24 45 46 (v := (.ref x0)) d2_45 rfl rfl rfl ?_
    refine o_alenI B24 46 47 A24 (3 : Int32) d2_46 rfl (by decide) ?_
    refine o_icY B24 47 66 d2_47 (XT.ii_ge_t (by decide)) (by decide) (by decide) ?_
    refine o_iloadN B24 66 67 (v := (2 : Int32)) d2_66 rfl rfl ?_
    refine o_retI B24 67 d2_67 hret hlk (by decide) (by decide) ⟨(congrArg (fun z => some (Value.int z)) (show f2_3 g x1 = (2 : Int32) from (if_neg k1).trans (rfl))).symm, N24, ((Keep.refl h0 [x0]).wr W24 (Or.inl (List.mem_of_getElem? (i := 0) rfl))), (by rw [show (o2_3_0 g x1) = (w2_3_6 g x1) from (if_neg k1).trans (rfl)]; exact A24)⟩
def f4_3 (g : Nat → Int32) (x1 : Int32) : Int32 := (if (g 0) < 0 then (0 : Int32) else (if (g 0) < (g 1) then (if (g 1) < (g 2) then (if (g 2) < x1 then (1 : Int32) else (0 : Int32)) else (0 : Int32)) else (0 : Int32)))
set_option maxRecDepth 65536 in
set_option maxHeartbeats 40000000 in
theorem rm4_3 (l : Launch) (Z : State) (a0 : Array Value) (hw : ∀ d ∈ tables_1, d.before a0 Z = true) (g : Nat → Int32) (x0 : Addr) (x1 : Int32) (h0 : Heap) (A0 : AI Z h0 x0 .int 3 g) :
    Met l Z (⟨"com/example/crosshatch/crosshatch/design/ParameterSetsAdvancePinLaw", "valid", "([II)Z"⟩ : MethodName) method_6_code 3 (some .boolean) ({ frames := 0, cells := 0, slots := 0, locals := 0 } : Room) #[(.ref x0), (.int x1)] h0 (Pu (some (.int (f4_3 g x1))) h0) := by
  refine enter pl4 #[.val (.ref x0), .val (.int x1), .unset] rfl ?_
  intro p e s m below meth c T B hret hlk hnm
  · refine o_aloadN B 0 1 (v := (.ref x0)) d4_0 rfl rfl rfl ?_
    refine o_alenI B 1 2 A0 (3 : Int32) d4_1 rfl (by decide) ?_
    refine o_istoreN B 2 3 (l' := #[.val (.ref x0), .val (.int x1), .val (.int (3 : Int32))]) d4_2 rfl rfl ?_
    refine o_aloadN B 3 4 (v := (.ref x0)) d4_3 rfl rfl rfl ?_
    refine o_iconst B 4 5 (0 : Int32) d4_4 rfl (by decide) ?_
    refine o_iaload B 5 6 A0 0 (g 0) d4_5 rfl (by decide) (by decide) (by decide) rfl ?_
    by_cases k1 : (g 0) < 0
    · refine o_ifN B 6 9 d4_6 rfl (XT.i0_ge_f k1) ?_
      refine o_iconst B 9 10 (0 : Int32) d4_9 rfl (by decide) ?_
      refine o_retZ (t := .boolean) B 10 d4_10 hret hlk (by simp) (by decide) (by decide) ⟨(congrArg (fun z => some (Value.int z)) ((show nar .boolean (0 : Int32) = (0 : Int32) from rfl).trans (show f4_3 g x1 = (0 : Int32) from (if_pos k1).trans (rfl)).symm)), rfl, rfl⟩
    · refine o_ifY B 6 11 d4_6 (XT.i0_ge_t k1) (by decide) (by decide) ?_
      refine o_iloadN B 11 12 (v := (3 : Int32)) d4_11 rfl rfl ?_
      refine o_iconst B 12 13 (1 : Int32) d4_12 rfl (by decide) ?_
      refine o_icN B 13 16 d4_13 rfl (XT.ii_le_f (by decide)) ?_
      refine o_aloadN B 16 17 (v := (.ref x0)) d4_16 rfl rfl rfl ?_
      refine o_iconst B 17 18 (1 : Int32) d4_17 rfl (by decide) ?_
      refine o_iaload B 18 19 A0 1 (g 1) d4_18 rfl (by decide) (by decide) (by decide) rfl ?_
      refine o_aloadN B 19 20 (v := (.ref x0)) d4_19 rfl rfl rfl ?_
      refine o_iconst B 20 21 (0 : Int32) d4_20 rfl (by decide) ?_
      refine o_iaload B 21 22 A0 0 (g 0) d4_21 rfl (by decide) (by decide) (by decide) rfl ?_
      by_cases k2 : (g 0) < (g 1)
      · refine o_icY B 22 27 d4_22 (XT.ii_gt_t k2) (by decide) (by decide) ?_
        refine o_iloadN B 27 28 (v := (3 : Int32)) d4_27 rfl rfl ?_
        refine o_iconst B 28 29 (2 : Int32) d4_28 rfl (by decide) ?_
        refine o_icN B 29 32 d4_29 rfl (XT.ii_le_f (by decide)) ?_
        refine o_aloadN B 32 33 (v := (.ref x0)) d4_32 rfl rfl rfl ?_
        refine o_iconst B 33 34 (2 : Int32) d4_33 rfl (by decide) ?_
        refine o_iaload B 34 35 A0 2 (g 2) d4_34 rfl (by decide) (by decide) (by decide) rfl ?_
        refine o_aloadN B 35 36 (v := (.ref x0)) d4_35 rfl rfl rfl ?_
        refine o_iconst B 36 37 (1 : Int32) d4_36 rfl (by decide) ?_
        refine o_iaload B 37 38 A0 1 (g 1) d4_37 rfl (by decide) (by decide) (by decide) rfl ?_
        by_cases k3 : (g 1) < (g 2)
        · refine o_icY B 38 43 d4_38 (XT.ii_gt_t k3) (by decide) (by decide) ?_
          refine o_iloadN B 43 44 (v := (3 : Int32)) d4_43 rfl rfl ?_
          refine o_iconst B 44 45 (3 : Int32) d4_44 rfl (by decide) ?_
          refine o_icY B 45 59 d4_45 (XT.ii_le_t (by decide)) (by decide) (by decide) ?_
          refine o_aloadN B 59 60 (v := (.ref x0)) d4_59 rfl rfl rfl ?_
          refine o_iloadN B 60 61 (v := (3 : Int32)) d4_60 rfl rfl ?_
          refine o_iconst B 61 62 (1 : Int32) d4_61 rfl (by decide) ?_
          refine o_isub B 62 63 d4_62 rfl ?_
          refine o_topI (show ((3 : Int32) - (1 : Int32)) = (2 : Int32) by decide) ?_
          refine o_iaload B 63 64 A0 2 (g 2) d4_63 rfl (by decide) (by decide) (by decide) rfl ?_
          refine o_iloadN B 64 65 (v := x1) d4_64 rfl rfl ?_
          by_cases k4 : (g 2) < x1
          · refine o_icN B 65 68 d4_65 rfl (XT.ii_ge_f k4) ?_
            refine o_iconst B 68 69 (1 : Int32) d4_68 rfl (by decide) ?_
            refine o_goto B 69 73 d4_69 (by decide) (by decide) ?_
            refine o_retZ (t := .boolean) B 73 d4_73 hret hlk (by simp) (by decide) (by decide) ⟨(congrArg (fun z => some (Value.int z)) ((show nar .boolean (1 : Int32) = (1 : Int32) from rfl).trans (show f4_3 g x1 = (1 : Int32) from (if_neg k1).trans ((if_pos k2).trans ((if_pos k3).trans ((if_pos k4).trans (rfl))))).symm)), rfl, rfl⟩
          · refine o_icY B 65 72 d4_65 (XT.ii_ge_t k4) (by decide) (by decide) ?_
            refine o_iconst B 72 73 (0 : Int32) d4_72 rfl (by decide) ?_
            refine o_retZ (t := .boolean) B 73 d4_73 hret hlk (by simp) (by decide) (by decide) ⟨(congrArg (fun z => some (Value.int z)) ((show nar .boolean (0 : Int32) = (0 : Int32) from rfl).trans (show f4_3 g x1 = (0 : Int32) from (if_neg k1).trans ((if_pos k2).trans ((if_pos k3).trans ((if_neg k4).trans (rfl))))).symm)), rfl, rfl⟩
        · refine o_icN B 38 41 d4_38 rfl (XT.ii_gt_f k3) ?_
          refine o_iconst B 41 42 (0 : Int32) d4_41 rfl (by decide) ?_
          refine o_retZ (t := .boolean) B 42 d4_42 hret hlk (by simp) (by decide) (by decide) ⟨(congrArg (fun z => some (Value.int z)) ((show nar .boolean (0 : Int32) = (0 : Int32) from rfl).trans (show f4_3 g x1 = (0 : Int32) from (if_neg k1).trans ((if_pos k2).trans ((if_neg k3).trans (rfl)))).symm)), rfl, rfl⟩
      · refine o_icN B 22 25 d4_22 rfl (XT.ii_gt_f k2) ?_
        refine o_iconst B 25 26 (0 : Int32) d4_25 rfl (by decide) ?_
        refine o_retZ (t := .boolean) B 26 d4_26 hret hlk (by simp) (by decide) (by decide) ⟨(congrArg (fun z => some (Value.int z)) ((show nar .boolean (0 : Int32) = (0 : Int32) from rfl).trans (show f4_3 g x1 = (0 : Int32) from (if_neg k1).trans ((if_neg k2).trans (rfl))).symm)), rfl, rfl⟩
def q5_3_1 (g : Nat → Int32) (x1 : Int32) : Int64 := (f3 ((x1 - (1 : Int32)) - (g 0)).toInt64 (3 : Int32))
def q5_3_2 (g : Nat → Int32) (x1 : Int32) : Int64 := (f3 ((x1 - (1 : Int32)) - (g 1)).toInt64 (2 : Int32))
def q5_3_3 (g : Nat → Int32) (x1 : Int32) : Int64 := (f3 ((x1 - (1 : Int32)) - (g 2)).toInt64 (1 : Int32))
def q5_3_4 (g : Nat → Int32) (x1 : Int32) : Int64 := (((q5_3_1 g x1) + (q5_3_2 g x1)) + (q5_3_3 g x1))
def f5_3 (g : Nat → Int32) (x1 : Int32) : Int64 := (((f3 x1.toInt64 (3 : Int32)) - (1 : Int64)) - (q5_3_4 g x1))
set_option maxRecDepth 65536 in
set_option maxHeartbeats 40000000 in
theorem rm5_3 (l : Launch) (Z : State) (a0 : Array Value) (hw : ∀ d ∈ tables_1, d.before a0 Z = true) (g : Nat → Int32) (x0 : Addr) (x1 : Int32) (h0 : Heap) (A0 : AI Z h0 x0 .int 3 g) :
    Met l Z (⟨"com/example/crosshatch/crosshatch/design/ParameterSetsAdvancePinLaw", "rank", "([II)J"⟩ : MethodName) method_7_code 5 (some .long) ({ frames := 1, cells := 0, slots := 0, locals := 16 } : Room) #[(.ref x0), (.int x1)] h0 (Pu (some (.long (f5_3 g x1))) h0) := by
  refine enter pl5 #[.val (.ref x0), .val (.int x1), .unset, .unset, .unset] rfl ?_
  intro p e s m below meth c T B hret hlk hnm
  · refine o_aloadN B 0 1 (v := (.ref x0)) d5_0 rfl rfl rfl ?_
    refine o_alenI B 1 2 A0 (3 : Int32) d5_1 rfl (by decide) ?_
    refine o_istoreN B 2 3 (l' := #[.val (.ref x0), .val (.int x1), .val (.int (3 : Int32)), .unset, .unset]) d5_2 rfl rfl ?_
    refine o_iloadN B 3 4 (v := x1) d5_3 rfl rfl ?_
    refine o_iconst B 4 5 (1 : Int32) d5_4 rfl (by decide) ?_
    refine o_isub B 5 6 d5_5 rfl ?_
    refine o_aloadN B 6 7 (v := (.ref x0)) d5_6 rfl rfl rfl ?_
    refine o_iconst B 7 8 (0 : Int32) d5_7 rfl (by decide) ?_
    refine o_iaload B 8 9 A0 0 (g 0) d5_8 rfl (by decide) (by decide) (by decide) rfl ?_
    refine o_isub B 9 10 d5_9 rfl ?_
    refine o_i2l B 10 11 d5_10 rfl ?_
    refine o_iloadN B 11 12 (v := (3 : Int32)) d5_11 rfl rfl ?_
    obtain ⟨T3, B3, c3⟩ := o_callP B 12 15 d5_12 rfl (hw _ (List.mem_of_getElem? (i := 10) rfl)) (hw _ (List.mem_of_getElem? (i := 11) rfl)) (hw _ (List.mem_of_getElem? (i := 3) rfl)) (hw _ (List.mem_of_getElem? (i := 12) rfl)) (by decide) (rm3 l Z a0 hw ((x1 - (1 : Int32)) - (g 0)).toInt64 (3 : Int32) h0 ) 0 [(.long ((x1 - (1 : Int32)) - (g 0)).toInt64), (.int (3 : Int32))] [] pd__JI_J rfl rfl (st := [(.int (3 : Int32)), (.long ((x1 - (1 : Int32)) - (g 0)).toInt64)]) rfl (Ls := #[.val (.ref x0), .val (.int x1), .val (.int (3 : Int32)), .unset, .unset]) rfl (Nat.le_of_eq rfl) (by decide) (by decide) (by decide) (by decide)
    refine c3 ?_
    refine o_lstoreN B3 15 16 (l' := #[.val (.ref x0), .val (.int x1), .val (.int (3 : Int32)), .val (.long (q5_3_1 g x1)), .second]) d5_15 rfl rfl ?_
    refine o_iloadN B3 16 17 (v := (3 : Int32)) d5_16 rfl rfl ?_
    refine o_iconst B3 17 18 (1 : Int32) d5_17 rfl (by decide) ?_
    refine o_icN B3 18 21 d5_18 rfl (XT.ii_le_f (by decide)) ?_
    refine o_lloadN B3 21 22 (v := (q5_3_1 g x1)) d5_21 rfl rfl ?_
    refine o_iloadN B3 22 23 (v := x1) d5_22 rfl rfl ?_
    refine o_iconst B3 23 24 (1 : Int32) d5_23 rfl (by decide) ?_
    refine o_isub B3 24 25 d5_24 rfl ?_
    refine o_aloadN B3 25 26 (v := (.ref x0)) d5_25 rfl rfl rfl ?_
    refine o_iconst B3 26 27 (1 : Int32) d5_26 rfl (by decide) ?_
    refine o_iaload B3 27 28 A0 1 (g 1) d5_27 rfl (by decide) (by decide) (by decide) rfl ?_
    refine o_isub B3 28 29 d5_28 rfl ?_
    refine o_i2l B3 29 30 d5_29 rfl ?_
    refine o_iloadN B3 30 31 (v := (3 : Int32)) d5_30 rfl rfl ?_
    refine o_iconst B3 31 32 (1 : Int32) d5_31 rfl (by decide) ?_
    refine o_isub B3 32 33 d5_32 rfl ?_
    refine o_topI (show ((3 : Int32) - (1 : Int32)) = (2 : Int32) by decide) ?_
    obtain ⟨T5, B5, c5⟩ := o_callP B3 33 36 d5_33 rfl (hw _ (List.mem_of_getElem? (i := 10) rfl)) (hw _ (List.mem_of_getElem? (i := 11) rfl)) (hw _ (List.mem_of_getElem? (i := 3) rfl)) (hw _ (List.mem_of_getElem? (i := 12) rfl)) (by decide) (rm3 l Z a0 hw ((x1 - (1 : Int32)) - (g 1)).toInt64 (2 : Int32) h0 ) 2 [(.long ((x1 - (1 : Int32)) - (g 1)).toInt64), (.int (2 : Int32))] [(.long (q5_3_1 g x1))] pd__JI_J rfl rfl (st := [(.int (2 : Int32)), (.long ((x1 - (1 : Int32)) - (g 1)).toInt64), (.long (q5_3_1 g x1))]) rfl (Ls := #[.val (.ref x0), .val (.int x1), .val (.int (3 : Int32)), .val (.long (q5_3_1 g x1)), .second]) rfl (Nat.le_of_eq rfl) (by decide) (by decide) (by decide) (by decide)
    refine c5 ?_
    refine o_ladd B5 36 37 d5_36 rfl ?_
    refine o_lstoreN B5 37 38 (l' := #[.val (.ref x0), .val (.int x1), .val (.int (3 : Int32)), .val (.long ((q5_3_1 g x1) + (q5_3_2 g x1))), .second]) d5_37 rfl rfl ?_
    refine o_iloadN B5 38 39 (v := (3 : Int32)) d5_38 rfl rfl ?_
    refine o_iconst B5 39 40 (2 : Int32) d5_39 rfl (by decide) ?_
    refine o_icN B5 40 43 d5_40 rfl (XT.ii_le_f (by decide)) ?_
    refine o_lloadN B5 43 44 (v := ((q5_3_1 g x1) + (q5_3_2 g x1))) d5_43 rfl rfl ?_
    refine o_iloadN B5 44 45 (v := x1) d5_44 rfl rfl ?_
    refine o_iconst B5 45 46 (1 : Int32) d5_45 rfl (by decide) ?_
    refine o_isub B5 46 47 d5_46 rfl ?_
    refine o_aloadN B5 47 48 (v := (.ref x0)) d5_47 rfl rfl rfl ?_
    refine o_iconst B5 48 49 (2 : Int32) d5_48 rfl (by decide) ?_
    refine o_iaload B5 49 50 A0 2 (g 2) d5_49 rfl (by decide) (by decide) (by decide) rfl ?_
    refine o_isub B5 50 51 d5_50 rfl ?_
    refine o_i2l B5 51 52 d5_51 rfl ?_
    refine o_iloadN B5 52 53 (v := (3 : Int32)) d5_52 rfl rfl ?_
    refine o_iconst B5 53 54 (2 : Int32) d5_53 rfl (by decide) ?_
    refine o_isub B5 54 55 d5_54 rfl ?_
    refine o_topI (show ((3 : Int32) - (2 : Int32)) = (1 : Int32) by decide) ?_
    obtain ⟨T7, B7, c7⟩ := o_callP B5 55 58 d5_55 rfl (hw _ (List.mem_of_getElem? (i := 10) rfl)) (hw _ (List.mem_of_getElem? (i := 11) rfl)) (hw _ (List.mem_of_getElem? (i := 3) rfl)) (hw _ (List.mem_of_getElem? (i := 12) rfl)) (by decide) (rm3 l Z a0 hw ((x1 - (1 : Int32)) - (g 2)).toInt64 (1 : Int32) h0 ) 2 [(.long ((x1 - (1 : Int32)) - (g 2)).toInt64), (.int (1 : Int32))] [(.long ((q5_3_1 g x1) + (q5_3_2 g x1)))] pd__JI_J rfl rfl (st := [(.int (1 : Int32)), (.long ((x1 - (1 : Int32)) - (g 2)).toInt64), (.long ((q5_3_1 g x1) + (q5_3_2 g x1)))]) rfl (Ls := #[.val (.ref x0), .val (.int x1), .val (.int (3 : Int32)), .val (.long ((q5_3_1 g x1) + (q5_3_2 g x1))), .second]) rfl (Nat.le_of_eq rfl) (by decide) (by decide) (by decide) (by decide)
    refine c7 ?_
    refine o_ladd B7 58 59 d5_58 rfl ?_
    refine o_lstoreN B7 59 60 (l' := #[.val (.ref x0), .val (.int x1), .val (.int (3 : Int32)), .val (.long (q5_3_4 g x1)), .second]) d5_59 rfl rfl ?_
    refine o_iloadN B7 60 61 (v := (3 : Int32)) d5_60 rfl rfl ?_
    refine o_iconst B7 61 62 (3 : Int32) d5_61 rfl (by decide) ?_
    refine o_icY B7 62 82 d5_62 (XT.ii_le_t (by decide)) (by decide) (by decide) ?_
    refine o_iloadN B7 82 83 (v := x1) d5_82 rfl rfl ?_
    refine o_i2l B7 83 84 d5_83 rfl ?_
    refine o_iloadN B7 84 85 (v := (3 : Int32)) d5_84 rfl rfl ?_
    obtain ⟨T8, B8, c8⟩ := o_callP B7 85 88 d5_85 rfl (hw _ (List.mem_of_getElem? (i := 10) rfl)) (hw _ (List.mem_of_getElem? (i := 11) rfl)) (hw _ (List.mem_of_getElem? (i := 3) rfl)) (hw _ (List.mem_of_getElem? (i := 12) rfl)) (by decide) (rm3 l Z a0 hw x1.toInt64 (3 : Int32) h0 ) 0 [(.long x1.toInt64), (.int (3 : Int32))] [] pd__JI_J rfl rfl (st := [(.int (3 : Int32)), (.long x1.toInt64)]) rfl (Ls := #[.val (.ref x0), .val (.int x1), .val (.int (3 : Int32)), .val (.long (q5_3_4 g x1)), .second]) rfl (Nat.le_of_eq rfl) (by decide) (by decide) (by decide) (by decide)
    refine c8 ?_
    refine o_lconst B8 88 89 (1 : Int64) d5_88 rfl (by decide) ?_
    refine o_lsub B8 89 90 d5_89 rfl ?_
    refine o_lloadN B8 90 91 (v := (q5_3_4 g x1)) d5_90 rfl rfl ?_
    refine o_lsub B8 91 92 d5_91 rfl ?_
    refine o_retL B8 92 d5_92 hret hlk (by decide) (by decide) ⟨(congrArg (fun z => some (Value.long z)) (show f5_3 g x1 = (((f3 x1.toInt64 (3 : Int32)) - (1 : Int64)) - (q5_3_4 g x1)) from rfl)).symm, rfl, rfl⟩
def f6_3_0 (g : Nat → Int32) (k_ : Nat → Int32) (x2 : Int32) : Int32 := (if (0 : Int32) < x2 then (if (g 0) = (k_ 0) then (1 : Int32) else (0 : Int32)) else (if (0 : Int32) = x2 then (if (g 0) = (k_ 0) then (0 : Int32) else (1 : Int32)) else (1 : Int32)))
set_option maxRecDepth 65536 in
set_option maxHeartbeats 40000000 in
theorem rm6_3_0 (l : Launch) (Z : State) (a0 : Array Value) (hw : ∀ d ∈ tables_1, d.before a0 Z = true) (g : Nat → Int32) (k_ : Nat → Int32) (x0 : Addr) (x1 : Addr) (x2 : Int32) (h0 : Heap) (A0 : AI Z h0 x0 .int 3 g) (A1 : AI Z h0 x1 .int 3 k_) :
    Met l Z (⟨"com/example/crosshatch/crosshatch/design/ParameterSetsAdvancePinLaw", "place", "([I[III)Z"⟩ : MethodName) method_4_code 4 (some .boolean) ({ frames := 0, cells := 0, slots := 0, locals := 0 } : Room) #[(.ref x0), (.ref x1), (.int x2), (.int (0 : Int32))] h0 (Pu (some (.int (f6_3_0 g k_ x2))) h0) := by
  refine enter pl6 #[.val (.ref x0), .val (.ref x1), .val (.int x2), .val (.int (0 : Int32))] rfl ?_
  intro p e s m below meth c T B hret hlk hnm
  · refine o_iloadN B 0 1 (v := (0 : Int32)) d6_0 rfl rfl ?_
    refine o_aloadN B 1 2 (v := (.ref x0)) d6_1 rfl rfl rfl ?_
    refine o_alenI B 2 3 A0 (3 : Int32) d6_2 rfl (by decide) ?_
    refine o_icY B 3 8 d6_3 (XT.ii_lt_t (by decide)) (by decide) (by decide) ?_
    refine o_iloadN B 8 9 (v := (0 : Int32)) d6_8 rfl rfl ?_
    refine o_iloadN B 9 10 (v := x2) d6_9 rfl rfl ?_
    by_cases k1 : (0 : Int32) < x2
    · refine o_icN B 10 13 d6_10 rfl (XT.ii_ge_f k1) ?_
      refine o_aloadN B 13 14 (v := (.ref x0)) d6_13 rfl rfl rfl ?_
      refine o_iloadN B 14 15 (v := (0 : Int32)) d6_14 rfl rfl ?_
      refine o_iaload B 15 16 A0 0 (g 0) d6_15 rfl (by decide) (by decide) (by decide) rfl ?_
      refine o_aloadN B 16 17 (v := (.ref x1)) d6_16 rfl rfl rfl ?_
      refine o_iloadN B 17 18 (v := (0 : Int32)) d6_17 rfl rfl ?_
      refine o_iaload B 18 19 A1 0 (k_ 0) d6_18 rfl (by decide) (by decide) (by decide) rfl ?_
      by_cases k2 : (g 0) = (k_ 0)
      · refine o_icN B 19 22 d6_19 rfl (XT.ii_ne_f k2) ?_
        refine o_iconst B 22 23 (1 : Int32) d6_22 rfl (by decide) ?_
        refine o_goto B 23 27 d6_23 (by decide) (by decide) ?_
        refine o_retZ (t := .boolean) B 27 d6_27 hret hlk (by simp) (by decide) (by decide) ⟨(congrArg (fun z => some (Value.int z)) ((show nar .boolean (1 : Int32) = (1 : Int32) from rfl).trans (show f6_3_0 g k_ x2 = (1 : Int32) from (if_pos k1).trans ((if_pos k2).trans (rfl))).symm)), rfl, rfl⟩
      · refine o_icY B 19 26 d6_19 (XT.ii_ne_t k2) (by decide) (by decide) ?_
        refine o_iconst B 26 27 (0 : Int32) d6_26 rfl (by decide) ?_
        refine o_retZ (t := .boolean) B 27 d6_27 hret hlk (by simp) (by decide) (by decide) ⟨(congrArg (fun z => some (Value.int z)) ((show nar .boolean (0 : Int32) = (0 : Int32) from rfl).trans (show f6_3_0 g k_ x2 = (0 : Int32) from (if_pos k1).trans ((if_neg k2).trans (rfl))).symm)), rfl, rfl⟩
    · refine o_icY B 10 28 d6_10 (XT.ii_ge_t k1) (by decide) (by decide) ?_
      refine o_iloadN B 28 29 (v := (0 : Int32)) d6_28 rfl rfl ?_
      refine o_iloadN B 29 30 (v := x2) d6_29 rfl rfl ?_
      by_cases k3 : (0 : Int32) = x2
      · refine o_icN B 30 33 d6_30 rfl (XT.ii_ne_f k3) ?_
        refine o_aloadN B 33 34 (v := (.ref x0)) d6_33 rfl rfl rfl ?_
        refine o_iloadN B 34 35 (v := (0 : Int32)) d6_34 rfl rfl ?_
        refine o_iaload B 35 36 A0 0 (g 0) d6_35 rfl (by decide) (by decide) (by decide) rfl ?_
        refine o_aloadN B 36 37 (v := (.ref x1)) d6_36 rfl rfl rfl ?_
        refine o_iloadN B 37 38 (v := (0 : Int32)) d6_37 rfl rfl ?_
        refine o_iaload B 38 39 A1 0 (k_ 0) d6_38 rfl (by decide) (by decide) (by decide) rfl ?_
        by_cases k4 : (g 0) = (k_ 0)
        · refine o_icY B 39 46 d6_39 (XT.ii_eq_t k4) (by decide) (by decide) ?_
          refine o_iconst B 46 47 (0 : Int32) d6_46 rfl (by decide) ?_
          refine o_retZ (t := .boolean) B 47 d6_47 hret hlk (by simp) (by decide) (by decide) ⟨(congrArg (fun z => some (Value.int z)) ((show nar .boolean (0 : Int32) = (0 : Int32) from rfl).trans (show f6_3_0 g k_ x2 = (0 : Int32) from (if_neg k1).trans ((if_pos k3).trans ((if_pos k4).trans (rfl)))).symm)), rfl, rfl⟩
        · refine o_icN B 39 42 d6_39 rfl (XT.ii_eq_f k4) ?_
          refine o_iconst B 42 43 (1 : Int32) d6_42 rfl (by decide) ?_
          refine o_goto B 43 47 d6_43 (by decide) (by decide) ?_
          refine o_retZ (t := .boolean) B 47 d6_47 hret hlk (by simp) (by decide) (by decide) ⟨(congrArg (fun z => some (Value.int z)) ((show nar .boolean (1 : Int32) = (1 : Int32) from rfl).trans (show f6_3_0 g k_ x2 = (1 : Int32) from (if_neg k1).trans ((if_pos k3).trans ((if_neg k4).trans (rfl)))).symm)), rfl, rfl⟩
      · refine o_icY B 30 48 d6_30 (XT.ii_ne_t k3) (by decide) (by decide) ?_
        refine o_iconst B 48 49 (1 : Int32) d6_48 rfl (by decide) ?_
        refine o_retZ (t := .boolean) B 49 d6_49 hret hlk (by simp) (by decide) (by decide) ⟨(congrArg (fun z => some (Value.int z)) ((show nar .boolean (1 : Int32) = (1 : Int32) from rfl).trans (show f6_3_0 g k_ x2 = (1 : Int32) from (if_neg k1).trans ((if_neg k3).trans (rfl))).symm)), rfl, rfl⟩
def f6_3_1 (g : Nat → Int32) (k_ : Nat → Int32) (x2 : Int32) : Int32 := (if (1 : Int32) < x2 then (if (g 1) = (k_ 1) then (1 : Int32) else (0 : Int32)) else (if (1 : Int32) = x2 then (if (g 1) = (k_ 1) then (0 : Int32) else (1 : Int32)) else (1 : Int32)))
set_option maxRecDepth 65536 in
set_option maxHeartbeats 40000000 in
theorem rm6_3_1 (l : Launch) (Z : State) (a0 : Array Value) (hw : ∀ d ∈ tables_1, d.before a0 Z = true) (g : Nat → Int32) (k_ : Nat → Int32) (x0 : Addr) (x1 : Addr) (x2 : Int32) (h0 : Heap) (A0 : AI Z h0 x0 .int 3 g) (A1 : AI Z h0 x1 .int 3 k_) :
    Met l Z (⟨"com/example/crosshatch/crosshatch/design/ParameterSetsAdvancePinLaw", "place", "([I[III)Z"⟩ : MethodName) method_4_code 4 (some .boolean) ({ frames := 0, cells := 0, slots := 0, locals := 0 } : Room) #[(.ref x0), (.ref x1), (.int x2), (.int (1 : Int32))] h0 (Pu (some (.int (f6_3_1 g k_ x2))) h0) := by
  refine enter pl6 #[.val (.ref x0), .val (.ref x1), .val (.int x2), .val (.int (1 : Int32))] rfl ?_
  intro p e s m below meth c T B hret hlk hnm
  · refine o_iloadN B 0 1 (v := (1 : Int32)) d6_0 rfl rfl ?_
    refine o_aloadN B 1 2 (v := (.ref x0)) d6_1 rfl rfl rfl ?_
    refine o_alenI B 2 3 A0 (3 : Int32) d6_2 rfl (by decide) ?_
    refine o_icY B 3 8 d6_3 (XT.ii_lt_t (by decide)) (by decide) (by decide) ?_
    refine o_iloadN B 8 9 (v := (1 : Int32)) d6_8 rfl rfl ?_
    refine o_iloadN B 9 10 (v := x2) d6_9 rfl rfl ?_
    by_cases k1 : (1 : Int32) < x2
    · refine o_icN B 10 13 d6_10 rfl (XT.ii_ge_f k1) ?_
      refine o_aloadN B 13 14 (v := (.ref x0)) d6_13 rfl rfl rfl ?_
      refine o_iloadN B 14 15 (v := (1 : Int32)) d6_14 rfl rfl ?_
      refine o_iaload B 15 16 A0 1 (g 1) d6_15 rfl (by decide) (by decide) (by decide) rfl ?_
      refine o_aloadN B 16 17 (v := (.ref x1)) d6_16 rfl rfl rfl ?_
      refine o_iloadN B 17 18 (v := (1 : Int32)) d6_17 rfl rfl ?_
      refine o_iaload B 18 19 A1 1 (k_ 1) d6_18 rfl (by decide) (by decide) (by decide) rfl ?_
      by_cases k2 : (g 1) = (k_ 1)
      · refine o_icN B 19 22 d6_19 rfl (XT.ii_ne_f k2) ?_
        refine o_iconst B 22 23 (1 : Int32) d6_22 rfl (by decide) ?_
        refine o_goto B 23 27 d6_23 (by decide) (by decide) ?_
        refine o_retZ (t := .boolean) B 27 d6_27 hret hlk (by simp) (by decide) (by decide) ⟨(congrArg (fun z => some (Value.int z)) ((show nar .boolean (1 : Int32) = (1 : Int32) from rfl).trans (show f6_3_1 g k_ x2 = (1 : Int32) from (if_pos k1).trans ((if_pos k2).trans (rfl))).symm)), rfl, rfl⟩
      · refine o_icY B 19 26 d6_19 (XT.ii_ne_t k2) (by decide) (by decide) ?_
        refine o_iconst B 26 27 (0 : Int32) d6_26 rfl (by decide) ?_
        refine o_retZ (t := .boolean) B 27 d6_27 hret hlk (by simp) (by decide) (by decide) ⟨(congrArg (fun z => some (Value.int z)) ((show nar .boolean (0 : Int32) = (0 : Int32) from rfl).trans (show f6_3_1 g k_ x2 = (0 : Int32) from (if_pos k1).trans ((if_neg k2).trans (rfl))).symm)), rfl, rfl⟩
    · refine o_icY B 10 28 d6_10 (XT.ii_ge_t k1) (by decide) (by decide) ?_
      refine o_iloadN B 28 29 (v := (1 : Int32)) d6_28 rfl rfl ?_
      refine o_iloadN B 29 30 (v := x2) d6_29 rfl rfl ?_
      by_cases k3 : (1 : Int32) = x2
      · refine o_icN B 30 33 d6_30 rfl (XT.ii_ne_f k3) ?_
        refine o_aloadN B 33 34 (v := (.ref x0)) d6_33 rfl rfl rfl ?_
        refine o_iloadN B 34 35 (v := (1 : Int32)) d6_34 rfl rfl ?_
        refine o_iaload B 35 36 A0 1 (g 1) d6_35 rfl (by decide) (by decide) (by decide) rfl ?_
        refine o_aloadN B 36 37 (v := (.ref x1)) d6_36 rfl rfl rfl ?_
        refine o_iloadN B 37 38 (v := (1 : Int32)) d6_37 rfl rfl ?_
        refine o_iaload B 38 39 A1 1 (k_ 1) d6_38 rfl (by decide) (by decide) (by decide) rfl ?_
        by_cases k4 : (g 1) = (k_ 1)
        · refine o_icY B 39 46 d6_39 (XT.ii_eq_t k4) (by decide) (by decide) ?_
          refine o_iconst B 46 47 (0 : Int32) d6_46 rfl (by decide) ?_
          refine o_retZ (t := .boolean) B 47 d6_47 hret hlk (by simp) (by decide) (by decide) ⟨(congrArg (fun z => some (Value.int z)) ((show nar .boolean (0 : Int32) = (0 : Int32) from rfl).trans (show f6_3_1 g k_ x2 = (0 : Int32) from (if_neg k1).trans ((if_pos k3).trans ((if_pos k4).trans (rfl)))).symm)), rfl, rfl⟩
        · refine o_icN B 39 42 d6_39 rfl (XT.ii_eq_f k4) ?_
          refine o_iconst B 42 43 (1 : Int32) d6_42 rfl (by decide) ?_
          refine o_goto B 43 47 d6_43 (by decide) (by decide) ?_
          refine o_retZ (t := .boolean) B 47 d6_47 hret hlk (by simp) (by decide) (by decide) ⟨(congrArg (fun z => some (Value.int z)) ((show nar .boolean (1 : Int32) = (1 : Int32) from rfl).trans (show f6_3_1 g k_ x2 = (1 : Int32) from (if_neg k1).trans ((if_pos k3).trans ((if_neg k4).trans (rfl)))).symm)), rfl, rfl⟩
      · refine o_icY B 30 48 d6_30 (XT.ii_ne_t k3) (by decide) (by decide) ?_
        refine o_iconst B 48 49 (1 : Int32) d6_48 rfl (by decide) ?_
        refine o_retZ (t := .boolean) B 49 d6_49 hret hlk (by simp) (by decide) (by decide) ⟨(congrArg (fun z => some (Value.int z)) ((show nar .boolean (1 : Int32) = (1 : Int32) from rfl).trans (show f6_3_1 g k_ x2 = (1 : Int32) from (if_neg k1).trans ((if_neg k3).trans (rfl))).symm)), rfl, rfl⟩
def f6_3_2 (g : Nat → Int32) (k_ : Nat → Int32) (x2 : Int32) : Int32 := (if (2 : Int32) < x2 then (if (g 2) = (k_ 2) then (1 : Int32) else (0 : Int32)) else (if (2 : Int32) = x2 then (if (g 2) = (k_ 2) then (0 : Int32) else (1 : Int32)) else (1 : Int32)))
set_option maxRecDepth 65536 in
set_option maxHeartbeats 40000000 in
theorem rm6_3_2 (l : Launch) (Z : State) (a0 : Array Value) (hw : ∀ d ∈ tables_1, d.before a0 Z = true) (g : Nat → Int32) (k_ : Nat → Int32) (x0 : Addr) (x1 : Addr) (x2 : Int32) (h0 : Heap) (A0 : AI Z h0 x0 .int 3 g) (A1 : AI Z h0 x1 .int 3 k_) :
    Met l Z (⟨"com/example/crosshatch/crosshatch/design/ParameterSetsAdvancePinLaw", "place", "([I[III)Z"⟩ : MethodName) method_4_code 4 (some .boolean) ({ frames := 0, cells := 0, slots := 0, locals := 0 } : Room) #[(.ref x0), (.ref x1), (.int x2), (.int (2 : Int32))] h0 (Pu (some (.int (f6_3_2 g k_ x2))) h0) := by
  refine enter pl6 #[.val (.ref x0), .val (.ref x1), .val (.int x2), .val (.int (2 : Int32))] rfl ?_
  intro p e s m below meth c T B hret hlk hnm
  · refine o_iloadN B 0 1 (v := (2 : Int32)) d6_0 rfl rfl ?_
    refine o_aloadN B 1 2 (v := (.ref x0)) d6_1 rfl rfl rfl ?_
    refine o_alenI B 2 3 A0 (3 : Int32) d6_2 rfl (by decide) ?_
    refine o_icY B 3 8 d6_3 (XT.ii_lt_t (by decide)) (by decide) (by decide) ?_
    refine o_iloadN B 8 9 (v := (2 : Int32)) d6_8 rfl rfl ?_
    refine o_iloadN B 9 10 (v := x2) d6_9 rfl rfl ?_
    by_cases k1 : (2 : Int32) < x2
    · refine o_icN B 10 13 d6_10 rfl (XT.ii_ge_f k1) ?_
      refine o_aloadN B 13 14 (v := (.ref x0)) d6_13 rfl rfl rfl ?_
      refine o_iloadN B 14 15 (v := (2 : Int32)) d6_14 rfl rfl ?_
      refine o_iaload B 15 16 A0 2 (g 2) d6_15 rfl (by decide) (by decide) (by decide) rfl ?_
      refine o_aloadN B 16 17 (v := (.ref x1)) d6_16 rfl rfl rfl ?_
      refine o_iloadN B 17 18 (v := (2 : Int32)) d6_17 rfl rfl ?_
      refine o_iaload B 18 19 A1 2 (k_ 2) d6_18 rfl (by decide) (by decide) (by decide) rfl ?_
      by_cases k2 : (g 2) = (k_ 2)
      · refine o_icN B 19 22 d6_19 rfl (XT.ii_ne_f k2) ?_
        refine o_iconst B 22 23 (1 : Int32) d6_22 rfl (by decide) ?_
        refine o_goto B 23 27 d6_23 (by decide) (by decide) ?_
        refine o_retZ (t := .boolean) B 27 d6_27 hret hlk (by simp) (by decide) (by decide) ⟨(congrArg (fun z => some (Value.int z)) ((show nar .boolean (1 : Int32) = (1 : Int32) from rfl).trans (show f6_3_2 g k_ x2 = (1 : Int32) from (if_pos k1).trans ((if_pos k2).trans (rfl))).symm)), rfl, rfl⟩
      · refine o_icY B 19 26 d6_19 (XT.ii_ne_t k2) (by decide) (by decide) ?_
        refine o_iconst B 26 27 (0 : Int32) d6_26 rfl (by decide) ?_
        refine o_retZ (t := .boolean) B 27 d6_27 hret hlk (by simp) (by decide) (by decide) ⟨(congrArg (fun z => some (Value.int z)) ((show nar .boolean (0 : Int32) = (0 : Int32) from rfl).trans (show f6_3_2 g k_ x2 = (0 : Int32) from (if_pos k1).trans ((if_neg k2).trans (rfl))).symm)), rfl, rfl⟩
    · refine o_icY B 10 28 d6_10 (XT.ii_ge_t k1) (by decide) (by decide) ?_
      refine o_iloadN B 28 29 (v := (2 : Int32)) d6_28 rfl rfl ?_
      refine o_iloadN B 29 30 (v := x2) d6_29 rfl rfl ?_
      by_cases k3 : (2 : Int32) = x2
      · refine o_icN B 30 33 d6_30 rfl (XT.ii_ne_f k3) ?_
        refine o_aloadN B 33 34 (v := (.ref x0)) d6_33 rfl rfl rfl ?_
        refine o_iloadN B 34 35 (v := (2 : Int32)) d6_34 rfl rfl ?_
        refine o_iaload B 35 36 A0 2 (g 2) d6_35 rfl (by decide) (by decide) (by decide) rfl ?_
        refine o_aloadN B 36 37 (v := (.ref x1)) d6_36 rfl rfl rfl ?_
        refine o_iloadN B 37 38 (v := (2 : Int32)) d6_37 rfl rfl ?_
        refine o_iaload B 38 39 A1 2 (k_ 2) d6_38 rfl (by decide) (by decide) (by decide) rfl ?_
        by_cases k4 : (g 2) = (k_ 2)
        · refine o_icY B 39 46 d6_39 (XT.ii_eq_t k4) (by decide) (by decide) ?_
          refine o_iconst B 46 47 (0 : Int32) d6_46 rfl (by decide) ?_
          refine o_retZ (t := .boolean) B 47 d6_47 hret hlk (by simp) (by decide) (by decide) ⟨(congrArg (fun z => some (Value.int z)) ((show nar .boolean (0 : Int32) = (0 : Int32) from rfl).trans (show f6_3_2 g k_ x2 = (0 : Int32) from (if_neg k1).trans ((if_pos k3).trans ((if_pos k4).trans (rfl)))).symm)), rfl, rfl⟩
        · refine o_icN B 39 42 d6_39 rfl (XT.ii_eq_f k4) ?_
          refine o_iconst B 42 43 (1 : Int32) d6_42 rfl (by decide) ?_
          refine o_goto B 43 47 d6_43 (by decide) (by decide) ?_
          refine o_retZ (t := .boolean) B 47 d6_47 hret hlk (by simp) (by decide) (by decide) ⟨(congrArg (fun z => some (Value.int z)) ((show nar .boolean (1 : Int32) = (1 : Int32) from rfl).trans (show f6_3_2 g k_ x2 = (1 : Int32) from (if_neg k1).trans ((if_pos k3).trans ((if_neg k4).trans (rfl)))).symm)), rfl, rfl⟩
      · refine o_icY B 30 48 d6_30 (XT.ii_ne_t k3) (by decide) (by decide) ?_
        refine o_iconst B 48 49 (1 : Int32) d6_48 rfl (by decide) ?_
        refine o_retZ (t := .boolean) B 49 d6_49 hret hlk (by simp) (by decide) (by decide) ⟨(congrArg (fun z => some (Value.int z)) ((show nar .boolean (1 : Int32) = (1 : Int32) from rfl).trans (show f6_3_2 g k_ x2 = (1 : Int32) from (if_neg k1).trans ((if_neg k3).trans (rfl))).symm)), rfl, rfl⟩
def f6_3_3 (g : Nat → Int32) (k_ : Nat → Int32) (x2 : Int32) : Int32 := (1 : Int32)
set_option maxRecDepth 65536 in
set_option maxHeartbeats 40000000 in
theorem rm6_3_3 (l : Launch) (Z : State) (a0 : Array Value) (hw : ∀ d ∈ tables_1, d.before a0 Z = true) (g : Nat → Int32) (k_ : Nat → Int32) (x0 : Addr) (x1 : Addr) (x2 : Int32) (h0 : Heap) (A0 : AI Z h0 x0 .int 3 g) (A1 : AI Z h0 x1 .int 3 k_) :
    Met l Z (⟨"com/example/crosshatch/crosshatch/design/ParameterSetsAdvancePinLaw", "place", "([I[III)Z"⟩ : MethodName) method_4_code 4 (some .boolean) ({ frames := 0, cells := 0, slots := 0, locals := 0 } : Room) #[(.ref x0), (.ref x1), (.int x2), (.int (3 : Int32))] h0 (Pu (some (.int (f6_3_3 g k_ x2))) h0) := by
  refine enter pl6 #[.val (.ref x0), .val (.ref x1), .val (.int x2), .val (.int (3 : Int32))] rfl ?_
  intro p e s m below meth c T B hret hlk hnm
  · refine o_iloadN B 0 1 (v := (3 : Int32)) d6_0 rfl rfl ?_
    refine o_aloadN B 1 2 (v := (.ref x0)) d6_1 rfl rfl rfl ?_
    refine o_alenI B 2 3 A0 (3 : Int32) d6_2 rfl (by decide) ?_
    refine o_icN B 3 6 d6_3 rfl (XT.ii_lt_f (by decide)) ?_
    refine o_iconst B 6 7 (1 : Int32) d6_6 rfl (by decide) ?_
    refine o_retZ (t := .boolean) B 7 d6_7 hret hlk (by simp) (by decide) (by decide) ⟨(congrArg (fun z => some (Value.int z)) ((show nar .boolean (1 : Int32) = (1 : Int32) from rfl).trans (show f6_3_3 g k_ x2 = (1 : Int32) from rfl).symm)), rfl, rfl⟩
def f7_3 (g : Nat → Int32) (k_ : Nat → Int32) : Int32 := (if (g 0) = (k_ 0) then (if (g 1) = (k_ 1) then (if (g 2) = (k_ 2) then (1 : Int32) else (0 : Int32)) else (0 : Int32)) else (0 : Int32))
set_option maxRecDepth 65536 in
set_option maxHeartbeats 40000000 in
theorem rm7_3 (l : Launch) (Z : State) (a0 : Array Value) (hw : ∀ d ∈ tables_1, d.before a0 Z = true) (g : Nat → Int32) (k_ : Nat → Int32) (x0 : Addr) (x1 : Addr) (h0 : Heap) (A0 : AI Z h0 x0 .int 3 g) (A1 : AI Z h0 x1 .int 3 k_) :
    Met l Z (⟨"com/example/crosshatch/crosshatch/design/ParameterSetsAdvancePinLaw", "same", "([I[I)Z"⟩ : MethodName) method_5_code 3 (some .boolean) ({ frames := 0, cells := 0, slots := 0, locals := 0 } : Room) #[(.ref x0), (.ref x1)] h0 (Pu (some (.int (f7_3 g k_))) h0) := by
  refine enter pl7 #[.val (.ref x0), .val (.ref x1), .unset] rfl ?_
  intro p e s m below meth c T B hret hlk hnm
  · refine o_aloadN B 0 1 (v := (.ref x1)) d7_0 rfl rfl rfl ?_
    refine o_alenI B 1 2 A1 (3 : Int32) d7_1 rfl (by decide) ?_
    refine o_istoreN B 2 3 (l' := #[.val (.ref x0), .val (.ref x1), .val (.int (3 : Int32))]) d7_2 rfl rfl ?_
    refine o_aloadN B 3 4 (v := (.ref x0)) d7_3 rfl rfl rfl ?_
    refine o_alenI B 4 5 A0 (3 : Int32) d7_4 rfl (by decide) ?_
    refine o_iloadN B 5 6 (v := (3 : Int32)) d7_5 rfl rfl ?_
    refine o_icY B 6 11 d7_6 (XT.ii_eq_t (by decide)) (by decide) (by decide) ?_
    refine o_aloadN B 11 12 (v := (.ref x0)) d7_11 rfl rfl rfl ?_
    refine o_iconst B 12 13 (0 : Int32) d7_12 rfl (by decide) ?_
    refine o_iaload B 13 14 A0 0 (g 0) d7_13 rfl (by decide) (by decide) (by decide) rfl ?_
    refine o_aloadN B 14 15 (v := (.ref x1)) d7_14 rfl rfl rfl ?_
    refine o_iconst B 15 16 (0 : Int32) d7_15 rfl (by decide) ?_
    refine o_iaload B 16 17 A1 0 (k_ 0) d7_16 rfl (by decide) (by decide) (by decide) rfl ?_
    by_cases k1 : (g 0) = (k_ 0)
    · refine o_icY B 17 22 d7_17 (XT.ii_eq_t k1) (by decide) (by decide) ?_
      refine o_iloadN B 22 23 (v := (3 : Int32)) d7_22 rfl rfl ?_
      refine o_iconst B 23 24 (1 : Int32) d7_23 rfl (by decide) ?_
      refine o_icN B 24 27 d7_24 rfl (XT.ii_le_f (by decide)) ?_
      refine o_aloadN B 27 28 (v := (.ref x0)) d7_27 rfl rfl rfl ?_
      refine o_iconst B 28 29 (1 : Int32) d7_28 rfl (by decide) ?_
      refine o_iaload B 29 30 A0 1 (g 1) d7_29 rfl (by decide) (by decide) (by decide) rfl ?_
      refine o_aloadN B 30 31 (v := (.ref x1)) d7_30 rfl rfl rfl ?_
      refine o_iconst B 31 32 (1 : Int32) d7_31 rfl (by decide) ?_
      refine o_iaload B 32 33 A1 1 (k_ 1) d7_32 rfl (by decide) (by decide) (by decide) rfl ?_
      by_cases k2 : (g 1) = (k_ 1)
      · refine o_icY B 33 38 d7_33 (XT.ii_eq_t k2) (by decide) (by decide) ?_
        refine o_iloadN B 38 39 (v := (3 : Int32)) d7_38 rfl rfl ?_
        refine o_iconst B 39 40 (2 : Int32) d7_39 rfl (by decide) ?_
        refine o_icN B 40 43 d7_40 rfl (XT.ii_le_f (by decide)) ?_
        refine o_aloadN B 43 44 (v := (.ref x0)) d7_43 rfl rfl rfl ?_
        refine o_iconst B 44 45 (2 : Int32) d7_44 rfl (by decide) ?_
        refine o_iaload B 45 46 A0 2 (g 2) d7_45 rfl (by decide) (by decide) (by decide) rfl ?_
        refine o_aloadN B 46 47 (v := (.ref x1)) d7_46 rfl rfl rfl ?_
        refine o_iconst B 47 48 (2 : Int32) d7_47 rfl (by decide) ?_
        refine o_iaload B 48 49 A1 2 (k_ 2) d7_48 rfl (by decide) (by decide) (by decide) rfl ?_
        by_cases k3 : (g 2) = (k_ 2)
        · refine o_icY B 49 54 d7_49 (XT.ii_eq_t k3) (by decide) (by decide) ?_
          refine o_iloadN B 54 55 (v := (3 : Int32)) d7_54 rfl rfl ?_
          refine o_iconst B 55 56 (3 : Int32) d7_55 rfl (by decide) ?_
          refine o_icY B 56 70 d7_56 (XT.ii_le_t (by decide)) (by decide) (by decide) ?_
          refine o_iconst B 70 71 (1 : Int32) d7_70 rfl (by decide) ?_
          refine o_retZ (t := .boolean) B 71 d7_71 hret hlk (by simp) (by decide) (by decide) ⟨(congrArg (fun z => some (Value.int z)) ((show nar .boolean (1 : Int32) = (1 : Int32) from rfl).trans (show f7_3 g k_ = (1 : Int32) from (if_pos k1).trans ((if_pos k2).trans ((if_pos k3).trans (rfl)))).symm)), rfl, rfl⟩
        · refine o_icN B 49 52 d7_49 rfl (XT.ii_eq_f k3) ?_
          refine o_iconst B 52 53 (0 : Int32) d7_52 rfl (by decide) ?_
          refine o_retZ (t := .boolean) B 53 d7_53 hret hlk (by simp) (by decide) (by decide) ⟨(congrArg (fun z => some (Value.int z)) ((show nar .boolean (0 : Int32) = (0 : Int32) from rfl).trans (show f7_3 g k_ = (0 : Int32) from (if_pos k1).trans ((if_pos k2).trans ((if_neg k3).trans (rfl)))).symm)), rfl, rfl⟩
      · refine o_icN B 33 36 d7_33 rfl (XT.ii_eq_f k2) ?_
        refine o_iconst B 36 37 (0 : Int32) d7_36 rfl (by decide) ?_
        refine o_retZ (t := .boolean) B 37 d7_37 hret hlk (by simp) (by decide) (by decide) ⟨(congrArg (fun z => some (Value.int z)) ((show nar .boolean (0 : Int32) = (0 : Int32) from rfl).trans (show f7_3 g k_ = (0 : Int32) from (if_pos k1).trans ((if_neg k2).trans (rfl))).symm)), rfl, rfl⟩
    · refine o_icN B 17 20 d7_17 rfl (XT.ii_eq_f k1) ?_
      refine o_iconst B 20 21 (0 : Int32) d7_20 rfl (by decide) ?_
      refine o_retZ (t := .boolean) B 21 d7_21 hret hlk (by simp) (by decide) (by decide) ⟨(congrArg (fun z => some (Value.int z)) ((show nar .boolean (0 : Int32) = (0 : Int32) from rfl).trans (show f7_3 g k_ = (0 : Int32) from (if_neg k1).trans (rfl)).symm)), rfl, rfl⟩
def w2_4_1 (g : Nat → Int32) (x1 : Int32) : Nat → Int32 := fun j => if j = 0 then ((g 0) + (1 : Int32)) else g j
def w2_4_2 (g : Nat → Int32) (x1 : Int32) : Nat → Int32 := fun j => if j = 1 then (((w2_4_1 g x1) 0) + (1 : Int32)) else (w2_4_1 g x1) j
def w2_4_3 (g : Nat → Int32) (x1 : Int32) : Nat → Int32 := fun j => if j = 2 then (((w2_4_2 g x1) 1) + (1 : Int32)) else (w2_4_2 g x1) j
def w2_4_4 (g : Nat → Int32) (x1 : Int32) : Nat → Int32 := fun j => if j = 3 then (((w2_4_3 g x1) 2) + (1 : Int32)) else (w2_4_3 g x1) j
def w2_4_5 (g : Nat → Int32) (x1 : Int32) : Nat → Int32 := fun j => if j = 1 then ((g 1) + (1 : Int32)) else g j
def w2_4_6 (g : Nat → Int32) (x1 : Int32) : Nat → Int32 := fun j => if j = 2 then (((w2_4_5 g x1) 1) + (1 : Int32)) else (w2_4_5 g x1) j
def w2_4_7 (g : Nat → Int32) (x1 : Int32) : Nat → Int32 := fun j => if j = 3 then (((w2_4_6 g x1) 2) + (1 : Int32)) else (w2_4_6 g x1) j
def w2_4_8 (g : Nat → Int32) (x1 : Int32) : Nat → Int32 := fun j => if j = 2 then ((g 2) + (1 : Int32)) else g j
def w2_4_9 (g : Nat → Int32) (x1 : Int32) : Nat → Int32 := fun j => if j = 3 then (((w2_4_8 g x1) 2) + (1 : Int32)) else (w2_4_8 g x1) j
def w2_4_10 (g : Nat → Int32) (x1 : Int32) : Nat → Int32 := fun j => if j = 3 then ((g 3) + (1 : Int32)) else g j
def f2_4 (g : Nat → Int32) (x1 : Int32) : Int32 := (if (g 3) = ((x1 - (4 : Int32)) + (3 : Int32)) then (if (g 2) = ((x1 - (4 : Int32)) + (2 : Int32)) then (if (g 1) = ((x1 - (4 : Int32)) + (1 : Int32)) then (if (g 0) = ((x1 - (4 : Int32)) + (0 : Int32)) then (-1 : Int32) else (0 : Int32)) else (1 : Int32)) else (2 : Int32)) else (3 : Int32))
def o2_4_0 (g : Nat → Int32) (x1 : Int32) : Nat → Int32 := (if (g 3) = ((x1 - (4 : Int32)) + (3 : Int32)) then (if (g 2) = ((x1 - (4 : Int32)) + (2 : Int32)) then (if (g 1) = ((x1 - (4 : Int32)) + (1 : Int32)) then (if (g 0) = ((x1 - (4 : Int32)) + (0 : Int32)) then g else (w2_4_4 g x1)) else (w2_4_7 g x1)) else (w2_4_9 g x1)) else (w2_4_10 g x1))
def Q2_4 (Z : State) (g : Nat → Int32) (x0 : Addr) (x1 : Int32) (h0 : Heap) (n0 : Nat) (v : Option Value) (h : Heap) (L : List Loc) : Prop := v = some (.int (f2_4 g x1)) ∧ Fr n0 L ∧ Keep h0 h [x0] ∧ AI Z h x0 .int 4 (o2_4_0 g x1)
set_option maxRecDepth 65536 in
set_option maxHeartbeats 40000000 in
theorem rm2_4 (l : Launch) (Z : State) (a0 : Array Value) (hw : ∀ d ∈ tables_1, d.before a0 Z = true) (g : Nat → Int32) (x0 : Addr) (x1 : Int32) (h0 : Heap) (n0 : Nat) (hz : n0 ≤ h0.size) (A0 : AI Z h0 x0 .int 4 g) (gw_x0 : n0 ≤ x0) :
    Met l Z (⟨"com/example/crosshatch/crosshatch/design/ParameterSets", "advance", "([II)I"⟩ : MethodName) prog_6_method_5_code 4 (some .int) ({ frames := 0, cells := 0, slots := 0, locals := 0 } : Room) #[(.ref x0), (.int x1)] h0 (Q2_4 Z g x0 x1 h0 n0) := by
  refine enter pl2 #[.val (.ref x0), .val (.int x1), .unset, .unset] rfl ?_
  intro p e s m below meth c T B hret hlk hnm
  have N0 := Fr.nil n0
  refine o_aloadN B 0 1 (v := (.ref x0)) d2_0 rfl rfl rfl ?_
  refine o_alenI B 1 2 A0 (4 : Int32) d2_1 rfl (by decide) ?_
  refine o_iconst B 2 3 (1 : Int32) d2_2 rfl (by decide) ?_
  refine o_isub B 3 4 d2_3 rfl ?_
  refine o_topI (show ((4 : Int32) - (1 : Int32)) = (3 : Int32) by decide) ?_
  refine o_istoreN B 4 5 (l' := #[.val (.ref x0), .val (.int x1), .val (.int (3 : Int32)), .unset]) d2_4 rfl rfl ?_
  refine o_iloadN B 5 6 (v := (3 : Int32)) d2_5 rfl rfl ?_
  refine o_ifN B 6 9 d2_6 rfl (XT.i0_lt_f (by decide)) ?_
  refine o_aloadN B 9 10 (v := (.ref x0)) d2_9 rfl rfl rfl ?_
  refine o_iloadN B 10 11 (v := (3 : Int32)) d2_10 rfl rfl ?_
  refine o_iaload B 11 12 A0 3 (g 3) d2_11 rfl (by decide) (by decide) (by decide) rfl ?_
  refine o_iloadN B 12 13 (v := x1) d2_12 rfl rfl ?_
  refine o_aloadN B 13 14 (v := (.ref x0)) d2_13 rfl rfl rfl ?_
  refine o_alenI B 14 15 A0 (4 : Int32) d2_14 rfl (by decide) ?_
  refine o_isub B 15 16 d2_15 rfl ?_
  refine o_iloadN B 16 17 (v := (3 : Int32)) d2_16 rfl rfl ?_
  refine o_iadd B 17 18 d2_17 rfl ?_
  by_cases k1 : (g 3) = ((x1 - (4 : Int32)) + (3 : Int32))
  · refine o_icN B 18 21 d2_18 rfl (XT.ii_ne_f k1) ?_
    refine o_iincC B 21 24 (l' := #[.val (.ref x0), .val (.int x1), .val (.int (2 : Int32)), .unset]) (-1 : Int32) (2 : Int32) d2_21 rfl (by decide) rfl (by decide) rfl ?_
    refine o_goto B 24 5 d2_24 (by decide) (by decide) ?_
    refine o_iloadN B 5 6 (v := (2 : Int32)) d2_5 rfl rfl ?_
    refine o_ifN B 6 9 d2_6 rfl (XT.i0_lt_f (by decide)) ?_
    refine o_aloadN B 9 10 (v := (.ref x0)) d2_9 rfl rfl rfl ?_
    refine o_iloadN B 10 11 (v := (2 : Int32)) d2_10 rfl rfl ?_
    refine o_iaload B 11 12 A0 2 (g 2) d2_11 rfl (by decide) (by decide) (by decide) rfl ?_
    refine o_iloadN B 12 13 (v := x1) d2_12 rfl rfl ?_
    refine o_aloadN B 13 14 (v := (.ref x0)) d2_13 rfl rfl rfl ?_
    refine o_alenI B 14 15 A0 (4 : Int32) d2_14 rfl (by decide) ?_
    refine o_isub B 15 16 d2_15 rfl ?_
    refine o_iloadN B 16 17 (v := (2 : Int32)) d2_16 rfl rfl ?_
    refine o_iadd B 17 18 d2_17 rfl ?_
    by_cases k2 : (g 2) = ((x1 - (4 : Int32)) + (2 : Int32))
    · refine o_icN B 18 21 d2_18 rfl (XT.ii_ne_f k2) ?_
      refine o_iincC B 21 24 (l' := #[.val (.ref x0), .val (.int x1), .val (.int (1 : Int32)), .unset]) (-1 : Int32) (1 : Int32) d2_21 rfl (by decide) rfl (by decide) rfl ?_
      refine o_goto B 24 5 d2_24 (by decide) (by decide) ?_
      refine o_iloadN B 5 6 (v := (1 : Int32)) d2_5 rfl rfl ?_
      refine o_ifN B 6 9 d2_6 rfl (XT.i0_lt_f (by decide)) ?_
      refine o_aloadN B 9 10 (v := (.ref x0)) d2_9 rfl rfl rfl ?_
      refine o_iloadN B 10 11 (v := (1 : Int32)) d2_10 rfl rfl ?_
      refine o_iaload B 11 12 A0 1 (g 1) d2_11 rfl (by decide) (by decide) (by decide) rfl ?_
      refine o_iloadN B 12 13 (v := x1) d2_12 rfl rfl ?_
      refine o_aloadN B 13 14 (v := (.ref x0)) d2_13 rfl rfl rfl ?_
      refine o_alenI B 14 15 A0 (4 : Int32) d2_14 rfl (by decide) ?_
      refine o_isub B 15 16 d2_15 rfl ?_
      refine o_iloadN B 16 17 (v := (1 : Int32)) d2_16 rfl rfl ?_
      refine o_iadd B 17 18 d2_17 rfl ?_
      by_cases k3 : (g 1) = ((x1 - (4 : Int32)) + (1 : Int32))
      · refine o_icN B 18 21 d2_18 rfl (XT.ii_ne_f k3) ?_
        refine o_iincC B 21 24 (l' := #[.val (.ref x0), .val (.int x1), .val (.int (0 : Int32)), .unset]) (-1 : Int32) (0 : Int32) d2_21 rfl (by decide) rfl (by decide) rfl ?_
        refine o_goto B 24 5 d2_24 (by decide) (by decide) ?_
        refine o_iloadN B 5 6 (v := (0 : Int32)) d2_5 rfl rfl ?_
        refine o_ifN B 6 9 d2_6 rfl (XT.i0_lt_f (by decide)) ?_
        refine o_aloadN B 9 10 (v := (.ref x0)) d2_9 rfl rfl rfl ?_
        refine o_iloadN B 10 11 (v := (0 : Int32)) d2_10 rfl rfl ?_
        refine o_iaload B 11 12 A0 0 (g 0) d2_11 rfl (by decide) (by decide) (by decide) rfl ?_
        refine o_iloadN B 12 13 (v := x1) d2_12 rfl rfl ?_
        refine o_aloadN B 13 14 (v := (.ref x0)) d2_13 rfl rfl rfl ?_
        refine o_alenI B 14 15 A0 (4 : Int32) d2_14 rfl (by decide) ?_
        refine o_isub B 15 16 d2_15 rfl ?_
        refine o_iloadN B 16 17 (v := (0 : Int32)) d2_16 rfl rfl ?_
        refine o_iadd B 17 18 d2_17 rfl ?_
        by_cases k4 : (g 0) = ((x1 - (4 : Int32)) + (0 : Int32))
        · refine o_icN B 18 21 d2_18 rfl (XT.ii_ne_f k4) ?_
          refine o_iincC B 21 24 (l' := #[.val (.ref x0), .val (.int x1), .val (.int (-1 : Int32)), .unset]) (-1 : Int32) (-1 : Int32) d2_21 rfl (by decide) rfl (by decide) rfl ?_
          refine o_goto B 24 5 d2_24 (by decide) (by decide) ?_
          refine o_iloadN B 5 6 (v := (-1 : Int32)) d2_5 rfl rfl ?_
          refine o_ifY B 6 27 d2_6 (XT.i0_lt_t (by decide)) (by decide) (by decide) ?_
          refine o_iloadN B 27 28 (v := (-1 : Int32)) d2_27 rfl rfl ?_
          refine o_ifN B 28 31 d2_28 rfl (XT.i0_ge_f (by decide)) ?_
          refine o_iconst B 31 32 (-1 : Int32) d2_31 rfl (by decide) ?_
          refine o_retI B 32 d2_32 hret hlk (by decide) (by decide) ⟨(congrArg (fun z => some (Value.int z)) (show f2_4 g x1 = (-1 : Int32) from (if_pos k1).trans ((if_pos k2).trans ((if_pos k3).trans ((if_pos k4).trans (rfl)))))).symm, N0, (Keep.refl h0 [x0]), (by rw [show (o2_4_0 g x1) = g from (if_pos k1).trans ((if_pos k2).trans ((if_pos k3).trans ((if_pos k4).trans (rfl))))]; exact A0)⟩
        · refine o_icY B 18 27 d2_18 (XT.ii_ne_t k4) (by decide) (by decide) ?_
          refine o_iloadN B 27 28 (v := (0 : Int32)) d2_27 rfl rfl ?_
          refine o_ifY B 28 33 d2_28 (XT.i0_ge_t (by decide)) (by decide) (by decide) ?_
          refine o_aloadN B 33 34 (v := (.ref x0)) d2_33 rfl rfl rfl ?_
          refine o_iloadN B 34 35 (v := (0 : Int32)) d2_34 rfl rfl ?_
          refine o_dup2 B 35 36 d2_35 rfl rfl rfl ?_
          refine o_iaload B 36 37 A0 0 (g 0) d2_36 rfl (by decide) (by decide) (by decide) rfl ?_
          refine o_iconst B 37 38 (1 : Int32) d2_37 rfl (by decide) ?_
          refine o_iadd B 38 39 d2_38 rfl ?_
          obtain ⟨T11, h11, L11, B11, N11, W11, Q11, c11⟩ := o_iastore B N0 gw_x0 39 40 A0 (j := (0 : Int32)) (x := ((g 0) + (1 : Int32))) 0 ((g 0) + (1 : Int32)) d2_39 rfl (by decide) (by decide) (by decide) rfl (Ls := #[.val (.ref x0), .val (.int x1), .val (.int (0 : Int32)), .unset]) (rest := [])
          have A11 : AI Z h11 x0 .int 4 (w2_4_1 g x1) := Q11
          refine c11 ?_
          refine o_iloadN B11 40 41 (v := (0 : Int32)) d2_40 rfl rfl ?_
          refine o_iconst B11 41 42 (1 : Int32) d2_41 rfl (by decide) ?_
          refine o_iadd B11 42 43 d2_42 rfl ?_
          refine o_topI (show ((0 : Int32) + (1 : Int32)) = (1 : Int32) by decide) ?_
          refine o_istoreN B11 43 44 (l' := #[.val (.ref x0), .val (.int x1), .val (.int (0 : Int32)), .val (.int (1 : Int32))]) d2_43 rfl rfl ?_
          refine o_iloadN B11 44 45 (v := (1 : Int32)) d2_44 rfl rfl ?_
          refine o_aloadN B11 45 46 (v := (.ref x0)) d2_45 rfl rfl rfl ?_
          refine o_alenI B11 46 47 A11 (4 : Int32) d2_46 rfl (by decide) ?_
          refine o_icN B11 47 50 d2_47 rfl (XT.ii_ge_f (by decide)) ?_
          refine o_aloadN B11 50 51 (v := (.ref x0)) d2_50 rfl rfl rfl ?_
          refine o_iloadN B11 51 52 (v := (1 : Int32)) d2_51 rfl rfl ?_
          refine o_aloadN B11 52 53 (v := (.ref x0)) d2_52 rfl rfl rfl ?_
          refine o_iloadN B11 53 54 (v := (1 : Int32)) d2_53 rfl rfl ?_
          refine o_iconst B11 54 55 (1 : Int32) d2_54 rfl (by decide) ?_
          refine o_isub B11 55 56 d2_55 rfl ?_
          refine o_topI (show ((1 : Int32) - (1 : Int32)) = (0 : Int32) by decide) ?_
          refine o_iaload B11 56 57 A11 0 ((w2_4_1 g x1) 0) d2_56 rfl (by decide) (by decide) (by decide) rfl ?_
          refine o_iconst B11 57 58 (1 : Int32) d2_57 rfl (by decide) ?_
          refine o_iadd B11 58 59 d2_58 rfl ?_
          obtain ⟨T14, h14, L14, B14, N14, W14, Q14, c14⟩ := o_iastore B11 N11 gw_x0 59 60 A11 (j := (1 : Int32)) (x := (((w2_4_1 g x1) 0) + (1 : Int32))) 1 (((w2_4_1 g x1) 0) + (1 : Int32)) d2_59 rfl (by decide) (by decide) (by decide) rfl (Ls := #[.val (.ref x0), .val (.int x1), .val (.int (0 : Int32)), .val (.int (1 : Int32))]) (rest := [])
          have A14 : AI Z h14 x0 .int 4 (w2_4_2 g x1) := Q14
          refine c14 ?_
          refine o_iincC B14 60 63 (l' := #[.val (.ref x0), .val (.int x1), .val (.int (0 : Int32)), .val (.int (2 : Int32))]) (1 : Int32) (2 : Int32) d2_60 rfl (by decide) rfl (by decide) rfl ?_
          refine o_goto B14 63 44 d2_63 (by decide) (by decide) ?_
          refine o_iloadN B14 44 45 (v := (2 : Int32)) d2_44 rfl rfl ?_
          refine o_aloadN B14 45 46 (v := (.ref x0)) d2_45 rfl rfl rfl ?_
          refine o_alenI B14 46 47 A14 (4 : Int32) d2_46 rfl (by decide) ?_
          refine o_icN B14 47 50 d2_47 rfl (XT.ii_ge_f (by decide)) ?_
          refine o_aloadN B14 50 51 (v := (.ref x0)) d2_50 rfl rfl rfl ?_
          refine o_iloadN B14 51 52 (v := (2 : Int32)) d2_51 rfl rfl ?_
          refine o_aloadN B14 52 53 (v := (.ref x0)) d2_52 rfl rfl rfl ?_
          refine o_iloadN B14 53 54 (v := (2 : Int32)) d2_53 rfl rfl ?_
          refine o_iconst B14 54 55 (1 : Int32) d2_54 rfl (by decide) ?_
          refine o_isub B14 55 56 d2_55 rfl ?_
          refine o_topI (show ((2 : Int32) - (1 : Int32)) = (1 : Int32) by decide) ?_
          refine o_iaload B14 56 57 A14 1 ((w2_4_2 g x1) 1) d2_56 rfl (by decide) (by decide) (by decide) rfl ?_
          refine o_iconst B14 57 58 (1 : Int32) d2_57 rfl (by decide) ?_
          refine o_iadd B14 58 59 d2_58 rfl ?_
          obtain ⟨T17, h17, L17, B17, N17, W17, Q17, c17⟩ := o_iastore B14 N14 gw_x0 59 60 A14 (j := (2 : Int32)) (x := (((w2_4_2 g x1) 1) + (1 : Int32))) 2 (((w2_4_2 g x1) 1) + (1 : Int32)) d2_59 rfl (by decide) (by decide) (by decide) rfl (Ls := #[.val (.ref x0), .val (.int x1), .val (.int (0 : Int32)), .val (.int (2 : Int32))]) (rest := [])
          have A17 : AI Z h17 x0 .int 4 (w2_4_3 g x1) := Q17
          refine c17 ?_
          refine o_iincC B17 60 63 (l' := #[.val (.ref x0), .val (.int x1), .val (.int (0 : Int32)), .val (.int (3 : Int32))]) (1 : Int32) (3 : Int32) d2_60 rfl (by decide) rfl (by decide) rfl ?_
          refine o_goto B17 63 44 d2_63 (by decide) (by decide) ?_
          refine o_iloadN B17 44 45 (v := (3 : Int32)) d2_44 rfl rfl ?_
          refine o_aloadN B17 45 46 (v := (.ref x0)) d2_45 rfl rfl rfl ?_
          refine o_alenI B17 46 47 A17 (4 : Int32) d2_46 rfl (by decide) ?_
          refine o_icN B17 47 50 d2_47 rfl (XT.ii_ge_f (by decide)) ?_
          refine o_aloadN B17 50 51 (v := (.ref x0)) d2_50 rfl rfl rfl ?_
          refine o_iloadN B17 51 52 (v := (3 : Int32)) d2_51 rfl rfl ?_
          refine o_aloadN B17 52 53 (v := (.ref x0)) d2_52 rfl rfl rfl ?_
          refine o_iloadN B17 53 54 (v := (3 : Int32)) d2_53 rfl rfl ?_
          refine o_iconst B17 54 55 (1 : Int32) d2_54 rfl (by decide) ?_
          refine o_isub B17 55 56 d2_55 rfl ?_
          refine o_topI (show ((3 : Int32) - (1 : Int32)) = (2 : Int32) by decide) ?_
          refine o_iaload B17 56 57 A17 2 ((w2_4_3 g x1) 2) d2_56 rfl (by decide) (by decide) (by decide) rfl ?_
          refine o_iconst B17 57 58 (1 : Int32) d2_57 rfl (by decide) ?_
          refine o_iadd B17 58 59 d2_58 rfl ?_
          obtain ⟨T20, h20, L20, B20, N20, W20, Q20, c20⟩ := o_iastore B17 N17 gw_x0 59 60 A17 (j := (3 : Int32)) (x := (((w2_4_3 g x1) 2) + (1 : Int32))) 3 (((w2_4_3 g x1) 2) + (1 : Int32)) d2_59 rfl (by decide) (by decide) (by decide) rfl (Ls := #[.val (.ref x0), .val (.int x1), .val (.int (0 : Int32)), .val (.int (3 : Int32))]) (rest := [])
          have A20 : AI Z h20 x0 .int 4 (w2_4_4 g x1) := Q20
          refine c20 ?_
          refine o_iincC B20 60 63 (l' := #[.val (.ref x0), .val (.int x1), .val (.int (0 : Int32)), .val (.int (4 : Int32))]) (1 : Int32) (4 : Int32) d2_60 rfl (by decide) rfl (by decide) rfl ?_
          refine o_goto B20 63 44 d2_63 (by decide) (by decide) ?_
          refine o_iloadN B20 44 45 (v := (4 : Int32)) d2_44 rfl rfl ?_
          refine o_aloadN B20 45 46 (v := (.ref x0)) d2_45 rfl rfl rfl ?_
          refine o_alenI B20 46 47 A20 (4 : Int32) d2_46 rfl (by decide) ?_
          refine o_icY B20 47 66 d2_47 (XT.ii_ge_t (by decide)) (by decide) (by decide) ?_
          refine o_iloadN B20 66 67 (v := (0 : Int32)) d2_66 rfl rfl ?_
          refine o_retI B20 67 d2_67 hret hlk (by decide) (by decide) ⟨(congrArg (fun z => some (Value.int z)) (show f2_4 g x1 = (0 : Int32) from (if_pos k1).trans ((if_pos k2).trans ((if_pos k3).trans ((if_neg k4).trans (rfl)))))).symm, N20, (((((Keep.refl h0 [x0]).wr W11 (Or.inl (List.mem_of_getElem? (i := 0) rfl))).wr W14 (Or.inl (List.mem_of_getElem? (i := 0) rfl))).wr W17 (Or.inl (List.mem_of_getElem? (i := 0) rfl))).wr W20 (Or.inl (List.mem_of_getElem? (i := 0) rfl))), (by rw [show (o2_4_0 g x1) = (w2_4_4 g x1) from (if_pos k1).trans ((if_pos k2).trans ((if_pos k3).trans ((if_neg k4).trans (rfl))))]; exact A20)⟩
      · refine o_icY B 18 27 d2_18 (XT.ii_ne_t k3) (by decide) (by decide) ?_
        refine o_iloadN B 27 28 (v := (1 : Int32)) d2_27 rfl rfl ?_
        refine o_ifY B 28 33 d2_28 (XT.i0_ge_t (by decide)) (by decide) (by decide) ?_
        refine o_aloadN B 33 34 (v := (.ref x0)) d2_33 rfl rfl rfl ?_
        refine o_iloadN B 34 35 (v := (1 : Int32)) d2_34 rfl rfl ?_
        refine o_dup2 B 35 36 d2_35 rfl rfl rfl ?_
        refine o_iaload B 36 37 A0 1 (g 1) d2_36 rfl (by decide) (by decide) (by decide) rfl ?_
        refine o_iconst B 37 38 (1 : Int32) d2_37 rfl (by decide) ?_
        refine o_iadd B 38 39 d2_38 rfl ?_
        obtain ⟨T23, h23, L23, B23, N23, W23, Q23, c23⟩ := o_iastore B N0 gw_x0 39 40 A0 (j := (1 : Int32)) (x := ((g 1) + (1 : Int32))) 1 ((g 1) + (1 : Int32)) d2_39 rfl (by decide) (by decide) (by decide) rfl (Ls := #[.val (.ref x0), .val (.int x1), .val (.int (1 : Int32)), .unset]) (rest := [])
        have A23 : AI Z h23 x0 .int 4 (w2_4_5 g x1) := Q23
        refine c23 ?_
        refine o_iloadN B23 40 41 (v := (1 : Int32)) d2_40 rfl rfl ?_
        refine o_iconst B23 41 42 (1 : Int32) d2_41 rfl (by decide) ?_
        refine o_iadd B23 42 43 d2_42 rfl ?_
        refine o_topI (show ((1 : Int32) + (1 : Int32)) = (2 : Int32) by decide) ?_
        refine o_istoreN B23 43 44 (l' := #[.val (.ref x0), .val (.int x1), .val (.int (1 : Int32)), .val (.int (2 : Int32))]) d2_43 rfl rfl ?_
        refine o_iloadN B23 44 45 (v := (2 : Int32)) d2_44 rfl rfl ?_
        refine o_aloadN B23 45 46 (v := (.ref x0)) d2_45 rfl rfl rfl ?_
        refine o_alenI B23 46 47 A23 (4 : Int32) d2_46 rfl (by decide) ?_
        refine o_icN B23 47 50 d2_47 rfl (XT.ii_ge_f (by decide)) ?_
        refine o_aloadN B23 50 51 (v := (.ref x0)) d2_50 rfl rfl rfl ?_
        refine o_iloadN B23 51 52 (v := (2 : Int32)) d2_51 rfl rfl ?_
        refine o_aloadN B23 52 53 (v := (.ref x0)) d2_52 rfl rfl rfl ?_
        refine o_iloadN B23 53 54 (v := (2 : Int32)) d2_53 rfl rfl ?_
        refine o_iconst B23 54 55 (1 : Int32) d2_54 rfl (by decide) ?_
        refine o_isub B23 55 56 d2_55 rfl ?_
        refine o_topI (show ((2 : Int32) - (1 : Int32)) = (1 : Int32) by decide) ?_
        refine o_iaload B23 56 57 A23 1 ((w2_4_5 g x1) 1) d2_56 rfl (by decide) (by decide) (by decide) rfl ?_
        refine o_iconst B23 57 58 (1 : Int32) d2_57 rfl (by decide) ?_
        refine o_iadd B23 58 59 d2_58 rfl ?_
        obtain ⟨T26, h26, L26, B26, N26, W26, Q26, c26⟩ := o_iastore B23 N23 gw_x0 59 60 A23 (j := (2 : Int32)) (x := (((w2_4_5 g x1) 1) + (1 : Int32))) 2 (((w2_4_5 g x1) 1) + (1 : Int32)) d2_59 rfl (by decide) (by decide) (by decide) rfl (Ls := #[.val (.ref x0), .val (.int x1), .val (.int (1 : Int32)), .val (.int (2 : Int32))]) (rest := [])
        have A26 : AI Z h26 x0 .int 4 (w2_4_6 g x1) := Q26
        refine c26 ?_
        refine o_iincC B26 60 63 (l' := #[.val (.ref x0), .val (.int x1), .val (.int (1 : Int32)), .val (.int (3 : Int32))]) (1 : Int32) (3 : Int32) d2_60 rfl (by decide) rfl (by decide) rfl ?_
        refine o_goto B26 63 44 d2_63 (by decide) (by decide) ?_
        refine o_iloadN B26 44 45 (v := (3 : Int32)) d2_44 rfl rfl ?_
        refine o_aloadN B26 45 46 (v := (.ref x0)) d2_45 rfl rfl rfl ?_
        refine o_alenI B26 46 47 A26 (4 : Int32) d2_46 rfl (by decide) ?_
        refine o_icN B26 47 50 d2_47 rfl (XT.ii_ge_f (by decide)) ?_
        refine o_aloadN B26 50 51 (v := (.ref x0)) d2_50 rfl rfl rfl ?_
        refine o_iloadN B26 51 52 (v := (3 : Int32)) d2_51 rfl rfl ?_
        refine o_aloadN B26 52 53 (v := (.ref x0)) d2_52 rfl rfl rfl ?_
        refine o_iloadN B26 53 54 (v := (3 : Int32)) d2_53 rfl rfl ?_
        refine o_iconst B26 54 55 (1 : Int32) d2_54 rfl (by decide) ?_
        refine o_isub B26 55 56 d2_55 rfl ?_
        refine o_topI (show ((3 : Int32) - (1 : Int32)) = (2 : Int32) by decide) ?_
        refine o_iaload B26 56 57 A26 2 ((w2_4_6 g x1) 2) d2_56 rfl (by decide) (by decide) (by decide) rfl ?_
        refine o_iconst B26 57 58 (1 : Int32) d2_57 rfl (by decide) ?_
        refine o_iadd B26 58 59 d2_58 rfl ?_
        obtain ⟨T29, h29, L29, B29, N29, W29, Q29, c29⟩ := o_iastore B26 N26 gw_x0 59 60 A26 (j := (3 : Int32)) (x := (((w2_4_6 g x1) 2) + (1 : Int32))) 3 (((w2_4_6 g x1) 2) + (1 : Int32)) d2_59 rfl (by decide) (by decide) (by decide) rfl (Ls := #[.val (.ref x0), .val (.int x1), .val (.int (1 : Int32)), .val (.int (3 : Int32))]) (rest := [])
        have A29 : AI Z h29 x0 .int 4 (w2_4_7 g x1) := Q29
        refine c29 ?_
        refine o_iincC B29 60 63 (l' := #[.val (.ref x0), .val (.int x1), .val (.int (1 : Int32)), .val (.int (4 : Int32))]) (1 : Int32) (4 : Int32) d2_60 rfl (by decide) rfl (by decide) rfl ?_
        refine o_goto B29 63 44 d2_63 (by decide) (by decide) ?_
        refine o_iloadN B29 44 45 (v := (4 : Int32)) d2_44 rfl rfl ?_
        refine o_aloadN B29 45 46 (v := (.ref x0)) d2_45 rfl rfl rfl ?_
        refine o_alenI B29 46 47 A29 (4 : Int32) d2_46 rfl (by decide) ?_
        refine o_icY B29 47 66 d2_47 (XT.ii_ge_t (by decide)) (by decide) (by decide) ?_
        refine o_iloadN B29 66 67 (v := (1 : Int32)) d2_66 rfl rfl ?_
        refine o_retI B29 67 d2_67 hret hlk (by decide) (by decide) ⟨(congrArg (fun z => some (Value.int z)) (show f2_4 g x1 = (1 : Int32) from (if_pos k1).trans ((if_pos k2).trans ((if_neg k3).trans (rfl))))).symm, N29, ((((Keep.refl h0 [x0]).wr W23 (Or.inl (List.mem_of_getElem? (i := 0) rfl))).wr W26 (Or.inl (List.mem_of_getElem? (i := 0) rfl))).wr W29 (Or.inl (List.mem_of_getElem? (i := 0) rfl))), (by rw [show (o2_4_0 g x1) = (w2_4_7 g x1) from (if_pos k1).trans ((if_pos k2).trans ((if_neg k3).trans (rfl)))]; exact A29)⟩
    · refine o_icY B 18 27 d2_18 (XT.ii_ne_t k2) (by decide) (by decide) ?_
      refine o_iloadN B 27 28 (v := (2 : Int32)) d2_27 rfl rfl ?_
      refine o_ifY B 28 33 d2_28 (XT.i0_ge_t (by decide)) (by decide) (by decide) ?_
      refine o_aloadN B 33 34 (v := (.ref x0)) d2_33 rfl rfl rfl ?_
      refine o_iloadN B 34 35 (v := (2 : Int32)) d2_34 rfl rfl ?_
      refine o_dup2 B 35 36 d2_35 rfl rfl rfl ?_
      refine o_iaload B 36 37 A0 2 (g 2) d2_36 rfl (by decide) (by decide) (by decide) rfl ?_
      refine o_iconst B 37 38 (1 : Int32) d2_37 rfl (by decide) ?_
      refine o_iadd B 38 39 d2_38 rfl ?_
      obtain ⟨T32, h32, L32, B32, N32, W32, Q32, c32⟩ := o_iastore B N0 gw_x0 39 40 A0 (j := (2 : Int32)) (x := ((g 2) + (1 : Int32))) 2 ((g 2) + (1 : Int32)) d2_39 rfl (by decide) (by decide) (by decide) rfl (Ls := #[.val (.ref x0), .val (.int x1), .val (.int (2 : Int32)), .unset]) (rest := [])
      have A32 : AI Z h32 x0 .int 4 (w2_4_8 g x1) := Q32
      refine c32 ?_
      refine o_iloadN B32 40 41 (v := (2 : Int32)) d2_40 rfl rfl ?_
      refine o_iconst B32 41 42 (1 : Int32) d2_41 rfl (by decide) ?_
      refine o_iadd B32 42 43 d2_42 rfl ?_
      refine o_topI (show ((2 : Int32) + (1 : Int32)) = (3 : Int32) by decide) ?_
      refine o_istoreN B32 43 44 (l' := #[.val (.ref x0), .val (.int x1), .val (.int (2 : Int32)), .val (.int (3 : Int32))]) d2_43 rfl rfl ?_
      refine o_iloadN B32 44 45 (v := (3 : Int32)) d2_44 rfl rfl ?_
      refine o_aloadN B32 45 46 (v := (.ref x0)) d2_45 rfl rfl rfl ?_
      refine o_alenI B32 46 47 A32 (4 : Int32) d2_46 rfl (by decide) ?_
      refine o_icN B32 47 50 d2_47 rfl (XT.ii_ge_f (by decide)) ?_
      refine o_aloadN B32 50 51 (v := (.ref x0)) d2_50 rfl rfl rfl ?_
      refine o_iloadN B32 51 52 (v := (3 : Int32)) d2_51 rfl rfl ?_
      refine o_aloadN B32 52 53 (v := (.ref x0)) d2_52 rfl rfl rfl ?_
      refine o_iloadN B32 53 54 (v := (3 : Int32)) d2_53 rfl rfl ?_
      refine o_iconst B32 54 55 (1 : Int32) d2_54 rfl (by decide) ?_
      refine o_isub B32 55 56 d2_55 rfl ?_
      refine o_topI (show ((3 : Int32) - (1 : Int32)) = (2 : Int32) by decide) ?_
      refine o_iaload B32 56 57 A32 2 ((w2_4_8 g x1) 2) d2_56 rfl (by decide) (by decide) (by decide) rfl ?_
      refine o_iconst B32 57 58 (1 : Int32) d2_57 rfl (by decide) ?_
      refine o_iadd B32 58 59 d2_58 rfl ?_
      obtain ⟨T35, h35, L35, B35, N35, W35, Q35, c35⟩ := o_iastore B32 N32 gw_x0 59 60 A32 (j := (3 : Int32)) (x := (((w2_4_8 g x1) 2) + (1 : Int32))) 3 (((w2_4_8 g x1) 2) + (1 : Int32)) d2_59 rfl (by decide) (by decide) (by decide) rfl (Ls := #[.val (.ref x0), .val (.int x1), .val (.int (2 : Int32)), .val (.int (3 : Int32))]) (rest := [])
      have A35 : AI Z h35 x0 .int 4 (w2_4_9 g x1) := Q35
      refine c35 ?_
      refine o_iincC B35 60 63 (l' := #[.val (.ref x0), .val (.int x1), .val (.int (2 : Int32)), .val (.int (4 : Int32))]) (1 : Int32) (4 : Int32) d2_60 rfl (by decide) rfl (by decide) rfl ?_
      refine o_goto B35 63 44 d2_63 (by decide) (by decide) ?_
      refine o_iloadN B35 44 45 (v := (4 : Int32)) d2_44 rfl rfl ?_
      refine o_aloadN B35 45 46 (v := (.ref x0)) d2_45 rfl rfl rfl ?_
      refine o_alenI B35 46 47 A35 (4 : Int32) d2_46 rfl (by decide) ?_
      refine o_icY B35 47 66 d2_47 (XT.ii_ge_t (by decide)) (by decide) (by decide) ?_
      refine o_iloadN B35 66 67 (v := (2 : Int32)) d2_66 rfl rfl ?_
      refine o_retI B35 67 d2_67 hret hlk (by decide) (by decide) ⟨(congrArg (fun z => some (Value.int z)) (show f2_4 g x1 = (2 : Int32) from (if_pos k1).trans ((if_neg k2).trans (rfl)))).symm, N35, (((Keep.refl h0 [x0]).wr W32 (Or.inl (List.mem_of_getElem? (i := 0) rfl))).wr W35 (Or.inl (List.mem_of_getElem? (i := 0) rfl))), (by rw [show (o2_4_0 g x1) = (w2_4_9 g x1) from (if_pos k1).trans ((if_neg k2).trans (rfl))]; exact A35)⟩
  · refine o_icY B 18 27 d2_18 (XT.ii_ne_t k1) (by decide) (by decide) ?_
    refine o_iloadN B 27 28 (v := (3 : Int32)) d2_27 rfl rfl ?_
    refine o_ifY B 28 33 d2_28 (XT.i0_ge_t (by decide)) (by decide) (by decide) ?_
    refine o_aloadN B 33 34 (v := (.ref x0)) d2_33 rfl rfl rfl ?_
    refine o_iloadN B 34 35 (v := (3 : Int32)) d2_34 rfl rfl ?_
    refine o_dup2 B 35 36 d2_35 rfl rfl rfl ?_
    refine o_iaload B 36 37 A0 3 (g 3) d2_36 rfl (by decide) (by decide) (by decide) rfl ?_
    refine o_iconst B 37 38 (1 : Int32) d2_37 rfl (by decide) ?_
    refine o_iadd B 38 39 d2_38 rfl ?_
    obtain ⟨T38, h38, L38, B38, N38, W38, Q38, c38⟩ := o_iastore B N0 gw_x0 39 40 A0 (j := (3 : Int32)) (x := ((g 3) + (1 : Int32))) 3 ((g 3) + (1 : Int32)) d2_39 rfl (by decide) (by decide) (by decide) rfl (Ls := #[.val (.ref x0), .val (.int x1), .val (.int (3 : Int32)), .unset]) (rest := [])
    have A38 : AI Z h38 x0 .int 4 (w2_4_10 g x1) := Q38
    refine c38 ?_
    refine o_iloadN B38 40 41 (v := (3 : Int32)) d2_40 rfl rfl ?_
    refine o_iconst B38 41 42 (1 : Int32) d2_41 rfl (by decide) ?_
    refine o_iadd B38 42 43 d2_42 rfl ?_
    refine o_topI (show ((3 : Int32) + (1 : Int32)) = (4 : Int32) by decide) ?_
    refine o_istoreN B38 43 44 (l' := #[.val (.ref x0), .val (.int x1), .val (.int (3 : Int32)), .val (.int (4 : Int32))]) d2_43 rfl rfl ?_
    refine o_iloadN B38 44 45 (v := (4 : Int32)) d2_44 rfl rfl ?_
    refine o_aloadN B38 45 46 (v := (.ref x0)) d2_45 rfl rfl rfl ?_
    refine o_alenI B38 46 47 A38 (4 : Int32) d2_46 rfl (by decide) ?_
    refine o_icY B38 47 66 d2_47 (XT.ii_ge_t (by decide)) (by decide) (by decide) ?_
    refine o_iloadN B38 66 67 (v := (3 : Int32)) d2_66 rfl rfl ?_
    refine o_retI B38 67 d2_67 hret hlk (by decide) (by decide) ⟨(congrArg (fun z => some (Value.int z)) (show f2_4 g x1 = (3 : Int32) from (if_neg k1).trans (rfl))).symm, N38, ((Keep.refl h0 [x0]).wr W38 (Or.inl (List.mem_of_getElem? (i := 0) rfl))), (by rw [show (o2_4_0 g x1) = (w2_4_10 g x1) from (if_neg k1).trans (rfl)]; exact A38)⟩
def f4_4 (g : Nat → Int32) (x1 : Int32) : Int32 := (if (g 0) < 0 then (0 : Int32) else (if (g 0) < (g 1) then (if (g 1) < (g 2) then (if (g 2) < (g 3) then (if (g 3) < x1 then (1 : Int32) else (0 : Int32)) else (0 : Int32)) else (0 : Int32)) else (0 : Int32)))
set_option maxRecDepth 65536 in
set_option maxHeartbeats 40000000 in
theorem rm4_4 (l : Launch) (Z : State) (a0 : Array Value) (hw : ∀ d ∈ tables_1, d.before a0 Z = true) (g : Nat → Int32) (x0 : Addr) (x1 : Int32) (h0 : Heap) (A0 : AI Z h0 x0 .int 4 g) :
    Met l Z (⟨"com/example/crosshatch/crosshatch/design/ParameterSetsAdvancePinLaw", "valid", "([II)Z"⟩ : MethodName) method_6_code 3 (some .boolean) ({ frames := 0, cells := 0, slots := 0, locals := 0 } : Room) #[(.ref x0), (.int x1)] h0 (Pu (some (.int (f4_4 g x1))) h0) := by
  refine enter pl4 #[.val (.ref x0), .val (.int x1), .unset] rfl ?_
  intro p e s m below meth c T B hret hlk hnm
  · refine o_aloadN B 0 1 (v := (.ref x0)) d4_0 rfl rfl rfl ?_
    refine o_alenI B 1 2 A0 (4 : Int32) d4_1 rfl (by decide) ?_
    refine o_istoreN B 2 3 (l' := #[.val (.ref x0), .val (.int x1), .val (.int (4 : Int32))]) d4_2 rfl rfl ?_
    refine o_aloadN B 3 4 (v := (.ref x0)) d4_3 rfl rfl rfl ?_
    refine o_iconst B 4 5 (0 : Int32) d4_4 rfl (by decide) ?_
    refine o_iaload B 5 6 A0 0 (g 0) d4_5 rfl (by decide) (by decide) (by decide) rfl ?_
    by_cases k1 : (g 0) < 0
    · refine o_ifN B 6 9 d4_6 rfl (XT.i0_ge_f k1) ?_
      refine o_iconst B 9 10 (0 : Int32) d4_9 rfl (by decide) ?_
      refine o_retZ (t := .boolean) B 10 d4_10 hret hlk (by simp) (by decide) (by decide) ⟨(congrArg (fun z => some (Value.int z)) ((show nar .boolean (0 : Int32) = (0 : Int32) from rfl).trans (show f4_4 g x1 = (0 : Int32) from (if_pos k1).trans (rfl)).symm)), rfl, rfl⟩
    · refine o_ifY B 6 11 d4_6 (XT.i0_ge_t k1) (by decide) (by decide) ?_
      refine o_iloadN B 11 12 (v := (4 : Int32)) d4_11 rfl rfl ?_
      refine o_iconst B 12 13 (1 : Int32) d4_12 rfl (by decide) ?_
      refine o_icN B 13 16 d4_13 rfl (XT.ii_le_f (by decide)) ?_
      refine o_aloadN B 16 17 (v := (.ref x0)) d4_16 rfl rfl rfl ?_
      refine o_iconst B 17 18 (1 : Int32) d4_17 rfl (by decide) ?_
      refine o_iaload B 18 19 A0 1 (g 1) d4_18 rfl (by decide) (by decide) (by decide) rfl ?_
      refine o_aloadN B 19 20 (v := (.ref x0)) d4_19 rfl rfl rfl ?_
      refine o_iconst B 20 21 (0 : Int32) d4_20 rfl (by decide) ?_
      refine o_iaload B 21 22 A0 0 (g 0) d4_21 rfl (by decide) (by decide) (by decide) rfl ?_
      by_cases k2 : (g 0) < (g 1)
      · refine o_icY B 22 27 d4_22 (XT.ii_gt_t k2) (by decide) (by decide) ?_
        refine o_iloadN B 27 28 (v := (4 : Int32)) d4_27 rfl rfl ?_
        refine o_iconst B 28 29 (2 : Int32) d4_28 rfl (by decide) ?_
        refine o_icN B 29 32 d4_29 rfl (XT.ii_le_f (by decide)) ?_
        refine o_aloadN B 32 33 (v := (.ref x0)) d4_32 rfl rfl rfl ?_
        refine o_iconst B 33 34 (2 : Int32) d4_33 rfl (by decide) ?_
        refine o_iaload B 34 35 A0 2 (g 2) d4_34 rfl (by decide) (by decide) (by decide) rfl ?_
        refine o_aloadN B 35 36 (v := (.ref x0)) d4_35 rfl rfl rfl ?_
        refine o_iconst B 36 37 (1 : Int32) d4_36 rfl (by decide) ?_
        refine o_iaload B 37 38 A0 1 (g 1) d4_37 rfl (by decide) (by decide) (by decide) rfl ?_
        by_cases k3 : (g 1) < (g 2)
        · refine o_icY B 38 43 d4_38 (XT.ii_gt_t k3) (by decide) (by decide) ?_
          refine o_iloadN B 43 44 (v := (4 : Int32)) d4_43 rfl rfl ?_
          refine o_iconst B 44 45 (3 : Int32) d4_44 rfl (by decide) ?_
          refine o_icN B 45 48 d4_45 rfl (XT.ii_le_f (by decide)) ?_
          refine o_aloadN B 48 49 (v := (.ref x0)) d4_48 rfl rfl rfl ?_
          refine o_iconst B 49 50 (3 : Int32) d4_49 rfl (by decide) ?_
          refine o_iaload B 50 51 A0 3 (g 3) d4_50 rfl (by decide) (by decide) (by decide) rfl ?_
          refine o_aloadN B 51 52 (v := (.ref x0)) d4_51 rfl rfl rfl ?_
          refine o_iconst B 52 53 (2 : Int32) d4_52 rfl (by decide) ?_
          refine o_iaload B 53 54 A0 2 (g 2) d4_53 rfl (by decide) (by decide) (by decide) rfl ?_
          by_cases k4 : (g 2) < (g 3)
          · refine o_icY B 54 59 d4_54 (XT.ii_gt_t k4) (by decide) (by decide) ?_
            refine o_aloadN B 59 60 (v := (.ref x0)) d4_59 rfl rfl rfl ?_
            refine o_iloadN B 60 61 (v := (4 : Int32)) d4_60 rfl rfl ?_
            refine o_iconst B 61 62 (1 : Int32) d4_61 rfl (by decide) ?_
            refine o_isub B 62 63 d4_62 rfl ?_
            refine o_topI (show ((4 : Int32) - (1 : Int32)) = (3 : Int32) by decide) ?_
            refine o_iaload B 63 64 A0 3 (g 3) d4_63 rfl (by decide) (by decide) (by decide) rfl ?_
            refine o_iloadN B 64 65 (v := x1) d4_64 rfl rfl ?_
            by_cases k5 : (g 3) < x1
            · refine o_icN B 65 68 d4_65 rfl (XT.ii_ge_f k5) ?_
              refine o_iconst B 68 69 (1 : Int32) d4_68 rfl (by decide) ?_
              refine o_goto B 69 73 d4_69 (by decide) (by decide) ?_
              refine o_retZ (t := .boolean) B 73 d4_73 hret hlk (by simp) (by decide) (by decide) ⟨(congrArg (fun z => some (Value.int z)) ((show nar .boolean (1 : Int32) = (1 : Int32) from rfl).trans (show f4_4 g x1 = (1 : Int32) from (if_neg k1).trans ((if_pos k2).trans ((if_pos k3).trans ((if_pos k4).trans ((if_pos k5).trans (rfl)))))).symm)), rfl, rfl⟩
            · refine o_icY B 65 72 d4_65 (XT.ii_ge_t k5) (by decide) (by decide) ?_
              refine o_iconst B 72 73 (0 : Int32) d4_72 rfl (by decide) ?_
              refine o_retZ (t := .boolean) B 73 d4_73 hret hlk (by simp) (by decide) (by decide) ⟨(congrArg (fun z => some (Value.int z)) ((show nar .boolean (0 : Int32) = (0 : Int32) from rfl).trans (show f4_4 g x1 = (0 : Int32) from (if_neg k1).trans ((if_pos k2).trans ((if_pos k3).trans ((if_pos k4).trans ((if_neg k5).trans (rfl)))))).symm)), rfl, rfl⟩
          · refine o_icN B 54 57 d4_54 rfl (XT.ii_gt_f k4) ?_
            refine o_iconst B 57 58 (0 : Int32) d4_57 rfl (by decide) ?_
            refine o_retZ (t := .boolean) B 58 d4_58 hret hlk (by simp) (by decide) (by decide) ⟨(congrArg (fun z => some (Value.int z)) ((show nar .boolean (0 : Int32) = (0 : Int32) from rfl).trans (show f4_4 g x1 = (0 : Int32) from (if_neg k1).trans ((if_pos k2).trans ((if_pos k3).trans ((if_neg k4).trans (rfl))))).symm)), rfl, rfl⟩
        · refine o_icN B 38 41 d4_38 rfl (XT.ii_gt_f k3) ?_
          refine o_iconst B 41 42 (0 : Int32) d4_41 rfl (by decide) ?_
          refine o_retZ (t := .boolean) B 42 d4_42 hret hlk (by simp) (by decide) (by decide) ⟨(congrArg (fun z => some (Value.int z)) ((show nar .boolean (0 : Int32) = (0 : Int32) from rfl).trans (show f4_4 g x1 = (0 : Int32) from (if_neg k1).trans ((if_pos k2).trans ((if_neg k3).trans (rfl)))).symm)), rfl, rfl⟩
      · refine o_icN B 22 25 d4_22 rfl (XT.ii_gt_f k2) ?_
        refine o_iconst B 25 26 (0 : Int32) d4_25 rfl (by decide) ?_
        refine o_retZ (t := .boolean) B 26 d4_26 hret hlk (by simp) (by decide) (by decide) ⟨(congrArg (fun z => some (Value.int z)) ((show nar .boolean (0 : Int32) = (0 : Int32) from rfl).trans (show f4_4 g x1 = (0 : Int32) from (if_neg k1).trans ((if_neg k2).trans (rfl))).symm)), rfl, rfl⟩
def q5_4_1 (g : Nat → Int32) (x1 : Int32) : Int64 := (f3 ((x1 - (1 : Int32)) - (g 0)).toInt64 (4 : Int32))
def q5_4_2 (g : Nat → Int32) (x1 : Int32) : Int64 := (f3 ((x1 - (1 : Int32)) - (g 1)).toInt64 (3 : Int32))
def q5_4_3 (g : Nat → Int32) (x1 : Int32) : Int64 := (f3 ((x1 - (1 : Int32)) - (g 2)).toInt64 (2 : Int32))
def q5_4_4 (g : Nat → Int32) (x1 : Int32) : Int64 := (((q5_4_1 g x1) + (q5_4_2 g x1)) + (q5_4_3 g x1))
def q5_4_5 (g : Nat → Int32) (x1 : Int32) : Int64 := (f3 ((x1 - (1 : Int32)) - (g 3)).toInt64 (1 : Int32))
def f5_4 (g : Nat → Int32) (x1 : Int32) : Int64 := (((f3 x1.toInt64 (4 : Int32)) - (1 : Int64)) - ((q5_4_4 g x1) + (q5_4_5 g x1)))
set_option maxRecDepth 65536 in
set_option maxHeartbeats 40000000 in
theorem rm5_4 (l : Launch) (Z : State) (a0 : Array Value) (hw : ∀ d ∈ tables_1, d.before a0 Z = true) (g : Nat → Int32) (x0 : Addr) (x1 : Int32) (h0 : Heap) (A0 : AI Z h0 x0 .int 4 g) :
    Met l Z (⟨"com/example/crosshatch/crosshatch/design/ParameterSetsAdvancePinLaw", "rank", "([II)J"⟩ : MethodName) method_7_code 5 (some .long) ({ frames := 1, cells := 0, slots := 0, locals := 16 } : Room) #[(.ref x0), (.int x1)] h0 (Pu (some (.long (f5_4 g x1))) h0) := by
  refine enter pl5 #[.val (.ref x0), .val (.int x1), .unset, .unset, .unset] rfl ?_
  intro p e s m below meth c T B hret hlk hnm
  · refine o_aloadN B 0 1 (v := (.ref x0)) d5_0 rfl rfl rfl ?_
    refine o_alenI B 1 2 A0 (4 : Int32) d5_1 rfl (by decide) ?_
    refine o_istoreN B 2 3 (l' := #[.val (.ref x0), .val (.int x1), .val (.int (4 : Int32)), .unset, .unset]) d5_2 rfl rfl ?_
    refine o_iloadN B 3 4 (v := x1) d5_3 rfl rfl ?_
    refine o_iconst B 4 5 (1 : Int32) d5_4 rfl (by decide) ?_
    refine o_isub B 5 6 d5_5 rfl ?_
    refine o_aloadN B 6 7 (v := (.ref x0)) d5_6 rfl rfl rfl ?_
    refine o_iconst B 7 8 (0 : Int32) d5_7 rfl (by decide) ?_
    refine o_iaload B 8 9 A0 0 (g 0) d5_8 rfl (by decide) (by decide) (by decide) rfl ?_
    refine o_isub B 9 10 d5_9 rfl ?_
    refine o_i2l B 10 11 d5_10 rfl ?_
    refine o_iloadN B 11 12 (v := (4 : Int32)) d5_11 rfl rfl ?_
    obtain ⟨T3, B3, c3⟩ := o_callP B 12 15 d5_12 rfl (hw _ (List.mem_of_getElem? (i := 10) rfl)) (hw _ (List.mem_of_getElem? (i := 11) rfl)) (hw _ (List.mem_of_getElem? (i := 3) rfl)) (hw _ (List.mem_of_getElem? (i := 12) rfl)) (by decide) (rm3 l Z a0 hw ((x1 - (1 : Int32)) - (g 0)).toInt64 (4 : Int32) h0 ) 0 [(.long ((x1 - (1 : Int32)) - (g 0)).toInt64), (.int (4 : Int32))] [] pd__JI_J rfl rfl (st := [(.int (4 : Int32)), (.long ((x1 - (1 : Int32)) - (g 0)).toInt64)]) rfl (Ls := #[.val (.ref x0), .val (.int x1), .val (.int (4 : Int32)), .unset, .unset]) rfl (Nat.le_of_eq rfl) (by decide) (by decide) (by decide) (by decide)
    refine c3 ?_
    refine o_lstoreN B3 15 16 (l' := #[.val (.ref x0), .val (.int x1), .val (.int (4 : Int32)), .val (.long (q5_4_1 g x1)), .second]) d5_15 rfl rfl ?_
    refine o_iloadN B3 16 17 (v := (4 : Int32)) d5_16 rfl rfl ?_
    refine o_iconst B3 17 18 (1 : Int32) d5_17 rfl (by decide) ?_
    refine o_icN B3 18 21 d5_18 rfl (XT.ii_le_f (by decide)) ?_
    refine o_lloadN B3 21 22 (v := (q5_4_1 g x1)) d5_21 rfl rfl ?_
    refine o_iloadN B3 22 23 (v := x1) d5_22 rfl rfl ?_
    refine o_iconst B3 23 24 (1 : Int32) d5_23 rfl (by decide) ?_
    refine o_isub B3 24 25 d5_24 rfl ?_
    refine o_aloadN B3 25 26 (v := (.ref x0)) d5_25 rfl rfl rfl ?_
    refine o_iconst B3 26 27 (1 : Int32) d5_26 rfl (by decide) ?_
    refine o_iaload B3 27 28 A0 1 (g 1) d5_27 rfl (by decide) (by decide) (by decide) rfl ?_
    refine o_isub B3 28 29 d5_28 rfl ?_
    refine o_i2l B3 29 30 d5_29 rfl ?_
    refine o_iloadN B3 30 31 (v := (4 : Int32)) d5_30 rfl rfl ?_
    refine o_iconst B3 31 32 (1 : Int32) d5_31 rfl (by decide) ?_
    refine o_isub B3 32 33 d5_32 rfl ?_
    refine o_topI (show ((4 : Int32) - (1 : Int32)) = (3 : Int32) by decide) ?_
    obtain ⟨T5, B5, c5⟩ := o_callP B3 33 36 d5_33 rfl (hw _ (List.mem_of_getElem? (i := 10) rfl)) (hw _ (List.mem_of_getElem? (i := 11) rfl)) (hw _ (List.mem_of_getElem? (i := 3) rfl)) (hw _ (List.mem_of_getElem? (i := 12) rfl)) (by decide) (rm3 l Z a0 hw ((x1 - (1 : Int32)) - (g 1)).toInt64 (3 : Int32) h0 ) 2 [(.long ((x1 - (1 : Int32)) - (g 1)).toInt64), (.int (3 : Int32))] [(.long (q5_4_1 g x1))] pd__JI_J rfl rfl (st := [(.int (3 : Int32)), (.long ((x1 - (1 : Int32)) - (g 1)).toInt64), (.long (q5_4_1 g x1))]) rfl (Ls := #[.val (.ref x0), .val (.int x1), .val (.int (4 : Int32)), .val (.long (q5_4_1 g x1)), .second]) rfl (Nat.le_of_eq rfl) (by decide) (by decide) (by decide) (by decide)
    refine c5 ?_
    refine o_ladd B5 36 37 d5_36 rfl ?_
    refine o_lstoreN B5 37 38 (l' := #[.val (.ref x0), .val (.int x1), .val (.int (4 : Int32)), .val (.long ((q5_4_1 g x1) + (q5_4_2 g x1))), .second]) d5_37 rfl rfl ?_
    refine o_iloadN B5 38 39 (v := (4 : Int32)) d5_38 rfl rfl ?_
    refine o_iconst B5 39 40 (2 : Int32) d5_39 rfl (by decide) ?_
    refine o_icN B5 40 43 d5_40 rfl (XT.ii_le_f (by decide)) ?_
    refine o_lloadN B5 43 44 (v := ((q5_4_1 g x1) + (q5_4_2 g x1))) d5_43 rfl rfl ?_
    refine o_iloadN B5 44 45 (v := x1) d5_44 rfl rfl ?_
    refine o_iconst B5 45 46 (1 : Int32) d5_45 rfl (by decide) ?_
    refine o_isub B5 46 47 d5_46 rfl ?_
    refine o_aloadN B5 47 48 (v := (.ref x0)) d5_47 rfl rfl rfl ?_
    refine o_iconst B5 48 49 (2 : Int32) d5_48 rfl (by decide) ?_
    refine o_iaload B5 49 50 A0 2 (g 2) d5_49 rfl (by decide) (by decide) (by decide) rfl ?_
    refine o_isub B5 50 51 d5_50 rfl ?_
    refine o_i2l B5 51 52 d5_51 rfl ?_
    refine o_iloadN B5 52 53 (v := (4 : Int32)) d5_52 rfl rfl ?_
    refine o_iconst B5 53 54 (2 : Int32) d5_53 rfl (by decide) ?_
    refine o_isub B5 54 55 d5_54 rfl ?_
    refine o_topI (show ((4 : Int32) - (2 : Int32)) = (2 : Int32) by decide) ?_
    obtain ⟨T7, B7, c7⟩ := o_callP B5 55 58 d5_55 rfl (hw _ (List.mem_of_getElem? (i := 10) rfl)) (hw _ (List.mem_of_getElem? (i := 11) rfl)) (hw _ (List.mem_of_getElem? (i := 3) rfl)) (hw _ (List.mem_of_getElem? (i := 12) rfl)) (by decide) (rm3 l Z a0 hw ((x1 - (1 : Int32)) - (g 2)).toInt64 (2 : Int32) h0 ) 2 [(.long ((x1 - (1 : Int32)) - (g 2)).toInt64), (.int (2 : Int32))] [(.long ((q5_4_1 g x1) + (q5_4_2 g x1)))] pd__JI_J rfl rfl (st := [(.int (2 : Int32)), (.long ((x1 - (1 : Int32)) - (g 2)).toInt64), (.long ((q5_4_1 g x1) + (q5_4_2 g x1)))]) rfl (Ls := #[.val (.ref x0), .val (.int x1), .val (.int (4 : Int32)), .val (.long ((q5_4_1 g x1) + (q5_4_2 g x1))), .second]) rfl (Nat.le_of_eq rfl) (by decide) (by decide) (by decide) (by decide)
    refine c7 ?_
    refine o_ladd B7 58 59 d5_58 rfl ?_
    refine o_lstoreN B7 59 60 (l' := #[.val (.ref x0), .val (.int x1), .val (.int (4 : Int32)), .val (.long (q5_4_4 g x1)), .second]) d5_59 rfl rfl ?_
    refine o_iloadN B7 60 61 (v := (4 : Int32)) d5_60 rfl rfl ?_
    refine o_iconst B7 61 62 (3 : Int32) d5_61 rfl (by decide) ?_
    refine o_icN B7 62 65 d5_62 rfl (XT.ii_le_f (by decide)) ?_
    refine o_lloadN B7 65 66 (v := (q5_4_4 g x1)) d5_65 rfl rfl ?_
    refine o_iloadN B7 66 67 (v := x1) d5_66 rfl rfl ?_
    refine o_iconst B7 67 68 (1 : Int32) d5_67 rfl (by decide) ?_
    refine o_isub B7 68 69 d5_68 rfl ?_
    refine o_aloadN B7 69 70 (v := (.ref x0)) d5_69 rfl rfl rfl ?_
    refine o_iconst B7 70 71 (3 : Int32) d5_70 rfl (by decide) ?_
    refine o_iaload B7 71 72 A0 3 (g 3) d5_71 rfl (by decide) (by decide) (by decide) rfl ?_
    refine o_isub B7 72 73 d5_72 rfl ?_
    refine o_i2l B7 73 74 d5_73 rfl ?_
    refine o_iloadN B7 74 75 (v := (4 : Int32)) d5_74 rfl rfl ?_
    refine o_iconst B7 75 76 (3 : Int32) d5_75 rfl (by decide) ?_
    refine o_isub B7 76 77 d5_76 rfl ?_
    refine o_topI (show ((4 : Int32) - (3 : Int32)) = (1 : Int32) by decide) ?_
    obtain ⟨T9, B9, c9⟩ := o_callP B7 77 80 d5_77 rfl (hw _ (List.mem_of_getElem? (i := 10) rfl)) (hw _ (List.mem_of_getElem? (i := 11) rfl)) (hw _ (List.mem_of_getElem? (i := 3) rfl)) (hw _ (List.mem_of_getElem? (i := 12) rfl)) (by decide) (rm3 l Z a0 hw ((x1 - (1 : Int32)) - (g 3)).toInt64 (1 : Int32) h0 ) 2 [(.long ((x1 - (1 : Int32)) - (g 3)).toInt64), (.int (1 : Int32))] [(.long (q5_4_4 g x1))] pd__JI_J rfl rfl (st := [(.int (1 : Int32)), (.long ((x1 - (1 : Int32)) - (g 3)).toInt64), (.long (q5_4_4 g x1))]) rfl (Ls := #[.val (.ref x0), .val (.int x1), .val (.int (4 : Int32)), .val (.long (q5_4_4 g x1)), .second]) rfl (Nat.le_of_eq rfl) (by decide) (by decide) (by decide) (by decide)
    refine c9 ?_
    refine o_ladd B9 80 81 d5_80 rfl ?_
    refine o_lstoreN B9 81 82 (l' := #[.val (.ref x0), .val (.int x1), .val (.int (4 : Int32)), .val (.long ((q5_4_4 g x1) + (q5_4_5 g x1))), .second]) d5_81 rfl rfl ?_
    refine o_iloadN B9 82 83 (v := x1) d5_82 rfl rfl ?_
    refine o_i2l B9 83 84 d5_83 rfl ?_
    refine o_iloadN B9 84 85 (v := (4 : Int32)) d5_84 rfl rfl ?_
    obtain ⟨T10, B10, c10⟩ := o_callP B9 85 88 d5_85 rfl (hw _ (List.mem_of_getElem? (i := 10) rfl)) (hw _ (List.mem_of_getElem? (i := 11) rfl)) (hw _ (List.mem_of_getElem? (i := 3) rfl)) (hw _ (List.mem_of_getElem? (i := 12) rfl)) (by decide) (rm3 l Z a0 hw x1.toInt64 (4 : Int32) h0 ) 0 [(.long x1.toInt64), (.int (4 : Int32))] [] pd__JI_J rfl rfl (st := [(.int (4 : Int32)), (.long x1.toInt64)]) rfl (Ls := #[.val (.ref x0), .val (.int x1), .val (.int (4 : Int32)), .val (.long ((q5_4_4 g x1) + (q5_4_5 g x1))), .second]) rfl (Nat.le_of_eq rfl) (by decide) (by decide) (by decide) (by decide)
    refine c10 ?_
    refine o_lconst B10 88 89 (1 : Int64) d5_88 rfl (by decide) ?_
    refine o_lsub B10 89 90 d5_89 rfl ?_
    refine o_lloadN B10 90 91 (v := ((q5_4_4 g x1) + (q5_4_5 g x1))) d5_90 rfl rfl ?_
    refine o_lsub B10 91 92 d5_91 rfl ?_
    refine o_retL B10 92 d5_92 hret hlk (by decide) (by decide) ⟨(congrArg (fun z => some (Value.long z)) (show f5_4 g x1 = (((f3 x1.toInt64 (4 : Int32)) - (1 : Int64)) - ((q5_4_4 g x1) + (q5_4_5 g x1))) from rfl)).symm, rfl, rfl⟩
def f6_4_0 (g : Nat → Int32) (k_ : Nat → Int32) (x2 : Int32) : Int32 := (if (0 : Int32) < x2 then (if (g 0) = (k_ 0) then (1 : Int32) else (0 : Int32)) else (if (0 : Int32) = x2 then (if (g 0) = (k_ 0) then (0 : Int32) else (1 : Int32)) else (1 : Int32)))
set_option maxRecDepth 65536 in
set_option maxHeartbeats 40000000 in
theorem rm6_4_0 (l : Launch) (Z : State) (a0 : Array Value) (hw : ∀ d ∈ tables_1, d.before a0 Z = true) (g : Nat → Int32) (k_ : Nat → Int32) (x0 : Addr) (x1 : Addr) (x2 : Int32) (h0 : Heap) (A0 : AI Z h0 x0 .int 4 g) (A1 : AI Z h0 x1 .int 4 k_) :
    Met l Z (⟨"com/example/crosshatch/crosshatch/design/ParameterSetsAdvancePinLaw", "place", "([I[III)Z"⟩ : MethodName) method_4_code 4 (some .boolean) ({ frames := 0, cells := 0, slots := 0, locals := 0 } : Room) #[(.ref x0), (.ref x1), (.int x2), (.int (0 : Int32))] h0 (Pu (some (.int (f6_4_0 g k_ x2))) h0) := by
  refine enter pl6 #[.val (.ref x0), .val (.ref x1), .val (.int x2), .val (.int (0 : Int32))] rfl ?_
  intro p e s m below meth c T B hret hlk hnm
  · refine o_iloadN B 0 1 (v := (0 : Int32)) d6_0 rfl rfl ?_
    refine o_aloadN B 1 2 (v := (.ref x0)) d6_1 rfl rfl rfl ?_
    refine o_alenI B 2 3 A0 (4 : Int32) d6_2 rfl (by decide) ?_
    refine o_icY B 3 8 d6_3 (XT.ii_lt_t (by decide)) (by decide) (by decide) ?_
    refine o_iloadN B 8 9 (v := (0 : Int32)) d6_8 rfl rfl ?_
    refine o_iloadN B 9 10 (v := x2) d6_9 rfl rfl ?_
    by_cases k1 : (0 : Int32) < x2
    · refine o_icN B 10 13 d6_10 rfl (XT.ii_ge_f k1) ?_
      refine o_aloadN B 13 14 (v := (.ref x0)) d6_13 rfl rfl rfl ?_
      refine o_iloadN B 14 15 (v := (0 : Int32)) d6_14 rfl rfl ?_
      refine o_iaload B 15 16 A0 0 (g 0) d6_15 rfl (by decide) (by decide) (by decide) rfl ?_
      refine o_aloadN B 16 17 (v := (.ref x1)) d6_16 rfl rfl rfl ?_
      refine o_iloadN B 17 18 (v := (0 : Int32)) d6_17 rfl rfl ?_
      refine o_iaload B 18 19 A1 0 (k_ 0) d6_18 rfl (by decide) (by decide) (by decide) rfl ?_
      by_cases k2 : (g 0) = (k_ 0)
      · refine o_icN B 19 22 d6_19 rfl (XT.ii_ne_f k2) ?_
        refine o_iconst B 22 23 (1 : Int32) d6_22 rfl (by decide) ?_
        refine o_goto B 23 27 d6_23 (by decide) (by decide) ?_
        refine o_retZ (t := .boolean) B 27 d6_27 hret hlk (by simp) (by decide) (by decide) ⟨(congrArg (fun z => some (Value.int z)) ((show nar .boolean (1 : Int32) = (1 : Int32) from rfl).trans (show f6_4_0 g k_ x2 = (1 : Int32) from (if_pos k1).trans ((if_pos k2).trans (rfl))).symm)), rfl, rfl⟩
      · refine o_icY B 19 26 d6_19 (XT.ii_ne_t k2) (by decide) (by decide) ?_
        refine o_iconst B 26 27 (0 : Int32) d6_26 rfl (by decide) ?_
        refine o_retZ (t := .boolean) B 27 d6_27 hret hlk (by simp) (by decide) (by decide) ⟨(congrArg (fun z => some (Value.int z)) ((show nar .boolean (0 : Int32) = (0 : Int32) from rfl).trans (show f6_4_0 g k_ x2 = (0 : Int32) from (if_pos k1).trans ((if_neg k2).trans (rfl))).symm)), rfl, rfl⟩
    · refine o_icY B 10 28 d6_10 (XT.ii_ge_t k1) (by decide) (by decide) ?_
      refine o_iloadN B 28 29 (v := (0 : Int32)) d6_28 rfl rfl ?_
      refine o_iloadN B 29 30 (v := x2) d6_29 rfl rfl ?_
      by_cases k3 : (0 : Int32) = x2
      · refine o_icN B 30 33 d6_30 rfl (XT.ii_ne_f k3) ?_
        refine o_aloadN B 33 34 (v := (.ref x0)) d6_33 rfl rfl rfl ?_
        refine o_iloadN B 34 35 (v := (0 : Int32)) d6_34 rfl rfl ?_
        refine o_iaload B 35 36 A0 0 (g 0) d6_35 rfl (by decide) (by decide) (by decide) rfl ?_
        refine o_aloadN B 36 37 (v := (.ref x1)) d6_36 rfl rfl rfl ?_
        refine o_iloadN B 37 38 (v := (0 : Int32)) d6_37 rfl rfl ?_
        refine o_iaload B 38 39 A1 0 (k_ 0) d6_38 rfl (by decide) (by decide) (by decide) rfl ?_
        by_cases k4 : (g 0) = (k_ 0)
        · refine o_icY B 39 46 d6_39 (XT.ii_eq_t k4) (by decide) (by decide) ?_
          refine o_iconst B 46 47 (0 : Int32) d6_46 rfl (by decide) ?_
          refine o_retZ (t := .boolean) B 47 d6_47 hret hlk (by simp) (by decide) (by decide) ⟨(congrArg (fun z => some (Value.int z)) ((show nar .boolean (0 : Int32) = (0 : Int32) from rfl).trans (show f6_4_0 g k_ x2 = (0 : Int32) from (if_neg k1).trans ((if_pos k3).trans ((if_pos k4).trans (rfl)))).symm)), rfl, rfl⟩
        · refine o_icN B 39 42 d6_39 rfl (XT.ii_eq_f k4) ?_
          refine o_iconst B 42 43 (1 : Int32) d6_42 rfl (by decide) ?_
          refine o_goto B 43 47 d6_43 (by decide) (by decide) ?_
          refine o_retZ (t := .boolean) B 47 d6_47 hret hlk (by simp) (by decide) (by decide) ⟨(congrArg (fun z => some (Value.int z)) ((show nar .boolean (1 : Int32) = (1 : Int32) from rfl).trans (show f6_4_0 g k_ x2 = (1 : Int32) from (if_neg k1).trans ((if_pos k3).trans ((if_neg k4).trans (rfl)))).symm)), rfl, rfl⟩
      · refine o_icY B 30 48 d6_30 (XT.ii_ne_t k3) (by decide) (by decide) ?_
        refine o_iconst B 48 49 (1 : Int32) d6_48 rfl (by decide) ?_
        refine o_retZ (t := .boolean) B 49 d6_49 hret hlk (by simp) (by decide) (by decide) ⟨(congrArg (fun z => some (Value.int z)) ((show nar .boolean (1 : Int32) = (1 : Int32) from rfl).trans (show f6_4_0 g k_ x2 = (1 : Int32) from (if_neg k1).trans ((if_neg k3).trans (rfl))).symm)), rfl, rfl⟩
def f6_4_1 (g : Nat → Int32) (k_ : Nat → Int32) (x2 : Int32) : Int32 := (if (1 : Int32) < x2 then (if (g 1) = (k_ 1) then (1 : Int32) else (0 : Int32)) else (if (1 : Int32) = x2 then (if (g 1) = (k_ 1) then (0 : Int32) else (1 : Int32)) else (1 : Int32)))
set_option maxRecDepth 65536 in
set_option maxHeartbeats 40000000 in
theorem rm6_4_1 (l : Launch) (Z : State) (a0 : Array Value) (hw : ∀ d ∈ tables_1, d.before a0 Z = true) (g : Nat → Int32) (k_ : Nat → Int32) (x0 : Addr) (x1 : Addr) (x2 : Int32) (h0 : Heap) (A0 : AI Z h0 x0 .int 4 g) (A1 : AI Z h0 x1 .int 4 k_) :
    Met l Z (⟨"com/example/crosshatch/crosshatch/design/ParameterSetsAdvancePinLaw", "place", "([I[III)Z"⟩ : MethodName) method_4_code 4 (some .boolean) ({ frames := 0, cells := 0, slots := 0, locals := 0 } : Room) #[(.ref x0), (.ref x1), (.int x2), (.int (1 : Int32))] h0 (Pu (some (.int (f6_4_1 g k_ x2))) h0) := by
  refine enter pl6 #[.val (.ref x0), .val (.ref x1), .val (.int x2), .val (.int (1 : Int32))] rfl ?_
  intro p e s m below meth c T B hret hlk hnm
  · refine o_iloadN B 0 1 (v := (1 : Int32)) d6_0 rfl rfl ?_
    refine o_aloadN B 1 2 (v := (.ref x0)) d6_1 rfl rfl rfl ?_
    refine o_alenI B 2 3 A0 (4 : Int32) d6_2 rfl (by decide) ?_
    refine o_icY B 3 8 d6_3 (XT.ii_lt_t (by decide)) (by decide) (by decide) ?_
    refine o_iloadN B 8 9 (v := (1 : Int32)) d6_8 rfl rfl ?_
    refine o_iloadN B 9 10 (v := x2) d6_9 rfl rfl ?_
    by_cases k1 : (1 : Int32) < x2
    · refine o_icN B 10 13 d6_10 rfl (XT.ii_ge_f k1) ?_
      refine o_aloadN B 13 14 (v := (.ref x0)) d6_13 rfl rfl rfl ?_
      refine o_iloadN B 14 15 (v := (1 : Int32)) d6_14 rfl rfl ?_
      refine o_iaload B 15 16 A0 1 (g 1) d6_15 rfl (by decide) (by decide) (by decide) rfl ?_
      refine o_aloadN B 16 17 (v := (.ref x1)) d6_16 rfl rfl rfl ?_
      refine o_iloadN B 17 18 (v := (1 : Int32)) d6_17 rfl rfl ?_
      refine o_iaload B 18 19 A1 1 (k_ 1) d6_18 rfl (by decide) (by decide) (by decide) rfl ?_
      by_cases k2 : (g 1) = (k_ 1)
      · refine o_icN B 19 22 d6_19 rfl (XT.ii_ne_f k2) ?_
        refine o_iconst B 22 23 (1 : Int32) d6_22 rfl (by decide) ?_
        refine o_goto B 23 27 d6_23 (by decide) (by decide) ?_
        refine o_retZ (t := .boolean) B 27 d6_27 hret hlk (by simp) (by decide) (by decide) ⟨(congrArg (fun z => some (Value.int z)) ((show nar .boolean (1 : Int32) = (1 : Int32) from rfl).trans (show f6_4_1 g k_ x2 = (1 : Int32) from (if_pos k1).trans ((if_pos k2).trans (rfl))).symm)), rfl, rfl⟩
      · refine o_icY B 19 26 d6_19 (XT.ii_ne_t k2) (by decide) (by decide) ?_
        refine o_iconst B 26 27 (0 : Int32) d6_26 rfl (by decide) ?_
        refine o_retZ (t := .boolean) B 27 d6_27 hret hlk (by simp) (by decide) (by decide) ⟨(congrArg (fun z => some (Value.int z)) ((show nar .boolean (0 : Int32) = (0 : Int32) from rfl).trans (show f6_4_1 g k_ x2 = (0 : Int32) from (if_pos k1).trans ((if_neg k2).trans (rfl))).symm)), rfl, rfl⟩
    · refine o_icY B 10 28 d6_10 (XT.ii_ge_t k1) (by decide) (by decide) ?_
      refine o_iloadN B 28 29 (v := (1 : Int32)) d6_28 rfl rfl ?_
      refine o_iloadN B 29 30 (v := x2) d6_29 rfl rfl ?_
      by_cases k3 : (1 : Int32) = x2
      · refine o_icN B 30 33 d6_30 rfl (XT.ii_ne_f k3) ?_
        refine o_aloadN B 33 34 (v := (.ref x0)) d6_33 rfl rfl rfl ?_
        refine o_iloadN B 34 35 (v := (1 : Int32)) d6_34 rfl rfl ?_
        refine o_iaload B 35 36 A0 1 (g 1) d6_35 rfl (by decide) (by decide) (by decide) rfl ?_
        refine o_aloadN B 36 37 (v := (.ref x1)) d6_36 rfl rfl rfl ?_
        refine o_iloadN B 37 38 (v := (1 : Int32)) d6_37 rfl rfl ?_
        refine o_iaload B 38 39 A1 1 (k_ 1) d6_38 rfl (by decide) (by decide) (by decide) rfl ?_
        by_cases k4 : (g 1) = (k_ 1)
        · refine o_icY B 39 46 d6_39 (XT.ii_eq_t k4) (by decide) (by decide) ?_
          refine o_iconst B 46 47 (0 : Int32) d6_46 rfl (by decide) ?_
          refine o_retZ (t := .boolean) B 47 d6_47 hret hlk (by simp) (by decide) (by decide) ⟨(congrArg (fun z => some (Value.int z)) ((show nar .boolean (0 : Int32) = (0 : Int32) from rfl).trans (show f6_4_1 g k_ x2 = (0 : Int32) from (if_neg k1).trans ((if_pos k3).trans ((if_pos k4).trans (rfl)))).symm)), rfl, rfl⟩
        · refine o_icN B 39 42 d6_39 rfl (XT.ii_eq_f k4) ?_
          refine o_iconst B 42 43 (1 : Int32) d6_42 rfl (by decide) ?_
          refine o_goto B 43 47 d6_43 (by decide) (by decide) ?_
          refine o_retZ (t := .boolean) B 47 d6_47 hret hlk (by simp) (by decide) (by decide) ⟨(congrArg (fun z => some (Value.int z)) ((show nar .boolean (1 : Int32) = (1 : Int32) from rfl).trans (show f6_4_1 g k_ x2 = (1 : Int32) from (if_neg k1).trans ((if_pos k3).trans ((if_neg k4).trans (rfl)))).symm)), rfl, rfl⟩
      · refine o_icY B 30 48 d6_30 (XT.ii_ne_t k3) (by decide) (by decide) ?_
        refine o_iconst B 48 49 (1 : Int32) d6_48 rfl (by decide) ?_
        refine o_retZ (t := .boolean) B 49 d6_49 hret hlk (by simp) (by decide) (by decide) ⟨(congrArg (fun z => some (Value.int z)) ((show nar .boolean (1 : Int32) = (1 : Int32) from rfl).trans (show f6_4_1 g k_ x2 = (1 : Int32) from (if_neg k1).trans ((if_neg k3).trans (rfl))).symm)), rfl, rfl⟩
def f6_4_2 (g : Nat → Int32) (k_ : Nat → Int32) (x2 : Int32) : Int32 := (if (2 : Int32) < x2 then (if (g 2) = (k_ 2) then (1 : Int32) else (0 : Int32)) else (if (2 : Int32) = x2 then (if (g 2) = (k_ 2) then (0 : Int32) else (1 : Int32)) else (1 : Int32)))
set_option maxRecDepth 65536 in
set_option maxHeartbeats 40000000 in
theorem rm6_4_2 (l : Launch) (Z : State) (a0 : Array Value) (hw : ∀ d ∈ tables_1, d.before a0 Z = true) (g : Nat → Int32) (k_ : Nat → Int32) (x0 : Addr) (x1 : Addr) (x2 : Int32) (h0 : Heap) (A0 : AI Z h0 x0 .int 4 g) (A1 : AI Z h0 x1 .int 4 k_) :
    Met l Z (⟨"com/example/crosshatch/crosshatch/design/ParameterSetsAdvancePinLaw", "place", "([I[III)Z"⟩ : MethodName) method_4_code 4 (some .boolean) ({ frames := 0, cells := 0, slots := 0, locals := 0 } : Room) #[(.ref x0), (.ref x1), (.int x2), (.int (2 : Int32))] h0 (Pu (some (.int (f6_4_2 g k_ x2))) h0) := by
  refine enter pl6 #[.val (.ref x0), .val (.ref x1), .val (.int x2), .val (.int (2 : Int32))] rfl ?_
  intro p e s m below meth c T B hret hlk hnm
  · refine o_iloadN B 0 1 (v := (2 : Int32)) d6_0 rfl rfl ?_
    refine o_aloadN B 1 2 (v := (.ref x0)) d6_1 rfl rfl rfl ?_
    refine o_alenI B 2 3 A0 (4 : Int32) d6_2 rfl (by decide) ?_
    refine o_icY B 3 8 d6_3 (XT.ii_lt_t (by decide)) (by decide) (by decide) ?_
    refine o_iloadN B 8 9 (v := (2 : Int32)) d6_8 rfl rfl ?_
    refine o_iloadN B 9 10 (v := x2) d6_9 rfl rfl ?_
    by_cases k1 : (2 : Int32) < x2
    · refine o_icN B 10 13 d6_10 rfl (XT.ii_ge_f k1) ?_
      refine o_aloadN B 13 14 (v := (.ref x0)) d6_13 rfl rfl rfl ?_
      refine o_iloadN B 14 15 (v := (2 : Int32)) d6_14 rfl rfl ?_
      refine o_iaload B 15 16 A0 2 (g 2) d6_15 rfl (by decide) (by decide) (by decide) rfl ?_
      refine o_aloadN B 16 17 (v := (.ref x1)) d6_16 rfl rfl rfl ?_
      refine o_iloadN B 17 18 (v := (2 : Int32)) d6_17 rfl rfl ?_
      refine o_iaload B 18 19 A1 2 (k_ 2) d6_18 rfl (by decide) (by decide) (by decide) rfl ?_
      by_cases k2 : (g 2) = (k_ 2)
      · refine o_icN B 19 22 d6_19 rfl (XT.ii_ne_f k2) ?_
        refine o_iconst B 22 23 (1 : Int32) d6_22 rfl (by decide) ?_
        refine o_goto B 23 27 d6_23 (by decide) (by decide) ?_
        refine o_retZ (t := .boolean) B 27 d6_27 hret hlk (by simp) (by decide) (by decide) ⟨(congrArg (fun z => some (Value.int z)) ((show nar .boolean (1 : Int32) = (1 : Int32) from rfl).trans (show f6_4_2 g k_ x2 = (1 : Int32) from (if_pos k1).trans ((if_pos k2).trans (rfl))).symm)), rfl, rfl⟩
      · refine o_icY B 19 26 d6_19 (XT.ii_ne_t k2) (by decide) (by decide) ?_
        refine o_iconst B 26 27 (0 : Int32) d6_26 rfl (by decide) ?_
        refine o_retZ (t := .boolean) B 27 d6_27 hret hlk (by simp) (by decide) (by decide) ⟨(congrArg (fun z => some (Value.int z)) ((show nar .boolean (0 : Int32) = (0 : Int32) from rfl).trans (show f6_4_2 g k_ x2 = (0 : Int32) from (if_pos k1).trans ((if_neg k2).trans (rfl))).symm)), rfl, rfl⟩
    · refine o_icY B 10 28 d6_10 (XT.ii_ge_t k1) (by decide) (by decide) ?_
      refine o_iloadN B 28 29 (v := (2 : Int32)) d6_28 rfl rfl ?_
      refine o_iloadN B 29 30 (v := x2) d6_29 rfl rfl ?_
      by_cases k3 : (2 : Int32) = x2
      · refine o_icN B 30 33 d6_30 rfl (XT.ii_ne_f k3) ?_
        refine o_aloadN B 33 34 (v := (.ref x0)) d6_33 rfl rfl rfl ?_
        refine o_iloadN B 34 35 (v := (2 : Int32)) d6_34 rfl rfl ?_
        refine o_iaload B 35 36 A0 2 (g 2) d6_35 rfl (by decide) (by decide) (by decide) rfl ?_
        refine o_aloadN B 36 37 (v := (.ref x1)) d6_36 rfl rfl rfl ?_
        refine o_iloadN B 37 38 (v := (2 : Int32)) d6_37 rfl rfl ?_
        refine o_iaload B 38 39 A1 2 (k_ 2) d6_38 rfl (by decide) (by decide) (by decide) rfl ?_
        by_cases k4 : (g 2) = (k_ 2)
        · refine o_icY B 39 46 d6_39 (XT.ii_eq_t k4) (by decide) (by decide) ?_
          refine o_iconst B 46 47 (0 : Int32) d6_46 rfl (by decide) ?_
          refine o_retZ (t := .boolean) B 47 d6_47 hret hlk (by simp) (by decide) (by decide) ⟨(congrArg (fun z => some (Value.int z)) ((show nar .boolean (0 : Int32) = (0 : Int32) from rfl).trans (show f6_4_2 g k_ x2 = (0 : Int32) from (if_neg k1).trans ((if_pos k3).trans ((if_pos k4).trans (rfl)))).symm)), rfl, rfl⟩
        · refine o_icN B 39 42 d6_39 rfl (XT.ii_eq_f k4) ?_
          refine o_iconst B 42 43 (1 : Int32) d6_42 rfl (by decide) ?_
          refine o_goto B 43 47 d6_43 (by decide) (by decide) ?_
          refine o_retZ (t := .boolean) B 47 d6_47 hret hlk (by simp) (by decide) (by decide) ⟨(congrArg (fun z => some (Value.int z)) ((show nar .boolean (1 : Int32) = (1 : Int32) from rfl).trans (show f6_4_2 g k_ x2 = (1 : Int32) from (if_neg k1).trans ((if_pos k3).trans ((if_neg k4).trans (rfl)))).symm)), rfl, rfl⟩
      · refine o_icY B 30 48 d6_30 (XT.ii_ne_t k3) (by decide) (by decide) ?_
        refine o_iconst B 48 49 (1 : Int32) d6_48 rfl (by decide) ?_
        refine o_retZ (t := .boolean) B 49 d6_49 hret hlk (by simp) (by decide) (by decide) ⟨(congrArg (fun z => some (Value.int z)) ((show nar .boolean (1 : Int32) = (1 : Int32) from rfl).trans (show f6_4_2 g k_ x2 = (1 : Int32) from (if_neg k1).trans ((if_neg k3).trans (rfl))).symm)), rfl, rfl⟩
def f6_4_3 (g : Nat → Int32) (k_ : Nat → Int32) (x2 : Int32) : Int32 := (if (3 : Int32) < x2 then (if (g 3) = (k_ 3) then (1 : Int32) else (0 : Int32)) else (if (3 : Int32) = x2 then (if (g 3) = (k_ 3) then (0 : Int32) else (1 : Int32)) else (1 : Int32)))
set_option maxRecDepth 65536 in
set_option maxHeartbeats 40000000 in
theorem rm6_4_3 (l : Launch) (Z : State) (a0 : Array Value) (hw : ∀ d ∈ tables_1, d.before a0 Z = true) (g : Nat → Int32) (k_ : Nat → Int32) (x0 : Addr) (x1 : Addr) (x2 : Int32) (h0 : Heap) (A0 : AI Z h0 x0 .int 4 g) (A1 : AI Z h0 x1 .int 4 k_) :
    Met l Z (⟨"com/example/crosshatch/crosshatch/design/ParameterSetsAdvancePinLaw", "place", "([I[III)Z"⟩ : MethodName) method_4_code 4 (some .boolean) ({ frames := 0, cells := 0, slots := 0, locals := 0 } : Room) #[(.ref x0), (.ref x1), (.int x2), (.int (3 : Int32))] h0 (Pu (some (.int (f6_4_3 g k_ x2))) h0) := by
  refine enter pl6 #[.val (.ref x0), .val (.ref x1), .val (.int x2), .val (.int (3 : Int32))] rfl ?_
  intro p e s m below meth c T B hret hlk hnm
  · refine o_iloadN B 0 1 (v := (3 : Int32)) d6_0 rfl rfl ?_
    refine o_aloadN B 1 2 (v := (.ref x0)) d6_1 rfl rfl rfl ?_
    refine o_alenI B 2 3 A0 (4 : Int32) d6_2 rfl (by decide) ?_
    refine o_icY B 3 8 d6_3 (XT.ii_lt_t (by decide)) (by decide) (by decide) ?_
    refine o_iloadN B 8 9 (v := (3 : Int32)) d6_8 rfl rfl ?_
    refine o_iloadN B 9 10 (v := x2) d6_9 rfl rfl ?_
    by_cases k1 : (3 : Int32) < x2
    · refine o_icN B 10 13 d6_10 rfl (XT.ii_ge_f k1) ?_
      refine o_aloadN B 13 14 (v := (.ref x0)) d6_13 rfl rfl rfl ?_
      refine o_iloadN B 14 15 (v := (3 : Int32)) d6_14 rfl rfl ?_
      refine o_iaload B 15 16 A0 3 (g 3) d6_15 rfl (by decide) (by decide) (by decide) rfl ?_
      refine o_aloadN B 16 17 (v := (.ref x1)) d6_16 rfl rfl rfl ?_
      refine o_iloadN B 17 18 (v := (3 : Int32)) d6_17 rfl rfl ?_
      refine o_iaload B 18 19 A1 3 (k_ 3) d6_18 rfl (by decide) (by decide) (by decide) rfl ?_
      by_cases k2 : (g 3) = (k_ 3)
      · refine o_icN B 19 22 d6_19 rfl (XT.ii_ne_f k2) ?_
        refine o_iconst B 22 23 (1 : Int32) d6_22 rfl (by decide) ?_
        refine o_goto B 23 27 d6_23 (by decide) (by decide) ?_
        refine o_retZ (t := .boolean) B 27 d6_27 hret hlk (by simp) (by decide) (by decide) ⟨(congrArg (fun z => some (Value.int z)) ((show nar .boolean (1 : Int32) = (1 : Int32) from rfl).trans (show f6_4_3 g k_ x2 = (1 : Int32) from (if_pos k1).trans ((if_pos k2).trans (rfl))).symm)), rfl, rfl⟩
      · refine o_icY B 19 26 d6_19 (XT.ii_ne_t k2) (by decide) (by decide) ?_
        refine o_iconst B 26 27 (0 : Int32) d6_26 rfl (by decide) ?_
        refine o_retZ (t := .boolean) B 27 d6_27 hret hlk (by simp) (by decide) (by decide) ⟨(congrArg (fun z => some (Value.int z)) ((show nar .boolean (0 : Int32) = (0 : Int32) from rfl).trans (show f6_4_3 g k_ x2 = (0 : Int32) from (if_pos k1).trans ((if_neg k2).trans (rfl))).symm)), rfl, rfl⟩
    · refine o_icY B 10 28 d6_10 (XT.ii_ge_t k1) (by decide) (by decide) ?_
      refine o_iloadN B 28 29 (v := (3 : Int32)) d6_28 rfl rfl ?_
      refine o_iloadN B 29 30 (v := x2) d6_29 rfl rfl ?_
      by_cases k3 : (3 : Int32) = x2
      · refine o_icN B 30 33 d6_30 rfl (XT.ii_ne_f k3) ?_
        refine o_aloadN B 33 34 (v := (.ref x0)) d6_33 rfl rfl rfl ?_
        refine o_iloadN B 34 35 (v := (3 : Int32)) d6_34 rfl rfl ?_
        refine o_iaload B 35 36 A0 3 (g 3) d6_35 rfl (by decide) (by decide) (by decide) rfl ?_
        refine o_aloadN B 36 37 (v := (.ref x1)) d6_36 rfl rfl rfl ?_
        refine o_iloadN B 37 38 (v := (3 : Int32)) d6_37 rfl rfl ?_
        refine o_iaload B 38 39 A1 3 (k_ 3) d6_38 rfl (by decide) (by decide) (by decide) rfl ?_
        by_cases k4 : (g 3) = (k_ 3)
        · refine o_icY B 39 46 d6_39 (XT.ii_eq_t k4) (by decide) (by decide) ?_
          refine o_iconst B 46 47 (0 : Int32) d6_46 rfl (by decide) ?_
          refine o_retZ (t := .boolean) B 47 d6_47 hret hlk (by simp) (by decide) (by decide) ⟨(congrArg (fun z => some (Value.int z)) ((show nar .boolean (0 : Int32) = (0 : Int32) from rfl).trans (show f6_4_3 g k_ x2 = (0 : Int32) from (if_neg k1).trans ((if_pos k3).trans ((if_pos k4).trans (rfl)))).symm)), rfl, rfl⟩
        · refine o_icN B 39 42 d6_39 rfl (XT.ii_eq_f k4) ?_
          refine o_iconst B 42 43 (1 : Int32) d6_42 rfl (by decide) ?_
          refine o_goto B 43 47 d6_43 (by decide) (by decide) ?_
          refine o_retZ (t := .boolean) B 47 d6_47 hret hlk (by simp) (by decide) (by decide) ⟨(congrArg (fun z => some (Value.int z)) ((show nar .boolean (1 : Int32) = (1 : Int32) from rfl).trans (show f6_4_3 g k_ x2 = (1 : Int32) from (if_neg k1).trans ((if_pos k3).trans ((if_neg k4).trans (rfl)))).symm)), rfl, rfl⟩
      · refine o_icY B 30 48 d6_30 (XT.ii_ne_t k3) (by decide) (by decide) ?_
        refine o_iconst B 48 49 (1 : Int32) d6_48 rfl (by decide) ?_
        refine o_retZ (t := .boolean) B 49 d6_49 hret hlk (by simp) (by decide) (by decide) ⟨(congrArg (fun z => some (Value.int z)) ((show nar .boolean (1 : Int32) = (1 : Int32) from rfl).trans (show f6_4_3 g k_ x2 = (1 : Int32) from (if_neg k1).trans ((if_neg k3).trans (rfl))).symm)), rfl, rfl⟩
def f7_4 (g : Nat → Int32) (k_ : Nat → Int32) : Int32 := (if (g 0) = (k_ 0) then (if (g 1) = (k_ 1) then (if (g 2) = (k_ 2) then (if (g 3) = (k_ 3) then (1 : Int32) else (0 : Int32)) else (0 : Int32)) else (0 : Int32)) else (0 : Int32))
set_option maxRecDepth 65536 in
set_option maxHeartbeats 40000000 in
theorem rm7_4 (l : Launch) (Z : State) (a0 : Array Value) (hw : ∀ d ∈ tables_1, d.before a0 Z = true) (g : Nat → Int32) (k_ : Nat → Int32) (x0 : Addr) (x1 : Addr) (h0 : Heap) (A0 : AI Z h0 x0 .int 4 g) (A1 : AI Z h0 x1 .int 4 k_) :
    Met l Z (⟨"com/example/crosshatch/crosshatch/design/ParameterSetsAdvancePinLaw", "same", "([I[I)Z"⟩ : MethodName) method_5_code 3 (some .boolean) ({ frames := 0, cells := 0, slots := 0, locals := 0 } : Room) #[(.ref x0), (.ref x1)] h0 (Pu (some (.int (f7_4 g k_))) h0) := by
  refine enter pl7 #[.val (.ref x0), .val (.ref x1), .unset] rfl ?_
  intro p e s m below meth c T B hret hlk hnm
  · refine o_aloadN B 0 1 (v := (.ref x1)) d7_0 rfl rfl rfl ?_
    refine o_alenI B 1 2 A1 (4 : Int32) d7_1 rfl (by decide) ?_
    refine o_istoreN B 2 3 (l' := #[.val (.ref x0), .val (.ref x1), .val (.int (4 : Int32))]) d7_2 rfl rfl ?_
    refine o_aloadN B 3 4 (v := (.ref x0)) d7_3 rfl rfl rfl ?_
    refine o_alenI B 4 5 A0 (4 : Int32) d7_4 rfl (by decide) ?_
    refine o_iloadN B 5 6 (v := (4 : Int32)) d7_5 rfl rfl ?_
    refine o_icY B 6 11 d7_6 (XT.ii_eq_t (by decide)) (by decide) (by decide) ?_
    refine o_aloadN B 11 12 (v := (.ref x0)) d7_11 rfl rfl rfl ?_
    refine o_iconst B 12 13 (0 : Int32) d7_12 rfl (by decide) ?_
    refine o_iaload B 13 14 A0 0 (g 0) d7_13 rfl (by decide) (by decide) (by decide) rfl ?_
    refine o_aloadN B 14 15 (v := (.ref x1)) d7_14 rfl rfl rfl ?_
    refine o_iconst B 15 16 (0 : Int32) d7_15 rfl (by decide) ?_
    refine o_iaload B 16 17 A1 0 (k_ 0) d7_16 rfl (by decide) (by decide) (by decide) rfl ?_
    by_cases k1 : (g 0) = (k_ 0)
    · refine o_icY B 17 22 d7_17 (XT.ii_eq_t k1) (by decide) (by decide) ?_
      refine o_iloadN B 22 23 (v := (4 : Int32)) d7_22 rfl rfl ?_
      refine o_iconst B 23 24 (1 : Int32) d7_23 rfl (by decide) ?_
      refine o_icN B 24 27 d7_24 rfl (XT.ii_le_f (by decide)) ?_
      refine o_aloadN B 27 28 (v := (.ref x0)) d7_27 rfl rfl rfl ?_
      refine o_iconst B 28 29 (1 : Int32) d7_28 rfl (by decide) ?_
      refine o_iaload B 29 30 A0 1 (g 1) d7_29 rfl (by decide) (by decide) (by decide) rfl ?_
      refine o_aloadN B 30 31 (v := (.ref x1)) d7_30 rfl rfl rfl ?_
      refine o_iconst B 31 32 (1 : Int32) d7_31 rfl (by decide) ?_
      refine o_iaload B 32 33 A1 1 (k_ 1) d7_32 rfl (by decide) (by decide) (by decide) rfl ?_
      by_cases k2 : (g 1) = (k_ 1)
      · refine o_icY B 33 38 d7_33 (XT.ii_eq_t k2) (by decide) (by decide) ?_
        refine o_iloadN B 38 39 (v := (4 : Int32)) d7_38 rfl rfl ?_
        refine o_iconst B 39 40 (2 : Int32) d7_39 rfl (by decide) ?_
        refine o_icN B 40 43 d7_40 rfl (XT.ii_le_f (by decide)) ?_
        refine o_aloadN B 43 44 (v := (.ref x0)) d7_43 rfl rfl rfl ?_
        refine o_iconst B 44 45 (2 : Int32) d7_44 rfl (by decide) ?_
        refine o_iaload B 45 46 A0 2 (g 2) d7_45 rfl (by decide) (by decide) (by decide) rfl ?_
        refine o_aloadN B 46 47 (v := (.ref x1)) d7_46 rfl rfl rfl ?_
        refine o_iconst B 47 48 (2 : Int32) d7_47 rfl (by decide) ?_
        refine o_iaload B 48 49 A1 2 (k_ 2) d7_48 rfl (by decide) (by decide) (by decide) rfl ?_
        by_cases k3 : (g 2) = (k_ 2)
        · refine o_icY B 49 54 d7_49 (XT.ii_eq_t k3) (by decide) (by decide) ?_
          refine o_iloadN B 54 55 (v := (4 : Int32)) d7_54 rfl rfl ?_
          refine o_iconst B 55 56 (3 : Int32) d7_55 rfl (by decide) ?_
          refine o_icN B 56 59 d7_56 rfl (XT.ii_le_f (by decide)) ?_
          refine o_aloadN B 59 60 (v := (.ref x0)) d7_59 rfl rfl rfl ?_
          refine o_iconst B 60 61 (3 : Int32) d7_60 rfl (by decide) ?_
          refine o_iaload B 61 62 A0 3 (g 3) d7_61 rfl (by decide) (by decide) (by decide) rfl ?_
          refine o_aloadN B 62 63 (v := (.ref x1)) d7_62 rfl rfl rfl ?_
          refine o_iconst B 63 64 (3 : Int32) d7_63 rfl (by decide) ?_
          refine o_iaload B 64 65 A1 3 (k_ 3) d7_64 rfl (by decide) (by decide) (by decide) rfl ?_
          by_cases k4 : (g 3) = (k_ 3)
          · refine o_icY B 65 70 d7_65 (XT.ii_eq_t k4) (by decide) (by decide) ?_
            refine o_iconst B 70 71 (1 : Int32) d7_70 rfl (by decide) ?_
            refine o_retZ (t := .boolean) B 71 d7_71 hret hlk (by simp) (by decide) (by decide) ⟨(congrArg (fun z => some (Value.int z)) ((show nar .boolean (1 : Int32) = (1 : Int32) from rfl).trans (show f7_4 g k_ = (1 : Int32) from (if_pos k1).trans ((if_pos k2).trans ((if_pos k3).trans ((if_pos k4).trans (rfl))))).symm)), rfl, rfl⟩
          · refine o_icN B 65 68 d7_65 rfl (XT.ii_eq_f k4) ?_
            refine o_iconst B 68 69 (0 : Int32) d7_68 rfl (by decide) ?_
            refine o_retZ (t := .boolean) B 69 d7_69 hret hlk (by simp) (by decide) (by decide) ⟨(congrArg (fun z => some (Value.int z)) ((show nar .boolean (0 : Int32) = (0 : Int32) from rfl).trans (show f7_4 g k_ = (0 : Int32) from (if_pos k1).trans ((if_pos k2).trans ((if_pos k3).trans ((if_neg k4).trans (rfl))))).symm)), rfl, rfl⟩
        · refine o_icN B 49 52 d7_49 rfl (XT.ii_eq_f k3) ?_
          refine o_iconst B 52 53 (0 : Int32) d7_52 rfl (by decide) ?_
          refine o_retZ (t := .boolean) B 53 d7_53 hret hlk (by simp) (by decide) (by decide) ⟨(congrArg (fun z => some (Value.int z)) ((show nar .boolean (0 : Int32) = (0 : Int32) from rfl).trans (show f7_4 g k_ = (0 : Int32) from (if_pos k1).trans ((if_pos k2).trans ((if_neg k3).trans (rfl)))).symm)), rfl, rfl⟩
      · refine o_icN B 33 36 d7_33 rfl (XT.ii_eq_f k2) ?_
        refine o_iconst B 36 37 (0 : Int32) d7_36 rfl (by decide) ?_
        refine o_retZ (t := .boolean) B 37 d7_37 hret hlk (by simp) (by decide) (by decide) ⟨(congrArg (fun z => some (Value.int z)) ((show nar .boolean (0 : Int32) = (0 : Int32) from rfl).trans (show f7_4 g k_ = (0 : Int32) from (if_pos k1).trans ((if_neg k2).trans (rfl))).symm)), rfl, rfl⟩
    · refine o_icN B 17 20 d7_17 rfl (XT.ii_eq_f k1) ?_
      refine o_iconst B 20 21 (0 : Int32) d7_20 rfl (by decide) ?_
      refine o_retZ (t := .boolean) B 21 d7_21 hret hlk (by simp) (by decide) (by decide) ⟨(congrArg (fun z => some (Value.int z)) ((show nar .boolean (0 : Int32) = (0 : Int32) from rfl).trans (show f7_4 g k_ = (0 : Int32) from (if_neg k1).trans (rfl)).symm)), rfl, rfl⟩
theorem pl0 : plainFor x = true := by first | exact plainFor_of_name (by first | (simp [plainName, overriddenIn]; done) | decide +kernel) | decide +kernel
theorem pd__III_I : parseMethodDescriptor "(III)I" = some ⟨[.int, .int, .int], some .int⟩ := by decide +kernel
theorem pd___II_I : parseMethodDescriptor "([II)I" = some ⟨[(.array .int), .int], some .int⟩ := by decide +kernel
theorem pd___I_I_Z : parseMethodDescriptor "([I[I)Z" = some ⟨[(.array .int), (.array .int)], some .boolean⟩ := by decide +kernel
theorem pd___II_J : parseMethodDescriptor "([II)J" = some ⟨[(.array .int), .int], some .long⟩ := by decide +kernel
theorem pd___II_Z : parseMethodDescriptor "([II)Z" = some ⟨[(.array .int), .int], some .boolean⟩ := by decide +kernel
theorem pd___I_III_Z : parseMethodDescriptor "([I[III)Z" = some ⟨[(.array .int), (.array .int), .int, .int], some .boolean⟩ := by decide +kernel
def q0_1 (x0 : Int32) (x1 : Int32) (x2 : Int32) (x3 : Int32) (x4 : Int32) (x5 : Int32) : Int32 := ((1 : Int32) + (x1 &&& (15 : Int32)))
def q0_2 (x0 : Int32) (x1 : Int32) (x2 : Int32) (x3 : Int32) (x4 : Int32) (x5 : Int32) : Int32 := (f1 (0 : Int32) ((q0_1 x0 x1 x2 x3 x4 x5) - (1 : Int32)) x2)
def q0_3 (x0 : Int32) (x1 : Int32) (x2 : Int32) (x3 : Int32) (x4 : Int32) (x5 : Int32) : Int32 := (q0_2 x0 x1 x2 x3 x4 x5)
def w0_4 (x0 : Int32) (x1 : Int32) (x2 : Int32) (x3 : Int32) (x4 : Int32) (x5 : Int32) : Nat → Int32 := fun j => if j = 0 then (q0_3 x0 x1 x2 x3 x4 x5) else (fun _ => 0) j
def q0_5 (x0 : Int32) (x1 : Int32) (x2 : Int32) (x3 : Int32) (x4 : Int32) (x5 : Int32) : Int32 := (f2_1 (w0_4 x0 x1 x2 x3 x4 x5) (q0_1 x0 x1 x2 x3 x4 x5))
def q0_6 (x0 : Int32) (x1 : Int32) (x2 : Int32) (x3 : Int32) (x4 : Int32) (x5 : Int32) : Int64 := (f3 (q0_1 x0 x1 x2 x3 x4 x5).toInt64 (1 : Int32))
def q0_7 (x0 : Int32) (x1 : Int32) (x2 : Int32) (x3 : Int32) (x4 : Int32) (x5 : Int32) : Int32 := (f7_1 (o2_1_0 (w0_4 x0 x1 x2 x3 x4 x5) (q0_1 x0 x1 x2 x3 x4 x5)) (w0_4 x0 x1 x2 x3 x4 x5))
def q0_8 (x0 : Int32) (x1 : Int32) (x2 : Int32) (x3 : Int32) (x4 : Int32) (x5 : Int32) : Int64 := (f5_1 (w0_4 x0 x1 x2 x3 x4 x5) (q0_1 x0 x1 x2 x3 x4 x5))
def q0_9 (x0 : Int32) (x1 : Int32) (x2 : Int32) (x3 : Int32) (x4 : Int32) (x5 : Int32) : Int32 := (f4_1 (o2_1_0 (w0_4 x0 x1 x2 x3 x4 x5) (q0_1 x0 x1 x2 x3 x4 x5)) (q0_1 x0 x1 x2 x3 x4 x5))
def q0_10 (x0 : Int32) (x1 : Int32) (x2 : Int32) (x3 : Int32) (x4 : Int32) (x5 : Int32) : Int64 := (f5_1 (o2_1_0 (w0_4 x0 x1 x2 x3 x4 x5) (q0_1 x0 x1 x2 x3 x4 x5)) (q0_1 x0 x1 x2 x3 x4 x5))
def q0_11 (x0 : Int32) (x1 : Int32) (x2 : Int32) (x3 : Int32) (x4 : Int32) (x5 : Int32) : Int32 := (f6_1_0 (o2_1_0 (w0_4 x0 x1 x2 x3 x4 x5) (q0_1 x0 x1 x2 x3 x4 x5)) (w0_4 x0 x1 x2 x3 x4 x5) (q0_5 x0 x1 x2 x3 x4 x5))
def q0_12 (x0 : Int32) (x1 : Int32) (x2 : Int32) (x3 : Int32) (x4 : Int32) (x5 : Int32) : Int32 := (f6_1_1 (o2_1_0 (w0_4 x0 x1 x2 x3 x4 x5) (q0_1 x0 x1 x2 x3 x4 x5)) (w0_4 x0 x1 x2 x3 x4 x5) (q0_5 x0 x1 x2 x3 x4 x5))
def q0_13 (x0 : Int32) (x1 : Int32) (x2 : Int32) (x3 : Int32) (x4 : Int32) (x5 : Int32) : Int32 := (f6_1_2 (o2_1_0 (w0_4 x0 x1 x2 x3 x4 x5) (q0_1 x0 x1 x2 x3 x4 x5)) (w0_4 x0 x1 x2 x3 x4 x5) (q0_5 x0 x1 x2 x3 x4 x5))
def q0_14 (x0 : Int32) (x1 : Int32) (x2 : Int32) (x3 : Int32) (x4 : Int32) (x5 : Int32) : Int32 := (f6_1_3 (o2_1_0 (w0_4 x0 x1 x2 x3 x4 x5) (q0_1 x0 x1 x2 x3 x4 x5)) (w0_4 x0 x1 x2 x3 x4 x5) (q0_5 x0 x1 x2 x3 x4 x5))
def q0_15 (x0 : Int32) (x1 : Int32) (x2 : Int32) (x3 : Int32) (x4 : Int32) (x5 : Int32) : Int32 := ((2 : Int32) + (x1 &&& (15 : Int32)))
def q0_16 (x0 : Int32) (x1 : Int32) (x2 : Int32) (x3 : Int32) (x4 : Int32) (x5 : Int32) : Int32 := (f1 (0 : Int32) ((q0_15 x0 x1 x2 x3 x4 x5) - (2 : Int32)) x2)
def q0_17 (x0 : Int32) (x1 : Int32) (x2 : Int32) (x3 : Int32) (x4 : Int32) (x5 : Int32) : Int32 := (q0_16 x0 x1 x2 x3 x4 x5)
def w0_18 (x0 : Int32) (x1 : Int32) (x2 : Int32) (x3 : Int32) (x4 : Int32) (x5 : Int32) : Nat → Int32 := fun j => if j = 0 then (q0_17 x0 x1 x2 x3 x4 x5) else (fun _ => 0) j
def q0_19 (x0 : Int32) (x1 : Int32) (x2 : Int32) (x3 : Int32) (x4 : Int32) (x5 : Int32) : Int32 := (((q0_15 x0 x1 x2 x3 x4 x5) - (2 : Int32)) + (1 : Int32))
def q0_20 (x0 : Int32) (x1 : Int32) (x2 : Int32) (x3 : Int32) (x4 : Int32) (x5 : Int32) : Int32 := (f1 ((q0_17 x0 x1 x2 x3 x4 x5) + (1 : Int32)) (q0_19 x0 x1 x2 x3 x4 x5) x3)
def q0_21 (x0 : Int32) (x1 : Int32) (x2 : Int32) (x3 : Int32) (x4 : Int32) (x5 : Int32) : Int32 := (q0_20 x0 x1 x2 x3 x4 x5)
def w0_22 (x0 : Int32) (x1 : Int32) (x2 : Int32) (x3 : Int32) (x4 : Int32) (x5 : Int32) : Nat → Int32 := fun j => if j = 1 then (q0_21 x0 x1 x2 x3 x4 x5) else (w0_18 x0 x1 x2 x3 x4 x5) j
def q0_23 (x0 : Int32) (x1 : Int32) (x2 : Int32) (x3 : Int32) (x4 : Int32) (x5 : Int32) : Int32 := (f2_2 (w0_22 x0 x1 x2 x3 x4 x5) (q0_15 x0 x1 x2 x3 x4 x5))
def q0_24 (x0 : Int32) (x1 : Int32) (x2 : Int32) (x3 : Int32) (x4 : Int32) (x5 : Int32) : Int64 := (f3 (q0_15 x0 x1 x2 x3 x4 x5).toInt64 (2 : Int32))
def q0_25 (x0 : Int32) (x1 : Int32) (x2 : Int32) (x3 : Int32) (x4 : Int32) (x5 : Int32) : Int32 := (f7_2 (o2_2_0 (w0_22 x0 x1 x2 x3 x4 x5) (q0_15 x0 x1 x2 x3 x4 x5)) (w0_22 x0 x1 x2 x3 x4 x5))
def q0_26 (x0 : Int32) (x1 : Int32) (x2 : Int32) (x3 : Int32) (x4 : Int32) (x5 : Int32) : Int64 := (f5_2 (w0_22 x0 x1 x2 x3 x4 x5) (q0_15 x0 x1 x2 x3 x4 x5))
def q0_27 (x0 : Int32) (x1 : Int32) (x2 : Int32) (x3 : Int32) (x4 : Int32) (x5 : Int32) : Int32 := (f4_2 (o2_2_0 (w0_22 x0 x1 x2 x3 x4 x5) (q0_15 x0 x1 x2 x3 x4 x5)) (q0_15 x0 x1 x2 x3 x4 x5))
def q0_28 (x0 : Int32) (x1 : Int32) (x2 : Int32) (x3 : Int32) (x4 : Int32) (x5 : Int32) : Int64 := (f5_2 (o2_2_0 (w0_22 x0 x1 x2 x3 x4 x5) (q0_15 x0 x1 x2 x3 x4 x5)) (q0_15 x0 x1 x2 x3 x4 x5))
def q0_29 (x0 : Int32) (x1 : Int32) (x2 : Int32) (x3 : Int32) (x4 : Int32) (x5 : Int32) : Int32 := (f6_2_0 (o2_2_0 (w0_22 x0 x1 x2 x3 x4 x5) (q0_15 x0 x1 x2 x3 x4 x5)) (w0_22 x0 x1 x2 x3 x4 x5) (q0_23 x0 x1 x2 x3 x4 x5))
def q0_30 (x0 : Int32) (x1 : Int32) (x2 : Int32) (x3 : Int32) (x4 : Int32) (x5 : Int32) : Int32 := (f6_2_1 (o2_2_0 (w0_22 x0 x1 x2 x3 x4 x5) (q0_15 x0 x1 x2 x3 x4 x5)) (w0_22 x0 x1 x2 x3 x4 x5) (q0_23 x0 x1 x2 x3 x4 x5))
def q0_31 (x0 : Int32) (x1 : Int32) (x2 : Int32) (x3 : Int32) (x4 : Int32) (x5 : Int32) : Int32 := (f6_2_2 (o2_2_0 (w0_22 x0 x1 x2 x3 x4 x5) (q0_15 x0 x1 x2 x3 x4 x5)) (w0_22 x0 x1 x2 x3 x4 x5) (q0_23 x0 x1 x2 x3 x4 x5))
def q0_32 (x0 : Int32) (x1 : Int32) (x2 : Int32) (x3 : Int32) (x4 : Int32) (x5 : Int32) : Int32 := (f6_2_3 (o2_2_0 (w0_22 x0 x1 x2 x3 x4 x5) (q0_15 x0 x1 x2 x3 x4 x5)) (w0_22 x0 x1 x2 x3 x4 x5) (q0_23 x0 x1 x2 x3 x4 x5))
def q0_33 (x0 : Int32) (x1 : Int32) (x2 : Int32) (x3 : Int32) (x4 : Int32) (x5 : Int32) : Int32 := ((3 : Int32) + (x1 &&& (15 : Int32)))
def q0_34 (x0 : Int32) (x1 : Int32) (x2 : Int32) (x3 : Int32) (x4 : Int32) (x5 : Int32) : Int32 := (f1 (0 : Int32) ((q0_33 x0 x1 x2 x3 x4 x5) - (3 : Int32)) x2)
def q0_35 (x0 : Int32) (x1 : Int32) (x2 : Int32) (x3 : Int32) (x4 : Int32) (x5 : Int32) : Int32 := (q0_34 x0 x1 x2 x3 x4 x5)
def w0_36 (x0 : Int32) (x1 : Int32) (x2 : Int32) (x3 : Int32) (x4 : Int32) (x5 : Int32) : Nat → Int32 := fun j => if j = 0 then (q0_35 x0 x1 x2 x3 x4 x5) else (fun _ => 0) j
def q0_37 (x0 : Int32) (x1 : Int32) (x2 : Int32) (x3 : Int32) (x4 : Int32) (x5 : Int32) : Int32 := (((q0_33 x0 x1 x2 x3 x4 x5) - (3 : Int32)) + (1 : Int32))
def q0_38 (x0 : Int32) (x1 : Int32) (x2 : Int32) (x3 : Int32) (x4 : Int32) (x5 : Int32) : Int32 := (f1 ((q0_35 x0 x1 x2 x3 x4 x5) + (1 : Int32)) (q0_37 x0 x1 x2 x3 x4 x5) x3)
def q0_39 (x0 : Int32) (x1 : Int32) (x2 : Int32) (x3 : Int32) (x4 : Int32) (x5 : Int32) : Int32 := (q0_38 x0 x1 x2 x3 x4 x5)
def w0_40 (x0 : Int32) (x1 : Int32) (x2 : Int32) (x3 : Int32) (x4 : Int32) (x5 : Int32) : Nat → Int32 := fun j => if j = 1 then (q0_39 x0 x1 x2 x3 x4 x5) else (w0_36 x0 x1 x2 x3 x4 x5) j
def q0_41 (x0 : Int32) (x1 : Int32) (x2 : Int32) (x3 : Int32) (x4 : Int32) (x5 : Int32) : Int32 := (((q0_33 x0 x1 x2 x3 x4 x5) - (3 : Int32)) + (2 : Int32))
def q0_42 (x0 : Int32) (x1 : Int32) (x2 : Int32) (x3 : Int32) (x4 : Int32) (x5 : Int32) : Int32 := (f1 ((q0_39 x0 x1 x2 x3 x4 x5) + (1 : Int32)) (q0_41 x0 x1 x2 x3 x4 x5) x4)
def q0_43 (x0 : Int32) (x1 : Int32) (x2 : Int32) (x3 : Int32) (x4 : Int32) (x5 : Int32) : Int32 := (q0_42 x0 x1 x2 x3 x4 x5)
def w0_44 (x0 : Int32) (x1 : Int32) (x2 : Int32) (x3 : Int32) (x4 : Int32) (x5 : Int32) : Nat → Int32 := fun j => if j = 2 then (q0_43 x0 x1 x2 x3 x4 x5) else (w0_40 x0 x1 x2 x3 x4 x5) j
def q0_45 (x0 : Int32) (x1 : Int32) (x2 : Int32) (x3 : Int32) (x4 : Int32) (x5 : Int32) : Int32 := (f2_3 (w0_44 x0 x1 x2 x3 x4 x5) (q0_33 x0 x1 x2 x3 x4 x5))
def q0_46 (x0 : Int32) (x1 : Int32) (x2 : Int32) (x3 : Int32) (x4 : Int32) (x5 : Int32) : Int64 := (f3 (q0_33 x0 x1 x2 x3 x4 x5).toInt64 (3 : Int32))
def q0_47 (x0 : Int32) (x1 : Int32) (x2 : Int32) (x3 : Int32) (x4 : Int32) (x5 : Int32) : Int32 := (f7_3 (o2_3_0 (w0_44 x0 x1 x2 x3 x4 x5) (q0_33 x0 x1 x2 x3 x4 x5)) (w0_44 x0 x1 x2 x3 x4 x5))
def q0_48 (x0 : Int32) (x1 : Int32) (x2 : Int32) (x3 : Int32) (x4 : Int32) (x5 : Int32) : Int64 := (f5_3 (w0_44 x0 x1 x2 x3 x4 x5) (q0_33 x0 x1 x2 x3 x4 x5))
def q0_49 (x0 : Int32) (x1 : Int32) (x2 : Int32) (x3 : Int32) (x4 : Int32) (x5 : Int32) : Int32 := (f4_3 (o2_3_0 (w0_44 x0 x1 x2 x3 x4 x5) (q0_33 x0 x1 x2 x3 x4 x5)) (q0_33 x0 x1 x2 x3 x4 x5))
def q0_50 (x0 : Int32) (x1 : Int32) (x2 : Int32) (x3 : Int32) (x4 : Int32) (x5 : Int32) : Int64 := (f5_3 (o2_3_0 (w0_44 x0 x1 x2 x3 x4 x5) (q0_33 x0 x1 x2 x3 x4 x5)) (q0_33 x0 x1 x2 x3 x4 x5))
def q0_51 (x0 : Int32) (x1 : Int32) (x2 : Int32) (x3 : Int32) (x4 : Int32) (x5 : Int32) : Int32 := (f6_3_0 (o2_3_0 (w0_44 x0 x1 x2 x3 x4 x5) (q0_33 x0 x1 x2 x3 x4 x5)) (w0_44 x0 x1 x2 x3 x4 x5) (q0_45 x0 x1 x2 x3 x4 x5))
def q0_52 (x0 : Int32) (x1 : Int32) (x2 : Int32) (x3 : Int32) (x4 : Int32) (x5 : Int32) : Int32 := (f6_3_1 (o2_3_0 (w0_44 x0 x1 x2 x3 x4 x5) (q0_33 x0 x1 x2 x3 x4 x5)) (w0_44 x0 x1 x2 x3 x4 x5) (q0_45 x0 x1 x2 x3 x4 x5))
def q0_53 (x0 : Int32) (x1 : Int32) (x2 : Int32) (x3 : Int32) (x4 : Int32) (x5 : Int32) : Int32 := (f6_3_2 (o2_3_0 (w0_44 x0 x1 x2 x3 x4 x5) (q0_33 x0 x1 x2 x3 x4 x5)) (w0_44 x0 x1 x2 x3 x4 x5) (q0_45 x0 x1 x2 x3 x4 x5))
def q0_54 (x0 : Int32) (x1 : Int32) (x2 : Int32) (x3 : Int32) (x4 : Int32) (x5 : Int32) : Int32 := (f6_3_3 (o2_3_0 (w0_44 x0 x1 x2 x3 x4 x5) (q0_33 x0 x1 x2 x3 x4 x5)) (w0_44 x0 x1 x2 x3 x4 x5) (q0_45 x0 x1 x2 x3 x4 x5))
def q0_55 (x0 : Int32) (x1 : Int32) (x2 : Int32) (x3 : Int32) (x4 : Int32) (x5 : Int32) : Int32 := ((4 : Int32) + (x1 &&& (15 : Int32)))
def q0_56 (x0 : Int32) (x1 : Int32) (x2 : Int32) (x3 : Int32) (x4 : Int32) (x5 : Int32) : Int32 := (f1 (0 : Int32) ((q0_55 x0 x1 x2 x3 x4 x5) - (4 : Int32)) x2)
def q0_57 (x0 : Int32) (x1 : Int32) (x2 : Int32) (x3 : Int32) (x4 : Int32) (x5 : Int32) : Int32 := (q0_56 x0 x1 x2 x3 x4 x5)
def w0_58 (x0 : Int32) (x1 : Int32) (x2 : Int32) (x3 : Int32) (x4 : Int32) (x5 : Int32) : Nat → Int32 := fun j => if j = 0 then (q0_57 x0 x1 x2 x3 x4 x5) else (fun _ => 0) j
def q0_59 (x0 : Int32) (x1 : Int32) (x2 : Int32) (x3 : Int32) (x4 : Int32) (x5 : Int32) : Int32 := (((q0_55 x0 x1 x2 x3 x4 x5) - (4 : Int32)) + (1 : Int32))
def q0_60 (x0 : Int32) (x1 : Int32) (x2 : Int32) (x3 : Int32) (x4 : Int32) (x5 : Int32) : Int32 := (f1 ((q0_57 x0 x1 x2 x3 x4 x5) + (1 : Int32)) (q0_59 x0 x1 x2 x3 x4 x5) x3)
def q0_61 (x0 : Int32) (x1 : Int32) (x2 : Int32) (x3 : Int32) (x4 : Int32) (x5 : Int32) : Int32 := (q0_60 x0 x1 x2 x3 x4 x5)
def w0_62 (x0 : Int32) (x1 : Int32) (x2 : Int32) (x3 : Int32) (x4 : Int32) (x5 : Int32) : Nat → Int32 := fun j => if j = 1 then (q0_61 x0 x1 x2 x3 x4 x5) else (w0_58 x0 x1 x2 x3 x4 x5) j
def q0_63 (x0 : Int32) (x1 : Int32) (x2 : Int32) (x3 : Int32) (x4 : Int32) (x5 : Int32) : Int32 := (((q0_55 x0 x1 x2 x3 x4 x5) - (4 : Int32)) + (2 : Int32))
def q0_64 (x0 : Int32) (x1 : Int32) (x2 : Int32) (x3 : Int32) (x4 : Int32) (x5 : Int32) : Int32 := (f1 ((q0_61 x0 x1 x2 x3 x4 x5) + (1 : Int32)) (q0_63 x0 x1 x2 x3 x4 x5) x4)
def q0_65 (x0 : Int32) (x1 : Int32) (x2 : Int32) (x3 : Int32) (x4 : Int32) (x5 : Int32) : Int32 := (q0_64 x0 x1 x2 x3 x4 x5)
def w0_66 (x0 : Int32) (x1 : Int32) (x2 : Int32) (x3 : Int32) (x4 : Int32) (x5 : Int32) : Nat → Int32 := fun j => if j = 2 then (q0_65 x0 x1 x2 x3 x4 x5) else (w0_62 x0 x1 x2 x3 x4 x5) j
def q0_67 (x0 : Int32) (x1 : Int32) (x2 : Int32) (x3 : Int32) (x4 : Int32) (x5 : Int32) : Int32 := (((q0_55 x0 x1 x2 x3 x4 x5) - (4 : Int32)) + (3 : Int32))
def q0_68 (x0 : Int32) (x1 : Int32) (x2 : Int32) (x3 : Int32) (x4 : Int32) (x5 : Int32) : Int32 := (f1 ((q0_65 x0 x1 x2 x3 x4 x5) + (1 : Int32)) (q0_67 x0 x1 x2 x3 x4 x5) x5)
def q0_69 (x0 : Int32) (x1 : Int32) (x2 : Int32) (x3 : Int32) (x4 : Int32) (x5 : Int32) : Int32 := (q0_68 x0 x1 x2 x3 x4 x5)
def w0_70 (x0 : Int32) (x1 : Int32) (x2 : Int32) (x3 : Int32) (x4 : Int32) (x5 : Int32) : Nat → Int32 := fun j => if j = 3 then (q0_69 x0 x1 x2 x3 x4 x5) else (w0_66 x0 x1 x2 x3 x4 x5) j
def q0_71 (x0 : Int32) (x1 : Int32) (x2 : Int32) (x3 : Int32) (x4 : Int32) (x5 : Int32) : Int32 := (f2_4 (w0_70 x0 x1 x2 x3 x4 x5) (q0_55 x0 x1 x2 x3 x4 x5))
def q0_72 (x0 : Int32) (x1 : Int32) (x2 : Int32) (x3 : Int32) (x4 : Int32) (x5 : Int32) : Int64 := (f3 (q0_55 x0 x1 x2 x3 x4 x5).toInt64 (4 : Int32))
def q0_73 (x0 : Int32) (x1 : Int32) (x2 : Int32) (x3 : Int32) (x4 : Int32) (x5 : Int32) : Int32 := (f7_4 (o2_4_0 (w0_70 x0 x1 x2 x3 x4 x5) (q0_55 x0 x1 x2 x3 x4 x5)) (w0_70 x0 x1 x2 x3 x4 x5))
def q0_74 (x0 : Int32) (x1 : Int32) (x2 : Int32) (x3 : Int32) (x4 : Int32) (x5 : Int32) : Int64 := (f5_4 (w0_70 x0 x1 x2 x3 x4 x5) (q0_55 x0 x1 x2 x3 x4 x5))
def q0_75 (x0 : Int32) (x1 : Int32) (x2 : Int32) (x3 : Int32) (x4 : Int32) (x5 : Int32) : Int32 := (f4_4 (o2_4_0 (w0_70 x0 x1 x2 x3 x4 x5) (q0_55 x0 x1 x2 x3 x4 x5)) (q0_55 x0 x1 x2 x3 x4 x5))
def q0_76 (x0 : Int32) (x1 : Int32) (x2 : Int32) (x3 : Int32) (x4 : Int32) (x5 : Int32) : Int64 := (f5_4 (o2_4_0 (w0_70 x0 x1 x2 x3 x4 x5) (q0_55 x0 x1 x2 x3 x4 x5)) (q0_55 x0 x1 x2 x3 x4 x5))
def q0_77 (x0 : Int32) (x1 : Int32) (x2 : Int32) (x3 : Int32) (x4 : Int32) (x5 : Int32) : Int32 := (f6_4_0 (o2_4_0 (w0_70 x0 x1 x2 x3 x4 x5) (q0_55 x0 x1 x2 x3 x4 x5)) (w0_70 x0 x1 x2 x3 x4 x5) (q0_71 x0 x1 x2 x3 x4 x5))
def q0_78 (x0 : Int32) (x1 : Int32) (x2 : Int32) (x3 : Int32) (x4 : Int32) (x5 : Int32) : Int32 := (f6_4_1 (o2_4_0 (w0_70 x0 x1 x2 x3 x4 x5) (q0_55 x0 x1 x2 x3 x4 x5)) (w0_70 x0 x1 x2 x3 x4 x5) (q0_71 x0 x1 x2 x3 x4 x5))
def q0_79 (x0 : Int32) (x1 : Int32) (x2 : Int32) (x3 : Int32) (x4 : Int32) (x5 : Int32) : Int32 := (f6_4_2 (o2_4_0 (w0_70 x0 x1 x2 x3 x4 x5) (q0_55 x0 x1 x2 x3 x4 x5)) (w0_70 x0 x1 x2 x3 x4 x5) (q0_71 x0 x1 x2 x3 x4 x5))
def q0_80 (x0 : Int32) (x1 : Int32) (x2 : Int32) (x3 : Int32) (x4 : Int32) (x5 : Int32) : Int32 := (f6_4_3 (o2_4_0 (w0_70 x0 x1 x2 x3 x4 x5) (q0_55 x0 x1 x2 x3 x4 x5)) (w0_70 x0 x1 x2 x3 x4 x5) (q0_71 x0 x1 x2 x3 x4 x5))
def f0 (x0 : Int32) (x1 : Int32) (x2 : Int32) (x3 : Int32) (x4 : Int32) (x5 : Int32) : Int32 := (if ((1 : Int32) + (x0 &&& (3 : Int32))) = (1 : Int32) then (if (q0_5 x0 x1 x2 x3 x4 x5) = (-1 : Int32) then (if (q0_7 x0 x1 x2 x3 x4 x5) = 0 then (0 : Int32) else (if (q0_8 x0 x1 x2 x3 x4 x5) = ((q0_6 x0 x1 x2 x3 x4 x5) - (1 : Int64)) then (1 : Int32) else (0 : Int32))) else (if (q0_5 x0 x1 x2 x3 x4 x5) < 0 then (0 : Int32) else (if (q0_5 x0 x1 x2 x3 x4 x5) < (1 : Int32) then (if (q0_9 x0 x1 x2 x3 x4 x5) = 0 then (0 : Int32) else (if (q0_10 x0 x1 x2 x3 x4 x5) = ((q0_8 x0 x1 x2 x3 x4 x5) + (1 : Int64)) then (if (q0_11 x0 x1 x2 x3 x4 x5) = 0 then (0 : Int32) else (if (q0_12 x0 x1 x2 x3 x4 x5) = 0 then (0 : Int32) else (if (q0_13 x0 x1 x2 x3 x4 x5) = 0 then (0 : Int32) else (if (q0_14 x0 x1 x2 x3 x4 x5) = 0 then (0 : Int32) else (1 : Int32))))) else (0 : Int32))) else (0 : Int32)))) else (if ((1 : Int32) + (x0 &&& (3 : Int32))) = (2 : Int32) then (if (q0_23 x0 x1 x2 x3 x4 x5) = (-1 : Int32) then (if (q0_25 x0 x1 x2 x3 x4 x5) = 0 then (0 : Int32) else (if (q0_26 x0 x1 x2 x3 x4 x5) = ((q0_24 x0 x1 x2 x3 x4 x5) - (1 : Int64)) then (1 : Int32) else (0 : Int32))) else (if (q0_23 x0 x1 x2 x3 x4 x5) < 0 then (0 : Int32) else (if (q0_23 x0 x1 x2 x3 x4 x5) < (2 : Int32) then (if (q0_27 x0 x1 x2 x3 x4 x5) = 0 then (0 : Int32) else (if (q0_28 x0 x1 x2 x3 x4 x5) = ((q0_26 x0 x1 x2 x3 x4 x5) + (1 : Int64)) then (if (q0_29 x0 x1 x2 x3 x4 x5) = 0 then (0 : Int32) else (if (q0_30 x0 x1 x2 x3 x4 x5) = 0 then (0 : Int32) else (if (q0_31 x0 x1 x2 x3 x4 x5) = 0 then (0 : Int32) else (if (q0_32 x0 x1 x2 x3 x4 x5) = 0 then (0 : Int32) else (1 : Int32))))) else (0 : Int32))) else (0 : Int32)))) else (if ((1 : Int32) + (x0 &&& (3 : Int32))) = (3 : Int32) then (if (q0_45 x0 x1 x2 x3 x4 x5) = (-1 : Int32) then (if (q0_47 x0 x1 x2 x3 x4 x5) = 0 then (0 : Int32) else (if (q0_48 x0 x1 x2 x3 x4 x5) = ((q0_46 x0 x1 x2 x3 x4 x5) - (1 : Int64)) then (1 : Int32) else (0 : Int32))) else (if (q0_45 x0 x1 x2 x3 x4 x5) < 0 then (0 : Int32) else (if (q0_45 x0 x1 x2 x3 x4 x5) < (3 : Int32) then (if (q0_49 x0 x1 x2 x3 x4 x5) = 0 then (0 : Int32) else (if (q0_50 x0 x1 x2 x3 x4 x5) = ((q0_48 x0 x1 x2 x3 x4 x5) + (1 : Int64)) then (if (q0_51 x0 x1 x2 x3 x4 x5) = 0 then (0 : Int32) else (if (q0_52 x0 x1 x2 x3 x4 x5) = 0 then (0 : Int32) else (if (q0_53 x0 x1 x2 x3 x4 x5) = 0 then (0 : Int32) else (if (q0_54 x0 x1 x2 x3 x4 x5) = 0 then (0 : Int32) else (1 : Int32))))) else (0 : Int32))) else (0 : Int32)))) else (if (q0_71 x0 x1 x2 x3 x4 x5) = (-1 : Int32) then (if (q0_73 x0 x1 x2 x3 x4 x5) = 0 then (0 : Int32) else (if (q0_74 x0 x1 x2 x3 x4 x5) = ((q0_72 x0 x1 x2 x3 x4 x5) - (1 : Int64)) then (1 : Int32) else (0 : Int32))) else (if (q0_71 x0 x1 x2 x3 x4 x5) < 0 then (0 : Int32) else (if (q0_71 x0 x1 x2 x3 x4 x5) < (4 : Int32) then (if (q0_75 x0 x1 x2 x3 x4 x5) = 0 then (0 : Int32) else (if (q0_76 x0 x1 x2 x3 x4 x5) = ((q0_74 x0 x1 x2 x3 x4 x5) + (1 : Int64)) then (if (q0_77 x0 x1 x2 x3 x4 x5) = 0 then (0 : Int32) else (if (q0_78 x0 x1 x2 x3 x4 x5) = 0 then (0 : Int32) else (if (q0_79 x0 x1 x2 x3 x4 x5) = 0 then (0 : Int32) else (if (q0_80 x0 x1 x2 x3 x4 x5) = 0 then (0 : Int32) else (1 : Int32))))) else (0 : Int32))) else (0 : Int32)))))))
theorem own_t (x0 : Int32) (h1 : ¬ 1 + (x0 &&& 3) = 1) (h2 : ¬ 1 + (x0 &&& 3) = 2) (h3 : ¬ 1 + (x0 &&& 3) = 3) : 1 + (x0 &&& 3) = 4 := by
  have m := c_mask x0 3 2 (by decide) (by decide)
  have a := c_iadd 1 (x0 &&& 3)
  have r := rng32 (1 + (x0 &&& 3))
  simp only [← Int32.toInt_inj, Int32.reduceToInt] at *
  omega
theorem own_pkr {lo hi : Int32} (x : Int32) (h : PB lo hi) : lo.toInt ≤ (f1 lo hi x).toInt ∧ (f1 lo hi x).toInt ≤ hi.toInt := by
  have q := own_pv h
  have m := c_mask x 2147483647 31 (by decide) (by decide)
  have r := c_iremV (x &&& 2147483647) ((hi - lo) + 1)
  have a := c_iadd lo ((x &&& 2147483647) % ((hi - lo) + 1))
  have b := rng32 (lo + ((x &&& 2147483647) % ((hi - lo) + 1)))
  unfold PB at h
  unfold f1
  omega
theorem own_add (y c : Int32) (k : Int) (hc : c.toInt = k) (h0 : -1000 ≤ y.toInt) (h1 : y.toInt ≤ 1000) (h2 : 0 ≤ k) (h3 : k ≤ 1000) : (y + c).toInt = y.toInt + k := by
  have a := c_iadd y c
  have b := rng32 (y + c)
  omega
theorem own_sub (y c : Int32) (k : Int) (hc : c.toInt = k) (h0 : -1000 ≤ y.toInt) (h1 : y.toInt ≤ 1000) (h2 : 0 ≤ k) (h3 : k ≤ 1000) : (y - c).toInt = y.toInt - k := by
  have a := c_isub y c
  have b := rng32 (y - c)
  omega
theorem own_b15 (x1 : Int32) : 0 ≤ (x1 &&& 15).toInt ∧ (x1 &&& 15).toInt ≤ 15 := by
  have m := c_mask x1 15 4 (by decide) (by decide)
  omega
theorem own_n1 (x0 x1 x2 x3 x4 x5 : Int32) : (q0_1 x0 x1 x2 x3 x4 x5).toInt = 1 + (x1 &&& 15).toInt := by
  have b := own_b15 x1
  have a := c_iadd 1 (x1 &&& 15)
  have r := rng32 (1 + (x1 &&& 15))
  rw [show (1 : Int32).toInt = 1 by decide] at a
  show (1 + (x1 &&& 15)).toInt = _
  omega
theorem own_d1 (x0 x1 x2 x3 x4 x5 : Int32) : ((q0_1 x0 x1 x2 x3 x4 x5) - 1).toInt = (x1 &&& 15).toInt := by
  have b := own_b15 x1
  have e := own_n1 x0 x1 x2 x3 x4 x5
  rw [own_sub (q0_1 x0 x1 x2 x3 x4 x5) 1 1 (by decide) (by omega) (by omega) (by omega) (by omega)]
  omega
theorem own_p1_0 (x0 x1 x2 x3 x4 x5 : Int32) : PB 0 ((q0_1 x0 x1 x2 x3 x4 x5) - 1) := by
  have b := own_b15 x1
  have e := own_d1 x0 x1 x2 x3 x4 x5
  unfold PB
  rw [e]
  exact ⟨by decide, b.1, by omega⟩
theorem own_v1_0 (x0 x1 x2 x3 x4 x5 : Int32) : 0 ≤ (q0_3 x0 x1 x2 x3 x4 x5).toInt ∧ (q0_3 x0 x1 x2 x3 x4 x5).toInt ≤ (x1 &&& 15).toInt := by
  have q := own_pkr x2 (own_p1_0 x0 x1 x2 x3 x4 x5)
  rw [own_d1] at q
  exact q
theorem own_n2 (x0 x1 x2 x3 x4 x5 : Int32) : (q0_15 x0 x1 x2 x3 x4 x5).toInt = 2 + (x1 &&& 15).toInt := by
  have b := own_b15 x1
  have a := c_iadd 2 (x1 &&& 15)
  have r := rng32 (2 + (x1 &&& 15))
  rw [show (2 : Int32).toInt = 2 by decide] at a
  show (2 + (x1 &&& 15)).toInt = _
  omega
theorem own_d2 (x0 x1 x2 x3 x4 x5 : Int32) : ((q0_15 x0 x1 x2 x3 x4 x5) - 2).toInt = (x1 &&& 15).toInt := by
  have b := own_b15 x1
  have e := own_n2 x0 x1 x2 x3 x4 x5
  rw [own_sub (q0_15 x0 x1 x2 x3 x4 x5) 2 2 (by decide) (by omega) (by omega) (by omega) (by omega)]
  omega
theorem own_p2_0 (x0 x1 x2 x3 x4 x5 : Int32) : PB 0 ((q0_15 x0 x1 x2 x3 x4 x5) - 2) := by
  have b := own_b15 x1
  have e := own_d2 x0 x1 x2 x3 x4 x5
  unfold PB
  rw [e]
  exact ⟨by decide, b.1, by omega⟩
theorem own_v2_0 (x0 x1 x2 x3 x4 x5 : Int32) : 0 ≤ (q0_17 x0 x1 x2 x3 x4 x5).toInt ∧ (q0_17 x0 x1 x2 x3 x4 x5).toInt ≤ (x1 &&& 15).toInt := by
  have q := own_pkr x2 (own_p2_0 x0 x1 x2 x3 x4 x5)
  rw [own_d2] at q
  exact q
theorem own_h2_1 (x0 x1 x2 x3 x4 x5 : Int32) : (q0_19 x0 x1 x2 x3 x4 x5).toInt = (x1 &&& 15).toInt + 1 := by
  have b := own_b15 x1
  have e := own_d2 x0 x1 x2 x3 x4 x5
  show (((q0_15 x0 x1 x2 x3 x4 x5) - 2) + 1).toInt = _
  rw [own_add _ 1 1 (by decide) (by omega) (by omega) (by omega) (by omega), e]
theorem own_p2_1 (x0 x1 x2 x3 x4 x5 : Int32) : PB ((q0_17 x0 x1 x2 x3 x4 x5) + 1) (q0_19 x0 x1 x2 x3 x4 x5) := by
  have b := own_b15 x1
  have v := own_v2_0 x0 x1 x2 x3 x4 x5
  have h := own_h2_1 x0 x1 x2 x3 x4 x5
  unfold PB
  rw [h, own_add _ 1 1 (by decide) (by omega) (by omega) (by omega) (by omega)]
  omega
theorem own_v2_1 (x0 x1 x2 x3 x4 x5 : Int32) : (q0_17 x0 x1 x2 x3 x4 x5).toInt < (q0_21 x0 x1 x2 x3 x4 x5).toInt ∧ (q0_21 x0 x1 x2 x3 x4 x5).toInt ≤ (x1 &&& 15).toInt + 1 ∧ 0 ≤ (q0_21 x0 x1 x2 x3 x4 x5).toInt := by
  have b := own_b15 x1
  have v := own_v2_0 x0 x1 x2 x3 x4 x5
  have q := own_pkr x3 (own_p2_1 x0 x1 x2 x3 x4 x5)
  rw [own_h2_1, own_add _ 1 1 (by decide) (by omega) (by omega) (by omega) (by omega)] at q
  have e : (q0_21 x0 x1 x2 x3 x4 x5).toInt = (f1 ((q0_17 x0 x1 x2 x3 x4 x5) + 1) (q0_19 x0 x1 x2 x3 x4 x5) x3).toInt := rfl
  omega
theorem own_n3 (x0 x1 x2 x3 x4 x5 : Int32) : (q0_33 x0 x1 x2 x3 x4 x5).toInt = 3 + (x1 &&& 15).toInt := by
  have b := own_b15 x1
  have a := c_iadd 3 (x1 &&& 15)
  have r := rng32 (3 + (x1 &&& 15))
  rw [show (3 : Int32).toInt = 3 by decide] at a
  show (3 + (x1 &&& 15)).toInt = _
  omega
theorem own_d3 (x0 x1 x2 x3 x4 x5 : Int32) : ((q0_33 x0 x1 x2 x3 x4 x5) - 3).toInt = (x1 &&& 15).toInt := by
  have b := own_b15 x1
  have e := own_n3 x0 x1 x2 x3 x4 x5
  rw [own_sub (q0_33 x0 x1 x2 x3 x4 x5) 3 3 (by decide) (by omega) (by omega) (by omega) (by omega)]
  omega
theorem own_p3_0 (x0 x1 x2 x3 x4 x5 : Int32) : PB 0 ((q0_33 x0 x1 x2 x3 x4 x5) - 3) := by
  have b := own_b15 x1
  have e := own_d3 x0 x1 x2 x3 x4 x5
  unfold PB
  rw [e]
  exact ⟨by decide, b.1, by omega⟩
theorem own_v3_0 (x0 x1 x2 x3 x4 x5 : Int32) : 0 ≤ (q0_35 x0 x1 x2 x3 x4 x5).toInt ∧ (q0_35 x0 x1 x2 x3 x4 x5).toInt ≤ (x1 &&& 15).toInt := by
  have q := own_pkr x2 (own_p3_0 x0 x1 x2 x3 x4 x5)
  rw [own_d3] at q
  exact q
theorem own_h3_1 (x0 x1 x2 x3 x4 x5 : Int32) : (q0_37 x0 x1 x2 x3 x4 x5).toInt = (x1 &&& 15).toInt + 1 := by
  have b := own_b15 x1
  have e := own_d3 x0 x1 x2 x3 x4 x5
  show (((q0_33 x0 x1 x2 x3 x4 x5) - 3) + 1).toInt = _
  rw [own_add _ 1 1 (by decide) (by omega) (by omega) (by omega) (by omega), e]
theorem own_p3_1 (x0 x1 x2 x3 x4 x5 : Int32) : PB ((q0_35 x0 x1 x2 x3 x4 x5) + 1) (q0_37 x0 x1 x2 x3 x4 x5) := by
  have b := own_b15 x1
  have v := own_v3_0 x0 x1 x2 x3 x4 x5
  have h := own_h3_1 x0 x1 x2 x3 x4 x5
  unfold PB
  rw [h, own_add _ 1 1 (by decide) (by omega) (by omega) (by omega) (by omega)]
  omega
theorem own_v3_1 (x0 x1 x2 x3 x4 x5 : Int32) : (q0_35 x0 x1 x2 x3 x4 x5).toInt < (q0_39 x0 x1 x2 x3 x4 x5).toInt ∧ (q0_39 x0 x1 x2 x3 x4 x5).toInt ≤ (x1 &&& 15).toInt + 1 ∧ 0 ≤ (q0_39 x0 x1 x2 x3 x4 x5).toInt := by
  have b := own_b15 x1
  have v := own_v3_0 x0 x1 x2 x3 x4 x5
  have q := own_pkr x3 (own_p3_1 x0 x1 x2 x3 x4 x5)
  rw [own_h3_1, own_add _ 1 1 (by decide) (by omega) (by omega) (by omega) (by omega)] at q
  have e : (q0_39 x0 x1 x2 x3 x4 x5).toInt = (f1 ((q0_35 x0 x1 x2 x3 x4 x5) + 1) (q0_37 x0 x1 x2 x3 x4 x5) x3).toInt := rfl
  omega
theorem own_h3_2 (x0 x1 x2 x3 x4 x5 : Int32) : (q0_41 x0 x1 x2 x3 x4 x5).toInt = (x1 &&& 15).toInt + 2 := by
  have b := own_b15 x1
  have e := own_d3 x0 x1 x2 x3 x4 x5
  show (((q0_33 x0 x1 x2 x3 x4 x5) - 3) + 2).toInt = _
  rw [own_add _ 2 2 (by decide) (by omega) (by omega) (by omega) (by omega), e]
theorem own_p3_2 (x0 x1 x2 x3 x4 x5 : Int32) : PB ((q0_39 x0 x1 x2 x3 x4 x5) + 1) (q0_41 x0 x1 x2 x3 x4 x5) := by
  have b := own_b15 x1
  have v := own_v3_1 x0 x1 x2 x3 x4 x5
  have h := own_h3_2 x0 x1 x2 x3 x4 x5
  unfold PB
  rw [h, own_add _ 1 1 (by decide) (by omega) (by omega) (by omega) (by omega)]
  omega
theorem own_v3_2 (x0 x1 x2 x3 x4 x5 : Int32) : (q0_39 x0 x1 x2 x3 x4 x5).toInt < (q0_43 x0 x1 x2 x3 x4 x5).toInt ∧ (q0_43 x0 x1 x2 x3 x4 x5).toInt ≤ (x1 &&& 15).toInt + 2 ∧ 0 ≤ (q0_43 x0 x1 x2 x3 x4 x5).toInt := by
  have b := own_b15 x1
  have v := own_v3_1 x0 x1 x2 x3 x4 x5
  have q := own_pkr x4 (own_p3_2 x0 x1 x2 x3 x4 x5)
  rw [own_h3_2, own_add _ 1 1 (by decide) (by omega) (by omega) (by omega) (by omega)] at q
  have e : (q0_43 x0 x1 x2 x3 x4 x5).toInt = (f1 ((q0_39 x0 x1 x2 x3 x4 x5) + 1) (q0_41 x0 x1 x2 x3 x4 x5) x4).toInt := rfl
  omega
theorem own_n4 (x0 x1 x2 x3 x4 x5 : Int32) : (q0_55 x0 x1 x2 x3 x4 x5).toInt = 4 + (x1 &&& 15).toInt := by
  have b := own_b15 x1
  have a := c_iadd 4 (x1 &&& 15)
  have r := rng32 (4 + (x1 &&& 15))
  rw [show (4 : Int32).toInt = 4 by decide] at a
  show (4 + (x1 &&& 15)).toInt = _
  omega
theorem own_d4 (x0 x1 x2 x3 x4 x5 : Int32) : ((q0_55 x0 x1 x2 x3 x4 x5) - 4).toInt = (x1 &&& 15).toInt := by
  have b := own_b15 x1
  have e := own_n4 x0 x1 x2 x3 x4 x5
  rw [own_sub (q0_55 x0 x1 x2 x3 x4 x5) 4 4 (by decide) (by omega) (by omega) (by omega) (by omega)]
  omega
theorem own_p4_0 (x0 x1 x2 x3 x4 x5 : Int32) : PB 0 ((q0_55 x0 x1 x2 x3 x4 x5) - 4) := by
  have b := own_b15 x1
  have e := own_d4 x0 x1 x2 x3 x4 x5
  unfold PB
  rw [e]
  exact ⟨by decide, b.1, by omega⟩
theorem own_v4_0 (x0 x1 x2 x3 x4 x5 : Int32) : 0 ≤ (q0_57 x0 x1 x2 x3 x4 x5).toInt ∧ (q0_57 x0 x1 x2 x3 x4 x5).toInt ≤ (x1 &&& 15).toInt := by
  have q := own_pkr x2 (own_p4_0 x0 x1 x2 x3 x4 x5)
  rw [own_d4] at q
  exact q
theorem own_h4_1 (x0 x1 x2 x3 x4 x5 : Int32) : (q0_59 x0 x1 x2 x3 x4 x5).toInt = (x1 &&& 15).toInt + 1 := by
  have b := own_b15 x1
  have e := own_d4 x0 x1 x2 x3 x4 x5
  show (((q0_55 x0 x1 x2 x3 x4 x5) - 4) + 1).toInt = _
  rw [own_add _ 1 1 (by decide) (by omega) (by omega) (by omega) (by omega), e]
theorem own_p4_1 (x0 x1 x2 x3 x4 x5 : Int32) : PB ((q0_57 x0 x1 x2 x3 x4 x5) + 1) (q0_59 x0 x1 x2 x3 x4 x5) := by
  have b := own_b15 x1
  have v := own_v4_0 x0 x1 x2 x3 x4 x5
  have h := own_h4_1 x0 x1 x2 x3 x4 x5
  unfold PB
  rw [h, own_add _ 1 1 (by decide) (by omega) (by omega) (by omega) (by omega)]
  omega
theorem own_v4_1 (x0 x1 x2 x3 x4 x5 : Int32) : (q0_57 x0 x1 x2 x3 x4 x5).toInt < (q0_61 x0 x1 x2 x3 x4 x5).toInt ∧ (q0_61 x0 x1 x2 x3 x4 x5).toInt ≤ (x1 &&& 15).toInt + 1 ∧ 0 ≤ (q0_61 x0 x1 x2 x3 x4 x5).toInt := by
  have b := own_b15 x1
  have v := own_v4_0 x0 x1 x2 x3 x4 x5
  have q := own_pkr x3 (own_p4_1 x0 x1 x2 x3 x4 x5)
  rw [own_h4_1, own_add _ 1 1 (by decide) (by omega) (by omega) (by omega) (by omega)] at q
  have e : (q0_61 x0 x1 x2 x3 x4 x5).toInt = (f1 ((q0_57 x0 x1 x2 x3 x4 x5) + 1) (q0_59 x0 x1 x2 x3 x4 x5) x3).toInt := rfl
  omega
theorem own_h4_2 (x0 x1 x2 x3 x4 x5 : Int32) : (q0_63 x0 x1 x2 x3 x4 x5).toInt = (x1 &&& 15).toInt + 2 := by
  have b := own_b15 x1
  have e := own_d4 x0 x1 x2 x3 x4 x5
  show (((q0_55 x0 x1 x2 x3 x4 x5) - 4) + 2).toInt = _
  rw [own_add _ 2 2 (by decide) (by omega) (by omega) (by omega) (by omega), e]
theorem own_p4_2 (x0 x1 x2 x3 x4 x5 : Int32) : PB ((q0_61 x0 x1 x2 x3 x4 x5) + 1) (q0_63 x0 x1 x2 x3 x4 x5) := by
  have b := own_b15 x1
  have v := own_v4_1 x0 x1 x2 x3 x4 x5
  have h := own_h4_2 x0 x1 x2 x3 x4 x5
  unfold PB
  rw [h, own_add _ 1 1 (by decide) (by omega) (by omega) (by omega) (by omega)]
  omega
theorem own_v4_2 (x0 x1 x2 x3 x4 x5 : Int32) : (q0_61 x0 x1 x2 x3 x4 x5).toInt < (q0_65 x0 x1 x2 x3 x4 x5).toInt ∧ (q0_65 x0 x1 x2 x3 x4 x5).toInt ≤ (x1 &&& 15).toInt + 2 ∧ 0 ≤ (q0_65 x0 x1 x2 x3 x4 x5).toInt := by
  have b := own_b15 x1
  have v := own_v4_1 x0 x1 x2 x3 x4 x5
  have q := own_pkr x4 (own_p4_2 x0 x1 x2 x3 x4 x5)
  rw [own_h4_2, own_add _ 1 1 (by decide) (by omega) (by omega) (by omega) (by omega)] at q
  have e : (q0_65 x0 x1 x2 x3 x4 x5).toInt = (f1 ((q0_61 x0 x1 x2 x3 x4 x5) + 1) (q0_63 x0 x1 x2 x3 x4 x5) x4).toInt := rfl
  omega
theorem own_h4_3 (x0 x1 x2 x3 x4 x5 : Int32) : (q0_67 x0 x1 x2 x3 x4 x5).toInt = (x1 &&& 15).toInt + 3 := by
  have b := own_b15 x1
  have e := own_d4 x0 x1 x2 x3 x4 x5
  show (((q0_55 x0 x1 x2 x3 x4 x5) - 4) + 3).toInt = _
  rw [own_add _ 3 3 (by decide) (by omega) (by omega) (by omega) (by omega), e]
theorem own_p4_3 (x0 x1 x2 x3 x4 x5 : Int32) : PB ((q0_65 x0 x1 x2 x3 x4 x5) + 1) (q0_67 x0 x1 x2 x3 x4 x5) := by
  have b := own_b15 x1
  have v := own_v4_2 x0 x1 x2 x3 x4 x5
  have h := own_h4_3 x0 x1 x2 x3 x4 x5
  unfold PB
  rw [h, own_add _ 1 1 (by decide) (by omega) (by omega) (by omega) (by omega)]
  omega
theorem own_v4_3 (x0 x1 x2 x3 x4 x5 : Int32) : (q0_65 x0 x1 x2 x3 x4 x5).toInt < (q0_69 x0 x1 x2 x3 x4 x5).toInt ∧ (q0_69 x0 x1 x2 x3 x4 x5).toInt ≤ (x1 &&& 15).toInt + 3 ∧ 0 ≤ (q0_69 x0 x1 x2 x3 x4 x5).toInt := by
  have b := own_b15 x1
  have v := own_v4_2 x0 x1 x2 x3 x4 x5
  have q := own_pkr x5 (own_p4_3 x0 x1 x2 x3 x4 x5)
  rw [own_h4_3, own_add _ 1 1 (by decide) (by omega) (by omega) (by omega) (by omega)] at q
  have e : (q0_69 x0 x1 x2 x3 x4 x5).toInt = (f1 ((q0_65 x0 x1 x2 x3 x4 x5) + 1) (q0_67 x0 x1 x2 x3 x4 x5) x5).toInt := rfl
  omega
set_option maxRecDepth 65536 in
set_option maxHeartbeats 40000000 in
theorem rm0 (l : Launch) (Z : State) (a0 : Array Value) (hw : ∀ d ∈ tables_1, d.before a0 Z = true) (ws : List Jvm.Cond) (x0 : Int32) (x1 : Int32) (x2 : Int32) (x3 : Int32) (x4 : Int32) (x5 : Int32) (h0 : Heap) (n0 : Nat) (hz : n0 ≤ h0.size) :
    MetFree l x (head1 (Jvm.Cond.code x code maxLocals ret :: ws) room_1) (fun a U => a = #[(.int x0), (.int x1), (.int x2), (.int x3), (.int x4), (.int x5)] ∧ Z.Warmed39 U.vm ∧ U.heap = h0) (fun _ _ _ _ _ => True) (fun _ U o U' => ∃ v L, o = .returned v ∧ Lw n0 (some (.int (f0 x0 x1 x2 x3 x4 x5))) v U'.heap L ∧ FrameEnd U o U' L room_1.cells room_1.slots) := by
  refine enter (y := x) (bs := code) (ml := maxLocals) (ret := ret) (Q := Lw n0 (some (.int (f0 x0 x1 x2 x3 x4 x5)))) pl0 #[.val (.int x0), .val (.int x1), .val (.int x2), .val (.int x3), .val (.int x4), .val (.int x5), .unset, .unset, .unset, .unset, .unset, .unset, .unset] rfl ?_
  intro p e s m below meth c T B hret hlk hnm
  have N0 := Fr.nil n0
  refine o_iconst B 0 1 (1 : Int32) at_0 rfl (by decide) ?_
  refine o_iloadN B 1 2 (v := x0) at_1 rfl rfl ?_
  refine o_iconst B 2 3 (3 : Int32) at_2 rfl (by decide) ?_
  refine o_iand B 3 4 at_3 rfl ?_
  refine o_iadd B 4 5 at_4 rfl ?_
  refine o_istore B 5 7 (l' := #[.val (.int x0), .val (.int x1), .val (.int x2), .val (.int x3), .val (.int x4), .val (.int x5), .val (.int ((1 : Int32) + (x0 &&& (3 : Int32)))), .unset, .unset, .unset, .unset, .unset, .unset]) at_5 rfl rfl ?_
  by_cases k1 : ((1 : Int32) + (x0 &&& (3 : Int32))) = (1 : Int32)
  · rw [k1]
    refine o_iload B 7 9 (v := (1 : Int32)) at_7 rfl rfl ?_
    refine o_iloadN B 9 10 (v := x1) at_9 rfl rfl ?_
    refine o_bipush B 10 12 (15 : Int32) at_10 rfl (by decide) ?_
    refine o_iand B 12 13 at_12 rfl ?_
    refine o_iadd B 13 14 at_13 rfl ?_
    refine o_istore B 14 16 (l' := #[.val (.int x0), .val (.int x1), .val (.int x2), .val (.int x3), .val (.int x4), .val (.int x5), .val (.int (1 : Int32)), .val (.int (q0_1 x0 x1 x2 x3 x4 x5)), .unset, .unset, .unset, .unset, .unset]) at_14 rfl rfl ?_
    refine o_iload B 16 18 (v := (1 : Int32)) at_16 rfl rfl ?_
    obtain ⟨a1, T1, h1, z1, B1, E1, A1, c1⟩ := o_newI B 18 20 (ty := .int) (z := (1 : Int32)) 1 1 (hw _ (List.mem_of_getElem? (i := 0) rfl)) at_18 rfl rfl rfl (by decide) (by decide) (by decide) (by decide) (by decide) (by decide) (Ls := #[.val (.int x0), .val (.int x1), .val (.int x2), .val (.int x3), .val (.int x4), .val (.int x5), .val (.int (1 : Int32)), .val (.int (q0_1 x0 x1 x2 x3 x4 x5)), .unset, .unset, .unset, .unset, .unset]) (rest := [])
    have g1 : n0 ≤ a1 := by rw [z1]; exact hz
    have s1 : n0 ≤ h1.size := Nat.le_trans hz E1.1
    refine c1 ?_
    refine o_astore B1 20 22 (l' := #[.val (.int x0), .val (.int x1), .val (.int x2), .val (.int x3), .val (.int x4), .val (.int x5), .val (.int (1 : Int32)), .val (.int (q0_1 x0 x1 x2 x3 x4 x5)), .val (.ref a1), .unset, .unset, .unset, .unset]) at_20 rfl rfl rfl ?_
    refine o_aload B1 22 24 (v := (.ref a1)) at_22 rfl rfl rfl ?_
    refine o_iconst B1 24 25 (0 : Int32) at_24 rfl (by decide) ?_
    refine o_iconst B1 25 26 (0 : Int32) at_25 rfl (by decide) ?_
    refine o_iload B1 26 28 (v := (q0_1 x0 x1 x2 x3 x4 x5)) at_26 rfl rfl ?_
    refine o_iload B1 28 30 (v := (1 : Int32)) at_28 rfl rfl ?_
    refine o_isub B1 30 31 at_30 rfl ?_
    refine o_iloadN B1 31 32 (v := x2) at_31 rfl rfl ?_
    obtain ⟨T2, B2, c2⟩ := o_callP B1 32 35 at_32 rfl (hw _ (List.mem_of_getElem? (i := 1) rfl)) (hw _ (List.mem_of_getElem? (i := 2) rfl)) (hw _ (List.mem_of_getElem? (i := 3) rfl)) (hw _ (List.mem_of_getElem? (i := 4) rfl)) (by decide) (rm1 l Z a0 hw (0 : Int32) ((q0_1 x0 x1 x2 x3 x4 x5) - (1 : Int32)) x2 h1  (own_p1_0 x0 x1 x2 x3 x4 x5)) 2 [(.int (0 : Int32)), (.int ((q0_1 x0 x1 x2 x3 x4 x5) - (1 : Int32))), (.int x2)] [(.int (0 : Int32)), (.ref a1)] pd__III_I rfl rfl (st := [(.int x2), (.int ((q0_1 x0 x1 x2 x3 x4 x5) - (1 : Int32))), (.int (0 : Int32)), (.int (0 : Int32)), (.ref a1)]) rfl (Ls := #[.val (.int x0), .val (.int x1), .val (.int x2), .val (.int x3), .val (.int x4), .val (.int x5), .val (.int (1 : Int32)), .val (.int (q0_1 x0 x1 x2 x3 x4 x5)), .val (.ref a1), .unset, .unset, .unset, .unset]) rfl (Nat.le_of_eq rfl) (by decide) (by decide) (by decide) (by decide)
    refine c2 ?_
    obtain ⟨T3, h3, L3, B3, N3, W3, Q3, c3⟩ := o_iastore B2 N0 g1 35 36 A1 (j := (0 : Int32)) (x := (q0_2 x0 x1 x2 x3 x4 x5)) 0 (q0_3 x0 x1 x2 x3 x4 x5) at_35 rfl (by decide) (by decide) (by decide) rfl (Ls := #[.val (.int x0), .val (.int x1), .val (.int x2), .val (.int x3), .val (.int x4), .val (.int x5), .val (.int (1 : Int32)), .val (.int (q0_1 x0 x1 x2 x3 x4 x5)), .val (.ref a1), .unset, .unset, .unset, .unset]) (rest := [])
    have A3 : AI Z h3 a1 .int 1 (w0_4 x0 x1 x2 x3 x4 x5) := Q3
    refine c3 ?_
    refine o_iload B3 36 38 (v := (1 : Int32)) at_36 rfl rfl ?_
    refine o_iconst B3 38 39 (1 : Int32) at_38 rfl (by decide) ?_
    refine o_icY B3 39 63 at_39 (XT.ii_le_t (by decide)) (by decide) (by decide) ?_
    refine o_iload B3 63 65 (v := (1 : Int32)) at_63 rfl rfl ?_
    refine o_iconst B3 65 66 (2 : Int32) at_65 rfl (by decide) ?_
    refine o_icY B3 66 91 at_66 (XT.ii_le_t (by decide)) (by decide) (by decide) ?_
    refine o_iload B3 91 93 (v := (1 : Int32)) at_91 rfl rfl ?_
    refine o_iconst B3 93 94 (3 : Int32) at_93 rfl (by decide) ?_
    refine o_icY B3 94 119 at_94 (XT.ii_le_t (by decide)) (by decide) (by decide) ?_
    refine o_iload B3 119 121 (v := (1 : Int32)) at_119 rfl rfl ?_
    obtain ⟨a4, T4, h4, z4, B4, E4, A4, c4⟩ := o_newI B3 121 123 (ty := .int) (z := (1 : Int32)) 1 1 (hw _ (List.mem_of_getElem? (i := 0) rfl)) at_121 rfl rfl rfl (by decide) (by decide) (by decide) (by decide) (by decide) (by decide) (Ls := #[.val (.int x0), .val (.int x1), .val (.int x2), .val (.int x3), .val (.int x4), .val (.int x5), .val (.int (1 : Int32)), .val (.int (q0_1 x0 x1 x2 x3 x4 x5)), .val (.ref a1), .unset, .unset, .unset, .unset]) (rest := [])
    have ne5 : a1 ≠ a4 := by rw [z4]; exact Nat.ne_of_lt A3.lt
    have g4 : n0 ≤ a4 := by rw [z4]; exact (W3.size ▸ s1)
    have s4 : n0 ≤ h4.size := Nat.le_trans (W3.size ▸ s1) E4.1
    refine c4 ?_
    refine o_astore B4 123 125 (l' := #[.val (.int x0), .val (.int x1), .val (.int x2), .val (.int x3), .val (.int x4), .val (.int x5), .val (.int (1 : Int32)), .val (.int (q0_1 x0 x1 x2 x3 x4 x5)), .val (.ref a1), .val (.ref a4), .unset, .unset, .unset]) at_123 rfl rfl rfl ?_
    refine o_aload B4 125 127 (v := (.ref a4)) at_125 rfl rfl rfl ?_
    refine o_iconst B4 127 128 (0 : Int32) at_127 rfl (by decide) ?_
    refine o_aload B4 128 130 (v := (.ref a1)) at_128 rfl rfl rfl ?_
    refine o_iconst B4 130 131 (0 : Int32) at_130 rfl (by decide) ?_
    have F7 := (A3.ext E4)
    refine o_iaload B4 131 132 F7 0 (q0_3 x0 x1 x2 x3 x4 x5) at_131 rfl (by decide) (by decide) (by decide) rfl ?_
    obtain ⟨T8, h8, L8, B8, N8, W8, Q8, c8⟩ := o_iastore B4 N3 g4 132 133 A4 (j := (0 : Int32)) (x := (q0_3 x0 x1 x2 x3 x4 x5)) 0 (q0_3 x0 x1 x2 x3 x4 x5) at_132 rfl (by decide) (by decide) (by decide) rfl (Ls := #[.val (.int x0), .val (.int x1), .val (.int x2), .val (.int x3), .val (.int x4), .val (.int x5), .val (.int (1 : Int32)), .val (.int (q0_1 x0 x1 x2 x3 x4 x5)), .val (.ref a1), .val (.ref a4), .unset, .unset, .unset]) (rest := [])
    have A8 : AI Z h8 a4 .int 1 (w0_4 x0 x1 x2 x3 x4 x5) := Q8
    refine c8 ?_
    refine o_iload B8 133 135 (v := (1 : Int32)) at_133 rfl rfl ?_
    refine o_iconst B8 135 136 (1 : Int32) at_135 rfl (by decide) ?_
    refine o_icY B8 136 147 at_136 (XT.ii_le_t (by decide)) (by decide) (by decide) ?_
    refine o_iload B8 147 149 (v := (1 : Int32)) at_147 rfl rfl ?_
    refine o_iconst B8 149 150 (2 : Int32) at_149 rfl (by decide) ?_
    refine o_icY B8 150 161 at_150 (XT.ii_le_t (by decide)) (by decide) (by decide) ?_
    refine o_iload B8 161 163 (v := (1 : Int32)) at_161 rfl rfl ?_
    refine o_iconst B8 163 164 (3 : Int32) at_163 rfl (by decide) ?_
    refine o_icY B8 164 175 at_164 (XT.ii_le_t (by decide)) (by decide) (by decide) ?_
    refine o_aload B8 175 177 (v := (.ref a4)) at_175 rfl rfl rfl ?_
    refine o_iload B8 177 179 (v := (q0_1 x0 x1 x2 x3 x4 x5)) at_177 rfl rfl ?_
    obtain ⟨v9, T9, L9, B9, Q9, c9⟩ := o_callS B8 179 182 at_179 rfl (hw _ (List.mem_of_getElem? (i := 6) rfl)) (hw _ (List.mem_of_getElem? (i := 7) rfl)) (hw _ (List.mem_of_getElem? (i := 8) rfl)) (hw _ (List.mem_of_getElem? (i := 9) rfl)) (by decide) (rm2_1 l Z a0 hw (w0_4 x0 x1 x2 x3 x4 x5) a4 (q0_1 x0 x1 x2 x3 x4 x5) h8 n0 (W8.size ▸ s4) A8 g4) 0 [(.ref a4), (.int (q0_1 x0 x1 x2 x3 x4 x5))] [] pd___II_I rfl rfl (st := [(.int (q0_1 x0 x1 x2 x3 x4 x5)), (.ref a4)]) rfl (Ls := #[.val (.int x0), .val (.int x1), .val (.int x2), .val (.int x3), .val (.int x4), .val (.int x5), .val (.int (1 : Int32)), .val (.int (q0_1 x0 x1 x2 x3 x4 x5)), .val (.ref a1), .val (.ref a4), .unset, .unset, .unset]) rfl (Nat.le_of_eq rfl) (by decide) (by decide) (by decide) (by decide)
    obtain ⟨rfl, M9, K9, O9_0⟩ := Q9
    have N9 := Fr.app N8 M9
    have s9 : n0 ≤ T9.heap.size := Nat.le_trans (W8.size ▸ s4) K9.1
    refine c9 ?_
    show OG p.tables e below _ (T9.setTop (mkF m 182 #[.val (.int x0), .val (.int x1), .val (.int x2), .val (.int x3), .val (.int x4), .val (.int x5), .val (.int (1 : Int32)), .val (.int (q0_1 x0 x1 x2 x3 x4 x5)), .val (.ref a1), .val (.ref a4), .unset, .unset, .unset] [(.int (q0_5 x0 x1 x2 x3 x4 x5))]))
    refine o_istore B9 182 184 (l' := #[.val (.int x0), .val (.int x1), .val (.int x2), .val (.int x3), .val (.int x4), .val (.int x5), .val (.int (1 : Int32)), .val (.int (q0_1 x0 x1 x2 x3 x4 x5)), .val (.ref a1), .val (.ref a4), .val (.int (q0_5 x0 x1 x2 x3 x4 x5)), .unset, .unset]) at_182 rfl rfl ?_
    refine o_iload B9 184 186 (v := (q0_1 x0 x1 x2 x3 x4 x5)) at_184 rfl rfl ?_
    refine o_i2l B9 186 187 at_186 rfl ?_
    refine o_iload B9 187 189 (v := (1 : Int32)) at_187 rfl rfl ?_
    obtain ⟨T10, B10, c10⟩ := o_callP B9 189 192 at_189 rfl (hw _ (List.mem_of_getElem? (i := 10) rfl)) (hw _ (List.mem_of_getElem? (i := 11) rfl)) (hw _ (List.mem_of_getElem? (i := 3) rfl)) (hw _ (List.mem_of_getElem? (i := 12) rfl)) (by decide) (rm3 l Z a0 hw (q0_1 x0 x1 x2 x3 x4 x5).toInt64 (1 : Int32) T9.heap ) 0 [(.long (q0_1 x0 x1 x2 x3 x4 x5).toInt64), (.int (1 : Int32))] [] pd__JI_J rfl rfl (st := [(.int (1 : Int32)), (.long (q0_1 x0 x1 x2 x3 x4 x5).toInt64)]) rfl (Ls := #[.val (.int x0), .val (.int x1), .val (.int x2), .val (.int x3), .val (.int x4), .val (.int x5), .val (.int (1 : Int32)), .val (.int (q0_1 x0 x1 x2 x3 x4 x5)), .val (.ref a1), .val (.ref a4), .val (.int (q0_5 x0 x1 x2 x3 x4 x5)), .unset, .unset]) rfl (Nat.le_of_eq rfl) (by decide) (by decide) (by decide) (by decide)
    refine c10 ?_
    refine o_lstore B10 192 194 (l' := #[.val (.int x0), .val (.int x1), .val (.int x2), .val (.int x3), .val (.int x4), .val (.int x5), .val (.int (1 : Int32)), .val (.int (q0_1 x0 x1 x2 x3 x4 x5)), .val (.ref a1), .val (.ref a4), .val (.int (q0_5 x0 x1 x2 x3 x4 x5)), .val (.long (q0_6 x0 x1 x2 x3 x4 x5)), .second]) at_192 rfl rfl ?_
    refine o_iload B10 194 196 (v := (q0_5 x0 x1 x2 x3 x4 x5)) at_194 rfl rfl ?_
    refine o_iconst B10 196 197 (-1 : Int32) at_196 rfl (by decide) ?_
    by_cases k2 : (q0_5 x0 x1 x2 x3 x4 x5) = (-1 : Int32)
    · refine o_icN B10 197 200 at_197 rfl (XT.ii_ne_f k2) ?_
      refine o_aload B10 200 202 (v := (.ref a4)) at_200 rfl rfl rfl ?_
      refine o_aload B10 202 204 (v := (.ref a1)) at_202 rfl rfl rfl ?_
      have F11 := ((F7.other W8 ne5).keep K9 (ninS ne5 nin0))
      obtain ⟨T12, B12, c12⟩ := o_callP B10 204 207 at_204 rfl (hw _ (List.mem_of_getElem? (i := 23) rfl)) (hw _ (List.mem_of_getElem? (i := 24) rfl)) (hw _ (List.mem_of_getElem? (i := 3) rfl)) (hw _ (List.mem_of_getElem? (i := 25) rfl)) (by decide) (rm7_1 l Z a0 hw (o2_1_0 (w0_4 x0 x1 x2 x3 x4 x5) (q0_1 x0 x1 x2 x3 x4 x5)) (w0_4 x0 x1 x2 x3 x4 x5) a4 a1 T9.heap O9_0 F11) 0 [(.ref a4), (.ref a1)] [] pd___I_I_Z rfl rfl (st := [(.ref a1), (.ref a4)]) rfl (Ls := #[.val (.int x0), .val (.int x1), .val (.int x2), .val (.int x3), .val (.int x4), .val (.int x5), .val (.int (1 : Int32)), .val (.int (q0_1 x0 x1 x2 x3 x4 x5)), .val (.ref a1), .val (.ref a4), .val (.int (q0_5 x0 x1 x2 x3 x4 x5)), .val (.long (q0_6 x0 x1 x2 x3 x4 x5)), .second]) rfl (Nat.le_of_eq rfl) (by decide) (by decide) (by decide) (by decide)
      refine c12 ?_
      by_cases k3 : (q0_7 x0 x1 x2 x3 x4 x5) = 0
      · refine o_ifY B12 207 229 at_207 (XT.i0_eq_t k3) (by decide) (by decide) ?_
        refine o_iconst B12 229 230 (0 : Int32) at_229 rfl (by decide) ?_
        refine o_retZ (t := .boolean) B12 230 at_230 hret hlk (by simp) (by decide) (by decide) ⟨(congrArg (fun z => some (Value.int z)) ((show nar .boolean (0 : Int32) = (0 : Int32) from rfl).trans (show f0 x0 x1 x2 x3 x4 x5 = (0 : Int32) from (if_pos k1).trans ((if_pos k2).trans ((if_pos k3).trans (rfl)))).symm)), N9⟩
      · refine o_ifN B12 207 210 at_207 rfl (XT.i0_eq_f k3) ?_
        refine o_aload B12 210 212 (v := (.ref a1)) at_210 rfl rfl rfl ?_
        refine o_iload B12 212 214 (v := (q0_1 x0 x1 x2 x3 x4 x5)) at_212 rfl rfl ?_
        obtain ⟨T13, B13, c13⟩ := o_callP B12 214 217 at_214 rfl (hw _ (List.mem_of_getElem? (i := 16) rfl)) (hw _ (List.mem_of_getElem? (i := 17) rfl)) (hw _ (List.mem_of_getElem? (i := 3) rfl)) (hw _ (List.mem_of_getElem? (i := 18) rfl)) (by decide) (rm5_1 l Z a0 hw (w0_4 x0 x1 x2 x3 x4 x5) a1 (q0_1 x0 x1 x2 x3 x4 x5) T9.heap F11) 0 [(.ref a1), (.int (q0_1 x0 x1 x2 x3 x4 x5))] [] pd___II_J rfl rfl (st := [(.int (q0_1 x0 x1 x2 x3 x4 x5)), (.ref a1)]) rfl (Ls := #[.val (.int x0), .val (.int x1), .val (.int x2), .val (.int x3), .val (.int x4), .val (.int x5), .val (.int (1 : Int32)), .val (.int (q0_1 x0 x1 x2 x3 x4 x5)), .val (.ref a1), .val (.ref a4), .val (.int (q0_5 x0 x1 x2 x3 x4 x5)), .val (.long (q0_6 x0 x1 x2 x3 x4 x5)), .second]) rfl (Nat.le_of_eq rfl) (by decide) (by decide) (by decide) (by decide)
        refine c13 ?_
        refine o_lload B13 217 219 (v := (q0_6 x0 x1 x2 x3 x4 x5)) at_217 rfl rfl ?_
        refine o_lconst B13 219 220 (1 : Int64) at_219 rfl (by decide) ?_
        refine o_lsub B13 220 221 at_220 rfl ?_
        refine o_lcmp B13 221 222 at_221 rfl ?_
        by_cases k4 : (q0_8 x0 x1 x2 x3 x4 x5) = ((q0_6 x0 x1 x2 x3 x4 x5) - (1 : Int64))
        · refine o_ifN B13 222 225 at_222 rfl (XT.ll_ne_f k4) ?_
          refine o_iconst B13 225 226 (1 : Int32) at_225 rfl (by decide) ?_
          refine o_goto B13 226 230 at_226 (by decide) (by decide) ?_
          refine o_retZ (t := .boolean) B13 230 at_230 hret hlk (by simp) (by decide) (by decide) ⟨(congrArg (fun z => some (Value.int z)) ((show nar .boolean (1 : Int32) = (1 : Int32) from rfl).trans (show f0 x0 x1 x2 x3 x4 x5 = (1 : Int32) from (if_pos k1).trans ((if_pos k2).trans ((if_neg k3).trans ((if_pos k4).trans (rfl))))).symm)), N9⟩
        · refine o_ifY B13 222 229 at_222 (XT.ll_ne_t k4) (by decide) (by decide) ?_
          refine o_iconst B13 229 230 (0 : Int32) at_229 rfl (by decide) ?_
          refine o_retZ (t := .boolean) B13 230 at_230 hret hlk (by simp) (by decide) (by decide) ⟨(congrArg (fun z => some (Value.int z)) ((show nar .boolean (0 : Int32) = (0 : Int32) from rfl).trans (show f0 x0 x1 x2 x3 x4 x5 = (0 : Int32) from (if_pos k1).trans ((if_pos k2).trans ((if_neg k3).trans ((if_neg k4).trans (rfl))))).symm)), N9⟩
    · refine o_icY B10 197 231 at_197 (XT.ii_ne_t k2) (by decide) (by decide) ?_
      refine o_iload B10 231 233 (v := (q0_5 x0 x1 x2 x3 x4 x5)) at_231 rfl rfl ?_
      by_cases k5 : (q0_5 x0 x1 x2 x3 x4 x5) < 0
      · refine o_ifY B10 233 243 at_233 (XT.i0_lt_t k5) (by decide) (by decide) ?_
        refine o_iconst B10 243 244 (0 : Int32) at_243 rfl (by decide) ?_
        refine o_retZ (t := .boolean) B10 244 at_244 hret hlk (by simp) (by decide) (by decide) ⟨(congrArg (fun z => some (Value.int z)) ((show nar .boolean (0 : Int32) = (0 : Int32) from rfl).trans (show f0 x0 x1 x2 x3 x4 x5 = (0 : Int32) from (if_pos k1).trans ((if_neg k2).trans ((if_pos k5).trans (rfl)))).symm)), N9⟩
      · refine o_ifN B10 233 236 at_233 rfl (XT.i0_lt_f k5) ?_
        refine o_iload B10 236 238 (v := (q0_5 x0 x1 x2 x3 x4 x5)) at_236 rfl rfl ?_
        refine o_iload B10 238 240 (v := (1 : Int32)) at_238 rfl rfl ?_
        by_cases k6 : (q0_5 x0 x1 x2 x3 x4 x5) < (1 : Int32)
        · refine o_icY B10 240 245 at_240 (XT.ii_lt_t k6) (by decide) (by decide) ?_
          refine o_aload B10 245 247 (v := (.ref a4)) at_245 rfl rfl rfl ?_
          refine o_iload B10 247 249 (v := (q0_1 x0 x1 x2 x3 x4 x5)) at_247 rfl rfl ?_
          obtain ⟨T14, B14, c14⟩ := o_callP B10 249 252 at_249 rfl (hw _ (List.mem_of_getElem? (i := 13) rfl)) (hw _ (List.mem_of_getElem? (i := 14) rfl)) (hw _ (List.mem_of_getElem? (i := 3) rfl)) (hw _ (List.mem_of_getElem? (i := 15) rfl)) (by decide) (rm4_1 l Z a0 hw (o2_1_0 (w0_4 x0 x1 x2 x3 x4 x5) (q0_1 x0 x1 x2 x3 x4 x5)) a4 (q0_1 x0 x1 x2 x3 x4 x5) T9.heap O9_0) 0 [(.ref a4), (.int (q0_1 x0 x1 x2 x3 x4 x5))] [] pd___II_Z rfl rfl (st := [(.int (q0_1 x0 x1 x2 x3 x4 x5)), (.ref a4)]) rfl (Ls := #[.val (.int x0), .val (.int x1), .val (.int x2), .val (.int x3), .val (.int x4), .val (.int x5), .val (.int (1 : Int32)), .val (.int (q0_1 x0 x1 x2 x3 x4 x5)), .val (.ref a1), .val (.ref a4), .val (.int (q0_5 x0 x1 x2 x3 x4 x5)), .val (.long (q0_6 x0 x1 x2 x3 x4 x5)), .second]) rfl (Nat.le_of_eq rfl) (by decide) (by decide) (by decide) (by decide)
          refine c14 ?_
          by_cases k7 : (q0_9 x0 x1 x2 x3 x4 x5) = 0
          · refine o_ifN B14 252 255 at_252 rfl (XT.i0_ne_f k7) ?_
            refine o_iconst B14 255 256 (0 : Int32) at_255 rfl (by decide) ?_
            refine o_retZ (t := .boolean) B14 256 at_256 hret hlk (by simp) (by decide) (by decide) ⟨(congrArg (fun z => some (Value.int z)) ((show nar .boolean (0 : Int32) = (0 : Int32) from rfl).trans (show f0 x0 x1 x2 x3 x4 x5 = (0 : Int32) from (if_pos k1).trans ((if_neg k2).trans ((if_neg k5).trans ((if_pos k6).trans ((if_pos k7).trans (rfl)))))).symm)), N9⟩
          · refine o_ifY B14 252 257 at_252 (XT.i0_ne_t k7) (by decide) (by decide) ?_
            refine o_aload B14 257 259 (v := (.ref a4)) at_257 rfl rfl rfl ?_
            refine o_iload B14 259 261 (v := (q0_1 x0 x1 x2 x3 x4 x5)) at_259 rfl rfl ?_
            obtain ⟨T15, B15, c15⟩ := o_callP B14 261 264 at_261 rfl (hw _ (List.mem_of_getElem? (i := 16) rfl)) (hw _ (List.mem_of_getElem? (i := 17) rfl)) (hw _ (List.mem_of_getElem? (i := 3) rfl)) (hw _ (List.mem_of_getElem? (i := 18) rfl)) (by decide) (rm5_1 l Z a0 hw (o2_1_0 (w0_4 x0 x1 x2 x3 x4 x5) (q0_1 x0 x1 x2 x3 x4 x5)) a4 (q0_1 x0 x1 x2 x3 x4 x5) T9.heap O9_0) 0 [(.ref a4), (.int (q0_1 x0 x1 x2 x3 x4 x5))] [] pd___II_J rfl rfl (st := [(.int (q0_1 x0 x1 x2 x3 x4 x5)), (.ref a4)]) rfl (Ls := #[.val (.int x0), .val (.int x1), .val (.int x2), .val (.int x3), .val (.int x4), .val (.int x5), .val (.int (1 : Int32)), .val (.int (q0_1 x0 x1 x2 x3 x4 x5)), .val (.ref a1), .val (.ref a4), .val (.int (q0_5 x0 x1 x2 x3 x4 x5)), .val (.long (q0_6 x0 x1 x2 x3 x4 x5)), .second]) rfl (Nat.le_of_eq rfl) (by decide) (by decide) (by decide) (by decide)
            refine c15 ?_
            refine o_aload B15 264 266 (v := (.ref a1)) at_264 rfl rfl rfl ?_
            refine o_iload B15 266 268 (v := (q0_1 x0 x1 x2 x3 x4 x5)) at_266 rfl rfl ?_
            have F16 := ((F7.other W8 ne5).keep K9 (ninS ne5 nin0))
            obtain ⟨T17, B17, c17⟩ := o_callP B15 268 271 at_268 rfl (hw _ (List.mem_of_getElem? (i := 16) rfl)) (hw _ (List.mem_of_getElem? (i := 17) rfl)) (hw _ (List.mem_of_getElem? (i := 3) rfl)) (hw _ (List.mem_of_getElem? (i := 18) rfl)) (by decide) (rm5_1 l Z a0 hw (w0_4 x0 x1 x2 x3 x4 x5) a1 (q0_1 x0 x1 x2 x3 x4 x5) T9.heap F16) 2 [(.ref a1), (.int (q0_1 x0 x1 x2 x3 x4 x5))] [(.long (q0_10 x0 x1 x2 x3 x4 x5))] pd___II_J rfl rfl (st := [(.int (q0_1 x0 x1 x2 x3 x4 x5)), (.ref a1), (.long (q0_10 x0 x1 x2 x3 x4 x5))]) rfl (Ls := #[.val (.int x0), .val (.int x1), .val (.int x2), .val (.int x3), .val (.int x4), .val (.int x5), .val (.int (1 : Int32)), .val (.int (q0_1 x0 x1 x2 x3 x4 x5)), .val (.ref a1), .val (.ref a4), .val (.int (q0_5 x0 x1 x2 x3 x4 x5)), .val (.long (q0_6 x0 x1 x2 x3 x4 x5)), .second]) rfl (Nat.le_of_eq rfl) (by decide) (by decide) (by decide) (by decide)
            refine c17 ?_
            refine o_lconst B17 271 272 (1 : Int64) at_271 rfl (by decide) ?_
            refine o_ladd B17 272 273 at_272 rfl ?_
            refine o_lcmp B17 273 274 at_273 rfl ?_
            by_cases k8 : (q0_10 x0 x1 x2 x3 x4 x5) = ((q0_8 x0 x1 x2 x3 x4 x5) + (1 : Int64))
            · refine o_ifY B17 274 279 at_274 (XT.ll_eq_t k8) (by decide) (by decide) ?_
              refine o_aload B17 279 281 (v := (.ref a4)) at_279 rfl rfl rfl ?_
              refine o_aload B17 281 283 (v := (.ref a1)) at_281 rfl rfl rfl ?_
              refine o_iload B17 283 285 (v := (q0_5 x0 x1 x2 x3 x4 x5)) at_283 rfl rfl ?_
              refine o_iconst B17 285 286 (0 : Int32) at_285 rfl (by decide) ?_
              obtain ⟨T18, B18, c18⟩ := o_callP B17 286 289 at_286 rfl (hw _ (List.mem_of_getElem? (i := 19) rfl)) (hw _ (List.mem_of_getElem? (i := 20) rfl)) (hw _ (List.mem_of_getElem? (i := 3) rfl)) (hw _ (List.mem_of_getElem? (i := 21) rfl)) (by decide) (rm6_1_0 l Z a0 hw (o2_1_0 (w0_4 x0 x1 x2 x3 x4 x5) (q0_1 x0 x1 x2 x3 x4 x5)) (w0_4 x0 x1 x2 x3 x4 x5) a4 a1 (q0_5 x0 x1 x2 x3 x4 x5) T9.heap O9_0 F16) 0 [(.ref a4), (.ref a1), (.int (q0_5 x0 x1 x2 x3 x4 x5)), (.int (0 : Int32))] [] pd___I_III_Z rfl rfl (st := [(.int (0 : Int32)), (.int (q0_5 x0 x1 x2 x3 x4 x5)), (.ref a1), (.ref a4)]) rfl (Ls := #[.val (.int x0), .val (.int x1), .val (.int x2), .val (.int x3), .val (.int x4), .val (.int x5), .val (.int (1 : Int32)), .val (.int (q0_1 x0 x1 x2 x3 x4 x5)), .val (.ref a1), .val (.ref a4), .val (.int (q0_5 x0 x1 x2 x3 x4 x5)), .val (.long (q0_6 x0 x1 x2 x3 x4 x5)), .second]) rfl (Nat.le_of_eq rfl) (by decide) (by decide) (by decide) (by decide)
              refine c18 ?_
              by_cases k9 : (q0_11 x0 x1 x2 x3 x4 x5) = 0
              · refine o_ifY B18 289 335 at_289 (XT.i0_eq_t k9) (by decide) (by decide) ?_
                refine o_iconst B18 335 336 (0 : Int32) at_335 rfl (by decide) ?_
                refine o_retZ (t := .boolean) B18 336 at_336 hret hlk (by simp) (by decide) (by decide) ⟨(congrArg (fun z => some (Value.int z)) ((show nar .boolean (0 : Int32) = (0 : Int32) from rfl).trans (show f0 x0 x1 x2 x3 x4 x5 = (0 : Int32) from (if_pos k1).trans ((if_neg k2).trans ((if_neg k5).trans ((if_pos k6).trans ((if_neg k7).trans ((if_pos k8).trans ((if_pos k9).trans (rfl)))))))).symm)), N9⟩
              · refine o_ifN B18 289 292 at_289 rfl (XT.i0_eq_f k9) ?_
                refine o_aload B18 292 294 (v := (.ref a4)) at_292 rfl rfl rfl ?_
                refine o_aload B18 294 296 (v := (.ref a1)) at_294 rfl rfl rfl ?_
                refine o_iload B18 296 298 (v := (q0_5 x0 x1 x2 x3 x4 x5)) at_296 rfl rfl ?_
                refine o_iconst B18 298 299 (1 : Int32) at_298 rfl (by decide) ?_
                obtain ⟨T19, B19, c19⟩ := o_callP B18 299 302 at_299 rfl (hw _ (List.mem_of_getElem? (i := 19) rfl)) (hw _ (List.mem_of_getElem? (i := 20) rfl)) (hw _ (List.mem_of_getElem? (i := 3) rfl)) (hw _ (List.mem_of_getElem? (i := 21) rfl)) (by decide) (rm6_1_1 l Z a0 hw (o2_1_0 (w0_4 x0 x1 x2 x3 x4 x5) (q0_1 x0 x1 x2 x3 x4 x5)) (w0_4 x0 x1 x2 x3 x4 x5) a4 a1 (q0_5 x0 x1 x2 x3 x4 x5) T9.heap O9_0 F16) 0 [(.ref a4), (.ref a1), (.int (q0_5 x0 x1 x2 x3 x4 x5)), (.int (1 : Int32))] [] pd___I_III_Z rfl rfl (st := [(.int (1 : Int32)), (.int (q0_5 x0 x1 x2 x3 x4 x5)), (.ref a1), (.ref a4)]) rfl (Ls := #[.val (.int x0), .val (.int x1), .val (.int x2), .val (.int x3), .val (.int x4), .val (.int x5), .val (.int (1 : Int32)), .val (.int (q0_1 x0 x1 x2 x3 x4 x5)), .val (.ref a1), .val (.ref a4), .val (.int (q0_5 x0 x1 x2 x3 x4 x5)), .val (.long (q0_6 x0 x1 x2 x3 x4 x5)), .second]) rfl (Nat.le_of_eq rfl) (by decide) (by decide) (by decide) (by decide)
                refine c19 ?_
                by_cases k10 : (q0_12 x0 x1 x2 x3 x4 x5) = 0
                · refine o_ifY B19 302 335 at_302 (XT.i0_eq_t k10) (by decide) (by decide) ?_
                  refine o_iconst B19 335 336 (0 : Int32) at_335 rfl (by decide) ?_
                  refine o_retZ (t := .boolean) B19 336 at_336 hret hlk (by simp) (by decide) (by decide) ⟨(congrArg (fun z => some (Value.int z)) ((show nar .boolean (0 : Int32) = (0 : Int32) from rfl).trans (show f0 x0 x1 x2 x3 x4 x5 = (0 : Int32) from (if_pos k1).trans ((if_neg k2).trans ((if_neg k5).trans ((if_pos k6).trans ((if_neg k7).trans ((if_pos k8).trans ((if_neg k9).trans ((if_pos k10).trans (rfl))))))))).symm)), N9⟩
                · refine o_ifN B19 302 305 at_302 rfl (XT.i0_eq_f k10) ?_
                  refine o_aload B19 305 307 (v := (.ref a4)) at_305 rfl rfl rfl ?_
                  refine o_aload B19 307 309 (v := (.ref a1)) at_307 rfl rfl rfl ?_
                  refine o_iload B19 309 311 (v := (q0_5 x0 x1 x2 x3 x4 x5)) at_309 rfl rfl ?_
                  refine o_iconst B19 311 312 (2 : Int32) at_311 rfl (by decide) ?_
                  obtain ⟨T20, B20, c20⟩ := o_callP B19 312 315 at_312 rfl (hw _ (List.mem_of_getElem? (i := 19) rfl)) (hw _ (List.mem_of_getElem? (i := 20) rfl)) (hw _ (List.mem_of_getElem? (i := 3) rfl)) (hw _ (List.mem_of_getElem? (i := 21) rfl)) (by decide) (rm6_1_2 l Z a0 hw (o2_1_0 (w0_4 x0 x1 x2 x3 x4 x5) (q0_1 x0 x1 x2 x3 x4 x5)) (w0_4 x0 x1 x2 x3 x4 x5) a4 a1 (q0_5 x0 x1 x2 x3 x4 x5) T9.heap O9_0 F16) 0 [(.ref a4), (.ref a1), (.int (q0_5 x0 x1 x2 x3 x4 x5)), (.int (2 : Int32))] [] pd___I_III_Z rfl rfl (st := [(.int (2 : Int32)), (.int (q0_5 x0 x1 x2 x3 x4 x5)), (.ref a1), (.ref a4)]) rfl (Ls := #[.val (.int x0), .val (.int x1), .val (.int x2), .val (.int x3), .val (.int x4), .val (.int x5), .val (.int (1 : Int32)), .val (.int (q0_1 x0 x1 x2 x3 x4 x5)), .val (.ref a1), .val (.ref a4), .val (.int (q0_5 x0 x1 x2 x3 x4 x5)), .val (.long (q0_6 x0 x1 x2 x3 x4 x5)), .second]) rfl (Nat.le_of_eq rfl) (by decide) (by decide) (by decide) (by decide)
                  refine c20 ?_
                  by_cases k11 : (q0_13 x0 x1 x2 x3 x4 x5) = 0
                  · refine o_ifY B20 315 335 at_315 (XT.i0_eq_t k11) (by decide) (by decide) ?_
                    refine o_iconst B20 335 336 (0 : Int32) at_335 rfl (by decide) ?_
                    refine o_retZ (t := .boolean) B20 336 at_336 hret hlk (by simp) (by decide) (by decide) ⟨(congrArg (fun z => some (Value.int z)) ((show nar .boolean (0 : Int32) = (0 : Int32) from rfl).trans (show f0 x0 x1 x2 x3 x4 x5 = (0 : Int32) from (if_pos k1).trans ((if_neg k2).trans ((if_neg k5).trans ((if_pos k6).trans ((if_neg k7).trans ((if_pos k8).trans ((if_neg k9).trans ((if_neg k10).trans ((if_pos k11).trans (rfl)))))))))).symm)), N9⟩
                  · refine o_ifN B20 315 318 at_315 rfl (XT.i0_eq_f k11) ?_
                    refine o_aload B20 318 320 (v := (.ref a4)) at_318 rfl rfl rfl ?_
                    refine o_aload B20 320 322 (v := (.ref a1)) at_320 rfl rfl rfl ?_
                    refine o_iload B20 322 324 (v := (q0_5 x0 x1 x2 x3 x4 x5)) at_322 rfl rfl ?_
                    refine o_iconst B20 324 325 (3 : Int32) at_324 rfl (by decide) ?_
                    obtain ⟨T21, B21, c21⟩ := o_callP B20 325 328 at_325 rfl (hw _ (List.mem_of_getElem? (i := 19) rfl)) (hw _ (List.mem_of_getElem? (i := 20) rfl)) (hw _ (List.mem_of_getElem? (i := 3) rfl)) (hw _ (List.mem_of_getElem? (i := 21) rfl)) (by decide) (rm6_1_3 l Z a0 hw (o2_1_0 (w0_4 x0 x1 x2 x3 x4 x5) (q0_1 x0 x1 x2 x3 x4 x5)) (w0_4 x0 x1 x2 x3 x4 x5) a4 a1 (q0_5 x0 x1 x2 x3 x4 x5) T9.heap O9_0 F16) 0 [(.ref a4), (.ref a1), (.int (q0_5 x0 x1 x2 x3 x4 x5)), (.int (3 : Int32))] [] pd___I_III_Z rfl rfl (st := [(.int (3 : Int32)), (.int (q0_5 x0 x1 x2 x3 x4 x5)), (.ref a1), (.ref a4)]) rfl (Ls := #[.val (.int x0), .val (.int x1), .val (.int x2), .val (.int x3), .val (.int x4), .val (.int x5), .val (.int (1 : Int32)), .val (.int (q0_1 x0 x1 x2 x3 x4 x5)), .val (.ref a1), .val (.ref a4), .val (.int (q0_5 x0 x1 x2 x3 x4 x5)), .val (.long (q0_6 x0 x1 x2 x3 x4 x5)), .second]) rfl (Nat.le_of_eq rfl) (by decide) (by decide) (by decide) (by decide)
                    refine c21 ?_
                    by_cases k12 : (q0_14 x0 x1 x2 x3 x4 x5) = 0
                    · refine o_ifY B21 328 335 at_328 (XT.i0_eq_t k12) (by decide) (by decide) ?_
                      refine o_iconst B21 335 336 (0 : Int32) at_335 rfl (by decide) ?_
                      refine o_retZ (t := .boolean) B21 336 at_336 hret hlk (by simp) (by decide) (by decide) ⟨(congrArg (fun z => some (Value.int z)) ((show nar .boolean (0 : Int32) = (0 : Int32) from rfl).trans (show f0 x0 x1 x2 x3 x4 x5 = (0 : Int32) from (if_pos k1).trans ((if_neg k2).trans ((if_neg k5).trans ((if_pos k6).trans ((if_neg k7).trans ((if_pos k8).trans ((if_neg k9).trans ((if_neg k10).trans ((if_neg k11).trans ((if_pos k12).trans (rfl))))))))))).symm)), N9⟩
                    · refine o_ifN B21 328 331 at_328 rfl (XT.i0_eq_f k12) ?_
                      refine o_iconst B21 331 332 (1 : Int32) at_331 rfl (by decide) ?_
                      refine o_goto B21 332 336 at_332 (by decide) (by decide) ?_
                      refine o_retZ (t := .boolean) B21 336 at_336 hret hlk (by simp) (by decide) (by decide) ⟨(congrArg (fun z => some (Value.int z)) ((show nar .boolean (1 : Int32) = (1 : Int32) from rfl).trans (show f0 x0 x1 x2 x3 x4 x5 = (1 : Int32) from (if_pos k1).trans ((if_neg k2).trans ((if_neg k5).trans ((if_pos k6).trans ((if_neg k7).trans ((if_pos k8).trans ((if_neg k9).trans ((if_neg k10).trans ((if_neg k11).trans ((if_neg k12).trans (rfl))))))))))).symm)), N9⟩
            · refine o_ifN B17 274 277 at_274 rfl (XT.ll_eq_f k8) ?_
              refine o_iconst B17 277 278 (0 : Int32) at_277 rfl (by decide) ?_
              refine o_retZ (t := .boolean) B17 278 at_278 hret hlk (by simp) (by decide) (by decide) ⟨(congrArg (fun z => some (Value.int z)) ((show nar .boolean (0 : Int32) = (0 : Int32) from rfl).trans (show f0 x0 x1 x2 x3 x4 x5 = (0 : Int32) from (if_pos k1).trans ((if_neg k2).trans ((if_neg k5).trans ((if_pos k6).trans ((if_neg k7).trans ((if_neg k8).trans (rfl))))))).symm)), N9⟩
        · refine o_icN B10 240 243 at_240 rfl (XT.ii_lt_f k6) ?_
          refine o_iconst B10 243 244 (0 : Int32) at_243 rfl (by decide) ?_
          refine o_retZ (t := .boolean) B10 244 at_244 hret hlk (by simp) (by decide) (by decide) ⟨(congrArg (fun z => some (Value.int z)) ((show nar .boolean (0 : Int32) = (0 : Int32) from rfl).trans (show f0 x0 x1 x2 x3 x4 x5 = (0 : Int32) from (if_pos k1).trans ((if_neg k2).trans ((if_neg k5).trans ((if_neg k6).trans (rfl))))).symm)), N9⟩
  · by_cases k13 : ((1 : Int32) + (x0 &&& (3 : Int32))) = (2 : Int32)
    · rw [k13]
      refine o_iload B 7 9 (v := (2 : Int32)) at_7 rfl rfl ?_
      refine o_iloadN B 9 10 (v := x1) at_9 rfl rfl ?_
      refine o_bipush B 10 12 (15 : Int32) at_10 rfl (by decide) ?_
      refine o_iand B 12 13 at_12 rfl ?_
      refine o_iadd B 13 14 at_13 rfl ?_
      refine o_istore B 14 16 (l' := #[.val (.int x0), .val (.int x1), .val (.int x2), .val (.int x3), .val (.int x4), .val (.int x5), .val (.int (2 : Int32)), .val (.int (q0_15 x0 x1 x2 x3 x4 x5)), .unset, .unset, .unset, .unset, .unset]) at_14 rfl rfl ?_
      refine o_iload B 16 18 (v := (2 : Int32)) at_16 rfl rfl ?_
      obtain ⟨a22, T22, h22, z22, B22, E22, A22, c22⟩ := o_newI B 18 20 (ty := .int) (z := (2 : Int32)) 2 2 (hw _ (List.mem_of_getElem? (i := 0) rfl)) at_18 rfl rfl rfl (by decide) (by decide) (by decide) (by decide) (by decide) (by decide) (Ls := #[.val (.int x0), .val (.int x1), .val (.int x2), .val (.int x3), .val (.int x4), .val (.int x5), .val (.int (2 : Int32)), .val (.int (q0_15 x0 x1 x2 x3 x4 x5)), .unset, .unset, .unset, .unset, .unset]) (rest := [])
      have g22 : n0 ≤ a22 := by rw [z22]; exact hz
      have s22 : n0 ≤ h22.size := Nat.le_trans hz E22.1
      refine c22 ?_
      refine o_astore B22 20 22 (l' := #[.val (.int x0), .val (.int x1), .val (.int x2), .val (.int x3), .val (.int x4), .val (.int x5), .val (.int (2 : Int32)), .val (.int (q0_15 x0 x1 x2 x3 x4 x5)), .val (.ref a22), .unset, .unset, .unset, .unset]) at_20 rfl rfl rfl ?_
      refine o_aload B22 22 24 (v := (.ref a22)) at_22 rfl rfl rfl ?_
      refine o_iconst B22 24 25 (0 : Int32) at_24 rfl (by decide) ?_
      refine o_iconst B22 25 26 (0 : Int32) at_25 rfl (by decide) ?_
      refine o_iload B22 26 28 (v := (q0_15 x0 x1 x2 x3 x4 x5)) at_26 rfl rfl ?_
      refine o_iload B22 28 30 (v := (2 : Int32)) at_28 rfl rfl ?_
      refine o_isub B22 30 31 at_30 rfl ?_
      refine o_iloadN B22 31 32 (v := x2) at_31 rfl rfl ?_
      obtain ⟨T23, B23, c23⟩ := o_callP B22 32 35 at_32 rfl (hw _ (List.mem_of_getElem? (i := 1) rfl)) (hw _ (List.mem_of_getElem? (i := 2) rfl)) (hw _ (List.mem_of_getElem? (i := 3) rfl)) (hw _ (List.mem_of_getElem? (i := 4) rfl)) (by decide) (rm1 l Z a0 hw (0 : Int32) ((q0_15 x0 x1 x2 x3 x4 x5) - (2 : Int32)) x2 h22  (own_p2_0 x0 x1 x2 x3 x4 x5)) 2 [(.int (0 : Int32)), (.int ((q0_15 x0 x1 x2 x3 x4 x5) - (2 : Int32))), (.int x2)] [(.int (0 : Int32)), (.ref a22)] pd__III_I rfl rfl (st := [(.int x2), (.int ((q0_15 x0 x1 x2 x3 x4 x5) - (2 : Int32))), (.int (0 : Int32)), (.int (0 : Int32)), (.ref a22)]) rfl (Ls := #[.val (.int x0), .val (.int x1), .val (.int x2), .val (.int x3), .val (.int x4), .val (.int x5), .val (.int (2 : Int32)), .val (.int (q0_15 x0 x1 x2 x3 x4 x5)), .val (.ref a22), .unset, .unset, .unset, .unset]) rfl (Nat.le_of_eq rfl) (by decide) (by decide) (by decide) (by decide)
      refine c23 ?_
      obtain ⟨T24, h24, L24, B24, N24, W24, Q24, c24⟩ := o_iastore B23 N0 g22 35 36 A22 (j := (0 : Int32)) (x := (q0_16 x0 x1 x2 x3 x4 x5)) 0 (q0_17 x0 x1 x2 x3 x4 x5) at_35 rfl (by decide) (by decide) (by decide) rfl (Ls := #[.val (.int x0), .val (.int x1), .val (.int x2), .val (.int x3), .val (.int x4), .val (.int x5), .val (.int (2 : Int32)), .val (.int (q0_15 x0 x1 x2 x3 x4 x5)), .val (.ref a22), .unset, .unset, .unset, .unset]) (rest := [])
      have A24 : AI Z h24 a22 .int 2 (w0_18 x0 x1 x2 x3 x4 x5) := Q24
      refine c24 ?_
      refine o_iload B24 36 38 (v := (2 : Int32)) at_36 rfl rfl ?_
      refine o_iconst B24 38 39 (1 : Int32) at_38 rfl (by decide) ?_
      refine o_icN B24 39 42 at_39 rfl (XT.ii_le_f (by decide)) ?_
      refine o_aload B24 42 44 (v := (.ref a22)) at_42 rfl rfl rfl ?_
      refine o_iconst B24 44 45 (1 : Int32) at_44 rfl (by decide) ?_
      refine o_aload B24 45 47 (v := (.ref a22)) at_45 rfl rfl rfl ?_
      refine o_iconst B24 47 48 (0 : Int32) at_47 rfl (by decide) ?_
      refine o_iaload B24 48 49 A24 0 (q0_17 x0 x1 x2 x3 x4 x5) at_48 rfl (by decide) (by decide) (by decide) rfl ?_
      refine o_iconst B24 49 50 (1 : Int32) at_49 rfl (by decide) ?_
      refine o_iadd B24 50 51 at_50 rfl ?_
      refine o_iload B24 51 53 (v := (q0_15 x0 x1 x2 x3 x4 x5)) at_51 rfl rfl ?_
      refine o_iload B24 53 55 (v := (2 : Int32)) at_53 rfl rfl ?_
      refine o_isub B24 55 56 at_55 rfl ?_
      refine o_iconst B24 56 57 (1 : Int32) at_56 rfl (by decide) ?_
      refine o_iadd B24 57 58 at_57 rfl ?_
      refine o_iloadN B24 58 59 (v := x3) at_58 rfl rfl ?_
      obtain ⟨T26, B26, c26⟩ := o_callP B24 59 62 at_59 rfl (hw _ (List.mem_of_getElem? (i := 1) rfl)) (hw _ (List.mem_of_getElem? (i := 2) rfl)) (hw _ (List.mem_of_getElem? (i := 3) rfl)) (hw _ (List.mem_of_getElem? (i := 4) rfl)) (by decide) (rm1 l Z a0 hw ((q0_17 x0 x1 x2 x3 x4 x5) + (1 : Int32)) (q0_19 x0 x1 x2 x3 x4 x5) x3 h24  (own_p2_1 x0 x1 x2 x3 x4 x5)) 2 [(.int ((q0_17 x0 x1 x2 x3 x4 x5) + (1 : Int32))), (.int (q0_19 x0 x1 x2 x3 x4 x5)), (.int x3)] [(.int (1 : Int32)), (.ref a22)] pd__III_I rfl rfl (st := [(.int x3), (.int (q0_19 x0 x1 x2 x3 x4 x5)), (.int ((q0_17 x0 x1 x2 x3 x4 x5) + (1 : Int32))), (.int (1 : Int32)), (.ref a22)]) rfl (Ls := #[.val (.int x0), .val (.int x1), .val (.int x2), .val (.int x3), .val (.int x4), .val (.int x5), .val (.int (2 : Int32)), .val (.int (q0_15 x0 x1 x2 x3 x4 x5)), .val (.ref a22), .unset, .unset, .unset, .unset]) rfl (Nat.le_of_eq rfl) (by decide) (by decide) (by decide) (by decide)
      refine c26 ?_
      obtain ⟨T27, h27, L27, B27, N27, W27, Q27, c27⟩ := o_iastore B26 N24 g22 62 63 A24 (j := (1 : Int32)) (x := (q0_20 x0 x1 x2 x3 x4 x5)) 1 (q0_21 x0 x1 x2 x3 x4 x5) at_62 rfl (by decide) (by decide) (by decide) rfl (Ls := #[.val (.int x0), .val (.int x1), .val (.int x2), .val (.int x3), .val (.int x4), .val (.int x5), .val (.int (2 : Int32)), .val (.int (q0_15 x0 x1 x2 x3 x4 x5)), .val (.ref a22), .unset, .unset, .unset, .unset]) (rest := [])
      have A27 : AI Z h27 a22 .int 2 (w0_22 x0 x1 x2 x3 x4 x5) := Q27
      refine c27 ?_
      refine o_iload B27 63 65 (v := (2 : Int32)) at_63 rfl rfl ?_
      refine o_iconst B27 65 66 (2 : Int32) at_65 rfl (by decide) ?_
      refine o_icY B27 66 91 at_66 (XT.ii_le_t (by decide)) (by decide) (by decide) ?_
      refine o_iload B27 91 93 (v := (2 : Int32)) at_91 rfl rfl ?_
      refine o_iconst B27 93 94 (3 : Int32) at_93 rfl (by decide) ?_
      refine o_icY B27 94 119 at_94 (XT.ii_le_t (by decide)) (by decide) (by decide) ?_
      refine o_iload B27 119 121 (v := (2 : Int32)) at_119 rfl rfl ?_
      obtain ⟨a28, T28, h28, z28, B28, E28, A28, c28⟩ := o_newI B27 121 123 (ty := .int) (z := (2 : Int32)) 2 2 (hw _ (List.mem_of_getElem? (i := 0) rfl)) at_121 rfl rfl rfl (by decide) (by decide) (by decide) (by decide) (by decide) (by decide) (Ls := #[.val (.int x0), .val (.int x1), .val (.int x2), .val (.int x3), .val (.int x4), .val (.int x5), .val (.int (2 : Int32)), .val (.int (q0_15 x0 x1 x2 x3 x4 x5)), .val (.ref a22), .unset, .unset, .unset, .unset]) (rest := [])
      have ne29 : a22 ≠ a28 := by rw [z28]; exact Nat.ne_of_lt A27.lt
      have g28 : n0 ≤ a28 := by rw [z28]; exact (W27.size ▸ (W24.size ▸ s22))
      have s28 : n0 ≤ h28.size := Nat.le_trans (W27.size ▸ (W24.size ▸ s22)) E28.1
      refine c28 ?_
      refine o_astore B28 123 125 (l' := #[.val (.int x0), .val (.int x1), .val (.int x2), .val (.int x3), .val (.int x4), .val (.int x5), .val (.int (2 : Int32)), .val (.int (q0_15 x0 x1 x2 x3 x4 x5)), .val (.ref a22), .val (.ref a28), .unset, .unset, .unset]) at_123 rfl rfl rfl ?_
      refine o_aload B28 125 127 (v := (.ref a28)) at_125 rfl rfl rfl ?_
      refine o_iconst B28 127 128 (0 : Int32) at_127 rfl (by decide) ?_
      refine o_aload B28 128 130 (v := (.ref a22)) at_128 rfl rfl rfl ?_
      refine o_iconst B28 130 131 (0 : Int32) at_130 rfl (by decide) ?_
      have F31 := (A27.ext E28)
      refine o_iaload B28 131 132 F31 0 (q0_17 x0 x1 x2 x3 x4 x5) at_131 rfl (by decide) (by decide) (by decide) rfl ?_
      obtain ⟨T32, h32, L32, B32, N32, W32, Q32, c32⟩ := o_iastore B28 N27 g28 132 133 A28 (j := (0 : Int32)) (x := (q0_17 x0 x1 x2 x3 x4 x5)) 0 (q0_17 x0 x1 x2 x3 x4 x5) at_132 rfl (by decide) (by decide) (by decide) rfl (Ls := #[.val (.int x0), .val (.int x1), .val (.int x2), .val (.int x3), .val (.int x4), .val (.int x5), .val (.int (2 : Int32)), .val (.int (q0_15 x0 x1 x2 x3 x4 x5)), .val (.ref a22), .val (.ref a28), .unset, .unset, .unset]) (rest := [])
      have A32 : AI Z h32 a28 .int 2 (w0_18 x0 x1 x2 x3 x4 x5) := Q32
      refine c32 ?_
      refine o_iload B32 133 135 (v := (2 : Int32)) at_133 rfl rfl ?_
      refine o_iconst B32 135 136 (1 : Int32) at_135 rfl (by decide) ?_
      refine o_icN B32 136 139 at_136 rfl (XT.ii_le_f (by decide)) ?_
      refine o_aload B32 139 141 (v := (.ref a28)) at_139 rfl rfl rfl ?_
      refine o_iconst B32 141 142 (1 : Int32) at_141 rfl (by decide) ?_
      refine o_aload B32 142 144 (v := (.ref a22)) at_142 rfl rfl rfl ?_
      refine o_iconst B32 144 145 (1 : Int32) at_144 rfl (by decide) ?_
      have F34 := (F31.other W32 ne29)
      refine o_iaload B32 145 146 F34 1 (q0_21 x0 x1 x2 x3 x4 x5) at_145 rfl (by decide) (by decide) (by decide) rfl ?_
      obtain ⟨T35, h35, L35, B35, N35, W35, Q35, c35⟩ := o_iastore B32 N32 g28 146 147 A32 (j := (1 : Int32)) (x := (q0_21 x0 x1 x2 x3 x4 x5)) 1 (q0_21 x0 x1 x2 x3 x4 x5) at_146 rfl (by decide) (by decide) (by decide) rfl (Ls := #[.val (.int x0), .val (.int x1), .val (.int x2), .val (.int x3), .val (.int x4), .val (.int x5), .val (.int (2 : Int32)), .val (.int (q0_15 x0 x1 x2 x3 x4 x5)), .val (.ref a22), .val (.ref a28), .unset, .unset, .unset]) (rest := [])
      have A35 : AI Z h35 a28 .int 2 (w0_22 x0 x1 x2 x3 x4 x5) := Q35
      refine c35 ?_
      refine o_iload B35 147 149 (v := (2 : Int32)) at_147 rfl rfl ?_
      refine o_iconst B35 149 150 (2 : Int32) at_149 rfl (by decide) ?_
      refine o_icY B35 150 161 at_150 (XT.ii_le_t (by decide)) (by decide) (by decide) ?_
      refine o_iload B35 161 163 (v := (2 : Int32)) at_161 rfl rfl ?_
      refine o_iconst B35 163 164 (3 : Int32) at_163 rfl (by decide) ?_
      refine o_icY B35 164 175 at_164 (XT.ii_le_t (by decide)) (by decide) (by decide) ?_
      refine o_aload B35 175 177 (v := (.ref a28)) at_175 rfl rfl rfl ?_
      refine o_iload B35 177 179 (v := (q0_15 x0 x1 x2 x3 x4 x5)) at_177 rfl rfl ?_
      obtain ⟨v36, T36, L36, B36, Q36, c36⟩ := o_callS B35 179 182 at_179 rfl (hw _ (List.mem_of_getElem? (i := 6) rfl)) (hw _ (List.mem_of_getElem? (i := 7) rfl)) (hw _ (List.mem_of_getElem? (i := 8) rfl)) (hw _ (List.mem_of_getElem? (i := 9) rfl)) (by decide) (rm2_2 l Z a0 hw (w0_22 x0 x1 x2 x3 x4 x5) a28 (q0_15 x0 x1 x2 x3 x4 x5) h35 n0 (W35.size ▸ (W32.size ▸ s28)) A35 g28) 0 [(.ref a28), (.int (q0_15 x0 x1 x2 x3 x4 x5))] [] pd___II_I rfl rfl (st := [(.int (q0_15 x0 x1 x2 x3 x4 x5)), (.ref a28)]) rfl (Ls := #[.val (.int x0), .val (.int x1), .val (.int x2), .val (.int x3), .val (.int x4), .val (.int x5), .val (.int (2 : Int32)), .val (.int (q0_15 x0 x1 x2 x3 x4 x5)), .val (.ref a22), .val (.ref a28), .unset, .unset, .unset]) rfl (Nat.le_of_eq rfl) (by decide) (by decide) (by decide) (by decide)
      obtain ⟨rfl, M36, K36, O36_0⟩ := Q36
      have N36 := Fr.app N35 M36
      have s36 : n0 ≤ T36.heap.size := Nat.le_trans (W35.size ▸ (W32.size ▸ s28)) K36.1
      refine c36 ?_
      show OG p.tables e below _ (T36.setTop (mkF m 182 #[.val (.int x0), .val (.int x1), .val (.int x2), .val (.int x3), .val (.int x4), .val (.int x5), .val (.int (2 : Int32)), .val (.int (q0_15 x0 x1 x2 x3 x4 x5)), .val (.ref a22), .val (.ref a28), .unset, .unset, .unset] [(.int (q0_23 x0 x1 x2 x3 x4 x5))]))
      refine o_istore B36 182 184 (l' := #[.val (.int x0), .val (.int x1), .val (.int x2), .val (.int x3), .val (.int x4), .val (.int x5), .val (.int (2 : Int32)), .val (.int (q0_15 x0 x1 x2 x3 x4 x5)), .val (.ref a22), .val (.ref a28), .val (.int (q0_23 x0 x1 x2 x3 x4 x5)), .unset, .unset]) at_182 rfl rfl ?_
      refine o_iload B36 184 186 (v := (q0_15 x0 x1 x2 x3 x4 x5)) at_184 rfl rfl ?_
      refine o_i2l B36 186 187 at_186 rfl ?_
      refine o_iload B36 187 189 (v := (2 : Int32)) at_187 rfl rfl ?_
      obtain ⟨T37, B37, c37⟩ := o_callP B36 189 192 at_189 rfl (hw _ (List.mem_of_getElem? (i := 10) rfl)) (hw _ (List.mem_of_getElem? (i := 11) rfl)) (hw _ (List.mem_of_getElem? (i := 3) rfl)) (hw _ (List.mem_of_getElem? (i := 12) rfl)) (by decide) (rm3 l Z a0 hw (q0_15 x0 x1 x2 x3 x4 x5).toInt64 (2 : Int32) T36.heap ) 0 [(.long (q0_15 x0 x1 x2 x3 x4 x5).toInt64), (.int (2 : Int32))] [] pd__JI_J rfl rfl (st := [(.int (2 : Int32)), (.long (q0_15 x0 x1 x2 x3 x4 x5).toInt64)]) rfl (Ls := #[.val (.int x0), .val (.int x1), .val (.int x2), .val (.int x3), .val (.int x4), .val (.int x5), .val (.int (2 : Int32)), .val (.int (q0_15 x0 x1 x2 x3 x4 x5)), .val (.ref a22), .val (.ref a28), .val (.int (q0_23 x0 x1 x2 x3 x4 x5)), .unset, .unset]) rfl (Nat.le_of_eq rfl) (by decide) (by decide) (by decide) (by decide)
      refine c37 ?_
      refine o_lstore B37 192 194 (l' := #[.val (.int x0), .val (.int x1), .val (.int x2), .val (.int x3), .val (.int x4), .val (.int x5), .val (.int (2 : Int32)), .val (.int (q0_15 x0 x1 x2 x3 x4 x5)), .val (.ref a22), .val (.ref a28), .val (.int (q0_23 x0 x1 x2 x3 x4 x5)), .val (.long (q0_24 x0 x1 x2 x3 x4 x5)), .second]) at_192 rfl rfl ?_
      refine o_iload B37 194 196 (v := (q0_23 x0 x1 x2 x3 x4 x5)) at_194 rfl rfl ?_
      refine o_iconst B37 196 197 (-1 : Int32) at_196 rfl (by decide) ?_
      by_cases k14 : (q0_23 x0 x1 x2 x3 x4 x5) = (-1 : Int32)
      · refine o_icN B37 197 200 at_197 rfl (XT.ii_ne_f k14) ?_
        refine o_aload B37 200 202 (v := (.ref a28)) at_200 rfl rfl rfl ?_
        refine o_aload B37 202 204 (v := (.ref a22)) at_202 rfl rfl rfl ?_
        have F38 := ((F34.other W35 ne29).keep K36 (ninS ne29 nin0))
        obtain ⟨T39, B39, c39⟩ := o_callP B37 204 207 at_204 rfl (hw _ (List.mem_of_getElem? (i := 23) rfl)) (hw _ (List.mem_of_getElem? (i := 24) rfl)) (hw _ (List.mem_of_getElem? (i := 3) rfl)) (hw _ (List.mem_of_getElem? (i := 25) rfl)) (by decide) (rm7_2 l Z a0 hw (o2_2_0 (w0_22 x0 x1 x2 x3 x4 x5) (q0_15 x0 x1 x2 x3 x4 x5)) (w0_22 x0 x1 x2 x3 x4 x5) a28 a22 T36.heap O36_0 F38) 0 [(.ref a28), (.ref a22)] [] pd___I_I_Z rfl rfl (st := [(.ref a22), (.ref a28)]) rfl (Ls := #[.val (.int x0), .val (.int x1), .val (.int x2), .val (.int x3), .val (.int x4), .val (.int x5), .val (.int (2 : Int32)), .val (.int (q0_15 x0 x1 x2 x3 x4 x5)), .val (.ref a22), .val (.ref a28), .val (.int (q0_23 x0 x1 x2 x3 x4 x5)), .val (.long (q0_24 x0 x1 x2 x3 x4 x5)), .second]) rfl (Nat.le_of_eq rfl) (by decide) (by decide) (by decide) (by decide)
        refine c39 ?_
        by_cases k15 : (q0_25 x0 x1 x2 x3 x4 x5) = 0
        · refine o_ifY B39 207 229 at_207 (XT.i0_eq_t k15) (by decide) (by decide) ?_
          refine o_iconst B39 229 230 (0 : Int32) at_229 rfl (by decide) ?_
          refine o_retZ (t := .boolean) B39 230 at_230 hret hlk (by simp) (by decide) (by decide) ⟨(congrArg (fun z => some (Value.int z)) ((show nar .boolean (0 : Int32) = (0 : Int32) from rfl).trans (show f0 x0 x1 x2 x3 x4 x5 = (0 : Int32) from (if_neg k1).trans ((if_pos k13).trans ((if_pos k14).trans ((if_pos k15).trans (rfl))))).symm)), N36⟩
        · refine o_ifN B39 207 210 at_207 rfl (XT.i0_eq_f k15) ?_
          refine o_aload B39 210 212 (v := (.ref a22)) at_210 rfl rfl rfl ?_
          refine o_iload B39 212 214 (v := (q0_15 x0 x1 x2 x3 x4 x5)) at_212 rfl rfl ?_
          obtain ⟨T40, B40, c40⟩ := o_callP B39 214 217 at_214 rfl (hw _ (List.mem_of_getElem? (i := 16) rfl)) (hw _ (List.mem_of_getElem? (i := 17) rfl)) (hw _ (List.mem_of_getElem? (i := 3) rfl)) (hw _ (List.mem_of_getElem? (i := 18) rfl)) (by decide) (rm5_2 l Z a0 hw (w0_22 x0 x1 x2 x3 x4 x5) a22 (q0_15 x0 x1 x2 x3 x4 x5) T36.heap F38) 0 [(.ref a22), (.int (q0_15 x0 x1 x2 x3 x4 x5))] [] pd___II_J rfl rfl (st := [(.int (q0_15 x0 x1 x2 x3 x4 x5)), (.ref a22)]) rfl (Ls := #[.val (.int x0), .val (.int x1), .val (.int x2), .val (.int x3), .val (.int x4), .val (.int x5), .val (.int (2 : Int32)), .val (.int (q0_15 x0 x1 x2 x3 x4 x5)), .val (.ref a22), .val (.ref a28), .val (.int (q0_23 x0 x1 x2 x3 x4 x5)), .val (.long (q0_24 x0 x1 x2 x3 x4 x5)), .second]) rfl (Nat.le_of_eq rfl) (by decide) (by decide) (by decide) (by decide)
          refine c40 ?_
          refine o_lload B40 217 219 (v := (q0_24 x0 x1 x2 x3 x4 x5)) at_217 rfl rfl ?_
          refine o_lconst B40 219 220 (1 : Int64) at_219 rfl (by decide) ?_
          refine o_lsub B40 220 221 at_220 rfl ?_
          refine o_lcmp B40 221 222 at_221 rfl ?_
          by_cases k16 : (q0_26 x0 x1 x2 x3 x4 x5) = ((q0_24 x0 x1 x2 x3 x4 x5) - (1 : Int64))
          · refine o_ifN B40 222 225 at_222 rfl (XT.ll_ne_f k16) ?_
            refine o_iconst B40 225 226 (1 : Int32) at_225 rfl (by decide) ?_
            refine o_goto B40 226 230 at_226 (by decide) (by decide) ?_
            refine o_retZ (t := .boolean) B40 230 at_230 hret hlk (by simp) (by decide) (by decide) ⟨(congrArg (fun z => some (Value.int z)) ((show nar .boolean (1 : Int32) = (1 : Int32) from rfl).trans (show f0 x0 x1 x2 x3 x4 x5 = (1 : Int32) from (if_neg k1).trans ((if_pos k13).trans ((if_pos k14).trans ((if_neg k15).trans ((if_pos k16).trans (rfl)))))).symm)), N36⟩
          · refine o_ifY B40 222 229 at_222 (XT.ll_ne_t k16) (by decide) (by decide) ?_
            refine o_iconst B40 229 230 (0 : Int32) at_229 rfl (by decide) ?_
            refine o_retZ (t := .boolean) B40 230 at_230 hret hlk (by simp) (by decide) (by decide) ⟨(congrArg (fun z => some (Value.int z)) ((show nar .boolean (0 : Int32) = (0 : Int32) from rfl).trans (show f0 x0 x1 x2 x3 x4 x5 = (0 : Int32) from (if_neg k1).trans ((if_pos k13).trans ((if_pos k14).trans ((if_neg k15).trans ((if_neg k16).trans (rfl)))))).symm)), N36⟩
      · refine o_icY B37 197 231 at_197 (XT.ii_ne_t k14) (by decide) (by decide) ?_
        refine o_iload B37 231 233 (v := (q0_23 x0 x1 x2 x3 x4 x5)) at_231 rfl rfl ?_
        by_cases k17 : (q0_23 x0 x1 x2 x3 x4 x5) < 0
        · refine o_ifY B37 233 243 at_233 (XT.i0_lt_t k17) (by decide) (by decide) ?_
          refine o_iconst B37 243 244 (0 : Int32) at_243 rfl (by decide) ?_
          refine o_retZ (t := .boolean) B37 244 at_244 hret hlk (by simp) (by decide) (by decide) ⟨(congrArg (fun z => some (Value.int z)) ((show nar .boolean (0 : Int32) = (0 : Int32) from rfl).trans (show f0 x0 x1 x2 x3 x4 x5 = (0 : Int32) from (if_neg k1).trans ((if_pos k13).trans ((if_neg k14).trans ((if_pos k17).trans (rfl))))).symm)), N36⟩
        · refine o_ifN B37 233 236 at_233 rfl (XT.i0_lt_f k17) ?_
          refine o_iload B37 236 238 (v := (q0_23 x0 x1 x2 x3 x4 x5)) at_236 rfl rfl ?_
          refine o_iload B37 238 240 (v := (2 : Int32)) at_238 rfl rfl ?_
          by_cases k18 : (q0_23 x0 x1 x2 x3 x4 x5) < (2 : Int32)
          · refine o_icY B37 240 245 at_240 (XT.ii_lt_t k18) (by decide) (by decide) ?_
            refine o_aload B37 245 247 (v := (.ref a28)) at_245 rfl rfl rfl ?_
            refine o_iload B37 247 249 (v := (q0_15 x0 x1 x2 x3 x4 x5)) at_247 rfl rfl ?_
            obtain ⟨T41, B41, c41⟩ := o_callP B37 249 252 at_249 rfl (hw _ (List.mem_of_getElem? (i := 13) rfl)) (hw _ (List.mem_of_getElem? (i := 14) rfl)) (hw _ (List.mem_of_getElem? (i := 3) rfl)) (hw _ (List.mem_of_getElem? (i := 15) rfl)) (by decide) (rm4_2 l Z a0 hw (o2_2_0 (w0_22 x0 x1 x2 x3 x4 x5) (q0_15 x0 x1 x2 x3 x4 x5)) a28 (q0_15 x0 x1 x2 x3 x4 x5) T36.heap O36_0) 0 [(.ref a28), (.int (q0_15 x0 x1 x2 x3 x4 x5))] [] pd___II_Z rfl rfl (st := [(.int (q0_15 x0 x1 x2 x3 x4 x5)), (.ref a28)]) rfl (Ls := #[.val (.int x0), .val (.int x1), .val (.int x2), .val (.int x3), .val (.int x4), .val (.int x5), .val (.int (2 : Int32)), .val (.int (q0_15 x0 x1 x2 x3 x4 x5)), .val (.ref a22), .val (.ref a28), .val (.int (q0_23 x0 x1 x2 x3 x4 x5)), .val (.long (q0_24 x0 x1 x2 x3 x4 x5)), .second]) rfl (Nat.le_of_eq rfl) (by decide) (by decide) (by decide) (by decide)
            refine c41 ?_
            by_cases k19 : (q0_27 x0 x1 x2 x3 x4 x5) = 0
            · refine o_ifN B41 252 255 at_252 rfl (XT.i0_ne_f k19) ?_
              refine o_iconst B41 255 256 (0 : Int32) at_255 rfl (by decide) ?_
              refine o_retZ (t := .boolean) B41 256 at_256 hret hlk (by simp) (by decide) (by decide) ⟨(congrArg (fun z => some (Value.int z)) ((show nar .boolean (0 : Int32) = (0 : Int32) from rfl).trans (show f0 x0 x1 x2 x3 x4 x5 = (0 : Int32) from (if_neg k1).trans ((if_pos k13).trans ((if_neg k14).trans ((if_neg k17).trans ((if_pos k18).trans ((if_pos k19).trans (rfl))))))).symm)), N36⟩
            · refine o_ifY B41 252 257 at_252 (XT.i0_ne_t k19) (by decide) (by decide) ?_
              refine o_aload B41 257 259 (v := (.ref a28)) at_257 rfl rfl rfl ?_
              refine o_iload B41 259 261 (v := (q0_15 x0 x1 x2 x3 x4 x5)) at_259 rfl rfl ?_
              obtain ⟨T42, B42, c42⟩ := o_callP B41 261 264 at_261 rfl (hw _ (List.mem_of_getElem? (i := 16) rfl)) (hw _ (List.mem_of_getElem? (i := 17) rfl)) (hw _ (List.mem_of_getElem? (i := 3) rfl)) (hw _ (List.mem_of_getElem? (i := 18) rfl)) (by decide) (rm5_2 l Z a0 hw (o2_2_0 (w0_22 x0 x1 x2 x3 x4 x5) (q0_15 x0 x1 x2 x3 x4 x5)) a28 (q0_15 x0 x1 x2 x3 x4 x5) T36.heap O36_0) 0 [(.ref a28), (.int (q0_15 x0 x1 x2 x3 x4 x5))] [] pd___II_J rfl rfl (st := [(.int (q0_15 x0 x1 x2 x3 x4 x5)), (.ref a28)]) rfl (Ls := #[.val (.int x0), .val (.int x1), .val (.int x2), .val (.int x3), .val (.int x4), .val (.int x5), .val (.int (2 : Int32)), .val (.int (q0_15 x0 x1 x2 x3 x4 x5)), .val (.ref a22), .val (.ref a28), .val (.int (q0_23 x0 x1 x2 x3 x4 x5)), .val (.long (q0_24 x0 x1 x2 x3 x4 x5)), .second]) rfl (Nat.le_of_eq rfl) (by decide) (by decide) (by decide) (by decide)
              refine c42 ?_
              refine o_aload B42 264 266 (v := (.ref a22)) at_264 rfl rfl rfl ?_
              refine o_iload B42 266 268 (v := (q0_15 x0 x1 x2 x3 x4 x5)) at_266 rfl rfl ?_
              have F43 := ((F34.other W35 ne29).keep K36 (ninS ne29 nin0))
              obtain ⟨T44, B44, c44⟩ := o_callP B42 268 271 at_268 rfl (hw _ (List.mem_of_getElem? (i := 16) rfl)) (hw _ (List.mem_of_getElem? (i := 17) rfl)) (hw _ (List.mem_of_getElem? (i := 3) rfl)) (hw _ (List.mem_of_getElem? (i := 18) rfl)) (by decide) (rm5_2 l Z a0 hw (w0_22 x0 x1 x2 x3 x4 x5) a22 (q0_15 x0 x1 x2 x3 x4 x5) T36.heap F43) 2 [(.ref a22), (.int (q0_15 x0 x1 x2 x3 x4 x5))] [(.long (q0_28 x0 x1 x2 x3 x4 x5))] pd___II_J rfl rfl (st := [(.int (q0_15 x0 x1 x2 x3 x4 x5)), (.ref a22), (.long (q0_28 x0 x1 x2 x3 x4 x5))]) rfl (Ls := #[.val (.int x0), .val (.int x1), .val (.int x2), .val (.int x3), .val (.int x4), .val (.int x5), .val (.int (2 : Int32)), .val (.int (q0_15 x0 x1 x2 x3 x4 x5)), .val (.ref a22), .val (.ref a28), .val (.int (q0_23 x0 x1 x2 x3 x4 x5)), .val (.long (q0_24 x0 x1 x2 x3 x4 x5)), .second]) rfl (Nat.le_of_eq rfl) (by decide) (by decide) (by decide) (by decide)
              refine c44 ?_
              refine o_lconst B44 271 272 (1 : Int64) at_271 rfl (by decide) ?_
              refine o_ladd B44 272 273 at_272 rfl ?_
              refine o_lcmp B44 273 274 at_273 rfl ?_
              by_cases k20 : (q0_28 x0 x1 x2 x3 x4 x5) = ((q0_26 x0 x1 x2 x3 x4 x5) + (1 : Int64))
              · refine o_ifY B44 274 279 at_274 (XT.ll_eq_t k20) (by decide) (by decide) ?_
                refine o_aload B44 279 281 (v := (.ref a28)) at_279 rfl rfl rfl ?_
                refine o_aload B44 281 283 (v := (.ref a22)) at_281 rfl rfl rfl ?_
                refine o_iload B44 283 285 (v := (q0_23 x0 x1 x2 x3 x4 x5)) at_283 rfl rfl ?_
                refine o_iconst B44 285 286 (0 : Int32) at_285 rfl (by decide) ?_
                obtain ⟨T45, B45, c45⟩ := o_callP B44 286 289 at_286 rfl (hw _ (List.mem_of_getElem? (i := 19) rfl)) (hw _ (List.mem_of_getElem? (i := 20) rfl)) (hw _ (List.mem_of_getElem? (i := 3) rfl)) (hw _ (List.mem_of_getElem? (i := 21) rfl)) (by decide) (rm6_2_0 l Z a0 hw (o2_2_0 (w0_22 x0 x1 x2 x3 x4 x5) (q0_15 x0 x1 x2 x3 x4 x5)) (w0_22 x0 x1 x2 x3 x4 x5) a28 a22 (q0_23 x0 x1 x2 x3 x4 x5) T36.heap O36_0 F43) 0 [(.ref a28), (.ref a22), (.int (q0_23 x0 x1 x2 x3 x4 x5)), (.int (0 : Int32))] [] pd___I_III_Z rfl rfl (st := [(.int (0 : Int32)), (.int (q0_23 x0 x1 x2 x3 x4 x5)), (.ref a22), (.ref a28)]) rfl (Ls := #[.val (.int x0), .val (.int x1), .val (.int x2), .val (.int x3), .val (.int x4), .val (.int x5), .val (.int (2 : Int32)), .val (.int (q0_15 x0 x1 x2 x3 x4 x5)), .val (.ref a22), .val (.ref a28), .val (.int (q0_23 x0 x1 x2 x3 x4 x5)), .val (.long (q0_24 x0 x1 x2 x3 x4 x5)), .second]) rfl (Nat.le_of_eq rfl) (by decide) (by decide) (by decide) (by decide)
                refine c45 ?_
                by_cases k21 : (q0_29 x0 x1 x2 x3 x4 x5) = 0
                · refine o_ifY B45 289 335 at_289 (XT.i0_eq_t k21) (by decide) (by decide) ?_
                  refine o_iconst B45 335 336 (0 : Int32) at_335 rfl (by decide) ?_
                  refine o_retZ (t := .boolean) B45 336 at_336 hret hlk (by simp) (by decide) (by decide) ⟨(congrArg (fun z => some (Value.int z)) ((show nar .boolean (0 : Int32) = (0 : Int32) from rfl).trans (show f0 x0 x1 x2 x3 x4 x5 = (0 : Int32) from (if_neg k1).trans ((if_pos k13).trans ((if_neg k14).trans ((if_neg k17).trans ((if_pos k18).trans ((if_neg k19).trans ((if_pos k20).trans ((if_pos k21).trans (rfl))))))))).symm)), N36⟩
                · refine o_ifN B45 289 292 at_289 rfl (XT.i0_eq_f k21) ?_
                  refine o_aload B45 292 294 (v := (.ref a28)) at_292 rfl rfl rfl ?_
                  refine o_aload B45 294 296 (v := (.ref a22)) at_294 rfl rfl rfl ?_
                  refine o_iload B45 296 298 (v := (q0_23 x0 x1 x2 x3 x4 x5)) at_296 rfl rfl ?_
                  refine o_iconst B45 298 299 (1 : Int32) at_298 rfl (by decide) ?_
                  obtain ⟨T46, B46, c46⟩ := o_callP B45 299 302 at_299 rfl (hw _ (List.mem_of_getElem? (i := 19) rfl)) (hw _ (List.mem_of_getElem? (i := 20) rfl)) (hw _ (List.mem_of_getElem? (i := 3) rfl)) (hw _ (List.mem_of_getElem? (i := 21) rfl)) (by decide) (rm6_2_1 l Z a0 hw (o2_2_0 (w0_22 x0 x1 x2 x3 x4 x5) (q0_15 x0 x1 x2 x3 x4 x5)) (w0_22 x0 x1 x2 x3 x4 x5) a28 a22 (q0_23 x0 x1 x2 x3 x4 x5) T36.heap O36_0 F43) 0 [(.ref a28), (.ref a22), (.int (q0_23 x0 x1 x2 x3 x4 x5)), (.int (1 : Int32))] [] pd___I_III_Z rfl rfl (st := [(.int (1 : Int32)), (.int (q0_23 x0 x1 x2 x3 x4 x5)), (.ref a22), (.ref a28)]) rfl (Ls := #[.val (.int x0), .val (.int x1), .val (.int x2), .val (.int x3), .val (.int x4), .val (.int x5), .val (.int (2 : Int32)), .val (.int (q0_15 x0 x1 x2 x3 x4 x5)), .val (.ref a22), .val (.ref a28), .val (.int (q0_23 x0 x1 x2 x3 x4 x5)), .val (.long (q0_24 x0 x1 x2 x3 x4 x5)), .second]) rfl (Nat.le_of_eq rfl) (by decide) (by decide) (by decide) (by decide)
                  refine c46 ?_
                  by_cases k22 : (q0_30 x0 x1 x2 x3 x4 x5) = 0
                  · refine o_ifY B46 302 335 at_302 (XT.i0_eq_t k22) (by decide) (by decide) ?_
                    refine o_iconst B46 335 336 (0 : Int32) at_335 rfl (by decide) ?_
                    refine o_retZ (t := .boolean) B46 336 at_336 hret hlk (by simp) (by decide) (by decide) ⟨(congrArg (fun z => some (Value.int z)) ((show nar .boolean (0 : Int32) = (0 : Int32) from rfl).trans (show f0 x0 x1 x2 x3 x4 x5 = (0 : Int32) from (if_neg k1).trans ((if_pos k13).trans ((if_neg k14).trans ((if_neg k17).trans ((if_pos k18).trans ((if_neg k19).trans ((if_pos k20).trans ((if_neg k21).trans ((if_pos k22).trans (rfl)))))))))).symm)), N36⟩
                  · refine o_ifN B46 302 305 at_302 rfl (XT.i0_eq_f k22) ?_
                    refine o_aload B46 305 307 (v := (.ref a28)) at_305 rfl rfl rfl ?_
                    refine o_aload B46 307 309 (v := (.ref a22)) at_307 rfl rfl rfl ?_
                    refine o_iload B46 309 311 (v := (q0_23 x0 x1 x2 x3 x4 x5)) at_309 rfl rfl ?_
                    refine o_iconst B46 311 312 (2 : Int32) at_311 rfl (by decide) ?_
                    obtain ⟨T47, B47, c47⟩ := o_callP B46 312 315 at_312 rfl (hw _ (List.mem_of_getElem? (i := 19) rfl)) (hw _ (List.mem_of_getElem? (i := 20) rfl)) (hw _ (List.mem_of_getElem? (i := 3) rfl)) (hw _ (List.mem_of_getElem? (i := 21) rfl)) (by decide) (rm6_2_2 l Z a0 hw (o2_2_0 (w0_22 x0 x1 x2 x3 x4 x5) (q0_15 x0 x1 x2 x3 x4 x5)) (w0_22 x0 x1 x2 x3 x4 x5) a28 a22 (q0_23 x0 x1 x2 x3 x4 x5) T36.heap O36_0 F43) 0 [(.ref a28), (.ref a22), (.int (q0_23 x0 x1 x2 x3 x4 x5)), (.int (2 : Int32))] [] pd___I_III_Z rfl rfl (st := [(.int (2 : Int32)), (.int (q0_23 x0 x1 x2 x3 x4 x5)), (.ref a22), (.ref a28)]) rfl (Ls := #[.val (.int x0), .val (.int x1), .val (.int x2), .val (.int x3), .val (.int x4), .val (.int x5), .val (.int (2 : Int32)), .val (.int (q0_15 x0 x1 x2 x3 x4 x5)), .val (.ref a22), .val (.ref a28), .val (.int (q0_23 x0 x1 x2 x3 x4 x5)), .val (.long (q0_24 x0 x1 x2 x3 x4 x5)), .second]) rfl (Nat.le_of_eq rfl) (by decide) (by decide) (by decide) (by decide)
                    refine c47 ?_
                    by_cases k23 : (q0_31 x0 x1 x2 x3 x4 x5) = 0
                    · refine o_ifY B47 315 335 at_315 (XT.i0_eq_t k23) (by decide) (by decide) ?_
                      refine o_iconst B47 335 336 (0 : Int32) at_335 rfl (by decide) ?_
                      refine o_retZ (t := .boolean) B47 336 at_336 hret hlk (by simp) (by decide) (by decide) ⟨(congrArg (fun z => some (Value.int z)) ((show nar .boolean (0 : Int32) = (0 : Int32) from rfl).trans (show f0 x0 x1 x2 x3 x4 x5 = (0 : Int32) from (if_neg k1).trans ((if_pos k13).trans ((if_neg k14).trans ((if_neg k17).trans ((if_pos k18).trans ((if_neg k19).trans ((if_pos k20).trans ((if_neg k21).trans ((if_neg k22).trans ((if_pos k23).trans (rfl))))))))))).symm)), N36⟩
                    · refine o_ifN B47 315 318 at_315 rfl (XT.i0_eq_f k23) ?_
                      refine o_aload B47 318 320 (v := (.ref a28)) at_318 rfl rfl rfl ?_
                      refine o_aload B47 320 322 (v := (.ref a22)) at_320 rfl rfl rfl ?_
                      refine o_iload B47 322 324 (v := (q0_23 x0 x1 x2 x3 x4 x5)) at_322 rfl rfl ?_
                      refine o_iconst B47 324 325 (3 : Int32) at_324 rfl (by decide) ?_
                      obtain ⟨T48, B48, c48⟩ := o_callP B47 325 328 at_325 rfl (hw _ (List.mem_of_getElem? (i := 19) rfl)) (hw _ (List.mem_of_getElem? (i := 20) rfl)) (hw _ (List.mem_of_getElem? (i := 3) rfl)) (hw _ (List.mem_of_getElem? (i := 21) rfl)) (by decide) (rm6_2_3 l Z a0 hw (o2_2_0 (w0_22 x0 x1 x2 x3 x4 x5) (q0_15 x0 x1 x2 x3 x4 x5)) (w0_22 x0 x1 x2 x3 x4 x5) a28 a22 (q0_23 x0 x1 x2 x3 x4 x5) T36.heap O36_0 F43) 0 [(.ref a28), (.ref a22), (.int (q0_23 x0 x1 x2 x3 x4 x5)), (.int (3 : Int32))] [] pd___I_III_Z rfl rfl (st := [(.int (3 : Int32)), (.int (q0_23 x0 x1 x2 x3 x4 x5)), (.ref a22), (.ref a28)]) rfl (Ls := #[.val (.int x0), .val (.int x1), .val (.int x2), .val (.int x3), .val (.int x4), .val (.int x5), .val (.int (2 : Int32)), .val (.int (q0_15 x0 x1 x2 x3 x4 x5)), .val (.ref a22), .val (.ref a28), .val (.int (q0_23 x0 x1 x2 x3 x4 x5)), .val (.long (q0_24 x0 x1 x2 x3 x4 x5)), .second]) rfl (Nat.le_of_eq rfl) (by decide) (by decide) (by decide) (by decide)
                      refine c48 ?_
                      by_cases k24 : (q0_32 x0 x1 x2 x3 x4 x5) = 0
                      · refine o_ifY B48 328 335 at_328 (XT.i0_eq_t k24) (by decide) (by decide) ?_
                        refine o_iconst B48 335 336 (0 : Int32) at_335 rfl (by decide) ?_
                        refine o_retZ (t := .boolean) B48 336 at_336 hret hlk (by simp) (by decide) (by decide) ⟨(congrArg (fun z => some (Value.int z)) ((show nar .boolean (0 : Int32) = (0 : Int32) from rfl).trans (show f0 x0 x1 x2 x3 x4 x5 = (0 : Int32) from (if_neg k1).trans ((if_pos k13).trans ((if_neg k14).trans ((if_neg k17).trans ((if_pos k18).trans ((if_neg k19).trans ((if_pos k20).trans ((if_neg k21).trans ((if_neg k22).trans ((if_neg k23).trans ((if_pos k24).trans (rfl)))))))))))).symm)), N36⟩
                      · refine o_ifN B48 328 331 at_328 rfl (XT.i0_eq_f k24) ?_
                        refine o_iconst B48 331 332 (1 : Int32) at_331 rfl (by decide) ?_
                        refine o_goto B48 332 336 at_332 (by decide) (by decide) ?_
                        refine o_retZ (t := .boolean) B48 336 at_336 hret hlk (by simp) (by decide) (by decide) ⟨(congrArg (fun z => some (Value.int z)) ((show nar .boolean (1 : Int32) = (1 : Int32) from rfl).trans (show f0 x0 x1 x2 x3 x4 x5 = (1 : Int32) from (if_neg k1).trans ((if_pos k13).trans ((if_neg k14).trans ((if_neg k17).trans ((if_pos k18).trans ((if_neg k19).trans ((if_pos k20).trans ((if_neg k21).trans ((if_neg k22).trans ((if_neg k23).trans ((if_neg k24).trans (rfl)))))))))))).symm)), N36⟩
              · refine o_ifN B44 274 277 at_274 rfl (XT.ll_eq_f k20) ?_
                refine o_iconst B44 277 278 (0 : Int32) at_277 rfl (by decide) ?_
                refine o_retZ (t := .boolean) B44 278 at_278 hret hlk (by simp) (by decide) (by decide) ⟨(congrArg (fun z => some (Value.int z)) ((show nar .boolean (0 : Int32) = (0 : Int32) from rfl).trans (show f0 x0 x1 x2 x3 x4 x5 = (0 : Int32) from (if_neg k1).trans ((if_pos k13).trans ((if_neg k14).trans ((if_neg k17).trans ((if_pos k18).trans ((if_neg k19).trans ((if_neg k20).trans (rfl)))))))).symm)), N36⟩
          · refine o_icN B37 240 243 at_240 rfl (XT.ii_lt_f k18) ?_
            refine o_iconst B37 243 244 (0 : Int32) at_243 rfl (by decide) ?_
            refine o_retZ (t := .boolean) B37 244 at_244 hret hlk (by simp) (by decide) (by decide) ⟨(congrArg (fun z => some (Value.int z)) ((show nar .boolean (0 : Int32) = (0 : Int32) from rfl).trans (show f0 x0 x1 x2 x3 x4 x5 = (0 : Int32) from (if_neg k1).trans ((if_pos k13).trans ((if_neg k14).trans ((if_neg k17).trans ((if_neg k18).trans (rfl)))))).symm)), N36⟩
    · by_cases k25 : ((1 : Int32) + (x0 &&& (3 : Int32))) = (3 : Int32)
      · rw [k25]
        refine o_iload B 7 9 (v := (3 : Int32)) at_7 rfl rfl ?_
        refine o_iloadN B 9 10 (v := x1) at_9 rfl rfl ?_
        refine o_bipush B 10 12 (15 : Int32) at_10 rfl (by decide) ?_
        refine o_iand B 12 13 at_12 rfl ?_
        refine o_iadd B 13 14 at_13 rfl ?_
        refine o_istore B 14 16 (l' := #[.val (.int x0), .val (.int x1), .val (.int x2), .val (.int x3), .val (.int x4), .val (.int x5), .val (.int (3 : Int32)), .val (.int (q0_33 x0 x1 x2 x3 x4 x5)), .unset, .unset, .unset, .unset, .unset]) at_14 rfl rfl ?_
        refine o_iload B 16 18 (v := (3 : Int32)) at_16 rfl rfl ?_
        obtain ⟨a49, T49, h49, z49, B49, E49, A49, c49⟩ := o_newI B 18 20 (ty := .int) (z := (3 : Int32)) 3 3 (hw _ (List.mem_of_getElem? (i := 0) rfl)) at_18 rfl rfl rfl (by decide) (by decide) (by decide) (by decide) (by decide) (by decide) (Ls := #[.val (.int x0), .val (.int x1), .val (.int x2), .val (.int x3), .val (.int x4), .val (.int x5), .val (.int (3 : Int32)), .val (.int (q0_33 x0 x1 x2 x3 x4 x5)), .unset, .unset, .unset, .unset, .unset]) (rest := [])
        have g49 : n0 ≤ a49 := by rw [z49]; exact hz
        have s49 : n0 ≤ h49.size := Nat.le_trans hz E49.1
        refine c49 ?_
        refine o_astore B49 20 22 (l' := #[.val (.int x0), .val (.int x1), .val (.int x2), .val (.int x3), .val (.int x4), .val (.int x5), .val (.int (3 : Int32)), .val (.int (q0_33 x0 x1 x2 x3 x4 x5)), .val (.ref a49), .unset, .unset, .unset, .unset]) at_20 rfl rfl rfl ?_
        refine o_aload B49 22 24 (v := (.ref a49)) at_22 rfl rfl rfl ?_
        refine o_iconst B49 24 25 (0 : Int32) at_24 rfl (by decide) ?_
        refine o_iconst B49 25 26 (0 : Int32) at_25 rfl (by decide) ?_
        refine o_iload B49 26 28 (v := (q0_33 x0 x1 x2 x3 x4 x5)) at_26 rfl rfl ?_
        refine o_iload B49 28 30 (v := (3 : Int32)) at_28 rfl rfl ?_
        refine o_isub B49 30 31 at_30 rfl ?_
        refine o_iloadN B49 31 32 (v := x2) at_31 rfl rfl ?_
        obtain ⟨T50, B50, c50⟩ := o_callP B49 32 35 at_32 rfl (hw _ (List.mem_of_getElem? (i := 1) rfl)) (hw _ (List.mem_of_getElem? (i := 2) rfl)) (hw _ (List.mem_of_getElem? (i := 3) rfl)) (hw _ (List.mem_of_getElem? (i := 4) rfl)) (by decide) (rm1 l Z a0 hw (0 : Int32) ((q0_33 x0 x1 x2 x3 x4 x5) - (3 : Int32)) x2 h49  (own_p3_0 x0 x1 x2 x3 x4 x5)) 2 [(.int (0 : Int32)), (.int ((q0_33 x0 x1 x2 x3 x4 x5) - (3 : Int32))), (.int x2)] [(.int (0 : Int32)), (.ref a49)] pd__III_I rfl rfl (st := [(.int x2), (.int ((q0_33 x0 x1 x2 x3 x4 x5) - (3 : Int32))), (.int (0 : Int32)), (.int (0 : Int32)), (.ref a49)]) rfl (Ls := #[.val (.int x0), .val (.int x1), .val (.int x2), .val (.int x3), .val (.int x4), .val (.int x5), .val (.int (3 : Int32)), .val (.int (q0_33 x0 x1 x2 x3 x4 x5)), .val (.ref a49), .unset, .unset, .unset, .unset]) rfl (Nat.le_of_eq rfl) (by decide) (by decide) (by decide) (by decide)
        refine c50 ?_
        obtain ⟨T51, h51, L51, B51, N51, W51, Q51, c51⟩ := o_iastore B50 N0 g49 35 36 A49 (j := (0 : Int32)) (x := (q0_34 x0 x1 x2 x3 x4 x5)) 0 (q0_35 x0 x1 x2 x3 x4 x5) at_35 rfl (by decide) (by decide) (by decide) rfl (Ls := #[.val (.int x0), .val (.int x1), .val (.int x2), .val (.int x3), .val (.int x4), .val (.int x5), .val (.int (3 : Int32)), .val (.int (q0_33 x0 x1 x2 x3 x4 x5)), .val (.ref a49), .unset, .unset, .unset, .unset]) (rest := [])
        have A51 : AI Z h51 a49 .int 3 (w0_36 x0 x1 x2 x3 x4 x5) := Q51
        refine c51 ?_
        refine o_iload B51 36 38 (v := (3 : Int32)) at_36 rfl rfl ?_
        refine o_iconst B51 38 39 (1 : Int32) at_38 rfl (by decide) ?_
        refine o_icN B51 39 42 at_39 rfl (XT.ii_le_f (by decide)) ?_
        refine o_aload B51 42 44 (v := (.ref a49)) at_42 rfl rfl rfl ?_
        refine o_iconst B51 44 45 (1 : Int32) at_44 rfl (by decide) ?_
        refine o_aload B51 45 47 (v := (.ref a49)) at_45 rfl rfl rfl ?_
        refine o_iconst B51 47 48 (0 : Int32) at_47 rfl (by decide) ?_
        refine o_iaload B51 48 49 A51 0 (q0_35 x0 x1 x2 x3 x4 x5) at_48 rfl (by decide) (by decide) (by decide) rfl ?_
        refine o_iconst B51 49 50 (1 : Int32) at_49 rfl (by decide) ?_
        refine o_iadd B51 50 51 at_50 rfl ?_
        refine o_iload B51 51 53 (v := (q0_33 x0 x1 x2 x3 x4 x5)) at_51 rfl rfl ?_
        refine o_iload B51 53 55 (v := (3 : Int32)) at_53 rfl rfl ?_
        refine o_isub B51 55 56 at_55 rfl ?_
        refine o_iconst B51 56 57 (1 : Int32) at_56 rfl (by decide) ?_
        refine o_iadd B51 57 58 at_57 rfl ?_
        refine o_iloadN B51 58 59 (v := x3) at_58 rfl rfl ?_
        obtain ⟨T53, B53, c53⟩ := o_callP B51 59 62 at_59 rfl (hw _ (List.mem_of_getElem? (i := 1) rfl)) (hw _ (List.mem_of_getElem? (i := 2) rfl)) (hw _ (List.mem_of_getElem? (i := 3) rfl)) (hw _ (List.mem_of_getElem? (i := 4) rfl)) (by decide) (rm1 l Z a0 hw ((q0_35 x0 x1 x2 x3 x4 x5) + (1 : Int32)) (q0_37 x0 x1 x2 x3 x4 x5) x3 h51  (own_p3_1 x0 x1 x2 x3 x4 x5)) 2 [(.int ((q0_35 x0 x1 x2 x3 x4 x5) + (1 : Int32))), (.int (q0_37 x0 x1 x2 x3 x4 x5)), (.int x3)] [(.int (1 : Int32)), (.ref a49)] pd__III_I rfl rfl (st := [(.int x3), (.int (q0_37 x0 x1 x2 x3 x4 x5)), (.int ((q0_35 x0 x1 x2 x3 x4 x5) + (1 : Int32))), (.int (1 : Int32)), (.ref a49)]) rfl (Ls := #[.val (.int x0), .val (.int x1), .val (.int x2), .val (.int x3), .val (.int x4), .val (.int x5), .val (.int (3 : Int32)), .val (.int (q0_33 x0 x1 x2 x3 x4 x5)), .val (.ref a49), .unset, .unset, .unset, .unset]) rfl (Nat.le_of_eq rfl) (by decide) (by decide) (by decide) (by decide)
        refine c53 ?_
        obtain ⟨T54, h54, L54, B54, N54, W54, Q54, c54⟩ := o_iastore B53 N51 g49 62 63 A51 (j := (1 : Int32)) (x := (q0_38 x0 x1 x2 x3 x4 x5)) 1 (q0_39 x0 x1 x2 x3 x4 x5) at_62 rfl (by decide) (by decide) (by decide) rfl (Ls := #[.val (.int x0), .val (.int x1), .val (.int x2), .val (.int x3), .val (.int x4), .val (.int x5), .val (.int (3 : Int32)), .val (.int (q0_33 x0 x1 x2 x3 x4 x5)), .val (.ref a49), .unset, .unset, .unset, .unset]) (rest := [])
        have A54 : AI Z h54 a49 .int 3 (w0_40 x0 x1 x2 x3 x4 x5) := Q54
        refine c54 ?_
        refine o_iload B54 63 65 (v := (3 : Int32)) at_63 rfl rfl ?_
        refine o_iconst B54 65 66 (2 : Int32) at_65 rfl (by decide) ?_
        refine o_icN B54 66 69 at_66 rfl (XT.ii_le_f (by decide)) ?_
        refine o_aload B54 69 71 (v := (.ref a49)) at_69 rfl rfl rfl ?_
        refine o_iconst B54 71 72 (2 : Int32) at_71 rfl (by decide) ?_
        refine o_aload B54 72 74 (v := (.ref a49)) at_72 rfl rfl rfl ?_
        refine o_iconst B54 74 75 (1 : Int32) at_74 rfl (by decide) ?_
        refine o_iaload B54 75 76 A54 1 (q0_39 x0 x1 x2 x3 x4 x5) at_75 rfl (by decide) (by decide) (by decide) rfl ?_
        refine o_iconst B54 76 77 (1 : Int32) at_76 rfl (by decide) ?_
        refine o_iadd B54 77 78 at_77 rfl ?_
        refine o_iload B54 78 80 (v := (q0_33 x0 x1 x2 x3 x4 x5)) at_78 rfl rfl ?_
        refine o_iload B54 80 82 (v := (3 : Int32)) at_80 rfl rfl ?_
        refine o_isub B54 82 83 at_82 rfl ?_
        refine o_iconst B54 83 84 (2 : Int32) at_83 rfl (by decide) ?_
        refine o_iadd B54 84 85 at_84 rfl ?_
        refine o_iload B54 85 87 (v := x4) at_85 rfl rfl ?_
        obtain ⟨T56, B56, c56⟩ := o_callP B54 87 90 at_87 rfl (hw _ (List.mem_of_getElem? (i := 1) rfl)) (hw _ (List.mem_of_getElem? (i := 2) rfl)) (hw _ (List.mem_of_getElem? (i := 3) rfl)) (hw _ (List.mem_of_getElem? (i := 4) rfl)) (by decide) (rm1 l Z a0 hw ((q0_39 x0 x1 x2 x3 x4 x5) + (1 : Int32)) (q0_41 x0 x1 x2 x3 x4 x5) x4 h54  (own_p3_2 x0 x1 x2 x3 x4 x5)) 2 [(.int ((q0_39 x0 x1 x2 x3 x4 x5) + (1 : Int32))), (.int (q0_41 x0 x1 x2 x3 x4 x5)), (.int x4)] [(.int (2 : Int32)), (.ref a49)] pd__III_I rfl rfl (st := [(.int x4), (.int (q0_41 x0 x1 x2 x3 x4 x5)), (.int ((q0_39 x0 x1 x2 x3 x4 x5) + (1 : Int32))), (.int (2 : Int32)), (.ref a49)]) rfl (Ls := #[.val (.int x0), .val (.int x1), .val (.int x2), .val (.int x3), .val (.int x4), .val (.int x5), .val (.int (3 : Int32)), .val (.int (q0_33 x0 x1 x2 x3 x4 x5)), .val (.ref a49), .unset, .unset, .unset, .unset]) rfl (Nat.le_of_eq rfl) (by decide) (by decide) (by decide) (by decide)
        refine c56 ?_
        obtain ⟨T57, h57, L57, B57, N57, W57, Q57, c57⟩ := o_iastore B56 N54 g49 90 91 A54 (j := (2 : Int32)) (x := (q0_42 x0 x1 x2 x3 x4 x5)) 2 (q0_43 x0 x1 x2 x3 x4 x5) at_90 rfl (by decide) (by decide) (by decide) rfl (Ls := #[.val (.int x0), .val (.int x1), .val (.int x2), .val (.int x3), .val (.int x4), .val (.int x5), .val (.int (3 : Int32)), .val (.int (q0_33 x0 x1 x2 x3 x4 x5)), .val (.ref a49), .unset, .unset, .unset, .unset]) (rest := [])
        have A57 : AI Z h57 a49 .int 3 (w0_44 x0 x1 x2 x3 x4 x5) := Q57
        refine c57 ?_
        refine o_iload B57 91 93 (v := (3 : Int32)) at_91 rfl rfl ?_
        refine o_iconst B57 93 94 (3 : Int32) at_93 rfl (by decide) ?_
        refine o_icY B57 94 119 at_94 (XT.ii_le_t (by decide)) (by decide) (by decide) ?_
        refine o_iload B57 119 121 (v := (3 : Int32)) at_119 rfl rfl ?_
        obtain ⟨a58, T58, h58, z58, B58, E58, A58, c58⟩ := o_newI B57 121 123 (ty := .int) (z := (3 : Int32)) 3 3 (hw _ (List.mem_of_getElem? (i := 0) rfl)) at_121 rfl rfl rfl (by decide) (by decide) (by decide) (by decide) (by decide) (by decide) (Ls := #[.val (.int x0), .val (.int x1), .val (.int x2), .val (.int x3), .val (.int x4), .val (.int x5), .val (.int (3 : Int32)), .val (.int (q0_33 x0 x1 x2 x3 x4 x5)), .val (.ref a49), .unset, .unset, .unset, .unset]) (rest := [])
        have ne59 : a49 ≠ a58 := by rw [z58]; exact Nat.ne_of_lt A57.lt
        have g58 : n0 ≤ a58 := by rw [z58]; exact (W57.size ▸ (W54.size ▸ (W51.size ▸ s49)))
        have s58 : n0 ≤ h58.size := Nat.le_trans (W57.size ▸ (W54.size ▸ (W51.size ▸ s49))) E58.1
        refine c58 ?_
        refine o_astore B58 123 125 (l' := #[.val (.int x0), .val (.int x1), .val (.int x2), .val (.int x3), .val (.int x4), .val (.int x5), .val (.int (3 : Int32)), .val (.int (q0_33 x0 x1 x2 x3 x4 x5)), .val (.ref a49), .val (.ref a58), .unset, .unset, .unset]) at_123 rfl rfl rfl ?_
        refine o_aload B58 125 127 (v := (.ref a58)) at_125 rfl rfl rfl ?_
        refine o_iconst B58 127 128 (0 : Int32) at_127 rfl (by decide) ?_
        refine o_aload B58 128 130 (v := (.ref a49)) at_128 rfl rfl rfl ?_
        refine o_iconst B58 130 131 (0 : Int32) at_130 rfl (by decide) ?_
        have F61 := (A57.ext E58)
        refine o_iaload B58 131 132 F61 0 (q0_35 x0 x1 x2 x3 x4 x5) at_131 rfl (by decide) (by decide) (by decide) rfl ?_
        obtain ⟨T62, h62, L62, B62, N62, W62, Q62, c62⟩ := o_iastore B58 N57 g58 132 133 A58 (j := (0 : Int32)) (x := (q0_35 x0 x1 x2 x3 x4 x5)) 0 (q0_35 x0 x1 x2 x3 x4 x5) at_132 rfl (by decide) (by decide) (by decide) rfl (Ls := #[.val (.int x0), .val (.int x1), .val (.int x2), .val (.int x3), .val (.int x4), .val (.int x5), .val (.int (3 : Int32)), .val (.int (q0_33 x0 x1 x2 x3 x4 x5)), .val (.ref a49), .val (.ref a58), .unset, .unset, .unset]) (rest := [])
        have A62 : AI Z h62 a58 .int 3 (w0_36 x0 x1 x2 x3 x4 x5) := Q62
        refine c62 ?_
        refine o_iload B62 133 135 (v := (3 : Int32)) at_133 rfl rfl ?_
        refine o_iconst B62 135 136 (1 : Int32) at_135 rfl (by decide) ?_
        refine o_icN B62 136 139 at_136 rfl (XT.ii_le_f (by decide)) ?_
        refine o_aload B62 139 141 (v := (.ref a58)) at_139 rfl rfl rfl ?_
        refine o_iconst B62 141 142 (1 : Int32) at_141 rfl (by decide) ?_
        refine o_aload B62 142 144 (v := (.ref a49)) at_142 rfl rfl rfl ?_
        refine o_iconst B62 144 145 (1 : Int32) at_144 rfl (by decide) ?_
        have F64 := (F61.other W62 ne59)
        refine o_iaload B62 145 146 F64 1 (q0_39 x0 x1 x2 x3 x4 x5) at_145 rfl (by decide) (by decide) (by decide) rfl ?_
        obtain ⟨T65, h65, L65, B65, N65, W65, Q65, c65⟩ := o_iastore B62 N62 g58 146 147 A62 (j := (1 : Int32)) (x := (q0_39 x0 x1 x2 x3 x4 x5)) 1 (q0_39 x0 x1 x2 x3 x4 x5) at_146 rfl (by decide) (by decide) (by decide) rfl (Ls := #[.val (.int x0), .val (.int x1), .val (.int x2), .val (.int x3), .val (.int x4), .val (.int x5), .val (.int (3 : Int32)), .val (.int (q0_33 x0 x1 x2 x3 x4 x5)), .val (.ref a49), .val (.ref a58), .unset, .unset, .unset]) (rest := [])
        have A65 : AI Z h65 a58 .int 3 (w0_40 x0 x1 x2 x3 x4 x5) := Q65
        refine c65 ?_
        refine o_iload B65 147 149 (v := (3 : Int32)) at_147 rfl rfl ?_
        refine o_iconst B65 149 150 (2 : Int32) at_149 rfl (by decide) ?_
        refine o_icN B65 150 153 at_150 rfl (XT.ii_le_f (by decide)) ?_
        refine o_aload B65 153 155 (v := (.ref a58)) at_153 rfl rfl rfl ?_
        refine o_iconst B65 155 156 (2 : Int32) at_155 rfl (by decide) ?_
        refine o_aload B65 156 158 (v := (.ref a49)) at_156 rfl rfl rfl ?_
        refine o_iconst B65 158 159 (2 : Int32) at_158 rfl (by decide) ?_
        have F67 := (F64.other W65 ne59)
        refine o_iaload B65 159 160 F67 2 (q0_43 x0 x1 x2 x3 x4 x5) at_159 rfl (by decide) (by decide) (by decide) rfl ?_
        obtain ⟨T68, h68, L68, B68, N68, W68, Q68, c68⟩ := o_iastore B65 N65 g58 160 161 A65 (j := (2 : Int32)) (x := (q0_43 x0 x1 x2 x3 x4 x5)) 2 (q0_43 x0 x1 x2 x3 x4 x5) at_160 rfl (by decide) (by decide) (by decide) rfl (Ls := #[.val (.int x0), .val (.int x1), .val (.int x2), .val (.int x3), .val (.int x4), .val (.int x5), .val (.int (3 : Int32)), .val (.int (q0_33 x0 x1 x2 x3 x4 x5)), .val (.ref a49), .val (.ref a58), .unset, .unset, .unset]) (rest := [])
        have A68 : AI Z h68 a58 .int 3 (w0_44 x0 x1 x2 x3 x4 x5) := Q68
        refine c68 ?_
        refine o_iload B68 161 163 (v := (3 : Int32)) at_161 rfl rfl ?_
        refine o_iconst B68 163 164 (3 : Int32) at_163 rfl (by decide) ?_
        refine o_icY B68 164 175 at_164 (XT.ii_le_t (by decide)) (by decide) (by decide) ?_
        refine o_aload B68 175 177 (v := (.ref a58)) at_175 rfl rfl rfl ?_
        refine o_iload B68 177 179 (v := (q0_33 x0 x1 x2 x3 x4 x5)) at_177 rfl rfl ?_
        obtain ⟨v69, T69, L69, B69, Q69, c69⟩ := o_callS B68 179 182 at_179 rfl (hw _ (List.mem_of_getElem? (i := 6) rfl)) (hw _ (List.mem_of_getElem? (i := 7) rfl)) (hw _ (List.mem_of_getElem? (i := 8) rfl)) (hw _ (List.mem_of_getElem? (i := 9) rfl)) (by decide) (rm2_3 l Z a0 hw (w0_44 x0 x1 x2 x3 x4 x5) a58 (q0_33 x0 x1 x2 x3 x4 x5) h68 n0 (W68.size ▸ (W65.size ▸ (W62.size ▸ s58))) A68 g58) 0 [(.ref a58), (.int (q0_33 x0 x1 x2 x3 x4 x5))] [] pd___II_I rfl rfl (st := [(.int (q0_33 x0 x1 x2 x3 x4 x5)), (.ref a58)]) rfl (Ls := #[.val (.int x0), .val (.int x1), .val (.int x2), .val (.int x3), .val (.int x4), .val (.int x5), .val (.int (3 : Int32)), .val (.int (q0_33 x0 x1 x2 x3 x4 x5)), .val (.ref a49), .val (.ref a58), .unset, .unset, .unset]) rfl (Nat.le_of_eq rfl) (by decide) (by decide) (by decide) (by decide)
        obtain ⟨rfl, M69, K69, O69_0⟩ := Q69
        have N69 := Fr.app N68 M69
        have s69 : n0 ≤ T69.heap.size := Nat.le_trans (W68.size ▸ (W65.size ▸ (W62.size ▸ s58))) K69.1
        refine c69 ?_
        show OG p.tables e below _ (T69.setTop (mkF m 182 #[.val (.int x0), .val (.int x1), .val (.int x2), .val (.int x3), .val (.int x4), .val (.int x5), .val (.int (3 : Int32)), .val (.int (q0_33 x0 x1 x2 x3 x4 x5)), .val (.ref a49), .val (.ref a58), .unset, .unset, .unset] [(.int (q0_45 x0 x1 x2 x3 x4 x5))]))
        refine o_istore B69 182 184 (l' := #[.val (.int x0), .val (.int x1), .val (.int x2), .val (.int x3), .val (.int x4), .val (.int x5), .val (.int (3 : Int32)), .val (.int (q0_33 x0 x1 x2 x3 x4 x5)), .val (.ref a49), .val (.ref a58), .val (.int (q0_45 x0 x1 x2 x3 x4 x5)), .unset, .unset]) at_182 rfl rfl ?_
        refine o_iload B69 184 186 (v := (q0_33 x0 x1 x2 x3 x4 x5)) at_184 rfl rfl ?_
        refine o_i2l B69 186 187 at_186 rfl ?_
        refine o_iload B69 187 189 (v := (3 : Int32)) at_187 rfl rfl ?_
        obtain ⟨T70, B70, c70⟩ := o_callP B69 189 192 at_189 rfl (hw _ (List.mem_of_getElem? (i := 10) rfl)) (hw _ (List.mem_of_getElem? (i := 11) rfl)) (hw _ (List.mem_of_getElem? (i := 3) rfl)) (hw _ (List.mem_of_getElem? (i := 12) rfl)) (by decide) (rm3 l Z a0 hw (q0_33 x0 x1 x2 x3 x4 x5).toInt64 (3 : Int32) T69.heap ) 0 [(.long (q0_33 x0 x1 x2 x3 x4 x5).toInt64), (.int (3 : Int32))] [] pd__JI_J rfl rfl (st := [(.int (3 : Int32)), (.long (q0_33 x0 x1 x2 x3 x4 x5).toInt64)]) rfl (Ls := #[.val (.int x0), .val (.int x1), .val (.int x2), .val (.int x3), .val (.int x4), .val (.int x5), .val (.int (3 : Int32)), .val (.int (q0_33 x0 x1 x2 x3 x4 x5)), .val (.ref a49), .val (.ref a58), .val (.int (q0_45 x0 x1 x2 x3 x4 x5)), .unset, .unset]) rfl (Nat.le_of_eq rfl) (by decide) (by decide) (by decide) (by decide)
        refine c70 ?_
        refine o_lstore B70 192 194 (l' := #[.val (.int x0), .val (.int x1), .val (.int x2), .val (.int x3), .val (.int x4), .val (.int x5), .val (.int (3 : Int32)), .val (.int (q0_33 x0 x1 x2 x3 x4 x5)), .val (.ref a49), .val (.ref a58), .val (.int (q0_45 x0 x1 x2 x3 x4 x5)), .val (.long (q0_46 x0 x1 x2 x3 x4 x5)), .second]) at_192 rfl rfl ?_
        refine o_iload B70 194 196 (v := (q0_45 x0 x1 x2 x3 x4 x5)) at_194 rfl rfl ?_
        refine o_iconst B70 196 197 (-1 : Int32) at_196 rfl (by decide) ?_
        by_cases k26 : (q0_45 x0 x1 x2 x3 x4 x5) = (-1 : Int32)
        · refine o_icN B70 197 200 at_197 rfl (XT.ii_ne_f k26) ?_
          refine o_aload B70 200 202 (v := (.ref a58)) at_200 rfl rfl rfl ?_
          refine o_aload B70 202 204 (v := (.ref a49)) at_202 rfl rfl rfl ?_
          have F71 := ((F67.other W68 ne59).keep K69 (ninS ne59 nin0))
          obtain ⟨T72, B72, c72⟩ := o_callP B70 204 207 at_204 rfl (hw _ (List.mem_of_getElem? (i := 23) rfl)) (hw _ (List.mem_of_getElem? (i := 24) rfl)) (hw _ (List.mem_of_getElem? (i := 3) rfl)) (hw _ (List.mem_of_getElem? (i := 25) rfl)) (by decide) (rm7_3 l Z a0 hw (o2_3_0 (w0_44 x0 x1 x2 x3 x4 x5) (q0_33 x0 x1 x2 x3 x4 x5)) (w0_44 x0 x1 x2 x3 x4 x5) a58 a49 T69.heap O69_0 F71) 0 [(.ref a58), (.ref a49)] [] pd___I_I_Z rfl rfl (st := [(.ref a49), (.ref a58)]) rfl (Ls := #[.val (.int x0), .val (.int x1), .val (.int x2), .val (.int x3), .val (.int x4), .val (.int x5), .val (.int (3 : Int32)), .val (.int (q0_33 x0 x1 x2 x3 x4 x5)), .val (.ref a49), .val (.ref a58), .val (.int (q0_45 x0 x1 x2 x3 x4 x5)), .val (.long (q0_46 x0 x1 x2 x3 x4 x5)), .second]) rfl (Nat.le_of_eq rfl) (by decide) (by decide) (by decide) (by decide)
          refine c72 ?_
          by_cases k27 : (q0_47 x0 x1 x2 x3 x4 x5) = 0
          · refine o_ifY B72 207 229 at_207 (XT.i0_eq_t k27) (by decide) (by decide) ?_
            refine o_iconst B72 229 230 (0 : Int32) at_229 rfl (by decide) ?_
            refine o_retZ (t := .boolean) B72 230 at_230 hret hlk (by simp) (by decide) (by decide) ⟨(congrArg (fun z => some (Value.int z)) ((show nar .boolean (0 : Int32) = (0 : Int32) from rfl).trans (show f0 x0 x1 x2 x3 x4 x5 = (0 : Int32) from (if_neg k1).trans ((if_neg k13).trans ((if_pos k25).trans ((if_pos k26).trans ((if_pos k27).trans (rfl)))))).symm)), N69⟩
          · refine o_ifN B72 207 210 at_207 rfl (XT.i0_eq_f k27) ?_
            refine o_aload B72 210 212 (v := (.ref a49)) at_210 rfl rfl rfl ?_
            refine o_iload B72 212 214 (v := (q0_33 x0 x1 x2 x3 x4 x5)) at_212 rfl rfl ?_
            obtain ⟨T73, B73, c73⟩ := o_callP B72 214 217 at_214 rfl (hw _ (List.mem_of_getElem? (i := 16) rfl)) (hw _ (List.mem_of_getElem? (i := 17) rfl)) (hw _ (List.mem_of_getElem? (i := 3) rfl)) (hw _ (List.mem_of_getElem? (i := 18) rfl)) (by decide) (rm5_3 l Z a0 hw (w0_44 x0 x1 x2 x3 x4 x5) a49 (q0_33 x0 x1 x2 x3 x4 x5) T69.heap F71) 0 [(.ref a49), (.int (q0_33 x0 x1 x2 x3 x4 x5))] [] pd___II_J rfl rfl (st := [(.int (q0_33 x0 x1 x2 x3 x4 x5)), (.ref a49)]) rfl (Ls := #[.val (.int x0), .val (.int x1), .val (.int x2), .val (.int x3), .val (.int x4), .val (.int x5), .val (.int (3 : Int32)), .val (.int (q0_33 x0 x1 x2 x3 x4 x5)), .val (.ref a49), .val (.ref a58), .val (.int (q0_45 x0 x1 x2 x3 x4 x5)), .val (.long (q0_46 x0 x1 x2 x3 x4 x5)), .second]) rfl (Nat.le_of_eq rfl) (by decide) (by decide) (by decide) (by decide)
            refine c73 ?_
            refine o_lload B73 217 219 (v := (q0_46 x0 x1 x2 x3 x4 x5)) at_217 rfl rfl ?_
            refine o_lconst B73 219 220 (1 : Int64) at_219 rfl (by decide) ?_
            refine o_lsub B73 220 221 at_220 rfl ?_
            refine o_lcmp B73 221 222 at_221 rfl ?_
            by_cases k28 : (q0_48 x0 x1 x2 x3 x4 x5) = ((q0_46 x0 x1 x2 x3 x4 x5) - (1 : Int64))
            · refine o_ifN B73 222 225 at_222 rfl (XT.ll_ne_f k28) ?_
              refine o_iconst B73 225 226 (1 : Int32) at_225 rfl (by decide) ?_
              refine o_goto B73 226 230 at_226 (by decide) (by decide) ?_
              refine o_retZ (t := .boolean) B73 230 at_230 hret hlk (by simp) (by decide) (by decide) ⟨(congrArg (fun z => some (Value.int z)) ((show nar .boolean (1 : Int32) = (1 : Int32) from rfl).trans (show f0 x0 x1 x2 x3 x4 x5 = (1 : Int32) from (if_neg k1).trans ((if_neg k13).trans ((if_pos k25).trans ((if_pos k26).trans ((if_neg k27).trans ((if_pos k28).trans (rfl))))))).symm)), N69⟩
            · refine o_ifY B73 222 229 at_222 (XT.ll_ne_t k28) (by decide) (by decide) ?_
              refine o_iconst B73 229 230 (0 : Int32) at_229 rfl (by decide) ?_
              refine o_retZ (t := .boolean) B73 230 at_230 hret hlk (by simp) (by decide) (by decide) ⟨(congrArg (fun z => some (Value.int z)) ((show nar .boolean (0 : Int32) = (0 : Int32) from rfl).trans (show f0 x0 x1 x2 x3 x4 x5 = (0 : Int32) from (if_neg k1).trans ((if_neg k13).trans ((if_pos k25).trans ((if_pos k26).trans ((if_neg k27).trans ((if_neg k28).trans (rfl))))))).symm)), N69⟩
        · refine o_icY B70 197 231 at_197 (XT.ii_ne_t k26) (by decide) (by decide) ?_
          refine o_iload B70 231 233 (v := (q0_45 x0 x1 x2 x3 x4 x5)) at_231 rfl rfl ?_
          by_cases k29 : (q0_45 x0 x1 x2 x3 x4 x5) < 0
          · refine o_ifY B70 233 243 at_233 (XT.i0_lt_t k29) (by decide) (by decide) ?_
            refine o_iconst B70 243 244 (0 : Int32) at_243 rfl (by decide) ?_
            refine o_retZ (t := .boolean) B70 244 at_244 hret hlk (by simp) (by decide) (by decide) ⟨(congrArg (fun z => some (Value.int z)) ((show nar .boolean (0 : Int32) = (0 : Int32) from rfl).trans (show f0 x0 x1 x2 x3 x4 x5 = (0 : Int32) from (if_neg k1).trans ((if_neg k13).trans ((if_pos k25).trans ((if_neg k26).trans ((if_pos k29).trans (rfl)))))).symm)), N69⟩
          · refine o_ifN B70 233 236 at_233 rfl (XT.i0_lt_f k29) ?_
            refine o_iload B70 236 238 (v := (q0_45 x0 x1 x2 x3 x4 x5)) at_236 rfl rfl ?_
            refine o_iload B70 238 240 (v := (3 : Int32)) at_238 rfl rfl ?_
            by_cases k30 : (q0_45 x0 x1 x2 x3 x4 x5) < (3 : Int32)
            · refine o_icY B70 240 245 at_240 (XT.ii_lt_t k30) (by decide) (by decide) ?_
              refine o_aload B70 245 247 (v := (.ref a58)) at_245 rfl rfl rfl ?_
              refine o_iload B70 247 249 (v := (q0_33 x0 x1 x2 x3 x4 x5)) at_247 rfl rfl ?_
              obtain ⟨T74, B74, c74⟩ := o_callP B70 249 252 at_249 rfl (hw _ (List.mem_of_getElem? (i := 13) rfl)) (hw _ (List.mem_of_getElem? (i := 14) rfl)) (hw _ (List.mem_of_getElem? (i := 3) rfl)) (hw _ (List.mem_of_getElem? (i := 15) rfl)) (by decide) (rm4_3 l Z a0 hw (o2_3_0 (w0_44 x0 x1 x2 x3 x4 x5) (q0_33 x0 x1 x2 x3 x4 x5)) a58 (q0_33 x0 x1 x2 x3 x4 x5) T69.heap O69_0) 0 [(.ref a58), (.int (q0_33 x0 x1 x2 x3 x4 x5))] [] pd___II_Z rfl rfl (st := [(.int (q0_33 x0 x1 x2 x3 x4 x5)), (.ref a58)]) rfl (Ls := #[.val (.int x0), .val (.int x1), .val (.int x2), .val (.int x3), .val (.int x4), .val (.int x5), .val (.int (3 : Int32)), .val (.int (q0_33 x0 x1 x2 x3 x4 x5)), .val (.ref a49), .val (.ref a58), .val (.int (q0_45 x0 x1 x2 x3 x4 x5)), .val (.long (q0_46 x0 x1 x2 x3 x4 x5)), .second]) rfl (Nat.le_of_eq rfl) (by decide) (by decide) (by decide) (by decide)
              refine c74 ?_
              by_cases k31 : (q0_49 x0 x1 x2 x3 x4 x5) = 0
              · refine o_ifN B74 252 255 at_252 rfl (XT.i0_ne_f k31) ?_
                refine o_iconst B74 255 256 (0 : Int32) at_255 rfl (by decide) ?_
                refine o_retZ (t := .boolean) B74 256 at_256 hret hlk (by simp) (by decide) (by decide) ⟨(congrArg (fun z => some (Value.int z)) ((show nar .boolean (0 : Int32) = (0 : Int32) from rfl).trans (show f0 x0 x1 x2 x3 x4 x5 = (0 : Int32) from (if_neg k1).trans ((if_neg k13).trans ((if_pos k25).trans ((if_neg k26).trans ((if_neg k29).trans ((if_pos k30).trans ((if_pos k31).trans (rfl)))))))).symm)), N69⟩
              · refine o_ifY B74 252 257 at_252 (XT.i0_ne_t k31) (by decide) (by decide) ?_
                refine o_aload B74 257 259 (v := (.ref a58)) at_257 rfl rfl rfl ?_
                refine o_iload B74 259 261 (v := (q0_33 x0 x1 x2 x3 x4 x5)) at_259 rfl rfl ?_
                obtain ⟨T75, B75, c75⟩ := o_callP B74 261 264 at_261 rfl (hw _ (List.mem_of_getElem? (i := 16) rfl)) (hw _ (List.mem_of_getElem? (i := 17) rfl)) (hw _ (List.mem_of_getElem? (i := 3) rfl)) (hw _ (List.mem_of_getElem? (i := 18) rfl)) (by decide) (rm5_3 l Z a0 hw (o2_3_0 (w0_44 x0 x1 x2 x3 x4 x5) (q0_33 x0 x1 x2 x3 x4 x5)) a58 (q0_33 x0 x1 x2 x3 x4 x5) T69.heap O69_0) 0 [(.ref a58), (.int (q0_33 x0 x1 x2 x3 x4 x5))] [] pd___II_J rfl rfl (st := [(.int (q0_33 x0 x1 x2 x3 x4 x5)), (.ref a58)]) rfl (Ls := #[.val (.int x0), .val (.int x1), .val (.int x2), .val (.int x3), .val (.int x4), .val (.int x5), .val (.int (3 : Int32)), .val (.int (q0_33 x0 x1 x2 x3 x4 x5)), .val (.ref a49), .val (.ref a58), .val (.int (q0_45 x0 x1 x2 x3 x4 x5)), .val (.long (q0_46 x0 x1 x2 x3 x4 x5)), .second]) rfl (Nat.le_of_eq rfl) (by decide) (by decide) (by decide) (by decide)
                refine c75 ?_
                refine o_aload B75 264 266 (v := (.ref a49)) at_264 rfl rfl rfl ?_
                refine o_iload B75 266 268 (v := (q0_33 x0 x1 x2 x3 x4 x5)) at_266 rfl rfl ?_
                have F76 := ((F67.other W68 ne59).keep K69 (ninS ne59 nin0))
                obtain ⟨T77, B77, c77⟩ := o_callP B75 268 271 at_268 rfl (hw _ (List.mem_of_getElem? (i := 16) rfl)) (hw _ (List.mem_of_getElem? (i := 17) rfl)) (hw _ (List.mem_of_getElem? (i := 3) rfl)) (hw _ (List.mem_of_getElem? (i := 18) rfl)) (by decide) (rm5_3 l Z a0 hw (w0_44 x0 x1 x2 x3 x4 x5) a49 (q0_33 x0 x1 x2 x3 x4 x5) T69.heap F76) 2 [(.ref a49), (.int (q0_33 x0 x1 x2 x3 x4 x5))] [(.long (q0_50 x0 x1 x2 x3 x4 x5))] pd___II_J rfl rfl (st := [(.int (q0_33 x0 x1 x2 x3 x4 x5)), (.ref a49), (.long (q0_50 x0 x1 x2 x3 x4 x5))]) rfl (Ls := #[.val (.int x0), .val (.int x1), .val (.int x2), .val (.int x3), .val (.int x4), .val (.int x5), .val (.int (3 : Int32)), .val (.int (q0_33 x0 x1 x2 x3 x4 x5)), .val (.ref a49), .val (.ref a58), .val (.int (q0_45 x0 x1 x2 x3 x4 x5)), .val (.long (q0_46 x0 x1 x2 x3 x4 x5)), .second]) rfl (Nat.le_of_eq rfl) (by decide) (by decide) (by decide) (by decide)
                refine c77 ?_
                refine o_lconst B77 271 272 (1 : Int64) at_271 rfl (by decide) ?_
                refine o_ladd B77 272 273 at_272 rfl ?_
                refine o_lcmp B77 273 274 at_273 rfl ?_
                by_cases k32 : (q0_50 x0 x1 x2 x3 x4 x5) = ((q0_48 x0 x1 x2 x3 x4 x5) + (1 : Int64))
                · refine o_ifY B77 274 279 at_274 (XT.ll_eq_t k32) (by decide) (by decide) ?_
                  refine o_aload B77 279 281 (v := (.ref a58)) at_279 rfl rfl rfl ?_
                  refine o_aload B77 281 283 (v := (.ref a49)) at_281 rfl rfl rfl ?_
                  refine o_iload B77 283 285 (v := (q0_45 x0 x1 x2 x3 x4 x5)) at_283 rfl rfl ?_
                  refine o_iconst B77 285 286 (0 : Int32) at_285 rfl (by decide) ?_
                  obtain ⟨T78, B78, c78⟩ := o_callP B77 286 289 at_286 rfl (hw _ (List.mem_of_getElem? (i := 19) rfl)) (hw _ (List.mem_of_getElem? (i := 20) rfl)) (hw _ (List.mem_of_getElem? (i := 3) rfl)) (hw _ (List.mem_of_getElem? (i := 21) rfl)) (by decide) (rm6_3_0 l Z a0 hw (o2_3_0 (w0_44 x0 x1 x2 x3 x4 x5) (q0_33 x0 x1 x2 x3 x4 x5)) (w0_44 x0 x1 x2 x3 x4 x5) a58 a49 (q0_45 x0 x1 x2 x3 x4 x5) T69.heap O69_0 F76) 0 [(.ref a58), (.ref a49), (.int (q0_45 x0 x1 x2 x3 x4 x5)), (.int (0 : Int32))] [] pd___I_III_Z rfl rfl (st := [(.int (0 : Int32)), (.int (q0_45 x0 x1 x2 x3 x4 x5)), (.ref a49), (.ref a58)]) rfl (Ls := #[.val (.int x0), .val (.int x1), .val (.int x2), .val (.int x3), .val (.int x4), .val (.int x5), .val (.int (3 : Int32)), .val (.int (q0_33 x0 x1 x2 x3 x4 x5)), .val (.ref a49), .val (.ref a58), .val (.int (q0_45 x0 x1 x2 x3 x4 x5)), .val (.long (q0_46 x0 x1 x2 x3 x4 x5)), .second]) rfl (Nat.le_of_eq rfl) (by decide) (by decide) (by decide) (by decide)
                  refine c78 ?_
                  by_cases k33 : (q0_51 x0 x1 x2 x3 x4 x5) = 0
                  · refine o_ifY B78 289 335 at_289 (XT.i0_eq_t k33) (by decide) (by decide) ?_
                    refine o_iconst B78 335 336 (0 : Int32) at_335 rfl (by decide) ?_
                    refine o_retZ (t := .boolean) B78 336 at_336 hret hlk (by simp) (by decide) (by decide) ⟨(congrArg (fun z => some (Value.int z)) ((show nar .boolean (0 : Int32) = (0 : Int32) from rfl).trans (show f0 x0 x1 x2 x3 x4 x5 = (0 : Int32) from (if_neg k1).trans ((if_neg k13).trans ((if_pos k25).trans ((if_neg k26).trans ((if_neg k29).trans ((if_pos k30).trans ((if_neg k31).trans ((if_pos k32).trans ((if_pos k33).trans (rfl)))))))))).symm)), N69⟩
                  · refine o_ifN B78 289 292 at_289 rfl (XT.i0_eq_f k33) ?_
                    refine o_aload B78 292 294 (v := (.ref a58)) at_292 rfl rfl rfl ?_
                    refine o_aload B78 294 296 (v := (.ref a49)) at_294 rfl rfl rfl ?_
                    refine o_iload B78 296 298 (v := (q0_45 x0 x1 x2 x3 x4 x5)) at_296 rfl rfl ?_
                    refine o_iconst B78 298 299 (1 : Int32) at_298 rfl (by decide) ?_
                    obtain ⟨T79, B79, c79⟩ := o_callP B78 299 302 at_299 rfl (hw _ (List.mem_of_getElem? (i := 19) rfl)) (hw _ (List.mem_of_getElem? (i := 20) rfl)) (hw _ (List.mem_of_getElem? (i := 3) rfl)) (hw _ (List.mem_of_getElem? (i := 21) rfl)) (by decide) (rm6_3_1 l Z a0 hw (o2_3_0 (w0_44 x0 x1 x2 x3 x4 x5) (q0_33 x0 x1 x2 x3 x4 x5)) (w0_44 x0 x1 x2 x3 x4 x5) a58 a49 (q0_45 x0 x1 x2 x3 x4 x5) T69.heap O69_0 F76) 0 [(.ref a58), (.ref a49), (.int (q0_45 x0 x1 x2 x3 x4 x5)), (.int (1 : Int32))] [] pd___I_III_Z rfl rfl (st := [(.int (1 : Int32)), (.int (q0_45 x0 x1 x2 x3 x4 x5)), (.ref a49), (.ref a58)]) rfl (Ls := #[.val (.int x0), .val (.int x1), .val (.int x2), .val (.int x3), .val (.int x4), .val (.int x5), .val (.int (3 : Int32)), .val (.int (q0_33 x0 x1 x2 x3 x4 x5)), .val (.ref a49), .val (.ref a58), .val (.int (q0_45 x0 x1 x2 x3 x4 x5)), .val (.long (q0_46 x0 x1 x2 x3 x4 x5)), .second]) rfl (Nat.le_of_eq rfl) (by decide) (by decide) (by decide) (by decide)
                    refine c79 ?_
                    by_cases k34 : (q0_52 x0 x1 x2 x3 x4 x5) = 0
                    · refine o_ifY B79 302 335 at_302 (XT.i0_eq_t k34) (by decide) (by decide) ?_
                      refine o_iconst B79 335 336 (0 : Int32) at_335 rfl (by decide) ?_
                      refine o_retZ (t := .boolean) B79 336 at_336 hret hlk (by simp) (by decide) (by decide) ⟨(congrArg (fun z => some (Value.int z)) ((show nar .boolean (0 : Int32) = (0 : Int32) from rfl).trans (show f0 x0 x1 x2 x3 x4 x5 = (0 : Int32) from (if_neg k1).trans ((if_neg k13).trans ((if_pos k25).trans ((if_neg k26).trans ((if_neg k29).trans ((if_pos k30).trans ((if_neg k31).trans ((if_pos k32).trans ((if_neg k33).trans ((if_pos k34).trans (rfl))))))))))).symm)), N69⟩
                    · refine o_ifN B79 302 305 at_302 rfl (XT.i0_eq_f k34) ?_
                      refine o_aload B79 305 307 (v := (.ref a58)) at_305 rfl rfl rfl ?_
                      refine o_aload B79 307 309 (v := (.ref a49)) at_307 rfl rfl rfl ?_
                      refine o_iload B79 309 311 (v := (q0_45 x0 x1 x2 x3 x4 x5)) at_309 rfl rfl ?_
                      refine o_iconst B79 311 312 (2 : Int32) at_311 rfl (by decide) ?_
                      obtain ⟨T80, B80, c80⟩ := o_callP B79 312 315 at_312 rfl (hw _ (List.mem_of_getElem? (i := 19) rfl)) (hw _ (List.mem_of_getElem? (i := 20) rfl)) (hw _ (List.mem_of_getElem? (i := 3) rfl)) (hw _ (List.mem_of_getElem? (i := 21) rfl)) (by decide) (rm6_3_2 l Z a0 hw (o2_3_0 (w0_44 x0 x1 x2 x3 x4 x5) (q0_33 x0 x1 x2 x3 x4 x5)) (w0_44 x0 x1 x2 x3 x4 x5) a58 a49 (q0_45 x0 x1 x2 x3 x4 x5) T69.heap O69_0 F76) 0 [(.ref a58), (.ref a49), (.int (q0_45 x0 x1 x2 x3 x4 x5)), (.int (2 : Int32))] [] pd___I_III_Z rfl rfl (st := [(.int (2 : Int32)), (.int (q0_45 x0 x1 x2 x3 x4 x5)), (.ref a49), (.ref a58)]) rfl (Ls := #[.val (.int x0), .val (.int x1), .val (.int x2), .val (.int x3), .val (.int x4), .val (.int x5), .val (.int (3 : Int32)), .val (.int (q0_33 x0 x1 x2 x3 x4 x5)), .val (.ref a49), .val (.ref a58), .val (.int (q0_45 x0 x1 x2 x3 x4 x5)), .val (.long (q0_46 x0 x1 x2 x3 x4 x5)), .second]) rfl (Nat.le_of_eq rfl) (by decide) (by decide) (by decide) (by decide)
                      refine c80 ?_
                      by_cases k35 : (q0_53 x0 x1 x2 x3 x4 x5) = 0
                      · refine o_ifY B80 315 335 at_315 (XT.i0_eq_t k35) (by decide) (by decide) ?_
                        refine o_iconst B80 335 336 (0 : Int32) at_335 rfl (by decide) ?_
                        refine o_retZ (t := .boolean) B80 336 at_336 hret hlk (by simp) (by decide) (by decide) ⟨(congrArg (fun z => some (Value.int z)) ((show nar .boolean (0 : Int32) = (0 : Int32) from rfl).trans (show f0 x0 x1 x2 x3 x4 x5 = (0 : Int32) from (if_neg k1).trans ((if_neg k13).trans ((if_pos k25).trans ((if_neg k26).trans ((if_neg k29).trans ((if_pos k30).trans ((if_neg k31).trans ((if_pos k32).trans ((if_neg k33).trans ((if_neg k34).trans ((if_pos k35).trans (rfl)))))))))))).symm)), N69⟩
                      · refine o_ifN B80 315 318 at_315 rfl (XT.i0_eq_f k35) ?_
                        refine o_aload B80 318 320 (v := (.ref a58)) at_318 rfl rfl rfl ?_
                        refine o_aload B80 320 322 (v := (.ref a49)) at_320 rfl rfl rfl ?_
                        refine o_iload B80 322 324 (v := (q0_45 x0 x1 x2 x3 x4 x5)) at_322 rfl rfl ?_
                        refine o_iconst B80 324 325 (3 : Int32) at_324 rfl (by decide) ?_
                        obtain ⟨T81, B81, c81⟩ := o_callP B80 325 328 at_325 rfl (hw _ (List.mem_of_getElem? (i := 19) rfl)) (hw _ (List.mem_of_getElem? (i := 20) rfl)) (hw _ (List.mem_of_getElem? (i := 3) rfl)) (hw _ (List.mem_of_getElem? (i := 21) rfl)) (by decide) (rm6_3_3 l Z a0 hw (o2_3_0 (w0_44 x0 x1 x2 x3 x4 x5) (q0_33 x0 x1 x2 x3 x4 x5)) (w0_44 x0 x1 x2 x3 x4 x5) a58 a49 (q0_45 x0 x1 x2 x3 x4 x5) T69.heap O69_0 F76) 0 [(.ref a58), (.ref a49), (.int (q0_45 x0 x1 x2 x3 x4 x5)), (.int (3 : Int32))] [] pd___I_III_Z rfl rfl (st := [(.int (3 : Int32)), (.int (q0_45 x0 x1 x2 x3 x4 x5)), (.ref a49), (.ref a58)]) rfl (Ls := #[.val (.int x0), .val (.int x1), .val (.int x2), .val (.int x3), .val (.int x4), .val (.int x5), .val (.int (3 : Int32)), .val (.int (q0_33 x0 x1 x2 x3 x4 x5)), .val (.ref a49), .val (.ref a58), .val (.int (q0_45 x0 x1 x2 x3 x4 x5)), .val (.long (q0_46 x0 x1 x2 x3 x4 x5)), .second]) rfl (Nat.le_of_eq rfl) (by decide) (by decide) (by decide) (by decide)
                        refine c81 ?_
                        by_cases k36 : (q0_54 x0 x1 x2 x3 x4 x5) = 0
                        · refine o_ifY B81 328 335 at_328 (XT.i0_eq_t k36) (by decide) (by decide) ?_
                          refine o_iconst B81 335 336 (0 : Int32) at_335 rfl (by decide) ?_
                          refine o_retZ (t := .boolean) B81 336 at_336 hret hlk (by simp) (by decide) (by decide) ⟨(congrArg (fun z => some (Value.int z)) ((show nar .boolean (0 : Int32) = (0 : Int32) from rfl).trans (show f0 x0 x1 x2 x3 x4 x5 = (0 : Int32) from (if_neg k1).trans ((if_neg k13).trans ((if_pos k25).trans ((if_neg k26).trans ((if_neg k29).trans ((if_pos k30).trans ((if_neg k31).trans ((if_pos k32).trans ((if_neg k33).trans ((if_neg k34).trans ((if_neg k35).trans ((if_pos k36).trans (rfl))))))))))))).symm)), N69⟩
                        · refine o_ifN B81 328 331 at_328 rfl (XT.i0_eq_f k36) ?_
                          refine o_iconst B81 331 332 (1 : Int32) at_331 rfl (by decide) ?_
                          refine o_goto B81 332 336 at_332 (by decide) (by decide) ?_
                          refine o_retZ (t := .boolean) B81 336 at_336 hret hlk (by simp) (by decide) (by decide) ⟨(congrArg (fun z => some (Value.int z)) ((show nar .boolean (1 : Int32) = (1 : Int32) from rfl).trans (show f0 x0 x1 x2 x3 x4 x5 = (1 : Int32) from (if_neg k1).trans ((if_neg k13).trans ((if_pos k25).trans ((if_neg k26).trans ((if_neg k29).trans ((if_pos k30).trans ((if_neg k31).trans ((if_pos k32).trans ((if_neg k33).trans ((if_neg k34).trans ((if_neg k35).trans ((if_neg k36).trans (rfl))))))))))))).symm)), N69⟩
                · refine o_ifN B77 274 277 at_274 rfl (XT.ll_eq_f k32) ?_
                  refine o_iconst B77 277 278 (0 : Int32) at_277 rfl (by decide) ?_
                  refine o_retZ (t := .boolean) B77 278 at_278 hret hlk (by simp) (by decide) (by decide) ⟨(congrArg (fun z => some (Value.int z)) ((show nar .boolean (0 : Int32) = (0 : Int32) from rfl).trans (show f0 x0 x1 x2 x3 x4 x5 = (0 : Int32) from (if_neg k1).trans ((if_neg k13).trans ((if_pos k25).trans ((if_neg k26).trans ((if_neg k29).trans ((if_pos k30).trans ((if_neg k31).trans ((if_neg k32).trans (rfl))))))))).symm)), N69⟩
            · refine o_icN B70 240 243 at_240 rfl (XT.ii_lt_f k30) ?_
              refine o_iconst B70 243 244 (0 : Int32) at_243 rfl (by decide) ?_
              refine o_retZ (t := .boolean) B70 244 at_244 hret hlk (by simp) (by decide) (by decide) ⟨(congrArg (fun z => some (Value.int z)) ((show nar .boolean (0 : Int32) = (0 : Int32) from rfl).trans (show f0 x0 x1 x2 x3 x4 x5 = (0 : Int32) from (if_neg k1).trans ((if_neg k13).trans ((if_pos k25).trans ((if_neg k26).trans ((if_neg k29).trans ((if_neg k30).trans (rfl))))))).symm)), N69⟩
      · have k37 : ((1 : Int32) + (x0 &&& (3 : Int32))) = (4 : Int32) := (own_t x0 k1 k13 k25)
        rw [k37]
        refine o_iload B 7 9 (v := (4 : Int32)) at_7 rfl rfl ?_
        refine o_iloadN B 9 10 (v := x1) at_9 rfl rfl ?_
        refine o_bipush B 10 12 (15 : Int32) at_10 rfl (by decide) ?_
        refine o_iand B 12 13 at_12 rfl ?_
        refine o_iadd B 13 14 at_13 rfl ?_
        refine o_istore B 14 16 (l' := #[.val (.int x0), .val (.int x1), .val (.int x2), .val (.int x3), .val (.int x4), .val (.int x5), .val (.int (4 : Int32)), .val (.int (q0_55 x0 x1 x2 x3 x4 x5)), .unset, .unset, .unset, .unset, .unset]) at_14 rfl rfl ?_
        refine o_iload B 16 18 (v := (4 : Int32)) at_16 rfl rfl ?_
        obtain ⟨a82, T82, h82, z82, B82, E82, A82, c82⟩ := o_newI B 18 20 (ty := .int) (z := (4 : Int32)) 4 4 (hw _ (List.mem_of_getElem? (i := 0) rfl)) at_18 rfl rfl rfl (by decide) (by decide) (by decide) (by decide) (by decide) (by decide) (Ls := #[.val (.int x0), .val (.int x1), .val (.int x2), .val (.int x3), .val (.int x4), .val (.int x5), .val (.int (4 : Int32)), .val (.int (q0_55 x0 x1 x2 x3 x4 x5)), .unset, .unset, .unset, .unset, .unset]) (rest := [])
        have g82 : n0 ≤ a82 := by rw [z82]; exact hz
        have s82 : n0 ≤ h82.size := Nat.le_trans hz E82.1
        refine c82 ?_
        refine o_astore B82 20 22 (l' := #[.val (.int x0), .val (.int x1), .val (.int x2), .val (.int x3), .val (.int x4), .val (.int x5), .val (.int (4 : Int32)), .val (.int (q0_55 x0 x1 x2 x3 x4 x5)), .val (.ref a82), .unset, .unset, .unset, .unset]) at_20 rfl rfl rfl ?_
        refine o_aload B82 22 24 (v := (.ref a82)) at_22 rfl rfl rfl ?_
        refine o_iconst B82 24 25 (0 : Int32) at_24 rfl (by decide) ?_
        refine o_iconst B82 25 26 (0 : Int32) at_25 rfl (by decide) ?_
        refine o_iload B82 26 28 (v := (q0_55 x0 x1 x2 x3 x4 x5)) at_26 rfl rfl ?_
        refine o_iload B82 28 30 (v := (4 : Int32)) at_28 rfl rfl ?_
        refine o_isub B82 30 31 at_30 rfl ?_
        refine o_iloadN B82 31 32 (v := x2) at_31 rfl rfl ?_
        obtain ⟨T83, B83, c83⟩ := o_callP B82 32 35 at_32 rfl (hw _ (List.mem_of_getElem? (i := 1) rfl)) (hw _ (List.mem_of_getElem? (i := 2) rfl)) (hw _ (List.mem_of_getElem? (i := 3) rfl)) (hw _ (List.mem_of_getElem? (i := 4) rfl)) (by decide) (rm1 l Z a0 hw (0 : Int32) ((q0_55 x0 x1 x2 x3 x4 x5) - (4 : Int32)) x2 h82  (own_p4_0 x0 x1 x2 x3 x4 x5)) 2 [(.int (0 : Int32)), (.int ((q0_55 x0 x1 x2 x3 x4 x5) - (4 : Int32))), (.int x2)] [(.int (0 : Int32)), (.ref a82)] pd__III_I rfl rfl (st := [(.int x2), (.int ((q0_55 x0 x1 x2 x3 x4 x5) - (4 : Int32))), (.int (0 : Int32)), (.int (0 : Int32)), (.ref a82)]) rfl (Ls := #[.val (.int x0), .val (.int x1), .val (.int x2), .val (.int x3), .val (.int x4), .val (.int x5), .val (.int (4 : Int32)), .val (.int (q0_55 x0 x1 x2 x3 x4 x5)), .val (.ref a82), .unset, .unset, .unset, .unset]) rfl (Nat.le_of_eq rfl) (by decide) (by decide) (by decide) (by decide)
        refine c83 ?_
        obtain ⟨T84, h84, L84, B84, N84, W84, Q84, c84⟩ := o_iastore B83 N0 g82 35 36 A82 (j := (0 : Int32)) (x := (q0_56 x0 x1 x2 x3 x4 x5)) 0 (q0_57 x0 x1 x2 x3 x4 x5) at_35 rfl (by decide) (by decide) (by decide) rfl (Ls := #[.val (.int x0), .val (.int x1), .val (.int x2), .val (.int x3), .val (.int x4), .val (.int x5), .val (.int (4 : Int32)), .val (.int (q0_55 x0 x1 x2 x3 x4 x5)), .val (.ref a82), .unset, .unset, .unset, .unset]) (rest := [])
        have A84 : AI Z h84 a82 .int 4 (w0_58 x0 x1 x2 x3 x4 x5) := Q84
        refine c84 ?_
        refine o_iload B84 36 38 (v := (4 : Int32)) at_36 rfl rfl ?_
        refine o_iconst B84 38 39 (1 : Int32) at_38 rfl (by decide) ?_
        refine o_icN B84 39 42 at_39 rfl (XT.ii_le_f (by decide)) ?_
        refine o_aload B84 42 44 (v := (.ref a82)) at_42 rfl rfl rfl ?_
        refine o_iconst B84 44 45 (1 : Int32) at_44 rfl (by decide) ?_
        refine o_aload B84 45 47 (v := (.ref a82)) at_45 rfl rfl rfl ?_
        refine o_iconst B84 47 48 (0 : Int32) at_47 rfl (by decide) ?_
        refine o_iaload B84 48 49 A84 0 (q0_57 x0 x1 x2 x3 x4 x5) at_48 rfl (by decide) (by decide) (by decide) rfl ?_
        refine o_iconst B84 49 50 (1 : Int32) at_49 rfl (by decide) ?_
        refine o_iadd B84 50 51 at_50 rfl ?_
        refine o_iload B84 51 53 (v := (q0_55 x0 x1 x2 x3 x4 x5)) at_51 rfl rfl ?_
        refine o_iload B84 53 55 (v := (4 : Int32)) at_53 rfl rfl ?_
        refine o_isub B84 55 56 at_55 rfl ?_
        refine o_iconst B84 56 57 (1 : Int32) at_56 rfl (by decide) ?_
        refine o_iadd B84 57 58 at_57 rfl ?_
        refine o_iloadN B84 58 59 (v := x3) at_58 rfl rfl ?_
        obtain ⟨T86, B86, c86⟩ := o_callP B84 59 62 at_59 rfl (hw _ (List.mem_of_getElem? (i := 1) rfl)) (hw _ (List.mem_of_getElem? (i := 2) rfl)) (hw _ (List.mem_of_getElem? (i := 3) rfl)) (hw _ (List.mem_of_getElem? (i := 4) rfl)) (by decide) (rm1 l Z a0 hw ((q0_57 x0 x1 x2 x3 x4 x5) + (1 : Int32)) (q0_59 x0 x1 x2 x3 x4 x5) x3 h84  (own_p4_1 x0 x1 x2 x3 x4 x5)) 2 [(.int ((q0_57 x0 x1 x2 x3 x4 x5) + (1 : Int32))), (.int (q0_59 x0 x1 x2 x3 x4 x5)), (.int x3)] [(.int (1 : Int32)), (.ref a82)] pd__III_I rfl rfl (st := [(.int x3), (.int (q0_59 x0 x1 x2 x3 x4 x5)), (.int ((q0_57 x0 x1 x2 x3 x4 x5) + (1 : Int32))), (.int (1 : Int32)), (.ref a82)]) rfl (Ls := #[.val (.int x0), .val (.int x1), .val (.int x2), .val (.int x3), .val (.int x4), .val (.int x5), .val (.int (4 : Int32)), .val (.int (q0_55 x0 x1 x2 x3 x4 x5)), .val (.ref a82), .unset, .unset, .unset, .unset]) rfl (Nat.le_of_eq rfl) (by decide) (by decide) (by decide) (by decide)
        refine c86 ?_
        obtain ⟨T87, h87, L87, B87, N87, W87, Q87, c87⟩ := o_iastore B86 N84 g82 62 63 A84 (j := (1 : Int32)) (x := (q0_60 x0 x1 x2 x3 x4 x5)) 1 (q0_61 x0 x1 x2 x3 x4 x5) at_62 rfl (by decide) (by decide) (by decide) rfl (Ls := #[.val (.int x0), .val (.int x1), .val (.int x2), .val (.int x3), .val (.int x4), .val (.int x5), .val (.int (4 : Int32)), .val (.int (q0_55 x0 x1 x2 x3 x4 x5)), .val (.ref a82), .unset, .unset, .unset, .unset]) (rest := [])
        have A87 : AI Z h87 a82 .int 4 (w0_62 x0 x1 x2 x3 x4 x5) := Q87
        refine c87 ?_
        refine o_iload B87 63 65 (v := (4 : Int32)) at_63 rfl rfl ?_
        refine o_iconst B87 65 66 (2 : Int32) at_65 rfl (by decide) ?_
        refine o_icN B87 66 69 at_66 rfl (XT.ii_le_f (by decide)) ?_
        refine o_aload B87 69 71 (v := (.ref a82)) at_69 rfl rfl rfl ?_
        refine o_iconst B87 71 72 (2 : Int32) at_71 rfl (by decide) ?_
        refine o_aload B87 72 74 (v := (.ref a82)) at_72 rfl rfl rfl ?_
        refine o_iconst B87 74 75 (1 : Int32) at_74 rfl (by decide) ?_
        refine o_iaload B87 75 76 A87 1 (q0_61 x0 x1 x2 x3 x4 x5) at_75 rfl (by decide) (by decide) (by decide) rfl ?_
        refine o_iconst B87 76 77 (1 : Int32) at_76 rfl (by decide) ?_
        refine o_iadd B87 77 78 at_77 rfl ?_
        refine o_iload B87 78 80 (v := (q0_55 x0 x1 x2 x3 x4 x5)) at_78 rfl rfl ?_
        refine o_iload B87 80 82 (v := (4 : Int32)) at_80 rfl rfl ?_
        refine o_isub B87 82 83 at_82 rfl ?_
        refine o_iconst B87 83 84 (2 : Int32) at_83 rfl (by decide) ?_
        refine o_iadd B87 84 85 at_84 rfl ?_
        refine o_iload B87 85 87 (v := x4) at_85 rfl rfl ?_
        obtain ⟨T89, B89, c89⟩ := o_callP B87 87 90 at_87 rfl (hw _ (List.mem_of_getElem? (i := 1) rfl)) (hw _ (List.mem_of_getElem? (i := 2) rfl)) (hw _ (List.mem_of_getElem? (i := 3) rfl)) (hw _ (List.mem_of_getElem? (i := 4) rfl)) (by decide) (rm1 l Z a0 hw ((q0_61 x0 x1 x2 x3 x4 x5) + (1 : Int32)) (q0_63 x0 x1 x2 x3 x4 x5) x4 h87  (own_p4_2 x0 x1 x2 x3 x4 x5)) 2 [(.int ((q0_61 x0 x1 x2 x3 x4 x5) + (1 : Int32))), (.int (q0_63 x0 x1 x2 x3 x4 x5)), (.int x4)] [(.int (2 : Int32)), (.ref a82)] pd__III_I rfl rfl (st := [(.int x4), (.int (q0_63 x0 x1 x2 x3 x4 x5)), (.int ((q0_61 x0 x1 x2 x3 x4 x5) + (1 : Int32))), (.int (2 : Int32)), (.ref a82)]) rfl (Ls := #[.val (.int x0), .val (.int x1), .val (.int x2), .val (.int x3), .val (.int x4), .val (.int x5), .val (.int (4 : Int32)), .val (.int (q0_55 x0 x1 x2 x3 x4 x5)), .val (.ref a82), .unset, .unset, .unset, .unset]) rfl (Nat.le_of_eq rfl) (by decide) (by decide) (by decide) (by decide)
        refine c89 ?_
        obtain ⟨T90, h90, L90, B90, N90, W90, Q90, c90⟩ := o_iastore B89 N87 g82 90 91 A87 (j := (2 : Int32)) (x := (q0_64 x0 x1 x2 x3 x4 x5)) 2 (q0_65 x0 x1 x2 x3 x4 x5) at_90 rfl (by decide) (by decide) (by decide) rfl (Ls := #[.val (.int x0), .val (.int x1), .val (.int x2), .val (.int x3), .val (.int x4), .val (.int x5), .val (.int (4 : Int32)), .val (.int (q0_55 x0 x1 x2 x3 x4 x5)), .val (.ref a82), .unset, .unset, .unset, .unset]) (rest := [])
        have A90 : AI Z h90 a82 .int 4 (w0_66 x0 x1 x2 x3 x4 x5) := Q90
        refine c90 ?_
        refine o_iload B90 91 93 (v := (4 : Int32)) at_91 rfl rfl ?_
        refine o_iconst B90 93 94 (3 : Int32) at_93 rfl (by decide) ?_
        refine o_icN B90 94 97 at_94 rfl (XT.ii_le_f (by decide)) ?_
        refine o_aload B90 97 99 (v := (.ref a82)) at_97 rfl rfl rfl ?_
        refine o_iconst B90 99 100 (3 : Int32) at_99 rfl (by decide) ?_
        refine o_aload B90 100 102 (v := (.ref a82)) at_100 rfl rfl rfl ?_
        refine o_iconst B90 102 103 (2 : Int32) at_102 rfl (by decide) ?_
        refine o_iaload B90 103 104 A90 2 (q0_65 x0 x1 x2 x3 x4 x5) at_103 rfl (by decide) (by decide) (by decide) rfl ?_
        refine o_iconst B90 104 105 (1 : Int32) at_104 rfl (by decide) ?_
        refine o_iadd B90 105 106 at_105 rfl ?_
        refine o_iload B90 106 108 (v := (q0_55 x0 x1 x2 x3 x4 x5)) at_106 rfl rfl ?_
        refine o_iload B90 108 110 (v := (4 : Int32)) at_108 rfl rfl ?_
        refine o_isub B90 110 111 at_110 rfl ?_
        refine o_iconst B90 111 112 (3 : Int32) at_111 rfl (by decide) ?_
        refine o_iadd B90 112 113 at_112 rfl ?_
        refine o_iload B90 113 115 (v := x5) at_113 rfl rfl ?_
        obtain ⟨T92, B92, c92⟩ := o_callP B90 115 118 at_115 rfl (hw _ (List.mem_of_getElem? (i := 1) rfl)) (hw _ (List.mem_of_getElem? (i := 2) rfl)) (hw _ (List.mem_of_getElem? (i := 3) rfl)) (hw _ (List.mem_of_getElem? (i := 4) rfl)) (by decide) (rm1 l Z a0 hw ((q0_65 x0 x1 x2 x3 x4 x5) + (1 : Int32)) (q0_67 x0 x1 x2 x3 x4 x5) x5 h90  (own_p4_3 x0 x1 x2 x3 x4 x5)) 2 [(.int ((q0_65 x0 x1 x2 x3 x4 x5) + (1 : Int32))), (.int (q0_67 x0 x1 x2 x3 x4 x5)), (.int x5)] [(.int (3 : Int32)), (.ref a82)] pd__III_I rfl rfl (st := [(.int x5), (.int (q0_67 x0 x1 x2 x3 x4 x5)), (.int ((q0_65 x0 x1 x2 x3 x4 x5) + (1 : Int32))), (.int (3 : Int32)), (.ref a82)]) rfl (Ls := #[.val (.int x0), .val (.int x1), .val (.int x2), .val (.int x3), .val (.int x4), .val (.int x5), .val (.int (4 : Int32)), .val (.int (q0_55 x0 x1 x2 x3 x4 x5)), .val (.ref a82), .unset, .unset, .unset, .unset]) rfl (Nat.le_of_eq rfl) (by decide) (by decide) (by decide) (by decide)
        refine c92 ?_
        obtain ⟨T93, h93, L93, B93, N93, W93, Q93, c93⟩ := o_iastore B92 N90 g82 118 119 A90 (j := (3 : Int32)) (x := (q0_68 x0 x1 x2 x3 x4 x5)) 3 (q0_69 x0 x1 x2 x3 x4 x5) at_118 rfl (by decide) (by decide) (by decide) rfl (Ls := #[.val (.int x0), .val (.int x1), .val (.int x2), .val (.int x3), .val (.int x4), .val (.int x5), .val (.int (4 : Int32)), .val (.int (q0_55 x0 x1 x2 x3 x4 x5)), .val (.ref a82), .unset, .unset, .unset, .unset]) (rest := [])
        have A93 : AI Z h93 a82 .int 4 (w0_70 x0 x1 x2 x3 x4 x5) := Q93
        refine c93 ?_
        refine o_iload B93 119 121 (v := (4 : Int32)) at_119 rfl rfl ?_
        obtain ⟨a94, T94, h94, z94, B94, E94, A94, c94⟩ := o_newI B93 121 123 (ty := .int) (z := (4 : Int32)) 4 4 (hw _ (List.mem_of_getElem? (i := 0) rfl)) at_121 rfl rfl rfl (by decide) (by decide) (by decide) (by decide) (by decide) (by decide) (Ls := #[.val (.int x0), .val (.int x1), .val (.int x2), .val (.int x3), .val (.int x4), .val (.int x5), .val (.int (4 : Int32)), .val (.int (q0_55 x0 x1 x2 x3 x4 x5)), .val (.ref a82), .unset, .unset, .unset, .unset]) (rest := [])
        have ne95 : a82 ≠ a94 := by rw [z94]; exact Nat.ne_of_lt A93.lt
        have g94 : n0 ≤ a94 := by rw [z94]; exact (W93.size ▸ (W90.size ▸ (W87.size ▸ (W84.size ▸ s82))))
        have s94 : n0 ≤ h94.size := Nat.le_trans (W93.size ▸ (W90.size ▸ (W87.size ▸ (W84.size ▸ s82)))) E94.1
        refine c94 ?_
        refine o_astore B94 123 125 (l' := #[.val (.int x0), .val (.int x1), .val (.int x2), .val (.int x3), .val (.int x4), .val (.int x5), .val (.int (4 : Int32)), .val (.int (q0_55 x0 x1 x2 x3 x4 x5)), .val (.ref a82), .val (.ref a94), .unset, .unset, .unset]) at_123 rfl rfl rfl ?_
        refine o_aload B94 125 127 (v := (.ref a94)) at_125 rfl rfl rfl ?_
        refine o_iconst B94 127 128 (0 : Int32) at_127 rfl (by decide) ?_
        refine o_aload B94 128 130 (v := (.ref a82)) at_128 rfl rfl rfl ?_
        refine o_iconst B94 130 131 (0 : Int32) at_130 rfl (by decide) ?_
        have F97 := (A93.ext E94)
        refine o_iaload B94 131 132 F97 0 (q0_57 x0 x1 x2 x3 x4 x5) at_131 rfl (by decide) (by decide) (by decide) rfl ?_
        obtain ⟨T98, h98, L98, B98, N98, W98, Q98, c98⟩ := o_iastore B94 N93 g94 132 133 A94 (j := (0 : Int32)) (x := (q0_57 x0 x1 x2 x3 x4 x5)) 0 (q0_57 x0 x1 x2 x3 x4 x5) at_132 rfl (by decide) (by decide) (by decide) rfl (Ls := #[.val (.int x0), .val (.int x1), .val (.int x2), .val (.int x3), .val (.int x4), .val (.int x5), .val (.int (4 : Int32)), .val (.int (q0_55 x0 x1 x2 x3 x4 x5)), .val (.ref a82), .val (.ref a94), .unset, .unset, .unset]) (rest := [])
        have A98 : AI Z h98 a94 .int 4 (w0_58 x0 x1 x2 x3 x4 x5) := Q98
        refine c98 ?_
        refine o_iload B98 133 135 (v := (4 : Int32)) at_133 rfl rfl ?_
        refine o_iconst B98 135 136 (1 : Int32) at_135 rfl (by decide) ?_
        refine o_icN B98 136 139 at_136 rfl (XT.ii_le_f (by decide)) ?_
        refine o_aload B98 139 141 (v := (.ref a94)) at_139 rfl rfl rfl ?_
        refine o_iconst B98 141 142 (1 : Int32) at_141 rfl (by decide) ?_
        refine o_aload B98 142 144 (v := (.ref a82)) at_142 rfl rfl rfl ?_
        refine o_iconst B98 144 145 (1 : Int32) at_144 rfl (by decide) ?_
        have F100 := (F97.other W98 ne95)
        refine o_iaload B98 145 146 F100 1 (q0_61 x0 x1 x2 x3 x4 x5) at_145 rfl (by decide) (by decide) (by decide) rfl ?_
        obtain ⟨T101, h101, L101, B101, N101, W101, Q101, c101⟩ := o_iastore B98 N98 g94 146 147 A98 (j := (1 : Int32)) (x := (q0_61 x0 x1 x2 x3 x4 x5)) 1 (q0_61 x0 x1 x2 x3 x4 x5) at_146 rfl (by decide) (by decide) (by decide) rfl (Ls := #[.val (.int x0), .val (.int x1), .val (.int x2), .val (.int x3), .val (.int x4), .val (.int x5), .val (.int (4 : Int32)), .val (.int (q0_55 x0 x1 x2 x3 x4 x5)), .val (.ref a82), .val (.ref a94), .unset, .unset, .unset]) (rest := [])
        have A101 : AI Z h101 a94 .int 4 (w0_62 x0 x1 x2 x3 x4 x5) := Q101
        refine c101 ?_
        refine o_iload B101 147 149 (v := (4 : Int32)) at_147 rfl rfl ?_
        refine o_iconst B101 149 150 (2 : Int32) at_149 rfl (by decide) ?_
        refine o_icN B101 150 153 at_150 rfl (XT.ii_le_f (by decide)) ?_
        refine o_aload B101 153 155 (v := (.ref a94)) at_153 rfl rfl rfl ?_
        refine o_iconst B101 155 156 (2 : Int32) at_155 rfl (by decide) ?_
        refine o_aload B101 156 158 (v := (.ref a82)) at_156 rfl rfl rfl ?_
        refine o_iconst B101 158 159 (2 : Int32) at_158 rfl (by decide) ?_
        have F103 := (F100.other W101 ne95)
        refine o_iaload B101 159 160 F103 2 (q0_65 x0 x1 x2 x3 x4 x5) at_159 rfl (by decide) (by decide) (by decide) rfl ?_
        obtain ⟨T104, h104, L104, B104, N104, W104, Q104, c104⟩ := o_iastore B101 N101 g94 160 161 A101 (j := (2 : Int32)) (x := (q0_65 x0 x1 x2 x3 x4 x5)) 2 (q0_65 x0 x1 x2 x3 x4 x5) at_160 rfl (by decide) (by decide) (by decide) rfl (Ls := #[.val (.int x0), .val (.int x1), .val (.int x2), .val (.int x3), .val (.int x4), .val (.int x5), .val (.int (4 : Int32)), .val (.int (q0_55 x0 x1 x2 x3 x4 x5)), .val (.ref a82), .val (.ref a94), .unset, .unset, .unset]) (rest := [])
        have A104 : AI Z h104 a94 .int 4 (w0_66 x0 x1 x2 x3 x4 x5) := Q104
        refine c104 ?_
        refine o_iload B104 161 163 (v := (4 : Int32)) at_161 rfl rfl ?_
        refine o_iconst B104 163 164 (3 : Int32) at_163 rfl (by decide) ?_
        refine o_icN B104 164 167 at_164 rfl (XT.ii_le_f (by decide)) ?_
        refine o_aload B104 167 169 (v := (.ref a94)) at_167 rfl rfl rfl ?_
        refine o_iconst B104 169 170 (3 : Int32) at_169 rfl (by decide) ?_
        refine o_aload B104 170 172 (v := (.ref a82)) at_170 rfl rfl rfl ?_
        refine o_iconst B104 172 173 (3 : Int32) at_172 rfl (by decide) ?_
        have F106 := (F103.other W104 ne95)
        refine o_iaload B104 173 174 F106 3 (q0_69 x0 x1 x2 x3 x4 x5) at_173 rfl (by decide) (by decide) (by decide) rfl ?_
        obtain ⟨T107, h107, L107, B107, N107, W107, Q107, c107⟩ := o_iastore B104 N104 g94 174 175 A104 (j := (3 : Int32)) (x := (q0_69 x0 x1 x2 x3 x4 x5)) 3 (q0_69 x0 x1 x2 x3 x4 x5) at_174 rfl (by decide) (by decide) (by decide) rfl (Ls := #[.val (.int x0), .val (.int x1), .val (.int x2), .val (.int x3), .val (.int x4), .val (.int x5), .val (.int (4 : Int32)), .val (.int (q0_55 x0 x1 x2 x3 x4 x5)), .val (.ref a82), .val (.ref a94), .unset, .unset, .unset]) (rest := [])
        have A107 : AI Z h107 a94 .int 4 (w0_70 x0 x1 x2 x3 x4 x5) := Q107
        refine c107 ?_
        refine o_aload B107 175 177 (v := (.ref a94)) at_175 rfl rfl rfl ?_
        refine o_iload B107 177 179 (v := (q0_55 x0 x1 x2 x3 x4 x5)) at_177 rfl rfl ?_
        obtain ⟨v108, T108, L108, B108, Q108, c108⟩ := o_callS B107 179 182 at_179 rfl (hw _ (List.mem_of_getElem? (i := 6) rfl)) (hw _ (List.mem_of_getElem? (i := 7) rfl)) (hw _ (List.mem_of_getElem? (i := 8) rfl)) (hw _ (List.mem_of_getElem? (i := 9) rfl)) (by decide) (rm2_4 l Z a0 hw (w0_70 x0 x1 x2 x3 x4 x5) a94 (q0_55 x0 x1 x2 x3 x4 x5) h107 n0 (W107.size ▸ (W104.size ▸ (W101.size ▸ (W98.size ▸ s94)))) A107 g94) 0 [(.ref a94), (.int (q0_55 x0 x1 x2 x3 x4 x5))] [] pd___II_I rfl rfl (st := [(.int (q0_55 x0 x1 x2 x3 x4 x5)), (.ref a94)]) rfl (Ls := #[.val (.int x0), .val (.int x1), .val (.int x2), .val (.int x3), .val (.int x4), .val (.int x5), .val (.int (4 : Int32)), .val (.int (q0_55 x0 x1 x2 x3 x4 x5)), .val (.ref a82), .val (.ref a94), .unset, .unset, .unset]) rfl (Nat.le_of_eq rfl) (by decide) (by decide) (by decide) (by decide)
        obtain ⟨rfl, M108, K108, O108_0⟩ := Q108
        have N108 := Fr.app N107 M108
        have s108 : n0 ≤ T108.heap.size := Nat.le_trans (W107.size ▸ (W104.size ▸ (W101.size ▸ (W98.size ▸ s94)))) K108.1
        refine c108 ?_
        show OG p.tables e below _ (T108.setTop (mkF m 182 #[.val (.int x0), .val (.int x1), .val (.int x2), .val (.int x3), .val (.int x4), .val (.int x5), .val (.int (4 : Int32)), .val (.int (q0_55 x0 x1 x2 x3 x4 x5)), .val (.ref a82), .val (.ref a94), .unset, .unset, .unset] [(.int (q0_71 x0 x1 x2 x3 x4 x5))]))
        refine o_istore B108 182 184 (l' := #[.val (.int x0), .val (.int x1), .val (.int x2), .val (.int x3), .val (.int x4), .val (.int x5), .val (.int (4 : Int32)), .val (.int (q0_55 x0 x1 x2 x3 x4 x5)), .val (.ref a82), .val (.ref a94), .val (.int (q0_71 x0 x1 x2 x3 x4 x5)), .unset, .unset]) at_182 rfl rfl ?_
        refine o_iload B108 184 186 (v := (q0_55 x0 x1 x2 x3 x4 x5)) at_184 rfl rfl ?_
        refine o_i2l B108 186 187 at_186 rfl ?_
        refine o_iload B108 187 189 (v := (4 : Int32)) at_187 rfl rfl ?_
        obtain ⟨T109, B109, c109⟩ := o_callP B108 189 192 at_189 rfl (hw _ (List.mem_of_getElem? (i := 10) rfl)) (hw _ (List.mem_of_getElem? (i := 11) rfl)) (hw _ (List.mem_of_getElem? (i := 3) rfl)) (hw _ (List.mem_of_getElem? (i := 12) rfl)) (by decide) (rm3 l Z a0 hw (q0_55 x0 x1 x2 x3 x4 x5).toInt64 (4 : Int32) T108.heap ) 0 [(.long (q0_55 x0 x1 x2 x3 x4 x5).toInt64), (.int (4 : Int32))] [] pd__JI_J rfl rfl (st := [(.int (4 : Int32)), (.long (q0_55 x0 x1 x2 x3 x4 x5).toInt64)]) rfl (Ls := #[.val (.int x0), .val (.int x1), .val (.int x2), .val (.int x3), .val (.int x4), .val (.int x5), .val (.int (4 : Int32)), .val (.int (q0_55 x0 x1 x2 x3 x4 x5)), .val (.ref a82), .val (.ref a94), .val (.int (q0_71 x0 x1 x2 x3 x4 x5)), .unset, .unset]) rfl (Nat.le_of_eq rfl) (by decide) (by decide) (by decide) (by decide)
        refine c109 ?_
        refine o_lstore B109 192 194 (l' := #[.val (.int x0), .val (.int x1), .val (.int x2), .val (.int x3), .val (.int x4), .val (.int x5), .val (.int (4 : Int32)), .val (.int (q0_55 x0 x1 x2 x3 x4 x5)), .val (.ref a82), .val (.ref a94), .val (.int (q0_71 x0 x1 x2 x3 x4 x5)), .val (.long (q0_72 x0 x1 x2 x3 x4 x5)), .second]) at_192 rfl rfl ?_
        refine o_iload B109 194 196 (v := (q0_71 x0 x1 x2 x3 x4 x5)) at_194 rfl rfl ?_
        refine o_iconst B109 196 197 (-1 : Int32) at_196 rfl (by decide) ?_
        by_cases k38 : (q0_71 x0 x1 x2 x3 x4 x5) = (-1 : Int32)
        · refine o_icN B109 197 200 at_197 rfl (XT.ii_ne_f k38) ?_
          refine o_aload B109 200 202 (v := (.ref a94)) at_200 rfl rfl rfl ?_
          refine o_aload B109 202 204 (v := (.ref a82)) at_202 rfl rfl rfl ?_
          have F110 := ((F106.other W107 ne95).keep K108 (ninS ne95 nin0))
          obtain ⟨T111, B111, c111⟩ := o_callP B109 204 207 at_204 rfl (hw _ (List.mem_of_getElem? (i := 23) rfl)) (hw _ (List.mem_of_getElem? (i := 24) rfl)) (hw _ (List.mem_of_getElem? (i := 3) rfl)) (hw _ (List.mem_of_getElem? (i := 25) rfl)) (by decide) (rm7_4 l Z a0 hw (o2_4_0 (w0_70 x0 x1 x2 x3 x4 x5) (q0_55 x0 x1 x2 x3 x4 x5)) (w0_70 x0 x1 x2 x3 x4 x5) a94 a82 T108.heap O108_0 F110) 0 [(.ref a94), (.ref a82)] [] pd___I_I_Z rfl rfl (st := [(.ref a82), (.ref a94)]) rfl (Ls := #[.val (.int x0), .val (.int x1), .val (.int x2), .val (.int x3), .val (.int x4), .val (.int x5), .val (.int (4 : Int32)), .val (.int (q0_55 x0 x1 x2 x3 x4 x5)), .val (.ref a82), .val (.ref a94), .val (.int (q0_71 x0 x1 x2 x3 x4 x5)), .val (.long (q0_72 x0 x1 x2 x3 x4 x5)), .second]) rfl (Nat.le_of_eq rfl) (by decide) (by decide) (by decide) (by decide)
          refine c111 ?_
          by_cases k39 : (q0_73 x0 x1 x2 x3 x4 x5) = 0
          · refine o_ifY B111 207 229 at_207 (XT.i0_eq_t k39) (by decide) (by decide) ?_
            refine o_iconst B111 229 230 (0 : Int32) at_229 rfl (by decide) ?_
            refine o_retZ (t := .boolean) B111 230 at_230 hret hlk (by simp) (by decide) (by decide) ⟨(congrArg (fun z => some (Value.int z)) ((show nar .boolean (0 : Int32) = (0 : Int32) from rfl).trans (show f0 x0 x1 x2 x3 x4 x5 = (0 : Int32) from (if_neg k1).trans ((if_neg k13).trans ((if_neg k25).trans ((if_pos k38).trans ((if_pos k39).trans (rfl)))))).symm)), N108⟩
          · refine o_ifN B111 207 210 at_207 rfl (XT.i0_eq_f k39) ?_
            refine o_aload B111 210 212 (v := (.ref a82)) at_210 rfl rfl rfl ?_
            refine o_iload B111 212 214 (v := (q0_55 x0 x1 x2 x3 x4 x5)) at_212 rfl rfl ?_
            obtain ⟨T112, B112, c112⟩ := o_callP B111 214 217 at_214 rfl (hw _ (List.mem_of_getElem? (i := 16) rfl)) (hw _ (List.mem_of_getElem? (i := 17) rfl)) (hw _ (List.mem_of_getElem? (i := 3) rfl)) (hw _ (List.mem_of_getElem? (i := 18) rfl)) (by decide) (rm5_4 l Z a0 hw (w0_70 x0 x1 x2 x3 x4 x5) a82 (q0_55 x0 x1 x2 x3 x4 x5) T108.heap F110) 0 [(.ref a82), (.int (q0_55 x0 x1 x2 x3 x4 x5))] [] pd___II_J rfl rfl (st := [(.int (q0_55 x0 x1 x2 x3 x4 x5)), (.ref a82)]) rfl (Ls := #[.val (.int x0), .val (.int x1), .val (.int x2), .val (.int x3), .val (.int x4), .val (.int x5), .val (.int (4 : Int32)), .val (.int (q0_55 x0 x1 x2 x3 x4 x5)), .val (.ref a82), .val (.ref a94), .val (.int (q0_71 x0 x1 x2 x3 x4 x5)), .val (.long (q0_72 x0 x1 x2 x3 x4 x5)), .second]) rfl (Nat.le_of_eq rfl) (by decide) (by decide) (by decide) (by decide)
            refine c112 ?_
            refine o_lload B112 217 219 (v := (q0_72 x0 x1 x2 x3 x4 x5)) at_217 rfl rfl ?_
            refine o_lconst B112 219 220 (1 : Int64) at_219 rfl (by decide) ?_
            refine o_lsub B112 220 221 at_220 rfl ?_
            refine o_lcmp B112 221 222 at_221 rfl ?_
            by_cases k40 : (q0_74 x0 x1 x2 x3 x4 x5) = ((q0_72 x0 x1 x2 x3 x4 x5) - (1 : Int64))
            · refine o_ifN B112 222 225 at_222 rfl (XT.ll_ne_f k40) ?_
              refine o_iconst B112 225 226 (1 : Int32) at_225 rfl (by decide) ?_
              refine o_goto B112 226 230 at_226 (by decide) (by decide) ?_
              refine o_retZ (t := .boolean) B112 230 at_230 hret hlk (by simp) (by decide) (by decide) ⟨(congrArg (fun z => some (Value.int z)) ((show nar .boolean (1 : Int32) = (1 : Int32) from rfl).trans (show f0 x0 x1 x2 x3 x4 x5 = (1 : Int32) from (if_neg k1).trans ((if_neg k13).trans ((if_neg k25).trans ((if_pos k38).trans ((if_neg k39).trans ((if_pos k40).trans (rfl))))))).symm)), N108⟩
            · refine o_ifY B112 222 229 at_222 (XT.ll_ne_t k40) (by decide) (by decide) ?_
              refine o_iconst B112 229 230 (0 : Int32) at_229 rfl (by decide) ?_
              refine o_retZ (t := .boolean) B112 230 at_230 hret hlk (by simp) (by decide) (by decide) ⟨(congrArg (fun z => some (Value.int z)) ((show nar .boolean (0 : Int32) = (0 : Int32) from rfl).trans (show f0 x0 x1 x2 x3 x4 x5 = (0 : Int32) from (if_neg k1).trans ((if_neg k13).trans ((if_neg k25).trans ((if_pos k38).trans ((if_neg k39).trans ((if_neg k40).trans (rfl))))))).symm)), N108⟩
        · refine o_icY B109 197 231 at_197 (XT.ii_ne_t k38) (by decide) (by decide) ?_
          refine o_iload B109 231 233 (v := (q0_71 x0 x1 x2 x3 x4 x5)) at_231 rfl rfl ?_
          by_cases k41 : (q0_71 x0 x1 x2 x3 x4 x5) < 0
          · refine o_ifY B109 233 243 at_233 (XT.i0_lt_t k41) (by decide) (by decide) ?_
            refine o_iconst B109 243 244 (0 : Int32) at_243 rfl (by decide) ?_
            refine o_retZ (t := .boolean) B109 244 at_244 hret hlk (by simp) (by decide) (by decide) ⟨(congrArg (fun z => some (Value.int z)) ((show nar .boolean (0 : Int32) = (0 : Int32) from rfl).trans (show f0 x0 x1 x2 x3 x4 x5 = (0 : Int32) from (if_neg k1).trans ((if_neg k13).trans ((if_neg k25).trans ((if_neg k38).trans ((if_pos k41).trans (rfl)))))).symm)), N108⟩
          · refine o_ifN B109 233 236 at_233 rfl (XT.i0_lt_f k41) ?_
            refine o_iload B109 236 238 (v := (q0_71 x0 x1 x2 x3 x4 x5)) at_236 rfl rfl ?_
            refine o_iload B109 238 240 (v := (4 : Int32)) at_238 rfl rfl ?_
            by_cases k42 : (q0_71 x0 x1 x2 x3 x4 x5) < (4 : Int32)
            · refine o_icY B109 240 245 at_240 (XT.ii_lt_t k42) (by decide) (by decide) ?_
              refine o_aload B109 245 247 (v := (.ref a94)) at_245 rfl rfl rfl ?_
              refine o_iload B109 247 249 (v := (q0_55 x0 x1 x2 x3 x4 x5)) at_247 rfl rfl ?_
              obtain ⟨T113, B113, c113⟩ := o_callP B109 249 252 at_249 rfl (hw _ (List.mem_of_getElem? (i := 13) rfl)) (hw _ (List.mem_of_getElem? (i := 14) rfl)) (hw _ (List.mem_of_getElem? (i := 3) rfl)) (hw _ (List.mem_of_getElem? (i := 15) rfl)) (by decide) (rm4_4 l Z a0 hw (o2_4_0 (w0_70 x0 x1 x2 x3 x4 x5) (q0_55 x0 x1 x2 x3 x4 x5)) a94 (q0_55 x0 x1 x2 x3 x4 x5) T108.heap O108_0) 0 [(.ref a94), (.int (q0_55 x0 x1 x2 x3 x4 x5))] [] pd___II_Z rfl rfl (st := [(.int (q0_55 x0 x1 x2 x3 x4 x5)), (.ref a94)]) rfl (Ls := #[.val (.int x0), .val (.int x1), .val (.int x2), .val (.int x3), .val (.int x4), .val (.int x5), .val (.int (4 : Int32)), .val (.int (q0_55 x0 x1 x2 x3 x4 x5)), .val (.ref a82), .val (.ref a94), .val (.int (q0_71 x0 x1 x2 x3 x4 x5)), .val (.long (q0_72 x0 x1 x2 x3 x4 x5)), .second]) rfl (Nat.le_of_eq rfl) (by decide) (by decide) (by decide) (by decide)
              refine c113 ?_
              by_cases k43 : (q0_75 x0 x1 x2 x3 x4 x5) = 0
              · refine o_ifN B113 252 255 at_252 rfl (XT.i0_ne_f k43) ?_
                refine o_iconst B113 255 256 (0 : Int32) at_255 rfl (by decide) ?_
                refine o_retZ (t := .boolean) B113 256 at_256 hret hlk (by simp) (by decide) (by decide) ⟨(congrArg (fun z => some (Value.int z)) ((show nar .boolean (0 : Int32) = (0 : Int32) from rfl).trans (show f0 x0 x1 x2 x3 x4 x5 = (0 : Int32) from (if_neg k1).trans ((if_neg k13).trans ((if_neg k25).trans ((if_neg k38).trans ((if_neg k41).trans ((if_pos k42).trans ((if_pos k43).trans (rfl)))))))).symm)), N108⟩
              · refine o_ifY B113 252 257 at_252 (XT.i0_ne_t k43) (by decide) (by decide) ?_
                refine o_aload B113 257 259 (v := (.ref a94)) at_257 rfl rfl rfl ?_
                refine o_iload B113 259 261 (v := (q0_55 x0 x1 x2 x3 x4 x5)) at_259 rfl rfl ?_
                obtain ⟨T114, B114, c114⟩ := o_callP B113 261 264 at_261 rfl (hw _ (List.mem_of_getElem? (i := 16) rfl)) (hw _ (List.mem_of_getElem? (i := 17) rfl)) (hw _ (List.mem_of_getElem? (i := 3) rfl)) (hw _ (List.mem_of_getElem? (i := 18) rfl)) (by decide) (rm5_4 l Z a0 hw (o2_4_0 (w0_70 x0 x1 x2 x3 x4 x5) (q0_55 x0 x1 x2 x3 x4 x5)) a94 (q0_55 x0 x1 x2 x3 x4 x5) T108.heap O108_0) 0 [(.ref a94), (.int (q0_55 x0 x1 x2 x3 x4 x5))] [] pd___II_J rfl rfl (st := [(.int (q0_55 x0 x1 x2 x3 x4 x5)), (.ref a94)]) rfl (Ls := #[.val (.int x0), .val (.int x1), .val (.int x2), .val (.int x3), .val (.int x4), .val (.int x5), .val (.int (4 : Int32)), .val (.int (q0_55 x0 x1 x2 x3 x4 x5)), .val (.ref a82), .val (.ref a94), .val (.int (q0_71 x0 x1 x2 x3 x4 x5)), .val (.long (q0_72 x0 x1 x2 x3 x4 x5)), .second]) rfl (Nat.le_of_eq rfl) (by decide) (by decide) (by decide) (by decide)
                refine c114 ?_
                refine o_aload B114 264 266 (v := (.ref a82)) at_264 rfl rfl rfl ?_
                refine o_iload B114 266 268 (v := (q0_55 x0 x1 x2 x3 x4 x5)) at_266 rfl rfl ?_
                have F115 := ((F106.other W107 ne95).keep K108 (ninS ne95 nin0))
                obtain ⟨T116, B116, c116⟩ := o_callP B114 268 271 at_268 rfl (hw _ (List.mem_of_getElem? (i := 16) rfl)) (hw _ (List.mem_of_getElem? (i := 17) rfl)) (hw _ (List.mem_of_getElem? (i := 3) rfl)) (hw _ (List.mem_of_getElem? (i := 18) rfl)) (by decide) (rm5_4 l Z a0 hw (w0_70 x0 x1 x2 x3 x4 x5) a82 (q0_55 x0 x1 x2 x3 x4 x5) T108.heap F115) 2 [(.ref a82), (.int (q0_55 x0 x1 x2 x3 x4 x5))] [(.long (q0_76 x0 x1 x2 x3 x4 x5))] pd___II_J rfl rfl (st := [(.int (q0_55 x0 x1 x2 x3 x4 x5)), (.ref a82), (.long (q0_76 x0 x1 x2 x3 x4 x5))]) rfl (Ls := #[.val (.int x0), .val (.int x1), .val (.int x2), .val (.int x3), .val (.int x4), .val (.int x5), .val (.int (4 : Int32)), .val (.int (q0_55 x0 x1 x2 x3 x4 x5)), .val (.ref a82), .val (.ref a94), .val (.int (q0_71 x0 x1 x2 x3 x4 x5)), .val (.long (q0_72 x0 x1 x2 x3 x4 x5)), .second]) rfl (Nat.le_of_eq rfl) (by decide) (by decide) (by decide) (by decide)
                refine c116 ?_
                refine o_lconst B116 271 272 (1 : Int64) at_271 rfl (by decide) ?_
                refine o_ladd B116 272 273 at_272 rfl ?_
                refine o_lcmp B116 273 274 at_273 rfl ?_
                by_cases k44 : (q0_76 x0 x1 x2 x3 x4 x5) = ((q0_74 x0 x1 x2 x3 x4 x5) + (1 : Int64))
                · refine o_ifY B116 274 279 at_274 (XT.ll_eq_t k44) (by decide) (by decide) ?_
                  refine o_aload B116 279 281 (v := (.ref a94)) at_279 rfl rfl rfl ?_
                  refine o_aload B116 281 283 (v := (.ref a82)) at_281 rfl rfl rfl ?_
                  refine o_iload B116 283 285 (v := (q0_71 x0 x1 x2 x3 x4 x5)) at_283 rfl rfl ?_
                  refine o_iconst B116 285 286 (0 : Int32) at_285 rfl (by decide) ?_
                  obtain ⟨T117, B117, c117⟩ := o_callP B116 286 289 at_286 rfl (hw _ (List.mem_of_getElem? (i := 19) rfl)) (hw _ (List.mem_of_getElem? (i := 20) rfl)) (hw _ (List.mem_of_getElem? (i := 3) rfl)) (hw _ (List.mem_of_getElem? (i := 21) rfl)) (by decide) (rm6_4_0 l Z a0 hw (o2_4_0 (w0_70 x0 x1 x2 x3 x4 x5) (q0_55 x0 x1 x2 x3 x4 x5)) (w0_70 x0 x1 x2 x3 x4 x5) a94 a82 (q0_71 x0 x1 x2 x3 x4 x5) T108.heap O108_0 F115) 0 [(.ref a94), (.ref a82), (.int (q0_71 x0 x1 x2 x3 x4 x5)), (.int (0 : Int32))] [] pd___I_III_Z rfl rfl (st := [(.int (0 : Int32)), (.int (q0_71 x0 x1 x2 x3 x4 x5)), (.ref a82), (.ref a94)]) rfl (Ls := #[.val (.int x0), .val (.int x1), .val (.int x2), .val (.int x3), .val (.int x4), .val (.int x5), .val (.int (4 : Int32)), .val (.int (q0_55 x0 x1 x2 x3 x4 x5)), .val (.ref a82), .val (.ref a94), .val (.int (q0_71 x0 x1 x2 x3 x4 x5)), .val (.long (q0_72 x0 x1 x2 x3 x4 x5)), .second]) rfl (Nat.le_of_eq rfl) (by decide) (by decide) (by decide) (by decide)
                  refine c117 ?_
                  by_cases k45 : (q0_77 x0 x1 x2 x3 x4 x5) = 0
                  · refine o_ifY B117 289 335 at_289 (XT.i0_eq_t k45) (by decide) (by decide) ?_
                    refine o_iconst B117 335 336 (0 : Int32) at_335 rfl (by decide) ?_
                    refine o_retZ (t := .boolean) B117 336 at_336 hret hlk (by simp) (by decide) (by decide) ⟨(congrArg (fun z => some (Value.int z)) ((show nar .boolean (0 : Int32) = (0 : Int32) from rfl).trans (show f0 x0 x1 x2 x3 x4 x5 = (0 : Int32) from (if_neg k1).trans ((if_neg k13).trans ((if_neg k25).trans ((if_neg k38).trans ((if_neg k41).trans ((if_pos k42).trans ((if_neg k43).trans ((if_pos k44).trans ((if_pos k45).trans (rfl)))))))))).symm)), N108⟩
                  · refine o_ifN B117 289 292 at_289 rfl (XT.i0_eq_f k45) ?_
                    refine o_aload B117 292 294 (v := (.ref a94)) at_292 rfl rfl rfl ?_
                    refine o_aload B117 294 296 (v := (.ref a82)) at_294 rfl rfl rfl ?_
                    refine o_iload B117 296 298 (v := (q0_71 x0 x1 x2 x3 x4 x5)) at_296 rfl rfl ?_
                    refine o_iconst B117 298 299 (1 : Int32) at_298 rfl (by decide) ?_
                    obtain ⟨T118, B118, c118⟩ := o_callP B117 299 302 at_299 rfl (hw _ (List.mem_of_getElem? (i := 19) rfl)) (hw _ (List.mem_of_getElem? (i := 20) rfl)) (hw _ (List.mem_of_getElem? (i := 3) rfl)) (hw _ (List.mem_of_getElem? (i := 21) rfl)) (by decide) (rm6_4_1 l Z a0 hw (o2_4_0 (w0_70 x0 x1 x2 x3 x4 x5) (q0_55 x0 x1 x2 x3 x4 x5)) (w0_70 x0 x1 x2 x3 x4 x5) a94 a82 (q0_71 x0 x1 x2 x3 x4 x5) T108.heap O108_0 F115) 0 [(.ref a94), (.ref a82), (.int (q0_71 x0 x1 x2 x3 x4 x5)), (.int (1 : Int32))] [] pd___I_III_Z rfl rfl (st := [(.int (1 : Int32)), (.int (q0_71 x0 x1 x2 x3 x4 x5)), (.ref a82), (.ref a94)]) rfl (Ls := #[.val (.int x0), .val (.int x1), .val (.int x2), .val (.int x3), .val (.int x4), .val (.int x5), .val (.int (4 : Int32)), .val (.int (q0_55 x0 x1 x2 x3 x4 x5)), .val (.ref a82), .val (.ref a94), .val (.int (q0_71 x0 x1 x2 x3 x4 x5)), .val (.long (q0_72 x0 x1 x2 x3 x4 x5)), .second]) rfl (Nat.le_of_eq rfl) (by decide) (by decide) (by decide) (by decide)
                    refine c118 ?_
                    by_cases k46 : (q0_78 x0 x1 x2 x3 x4 x5) = 0
                    · refine o_ifY B118 302 335 at_302 (XT.i0_eq_t k46) (by decide) (by decide) ?_
                      refine o_iconst B118 335 336 (0 : Int32) at_335 rfl (by decide) ?_
                      refine o_retZ (t := .boolean) B118 336 at_336 hret hlk (by simp) (by decide) (by decide) ⟨(congrArg (fun z => some (Value.int z)) ((show nar .boolean (0 : Int32) = (0 : Int32) from rfl).trans (show f0 x0 x1 x2 x3 x4 x5 = (0 : Int32) from (if_neg k1).trans ((if_neg k13).trans ((if_neg k25).trans ((if_neg k38).trans ((if_neg k41).trans ((if_pos k42).trans ((if_neg k43).trans ((if_pos k44).trans ((if_neg k45).trans ((if_pos k46).trans (rfl))))))))))).symm)), N108⟩
                    · refine o_ifN B118 302 305 at_302 rfl (XT.i0_eq_f k46) ?_
                      refine o_aload B118 305 307 (v := (.ref a94)) at_305 rfl rfl rfl ?_
                      refine o_aload B118 307 309 (v := (.ref a82)) at_307 rfl rfl rfl ?_
                      refine o_iload B118 309 311 (v := (q0_71 x0 x1 x2 x3 x4 x5)) at_309 rfl rfl ?_
                      refine o_iconst B118 311 312 (2 : Int32) at_311 rfl (by decide) ?_
                      obtain ⟨T119, B119, c119⟩ := o_callP B118 312 315 at_312 rfl (hw _ (List.mem_of_getElem? (i := 19) rfl)) (hw _ (List.mem_of_getElem? (i := 20) rfl)) (hw _ (List.mem_of_getElem? (i := 3) rfl)) (hw _ (List.mem_of_getElem? (i := 21) rfl)) (by decide) (rm6_4_2 l Z a0 hw (o2_4_0 (w0_70 x0 x1 x2 x3 x4 x5) (q0_55 x0 x1 x2 x3 x4 x5)) (w0_70 x0 x1 x2 x3 x4 x5) a94 a82 (q0_71 x0 x1 x2 x3 x4 x5) T108.heap O108_0 F115) 0 [(.ref a94), (.ref a82), (.int (q0_71 x0 x1 x2 x3 x4 x5)), (.int (2 : Int32))] [] pd___I_III_Z rfl rfl (st := [(.int (2 : Int32)), (.int (q0_71 x0 x1 x2 x3 x4 x5)), (.ref a82), (.ref a94)]) rfl (Ls := #[.val (.int x0), .val (.int x1), .val (.int x2), .val (.int x3), .val (.int x4), .val (.int x5), .val (.int (4 : Int32)), .val (.int (q0_55 x0 x1 x2 x3 x4 x5)), .val (.ref a82), .val (.ref a94), .val (.int (q0_71 x0 x1 x2 x3 x4 x5)), .val (.long (q0_72 x0 x1 x2 x3 x4 x5)), .second]) rfl (Nat.le_of_eq rfl) (by decide) (by decide) (by decide) (by decide)
                      refine c119 ?_
                      by_cases k47 : (q0_79 x0 x1 x2 x3 x4 x5) = 0
                      · refine o_ifY B119 315 335 at_315 (XT.i0_eq_t k47) (by decide) (by decide) ?_
                        refine o_iconst B119 335 336 (0 : Int32) at_335 rfl (by decide) ?_
                        refine o_retZ (t := .boolean) B119 336 at_336 hret hlk (by simp) (by decide) (by decide) ⟨(congrArg (fun z => some (Value.int z)) ((show nar .boolean (0 : Int32) = (0 : Int32) from rfl).trans (show f0 x0 x1 x2 x3 x4 x5 = (0 : Int32) from (if_neg k1).trans ((if_neg k13).trans ((if_neg k25).trans ((if_neg k38).trans ((if_neg k41).trans ((if_pos k42).trans ((if_neg k43).trans ((if_pos k44).trans ((if_neg k45).trans ((if_neg k46).trans ((if_pos k47).trans (rfl)))))))))))).symm)), N108⟩
                      · refine o_ifN B119 315 318 at_315 rfl (XT.i0_eq_f k47) ?_
                        refine o_aload B119 318 320 (v := (.ref a94)) at_318 rfl rfl rfl ?_
                        refine o_aload B119 320 322 (v := (.ref a82)) at_320 rfl rfl rfl ?_
                        refine o_iload B119 322 324 (v := (q0_71 x0 x1 x2 x3 x4 x5)) at_322 rfl rfl ?_
                        refine o_iconst B119 324 325 (3 : Int32) at_324 rfl (by decide) ?_
                        obtain ⟨T120, B120, c120⟩ := o_callP B119 325 328 at_325 rfl (hw _ (List.mem_of_getElem? (i := 19) rfl)) (hw _ (List.mem_of_getElem? (i := 20) rfl)) (hw _ (List.mem_of_getElem? (i := 3) rfl)) (hw _ (List.mem_of_getElem? (i := 21) rfl)) (by decide) (rm6_4_3 l Z a0 hw (o2_4_0 (w0_70 x0 x1 x2 x3 x4 x5) (q0_55 x0 x1 x2 x3 x4 x5)) (w0_70 x0 x1 x2 x3 x4 x5) a94 a82 (q0_71 x0 x1 x2 x3 x4 x5) T108.heap O108_0 F115) 0 [(.ref a94), (.ref a82), (.int (q0_71 x0 x1 x2 x3 x4 x5)), (.int (3 : Int32))] [] pd___I_III_Z rfl rfl (st := [(.int (3 : Int32)), (.int (q0_71 x0 x1 x2 x3 x4 x5)), (.ref a82), (.ref a94)]) rfl (Ls := #[.val (.int x0), .val (.int x1), .val (.int x2), .val (.int x3), .val (.int x4), .val (.int x5), .val (.int (4 : Int32)), .val (.int (q0_55 x0 x1 x2 x3 x4 x5)), .val (.ref a82), .val (.ref a94), .val (.int (q0_71 x0 x1 x2 x3 x4 x5)), .val (.long (q0_72 x0 x1 x2 x3 x4 x5)), .second]) rfl (Nat.le_of_eq rfl) (by decide) (by decide) (by decide) (by decide)
                        refine c120 ?_
                        by_cases k48 : (q0_80 x0 x1 x2 x3 x4 x5) = 0
                        · refine o_ifY B120 328 335 at_328 (XT.i0_eq_t k48) (by decide) (by decide) ?_
                          refine o_iconst B120 335 336 (0 : Int32) at_335 rfl (by decide) ?_
                          refine o_retZ (t := .boolean) B120 336 at_336 hret hlk (by simp) (by decide) (by decide) ⟨(congrArg (fun z => some (Value.int z)) ((show nar .boolean (0 : Int32) = (0 : Int32) from rfl).trans (show f0 x0 x1 x2 x3 x4 x5 = (0 : Int32) from (if_neg k1).trans ((if_neg k13).trans ((if_neg k25).trans ((if_neg k38).trans ((if_neg k41).trans ((if_pos k42).trans ((if_neg k43).trans ((if_pos k44).trans ((if_neg k45).trans ((if_neg k46).trans ((if_neg k47).trans ((if_pos k48).trans (rfl))))))))))))).symm)), N108⟩
                        · refine o_ifN B120 328 331 at_328 rfl (XT.i0_eq_f k48) ?_
                          refine o_iconst B120 331 332 (1 : Int32) at_331 rfl (by decide) ?_
                          refine o_goto B120 332 336 at_332 (by decide) (by decide) ?_
                          refine o_retZ (t := .boolean) B120 336 at_336 hret hlk (by simp) (by decide) (by decide) ⟨(congrArg (fun z => some (Value.int z)) ((show nar .boolean (1 : Int32) = (1 : Int32) from rfl).trans (show f0 x0 x1 x2 x3 x4 x5 = (1 : Int32) from (if_neg k1).trans ((if_neg k13).trans ((if_neg k25).trans ((if_neg k38).trans ((if_neg k41).trans ((if_pos k42).trans ((if_neg k43).trans ((if_pos k44).trans ((if_neg k45).trans ((if_neg k46).trans ((if_neg k47).trans ((if_neg k48).trans (rfl))))))))))))).symm)), N108⟩
                · refine o_ifN B116 274 277 at_274 rfl (XT.ll_eq_f k44) ?_
                  refine o_iconst B116 277 278 (0 : Int32) at_277 rfl (by decide) ?_
                  refine o_retZ (t := .boolean) B116 278 at_278 hret hlk (by simp) (by decide) (by decide) ⟨(congrArg (fun z => some (Value.int z)) ((show nar .boolean (0 : Int32) = (0 : Int32) from rfl).trans (show f0 x0 x1 x2 x3 x4 x5 = (0 : Int32) from (if_neg k1).trans ((if_neg k13).trans ((if_neg k25).trans ((if_neg k38).trans ((if_neg k41).trans ((if_pos k42).trans ((if_neg k43).trans ((if_neg k44).trans (rfl))))))))).symm)), N108⟩
            · refine o_icN B109 240 243 at_240 rfl (XT.ii_lt_f k42) ?_
              refine o_iconst B109 243 244 (0 : Int32) at_243 rfl (by decide) ?_
              refine o_retZ (t := .boolean) B109 244 at_244 hret hlk (by simp) (by decide) (by decide) ⟨(congrArg (fun z => some (Value.int z)) ((show nar .boolean (0 : Int32) = (0 : Int32) from rfl).trans (show f0 x0 x1 x2 x3 x4 x5 = (0 : Int32) from (if_neg k1).trans ((if_neg k13).trans ((if_neg k25).trans ((if_neg k38).trans ((if_neg k41).trans ((if_neg k42).trans (rfl))))))).symm)), N108⟩
theorem own_of {y : Int32} {m : Nat} (h : y.toInt = m) (hm : m < 1000) : y = Int32.ofNat m := Int32.toInt_inj.mp (by rw [h, Int32.toInt_ofNat_of_lt (by omega)])
theorem own_q1 : ∀ m : Fin 19, 1 ≤ m.val → f3 (Int32.ofNat m.val).toInt64 1 = 1 + f3 (Int32.ofNat (m.val - 1)).toInt64 1 := by decide +kernel
theorem own_q2 : ∀ m : Fin 19, 2 ≤ m.val → f3 (Int32.ofNat m.val).toInt64 2 = 1 + (f3 (Int32.ofNat (m.val - 1)).toInt64 2 + f3 (Int32.ofNat (m.val - 2)).toInt64 1) := by decide +kernel
theorem own_q3 : ∀ m : Fin 19, 3 ≤ m.val → f3 (Int32.ofNat m.val).toInt64 3 = 1 + ((f3 (Int32.ofNat (m.val - 1)).toInt64 3 + f3 (Int32.ofNat (m.val - 2)).toInt64 2) + f3 (Int32.ofNat (m.val - 3)).toInt64 1) := by decide +kernel
theorem own_q4 : ∀ m : Fin 19, 4 ≤ m.val → f3 (Int32.ofNat m.val).toInt64 4 = 1 + (((f3 (Int32.ofNat (m.val - 1)).toInt64 4 + f3 (Int32.ofNat (m.val - 2)).toInt64 3) + f3 (Int32.ofNat (m.val - 3)).toInt64 2) + f3 (Int32.ofNat (m.val - 4)).toInt64 1) := by decide +kernel
theorem own_z (y : Int32) (j : Int32) (h0 : 0 ≤ y.toInt) (h1 : y.toInt < j.toInt) : f3 y.toInt64 j = 0 := by
  unfold f3
  rw [if_neg (by rw [← Int32.toInt_inj, Int32.toInt_zero]; omega), if_pos (by rw [Int64.lt_iff_toInt_lt, c_i2l, c_i2l]; exact h1)]
theorem own_r1 (y0 y1 : Int32) (h0 : 1 ≤ y0.toInt ∧ y0.toInt ≤ 18) (h1 : y1.toInt = y0.toInt - 1) : f3 y0.toInt64 1 = 1 + f3 y1.toInt64 1 := by
  obtain ⟨m, hm⟩ : ∃ m : Nat, y0.toInt = m := ⟨y0.toInt.toNat, by omega⟩
  rw [own_of hm (by omega), own_of (y := y1) (m := m - 1) (by omega) (by omega)]
  exact own_q1 ⟨m, by omega⟩ (by show 1 ≤ m; omega)
theorem own_r2 (y0 y1 y2 : Int32) (h0 : 2 ≤ y0.toInt ∧ y0.toInt ≤ 18) (h1 : y1.toInt = y0.toInt - 1) (h2 : y2.toInt = y0.toInt - 2) : f3 y0.toInt64 2 = 1 + (f3 y1.toInt64 2 + f3 y2.toInt64 1) := by
  obtain ⟨m, hm⟩ : ∃ m : Nat, y0.toInt = m := ⟨y0.toInt.toNat, by omega⟩
  rw [own_of hm (by omega), own_of (y := y1) (m := m - 1) (by omega) (by omega), own_of (y := y2) (m := m - 2) (by omega) (by omega)]
  exact own_q2 ⟨m, by omega⟩ (by show 2 ≤ m; omega)
theorem own_r3 (y0 y1 y2 y3 : Int32) (h0 : 3 ≤ y0.toInt ∧ y0.toInt ≤ 18) (h1 : y1.toInt = y0.toInt - 1) (h2 : y2.toInt = y0.toInt - 2) (h3 : y3.toInt = y0.toInt - 3) : f3 y0.toInt64 3 = 1 + ((f3 y1.toInt64 3 + f3 y2.toInt64 2) + f3 y3.toInt64 1) := by
  obtain ⟨m, hm⟩ : ∃ m : Nat, y0.toInt = m := ⟨y0.toInt.toNat, by omega⟩
  rw [own_of hm (by omega), own_of (y := y1) (m := m - 1) (by omega) (by omega), own_of (y := y2) (m := m - 2) (by omega) (by omega), own_of (y := y3) (m := m - 3) (by omega) (by omega)]
  exact own_q3 ⟨m, by omega⟩ (by show 3 ≤ m; omega)
theorem own_r4 (y0 y1 y2 y3 y4 : Int32) (h0 : 4 ≤ y0.toInt ∧ y0.toInt ≤ 18) (h1 : y1.toInt = y0.toInt - 1) (h2 : y2.toInt = y0.toInt - 2) (h3 : y3.toInt = y0.toInt - 3) (h4 : y4.toInt = y0.toInt - 4) : f3 y0.toInt64 4 = 1 + (((f3 y1.toInt64 4 + f3 y2.toInt64 3) + f3 y3.toInt64 2) + f3 y4.toInt64 1) := by
  obtain ⟨m, hm⟩ : ∃ m : Nat, y0.toInt = m := ⟨y0.toInt.toNat, by omega⟩
  rw [own_of hm (by omega), own_of (y := y1) (m := m - 1) (by omega) (by omega), own_of (y := y2) (m := m - 2) (by omega) (by omega), own_of (y := y3) (m := m - 3) (by omega) (by omega), own_of (y := y4) (m := m - 4) (by omega) (by omega)]
  exact own_q4 ⟨m, by omega⟩ (by show 4 ≤ m; omega)
theorem own_i1_0 (A B0 C0 : Int64) (h : B0 = 1 + C0) : (A - 1) - C0 = ((A - 1) - B0) + 1 := by
  subst h
  apply Int64.toInt_inj.mp
  simp only [Int64.toInt_add, Int64.toInt_sub, Int.add_bmod_bmod, Int.bmod_add_bmod, Int.sub_bmod_bmod, Int.bmod_sub_bmod]
  congr 1
  have e0 : (0 : Int64).toInt = 0 := rfl
  have e1 : (1 : Int64).toInt = 1 := rfl
  omega
theorem own_e1 (A : Int64) : (A - 1) - (0 : Int64) = A - 1 := by
  apply Int64.toInt_inj.mp
  simp only [Int64.toInt_add, Int64.toInt_sub, Int.add_bmod_bmod, Int.bmod_add_bmod, Int.sub_bmod_bmod, Int.bmod_sub_bmod]
  congr 1
  have e0 : (0 : Int64).toInt = 0 := rfl
  have e1 : (1 : Int64).toInt = 1 := rfl
  omega
theorem own_i2_0 (A B0 C0 C1 : Int64) (h : B0 = 1 + (C0 + C1)) : (A - 1) - (C0 + C1) = ((A - 1) - (B0 + 0)) + 1 := by
  subst h
  apply Int64.toInt_inj.mp
  simp only [Int64.toInt_add, Int64.toInt_sub, Int.add_bmod_bmod, Int.bmod_add_bmod, Int.sub_bmod_bmod, Int.bmod_sub_bmod]
  congr 1
  have e0 : (0 : Int64).toInt = 0 := rfl
  have e1 : (1 : Int64).toInt = 1 := rfl
  omega
theorem own_i2_1 (A B0 B1 C1 : Int64) (h : B1 = 1 + C1) : (A - 1) - (B0 + C1) = ((A - 1) - (B0 + B1)) + 1 := by
  subst h
  apply Int64.toInt_inj.mp
  simp only [Int64.toInt_add, Int64.toInt_sub, Int.add_bmod_bmod, Int.bmod_add_bmod, Int.sub_bmod_bmod, Int.bmod_sub_bmod]
  congr 1
  have e0 : (0 : Int64).toInt = 0 := rfl
  have e1 : (1 : Int64).toInt = 1 := rfl
  omega
theorem own_e2 (A : Int64) : (A - 1) - (0 + 0) = A - 1 := by
  apply Int64.toInt_inj.mp
  simp only [Int64.toInt_add, Int64.toInt_sub, Int.add_bmod_bmod, Int.bmod_add_bmod, Int.sub_bmod_bmod, Int.bmod_sub_bmod]
  congr 1
  have e0 : (0 : Int64).toInt = 0 := rfl
  have e1 : (1 : Int64).toInt = 1 := rfl
  omega
theorem own_i3_0 (A B0 C0 C1 C2 : Int64) (h : B0 = 1 + ((C0 + C1) + C2)) : (A - 1) - ((C0 + C1) + C2) = ((A - 1) - ((B0 + 0) + 0)) + 1 := by
  subst h
  apply Int64.toInt_inj.mp
  simp only [Int64.toInt_add, Int64.toInt_sub, Int.add_bmod_bmod, Int.bmod_add_bmod, Int.sub_bmod_bmod, Int.bmod_sub_bmod]
  congr 1
  have e0 : (0 : Int64).toInt = 0 := rfl
  have e1 : (1 : Int64).toInt = 1 := rfl
  omega
theorem own_i3_1 (A B0 B1 C1 C2 : Int64) (h : B1 = 1 + (C1 + C2)) : (A - 1) - ((B0 + C1) + C2) = ((A - 1) - ((B0 + B1) + 0)) + 1 := by
  subst h
  apply Int64.toInt_inj.mp
  simp only [Int64.toInt_add, Int64.toInt_sub, Int.add_bmod_bmod, Int.bmod_add_bmod, Int.sub_bmod_bmod, Int.bmod_sub_bmod]
  congr 1
  have e0 : (0 : Int64).toInt = 0 := rfl
  have e1 : (1 : Int64).toInt = 1 := rfl
  omega
theorem own_i3_2 (A B0 B1 B2 C2 : Int64) (h : B2 = 1 + C2) : (A - 1) - ((B0 + B1) + C2) = ((A - 1) - ((B0 + B1) + B2)) + 1 := by
  subst h
  apply Int64.toInt_inj.mp
  simp only [Int64.toInt_add, Int64.toInt_sub, Int.add_bmod_bmod, Int.bmod_add_bmod, Int.sub_bmod_bmod, Int.bmod_sub_bmod]
  congr 1
  have e0 : (0 : Int64).toInt = 0 := rfl
  have e1 : (1 : Int64).toInt = 1 := rfl
  omega
theorem own_e3 (A : Int64) : (A - 1) - ((0 + 0) + 0) = A - 1 := by
  apply Int64.toInt_inj.mp
  simp only [Int64.toInt_add, Int64.toInt_sub, Int.add_bmod_bmod, Int.bmod_add_bmod, Int.sub_bmod_bmod, Int.bmod_sub_bmod]
  congr 1
  have e0 : (0 : Int64).toInt = 0 := rfl
  have e1 : (1 : Int64).toInt = 1 := rfl
  omega
theorem own_i4_0 (A B0 C0 C1 C2 C3 : Int64) (h : B0 = 1 + (((C0 + C1) + C2) + C3)) : (A - 1) - (((C0 + C1) + C2) + C3) = ((A - 1) - (((B0 + 0) + 0) + 0)) + 1 := by
  subst h
  apply Int64.toInt_inj.mp
  simp only [Int64.toInt_add, Int64.toInt_sub, Int.add_bmod_bmod, Int.bmod_add_bmod, Int.sub_bmod_bmod, Int.bmod_sub_bmod]
  congr 1
  have e0 : (0 : Int64).toInt = 0 := rfl
  have e1 : (1 : Int64).toInt = 1 := rfl
  omega
theorem own_i4_1 (A B0 B1 C1 C2 C3 : Int64) (h : B1 = 1 + ((C1 + C2) + C3)) : (A - 1) - (((B0 + C1) + C2) + C3) = ((A - 1) - (((B0 + B1) + 0) + 0)) + 1 := by
  subst h
  apply Int64.toInt_inj.mp
  simp only [Int64.toInt_add, Int64.toInt_sub, Int.add_bmod_bmod, Int.bmod_add_bmod, Int.sub_bmod_bmod, Int.bmod_sub_bmod]
  congr 1
  have e0 : (0 : Int64).toInt = 0 := rfl
  have e1 : (1 : Int64).toInt = 1 := rfl
  omega
theorem own_i4_2 (A B0 B1 B2 C2 C3 : Int64) (h : B2 = 1 + (C2 + C3)) : (A - 1) - (((B0 + B1) + C2) + C3) = ((A - 1) - (((B0 + B1) + B2) + 0)) + 1 := by
  subst h
  apply Int64.toInt_inj.mp
  simp only [Int64.toInt_add, Int64.toInt_sub, Int.add_bmod_bmod, Int.bmod_add_bmod, Int.sub_bmod_bmod, Int.bmod_sub_bmod]
  congr 1
  have e0 : (0 : Int64).toInt = 0 := rfl
  have e1 : (1 : Int64).toInt = 1 := rfl
  omega
theorem own_i4_3 (A B0 B1 B2 B3 C3 : Int64) (h : B3 = 1 + C3) : (A - 1) - (((B0 + B1) + B2) + C3) = ((A - 1) - (((B0 + B1) + B2) + B3)) + 1 := by
  subst h
  apply Int64.toInt_inj.mp
  simp only [Int64.toInt_add, Int64.toInt_sub, Int.add_bmod_bmod, Int.bmod_add_bmod, Int.sub_bmod_bmod, Int.bmod_sub_bmod]
  congr 1
  have e0 : (0 : Int64).toInt = 0 := rfl
  have e1 : (1 : Int64).toInt = 1 := rfl
  omega
theorem own_e4 (A : Int64) : (A - 1) - (((0 + 0) + 0) + 0) = A - 1 := by
  apply Int64.toInt_inj.mp
  simp only [Int64.toInt_add, Int64.toInt_sub, Int.add_bmod_bmod, Int.bmod_add_bmod, Int.sub_bmod_bmod, Int.bmod_sub_bmod]
  congr 1
  have e0 : (0 : Int64).toInt = 0 := rfl
  have e1 : (1 : Int64).toInt = 1 := rfl
  omega
def own_X1 (g : Nat → Int32) (n : Int32) : Int32 := (if (f2_1 g n) = (-1 : Int32) then (if f7_1 (o2_1_0 g n) g = 0 then 0 else (if f5_1 g n = f3 n.toInt64 1 - 1 then 1 else 0)) else (if (f2_1 g n) < 0 then 0 else (if (f2_1 g n) < (1 : Int32) then (if f4_1 (o2_1_0 g n) n = 0 then 0 else (if f5_1 (o2_1_0 g n) n = f5_1 g n + 1 then (if f6_1_0 (o2_1_0 g n) g (f2_1 g n) = 0 then 0 else (if f6_1_1 (o2_1_0 g n) g (f2_1 g n) = 0 then 0 else (if f6_1_2 (o2_1_0 g n) g (f2_1 g n) = 0 then 0 else (if f6_1_3 (o2_1_0 g n) g (f2_1 g n) = 0 then 0 else (1 : Int32))))) else 0)) else 0)))
theorem own_cd1 (n : Int32) (hN : 1 ≤ n.toInt ∧ n.toInt ≤ 19) (y : Int32) (c : Int32) (k : Int) (hc : c.toInt = k) (h0 : 0 ≤ k) (h3 : k ≤ 3) : (y = (n - (1 : Int32)) + c) ↔ y.toInt = n.toInt - 1 + k := by
  rw [← Int32.toInt_inj, own_add _ c k hc (by rw [own_sub n 1 1 (by decide) (by omega) (by omega) (by omega) (by omega)]; omega) (by rw [own_sub n 1 1 (by decide) (by omega) (by omega) (by omega) (by omega)]; omega) h0 (by omega), own_sub n 1 1 (by decide) (by omega) (by omega) (by omega) (by omega)]
theorem own_core1 (g : Nat → Int32) (n : Int32) (hN : 1 ≤ n.toInt ∧ n.toInt ≤ 19) (b0 : 0 ≤ (g 0).toInt ∧ (g 0).toInt ≤ n.toInt - 1) : own_X1 g n = 1 := by
  have c0 := own_cd1 n hN (g 0) 0 0 (by decide) (by decide) (by decide)
  have n1 : (n - 1).toInt = n.toInt - 1 := own_sub n 1 1 (by decide) (by omega) (by omega) (by omega) (by omega)
  have m0 : ((n - 1) - g 0).toInt = n.toInt - 1 - (g 0).toInt := own_sub _ _ _ rfl (by omega) (by omega) (by omega) (by omega) |>.trans (by rw [n1])
  unfold own_X1
  by_cases k0 : (g 0) = ((n - (1 : Int32)) + (0 : Int32))
  · have u0 := (c0).mp k0
    have hret : f2_1 g n = (-1 : Int32) := by unfold f2_1; rw [if_pos k0]
    have ho : o2_1_0 g n = g := by unfold o2_1_0; rw [if_pos k0]
    have hs : f7_1 g g = 1 := by unfold f7_1; rw [if_pos rfl]
    have z0 : f3 ((n - 1) - g 0).toInt64 1 = 0 := own_z _ 1 (by omega) (by rw [m0, show (1 : Int32).toInt = 1 by decide]; omega)
    have hr : f5_1 g n = f3 n.toInt64 1 - 1 := by
      have e := own_e1 (f3 n.toInt64 1)
      show (f3 n.toInt64 1 - 1) - f3 ((n - 1) - g 0).toInt64 1 = _
      rw [z0]
      exact e
    rw [hret, ho, hs, hr, if_pos rfl, if_neg (by decide), if_pos rfl]
  · have u0 : ¬ (g 0).toInt = n.toInt - 1 + 0 := fun q => k0 ((c0).mpr q)
    have hret : f2_1 g n = (0 : Int32) := by unfold f2_1; rw [if_neg k0]
    have ho : o2_1_0 g n = w2_1_1 g n := by unfold o2_1_0; rw [if_neg k0]
    have w0 : (w2_1_1 g n) 0 = ((g 0) + 1) := rfl
    have x0 : ((w2_1_1 g n) 0).toInt = (g 0).toInt + 1 := by rw [w0]; exact own_add _ 1 1 (by decide) (by omega) (by omega) (by omega) (by omega)
    have r0 : ((n - 1) - (w2_1_1 g n) 0).toInt = n.toInt - 1 - ((w2_1_1 g n) 0).toInt := (own_sub _ _ _ rfl (by omega) (by omega) (by omega) (by omega)).trans (by rw [n1])
    have hb := own_r1 ((n - 1) - g 0) ((n - 1) - (w2_1_1 g n) 0) (by omega) (by omega)
    have hr : f5_1 (w2_1_1 g n) n = f5_1 g n + 1 := by
      show (f3 n.toInt64 1 - 1) - f3 ((n - 1) - (w2_1_1 g n) 0).toInt64 1 = ((f3 n.toInt64 1 - 1) - f3 ((n - 1) - g 0).toInt64 1) + 1
      exact own_i1_0 _ _ _ hb
    have hv : f4_1 (w2_1_1 g n) n = 1 := by
      unfold f4_1
      rw [if_neg (by rw [Int32.lt_iff_toInt_lt, Int32.toInt_zero]; omega), if_pos (by rw [Int32.lt_iff_toInt_lt]; omega)]
    have p0 : f6_1_0 (w2_1_1 g n) g (0 : Int32) = 1 := by unfold f6_1_0; rw [if_neg (by decide), if_pos rfl, if_neg (by rw [← Int32.toInt_inj]; omega)]
    have p1 : f6_1_1 (w2_1_1 g n) g (0 : Int32) = 1 := by rfl
    have p2 : f6_1_2 (w2_1_1 g n) g (0 : Int32) = 1 := by rfl
    have p3 : f6_1_3 (w2_1_1 g n) g (0 : Int32) = 1 := by rfl
    rw [hret, ho, hr, hv, p0, p1, p2, p3, if_neg (by decide), if_neg (by decide), if_pos (by decide), if_neg (by decide), if_pos rfl, if_neg (by decide), if_neg (by decide), if_neg (by decide), if_neg (by decide)]
def own_X2 (g : Nat → Int32) (n : Int32) : Int32 := (if (f2_2 g n) = (-1 : Int32) then (if f7_2 (o2_2_0 g n) g = 0 then 0 else (if f5_2 g n = f3 n.toInt64 2 - 1 then 1 else 0)) else (if (f2_2 g n) < 0 then 0 else (if (f2_2 g n) < (2 : Int32) then (if f4_2 (o2_2_0 g n) n = 0 then 0 else (if f5_2 (o2_2_0 g n) n = f5_2 g n + 1 then (if f6_2_0 (o2_2_0 g n) g (f2_2 g n) = 0 then 0 else (if f6_2_1 (o2_2_0 g n) g (f2_2 g n) = 0 then 0 else (if f6_2_2 (o2_2_0 g n) g (f2_2 g n) = 0 then 0 else (if f6_2_3 (o2_2_0 g n) g (f2_2 g n) = 0 then 0 else (1 : Int32))))) else 0)) else 0)))
theorem own_cd2 (n : Int32) (hN : 2 ≤ n.toInt ∧ n.toInt ≤ 19) (y : Int32) (c : Int32) (k : Int) (hc : c.toInt = k) (h0 : 0 ≤ k) (h3 : k ≤ 3) : (y = (n - (2 : Int32)) + c) ↔ y.toInt = n.toInt - 2 + k := by
  rw [← Int32.toInt_inj, own_add _ c k hc (by rw [own_sub n 2 2 (by decide) (by omega) (by omega) (by omega) (by omega)]; omega) (by rw [own_sub n 2 2 (by decide) (by omega) (by omega) (by omega) (by omega)]; omega) h0 (by omega), own_sub n 2 2 (by decide) (by omega) (by omega) (by omega) (by omega)]
theorem own_core2 (g : Nat → Int32) (n : Int32) (hN : 2 ≤ n.toInt ∧ n.toInt ≤ 19) (b0 : 0 ≤ (g 0).toInt ∧ (g 0).toInt ≤ n.toInt - 2) (b1 : (g 0).toInt < (g 1).toInt ∧ (g 1).toInt ≤ n.toInt - 1) : own_X2 g n = 1 := by
  have c0 := own_cd2 n hN (g 0) 0 0 (by decide) (by decide) (by decide)
  have c1 := own_cd2 n hN (g 1) 1 1 (by decide) (by decide) (by decide)
  have n1 : (n - 1).toInt = n.toInt - 1 := own_sub n 1 1 (by decide) (by omega) (by omega) (by omega) (by omega)
  have m0 : ((n - 1) - g 0).toInt = n.toInt - 1 - (g 0).toInt := own_sub _ _ _ rfl (by omega) (by omega) (by omega) (by omega) |>.trans (by rw [n1])
  have m1 : ((n - 1) - g 1).toInt = n.toInt - 1 - (g 1).toInt := own_sub _ _ _ rfl (by omega) (by omega) (by omega) (by omega) |>.trans (by rw [n1])
  unfold own_X2
  by_cases k1 : (g 1) = ((n - (2 : Int32)) + (1 : Int32))
  · by_cases k0 : (g 0) = ((n - (2 : Int32)) + (0 : Int32))
    · have u1 := (c1).mp k1
      have u0 := (c0).mp k0
      have hret : f2_2 g n = (-1 : Int32) := by unfold f2_2; rw [if_pos k1, if_pos k0]
      have ho : o2_2_0 g n = g := by unfold o2_2_0; rw [if_pos k1, if_pos k0]
      have hs : f7_2 g g = 1 := by unfold f7_2; rw [if_pos rfl, if_pos rfl]
      have z0 : f3 ((n - 1) - g 0).toInt64 2 = 0 := own_z _ 2 (by omega) (by rw [m0, show (2 : Int32).toInt = 2 by decide]; omega)
      have z1 : f3 ((n - 1) - g 1).toInt64 1 = 0 := own_z _ 1 (by omega) (by rw [m1, show (1 : Int32).toInt = 1 by decide]; omega)
      have hr : f5_2 g n = f3 n.toInt64 2 - 1 := by
        have e := own_e2 (f3 n.toInt64 2)
        show (f3 n.toInt64 2 - 1) - (f3 ((n - 1) - g 0).toInt64 2 + f3 ((n - 1) - g 1).toInt64 1) = _
        rw [z0, z1]
        exact e
      rw [hret, ho, hs, hr, if_pos rfl, if_neg (by decide), if_pos rfl]
    · have u1 := (c1).mp k1
      have u0 : ¬ (g 0).toInt = n.toInt - 2 + 0 := fun q => k0 ((c0).mpr q)
      have hret : f2_2 g n = (0 : Int32) := by unfold f2_2; rw [if_pos k1, if_neg k0]
      have ho : o2_2_0 g n = w2_2_2 g n := by unfold o2_2_0; rw [if_pos k1, if_neg k0]
      have w0 : (w2_2_2 g n) 0 = ((g 0) + 1) := rfl
      have w1 : (w2_2_2 g n) 1 = (((g 0) + 1) + 1) := rfl
      have x0 : ((w2_2_2 g n) 0).toInt = (g 0).toInt + 1 := by rw [w0]; exact own_add _ 1 1 (by decide) (by omega) (by omega) (by omega) (by omega)
      have x1 : ((w2_2_2 g n) 1).toInt = (g 0).toInt + 2 := by rw [w1]; rw [own_add _ 1 1 (by decide) (by rw [← w0]; omega) (by rw [← w0]; omega) (by omega) (by omega), ← w0, x0]; omega
      have r0 : ((n - 1) - (w2_2_2 g n) 0).toInt = n.toInt - 1 - ((w2_2_2 g n) 0).toInt := (own_sub _ _ _ rfl (by omega) (by omega) (by omega) (by omega)).trans (by rw [n1])
      have r1 : ((n - 1) - (w2_2_2 g n) 1).toInt = n.toInt - 1 - ((w2_2_2 g n) 1).toInt := (own_sub _ _ _ rfl (by omega) (by omega) (by omega) (by omega)).trans (by rw [n1])
      have z1 : f3 ((n - 1) - g 1).toInt64 1 = 0 := own_z _ 1 (by omega) (by rw [m1, show (1 : Int32).toInt = 1 by decide]; omega)
      have hb := own_r2 ((n - 1) - g 0) ((n - 1) - (w2_2_2 g n) 0) ((n - 1) - (w2_2_2 g n) 1) (by omega) (by omega) (by omega)
      have hr : f5_2 (w2_2_2 g n) n = f5_2 g n + 1 := by
        show (f3 n.toInt64 2 - 1) - (f3 ((n - 1) - (w2_2_2 g n) 0).toInt64 2 + f3 ((n - 1) - (w2_2_2 g n) 1).toInt64 1) = ((f3 n.toInt64 2 - 1) - (f3 ((n - 1) - g 0).toInt64 2 + f3 ((n - 1) - g 1).toInt64 1)) + 1
        rw [z1]
        exact own_i2_0 _ _ _ _ hb
      have hv : f4_2 (w2_2_2 g n) n = 1 := by
        unfold f4_2
        rw [if_neg (by rw [Int32.lt_iff_toInt_lt, Int32.toInt_zero]; omega), if_pos (by rw [Int32.lt_iff_toInt_lt]; omega), if_pos (by rw [Int32.lt_iff_toInt_lt]; omega)]
      have p0 : f6_2_0 (w2_2_2 g n) g (0 : Int32) = 1 := by unfold f6_2_0; rw [if_neg (by decide), if_pos rfl, if_neg (by rw [← Int32.toInt_inj]; omega)]
      have p1 : f6_2_1 (w2_2_2 g n) g (0 : Int32) = 1 := by unfold f6_2_1; rw [if_neg (by decide), if_neg (by decide)]
      have p2 : f6_2_2 (w2_2_2 g n) g (0 : Int32) = 1 := by rfl
      have p3 : f6_2_3 (w2_2_2 g n) g (0 : Int32) = 1 := by rfl
      rw [hret, ho, hr, hv, p0, p1, p2, p3, if_neg (by decide), if_neg (by decide), if_pos (by decide), if_neg (by decide), if_pos rfl, if_neg (by decide), if_neg (by decide), if_neg (by decide), if_neg (by decide)]
  · have u1 : ¬ (g 1).toInt = n.toInt - 2 + 1 := fun q => k1 ((c1).mpr q)
    have hret : f2_2 g n = (1 : Int32) := by unfold f2_2; rw [if_neg k1]
    have ho : o2_2_0 g n = w2_2_3 g n := by unfold o2_2_0; rw [if_neg k1]
    have w0 : (w2_2_3 g n) 0 = (g 0) := rfl
    have w1 : (w2_2_3 g n) 1 = ((g 1) + 1) := rfl
    have x1 : ((w2_2_3 g n) 1).toInt = (g 1).toInt + 1 := by rw [w1]; exact own_add _ 1 1 (by decide) (by omega) (by omega) (by omega) (by omega)
    have x0 : ((w2_2_3 g n) 0).toInt = (g 0).toInt := by rw [w0]
    have r1 : ((n - 1) - (w2_2_3 g n) 1).toInt = n.toInt - 1 - ((w2_2_3 g n) 1).toInt := (own_sub _ _ _ rfl (by omega) (by omega) (by omega) (by omega)).trans (by rw [n1])
    have hb := own_r1 ((n - 1) - g 1) ((n - 1) - (w2_2_3 g n) 1) (by omega) (by omega)
    have hr : f5_2 (w2_2_3 g n) n = f5_2 g n + 1 := by
      show (f3 n.toInt64 2 - 1) - (f3 ((n - 1) - g 0).toInt64 2 + f3 ((n - 1) - (w2_2_3 g n) 1).toInt64 1) = ((f3 n.toInt64 2 - 1) - (f3 ((n - 1) - g 0).toInt64 2 + f3 ((n - 1) - g 1).toInt64 1)) + 1
      exact own_i2_1 _ _ _ _ hb
    have hv : f4_2 (w2_2_3 g n) n = 1 := by
      unfold f4_2
      rw [if_neg (by rw [Int32.lt_iff_toInt_lt, Int32.toInt_zero]; omega), if_pos (by rw [Int32.lt_iff_toInt_lt]; omega), if_pos (by rw [Int32.lt_iff_toInt_lt]; omega)]
    have p0 : f6_2_0 (w2_2_3 g n) g (1 : Int32) = 1 := by unfold f6_2_0; rw [if_pos (by decide), if_pos w0]
    have p1 : f6_2_1 (w2_2_3 g n) g (1 : Int32) = 1 := by unfold f6_2_1; rw [if_neg (by decide), if_pos rfl, if_neg (by rw [← Int32.toInt_inj]; omega)]
    have p2 : f6_2_2 (w2_2_3 g n) g (1 : Int32) = 1 := by rfl
    have p3 : f6_2_3 (w2_2_3 g n) g (1 : Int32) = 1 := by rfl
    rw [hret, ho, hr, hv, p0, p1, p2, p3, if_neg (by decide), if_neg (by decide), if_pos (by decide), if_neg (by decide), if_pos rfl, if_neg (by decide), if_neg (by decide), if_neg (by decide), if_neg (by decide)]
def own_X3 (g : Nat → Int32) (n : Int32) : Int32 := (if (f2_3 g n) = (-1 : Int32) then (if f7_3 (o2_3_0 g n) g = 0 then 0 else (if f5_3 g n = f3 n.toInt64 3 - 1 then 1 else 0)) else (if (f2_3 g n) < 0 then 0 else (if (f2_3 g n) < (3 : Int32) then (if f4_3 (o2_3_0 g n) n = 0 then 0 else (if f5_3 (o2_3_0 g n) n = f5_3 g n + 1 then (if f6_3_0 (o2_3_0 g n) g (f2_3 g n) = 0 then 0 else (if f6_3_1 (o2_3_0 g n) g (f2_3 g n) = 0 then 0 else (if f6_3_2 (o2_3_0 g n) g (f2_3 g n) = 0 then 0 else (if f6_3_3 (o2_3_0 g n) g (f2_3 g n) = 0 then 0 else (1 : Int32))))) else 0)) else 0)))
theorem own_cd3 (n : Int32) (hN : 3 ≤ n.toInt ∧ n.toInt ≤ 19) (y : Int32) (c : Int32) (k : Int) (hc : c.toInt = k) (h0 : 0 ≤ k) (h3 : k ≤ 3) : (y = (n - (3 : Int32)) + c) ↔ y.toInt = n.toInt - 3 + k := by
  rw [← Int32.toInt_inj, own_add _ c k hc (by rw [own_sub n 3 3 (by decide) (by omega) (by omega) (by omega) (by omega)]; omega) (by rw [own_sub n 3 3 (by decide) (by omega) (by omega) (by omega) (by omega)]; omega) h0 (by omega), own_sub n 3 3 (by decide) (by omega) (by omega) (by omega) (by omega)]
theorem own_core3 (g : Nat → Int32) (n : Int32) (hN : 3 ≤ n.toInt ∧ n.toInt ≤ 19) (b0 : 0 ≤ (g 0).toInt ∧ (g 0).toInt ≤ n.toInt - 3) (b1 : (g 0).toInt < (g 1).toInt ∧ (g 1).toInt ≤ n.toInt - 2) (b2 : (g 1).toInt < (g 2).toInt ∧ (g 2).toInt ≤ n.toInt - 1) : own_X3 g n = 1 := by
  have c0 := own_cd3 n hN (g 0) 0 0 (by decide) (by decide) (by decide)
  have c1 := own_cd3 n hN (g 1) 1 1 (by decide) (by decide) (by decide)
  have c2 := own_cd3 n hN (g 2) 2 2 (by decide) (by decide) (by decide)
  have n1 : (n - 1).toInt = n.toInt - 1 := own_sub n 1 1 (by decide) (by omega) (by omega) (by omega) (by omega)
  have m0 : ((n - 1) - g 0).toInt = n.toInt - 1 - (g 0).toInt := own_sub _ _ _ rfl (by omega) (by omega) (by omega) (by omega) |>.trans (by rw [n1])
  have m1 : ((n - 1) - g 1).toInt = n.toInt - 1 - (g 1).toInt := own_sub _ _ _ rfl (by omega) (by omega) (by omega) (by omega) |>.trans (by rw [n1])
  have m2 : ((n - 1) - g 2).toInt = n.toInt - 1 - (g 2).toInt := own_sub _ _ _ rfl (by omega) (by omega) (by omega) (by omega) |>.trans (by rw [n1])
  unfold own_X3
  by_cases k2 : (g 2) = ((n - (3 : Int32)) + (2 : Int32))
  · by_cases k1 : (g 1) = ((n - (3 : Int32)) + (1 : Int32))
    · by_cases k0 : (g 0) = ((n - (3 : Int32)) + (0 : Int32))
      · have u2 := (c2).mp k2
        have u1 := (c1).mp k1
        have u0 := (c0).mp k0
        have hret : f2_3 g n = (-1 : Int32) := by unfold f2_3; rw [if_pos k2, if_pos k1, if_pos k0]
        have ho : o2_3_0 g n = g := by unfold o2_3_0; rw [if_pos k2, if_pos k1, if_pos k0]
        have hs : f7_3 g g = 1 := by unfold f7_3; rw [if_pos rfl, if_pos rfl, if_pos rfl]
        have z0 : f3 ((n - 1) - g 0).toInt64 3 = 0 := own_z _ 3 (by omega) (by rw [m0, show (3 : Int32).toInt = 3 by decide]; omega)
        have z1 : f3 ((n - 1) - g 1).toInt64 2 = 0 := own_z _ 2 (by omega) (by rw [m1, show (2 : Int32).toInt = 2 by decide]; omega)
        have z2 : f3 ((n - 1) - g 2).toInt64 1 = 0 := own_z _ 1 (by omega) (by rw [m2, show (1 : Int32).toInt = 1 by decide]; omega)
        have hr : f5_3 g n = f3 n.toInt64 3 - 1 := by
          have e := own_e3 (f3 n.toInt64 3)
          show (f3 n.toInt64 3 - 1) - ((f3 ((n - 1) - g 0).toInt64 3 + f3 ((n - 1) - g 1).toInt64 2) + f3 ((n - 1) - g 2).toInt64 1) = _
          rw [z0, z1, z2]
          exact e
        rw [hret, ho, hs, hr, if_pos rfl, if_neg (by decide), if_pos rfl]
      · have u2 := (c2).mp k2
        have u1 := (c1).mp k1
        have u0 : ¬ (g 0).toInt = n.toInt - 3 + 0 := fun q => k0 ((c0).mpr q)
        have hret : f2_3 g n = (0 : Int32) := by unfold f2_3; rw [if_pos k2, if_pos k1, if_neg k0]
        have ho : o2_3_0 g n = w2_3_3 g n := by unfold o2_3_0; rw [if_pos k2, if_pos k1, if_neg k0]
        have w0 : (w2_3_3 g n) 0 = ((g 0) + 1) := rfl
        have w1 : (w2_3_3 g n) 1 = (((g 0) + 1) + 1) := rfl
        have w2 : (w2_3_3 g n) 2 = ((((g 0) + 1) + 1) + 1) := rfl
        have x0 : ((w2_3_3 g n) 0).toInt = (g 0).toInt + 1 := by rw [w0]; exact own_add _ 1 1 (by decide) (by omega) (by omega) (by omega) (by omega)
        have x1 : ((w2_3_3 g n) 1).toInt = (g 0).toInt + 2 := by rw [w1]; rw [own_add _ 1 1 (by decide) (by rw [← w0]; omega) (by rw [← w0]; omega) (by omega) (by omega), ← w0, x0]; omega
        have x2 : ((w2_3_3 g n) 2).toInt = (g 0).toInt + 3 := by rw [w2]; rw [own_add _ 1 1 (by decide) (by rw [← w1]; omega) (by rw [← w1]; omega) (by omega) (by omega), ← w1, x1]; omega
        have r0 : ((n - 1) - (w2_3_3 g n) 0).toInt = n.toInt - 1 - ((w2_3_3 g n) 0).toInt := (own_sub _ _ _ rfl (by omega) (by omega) (by omega) (by omega)).trans (by rw [n1])
        have r1 : ((n - 1) - (w2_3_3 g n) 1).toInt = n.toInt - 1 - ((w2_3_3 g n) 1).toInt := (own_sub _ _ _ rfl (by omega) (by omega) (by omega) (by omega)).trans (by rw [n1])
        have r2 : ((n - 1) - (w2_3_3 g n) 2).toInt = n.toInt - 1 - ((w2_3_3 g n) 2).toInt := (own_sub _ _ _ rfl (by omega) (by omega) (by omega) (by omega)).trans (by rw [n1])
        have z1 : f3 ((n - 1) - g 1).toInt64 2 = 0 := own_z _ 2 (by omega) (by rw [m1, show (2 : Int32).toInt = 2 by decide]; omega)
        have z2 : f3 ((n - 1) - g 2).toInt64 1 = 0 := own_z _ 1 (by omega) (by rw [m2, show (1 : Int32).toInt = 1 by decide]; omega)
        have hb := own_r3 ((n - 1) - g 0) ((n - 1) - (w2_3_3 g n) 0) ((n - 1) - (w2_3_3 g n) 1) ((n - 1) - (w2_3_3 g n) 2) (by omega) (by omega) (by omega) (by omega)
        have hr : f5_3 (w2_3_3 g n) n = f5_3 g n + 1 := by
          show (f3 n.toInt64 3 - 1) - ((f3 ((n - 1) - (w2_3_3 g n) 0).toInt64 3 + f3 ((n - 1) - (w2_3_3 g n) 1).toInt64 2) + f3 ((n - 1) - (w2_3_3 g n) 2).toInt64 1) = ((f3 n.toInt64 3 - 1) - ((f3 ((n - 1) - g 0).toInt64 3 + f3 ((n - 1) - g 1).toInt64 2) + f3 ((n - 1) - g 2).toInt64 1)) + 1
          rw [z1, z2]
          exact own_i3_0 _ _ _ _ _ hb
        have hv : f4_3 (w2_3_3 g n) n = 1 := by
          unfold f4_3
          rw [if_neg (by rw [Int32.lt_iff_toInt_lt, Int32.toInt_zero]; omega), if_pos (by rw [Int32.lt_iff_toInt_lt]; omega), if_pos (by rw [Int32.lt_iff_toInt_lt]; omega), if_pos (by rw [Int32.lt_iff_toInt_lt]; omega)]
        have p0 : f6_3_0 (w2_3_3 g n) g (0 : Int32) = 1 := by unfold f6_3_0; rw [if_neg (by decide), if_pos rfl, if_neg (by rw [← Int32.toInt_inj]; omega)]
        have p1 : f6_3_1 (w2_3_3 g n) g (0 : Int32) = 1 := by unfold f6_3_1; rw [if_neg (by decide), if_neg (by decide)]
        have p2 : f6_3_2 (w2_3_3 g n) g (0 : Int32) = 1 := by unfold f6_3_2; rw [if_neg (by decide), if_neg (by decide)]
        have p3 : f6_3_3 (w2_3_3 g n) g (0 : Int32) = 1 := by rfl
        rw [hret, ho, hr, hv, p0, p1, p2, p3, if_neg (by decide), if_neg (by decide), if_pos (by decide), if_neg (by decide), if_pos rfl, if_neg (by decide), if_neg (by decide), if_neg (by decide), if_neg (by decide)]
    · have u2 := (c2).mp k2
      have u1 : ¬ (g 1).toInt = n.toInt - 3 + 1 := fun q => k1 ((c1).mpr q)
      have hret : f2_3 g n = (1 : Int32) := by unfold f2_3; rw [if_pos k2, if_neg k1]
      have ho : o2_3_0 g n = w2_3_5 g n := by unfold o2_3_0; rw [if_pos k2, if_neg k1]
      have w0 : (w2_3_5 g n) 0 = (g 0) := rfl
      have w1 : (w2_3_5 g n) 1 = ((g 1) + 1) := rfl
      have w2 : (w2_3_5 g n) 2 = (((g 1) + 1) + 1) := rfl
      have x1 : ((w2_3_5 g n) 1).toInt = (g 1).toInt + 1 := by rw [w1]; exact own_add _ 1 1 (by decide) (by omega) (by omega) (by omega) (by omega)
      have x2 : ((w2_3_5 g n) 2).toInt = (g 1).toInt + 2 := by rw [w2]; rw [own_add _ 1 1 (by decide) (by rw [← w1]; omega) (by rw [← w1]; omega) (by omega) (by omega), ← w1, x1]; omega
      have x0 : ((w2_3_5 g n) 0).toInt = (g 0).toInt := by rw [w0]
      have r1 : ((n - 1) - (w2_3_5 g n) 1).toInt = n.toInt - 1 - ((w2_3_5 g n) 1).toInt := (own_sub _ _ _ rfl (by omega) (by omega) (by omega) (by omega)).trans (by rw [n1])
      have r2 : ((n - 1) - (w2_3_5 g n) 2).toInt = n.toInt - 1 - ((w2_3_5 g n) 2).toInt := (own_sub _ _ _ rfl (by omega) (by omega) (by omega) (by omega)).trans (by rw [n1])
      have z2 : f3 ((n - 1) - g 2).toInt64 1 = 0 := own_z _ 1 (by omega) (by rw [m2, show (1 : Int32).toInt = 1 by decide]; omega)
      have hb := own_r2 ((n - 1) - g 1) ((n - 1) - (w2_3_5 g n) 1) ((n - 1) - (w2_3_5 g n) 2) (by omega) (by omega) (by omega)
      have hr : f5_3 (w2_3_5 g n) n = f5_3 g n + 1 := by
        show (f3 n.toInt64 3 - 1) - ((f3 ((n - 1) - g 0).toInt64 3 + f3 ((n - 1) - (w2_3_5 g n) 1).toInt64 2) + f3 ((n - 1) - (w2_3_5 g n) 2).toInt64 1) = ((f3 n.toInt64 3 - 1) - ((f3 ((n - 1) - g 0).toInt64 3 + f3 ((n - 1) - g 1).toInt64 2) + f3 ((n - 1) - g 2).toInt64 1)) + 1
        rw [z2]
        exact own_i3_1 _ _ _ _ _ hb
      have hv : f4_3 (w2_3_5 g n) n = 1 := by
        unfold f4_3
        rw [if_neg (by rw [Int32.lt_iff_toInt_lt, Int32.toInt_zero]; omega), if_pos (by rw [Int32.lt_iff_toInt_lt]; omega), if_pos (by rw [Int32.lt_iff_toInt_lt]; omega), if_pos (by rw [Int32.lt_iff_toInt_lt]; omega)]
      have p0 : f6_3_0 (w2_3_5 g n) g (1 : Int32) = 1 := by unfold f6_3_0; rw [if_pos (by decide), if_pos w0]
      have p1 : f6_3_1 (w2_3_5 g n) g (1 : Int32) = 1 := by unfold f6_3_1; rw [if_neg (by decide), if_pos rfl, if_neg (by rw [← Int32.toInt_inj]; omega)]
      have p2 : f6_3_2 (w2_3_5 g n) g (1 : Int32) = 1 := by unfold f6_3_2; rw [if_neg (by decide), if_neg (by decide)]
      have p3 : f6_3_3 (w2_3_5 g n) g (1 : Int32) = 1 := by rfl
      rw [hret, ho, hr, hv, p0, p1, p2, p3, if_neg (by decide), if_neg (by decide), if_pos (by decide), if_neg (by decide), if_pos rfl, if_neg (by decide), if_neg (by decide), if_neg (by decide), if_neg (by decide)]
  · have u2 : ¬ (g 2).toInt = n.toInt - 3 + 2 := fun q => k2 ((c2).mpr q)
    have hret : f2_3 g n = (2 : Int32) := by unfold f2_3; rw [if_neg k2]
    have ho : o2_3_0 g n = w2_3_6 g n := by unfold o2_3_0; rw [if_neg k2]
    have w0 : (w2_3_6 g n) 0 = (g 0) := rfl
    have w1 : (w2_3_6 g n) 1 = (g 1) := rfl
    have w2 : (w2_3_6 g n) 2 = ((g 2) + 1) := rfl
    have x2 : ((w2_3_6 g n) 2).toInt = (g 2).toInt + 1 := by rw [w2]; exact own_add _ 1 1 (by decide) (by omega) (by omega) (by omega) (by omega)
    have x0 : ((w2_3_6 g n) 0).toInt = (g 0).toInt := by rw [w0]
    have x1 : ((w2_3_6 g n) 1).toInt = (g 1).toInt := by rw [w1]
    have r2 : ((n - 1) - (w2_3_6 g n) 2).toInt = n.toInt - 1 - ((w2_3_6 g n) 2).toInt := (own_sub _ _ _ rfl (by omega) (by omega) (by omega) (by omega)).trans (by rw [n1])
    have hb := own_r1 ((n - 1) - g 2) ((n - 1) - (w2_3_6 g n) 2) (by omega) (by omega)
    have hr : f5_3 (w2_3_6 g n) n = f5_3 g n + 1 := by
      show (f3 n.toInt64 3 - 1) - ((f3 ((n - 1) - g 0).toInt64 3 + f3 ((n - 1) - g 1).toInt64 2) + f3 ((n - 1) - (w2_3_6 g n) 2).toInt64 1) = ((f3 n.toInt64 3 - 1) - ((f3 ((n - 1) - g 0).toInt64 3 + f3 ((n - 1) - g 1).toInt64 2) + f3 ((n - 1) - g 2).toInt64 1)) + 1
      exact own_i3_2 _ _ _ _ _ hb
    have hv : f4_3 (w2_3_6 g n) n = 1 := by
      unfold f4_3
      rw [if_neg (by rw [Int32.lt_iff_toInt_lt, Int32.toInt_zero]; omega), if_pos (by rw [Int32.lt_iff_toInt_lt]; omega), if_pos (by rw [Int32.lt_iff_toInt_lt]; omega), if_pos (by rw [Int32.lt_iff_toInt_lt]; omega)]
    have p0 : f6_3_0 (w2_3_6 g n) g (2 : Int32) = 1 := by unfold f6_3_0; rw [if_pos (by decide), if_pos w0]
    have p1 : f6_3_1 (w2_3_6 g n) g (2 : Int32) = 1 := by unfold f6_3_1; rw [if_pos (by decide), if_pos w1]
    have p2 : f6_3_2 (w2_3_6 g n) g (2 : Int32) = 1 := by unfold f6_3_2; rw [if_neg (by decide), if_pos rfl, if_neg (by rw [← Int32.toInt_inj]; omega)]
    have p3 : f6_3_3 (w2_3_6 g n) g (2 : Int32) = 1 := by rfl
    rw [hret, ho, hr, hv, p0, p1, p2, p3, if_neg (by decide), if_neg (by decide), if_pos (by decide), if_neg (by decide), if_pos rfl, if_neg (by decide), if_neg (by decide), if_neg (by decide), if_neg (by decide)]
def own_X4 (g : Nat → Int32) (n : Int32) : Int32 := (if (f2_4 g n) = (-1 : Int32) then (if f7_4 (o2_4_0 g n) g = 0 then 0 else (if f5_4 g n = f3 n.toInt64 4 - 1 then 1 else 0)) else (if (f2_4 g n) < 0 then 0 else (if (f2_4 g n) < (4 : Int32) then (if f4_4 (o2_4_0 g n) n = 0 then 0 else (if f5_4 (o2_4_0 g n) n = f5_4 g n + 1 then (if f6_4_0 (o2_4_0 g n) g (f2_4 g n) = 0 then 0 else (if f6_4_1 (o2_4_0 g n) g (f2_4 g n) = 0 then 0 else (if f6_4_2 (o2_4_0 g n) g (f2_4 g n) = 0 then 0 else (if f6_4_3 (o2_4_0 g n) g (f2_4 g n) = 0 then 0 else (1 : Int32))))) else 0)) else 0)))
theorem own_cd4 (n : Int32) (hN : 4 ≤ n.toInt ∧ n.toInt ≤ 19) (y : Int32) (c : Int32) (k : Int) (hc : c.toInt = k) (h0 : 0 ≤ k) (h3 : k ≤ 3) : (y = (n - (4 : Int32)) + c) ↔ y.toInt = n.toInt - 4 + k := by
  rw [← Int32.toInt_inj, own_add _ c k hc (by rw [own_sub n 4 4 (by decide) (by omega) (by omega) (by omega) (by omega)]; omega) (by rw [own_sub n 4 4 (by decide) (by omega) (by omega) (by omega) (by omega)]; omega) h0 (by omega), own_sub n 4 4 (by decide) (by omega) (by omega) (by omega) (by omega)]
theorem own_core4 (g : Nat → Int32) (n : Int32) (hN : 4 ≤ n.toInt ∧ n.toInt ≤ 19) (b0 : 0 ≤ (g 0).toInt ∧ (g 0).toInt ≤ n.toInt - 4) (b1 : (g 0).toInt < (g 1).toInt ∧ (g 1).toInt ≤ n.toInt - 3) (b2 : (g 1).toInt < (g 2).toInt ∧ (g 2).toInt ≤ n.toInt - 2) (b3 : (g 2).toInt < (g 3).toInt ∧ (g 3).toInt ≤ n.toInt - 1) : own_X4 g n = 1 := by
  have c0 := own_cd4 n hN (g 0) 0 0 (by decide) (by decide) (by decide)
  have c1 := own_cd4 n hN (g 1) 1 1 (by decide) (by decide) (by decide)
  have c2 := own_cd4 n hN (g 2) 2 2 (by decide) (by decide) (by decide)
  have c3 := own_cd4 n hN (g 3) 3 3 (by decide) (by decide) (by decide)
  have n1 : (n - 1).toInt = n.toInt - 1 := own_sub n 1 1 (by decide) (by omega) (by omega) (by omega) (by omega)
  have m0 : ((n - 1) - g 0).toInt = n.toInt - 1 - (g 0).toInt := own_sub _ _ _ rfl (by omega) (by omega) (by omega) (by omega) |>.trans (by rw [n1])
  have m1 : ((n - 1) - g 1).toInt = n.toInt - 1 - (g 1).toInt := own_sub _ _ _ rfl (by omega) (by omega) (by omega) (by omega) |>.trans (by rw [n1])
  have m2 : ((n - 1) - g 2).toInt = n.toInt - 1 - (g 2).toInt := own_sub _ _ _ rfl (by omega) (by omega) (by omega) (by omega) |>.trans (by rw [n1])
  have m3 : ((n - 1) - g 3).toInt = n.toInt - 1 - (g 3).toInt := own_sub _ _ _ rfl (by omega) (by omega) (by omega) (by omega) |>.trans (by rw [n1])
  unfold own_X4
  by_cases k3 : (g 3) = ((n - (4 : Int32)) + (3 : Int32))
  · by_cases k2 : (g 2) = ((n - (4 : Int32)) + (2 : Int32))
    · by_cases k1 : (g 1) = ((n - (4 : Int32)) + (1 : Int32))
      · by_cases k0 : (g 0) = ((n - (4 : Int32)) + (0 : Int32))
        · have u3 := (c3).mp k3
          have u2 := (c2).mp k2
          have u1 := (c1).mp k1
          have u0 := (c0).mp k0
          have hret : f2_4 g n = (-1 : Int32) := by unfold f2_4; rw [if_pos k3, if_pos k2, if_pos k1, if_pos k0]
          have ho : o2_4_0 g n = g := by unfold o2_4_0; rw [if_pos k3, if_pos k2, if_pos k1, if_pos k0]
          have hs : f7_4 g g = 1 := by unfold f7_4; rw [if_pos rfl, if_pos rfl, if_pos rfl, if_pos rfl]
          have z0 : f3 ((n - 1) - g 0).toInt64 4 = 0 := own_z _ 4 (by omega) (by rw [m0, show (4 : Int32).toInt = 4 by decide]; omega)
          have z1 : f3 ((n - 1) - g 1).toInt64 3 = 0 := own_z _ 3 (by omega) (by rw [m1, show (3 : Int32).toInt = 3 by decide]; omega)
          have z2 : f3 ((n - 1) - g 2).toInt64 2 = 0 := own_z _ 2 (by omega) (by rw [m2, show (2 : Int32).toInt = 2 by decide]; omega)
          have z3 : f3 ((n - 1) - g 3).toInt64 1 = 0 := own_z _ 1 (by omega) (by rw [m3, show (1 : Int32).toInt = 1 by decide]; omega)
          have hr : f5_4 g n = f3 n.toInt64 4 - 1 := by
            have e := own_e4 (f3 n.toInt64 4)
            show (f3 n.toInt64 4 - 1) - (((f3 ((n - 1) - g 0).toInt64 4 + f3 ((n - 1) - g 1).toInt64 3) + f3 ((n - 1) - g 2).toInt64 2) + f3 ((n - 1) - g 3).toInt64 1) = _
            rw [z0, z1, z2, z3]
            exact e
          rw [hret, ho, hs, hr, if_pos rfl, if_neg (by decide), if_pos rfl]
        · have u3 := (c3).mp k3
          have u2 := (c2).mp k2
          have u1 := (c1).mp k1
          have u0 : ¬ (g 0).toInt = n.toInt - 4 + 0 := fun q => k0 ((c0).mpr q)
          have hret : f2_4 g n = (0 : Int32) := by unfold f2_4; rw [if_pos k3, if_pos k2, if_pos k1, if_neg k0]
          have ho : o2_4_0 g n = w2_4_4 g n := by unfold o2_4_0; rw [if_pos k3, if_pos k2, if_pos k1, if_neg k0]
          have w0 : (w2_4_4 g n) 0 = ((g 0) + 1) := rfl
          have w1 : (w2_4_4 g n) 1 = (((g 0) + 1) + 1) := rfl
          have w2 : (w2_4_4 g n) 2 = ((((g 0) + 1) + 1) + 1) := rfl
          have w3 : (w2_4_4 g n) 3 = (((((g 0) + 1) + 1) + 1) + 1) := rfl
          have x0 : ((w2_4_4 g n) 0).toInt = (g 0).toInt + 1 := by rw [w0]; exact own_add _ 1 1 (by decide) (by omega) (by omega) (by omega) (by omega)
          have x1 : ((w2_4_4 g n) 1).toInt = (g 0).toInt + 2 := by rw [w1]; rw [own_add _ 1 1 (by decide) (by rw [← w0]; omega) (by rw [← w0]; omega) (by omega) (by omega), ← w0, x0]; omega
          have x2 : ((w2_4_4 g n) 2).toInt = (g 0).toInt + 3 := by rw [w2]; rw [own_add _ 1 1 (by decide) (by rw [← w1]; omega) (by rw [← w1]; omega) (by omega) (by omega), ← w1, x1]; omega
          have x3 : ((w2_4_4 g n) 3).toInt = (g 0).toInt + 4 := by rw [w3]; rw [own_add _ 1 1 (by decide) (by rw [← w2]; omega) (by rw [← w2]; omega) (by omega) (by omega), ← w2, x2]; omega
          have r0 : ((n - 1) - (w2_4_4 g n) 0).toInt = n.toInt - 1 - ((w2_4_4 g n) 0).toInt := (own_sub _ _ _ rfl (by omega) (by omega) (by omega) (by omega)).trans (by rw [n1])
          have r1 : ((n - 1) - (w2_4_4 g n) 1).toInt = n.toInt - 1 - ((w2_4_4 g n) 1).toInt := (own_sub _ _ _ rfl (by omega) (by omega) (by omega) (by omega)).trans (by rw [n1])
          have r2 : ((n - 1) - (w2_4_4 g n) 2).toInt = n.toInt - 1 - ((w2_4_4 g n) 2).toInt := (own_sub _ _ _ rfl (by omega) (by omega) (by omega) (by omega)).trans (by rw [n1])
          have r3 : ((n - 1) - (w2_4_4 g n) 3).toInt = n.toInt - 1 - ((w2_4_4 g n) 3).toInt := (own_sub _ _ _ rfl (by omega) (by omega) (by omega) (by omega)).trans (by rw [n1])
          have z1 : f3 ((n - 1) - g 1).toInt64 3 = 0 := own_z _ 3 (by omega) (by rw [m1, show (3 : Int32).toInt = 3 by decide]; omega)
          have z2 : f3 ((n - 1) - g 2).toInt64 2 = 0 := own_z _ 2 (by omega) (by rw [m2, show (2 : Int32).toInt = 2 by decide]; omega)
          have z3 : f3 ((n - 1) - g 3).toInt64 1 = 0 := own_z _ 1 (by omega) (by rw [m3, show (1 : Int32).toInt = 1 by decide]; omega)
          have hb := own_r4 ((n - 1) - g 0) ((n - 1) - (w2_4_4 g n) 0) ((n - 1) - (w2_4_4 g n) 1) ((n - 1) - (w2_4_4 g n) 2) ((n - 1) - (w2_4_4 g n) 3) (by omega) (by omega) (by omega) (by omega) (by omega)
          have hr : f5_4 (w2_4_4 g n) n = f5_4 g n + 1 := by
            show (f3 n.toInt64 4 - 1) - (((f3 ((n - 1) - (w2_4_4 g n) 0).toInt64 4 + f3 ((n - 1) - (w2_4_4 g n) 1).toInt64 3) + f3 ((n - 1) - (w2_4_4 g n) 2).toInt64 2) + f3 ((n - 1) - (w2_4_4 g n) 3).toInt64 1) = ((f3 n.toInt64 4 - 1) - (((f3 ((n - 1) - g 0).toInt64 4 + f3 ((n - 1) - g 1).toInt64 3) + f3 ((n - 1) - g 2).toInt64 2) + f3 ((n - 1) - g 3).toInt64 1)) + 1
            rw [z1, z2, z3]
            exact own_i4_0 _ _ _ _ _ _ hb
          have hv : f4_4 (w2_4_4 g n) n = 1 := by
            unfold f4_4
            rw [if_neg (by rw [Int32.lt_iff_toInt_lt, Int32.toInt_zero]; omega), if_pos (by rw [Int32.lt_iff_toInt_lt]; omega), if_pos (by rw [Int32.lt_iff_toInt_lt]; omega), if_pos (by rw [Int32.lt_iff_toInt_lt]; omega), if_pos (by rw [Int32.lt_iff_toInt_lt]; omega)]
          have p0 : f6_4_0 (w2_4_4 g n) g (0 : Int32) = 1 := by unfold f6_4_0; rw [if_neg (by decide), if_pos rfl, if_neg (by rw [← Int32.toInt_inj]; omega)]
          have p1 : f6_4_1 (w2_4_4 g n) g (0 : Int32) = 1 := by unfold f6_4_1; rw [if_neg (by decide), if_neg (by decide)]
          have p2 : f6_4_2 (w2_4_4 g n) g (0 : Int32) = 1 := by unfold f6_4_2; rw [if_neg (by decide), if_neg (by decide)]
          have p3 : f6_4_3 (w2_4_4 g n) g (0 : Int32) = 1 := by unfold f6_4_3; rw [if_neg (by decide), if_neg (by decide)]
          rw [hret, ho, hr, hv, p0, p1, p2, p3, if_neg (by decide), if_neg (by decide), if_pos (by decide), if_neg (by decide), if_pos rfl, if_neg (by decide), if_neg (by decide), if_neg (by decide), if_neg (by decide)]
      · have u3 := (c3).mp k3
        have u2 := (c2).mp k2
        have u1 : ¬ (g 1).toInt = n.toInt - 4 + 1 := fun q => k1 ((c1).mpr q)
        have hret : f2_4 g n = (1 : Int32) := by unfold f2_4; rw [if_pos k3, if_pos k2, if_neg k1]
        have ho : o2_4_0 g n = w2_4_7 g n := by unfold o2_4_0; rw [if_pos k3, if_pos k2, if_neg k1]
        have w0 : (w2_4_7 g n) 0 = (g 0) := rfl
        have w1 : (w2_4_7 g n) 1 = ((g 1) + 1) := rfl
        have w2 : (w2_4_7 g n) 2 = (((g 1) + 1) + 1) := rfl
        have w3 : (w2_4_7 g n) 3 = ((((g 1) + 1) + 1) + 1) := rfl
        have x1 : ((w2_4_7 g n) 1).toInt = (g 1).toInt + 1 := by rw [w1]; exact own_add _ 1 1 (by decide) (by omega) (by omega) (by omega) (by omega)
        have x2 : ((w2_4_7 g n) 2).toInt = (g 1).toInt + 2 := by rw [w2]; rw [own_add _ 1 1 (by decide) (by rw [← w1]; omega) (by rw [← w1]; omega) (by omega) (by omega), ← w1, x1]; omega
        have x3 : ((w2_4_7 g n) 3).toInt = (g 1).toInt + 3 := by rw [w3]; rw [own_add _ 1 1 (by decide) (by rw [← w2]; omega) (by rw [← w2]; omega) (by omega) (by omega), ← w2, x2]; omega
        have x0 : ((w2_4_7 g n) 0).toInt = (g 0).toInt := by rw [w0]
        have r1 : ((n - 1) - (w2_4_7 g n) 1).toInt = n.toInt - 1 - ((w2_4_7 g n) 1).toInt := (own_sub _ _ _ rfl (by omega) (by omega) (by omega) (by omega)).trans (by rw [n1])
        have r2 : ((n - 1) - (w2_4_7 g n) 2).toInt = n.toInt - 1 - ((w2_4_7 g n) 2).toInt := (own_sub _ _ _ rfl (by omega) (by omega) (by omega) (by omega)).trans (by rw [n1])
        have r3 : ((n - 1) - (w2_4_7 g n) 3).toInt = n.toInt - 1 - ((w2_4_7 g n) 3).toInt := (own_sub _ _ _ rfl (by omega) (by omega) (by omega) (by omega)).trans (by rw [n1])
        have z2 : f3 ((n - 1) - g 2).toInt64 2 = 0 := own_z _ 2 (by omega) (by rw [m2, show (2 : Int32).toInt = 2 by decide]; omega)
        have z3 : f3 ((n - 1) - g 3).toInt64 1 = 0 := own_z _ 1 (by omega) (by rw [m3, show (1 : Int32).toInt = 1 by decide]; omega)
        have hb := own_r3 ((n - 1) - g 1) ((n - 1) - (w2_4_7 g n) 1) ((n - 1) - (w2_4_7 g n) 2) ((n - 1) - (w2_4_7 g n) 3) (by omega) (by omega) (by omega) (by omega)
        have hr : f5_4 (w2_4_7 g n) n = f5_4 g n + 1 := by
          show (f3 n.toInt64 4 - 1) - (((f3 ((n - 1) - g 0).toInt64 4 + f3 ((n - 1) - (w2_4_7 g n) 1).toInt64 3) + f3 ((n - 1) - (w2_4_7 g n) 2).toInt64 2) + f3 ((n - 1) - (w2_4_7 g n) 3).toInt64 1) = ((f3 n.toInt64 4 - 1) - (((f3 ((n - 1) - g 0).toInt64 4 + f3 ((n - 1) - g 1).toInt64 3) + f3 ((n - 1) - g 2).toInt64 2) + f3 ((n - 1) - g 3).toInt64 1)) + 1
          rw [z2, z3]
          exact own_i4_1 _ _ _ _ _ _ hb
        have hv : f4_4 (w2_4_7 g n) n = 1 := by
          unfold f4_4
          rw [if_neg (by rw [Int32.lt_iff_toInt_lt, Int32.toInt_zero]; omega), if_pos (by rw [Int32.lt_iff_toInt_lt]; omega), if_pos (by rw [Int32.lt_iff_toInt_lt]; omega), if_pos (by rw [Int32.lt_iff_toInt_lt]; omega), if_pos (by rw [Int32.lt_iff_toInt_lt]; omega)]
        have p0 : f6_4_0 (w2_4_7 g n) g (1 : Int32) = 1 := by unfold f6_4_0; rw [if_pos (by decide), if_pos w0]
        have p1 : f6_4_1 (w2_4_7 g n) g (1 : Int32) = 1 := by unfold f6_4_1; rw [if_neg (by decide), if_pos rfl, if_neg (by rw [← Int32.toInt_inj]; omega)]
        have p2 : f6_4_2 (w2_4_7 g n) g (1 : Int32) = 1 := by unfold f6_4_2; rw [if_neg (by decide), if_neg (by decide)]
        have p3 : f6_4_3 (w2_4_7 g n) g (1 : Int32) = 1 := by unfold f6_4_3; rw [if_neg (by decide), if_neg (by decide)]
        rw [hret, ho, hr, hv, p0, p1, p2, p3, if_neg (by decide), if_neg (by decide), if_pos (by decide), if_neg (by decide), if_pos rfl, if_neg (by decide), if_neg (by decide), if_neg (by decide), if_neg (by decide)]
    · have u3 := (c3).mp k3
      have u2 : ¬ (g 2).toInt = n.toInt - 4 + 2 := fun q => k2 ((c2).mpr q)
      have hret : f2_4 g n = (2 : Int32) := by unfold f2_4; rw [if_pos k3, if_neg k2]
      have ho : o2_4_0 g n = w2_4_9 g n := by unfold o2_4_0; rw [if_pos k3, if_neg k2]
      have w0 : (w2_4_9 g n) 0 = (g 0) := rfl
      have w1 : (w2_4_9 g n) 1 = (g 1) := rfl
      have w2 : (w2_4_9 g n) 2 = ((g 2) + 1) := rfl
      have w3 : (w2_4_9 g n) 3 = (((g 2) + 1) + 1) := rfl
      have x2 : ((w2_4_9 g n) 2).toInt = (g 2).toInt + 1 := by rw [w2]; exact own_add _ 1 1 (by decide) (by omega) (by omega) (by omega) (by omega)
      have x3 : ((w2_4_9 g n) 3).toInt = (g 2).toInt + 2 := by rw [w3]; rw [own_add _ 1 1 (by decide) (by rw [← w2]; omega) (by rw [← w2]; omega) (by omega) (by omega), ← w2, x2]; omega
      have x0 : ((w2_4_9 g n) 0).toInt = (g 0).toInt := by rw [w0]
      have x1 : ((w2_4_9 g n) 1).toInt = (g 1).toInt := by rw [w1]
      have r2 : ((n - 1) - (w2_4_9 g n) 2).toInt = n.toInt - 1 - ((w2_4_9 g n) 2).toInt := (own_sub _ _ _ rfl (by omega) (by omega) (by omega) (by omega)).trans (by rw [n1])
      have r3 : ((n - 1) - (w2_4_9 g n) 3).toInt = n.toInt - 1 - ((w2_4_9 g n) 3).toInt := (own_sub _ _ _ rfl (by omega) (by omega) (by omega) (by omega)).trans (by rw [n1])
      have z3 : f3 ((n - 1) - g 3).toInt64 1 = 0 := own_z _ 1 (by omega) (by rw [m3, show (1 : Int32).toInt = 1 by decide]; omega)
      have hb := own_r2 ((n - 1) - g 2) ((n - 1) - (w2_4_9 g n) 2) ((n - 1) - (w2_4_9 g n) 3) (by omega) (by omega) (by omega)
      have hr : f5_4 (w2_4_9 g n) n = f5_4 g n + 1 := by
        show (f3 n.toInt64 4 - 1) - (((f3 ((n - 1) - g 0).toInt64 4 + f3 ((n - 1) - g 1).toInt64 3) + f3 ((n - 1) - (w2_4_9 g n) 2).toInt64 2) + f3 ((n - 1) - (w2_4_9 g n) 3).toInt64 1) = ((f3 n.toInt64 4 - 1) - (((f3 ((n - 1) - g 0).toInt64 4 + f3 ((n - 1) - g 1).toInt64 3) + f3 ((n - 1) - g 2).toInt64 2) + f3 ((n - 1) - g 3).toInt64 1)) + 1
        rw [z3]
        exact own_i4_2 _ _ _ _ _ _ hb
      have hv : f4_4 (w2_4_9 g n) n = 1 := by
        unfold f4_4
        rw [if_neg (by rw [Int32.lt_iff_toInt_lt, Int32.toInt_zero]; omega), if_pos (by rw [Int32.lt_iff_toInt_lt]; omega), if_pos (by rw [Int32.lt_iff_toInt_lt]; omega), if_pos (by rw [Int32.lt_iff_toInt_lt]; omega), if_pos (by rw [Int32.lt_iff_toInt_lt]; omega)]
      have p0 : f6_4_0 (w2_4_9 g n) g (2 : Int32) = 1 := by unfold f6_4_0; rw [if_pos (by decide), if_pos w0]
      have p1 : f6_4_1 (w2_4_9 g n) g (2 : Int32) = 1 := by unfold f6_4_1; rw [if_pos (by decide), if_pos w1]
      have p2 : f6_4_2 (w2_4_9 g n) g (2 : Int32) = 1 := by unfold f6_4_2; rw [if_neg (by decide), if_pos rfl, if_neg (by rw [← Int32.toInt_inj]; omega)]
      have p3 : f6_4_3 (w2_4_9 g n) g (2 : Int32) = 1 := by unfold f6_4_3; rw [if_neg (by decide), if_neg (by decide)]
      rw [hret, ho, hr, hv, p0, p1, p2, p3, if_neg (by decide), if_neg (by decide), if_pos (by decide), if_neg (by decide), if_pos rfl, if_neg (by decide), if_neg (by decide), if_neg (by decide), if_neg (by decide)]
  · have u3 : ¬ (g 3).toInt = n.toInt - 4 + 3 := fun q => k3 ((c3).mpr q)
    have hret : f2_4 g n = (3 : Int32) := by unfold f2_4; rw [if_neg k3]
    have ho : o2_4_0 g n = w2_4_10 g n := by unfold o2_4_0; rw [if_neg k3]
    have w0 : (w2_4_10 g n) 0 = (g 0) := rfl
    have w1 : (w2_4_10 g n) 1 = (g 1) := rfl
    have w2 : (w2_4_10 g n) 2 = (g 2) := rfl
    have w3 : (w2_4_10 g n) 3 = ((g 3) + 1) := rfl
    have x3 : ((w2_4_10 g n) 3).toInt = (g 3).toInt + 1 := by rw [w3]; exact own_add _ 1 1 (by decide) (by omega) (by omega) (by omega) (by omega)
    have x0 : ((w2_4_10 g n) 0).toInt = (g 0).toInt := by rw [w0]
    have x1 : ((w2_4_10 g n) 1).toInt = (g 1).toInt := by rw [w1]
    have x2 : ((w2_4_10 g n) 2).toInt = (g 2).toInt := by rw [w2]
    have r3 : ((n - 1) - (w2_4_10 g n) 3).toInt = n.toInt - 1 - ((w2_4_10 g n) 3).toInt := (own_sub _ _ _ rfl (by omega) (by omega) (by omega) (by omega)).trans (by rw [n1])
    have hb := own_r1 ((n - 1) - g 3) ((n - 1) - (w2_4_10 g n) 3) (by omega) (by omega)
    have hr : f5_4 (w2_4_10 g n) n = f5_4 g n + 1 := by
      show (f3 n.toInt64 4 - 1) - (((f3 ((n - 1) - g 0).toInt64 4 + f3 ((n - 1) - g 1).toInt64 3) + f3 ((n - 1) - g 2).toInt64 2) + f3 ((n - 1) - (w2_4_10 g n) 3).toInt64 1) = ((f3 n.toInt64 4 - 1) - (((f3 ((n - 1) - g 0).toInt64 4 + f3 ((n - 1) - g 1).toInt64 3) + f3 ((n - 1) - g 2).toInt64 2) + f3 ((n - 1) - g 3).toInt64 1)) + 1
      exact own_i4_3 _ _ _ _ _ _ hb
    have hv : f4_4 (w2_4_10 g n) n = 1 := by
      unfold f4_4
      rw [if_neg (by rw [Int32.lt_iff_toInt_lt, Int32.toInt_zero]; omega), if_pos (by rw [Int32.lt_iff_toInt_lt]; omega), if_pos (by rw [Int32.lt_iff_toInt_lt]; omega), if_pos (by rw [Int32.lt_iff_toInt_lt]; omega), if_pos (by rw [Int32.lt_iff_toInt_lt]; omega)]
    have p0 : f6_4_0 (w2_4_10 g n) g (3 : Int32) = 1 := by unfold f6_4_0; rw [if_pos (by decide), if_pos w0]
    have p1 : f6_4_1 (w2_4_10 g n) g (3 : Int32) = 1 := by unfold f6_4_1; rw [if_pos (by decide), if_pos w1]
    have p2 : f6_4_2 (w2_4_10 g n) g (3 : Int32) = 1 := by unfold f6_4_2; rw [if_pos (by decide), if_pos w2]
    have p3 : f6_4_3 (w2_4_10 g n) g (3 : Int32) = 1 := by unfold f6_4_3; rw [if_neg (by decide), if_pos rfl, if_neg (by rw [← Int32.toInt_inj]; omega)]
    rw [hret, ho, hr, hv, p0, p1, p2, p3, if_neg (by decide), if_neg (by decide), if_pos (by decide), if_neg (by decide), if_pos rfl, if_neg (by decide), if_neg (by decide), if_neg (by decide), if_neg (by decide)]
theorem law_true (x0 x1 x2 x3 x4 x5 : Int32) : f0 x0 x1 x2 x3 x4 x5 = 1 := by
  have b := own_b15 x1
  unfold f0
  by_cases k1 : 1 + (x0 &&& 3) = 1
  · rw [if_pos k1]
    have hn := own_n1 x0 x1 x2 x3 x4 x5
    have v0 := own_v1_0 x0 x1 x2 x3 x4 x5
    have g0 : (w0_4 x0 x1 x2 x3 x4 x5 0).toInt = (q0_3 x0 x1 x2 x3 x4 x5).toInt := rfl
    exact own_core1 (w0_4 x0 x1 x2 x3 x4 x5) (q0_1 x0 x1 x2 x3 x4 x5) (by omega) (by omega)
  · rw [if_neg k1]
    by_cases k2 : 1 + (x0 &&& 3) = 2
    · rw [if_pos k2]
      have hn := own_n2 x0 x1 x2 x3 x4 x5
      have v0 := own_v2_0 x0 x1 x2 x3 x4 x5
      have v1 := own_v2_1 x0 x1 x2 x3 x4 x5
      have g0 : (w0_22 x0 x1 x2 x3 x4 x5 0).toInt = (q0_17 x0 x1 x2 x3 x4 x5).toInt := rfl
      have g1 : (w0_22 x0 x1 x2 x3 x4 x5 1).toInt = (q0_21 x0 x1 x2 x3 x4 x5).toInt := rfl
      exact own_core2 (w0_22 x0 x1 x2 x3 x4 x5) (q0_15 x0 x1 x2 x3 x4 x5) (by omega) (by omega) (by omega)
    · rw [if_neg k2]
      by_cases k3 : 1 + (x0 &&& 3) = 3
      · rw [if_pos k3]
        have hn := own_n3 x0 x1 x2 x3 x4 x5
        have v0 := own_v3_0 x0 x1 x2 x3 x4 x5
        have v1 := own_v3_1 x0 x1 x2 x3 x4 x5
        have v2 := own_v3_2 x0 x1 x2 x3 x4 x5
        have g0 : (w0_44 x0 x1 x2 x3 x4 x5 0).toInt = (q0_35 x0 x1 x2 x3 x4 x5).toInt := rfl
        have g1 : (w0_44 x0 x1 x2 x3 x4 x5 1).toInt = (q0_39 x0 x1 x2 x3 x4 x5).toInt := rfl
        have g2 : (w0_44 x0 x1 x2 x3 x4 x5 2).toInt = (q0_43 x0 x1 x2 x3 x4 x5).toInt := rfl
        exact own_core3 (w0_44 x0 x1 x2 x3 x4 x5) (q0_33 x0 x1 x2 x3 x4 x5) (by omega) (by omega) (by omega) (by omega)
      · rw [if_neg k3]
        have hn := own_n4 x0 x1 x2 x3 x4 x5
        have v0 := own_v4_0 x0 x1 x2 x3 x4 x5
        have v1 := own_v4_1 x0 x1 x2 x3 x4 x5
        have v2 := own_v4_2 x0 x1 x2 x3 x4 x5
        have v3 := own_v4_3 x0 x1 x2 x3 x4 x5
        have g0 : (w0_70 x0 x1 x2 x3 x4 x5 0).toInt = (q0_57 x0 x1 x2 x3 x4 x5).toInt := rfl
        have g1 : (w0_70 x0 x1 x2 x3 x4 x5 1).toInt = (q0_61 x0 x1 x2 x3 x4 x5).toInt := rfl
        have g2 : (w0_70 x0 x1 x2 x3 x4 x5 2).toInt = (q0_65 x0 x1 x2 x3 x4 x5).toInt := rfl
        have g3 : (w0_70 x0 x1 x2 x3 x4 x5 3).toInt = (q0_69 x0 x1 x2 x3 x4 x5).toInt := rfl
        exact own_core4 (w0_70 x0 x1 x2 x3 x4 x5) (q0_55 x0 x1 x2 x3 x4 x5) (by omega) (by omega) (by omega) (by omega) (by omega)
set_option maxRecDepth 65536 in
set_option maxHeartbeats 40000000 in
theorem comes_1 {Post : Tables → Env → Array Value → State → Outcome → State → Prop} (hpost : ∀ tb e args s v u, (limb_1_1.after args s (.returned v) u = true ∧ limb_1_2.after args s (.returned v) u = true ∧ True) → FrameEnd s (.returned v) u (Jvm.fieldLocs frame_1_writes args s ++ Jvm.arrayLocs frame_1_arrays args s ++ Jvm.staticLocs frame_1_statics s) 16 128 → Post tb e args s (.returned v) u) :
    ArmFor flags0 classFile x code maxLocals ret World_1 tables_1 room_1 Calls_1 rest_1 Pre_1 Post := by
  intro l hfl _ _ p e ha hc hk s m args below hf hA hF happ hP
  obtain ⟨hcalls, hrest, hpre⟩ := hP
  obtain ⟨-, -, -, hnamed, -, -, -, hat⟩ := (Spec.applies_iff hf).mp happ
  obtain ⟨hg, hn⟩ := and_e (Cond.before_iff.mp (show (Jvm.Cond.and given_1 narrow_1).before args s = true from hpre))
  obtain ⟨g0, hg⟩ := and_e hg
  obtain ⟨g1, hg⟩ := and_e hg
  obtain ⟨g2, hg⟩ := and_e hg
  obtain ⟨g3, hg⟩ := and_e hg
  obtain ⟨g4, hg⟩ := and_e hg
  obtain ⟨g5, hg⟩ := and_e hg
  obtain ⟨w0, w1, w2, w3, w4, w5, rfl⟩ : ∃ w0 w1 w2 w3 w4 w5 : Value, args = #[w0, w1, w2, w3, w4, w5] := by
    have hs : args.size = 6 := by simpa [Cond.value, given_1] using g0
    obtain ⟨L⟩ := args
    match L, hs with
    | [w0, w1, w2, w3, w4, w5], _ => exact ⟨w0, w1, w2, w3, w4, w5, rfl⟩
  have hw := fun d (hd : d ∈ tables_1) => atoms_spec (ws := Jvm.Cond.code x code maxLocals ret :: tables_1) hat d (List.mem_cons_of_mem _ hd)
  obtain ⟨i0, e0⟩ := is_v g1
  obtain rfl : w0 = (.int i0) := Option.some.inj e0
  obtain ⟨i1, e1⟩ := is_v g2
  obtain rfl : w1 = (.int i1) := Option.some.inj e1
  obtain ⟨i2, e2⟩ := is_v g3
  obtain rfl : w2 = (.int i2) := Option.some.inj e2
  obtain ⟨i3, e3⟩ := is_v g4
  obtain rfl : w3 = (.int i3) := Option.some.inj e3
  obtain ⟨i4, e4⟩ := is_v g5
  obtain rfl : w4 = (.int i4) := Option.some.inj e4
  obtain ⟨i5, e5⟩ := is_v hg
  obtain rfl : w5 = (.int i5) := Option.some.inj e5
  obtain ⟨n, o, h1, h2, h3, v, L, rfl, ⟨rfl, N⟩, hq⟩ := rm0 l s _ hw tables_1 i0 i1 i2 i3 i4 i5 s.heap s.heap.size (Nat.le_refl _) p e ha hc hk s m _ below hf ((Spec.applies_iff_loose hf).mp happ).1 ⟨rfl, State.Warmed39.refl s, rfl⟩ trivial
  rw [law_true] at h3 hq
  refine ⟨n, _, h1, h2, h3, hpost _ _ _ _ _ _ ⟨Cond.after_iff.mpr rfl, Cond.after_iff.mpr (eq_i res_at (Term.int_eval (1)) rfl), trivial⟩ ⟨hq.1, hq.2.1, (hq.2.2.sift fun y hy => Or.inr (N y hy)).mono (by decide) (by decide)⟩⟩
theorem main_1_1 : Claimed_1_1 := comes_1 fun _ _ _ _ _ _ h hF => ⟨h.1, hF⟩
theorem main_1_2 : Claimed_1_2 := comes_1 fun _ _ _ _ _ _ h hF => ⟨h.2.1, hF⟩
end Jvm.Pilot.@@N@@
namespace Jvm.Pilot.@@N@@
open Jvm Jvm.ClassFile Sem Op Lib Jvm.Free Jvm.Stand Jvm.Pilot.@@N@@.Jvm.D
/-! MADE BY PROGRAM (witnessworld.py) out of the Statement's table words and the real class files: 9 classes; the members and pool entries that the words name. The judged class is class 1, her method 1. -/
namespace start1
open Jvm.ClassFile
def u (s : String) : CpInfo := .utf8 (stringToUtf16 s)
/-- a pool by its gaps: so many unusable entries, then the entry; so many at the end -/
def gap : Nat → List CpInfo → List CpInfo
  | 0, r => r
  | n + 1, r => .unusable :: gap n r
def poolList (es : List (Nat × CpInfo)) (last : Nat) : List CpInfo := es.foldr (fun e r => gap e.1 (e.2 :: r)) (gap last [])
def pool (es : List (Nat × CpInfo)) (last : Nat) : Array CpInfo := ⟨poolList es last⟩
def fileOf (pool : Array CpInfo) (this : Nat) (attrs : Array Attribute := #[]) (ms : Array MethodInfo := #[]) (fl : Nat := 33) (sup : Nat := 0) (ifs : Array Nat := #[]) (fds : Array FieldInfo := #[]) : ClassFile where
  minorVersion := 0
  majorVersion := 65
  constantPool := pool
  accessFlags := fl
  thisClass := this
  superClass := sup
  interfaces := ifs
  fields := fds
  methods := ms
  attributes := attrs
def plain (name : String) (sup : Option ClassId) : Class where
  name := name
  kind := .ordinary
  loader := none
  accessFlags := 33
  super := sup
  interfaces := #[]
  cf := none
  fields := #[]
  methods := #[]
  instanceTypes := #[]
  staticTypes := #[]
  resolved := #[]
  callSites := []
  init := .initialized
  statics := none
  mirror := none

def pool0 : Array CpInfo := pool [(5, u "<init>"), (0, u "()V"), (1, .class_ 10), (1, u "java/lang/Object")] 113

def k0m0 : Method := { name := "<init>", desc := "()V", sig := { parameters := [], returnType := none }, accessFlags := 1, code := none }
/-- java/lang/Object -/
def k0 : Class := { plain "java/lang/Object" none with
  accessFlags := 33
  interfaces := #[]
  cf := some (fileOf pool0 8 #[] #[{ accessFlags := 1, nameIndex := 5, descriptorIndex := 6, attributes := #[] }] 33 0 #[] #[])
  fields := #[]
  methods := #[k0m0]
  instanceTypes := #[]
  staticTypes := #[]
  resolved := Array.replicate 124 none
  statics := none }

def pool1 : Array CpInfo := pool [(2, .class_ 4), (1, u "java/lang/Object"), (0, u "<init>"), (0, u "()V"), (0, .methodref 8 9), (0, .class_ 10), (0, .nameAndType 11 12), (0, u "com/example/crosshatch/crosshatch/design/ParameterSetsAdvancePinLaw"), (0, u "pick"), (0, u "(III)I"), (0, .methodref 14 15), (0, .class_ 16), (0, .nameAndType 17 18), (0, u "com/example/crosshatch/crosshatch/design/ParameterSets"), (0, u "advance"), (0, u "([II)I"), (0, .methodref 8 20), (0, .nameAndType 21 22), (0, u "binom"), (0, u "(JI)J"), (0, .methodref 8 24), (0, .nameAndType 25 26), (0, u "same"), (0, u "([I[I)Z"), (0, .methodref 8 28), (0, .nameAndType 29 30), (0, u "rank"), (0, u "([II)J"), (0, .methodref 8 32), (0, .nameAndType 33 34), (0, u "valid"), (0, u "([II)Z"), (0, .methodref 8 36), (0, .nameAndType 37 38), (0, u "place"), (0, u "([I[III)Z"), (0, .integer 2147483647), (0, .long 2), (1, .long 6), (1, .long 3), (1, .long 24), (3, u "law"), (0, u "(IIIIII)Z")] 5

def k1m0 : Method := { name := "<init>", desc := "()V", sig := { parameters := [], returnType := none }, accessFlags := 1, code := none }
def k1c1 : Code := { maxStack := 6, maxLocals := 13, code := code, exceptionTable := #[], attributes := #[] }
def k1m1 : Method := { name := "law", desc := "(IIIIII)Z", sig := { parameters := [.int, .int, .int, .int, .int, .int], returnType := some .boolean }, accessFlags := 9, code := some k1c1 }
def k1c2 : Code := { maxStack := 4, maxLocals := 3, code := method_3_code, exceptionTable := #[], attributes := #[] }
def k1m2 : Method := { name := "pick", desc := "(III)I", sig := { parameters := [.int, .int, .int], returnType := some .int }, accessFlags := 10, code := some k1c2 }
def k1c3 : Code := { maxStack := 3, maxLocals := 4, code := method_4_code, exceptionTable := #[], attributes := #[] }
def k1m3 : Method := { name := "place", desc := "([I[III)Z", sig := { parameters := [(.array .int), (.array .int), .int, .int], returnType := some .boolean }, accessFlags := 10, code := some k1c3 }
def k1c4 : Code := { maxStack := 3, maxLocals := 3, code := method_5_code, exceptionTable := #[], attributes := #[] }
def k1m4 : Method := { name := "same", desc := "([I[I)Z", sig := { parameters := [(.array .int), (.array .int)], returnType := some .boolean }, accessFlags := 10, code := some k1c4 }
def k1c5 : Code := { maxStack := 3, maxLocals := 3, code := method_6_code, exceptionTable := #[], attributes := #[] }
def k1m5 : Method := { name := "valid", desc := "([II)Z", sig := { parameters := [(.array .int), .int], returnType := some .boolean }, accessFlags := 10, code := some k1c5 }
def k1c6 : Code := { maxStack := 6, maxLocals := 5, code := method_7_code, exceptionTable := #[], attributes := #[] }
def k1m6 : Method := { name := "rank", desc := "([II)J", sig := { parameters := [(.array .int), .int], returnType := some .long }, accessFlags := 10, code := some k1c6 }
def k1c7 : Code := { maxStack := 6, maxLocals := 3, code := method_8_code, exceptionTable := #[], attributes := #[] }
def k1m7 : Method := { name := "binom", desc := "(JI)J", sig := { parameters := [.long, .int], returnType := some .long }, accessFlags := 10, code := some k1c7 }
/-- com/example/crosshatch/crosshatch/design/ParameterSetsAdvancePinLaw -/
def k1 : Class := { plain "com/example/crosshatch/crosshatch/design/ParameterSetsAdvancePinLaw" (some 0) with
  accessFlags := 49
  interfaces := #[]
  cf := some (fileOf pool1 8 #[] #[{ accessFlags := 1, nameIndex := 5, descriptorIndex := 6, attributes := #[] }, { accessFlags := 9, nameIndex := 50, descriptorIndex := 51, attributes := #[] }, { accessFlags := 10, nameIndex := 11, descriptorIndex := 12, attributes := #[] }, { accessFlags := 10, nameIndex := 37, descriptorIndex := 38, attributes := #[] }, { accessFlags := 10, nameIndex := 25, descriptorIndex := 26, attributes := #[] }, { accessFlags := 10, nameIndex := 33, descriptorIndex := 34, attributes := #[] }, { accessFlags := 10, nameIndex := 29, descriptorIndex := 30, attributes := #[] }, { accessFlags := 10, nameIndex := 21, descriptorIndex := 22, attributes := #[] }] 49 2 #[] #[])
  fields := #[]
  methods := #[k1m0, k1m1, k1m2, k1m3, k1m4, k1m5, k1m6, k1m7]
  instanceTypes := #[]
  staticTypes := #[]
  resolved := Array.replicate 57 none
  statics := none }

def pool2 : Array CpInfo := pool [(2, .class_ 4), (1, u "java/lang/Object"), (0, u "<init>"), (0, u "()V"), (24, .class_ 33), (1, u "com/example/crosshatch/crosshatch/design/ParameterSets"), (0, u "advance"), (0, u "([II)I")] 32

def k2m0 : Method := { name := "<init>", desc := "()V", sig := { parameters := [], returnType := none }, accessFlags := 2, code := none }
def k2c1 : Code := { maxStack := 5, maxLocals := 4, code := prog_6_method_5_code, exceptionTable := #[], attributes := #[] }
def k2m1 : Method := { name := "advance", desc := "([II)I", sig := { parameters := [(.array .int), .int], returnType := some .int }, accessFlags := 9, code := some k2c1 }
/-- com/example/crosshatch/crosshatch/design/ParameterSets -/
def k2 : Class := { plain "com/example/crosshatch/crosshatch/design/ParameterSets" (some 0) with
  accessFlags := 33
  interfaces := #[]
  cf := some (fileOf pool2 31 #[] #[{ accessFlags := 2, nameIndex := 5, descriptorIndex := 6, attributes := #[] }, { accessFlags := 9, nameIndex := 34, descriptorIndex := 35, attributes := #[] }] 33 2 #[] #[])
  fields := #[]
  methods := #[k2m0, k2m1]
  instanceTypes := #[]
  staticTypes := #[]
  resolved := Array.replicate 68 none
  statics := none }

def pool3 : Array CpInfo := pool [(1, u "java/lang/Cloneable"), (0, .class_ 1), (0, u "java/lang/Object"), (0, .class_ 3)] 3

/-- java/lang/Cloneable -/
def k3 : Class := { plain "java/lang/Cloneable" (some 0) with
  accessFlags := 1537
  interfaces := #[]
  cf := some (fileOf pool3 2 #[] #[] 1537 4 #[] #[])
  fields := #[]
  methods := #[]
  instanceTypes := #[]
  staticTypes := #[]
  resolved := Array.replicate 8 none
  statics := none }

def pool4 : Array CpInfo := pool [(1, u "java/io/Serializable"), (0, .class_ 1), (0, u "java/lang/Object"), (0, .class_ 3)] 3

/-- java/io/Serializable -/
def k4 : Class := { plain "java/io/Serializable" (some 0) with
  accessFlags := 1537
  interfaces := #[]
  cf := some (fileOf pool4 2 #[] #[] 1537 4 #[] #[])
  fields := #[]
  methods := #[]
  instanceTypes := #[]
  staticTypes := #[]
  resolved := Array.replicate 8 none
  statics := none }

/-- the primitive byte -/
def k5 : Class := { plain "byte" none with kind := .primitive 'B', accessFlags := 0x411 }
/-- [B -/
def k6 : Class := { plain "[B" (some 0) with kind := .array 5 .byte, interfaces := #[3, 4], accessFlags := 1041 }

/-- the primitive int -/
def k7 : Class := { plain "int" none with kind := .primitive 'I', accessFlags := 0x411 }
/-- [I -/
def k8 : Class := { plain "[I" (some 0) with kind := .array 7 .int, interfaces := #[3, 4], accessFlags := 1041 }

def heap : Heap := #[]
def classes : Array Class := #[k0, k1, k2, k3, k4, k5, k6, k7, k8]
def interned : List (Array UInt16 × Addr) := []
def slotsUsed : Nat := 0
def theMethod : MethodId := ⟨1, 1⟩
def args0 : Array Value := #[.int 1, .int 2, .int 3, .int 4, .int 5, .int 6]
def aboutOver (below : List Frame) : State where
  vm := { classes := classes, interned := interned.toArray }
  heap := heap
  slotsUsed := slotsUsed
  threads := #[{ frames := .invoking theMethod args0 :: below }]
def below0 : List Frame := [.native { method := ⟨0, 0⟩, args := #[] }]
def about1 : State := aboutOver below0
def p0 : Program := .bare "" "" ""
def e0 : Env := launch0.env 0 0 0
theorem w_frames : about1.frames = Frame.invoking theMethod args0 :: below0 := rfl
set_option maxRecDepth 65536 in
theorem w_args : argsFit about1.vm theMethod args0 = true := by decide +kernel
set_option maxRecDepth 65536 in
theorem w_heap : heapFits about1 = true := by decide +kernel
set_option maxRecDepth 65536 in
theorem w_runnable : about1.curStatus? = some .runnable := by decide +kernel
set_option maxRecDepth 65536 in
theorem w_alone : about1.alone = true := by decide +kernel
set_option maxRecDepth 65536 in
theorem w_named : about1.methodNamed? x = some theMethod := by decide +kernel
set_option maxRecDepth 65536 in
theorem w_hears : about1.hears theMethod below0 = true := by decide +kernel
set_option maxRecDepth 65536 in
theorem w_ripe : about1.ripe theMethod args0 below0 = true := by decide +kernel
theorem w_running : about1.status = .running := rfl
set_option maxRecDepth 65536 in
theorem w_room : about1.hasRoom e0.platform room_1 = true :=
  launch0.hasRoom_least _ room_1 (by decide +kernel) (by decide +kernel) (by decide +kernel) (by decide +kernel) (by decide +kernel) (by decide +kernel)
theorem allAtoms_all (ts : List Jvm.Cond) (a : Array Jvm.Value) (st : Jvm.State) : (allAtoms ts).before a st = ts.all (fun c => c.before a st) := by
  induction ts with
  | nil => rfl
  | cons c t ih =>
    show (Jvm.Cond.and c (allAtoms t)).before a st = _
    rw [Jvm.Cond.before_and, ih, List.all_cons]
def words1 : List Jvm.Cond := Jvm.Cond.code x code maxLocals ret :: tables_1
/-- a 'code' word, met by the world's own term for the bytes: nothing is compared byte by byte -/
theorem code_word {y : MethodName} {bytes : ByteArray} {mx : Nat} {rt : Option FieldType} {a : Array Value} {s : State} {m : MethodId} {meth : Method} {c : Code} (h1 : s.methodNamed? y = some m) (h2 : s.vm.method? m = some meth) (h3 : meth.code = some c) (h4 : c.code = bytes)
    (h5 : (c.maxLocals == mx && c.exceptionTable.isEmpty && decide (c.maxStack ≤ mostOperands) && decide (meth.sig.returnType = rt) && !meth.locks && decide (parseMethodDescriptor y.desc = some meth.sig)) = true) : (Jvm.Cond.code y bytes mx rt).before a s = true := by
  simp only [Bool.and_eq_true, beq_iff_eq, Bool.not_eq_true', decide_eq_true_eq] at h5
  obtain ⟨⟨⟨⟨⟨g1, g2⟩, g3⟩, g4⟩, g5⟩, g6⟩ := h5
  simp [Cond.before, Cond.holds, Cond.value, h1, h2, h3, h4, g1, g2, g3, g4, g5, g6]
def isCode : Jvm.Cond → Bool
  | .code _ _ _ _ => true
  | _ => false
theorem all_split {L : List Jvm.Cond} {P : Jvm.Cond → Bool} (h1 : L.all (fun c => isCode c || P c) = true) (h2 : ∀ c ∈ L.filter isCode, P c = true) : L.all P = true := by
  refine List.all_eq_true.mpr fun c hc => ?_
  have h := List.all_eq_true.mp h1 c hc
  rcases Bool.eq_false_or_eq_true (isCode c) with hi | hi
  · exact h2 c (List.mem_filter.mpr ⟨hc, hi⟩)
  · simpa [hi] using h
set_option maxRecDepth 65536 in
theorem w_c0 : (Jvm.Cond.code x code maxLocals ret).before args0 about1 = true := code_word (m := ⟨1, 1⟩) (meth := k1m1) (c := k1c1) (by decide +kernel) rfl rfl rfl (by decide +kernel)
set_option maxRecDepth 65536 in
theorem w_c1 : (Jvm.Cond.code ({ cls := "com/example/crosshatch/crosshatch/design/ParameterSetsAdvancePinLaw", name := "pick", desc := "(III)I" } : Jvm.MethodName) method_3_code (3 : Nat) (Option.some Jvm.ClassFile.FieldType.int)).before args0 about1 = true := code_word (m := ⟨1, 2⟩) (meth := k1m2) (c := k1c2) (by decide +kernel) rfl rfl rfl (by decide +kernel)
set_option maxRecDepth 65536 in
theorem w_c2 : (Jvm.Cond.code ({ cls := "com/example/crosshatch/crosshatch/design/ParameterSets", name := "advance", desc := "([II)I" } : Jvm.MethodName) prog_6_method_5_code (4 : Nat) (Option.some Jvm.ClassFile.FieldType.int)).before args0 about1 = true := code_word (m := ⟨2, 1⟩) (meth := k2m1) (c := k2c1) (by decide +kernel) rfl rfl rfl (by decide +kernel)
set_option maxRecDepth 65536 in
theorem w_c3 : (Jvm.Cond.code ({ cls := "com/example/crosshatch/crosshatch/design/ParameterSetsAdvancePinLaw", name := "binom", desc := "(JI)J" } : Jvm.MethodName) method_8_code (3 : Nat) (Option.some Jvm.ClassFile.FieldType.long)).before args0 about1 = true := code_word (m := ⟨1, 7⟩) (meth := k1m7) (c := k1c7) (by decide +kernel) rfl rfl rfl (by decide +kernel)
set_option maxRecDepth 65536 in
theorem w_c4 : (Jvm.Cond.code ({ cls := "com/example/crosshatch/crosshatch/design/ParameterSetsAdvancePinLaw", name := "valid", desc := "([II)Z" } : Jvm.MethodName) method_6_code (3 : Nat) (Option.some Jvm.ClassFile.FieldType.boolean)).before args0 about1 = true := code_word (m := ⟨1, 5⟩) (meth := k1m5) (c := k1c5) (by decide +kernel) rfl rfl rfl (by decide +kernel)
set_option maxRecDepth 65536 in
theorem w_c5 : (Jvm.Cond.code ({ cls := "com/example/crosshatch/crosshatch/design/ParameterSetsAdvancePinLaw", name := "rank", desc := "([II)J" } : Jvm.MethodName) method_7_code (5 : Nat) (Option.some Jvm.ClassFile.FieldType.long)).before args0 about1 = true := code_word (m := ⟨1, 6⟩) (meth := k1m6) (c := k1c6) (by decide +kernel) rfl rfl rfl (by decide +kernel)
set_option maxRecDepth 65536 in
theorem w_c6 : (Jvm.Cond.code ({ cls := "com/example/crosshatch/crosshatch/design/ParameterSetsAdvancePinLaw", name := "place", desc := "([I[III)Z" } : Jvm.MethodName) method_4_code (4 : Nat) (Option.some Jvm.ClassFile.FieldType.boolean)).before args0 about1 = true := code_word (m := ⟨1, 3⟩) (meth := k1m3) (c := k1c3) (by decide +kernel) rfl rfl rfl (by decide +kernel)
set_option maxRecDepth 65536 in
theorem w_c7 : (Jvm.Cond.code ({ cls := "com/example/crosshatch/crosshatch/design/ParameterSetsAdvancePinLaw", name := "same", desc := "([I[I)Z" } : Jvm.MethodName) method_5_code (3 : Nat) (Option.some Jvm.ClassFile.FieldType.boolean)).before args0 about1 = true := code_word (m := ⟨1, 4⟩) (meth := k1m4) (c := k1c4) (by decide +kernel) rfl rfl rfl (by decide +kernel)
def codes1 : List Jvm.Cond := [Jvm.Cond.code x code maxLocals ret, Jvm.Cond.code ({ cls := "com/example/crosshatch/crosshatch/design/ParameterSetsAdvancePinLaw", name := "pick", desc := "(III)I" } : Jvm.MethodName) method_3_code (3 : Nat) (Option.some Jvm.ClassFile.FieldType.int), Jvm.Cond.code ({ cls := "com/example/crosshatch/crosshatch/design/ParameterSets", name := "advance", desc := "([II)I" } : Jvm.MethodName) prog_6_method_5_code (4 : Nat) (Option.some Jvm.ClassFile.FieldType.int), Jvm.Cond.code ({ cls := "com/example/crosshatch/crosshatch/design/ParameterSetsAdvancePinLaw", name := "binom", desc := "(JI)J" } : Jvm.MethodName) method_8_code (3 : Nat) (Option.some Jvm.ClassFile.FieldType.long), Jvm.Cond.code ({ cls := "com/example/crosshatch/crosshatch/design/ParameterSetsAdvancePinLaw", name := "valid", desc := "([II)Z" } : Jvm.MethodName) method_6_code (3 : Nat) (Option.some Jvm.ClassFile.FieldType.boolean), Jvm.Cond.code ({ cls := "com/example/crosshatch/crosshatch/design/ParameterSetsAdvancePinLaw", name := "rank", desc := "([II)J" } : Jvm.MethodName) method_7_code (5 : Nat) (Option.some Jvm.ClassFile.FieldType.long), Jvm.Cond.code ({ cls := "com/example/crosshatch/crosshatch/design/ParameterSetsAdvancePinLaw", name := "place", desc := "([I[III)Z" } : Jvm.MethodName) method_4_code (4 : Nat) (Option.some Jvm.ClassFile.FieldType.boolean), Jvm.Cond.code ({ cls := "com/example/crosshatch/crosshatch/design/ParameterSetsAdvancePinLaw", name := "same", desc := "([I[I)Z" } : Jvm.MethodName) method_5_code (3 : Nat) (Option.some Jvm.ClassFile.FieldType.boolean)]
set_option maxRecDepth 65536 in
theorem codes_eq : words1.filter isCode = codes1 := rfl
theorem w_codes : ∀ c ∈ words1.filter isCode, c.before args0 about1 = true := by
  rw [codes_eq]
  intro c hc
  simp only [codes1, List.mem_cons, List.not_mem_nil, or_false] at hc
  rcases hc with rfl | rfl | rfl | rfl | rfl | rfl | rfl | rfl
  · exact w_c0
  · exact w_c1
  · exact w_c2
  · exact w_c3
  · exact w_c4
  · exact w_c5
  · exact w_c6
  · exact w_c7
set_option maxRecDepth 65536 in
theorem w_t1 : (words1.take 24).all (fun c => isCode c || c.before args0 about1) = true := by decide +kernel
set_option maxRecDepth 65536 in
theorem w_t2 : (words1.drop 24).all (fun c => isCode c || c.before args0 about1) = true := by decide +kernel
theorem w_tables : (allAtoms (Jvm.Cond.code x code maxLocals ret :: tables_1)).before args0 about1 = true := by
  rw [allAtoms_all]
  show words1.all (fun c => c.before args0 about1) = true
  refine all_split ?_ w_codes
  rw [← List.take_append_drop 24 words1, List.all_append, w_t1, w_t2]
  rfl
set_option maxRecDepth 65536 in
theorem w_case : (Jvm.Cond.and given_1 narrow_1).before args0 about1 = true := by decide +kernel
theorem w_applies : (headSpec (Jvm.Cond.code x code maxLocals ret :: tables_1) room_1).applies x e0.platform about1 = true :=
  (Spec.applies_iff w_frames).mpr ⟨w_running, w_runnable, w_alone, w_named, w_hears, w_ripe, w_room, w_tables⟩
theorem atStart : AtStart classFile x code maxLocals ret World_1 tables_1 room_1 Calls_1 rest_1 Pre_1 launch0 p0 e0 about1 theMethod args0 below0 :=
  ⟨lists_1, trivial, launch0.admits_env _ _ _, launch0.least_env, fairChoices_fair.cas, fairChoices_fair.clock, w_frames, w_args, w_heap, w_applies, trivial, trivial, w_case⟩
end start1
theorem witness_1 : WitnessClaimed_1 := ⟨start1.p0, start1.e0, start1.about1, start1.theMethod, start1.args0, start1.below0, start1.atStart⟩
end Jvm.Pilot.@@N@@
