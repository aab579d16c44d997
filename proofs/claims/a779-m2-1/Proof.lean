import JvmDerived
import JvmDerived.Pilot.@@N@@Statement
import JvmDerived.Pilot.@@N@@Code
set_option linter.unusedVariables false
set_option linter.unusedSimpArgs false
namespace Jvm.Pilot.@@N@@
open Jvm Jvm.ClassFile Sem Op Lib Jvm.Free Jvm.Stand Jvm.LawKit Jvm.RoadKit Bundle Jvm.Pilot.@@N@@.Jvm.D
/-! 1. the walk's own words -/
def OG (tb : Tables) (e : Env) (below : List Frame) (P : Outcome → State → Prop) (A : State) : Prop :=
  ∃ s₂ o, Steps tb e below A s₂ ∧ s₂.status = .running ∧ Ended s₂ below o ∧ P o s₂
theorem OG.of {tb : Tables} {e : Env} {below : List Frame} {P : Outcome → State → Prop} {A B : State} (h : OG tb e below P B) (k : ∀ t, Steps tb e below B t → Steps tb e below A t) : OG tb e below P A := by
  obtain ⟨t, o, st, r⟩ := h
  exact ⟨t, o, k t st, r⟩
def Bx (own : String) (bs : ByteArray) (ml : Nat) (Z : State) (p : Program) (l : Launch) (e : Env) (R : Room) (s : State) (m : MethodId) (args : Array Value) (below : List Frame) (meth : Method) (c : Code) (T : State) (h : Heap) (locs : List Loc) (cells slots : Nat) : Prop :=
  Stand p l e R s m args below meth c T locs cells slots ∧ p.tables.exec = Jvm.exec ∧ c.code = bs ∧ c.maxLocals = ml ∧ s.vm.findClass own = some m.cls ∧ Z.Warmed39 s.vm ∧ T.heap = h
section Walk
variable {own : String} {bs : ByteArray} {ml : Nat} {Z : State} {p : Program} {l : Launch} {e : Env} {R : Room} {s : State} {m : MethodId} {args : Array Value} {below : List Frame} {meth : Method} {c : Code} {T : State} {h : Heap} {locs : List Loc} {cells slots : Nat} {P : Outcome → State → Prop} {Ls : Array Slot} {rest : List Value} {a0 : Array Value}
theorem o_iadd (B : Bx own bs ml Z p l e R s m args below meth c T h locs cells slots) (pc pc' : Nat) {x y : Int32} (hd : decode bs pc = .ok (.iadd, 1)) (hp : pc + 1 = pc') 
    (hr : OG p.tables e below P (T.setTop (mkF m pc' Ls (.int (x + y) :: rest)))) : OG p.tables e below P (T.setTop (mkF m pc Ls (.int y :: .int x :: rest))) := by
  subst hp
  obtain ⟨X, hx, hby, hml, hown, hZ, eT⟩ := B
  exact hr.of fun t k => XS.iadd X.here hx rfl (hb hby hd) rfl k
theorem o_isub (B : Bx own bs ml Z p l e R s m args below meth c T h locs cells slots) (pc pc' : Nat) {x y : Int32} (hd : decode bs pc = .ok (.isub, 1)) (hp : pc + 1 = pc') 
    (hr : OG p.tables e below P (T.setTop (mkF m pc' Ls (.int (x - y) :: rest)))) : OG p.tables e below P (T.setTop (mkF m pc Ls (.int y :: .int x :: rest))) := by
  subst hp
  obtain ⟨X, hx, hby, hml, hown, hZ, eT⟩ := B
  exact hr.of fun t k => XS.isub X.here hx rfl (hb hby hd) rfl k
theorem o_imul (B : Bx own bs ml Z p l e R s m args below meth c T h locs cells slots) (pc pc' : Nat) {x y : Int32} (hd : decode bs pc = .ok (.imul, 1)) (hp : pc + 1 = pc') 
    (hr : OG p.tables e below P (T.setTop (mkF m pc' Ls (.int (x * y) :: rest)))) : OG p.tables e below P (T.setTop (mkF m pc Ls (.int y :: .int x :: rest))) := by
  subst hp
  obtain ⟨X, hx, hby, hml, hown, hZ, eT⟩ := B
  exact hr.of fun t k => XS.imul X.here hx rfl (hb hby hd) rfl k
theorem o_iand (B : Bx own bs ml Z p l e R s m args below meth c T h locs cells slots) (pc pc' : Nat) {x y : Int32} (hd : decode bs pc = .ok (.iand, 1)) (hp : pc + 1 = pc') 
    (hr : OG p.tables e below P (T.setTop (mkF m pc' Ls (.int (x &&& y) :: rest)))) : OG p.tables e below P (T.setTop (mkF m pc Ls (.int y :: .int x :: rest))) := by
  subst hp
  obtain ⟨X, hx, hby, hml, hown, hZ, eT⟩ := B
  exact hr.of fun t k => XS.iand X.here hx rfl (hb hby hd) rfl k
theorem o_ior (B : Bx own bs ml Z p l e R s m args below meth c T h locs cells slots) (pc pc' : Nat) {x y : Int32} (hd : decode bs pc = .ok (.ior, 1)) (hp : pc + 1 = pc') 
    (hr : OG p.tables e below P (T.setTop (mkF m pc' Ls (.int (x ||| y) :: rest)))) : OG p.tables e below P (T.setTop (mkF m pc Ls (.int y :: .int x :: rest))) := by
  subst hp
  obtain ⟨X, hx, hby, hml, hown, hZ, eT⟩ := B
  exact hr.of fun t k => XT.ior X.here hx rfl (hb hby hd) rfl k
theorem o_ixor (B : Bx own bs ml Z p l e R s m args below meth c T h locs cells slots) (pc pc' : Nat) {x y : Int32} (hd : decode bs pc = .ok (.ixor, 1)) (hp : pc + 1 = pc') 
    (hr : OG p.tables e below P (T.setTop (mkF m pc' Ls (.int (x ^^^ y) :: rest)))) : OG p.tables e below P (T.setTop (mkF m pc Ls (.int y :: .int x :: rest))) := by
  subst hp
  obtain ⟨X, hx, hby, hml, hown, hZ, eT⟩ := B
  exact hr.of fun t k => XT.ixor X.here hx rfl (hb hby hd) rfl k
theorem o_ishl (B : Bx own bs ml Z p l e R s m args below meth c T h locs cells slots) (pc pc' : Nat) {x y : Int32} (hd : decode bs pc = .ok (.ishl, 1)) (hp : pc + 1 = pc') 
    (hr : OG p.tables e below P (T.setTop (mkF m pc' Ls (.int (x <<< (y &&& 31)) :: rest)))) : OG p.tables e below P (T.setTop (mkF m pc Ls (.int y :: .int x :: rest))) := by
  subst hp
  obtain ⟨X, hx, hby, hml, hown, hZ, eT⟩ := B
  exact hr.of fun t k => XT.ishl X.here hx rfl (hb hby hd) rfl k
theorem o_ishr (B : Bx own bs ml Z p l e R s m args below meth c T h locs cells slots) (pc pc' : Nat) {x y : Int32} (hd : decode bs pc = .ok (.ishr, 1)) (hp : pc + 1 = pc') 
    (hr : OG p.tables e below P (T.setTop (mkF m pc' Ls (.int (x >>> (y &&& 31)) :: rest)))) : OG p.tables e below P (T.setTop (mkF m pc Ls (.int y :: .int x :: rest))) := by
  subst hp
  obtain ⟨X, hx, hby, hml, hown, hZ, eT⟩ := B
  exact hr.of fun t k => XT.ishr X.here hx rfl (hb hby hd) rfl k
theorem o_iushr (B : Bx own bs ml Z p l e R s m args below meth c T h locs cells slots) (pc pc' : Nat) {x y : Int32} (hd : decode bs pc = .ok (.iushr, 1)) (hp : pc + 1 = pc') 
    (hr : OG p.tables e below P (T.setTop (mkF m pc' Ls (.int (XT.ushr x y) :: rest)))) : OG p.tables e below P (T.setTop (mkF m pc Ls (.int y :: .int x :: rest))) := by
  subst hp
  obtain ⟨X, hx, hby, hml, hown, hZ, eT⟩ := B
  exact hr.of fun t k => XT.iushr X.here hx rfl (hb hby hd) rfl k
theorem o_idiv (B : Bx own bs ml Z p l e R s m args below meth c T h locs cells slots) (pc pc' : Nat) {x y : Int32} (hd : decode bs pc = .ok (.idiv, 1)) (hp : pc + 1 = pc') (hy : y ≠ 0)
    (hr : OG p.tables e below P (T.setTop (mkF m pc' Ls (.int (x / y) :: rest)))) : OG p.tables e below P (T.setTop (mkF m pc Ls (.int y :: .int x :: rest))) := by
  subst hp
  obtain ⟨X, hx, hby, hml, hown, hZ, eT⟩ := B
  exact hr.of fun t k => XS.idiv X.here hx rfl (hb hby hd) rfl hy k
theorem o_irem (B : Bx own bs ml Z p l e R s m args below meth c T h locs cells slots) (pc pc' : Nat) {x y : Int32} (hd : decode bs pc = .ok (.irem, 1)) (hp : pc + 1 = pc') (hy : y ≠ 0)
    (hr : OG p.tables e below P (T.setTop (mkF m pc' Ls (.int (x % y) :: rest)))) : OG p.tables e below P (T.setTop (mkF m pc Ls (.int y :: .int x :: rest))) := by
  subst hp
  obtain ⟨X, hx, hby, hml, hown, hZ, eT⟩ := B
  exact hr.of fun t k => XS.irem X.here hx rfl (hb hby hd) rfl hy (by rw [irem_eq_mod]; exact k)
theorem o_ladd (B : Bx own bs ml Z p l e R s m args below meth c T h locs cells slots) (pc pc' : Nat) {x y : Int64} (hd : decode bs pc = .ok (.ladd, 1)) (hp : pc + 1 = pc') 
    (hr : OG p.tables e below P (T.setTop (mkF m pc' Ls (.long (x + y) :: rest)))) : OG p.tables e below P (T.setTop (mkF m pc Ls (.long y :: .long x :: rest))) := by
  subst hp
  obtain ⟨X, hx, hby, hml, hown, hZ, eT⟩ := B
  exact hr.of fun t k => XT.ladd X.here hx rfl (hb hby hd) rfl k
theorem o_lsub (B : Bx own bs ml Z p l e R s m args below meth c T h locs cells slots) (pc pc' : Nat) {x y : Int64} (hd : decode bs pc = .ok (.lsub, 1)) (hp : pc + 1 = pc') 
    (hr : OG p.tables e below P (T.setTop (mkF m pc' Ls (.long (x - y) :: rest)))) : OG p.tables e below P (T.setTop (mkF m pc Ls (.long y :: .long x :: rest))) := by
  subst hp
  obtain ⟨X, hx, hby, hml, hown, hZ, eT⟩ := B
  exact hr.of fun t k => XT.lsub X.here hx rfl (hb hby hd) rfl k
theorem o_lmul (B : Bx own bs ml Z p l e R s m args below meth c T h locs cells slots) (pc pc' : Nat) {x y : Int64} (hd : decode bs pc = .ok (.lmul, 1)) (hp : pc + 1 = pc') 
    (hr : OG p.tables e below P (T.setTop (mkF m pc' Ls (.long (x * y) :: rest)))) : OG p.tables e below P (T.setTop (mkF m pc Ls (.long y :: .long x :: rest))) := by
  subst hp
  obtain ⟨X, hx, hby, hml, hown, hZ, eT⟩ := B
  exact hr.of fun t k => XT.lmul X.here hx rfl (hb hby hd) rfl k
theorem o_land (B : Bx own bs ml Z p l e R s m args below meth c T h locs cells slots) (pc pc' : Nat) {x y : Int64} (hd : decode bs pc = .ok (.land, 1)) (hp : pc + 1 = pc') 
    (hr : OG p.tables e below P (T.setTop (mkF m pc' Ls (.long (x &&& y) :: rest)))) : OG p.tables e below P (T.setTop (mkF m pc Ls (.long y :: .long x :: rest))) := by
  subst hp
  obtain ⟨X, hx, hby, hml, hown, hZ, eT⟩ := B
  exact hr.of fun t k => XT.land X.here hx rfl (hb hby hd) rfl k
theorem o_lor (B : Bx own bs ml Z p l e R s m args below meth c T h locs cells slots) (pc pc' : Nat) {x y : Int64} (hd : decode bs pc = .ok (.lor, 1)) (hp : pc + 1 = pc') 
    (hr : OG p.tables e below P (T.setTop (mkF m pc' Ls (.long (x ||| y) :: rest)))) : OG p.tables e below P (T.setTop (mkF m pc Ls (.long y :: .long x :: rest))) := by
  subst hp
  obtain ⟨X, hx, hby, hml, hown, hZ, eT⟩ := B
  exact hr.of fun t k => XT.lor X.here hx rfl (hb hby hd) rfl k
theorem o_lxor (B : Bx own bs ml Z p l e R s m args below meth c T h locs cells slots) (pc pc' : Nat) {x y : Int64} (hd : decode bs pc = .ok (.lxor, 1)) (hp : pc + 1 = pc') 
    (hr : OG p.tables e below P (T.setTop (mkF m pc' Ls (.long (x ^^^ y) :: rest)))) : OG p.tables e below P (T.setTop (mkF m pc Ls (.long y :: .long x :: rest))) := by
  subst hp
  obtain ⟨X, hx, hby, hml, hown, hZ, eT⟩ := B
  exact hr.of fun t k => XT.lxor X.here hx rfl (hb hby hd) rfl k
theorem o_ldiv (B : Bx own bs ml Z p l e R s m args below meth c T h locs cells slots) (pc pc' : Nat) {x y : Int64} (hd : decode bs pc = .ok (.ldiv, 1)) (hp : pc + 1 = pc') (hy : y ≠ 0)
    (hr : OG p.tables e below P (T.setTop (mkF m pc' Ls (.long (x / y) :: rest)))) : OG p.tables e below P (T.setTop (mkF m pc Ls (.long y :: .long x :: rest))) := by
  subst hp
  obtain ⟨X, hx, hby, hml, hown, hZ, eT⟩ := B
  exact hr.of fun t k => XT.ldiv X.here hx rfl (hb hby hd) rfl hy k
theorem o_lrem (B : Bx own bs ml Z p l e R s m args below meth c T h locs cells slots) (pc pc' : Nat) {x y : Int64} (hd : decode bs pc = .ok (.lrem, 1)) (hp : pc + 1 = pc') (hy : y ≠ 0)
    (hr : OG p.tables e below P (T.setTop (mkF m pc' Ls (.long (x % y) :: rest)))) : OG p.tables e below P (T.setTop (mkF m pc Ls (.long y :: .long x :: rest))) := by
  subst hp
  obtain ⟨X, hx, hby, hml, hown, hZ, eT⟩ := B
  exact hr.of fun t k => XT.lrem X.here hx rfl (hb hby hd) rfl hy (by rw [lrem_mod]; exact k)
theorem o_lshl (B : Bx own bs ml Z p l e R s m args below meth c T h locs cells slots) (pc pc' : Nat) {x : Int64} {y : Int32} (hd : decode bs pc = .ok (.lshl, 1)) (hp : pc + 1 = pc') 
    (hr : OG p.tables e below P (T.setTop (mkF m pc' Ls (.long (x <<< (y.toInt64 &&& 63)) :: rest)))) : OG p.tables e below P (T.setTop (mkF m pc Ls (.int y :: .long x :: rest))) := by
  subst hp
  obtain ⟨X, hx, hby, hml, hown, hZ, eT⟩ := B
  exact hr.of fun t k => XT.lshl X.here hx rfl (hb hby hd) rfl k
theorem o_lshr (B : Bx own bs ml Z p l e R s m args below meth c T h locs cells slots) (pc pc' : Nat) {x : Int64} {y : Int32} (hd : decode bs pc = .ok (.lshr, 1)) (hp : pc + 1 = pc') 
    (hr : OG p.tables e below P (T.setTop (mkF m pc' Ls (.long (x >>> (y.toInt64 &&& 63)) :: rest)))) : OG p.tables e below P (T.setTop (mkF m pc Ls (.int y :: .long x :: rest))) := by
  subst hp
  obtain ⟨X, hx, hby, hml, hown, hZ, eT⟩ := B
  exact hr.of fun t k => XT.lshr X.here hx rfl (hb hby hd) rfl k
theorem o_lushr (B : Bx own bs ml Z p l e R s m args below meth c T h locs cells slots) (pc pc' : Nat) {x : Int64} {y : Int32} (hd : decode bs pc = .ok (.lushr, 1)) (hp : pc + 1 = pc') 
    (hr : OG p.tables e below P (T.setTop (mkF m pc' Ls (.long (XT.ushrL x y) :: rest)))) : OG p.tables e below P (T.setTop (mkF m pc Ls (.int y :: .long x :: rest))) := by
  subst hp
  obtain ⟨X, hx, hby, hml, hown, hZ, eT⟩ := B
  exact hr.of fun t k => XT.lushr X.here hx rfl (hb hby hd) rfl k
theorem o_lcmp (B : Bx own bs ml Z p l e R s m args below meth c T h locs cells slots) (pc pc' : Nat) {x y : Int64} (hd : decode bs pc = .ok (.lcmp, 1)) (hp : pc + 1 = pc') 
    (hr : OG p.tables e below P (T.setTop (mkF m pc' Ls (.int (XT.cmpL x y) :: rest)))) : OG p.tables e below P (T.setTop (mkF m pc Ls (.long y :: .long x :: rest))) := by
  subst hp
  obtain ⟨X, hx, hby, hml, hown, hZ, eT⟩ := B
  exact hr.of fun t k => XT.lcmp X.here hx rfl (hb hby hd) rfl k
theorem o_ineg (B : Bx own bs ml Z p l e R s m args below meth c T h locs cells slots) (pc pc' : Nat) {x : Int32} (hd : decode bs pc = .ok (.ineg, 1)) (hp : pc + 1 = pc') 
    (hr : OG p.tables e below P (T.setTop (mkF m pc' Ls (.int (-x) :: rest)))) : OG p.tables e below P (T.setTop (mkF m pc Ls (.int x :: rest))) := by
  subst hp
  obtain ⟨X, hx, hby, hml, hown, hZ, eT⟩ := B
  exact hr.of fun t k => XS.ineg X.here hx rfl (hb hby hd) rfl k
theorem o_lneg (B : Bx own bs ml Z p l e R s m args below meth c T h locs cells slots) (pc pc' : Nat) {x : Int64} (hd : decode bs pc = .ok (.lneg, 1)) (hp : pc + 1 = pc') 
    (hr : OG p.tables e below P (T.setTop (mkF m pc' Ls (.long (-x) :: rest)))) : OG p.tables e below P (T.setTop (mkF m pc Ls (.long x :: rest))) := by
  subst hp
  obtain ⟨X, hx, hby, hml, hown, hZ, eT⟩ := B
  exact hr.of fun t k => XT.lneg X.here hx rfl (hb hby hd) rfl k
theorem o_i2l (B : Bx own bs ml Z p l e R s m args below meth c T h locs cells slots) (pc pc' : Nat) {x : Int32} (hd : decode bs pc = .ok (.i2l, 1)) (hp : pc + 1 = pc') 
    (hr : OG p.tables e below P (T.setTop (mkF m pc' Ls (.long (x.toInt64) :: rest)))) : OG p.tables e below P (T.setTop (mkF m pc Ls (.int x :: rest))) := by
  subst hp
  obtain ⟨X, hx, hby, hml, hown, hZ, eT⟩ := B
  exact hr.of fun t k => XT.i2l X.here hx rfl (hb hby hd) rfl k
theorem o_l2i (B : Bx own bs ml Z p l e R s m args below meth c T h locs cells slots) (pc pc' : Nat) {x : Int64} (hd : decode bs pc = .ok (.l2i, 1)) (hp : pc + 1 = pc') 
    (hr : OG p.tables e below P (T.setTop (mkF m pc' Ls (.int (x.toInt32) :: rest)))) : OG p.tables e below P (T.setTop (mkF m pc Ls (.long x :: rest))) := by
  subst hp
  obtain ⟨X, hx, hby, hml, hown, hZ, eT⟩ := B
  exact hr.of fun t k => XT.l2i X.here hx rfl (hb hby hd) rfl k
theorem o_i2b (B : Bx own bs ml Z p l e R s m args below meth c T h locs cells slots) (pc pc' : Nat) {x : Int32} (hd : decode bs pc = .ok (.i2b, 1)) (hp : pc + 1 = pc') 
    (hr : OG p.tables e below P (T.setTop (mkF m pc' Ls (.int (x.toInt8.toInt32) :: rest)))) : OG p.tables e below P (T.setTop (mkF m pc Ls (.int x :: rest))) := by
  subst hp
  obtain ⟨X, hx, hby, hml, hown, hZ, eT⟩ := B
  exact hr.of fun t k => XT.i2b X.here hx rfl (hb hby hd) rfl k
theorem o_i2c (B : Bx own bs ml Z p l e R s m args below meth c T h locs cells slots) (pc pc' : Nat) {x : Int32} (hd : decode bs pc = .ok (.i2c, 1)) (hp : pc + 1 = pc') 
    (hr : OG p.tables e below P (T.setTop (mkF m pc' Ls (.int (x.toUInt32.toUInt16.toUInt32.toInt32) :: rest)))) : OG p.tables e below P (T.setTop (mkF m pc Ls (.int x :: rest))) := by
  subst hp
  obtain ⟨X, hx, hby, hml, hown, hZ, eT⟩ := B
  exact hr.of fun t k => XT.i2c X.here hx rfl (hb hby hd) rfl k
theorem o_i2s (B : Bx own bs ml Z p l e R s m args below meth c T h locs cells slots) (pc pc' : Nat) {x : Int32} (hd : decode bs pc = .ok (.i2s, 1)) (hp : pc + 1 = pc') 
    (hr : OG p.tables e below P (T.setTop (mkF m pc' Ls (.int (x.toInt16.toInt32) :: rest)))) : OG p.tables e below P (T.setTop (mkF m pc Ls (.int x :: rest))) := by
  subst hp
  obtain ⟨X, hx, hby, hml, hown, hZ, eT⟩ := B
  exact hr.of fun t k => XT.i2s X.here hx rfl (hb hby hd) rfl k
theorem o_iconst (B : Bx own bs ml Z p l e R s m args below meth c T h locs cells slots) (pc pc' : Nat) {i : Int} (v : Int32) (hd : decode bs pc = .ok (.iconst i, 1)) (hp : pc + 1 = pc') (hv : Int32.ofInt i = v)
    (hr : OG p.tables e below P (T.setTop (mkF m pc' Ls (.int v :: rest)))) : OG p.tables e below P (T.setTop (mkF m pc Ls rest)) := by
  subst hp
  obtain ⟨X, hx, hby, hml, hown, hZ, eT⟩ := B
  exact hr.of fun t k => XT.iconstV X.here hx rfl v (hb hby hd) hv k
theorem o_bipush (B : Bx own bs ml Z p l e R s m args below meth c T h locs cells slots) (pc pc' : Nat) {i : Int} (v : Int32) (hd : decode bs pc = .ok (.bipush i, 2)) (hp : pc + 2 = pc') (hv : (Int8.ofInt i).toInt32 = v)
    (hr : OG p.tables e below P (T.setTop (mkF m pc' Ls (.int v :: rest)))) : OG p.tables e below P (T.setTop (mkF m pc Ls rest)) := by
  subst hp
  obtain ⟨X, hx, hby, hml, hown, hZ, eT⟩ := B
  exact hr.of fun t k => XT.bipushV X.here hx rfl v (hb hby hd) hv k
theorem o_sipush (B : Bx own bs ml Z p l e R s m args below meth c T h locs cells slots) (pc pc' : Nat) {i : Int} (v : Int32) (hd : decode bs pc = .ok (.sipush i, 3)) (hp : pc + 3 = pc') (hv : (Int16.ofInt i).toInt32 = v)
    (hr : OG p.tables e below P (T.setTop (mkF m pc' Ls (.int v :: rest)))) : OG p.tables e below P (T.setTop (mkF m pc Ls rest)) := by
  subst hp
  obtain ⟨X, hx, hby, hml, hown, hZ, eT⟩ := B
  exact hr.of fun t k => XT.sipushV X.here hx rfl v (hb hby hd) hv k
theorem o_lconst (B : Bx own bs ml Z p l e R s m args below meth c T h locs cells slots) (pc pc' : Nat) {i : Fin 2} (v : Int64) (hd : decode bs pc = .ok (.lconst i, 1)) (hp : pc + 1 = pc') (hv : Int64.ofNat i = v)
    (hr : OG p.tables e below P (T.setTop (mkF m pc' Ls (.long v :: rest)))) : OG p.tables e below P (T.setTop (mkF m pc Ls rest)) := by
  subst hp
  obtain ⟨X, hx, hby, hml, hown, hZ, eT⟩ := B
  exact hr.of fun t k => XT.lconstV X.here hx rfl v (hb hby hd) hv k
theorem o_aconst_null (B : Bx own bs ml Z p l e R s m args below meth c T h locs cells slots) (pc pc' : Nat)  (hd : decode bs pc = .ok (.aconst_null, 1)) (hp : pc + 1 = pc') 
    (hr : OG p.tables e below P (T.setTop (mkF m pc' Ls (.null :: rest)))) : OG p.tables e below P (T.setTop (mkF m pc Ls rest)) := by
  subst hp
  obtain ⟨X, hx, hby, hml, hown, hZ, eT⟩ := B
  exact hr.of fun t k => XS.aconstNull X.here hx rfl (hb hby hd) k
theorem o_iloadN (B : Bx own bs ml Z p l e R s m args below meth c T h locs cells slots) (pc pc' : Nat) {k : Fin 4} {v : Int32} (hd : decode bs pc = .ok (.iload_n k, 1)) (hp : pc + 1 = pc') (hl : Ls[k.val]? = some (.val (.int v)))
    (hr : OG p.tables e below P (T.setTop (mkF m pc' Ls (.int v :: rest)))) : OG p.tables e below P (T.setTop (mkF m pc Ls rest)) := by
  subst hp
  obtain ⟨X, hx, hby, hml, hown, hZ, eT⟩ := B
  exact hr.of fun t k => XS.iloadN X.here hx rfl (hb hby hd) hl k
theorem o_iload (B : Bx own bs ml Z p l e R s m args below meth c T h locs cells slots) (pc pc' : Nat) {k : Nat} {v : Int32} (hd : decode bs pc = .ok (.iload k, 2)) (hp : pc + 2 = pc') (hl : Ls[k]? = some (.val (.int v)))
    (hr : OG p.tables e below P (T.setTop (mkF m pc' Ls (.int v :: rest)))) : OG p.tables e below P (T.setTop (mkF m pc Ls rest)) := by
  subst hp
  obtain ⟨X, hx, hby, hml, hown, hZ, eT⟩ := B
  exact hr.of fun t k => XS.iload X.here hx rfl (hb hby hd) hl k
theorem o_lloadN (B : Bx own bs ml Z p l e R s m args below meth c T h locs cells slots) (pc pc' : Nat) {k : Fin 4} {v : Int64} (hd : decode bs pc = .ok (.lload_n k, 1)) (hp : pc + 1 = pc') (hl : Ls[k.val]? = some (.val (.long v)))
    (hr : OG p.tables e below P (T.setTop (mkF m pc' Ls (.long v :: rest)))) : OG p.tables e below P (T.setTop (mkF m pc Ls rest)) := by
  subst hp
  obtain ⟨X, hx, hby, hml, hown, hZ, eT⟩ := B
  exact hr.of fun t k => XT.lloadN X.here hx rfl (hb hby hd) hl k
theorem o_lload (B : Bx own bs ml Z p l e R s m args below meth c T h locs cells slots) (pc pc' : Nat) {k : Nat} {v : Int64} (hd : decode bs pc = .ok (.lload k, 2)) (hp : pc + 2 = pc') (hl : Ls[k]? = some (.val (.long v)))
    (hr : OG p.tables e below P (T.setTop (mkF m pc' Ls (.long v :: rest)))) : OG p.tables e below P (T.setTop (mkF m pc Ls rest)) := by
  subst hp
  obtain ⟨X, hx, hby, hml, hown, hZ, eT⟩ := B
  exact hr.of fun t k => XT.lload X.here hx rfl (hb hby hd) hl k
theorem o_aloadN (B : Bx own bs ml Z p l e R s m args below meth c T h locs cells slots) (pc pc' : Nat) {k : Fin 4} {v : Value} (hd : decode bs pc = .ok (.aload_n k, 1)) (hp : pc + 1 = pc') (hl : Ls[k.val]? = some (.val v)) (hv : v.isRef = true)
    (hr : OG p.tables e below P (T.setTop (mkF m pc' Ls (v :: rest)))) : OG p.tables e below P (T.setTop (mkF m pc Ls rest)) := by
  subst hp
  obtain ⟨X, hx, hby, hml, hown, hZ, eT⟩ := B
  exact hr.of fun t k => XS.aloadN X.here hx rfl (hb hby hd) hl hv k
theorem o_aload (B : Bx own bs ml Z p l e R s m args below meth c T h locs cells slots) (pc pc' : Nat) {k : Nat} {v : Value} (hd : decode bs pc = .ok (.aload k, 2)) (hp : pc + 2 = pc') (hl : Ls[k]? = some (.val v)) (hv : v.isRef = true)
    (hr : OG p.tables e below P (T.setTop (mkF m pc' Ls (v :: rest)))) : OG p.tables e below P (T.setTop (mkF m pc Ls rest)) := by
  subst hp
  obtain ⟨X, hx, hby, hml, hown, hZ, eT⟩ := B
  exact hr.of fun t k => XS.aload X.here hx rfl (hb hby hd) hl hv k
theorem o_istoreN (B : Bx own bs ml Z p l e R s m args below meth c T h locs cells slots) (pc pc' : Nat) {k : Fin 4} {x : Int32} {l' : Array Slot} (hd : decode bs pc = .ok (.istore_n k, 1)) (hp : pc + 1 = pc') (hl : storeLocals Ls k.val (.int x) = some l')
    (hr : OG p.tables e below P (T.setTop (mkF m pc' l' rest))) : OG p.tables e below P (T.setTop (mkF m pc Ls (.int x :: rest))) := by
  subst hp
  obtain ⟨X, hx, hby, hml, hown, hZ, eT⟩ := B
  exact hr.of fun t k => XS.istoreN X.here hx rfl (hb hby hd) rfl hl k
theorem o_istore (B : Bx own bs ml Z p l e R s m args below meth c T h locs cells slots) (pc pc' : Nat) {k : Nat} {x : Int32} {l' : Array Slot} (hd : decode bs pc = .ok (.istore k, 2)) (hp : pc + 2 = pc') (hl : storeLocals Ls k (.int x) = some l')
    (hr : OG p.tables e below P (T.setTop (mkF m pc' l' rest))) : OG p.tables e below P (T.setTop (mkF m pc Ls (.int x :: rest))) := by
  subst hp
  obtain ⟨X, hx, hby, hml, hown, hZ, eT⟩ := B
  exact hr.of fun t k => XS.istore X.here hx rfl (hb hby hd) rfl hl k
theorem o_lstoreN (B : Bx own bs ml Z p l e R s m args below meth c T h locs cells slots) (pc pc' : Nat) {k : Fin 4} {x : Int64} {l' : Array Slot} (hd : decode bs pc = .ok (.lstore_n k, 1)) (hp : pc + 1 = pc') (hl : storeLocals Ls k.val (.long x) = some l')
    (hr : OG p.tables e below P (T.setTop (mkF m pc' l' rest))) : OG p.tables e below P (T.setTop (mkF m pc Ls (.long x :: rest))) := by
  subst hp
  obtain ⟨X, hx, hby, hml, hown, hZ, eT⟩ := B
  exact hr.of fun t k => XT.lstoreN X.here hx rfl (hb hby hd) rfl hl k
theorem o_lstore (B : Bx own bs ml Z p l e R s m args below meth c T h locs cells slots) (pc pc' : Nat) {k : Nat} {x : Int64} {l' : Array Slot} (hd : decode bs pc = .ok (.lstore k, 2)) (hp : pc + 2 = pc') (hl : storeLocals Ls k (.long x) = some l')
    (hr : OG p.tables e below P (T.setTop (mkF m pc' l' rest))) : OG p.tables e below P (T.setTop (mkF m pc Ls (.long x :: rest))) := by
  subst hp
  obtain ⟨X, hx, hby, hml, hown, hZ, eT⟩ := B
  exact hr.of fun t k => XT.lstore X.here hx rfl (hb hby hd) rfl hl k
theorem o_astoreN (B : Bx own bs ml Z p l e R s m args below meth c T h locs cells slots) (pc pc' : Nat) {k : Fin 4} {x : Value} {l' : Array Slot} (hd : decode bs pc = .ok (.astore_n k, 1)) (hp : pc + 1 = pc') (hv : x.isRef = true) (hl : storeLocals Ls k.val x = some l')
    (hr : OG p.tables e below P (T.setTop (mkF m pc' l' rest))) : OG p.tables e below P (T.setTop (mkF m pc Ls (x :: rest))) := by
  subst hp
  obtain ⟨X, hx, hby, hml, hown, hZ, eT⟩ := B
  exact hr.of fun t k => XS.astoreN X.here hx rfl (hb hby hd) rfl hv hl k
theorem o_astore (B : Bx own bs ml Z p l e R s m args below meth c T h locs cells slots) (pc pc' : Nat) {k : Nat} {x : Value} {l' : Array Slot} (hd : decode bs pc = .ok (.astore k, 2)) (hp : pc + 2 = pc') (hv : x.isRef = true) (hl : storeLocals Ls k x = some l')
    (hr : OG p.tables e below P (T.setTop (mkF m pc' l' rest))) : OG p.tables e below P (T.setTop (mkF m pc Ls (x :: rest))) := by
  subst hp
  obtain ⟨X, hx, hby, hml, hown, hZ, eT⟩ := B
  exact hr.of fun t k => XS.astore X.here hx rfl (hb hby hd) rfl hv hl k
theorem o_iinc (B : Bx own bs ml Z p l e R s m args below meth c T h locs cells slots) (pc pc' : Nat) {k : Nat} {cst : Int} {x : Int32} {l' : Array Slot} (v : Int32) (hd : decode bs pc = .ok (.iinc k cst, 3)) (hp : pc + 3 = pc') (hv : Int32.ofInt cst = v) (hl : Ls[k]? = some (.val (.int x))) (hl' : storeLocals Ls k (.int (x + v)) = some l')
    (hr : OG p.tables e below P (T.setTop (mkF m pc' l' rest))) : OG p.tables e below P (T.setTop (mkF m pc Ls rest)) := by
  subst hp
  obtain ⟨X, hx, hby, hml, hown, hZ, eT⟩ := B
  exact hr.of fun t k => XT.iincV X.here hx rfl v (hb hby hd) hv hl hl' k
theorem o_goto (B : Bx own bs ml Z p l e R s m args below meth c T h locs cells slots) (pc pc' : Nat) {o : Int} (hd : decode bs pc = .ok (.goto o, 3))  (ho : 0 ≤ (pc : Int) + o) (hp : ((pc : Int) + o).toNat = pc')
    (hr : OG p.tables e below P (T.setTop (mkF m pc' Ls rest))) : OG p.tables e below P (T.setTop (mkF m pc Ls rest)) := by
  obtain ⟨X, hx, hby, hml, hown, hZ, eT⟩ := B
  exact hr.of fun t k => XS.goto X.here hx rfl (pc0 := pc) (pc' := pc') rfl (hb hby hd) ho hp k
theorem o_ifY (B : Bx own bs ml Z p l e R s m args below meth c T h locs cells slots) (pc pc' : Nat) {cd : ClassFile.Cond} {o : Int} {x : Int32} (hd : decode bs pc = .ok (.ifCond cd o, 3))  (hc : ifCond.holds cd x = true) (ho : 0 ≤ (pc : Int) + o) (hp : ((pc : Int) + o).toNat = pc')
    (hr : OG p.tables e below P (T.setTop (mkF m pc' Ls rest))) : OG p.tables e below P (T.setTop (mkF m pc Ls (.int x :: rest))) := by
  obtain ⟨X, hx, hby, hml, hown, hZ, eT⟩ := B
  exact hr.of fun t k => XS.ifYes X.here hx rfl (pc0 := pc) (pc' := pc') rfl (hb hby hd) rfl hc ho hp k
theorem o_ifN (B : Bx own bs ml Z p l e R s m args below meth c T h locs cells slots) (pc pc' : Nat) {cd : ClassFile.Cond} {o : Int} {x : Int32} (hd : decode bs pc = .ok (.ifCond cd o, 3)) (hp : pc + 3 = pc') (hc : ifCond.holds cd x = false)
    (hr : OG p.tables e below P (T.setTop (mkF m pc' Ls rest))) : OG p.tables e below P (T.setTop (mkF m pc Ls (.int x :: rest))) := by
  subst hp
  obtain ⟨X, hx, hby, hml, hown, hZ, eT⟩ := B
  exact hr.of fun t k => XS.ifNo X.here hx rfl (hb hby hd) rfl hc k
theorem o_icY (B : Bx own bs ml Z p l e R s m args below meth c T h locs cells slots) (pc pc' : Nat) {cd : ClassFile.Cond} {o : Int} {x y : Int32} (hd : decode bs pc = .ok (.if_icmp cd o, 3))  (hc : if_icmp.holds cd x y = true) (ho : 0 ≤ (pc : Int) + o) (hp : ((pc : Int) + o).toNat = pc')
    (hr : OG p.tables e below P (T.setTop (mkF m pc' Ls rest))) : OG p.tables e below P (T.setTop (mkF m pc Ls (.int y :: .int x :: rest))) := by
  obtain ⟨X, hx, hby, hml, hown, hZ, eT⟩ := B
  exact hr.of fun t k => XS.icmpYes X.here hx rfl (pc0 := pc) (pc' := pc') rfl (hb hby hd) rfl hc ho hp k
theorem o_icN (B : Bx own bs ml Z p l e R s m args below meth c T h locs cells slots) (pc pc' : Nat) {cd : ClassFile.Cond} {o : Int} {x y : Int32} (hd : decode bs pc = .ok (.if_icmp cd o, 3)) (hp : pc + 3 = pc') (hc : if_icmp.holds cd x y = false)
    (hr : OG p.tables e below P (T.setTop (mkF m pc' Ls rest))) : OG p.tables e below P (T.setTop (mkF m pc Ls (.int y :: .int x :: rest))) := by
  subst hp
  obtain ⟨X, hx, hby, hml, hown, hZ, eT⟩ := B
  exact hr.of fun t k => XS.icmpNo X.here hx rfl (hb hby hd) rfl hc k
theorem o_dup (B : Bx own bs ml Z p l e R s m args below meth c T h locs cells slots) (pc pc' : Nat) {x : Value} (hd : decode bs pc = .ok (.dup, 1)) (hp : pc + 1 = pc') (hc : x.category = 1)
    (hr : OG p.tables e below P (T.setTop (mkF m pc' Ls (x :: x :: rest)))) : OG p.tables e below P (T.setTop (mkF m pc Ls (x :: rest))) := by
  subst hp
  obtain ⟨X, hx, hby, hml, hown, hZ, eT⟩ := B
  exact hr.of fun t k => XS.dup X.here hx rfl (hb hby hd) rfl hc k
theorem o_pop (B : Bx own bs ml Z p l e R s m args below meth c T h locs cells slots) (pc pc' : Nat) {x : Value} (hd : decode bs pc = .ok (.pop, 1)) (hp : pc + 1 = pc') (hc : x.category = 1)
    (hr : OG p.tables e below P (T.setTop (mkF m pc' Ls rest))) : OG p.tables e below P (T.setTop (mkF m pc Ls (x :: rest))) := by
  subst hp
  obtain ⟨X, hx, hby, hml, hown, hZ, eT⟩ := B
  exact hr.of fun t k => XT.pop X.here hx rfl (hb hby hd) rfl hc k
theorem o_dup_x1 (B : Bx own bs ml Z p l e R s m args below meth c T h locs cells slots) (pc pc' : Nat) {x y : Value} (hd : decode bs pc = .ok (.dup_x1, 1)) (hp : pc + 1 = pc') (hc : x.category = 1) (hc' : y.category = 1)
    (hr : OG p.tables e below P (T.setTop (mkF m pc' Ls (x :: y :: x :: rest)))) : OG p.tables e below P (T.setTop (mkF m pc Ls (x :: y :: rest))) := by
  subst hp
  obtain ⟨X, hx, hby, hml, hown, hZ, eT⟩ := B
  exact hr.of fun t k => XT.dupX1 X.here hx rfl (hb hby hd) rfl hc hc' k
theorem o_dup2 (B : Bx own bs ml Z p l e R s m args below meth c T h locs cells slots) (pc pc' : Nat) {x y : Value} (hd : decode bs pc = .ok (.dup2, 1)) (hp : pc + 1 = pc') (hc : x.category = 1) (hc' : y.category = 1)
    (hr : OG p.tables e below P (T.setTop (mkF m pc' Ls (x :: y :: x :: y :: rest)))) : OG p.tables e below P (T.setTop (mkF m pc Ls (x :: y :: rest))) := by
  subst hp
  obtain ⟨X, hx, hby, hml, hown, hZ, eT⟩ := B
  exact hr.of fun t k => XT.dup2 X.here hx rfl (hb hby hd) rfl hc hc' k
theorem o_dup2L (B : Bx own bs ml Z p l e R s m args below meth c T h locs cells slots) (pc pc' : Nat) {x : Int64} (hd : decode bs pc = .ok (.dup2, 1)) (hp : pc + 1 = pc') 
    (hr : OG p.tables e below P (T.setTop (mkF m pc' Ls (.long x :: .long x :: rest)))) : OG p.tables e below P (T.setTop (mkF m pc Ls (.long x :: rest))) := by
  subst hp
  obtain ⟨X, hx, hby, hml, hown, hZ, eT⟩ := B
  exact hr.of fun t k => XT.dup2L X.here hx rfl (hb hby hd) rfl k
theorem o_ldc (B : Bx own bs ml Z p l e R s m args below meth c T h locs cells slots) (pc pc' : Nat) {i : Nat} {v : Int32} (hd : decode bs pc = .ok (.ldc i, 2)) (hp : pc + 2 = pc') (w : (Cond.constant own i v).before a0 Z = true)
    (hr : OG p.tables e below P (T.setTop (mkF m pc' Ls (.int v :: rest)))) : OG p.tables e below P (T.setTop (mkF m pc Ls rest)) := by
  subst hp
  obtain ⟨X, hx, hby, hml, hown, hZ, eT⟩ := B
  exact hr.of fun t k => X.ldcI hx hown (mv hZ w) rfl (hb hby hd) k
theorem o_ldc_w (B : Bx own bs ml Z p l e R s m args below meth c T h locs cells slots) (pc pc' : Nat) {i : Nat} {v : Int32} (hd : decode bs pc = .ok (.ldc_w i, 3)) (hp : pc + 3 = pc') (w : (Cond.constant own i v).before a0 Z = true)
    (hr : OG p.tables e below P (T.setTop (mkF m pc' Ls (.int v :: rest)))) : OG p.tables e below P (T.setTop (mkF m pc Ls rest)) := by
  subst hp
  obtain ⟨X, hx, hby, hml, hown, hZ, eT⟩ := B
  exact hr.of fun t k => X.ldcWI hx hown (mv hZ w) rfl (hb hby hd) k
theorem o_ldc2 (B : Bx own bs ml Z p l e R s m args below meth c T h locs cells slots) (pc pc' : Nat) {i : Nat} {v : Int64} (hd : decode bs pc = .ok (.ldc2_w i, 3)) (hp : pc + 3 = pc') (w : (Cond.constantLong own i v).before a0 Z = true)
    (hr : OG p.tables e below P (T.setTop (mkF m pc' Ls (.long v :: rest)))) : OG p.tables e below P (T.setTop (mkF m pc Ls rest)) := by
  subst hp
  obtain ⟨X, hx, hby, hml, hown, hZ, eT⟩ := B
  exact hr.of fun t k => X.ldc2J hx hown (mv hZ w) rfl (hb hby hd) k
theorem o_topI {pc : Nat} {x y : Int32} (q : x = y) (hr : OG p.tables e below P (T.setTop (mkF m pc Ls (.int y :: rest)))) : OG p.tables e below P (T.setTop (mkF m pc Ls (.int x :: rest))) := q ▸ hr
theorem o_topJ {pc : Nat} {x y : Int64} (q : x = y) (hr : OG p.tables e below P (T.setTop (mkF m pc Ls (.long y :: rest)))) : OG p.tables e below P (T.setTop (mkF m pc Ls (.long x :: rest))) := q ▸ hr
theorem o_iincC (B : Bx own bs ml Z p l e R s m args below meth c T h locs cells slots) (pc pc' : Nat) {k : Nat} {cst : Int} {x : Int32} {l' : Array Slot} (v y : Int32) (hd : decode bs pc = .ok (.iinc k cst, 3)) (hp : pc + 3 = pc') (hv : Int32.ofInt cst = v) (hl : Ls[k]? = some (.val (.int x))) (hy : x + v = y) (hl' : storeLocals Ls k (.int y) = some l')
    (hr : OG p.tables e below P (T.setTop (mkF m pc' l' rest))) : OG p.tables e below P (T.setTop (mkF m pc Ls rest)) := by
  subst hp
  obtain ⟨X, hx, hby, hml, hown, hZ, eT⟩ := B
  exact hr.of fun t k => XT.iincV X.here hx rfl v (hb hby hd) hv hl (hy ▸ hl') k
theorem o_retZ {Q : Option Value → Heap → List Loc → Prop} {kc ks : Nat} (B : Bx own bs ml Z p l e R s m args below meth c T h locs cells slots) (pc : Nat) {z : Int32} {t : FieldType} (hd : decode bs pc = .ok (.ireturn, 1)) (hret : meth.sig.returnType = some t) (hlk : meth.locks = false) (ht : t = .boolean ∨ t = .byte ∨ t = .char ∨ t = .short) (hc : cells ≤ kc) (hs : slots ≤ ks) (hq : Q (some (.int (nar t z))) h locs) :
    OG p.tables e below (fun o s₂ => ∃ v L, o = .returned v ∧ Q v s₂.heap L ∧ FrameEnd s o s₂ L kc ks) (T.setTop (mkF m pc Ls (.int z :: rest))) := by
  obtain ⟨X, hx, hby, hml, hown, hZ, eT⟩ := B
  subst eT
  obtain ⟨fs, hr, hrun, hended, hW, hsame⟩ := X.leave (v := some (.int (nar t z))) (fun hn => by rw [hret] at hn; cases hn) hlk
  exact ⟨_, _, retN X hx hret ht (hb hby hd) hr, hrun, hended, _, _, rfl, hq, ⟨_, rfl⟩, hW, hsame.mono hc hs⟩
theorem o_retI0 (X : Stand p l e R s m args below meth c T locs cells slots) (hx : p.tables.exec = Jvm.exec) {pc : Nat} {z : Int32} (hret : meth.sig.returnType = some .int) (hd : decode c.code pc = .ok (.ireturn, 1)) {fs : List Frame}
    (hl : ∀ (f : JFrame) (acts : List Action), f.method = m → f.locked = none → f.entered = [] → (doReturn e (T.setTop f) acts (some (.int z))).1 = T.setFrames fs) : Steps p.tables e below (T.setTop (mkF m pc Ls (.int z :: rest))) (T.setFrames fs) :=
  retOut X hx hret rfl (Or.inl ⟨rfl, Or.inl rfl, _, rfl⟩) hd hl
theorem o_retI {Q : Option Value → Heap → List Loc → Prop} {kc ks : Nat} (B : Bx own bs ml Z p l e R s m args below meth c T h locs cells slots) (pc : Nat) {z : Int32} (hd : decode bs pc = .ok (.ireturn, 1)) (hret : meth.sig.returnType = some .int) (hlk : meth.locks = false)  (hc : cells ≤ kc) (hs : slots ≤ ks) (hq : Q (some (.int z)) h locs) :
    OG p.tables e below (fun o s₂ => ∃ v L, o = .returned v ∧ Q v s₂.heap L ∧ FrameEnd s o s₂ L kc ks) (T.setTop (mkF m pc Ls (.int z :: rest))) := by
  obtain ⟨X, hx, hby, hml, hown, hZ, eT⟩ := B
  subst eT
  obtain ⟨fs, hr, hrun, hended, hW, hsame⟩ := X.leave (v := some (.int z)) (fun hn => by rw [hret] at hn; cases hn) hlk
  exact ⟨_, _, o_retI0 X hx hret (hb hby hd) hr, hrun, hended, _, _, rfl, hq, ⟨_, rfl⟩, hW, hsame.mono hc hs⟩
theorem o_retL {Q : Option Value → Heap → List Loc → Prop} {kc ks : Nat} (B : Bx own bs ml Z p l e R s m args below meth c T h locs cells slots) (pc : Nat) {z : Int64} (hd : decode bs pc = .ok (.lreturn, 1)) (hret : meth.sig.returnType = some .long) (hlk : meth.locks = false)  (hc : cells ≤ kc) (hs : slots ≤ ks) (hq : Q (some (.long z)) h locs) :
    OG p.tables e below (fun o s₂ => ∃ v L, o = .returned v ∧ Q v s₂.heap L ∧ FrameEnd s o s₂ L kc ks) (T.setTop (mkF m pc Ls [.long z])) := by
  obtain ⟨X, hx, hby, hml, hown, hZ, eT⟩ := B
  subst eT
  obtain ⟨fs, hr, hrun, hended, hW, hsame⟩ := X.leave (v := some (.long z)) (fun hn => by rw [hret] at hn; cases hn) hlk
  exact ⟨_, _, X.lreturnOut hx hret (hb hby hd) hr, hrun, hended, _, _, rfl, hq, ⟨_, rfl⟩, hW, hsame.mono hc hs⟩
theorem o_retA {Q : Option Value → Heap → List Loc → Prop} {kc ks : Nat} (B : Bx own bs ml Z p l e R s m args below meth c T h locs cells slots) (pc : Nat) {z : Value} {t : FieldType} (hd : decode bs pc = .ok (.areturn, 1)) (hret : meth.sig.returnType = some t) (hlk : meth.locks = false) (ht : t.isReference = true) (hz : z.isRef = true) (hc : cells ≤ kc) (hs : slots ≤ ks) (hq : Q (some z) h locs) :
    OG p.tables e below (fun o s₂ => ∃ v L, o = .returned v ∧ Q v s₂.heap L ∧ FrameEnd s o s₂ L kc ks) (T.setTop (mkF m pc Ls [z])) := by
  obtain ⟨X, hx, hby, hml, hown, hZ, eT⟩ := B
  subst eT
  obtain ⟨fs, hr, hrun, hended, hW, hsame⟩ := X.leave (v := some z) (fun hn => by rw [hret] at hn; cases hn) hlk
  exact ⟨_, _, X.areturnOut hx hz hret ht (hb hby hd) hr, hrun, hended, _, _, rfl, hq, ⟨_, rfl⟩, hW, hsame.mono hc hs⟩
theorem o_retV {Q : Option Value → Heap → List Loc → Prop} {kc ks : Nat} (B : Bx own bs ml Z p l e R s m args below meth c T h locs cells slots) (pc : Nat)  (hd : decode bs pc = .ok (.return_, 1)) (hret : meth.sig.returnType = none) (hlk : meth.locks = false)  (hc : cells ≤ kc) (hs : slots ≤ ks) (hq : Q (none) h locs) :
    OG p.tables e below (fun o s₂ => ∃ v L, o = .returned v ∧ Q v s₂.heap L ∧ FrameEnd s o s₂ L kc ks) (T.setTop (mkF m pc Ls [])) := by
  obtain ⟨X, hx, hby, hml, hown, hZ, eT⟩ := B
  subst eT
  obtain ⟨fs, hr, hrun, hended, hW, hsame⟩ := X.leave (v := none) (fun _ => rfl) hlk
  exact ⟨_, _, X.returnOut hx hret (hb hby hd) hr, hrun, hended, _, _, rfl, hq, ⟨_, rfl⟩, hW, hsame.mono hc hs⟩
/-- a body's contract, out of its walk -/
theorem enter {y : MethodName} {ret : Option FieldType} {rm : Room} {ws : List Jvm.Cond} {as' : Array Value} {h0 : Heap} {Q : Option Value → Heap → List Loc → Prop} {kc ks : Nat} (hpl : plainFor y = true) (Ls : Array Slot)
    (hL : Jvm.Sym.laidSlots as'.toList ++ List.replicate (ml - (Jvm.Sym.laidSlots as'.toList).length) .unset = Ls.toList)
    (body : ∀ (p : Program) (e : Env) (s : State) (m : MethodId) (below : List Frame) (meth : Method) (c : Code) (T : State), Bx y.cls bs ml Z p l e rm s m as' below meth c T h0 [] 0 0 → meth.sig.returnType = ret → meth.locks = false → meth.name = y.name →
      OG p.tables e below (fun o s₂ => ∃ v L, o = .returned v ∧ Q v s₂.heap L ∧ FrameEnd s o s₂ L kc ks) (T.setTop (mkF m 0 Ls []))) :
    MetFree l y (head1 (Jvm.Cond.code y bs ml ret :: ws) rm) (fun a U => a = as' ∧ Z.Warmed39 U.vm ∧ U.heap = h0) (fun _ _ _ _ _ => True) (fun _ U o U' => ∃ v L, o = .returned v ∧ Q v U'.heap L ∧ FrameEnd U o U' L kc ks) := by
  refine MetFree.of_bodySF hpl hisR ?_
  intro p e s m args below meth c s₁ Bd hml0 hP hK
  obtain ⟨rfl, hZ, hh⟩ := hP
  have e0 : s₁.heap = h0 := by rw [← hh, Bd.state]; rfl
  have r := body p e s m below meth c s₁ ⟨Stand.of_body Bd, Bd.exec, Bd.bytes, hml0, findClass_of_methodNamed Bd.named, hZ, e0⟩ Bd.returns (BodyLoose.notSynchronized Bd) (name_of_methodNamed Bd.named Bd.method).1
  exact OG.of r fun t k => (XT.entry hL).trans k
/-- what a callee owes -/
abbrev Met (l : Launch) (Z : State) (y : MethodName) (bytes : ByteArray) (maxL : Nat) (ret : Option FieldType) (rm : Room) (as' : Array Value) (h : Heap) (Q : Option Value → Heap → List Loc → Prop) : Prop :=
  MetFree l y (head1 [Jvm.Cond.code y bytes maxL ret] rm) (fun a U => a = as' ∧ Z.Warmed39 U.vm ∧ U.heap = h) (fun _ _ _ _ _ => True) (fun _ U o U' => ∃ v L, o = .returned v ∧ Q v U'.heap L ∧ FrameEnd U o U' L rm.cells rm.slots)
theorem o_callS {index : Nat} {y : MethodName} {bytes : ByteArray} {maxL : Nat} {ret : Option FieldType} {rm : Room} {as' : Array Value} {Q : Option Value → Heap → List Loc → Prop} {ps : List FieldType} {rt : Option FieldType}
    (B : Bx own bs ml Z p l e R s m args below meth c T h locs cells slots) (pc pc' : Nat) (hd : decode bs pc = .ok (.invokestatic index, 3)) (hp : pc + 3 = pc')
    (w1 : (Cond.methodLink own index y).before a0 Z = true) (w2 : (Cond.static y).before a0 Z = true) (w3 : (Cond.initialized y.cls).before a0 Z = true) (w4 : (Cond.code y bytes maxL ret).before a0 Z = true) (hy : y.cls ≠ "java/lang/invoke/MethodHandle" ∧ y.cls ≠ "java/lang/invoke/VarHandle")
    (hM : Met l Z y bytes maxL ret rm as' h Q) (W : Nat) (argsL rest : List Value) (hpd : parseMethodDescriptor y.desc = some ⟨ps, rt⟩) (hlen : argsL.length = ps.length) (has : argsL.toArray = as') {st : List Value} (hst : st = argsL.reverse ++ rest) (hsz : Ls.size = ml)
    (hW : (rest.map fun v => v.category).sum ≤ W) (hf : rm.frames + 1 ≤ R.frames) (hl : W + (maxL + 11) + rm.locals ≤ R.locals) (hcl : cells + rm.cells ≤ R.cells) (hsl : slots + rm.slots ≤ R.slots) :
    ∃ v T' L, Bx own bs ml Z p l e R s m args below meth c T' T'.heap (locs ++ L) (cells + rm.cells) (slots + rm.slots) ∧ Q v T'.heap L ∧
      ∀ {P : Outcome → State → Prop}, OG p.tables e below P (T'.setTop (mkF m pc' Ls (v.toList ++ rest))) → OG p.tables e below P (T.setTop (mkF m pc Ls st)) := by
  subst hp hst
  obtain ⟨X, hx, hby, hml, hown, hZ, eT⟩ := B
  obtain ⟨v, vm1, ⟨T', L', k', n'⟩, -, X', ⟨Lc, hQ, l', y', z'⟩, st⟩ := Jvm.LawKit.callS X hx (y := y) hown (mvT hZ w1) (mvT hZ w2) (mvT hZ w3) (mvT hZ w4) hy (backOf (W := W) hM hZ w4 w3 hf hl) (g := mkF m pc Ls (argsL.reverse ++ rest)) rfl (by rw [hml]; exact hsz) (argsL := argsL) (rest := rest) (lenOf hpd hlen) rfl (by simpa using hW) (hb hby hd) (fun _ _ => ⟨has, eT, hcl, hsl⟩)
  dsimp only [Pt.U, Pt.locs, Pt.cells, Pt.slots] at X' l' y' z' st hQ
  subst l' y' z'
  exact ⟨v, T', Lc, ⟨X', hx, hby, hml, hown, hZ, rfl⟩, hQ, fun k => k.of st⟩
/-- a callee that writes and makes nothing -/
def Pu (r : Option Value) (h : Heap) (v : Option Value) (h' : Heap) (L : List Loc) : Prop := v = r ∧ L = [] ∧ h' = h
theorem o_callP {index : Nat} {y : MethodName} {bytes : ByteArray} {maxL : Nat} {ret : Option FieldType} {fr lo : Nat} {as' : Array Value} {r : Value} {ps : List FieldType} {rt : Option FieldType}
    (B : Bx own bs ml Z p l e R s m args below meth c T h locs cells slots) (pc pc' : Nat) (hd : decode bs pc = .ok (.invokestatic index, 3)) (hp : pc + 3 = pc')
    (w1 : (Cond.methodLink own index y).before a0 Z = true) (w2 : (Cond.static y).before a0 Z = true) (w3 : (Cond.initialized y.cls).before a0 Z = true) (w4 : (Cond.code y bytes maxL ret).before a0 Z = true) (hy : y.cls ≠ "java/lang/invoke/MethodHandle" ∧ y.cls ≠ "java/lang/invoke/VarHandle")
    (hM : Met l Z y bytes maxL ret ({ frames := fr, cells := 0, slots := 0, locals := lo } : Room) as' h (Pu (some r) h)) (W : Nat) (argsL rest : List Value) (hpd : parseMethodDescriptor y.desc = some ⟨ps, rt⟩) (hlen : argsL.length = ps.length) (has : argsL.toArray = as') {st : List Value} (hst : st = argsL.reverse ++ rest) (hsz : Ls.size = ml)
    (hW : (rest.map fun v => v.category).sum ≤ W) (hf : fr + 1 ≤ R.frames) (hl : W + (maxL + 11) + lo ≤ R.locals) (hcl : cells ≤ R.cells) (hsl : slots ≤ R.slots) :
    ∃ T', Bx own bs ml Z p l e R s m args below meth c T' h locs cells slots ∧
      ∀ {P : Outcome → State → Prop}, OG p.tables e below P (T'.setTop (mkF m pc' Ls (r :: rest))) → OG p.tables e below P (T.setTop (mkF m pc Ls st)) := by
  obtain ⟨v, T', L, B', ⟨rfl, rfl, hh⟩, st⟩ := o_callS B pc pc' hd hp w1 w2 w3 w4 hy hM W argsL rest hpd hlen has hst hsz hW hf hl hcl hsl
  rw [hh, List.append_nil] at B'
  exact ⟨T', B', st⟩
end Walk
theorem b_ne_t {c : Prop} [Decidable c] (h : c) : ifCond.holds .ne (if c then (1 : Int32) else 0) = true := by rw [if_pos h]; rfl
theorem b_ne_f {c : Prop} [Decidable c] (h : ¬ c) : ifCond.holds .ne (if c then (1 : Int32) else 0) = false := by rw [if_neg h]; rfl
theorem b_eq_t {c : Prop} [Decidable c] (h : ¬ c) : ifCond.holds .eq (if c then (1 : Int32) else 0) = true := by rw [if_neg h]; rfl
theorem b_eq_f {c : Prop} [Decidable c] (h : c) : ifCond.holds .eq (if c then (1 : Int32) else 0) = false := by rw [if_pos h]; rfl
/-! 2. arrays by a function of the place -/
def AI (Z : State) (h : Heap) (a : Addr) (ty : FieldType) (n : Nat) (g : Nat → Int32) : Prop := ∃ c : Cell, Arr Z h a c ty ∧ c.slots.size = n ∧ n < 2147483648 ∧ ∀ j, j < n → c.slots[j]? = some (.int (g j))
def AJ (Z : State) (h : Heap) (a : Addr) (n : Nat) (g : Nat → Int64) : Prop := ∃ c : Cell, Arr Z h a c .long ∧ c.slots.size = n ∧ n < 2147483648 ∧ ∀ j, j < n → c.slots[j]? = some (.long (g j))
section Arrays
variable {Z : State} {h h' : Heap} {a b : Addr} {ty : FieldType} {n i : Nat} {v : Value} {ws : List Addr}
theorem AI.ext {g : Nat → Int32} (A : AI Z h a ty n g) (E : Ext h h') : AI Z h' a ty n g := by obtain ⟨c, A, r⟩ := A; exact ⟨c, A.ext E, r⟩
theorem AI.other {g : Nat → Int32} (A : AI Z h a ty n g) (W : Wr h h' b i v) (q : a ≠ b) : AI Z h' a ty n g := by obtain ⟨c, A, r⟩ := A; exact ⟨c, A.other W q, r⟩
theorem AI.keep {g : Nat → Int32} (A : AI Z h a ty n g) (K : Keep h h' ws) (q : a ∉ ws) : AI Z h' a ty n g := by obtain ⟨c, A, r⟩ := A; exact ⟨c, ⟨K.2.1 a c A.1 q, A.2⟩, r⟩
theorem AI.lt {g : Nat → Int32} (A : AI Z h a ty n g) : a < h.size := by obtain ⟨c, A, r⟩ := A; exact A.lt
theorem AI.len {g : Nat → Int32} (A : AI Z h a ty n g) : n < 2147483648 := by obtain ⟨c, A, r, q, _⟩ := A; exact q
theorem AI.alt {g g' : Nat → Int32} (A : AI Z h a ty n g) (q : ∀ j, j < n → g' j = g j) : AI Z h a ty n g' := by obtain ⟨c, A, r, s, H⟩ := A; exact ⟨c, A, r, s, fun j hj => by rw [q j hj]; exact H j hj⟩
theorem AI.set {g : Nat → Int32} {x : Int32} (A : AI Z h a ty n g) (W : Wr h h' a i (.int x)) : AI Z h' a ty n (fun j => if j = i then x else g j) := by
  obtain ⟨c, A, S, hn, H⟩ := A
  refine ⟨c.setSlot i (.int x), Arr.same W A, by simp [Cell.setSlot, S], hn, fun j hj => ?_⟩
  show (c.slots.setIfInBounds i (.int x))[j]? = some (.int (if j = i then x else g j))
  by_cases e : j = i
  · subst e; rw [if_pos rfl]; simp [S, hj]
  · rw [if_neg e, Array.getElem?_setIfInBounds_ne (Ne.symm e)]; exact H j hj
theorem AJ.ext {g : Nat → Int64} (A : AJ Z h a n g) (E : Ext h h') : AJ Z h' a n g := by obtain ⟨c, A, r⟩ := A; exact ⟨c, A.ext E, r⟩
theorem AJ.other {g : Nat → Int64} (A : AJ Z h a n g) (W : Wr h h' b i v) (q : a ≠ b) : AJ Z h' a n g := by obtain ⟨c, A, r⟩ := A; exact ⟨c, A.other W q, r⟩
theorem AJ.keep {g : Nat → Int64} (A : AJ Z h a n g) (K : Keep h h' ws) (q : a ∉ ws) : AJ Z h' a n g := by obtain ⟨c, A, r⟩ := A; exact ⟨c, ⟨K.2.1 a c A.1 q, A.2⟩, r⟩
theorem AJ.lt {g : Nat → Int64} (A : AJ Z h a n g) : a < h.size := by obtain ⟨c, A, r⟩ := A; exact A.lt
theorem AJ.len {g : Nat → Int64} (A : AJ Z h a n g) : n < 2147483648 := by obtain ⟨c, A, r, q, _⟩ := A; exact q
theorem AJ.alt {g g' : Nat → Int64} (A : AJ Z h a n g) (q : ∀ j, j < n → g' j = g j) : AJ Z h a n g' := by obtain ⟨c, A, r, s, H⟩ := A; exact ⟨c, A, r, s, fun j hj => by rw [q j hj]; exact H j hj⟩
theorem AJ.set {g : Nat → Int64} {x : Int64} (A : AJ Z h a n g) (W : Wr h h' a i (.long x)) : AJ Z h' a n (fun j => if j = i then x else g j) := by
  obtain ⟨c, A, S, hn, H⟩ := A
  refine ⟨c.setSlot i (.long x), Arr.same W A, by simp [Cell.setSlot, S], hn, fun j hj => ?_⟩
  show (c.slots.setIfInBounds i (.long x))[j]? = some (.long (if j = i then x else g j))
  by_cases e : j = i
  · subst e; rw [if_pos rfl]; simp [S, hj]
  · rw [if_neg e, Array.getElem?_setIfInBounds_ne (Ne.symm e)]; exact H j hj
theorem in_of {c : Cell} {j : Int32} (S : c.slots.size = n) (h0 : ¬ j < 0) (hj : j.toNatClampNeg = i) (hi : i < n) : ¬ (j < 0 ∨ c.slots.size ≤ j.toNatClampNeg) := by rw [S, hj]; rintro (q | q); exact h0 q; omega
end Arrays
theorem ix_of {j : Int32} {k : Nat} (h : j.toInt = k) : ¬ j < 0 ∧ j.toNatClampNeg = k := by
  rw [Int32.lt_iff_toInt_lt, Int32.toInt_zero]
  simp only [Int32.toNatClampNeg, h]
  omega
theorem ix_add {j : Int32} {k : Nat} (c : Int32) (n : Nat) (h : j.toInt = k) (hc : c.toInt = n) (hk : k + n < 2147483648) : (j + c).toInt = (k + n : Nat) := by
  have a := c_iadd j c
  have r := rng32 (j + c)
  omega
theorem nar_bb (x : Int32) : nar .byte x.toInt8.toInt32 = x.toInt8.toInt32 := by simp [nar]
theorem nar_cc (x : Int32) : nar .char x.toUInt32.toUInt16.toUInt32.toInt32 = x.toUInt32.toUInt16.toUInt32.toInt32 := by simp only [nar, UInt32.toUInt32_toInt32, UInt16.toUInt16_toUInt32]
def Lw (n0 : Nat) (r : Option Value) (v : Option Value) (h : Heap) (L : List Loc) : Prop := v = r ∧ Fr n0 L
section Walk2
variable {own : String} {bs : ByteArray} {ml : Nat} {Z : State} {p : Program} {l : Launch} {e : Env} {R : Room} {s : State} {m : MethodId} {args : Array Value} {below : List Frame} {meth : Method} {c : Code} {T : State} {h : Heap} {locs : List Loc} {cells slots n0 : Nat} {P : Outcome → State → Prop} {Ls : Array Slot} {rest : List Value} {a0 : Array Value} {a : Addr} {n : Nat}
theorem o_iaload (B : Bx own bs ml Z p l e R s m args below meth c T h locs cells slots) (pc pc' : Nat) {g : Nat → Int32} (A : AI Z h a .int n g) {j : Int32} (i : Nat) (v : Int32) (hd : decode bs pc = .ok (.iaload, 1)) (hp : pc + 1 = pc') (h0 : ¬ j < 0) (hj : j.toNatClampNeg = i) (hi : i < n) (hv : g i = v)
    (hr : OG p.tables e below P (T.setTop (mkF m pc' Ls (.int v :: rest)))) : OG p.tables e below P (T.setTop (mkF m pc Ls (.int j :: .ref a :: rest))) := by
  subst hp hv
  obtain ⟨X, hx, hby, hml, hown, hZ, eT⟩ := B
  obtain ⟨cl, A, S, hn, H⟩ := A
  exact hr.of fun t k => X.iaload hx (by rw [eT]; exact A.1) (State.isArrayOf_alike hZ.alike A.2.1) A.2.2 (in_of S h0 hj hi) (by rw [hj]; exact H i hi) (g := mkF m pc Ls (.int j :: .ref a :: rest)) rfl rfl (hb hby hd) t k
theorem o_caload (B : Bx own bs ml Z p l e R s m args below meth c T h locs cells slots) (pc pc' : Nat) {g : Nat → Int32} (A : AI Z h a .char n g) {j : Int32} (i : Nat) (v : Int32) (hd : decode bs pc = .ok (.caload, 1)) (hp : pc + 1 = pc') (h0 : ¬ j < 0) (hj : j.toNatClampNeg = i) (hi : i < n) (hv : g i = v)
    (hr : OG p.tables e below P (T.setTop (mkF m pc' Ls (.int v :: rest)))) : OG p.tables e below P (T.setTop (mkF m pc Ls (.int j :: .ref a :: rest))) := by
  subst hp hv
  obtain ⟨X, hx, hby, hml, hown, hZ, eT⟩ := B
  obtain ⟨cl, A, S, hn, H⟩ := A
  exact hr.of fun t k => X.caload hx (by rw [eT]; exact A.1) (State.isArrayOf_alike hZ.alike A.2.1) A.2.2 (in_of S h0 hj hi) (by rw [hj]; exact H i hi) (g := mkF m pc Ls (.int j :: .ref a :: rest)) rfl rfl (hb hby hd) t k
theorem o_baload (B : Bx own bs ml Z p l e R s m args below meth c T h locs cells slots) (pc pc' : Nat) {g : Nat → Int32} (A : AI Z h a .byte n g) {j : Int32} (i : Nat) (v : Int32) (hd : decode bs pc = .ok (.baload, 1)) (hp : pc + 1 = pc') (h0 : ¬ j < 0) (hj : j.toNatClampNeg = i) (hi : i < n) (hv : g i = v)
    (hr : OG p.tables e below P (T.setTop (mkF m pc' Ls (.int v :: rest)))) : OG p.tables e below P (T.setTop (mkF m pc Ls (.int j :: .ref a :: rest))) := by
  subst hp hv
  obtain ⟨X, hx, hby, hml, hown, hZ, eT⟩ := B
  obtain ⟨cl, A, S, hn, H⟩ := A
  exact hr.of fun t k => X.baloadBytes hx (by rw [eT]; exact A.1) (State.isArrayOf_alike hZ.alike A.2.1) A.2.2 (in_of S h0 hj hi) (by rw [hj]; exact H i hi) (g := mkF m pc Ls (.int j :: .ref a :: rest)) rfl rfl (hb hby hd) t k
theorem o_zaload (B : Bx own bs ml Z p l e R s m args below meth c T h locs cells slots) (pc pc' : Nat) {g : Nat → Int32} (A : AI Z h a .boolean n g) {j : Int32} (i : Nat) (v : Int32) (hd : decode bs pc = .ok (.baload, 1)) (hp : pc + 1 = pc') (h0 : ¬ j < 0) (hj : j.toNatClampNeg = i) (hi : i < n) (hv : g i = v)
    (hr : OG p.tables e below P (T.setTop (mkF m pc' Ls (.int v :: rest)))) : OG p.tables e below P (T.setTop (mkF m pc Ls (.int j :: .ref a :: rest))) := by
  subst hp hv
  obtain ⟨X, hx, hby, hml, hown, hZ, eT⟩ := B
  obtain ⟨cl, A, S, hn, H⟩ := A
  exact hr.of fun t k => X.baloadBooleans hx (by rw [eT]; exact A.1) (State.isArrayOf_alike hZ.alike A.2.1) A.2.2 (in_of S h0 hj hi) (by rw [hj]; exact H i hi) (g := mkF m pc Ls (.int j :: .ref a :: rest)) rfl rfl (hb hby hd) t k
theorem o_laload (B : Bx own bs ml Z p l e R s m args below meth c T h locs cells slots) (pc pc' : Nat) {g : Nat → Int64} (A : AJ Z h a n g) {j : Int32} (i : Nat) (v : Int64) (hd : decode bs pc = .ok (.laload, 1)) (hp : pc + 1 = pc') (h0 : ¬ j < 0) (hj : j.toNatClampNeg = i) (hi : i < n) (hv : g i = v)
    (hr : OG p.tables e below P (T.setTop (mkF m pc' Ls (.long v :: rest)))) : OG p.tables e below P (T.setTop (mkF m pc Ls (.int j :: .ref a :: rest))) := by
  subst hp hv
  obtain ⟨X, hx, hby, hml, hown, hZ, eT⟩ := B
  obtain ⟨cl, A, S, hn, H⟩ := A
  exact hr.of fun t k => X.laload hx (by rw [eT]; exact A.1) (State.isArrayOf_alike hZ.alike A.2.1) A.2.2 (in_of S h0 hj hi) (by rw [hj]; exact H i hi) (g := mkF m pc Ls (.int j :: .ref a :: rest)) rfl rfl (hb hby hd) t k
theorem o_alenI (B : Bx own bs ml Z p l e R s m args below meth c T h locs cells slots) (pc pc' : Nat) {ty : FieldType} {g : Nat → Int32} (A : AI Z h a ty n g) (v : Int32) (hd : decode bs pc = .ok (.arraylength, 1)) (hp : pc + 1 = pc') (hv : n.toInt32 = v)
    (hr : OG p.tables e below P (T.setTop (mkF m pc' Ls (.int v :: rest)))) : OG p.tables e below P (T.setTop (mkF m pc Ls (.ref a :: rest))) := by
  subst hp hv
  obtain ⟨X, hx, hby, hml, hown, hZ, eT⟩ := B
  obtain ⟨cl, A, S, hn, H⟩ := A
  exact hr.of fun t k => X.arraylength hx (by rw [eT]; exact A.1) (State.isArrayOf_alike hZ.alike A.2.1) (g := mkF m pc Ls (.ref a :: rest)) rfl rfl (hb hby hd) t (by rw [S]; exact k)
theorem o_alenJ (B : Bx own bs ml Z p l e R s m args below meth c T h locs cells slots) (pc pc' : Nat) {g : Nat → Int64} (A : AJ Z h a n g) (v : Int32) (hd : decode bs pc = .ok (.arraylength, 1)) (hp : pc + 1 = pc') (hv : n.toInt32 = v)
    (hr : OG p.tables e below P (T.setTop (mkF m pc' Ls (.int v :: rest)))) : OG p.tables e below P (T.setTop (mkF m pc Ls (.ref a :: rest))) := by
  subst hp hv
  obtain ⟨X, hx, hby, hml, hown, hZ, eT⟩ := B
  obtain ⟨cl, A, S, hn, H⟩ := A
  exact hr.of fun t k => X.arraylength hx (by rw [eT]; exact A.1) (State.isArrayOf_alike hZ.alike A.2.1) (g := mkF m pc Ls (.ref a :: rest)) rfl rfl (hb hby hd) t (by rw [S]; exact k)
theorem o_iastore (B : Bx own bs ml Z p l e R s m args below meth c T h locs cells slots) (N : Fr n0 locs) (ge : n0 ≤ a) (pc pc' : Nat) {g : Nat → Int32} (A : AI Z h a .int n g) {j : Int32} {x : Int32} (i : Nat) (y : Int32) (hd : decode bs pc = .ok (.iastore, 1)) (hp : pc + 1 = pc') (h0 : ¬ j < 0) (hj : j.toNatClampNeg = i) (hi : i < n) (hy : x = y) :
    ∃ T' h' L', Bx own bs ml Z p l e R s m args below meth c T' h' L' cells slots ∧ Fr n0 L' ∧ Wr h h' a i (.int y) ∧ AI Z h' a .int n (fun j => if j = i then y else g j) ∧ ∀ {P : Outcome → State → Prop}, OG p.tables e below P (T'.setTop (mkF m pc' Ls rest)) → OG p.tables e below P (T.setTop (mkF m pc Ls (.int x :: .int j :: .ref a :: rest))) := by
  subst hp hj hy
  obtain ⟨X, hx, hby, hml, hown, hZ, eT⟩ := B
  have A' := A
  obtain ⟨cl, A, S, hn, H⟩ := A
  obtain ⟨T', h', X', e', W, st⟩ := stI X hx hZ eT A (in_of S h0 rfl hi) (g := mkF m pc Ls (.int x :: .int j :: .ref a :: rest)) rfl rfl (hb hby hd)
  exact ⟨T', h', _, ⟨X', hx, hby, hml, hown, hZ, e'⟩, Fr.snoc X' N ge, W, A'.set W, fun k => k.of st⟩
theorem o_castore (B : Bx own bs ml Z p l e R s m args below meth c T h locs cells slots) (N : Fr n0 locs) (ge : n0 ≤ a) (pc pc' : Nat) {g : Nat → Int32} (A : AI Z h a .char n g) {j : Int32} {x : Int32} (i : Nat) (y : Int32) (hd : decode bs pc = .ok (.castore, 1)) (hp : pc + 1 = pc') (h0 : ¬ j < 0) (hj : j.toNatClampNeg = i) (hi : i < n) (hy : nar .char x = y) :
    ∃ T' h' L', Bx own bs ml Z p l e R s m args below meth c T' h' L' cells slots ∧ Fr n0 L' ∧ Wr h h' a i (.int y) ∧ AI Z h' a .char n (fun j => if j = i then y else g j) ∧ ∀ {P : Outcome → State → Prop}, OG p.tables e below P (T'.setTop (mkF m pc' Ls rest)) → OG p.tables e below P (T.setTop (mkF m pc Ls (.int x :: .int j :: .ref a :: rest))) := by
  subst hp hj hy
  obtain ⟨X, hx, hby, hml, hown, hZ, eT⟩ := B
  have A' := A
  obtain ⟨cl, A, S, hn, H⟩ := A
  obtain ⟨T', h', X', e', W, st⟩ := stC X hx hZ eT A (in_of S h0 rfl hi) (g := mkF m pc Ls (.int x :: .int j :: .ref a :: rest)) rfl rfl (hb hby hd)
  exact ⟨T', h', _, ⟨X', hx, hby, hml, hown, hZ, e'⟩, Fr.snoc X' N ge, W, A'.set W, fun k => k.of st⟩
theorem o_bastore (B : Bx own bs ml Z p l e R s m args below meth c T h locs cells slots) (N : Fr n0 locs) (ge : n0 ≤ a) (pc pc' : Nat) {g : Nat → Int32} (A : AI Z h a .byte n g) {j : Int32} {x : Int32} (i : Nat) (y : Int32) (hd : decode bs pc = .ok (.bastore, 1)) (hp : pc + 1 = pc') (h0 : ¬ j < 0) (hj : j.toNatClampNeg = i) (hi : i < n) (hy : nar .byte x = y) :
    ∃ T' h' L', Bx own bs ml Z p l e R s m args below meth c T' h' L' cells slots ∧ Fr n0 L' ∧ Wr h h' a i (.int y) ∧ AI Z h' a .byte n (fun j => if j = i then y else g j) ∧ ∀ {P : Outcome → State → Prop}, OG p.tables e below P (T'.setTop (mkF m pc' Ls rest)) → OG p.tables e below P (T.setTop (mkF m pc Ls (.int x :: .int j :: .ref a :: rest))) := by
  subst hp hj hy
  obtain ⟨X, hx, hby, hml, hown, hZ, eT⟩ := B
  have A' := A
  obtain ⟨cl, A, S, hn, H⟩ := A
  obtain ⟨T', h', X', e', W, st⟩ := stB X hx hZ eT A (in_of S h0 rfl hi) (g := mkF m pc Ls (.int x :: .int j :: .ref a :: rest)) rfl rfl (hb hby hd)
  exact ⟨T', h', _, ⟨X', hx, hby, hml, hown, hZ, e'⟩, Fr.snoc X' N ge, W, A'.set W, fun k => k.of st⟩
theorem o_zastore (B : Bx own bs ml Z p l e R s m args below meth c T h locs cells slots) (N : Fr n0 locs) (ge : n0 ≤ a) (pc pc' : Nat) {g : Nat → Int32} (A : AI Z h a .boolean n g) {j : Int32} {x : Int32} (i : Nat) (y : Int32) (hd : decode bs pc = .ok (.bastore, 1)) (hp : pc + 1 = pc') (h0 : ¬ j < 0) (hj : j.toNatClampNeg = i) (hi : i < n) (hy : nar .boolean x = y) :
    ∃ T' h' L', Bx own bs ml Z p l e R s m args below meth c T' h' L' cells slots ∧ Fr n0 L' ∧ Wr h h' a i (.int y) ∧ AI Z h' a .boolean n (fun j => if j = i then y else g j) ∧ ∀ {P : Outcome → State → Prop}, OG p.tables e below P (T'.setTop (mkF m pc' Ls rest)) → OG p.tables e below P (T.setTop (mkF m pc Ls (.int x :: .int j :: .ref a :: rest))) := by
  subst hp hj hy
  obtain ⟨X, hx, hby, hml, hown, hZ, eT⟩ := B
  have A' := A
  obtain ⟨cl, A, S, hn, H⟩ := A
  obtain ⟨T', h', X', e', W, st⟩ := stZ X hx hZ eT A (in_of S h0 rfl hi) (g := mkF m pc Ls (.int x :: .int j :: .ref a :: rest)) rfl rfl (hb hby hd)
  exact ⟨T', h', _, ⟨X', hx, hby, hml, hown, hZ, e'⟩, Fr.snoc X' N ge, W, A'.set W, fun k => k.of st⟩
theorem o_lastore (B : Bx own bs ml Z p l e R s m args below meth c T h locs cells slots) (N : Fr n0 locs) (ge : n0 ≤ a) (pc pc' : Nat) {g : Nat → Int64} (A : AJ Z h a n g) {j : Int32} {x : Int64} (i : Nat) (y : Int64) (hd : decode bs pc = .ok (.lastore, 1)) (hp : pc + 1 = pc') (h0 : ¬ j < 0) (hj : j.toNatClampNeg = i) (hi : i < n) (hy : x = y) :
    ∃ T' h' L', Bx own bs ml Z p l e R s m args below meth c T' h' L' cells slots ∧ Fr n0 L' ∧ Wr h h' a i (.long y) ∧ AJ Z h' a n (fun j => if j = i then y else g j) ∧ ∀ {P : Outcome → State → Prop}, OG p.tables e below P (T'.setTop (mkF m pc' Ls rest)) → OG p.tables e below P (T.setTop (mkF m pc Ls (.long x :: .int j :: .ref a :: rest))) := by
  subst hp hj hy
  obtain ⟨X, hx, hby, hml, hown, hZ, eT⟩ := B
  have A' := A
  obtain ⟨cl, A, S, hn, H⟩ := A
  obtain ⟨T', h', X', e', W, st⟩ := stJ X hx hZ eT A (in_of S h0 rfl hi) (g := mkF m pc Ls (.long x :: .int j :: .ref a :: rest)) rfl rfl (hb hby hd)
  exact ⟨T', h', _, ⟨X', hx, hby, hml, hown, hZ, e'⟩, Fr.snoc X' N ge, W, A'.set W, fun k => k.of st⟩
theorem o_newI (B : Bx own bs ml Z p l e R s m args below meth c T h locs cells slots) (pc pc' : Nat) {aty : ArrayType} {ty : FieldType} {z : Int32} (k cap : Nat) (w : (Cond.arrayClass (newarray.typeOf aty)).before a0 Z = true) (hd : decode bs pc = .ok (.newarray aty, 2)) (hp : pc + 2 = pc') (hty : newarray.typeOf aty = ty) (hdv : defaultValue ty = .int 0) (hz : ¬ z < 0) (hk : z.toNatClampNeg = k) (hcap : k ≤ cap) (hb8 : cap * 8 ≤ 536870912) (hc : cells + 1 ≤ R.cells) (hl : slots + cap ≤ R.slots) :
    ∃ a T' h', a = h.size ∧ Bx own bs ml Z p l e R s m args below meth c T' h' locs (cells + 1) (slots + cap) ∧ Ext h h' ∧ AI Z h' a ty k (fun _ => 0) ∧ ∀ {P : Outcome → State → Prop}, OG p.tables e below P (T'.setTop (mkF m pc' Ls (.ref a :: rest))) → OG p.tables e below P (T.setTop (mkF m pc Ls (.int z :: rest))) := by
  subst hp hk
  obtain ⟨X, hx, hby, hml, hown, hZ, eT⟩ := B
  obtain ⟨T', h', cA, X', e', E, A, st⟩ := newP X hx hZ w eT (g := mkF m pc Ls (.int z :: rest)) rfl (hb hby hd) rfl hz (cap := cap) hcap hb8 hc hl
  rw [hty] at A
  refine ⟨h.size, T', h', rfl, ⟨X', hx, hby, hml, hown, hZ, e'⟩, E, ⟨_, A, sz_new _ _ _, (back32 hz).2, fun j hj => ?_⟩, fun k => k.of st⟩
  simp [newA, hj, hdv]
theorem o_newJ (B : Bx own bs ml Z p l e R s m args below meth c T h locs cells slots) (pc pc' : Nat) {aty : ArrayType} {z : Int32} (k cap : Nat) (w : (Cond.arrayClass (newarray.typeOf aty)).before a0 Z = true) (hd : decode bs pc = .ok (.newarray aty, 2)) (hp : pc + 2 = pc') (hty : newarray.typeOf aty = .long) (hz : ¬ z < 0) (hk : z.toNatClampNeg = k) (hcap : k ≤ cap) (hb8 : cap * 8 ≤ 536870912) (hc : cells + 1 ≤ R.cells) (hl : slots + cap ≤ R.slots) :
    ∃ a T' h', a = h.size ∧ Bx own bs ml Z p l e R s m args below meth c T' h' locs (cells + 1) (slots + cap) ∧ Ext h h' ∧ AJ Z h' a k (fun _ => 0) ∧ ∀ {P : Outcome → State → Prop}, OG p.tables e below P (T'.setTop (mkF m pc' Ls (.ref a :: rest))) → OG p.tables e below P (T.setTop (mkF m pc Ls (.int z :: rest))) := by
  subst hp hk
  obtain ⟨X, hx, hby, hml, hown, hZ, eT⟩ := B
  obtain ⟨T', h', cA, X', e', E, A, st⟩ := newP X hx hZ w eT (g := mkF m pc Ls (.int z :: rest)) rfl (hb hby hd) rfl hz (cap := cap) hcap hb8 hc hl
  rw [hty] at A
  refine ⟨h.size, T', h', rfl, ⟨X', hx, hby, hml, hown, hZ, e'⟩, E, ⟨_, A, sz_new _ _ _, (back32 hz).2, fun j hj => ?_⟩, fun k => k.of st⟩
  simp [newA, hj, defaultValue]
theorem o_getfield (B : Bx own bs ml Z p l e R s m args below meth c T h locs cells slots) {R0 O f d host : String} {index : Nat} {v : Value} (pc pc' : Nat) (hd : decode bs pc = .ok (.getfield index, 3)) (hp : pc + 3 = pc') (w : (Cond.fieldLink own index R0 f d).before a0 Z = true ∨ (Cond.fieldLinkNest own index R0 f d host).before a0 Z = true) (via : Via Z R0 O f d) (F : Fld Z h a O f d v) :
    ∃ T', Bx own bs ml Z p l e R s m args below meth c T' h locs cells slots ∧ ∀ {P : Outcome → State → Prop}, OG p.tables e below P (T'.setTop (mkF m pc' Ls (v :: rest))) → OG p.tables e below P (T.setTop (mkF m pc Ls (.ref a :: rest))) := by
  subst hp
  obtain ⟨X, hx, hby, hml, hown, hZ, eT⟩ := B
  obtain ⟨T', X', e', st⟩ := getF X hx hZ hown w via eT F (g := mkF m pc Ls (.ref a :: rest)) rfl rfl (hb hby hd)
  exact ⟨T', ⟨X', hx, hby, hml, hown, hZ, e'⟩, fun k => k.of st⟩
theorem o_putfield (B : Bx own bs ml Z p l e R s m args below meth c T h locs cells slots) (N : Fr n0 locs) (ge : n0 ≤ a) {R0 O f d host C : String} {index kk : Nat} {v old : Value} {ty : FieldType} (pc pc' : Nat) (hd : decode bs pc = .ok (.putfield index, 3)) (hp : pc + 3 = pc') (w : (Cond.fieldLink own index R0 f d).before a0 Z = true ∨ (Cond.fieldLinkNest own index R0 f d host).before a0 Z = true) (via : Via Z R0 O f d) (F : Fld Z h a O f d old) (E : Exa Z h a C) (L : (Cond.lays C O f d).before a0 Z = true ∨ ((Cond.laysFinal C O f d).before a0 Z = true ∧ own = O ∧ meth.name = "<init>")) (wi : (Cond.instantiable C kk).before a0 Z = true) (hty : parseFieldDescriptor d = some ty) (hn : narrow ty v = v) (hf : fits ty v = true) :
    ∃ T' h' L', Bx own bs ml Z p l e R s m args below meth c T' h' L' cells slots ∧ Fr n0 L' ∧ Wr h h' a (Jvm.RoadKit.slotOf Z O f d) v ∧ ∀ {P : Outcome → State → Prop}, OG p.tables e below P (T'.setTop (mkF m pc' Ls rest)) → OG p.tables e below P (T.setTop (mkF m pc Ls (v :: .ref a :: rest))) := by
  subst hp
  obtain ⟨X, hx, hby, hml, hown, hZ, eT⟩ := B
  obtain ⟨T', h', X', e', W, st⟩ := putF X hx hZ hown w via eT F E L wi hty hn hf (g := mkF m pc Ls (v :: .ref a :: rest)) rfl rfl (hb hby hd)
  exact ⟨T', h', _, ⟨X', hx, hby, hml, hown, hZ, e'⟩, Fr.snoc X' N ge, W, fun k => k.of st⟩
theorem o_new (B : Bx own bs ml Z p l e R s m args below meth c T h locs cells slots) {C : String} {index : Nat} (pc pc' : Nat) (hd : decode bs pc = .ok (.new index, 3)) (hp : pc + 3 = pc') (w : (Cond.classLink own index C).before a0 Z = true) (wi : (Cond.instantiable C n).before a0 Z = true) (wz : (Cond.initialized C).before a0 Z = true) (hc : cells + 1 ≤ R.cells) (hl : slots + n ≤ R.slots) :
    ∃ a T' h', a = h.size ∧ Bx own bs ml Z p l e R s m args below meth c T' h' locs (cells + 1) (slots + n) ∧ Ext h h' ∧ Exa Z h' a C ∧ (∀ {O nm d : String} {ty : FieldType}, Laid Z a0 C O nm d → parseFieldDescriptor d = some ty → Fld Z h' a O nm d (defaultValue ty)) ∧ ∀ {P : Outcome → State → Prop}, OG p.tables e below P (T'.setTop (mkF m pc' Ls (.ref a :: rest))) → OG p.tables e below P (T.setTop (mkF m pc Ls rest)) := by
  subst hp
  obtain ⟨X, hx, hby, hml, hown, hZ, eT⟩ := B
  obtain ⟨T', h', X', e', E, A, D, -, st⟩ := newO X hx hZ hown w wi wz eT (g := mkF m pc Ls rest) rfl (hb hby hd) hc hl
  exact ⟨h.size, T', h', rfl, ⟨X', hx, hby, hml, hown, hZ, e'⟩, E, A, D, fun k => k.of st⟩
theorem o_initO (B : Bx own bs ml Z p l e R s m args below meth c T h locs cells slots) {index : Nat} (pc pc' : Nat) (hd : decode bs pc = .ok (.invokespecial index, 3)) (hp : pc + 3 = pc') (w1 : (Cond.methodLink own index Lib.objectInit).before a0 Z = true) (w2 : (Cond.instanceMethod Lib.objectInit).before a0 Z = true) (w3 : (Cond.code Lib.objectInit ⟨#[0xb1]⟩ 1 none).before a0 Z = true) (hsz : Ls.size = ml) (W : Nat) (hW : (rest.map fun v => v.category).sum ≤ W) (hf : 1 ≤ R.frames) (hl : W + 12 ≤ R.locals) :
    ∃ T', Bx own bs ml Z p l e R s m args below meth c T' h locs cells slots ∧ ∀ {P : Outcome → State → Prop}, OG p.tables e below P (T'.setTop (mkF m pc' Ls rest)) → OG p.tables e below P (T.setTop (mkF m pc Ls (.ref a :: rest))) := by
  subst hp
  obtain ⟨X, hx, hby, hml, hown, hZ, eT⟩ := B
  obtain ⟨T', X', e', st⟩ := initO X hx hZ hown w1 w2 w3 eT (g := mkF m pc Ls (.ref a :: rest)) rfl (by rw [hml]; exact hsz) rfl (hb hby hd) hf (W := W) (by simpa using hW) hl
  exact ⟨T', ⟨X', hx, hby, hml, hown, hZ, e'⟩, fun k => k.of st⟩
theorem o_callN {index : Nat} {y : MethodName} {bytes : ByteArray} {maxL : Nat} {rm : Room} {as' : Array Value} {Q : Option Value → Heap → List Loc → Prop} {ps : List FieldType} {rt : Option FieldType}
    (B : Bx own bs ml Z p l e R s m args below meth c T h locs cells slots) (pc pc' : Nat) (hd : decode bs pc = .ok (.invokespecial index, 3)) (hp : pc + 3 = pc') (hy1 : y.name = "<init>")
    (w1 : (Cond.methodLink own index y).before a0 Z = true) (w2 : (Cond.instanceMethod y).before a0 Z = true) (w3 : (Cond.initialized y.cls).before a0 Z = true) (w4 : (Cond.code y bytes maxL none).before a0 Z = true) (hy : y.cls ≠ "java/lang/invoke/MethodHandle" ∧ y.cls ≠ "java/lang/invoke/VarHandle")
    (hM : Met l Z y bytes maxL none rm as' h Q) (W : Nat) (argsL rest : List Value) (hpd : parseMethodDescriptor y.desc = some ⟨ps, rt⟩) (hlen : argsL.length = ps.length) (has : (.ref a :: argsL).toArray = as') {st : List Value} (hst : st = argsL.reverse ++ .ref a :: rest) (hsz : Ls.size = ml)
    (hW : (rest.map fun v => v.category).sum ≤ W) (hf : rm.frames + 1 ≤ R.frames) (hl : W + (maxL + 11) + rm.locals ≤ R.locals) (hcl : cells + rm.cells ≤ R.cells) (hsl : slots + rm.slots ≤ R.slots) :
    ∃ v T' L, Bx own bs ml Z p l e R s m args below meth c T' T'.heap (locs ++ L) (cells + rm.cells) (slots + rm.slots) ∧ Q v T'.heap L ∧
      ∀ {P : Outcome → State → Prop}, OG p.tables e below P (T'.setTop (mkF m pc' Ls (v.toList ++ rest))) → OG p.tables e below P (T.setTop (mkF m pc Ls st)) := by
  subst hp hst
  obtain ⟨X, hx, hby, hml, hown, hZ, eT⟩ := B
  obtain ⟨v, vm1, ⟨T', L', k', n'⟩, -, X', ⟨Lc, hQ, l', y', z'⟩, st⟩ := X.specialBack hx (y := y) hy1 hown (mvT hZ w1) (mvT hZ w2) (mvT hZ w4) hy (backOf (W := W) hM hZ w4 w3 hf hl) (g := mkF m pc Ls (argsL.reverse ++ .ref a :: rest)) rfl (by rw [hml]; exact hsz) (Steps.refl _) (a := a) (argsL := argsL) (rest := rest) (lenOf hpd hlen) rfl (by simpa using hW) (hb hby hd) (fun _ _ => ⟨has, eT, hcl, hsl⟩)
  dsimp only [Pt.U, Pt.locs, Pt.cells, Pt.slots] at X' l' y' z' st hQ
  subst l' y' z'
  exact ⟨v, T', Lc, ⟨X', hx, hby, hml, hown, hZ, rfl⟩, hQ, fun k => k.of fun t q => st.trans q⟩
theorem o_callV {index : Nat} {y : MethodName} {C : String} {bytes : ByteArray} {maxL : Nat} {ret : Option FieldType} {rm : Room} {as' : Array Value} {Q : Option Value → Heap → List Loc → Prop} {ps : List FieldType} {rt : Option FieldType}
    (B : Bx own bs ml Z p l e R s m args below meth c T h locs cells slots) (pc pc' : Nat) (hd : decode bs pc = .ok (.invokevirtual index, 3)) (hp : pc + 3 = pc')
    (w1 : (Cond.methodLink own index y).before a0 Z = true) (w2 : (Cond.declares y).before a0 Z = true) (w5 : (Cond.selects C y y).before a0 Z = true) (w6 : (Cond.instanceMethod y).before a0 Z = true) (w3 : (Cond.initialized y.cls).before a0 Z = true) (w4 : (Cond.code y bytes maxL ret).before a0 Z = true) (hy : y.cls ≠ "java/lang/invoke/MethodHandle" ∧ y.cls ≠ "java/lang/invoke/VarHandle") (E : Exa Z h a C)
    (hM : Met l Z y bytes maxL ret rm as' h Q) (W : Nat) (argsL rest : List Value) (hpd : parseMethodDescriptor y.desc = some ⟨ps, rt⟩) (hlen : argsL.length = ps.length) (has : (.ref a :: argsL).toArray = as') {st : List Value} (hst : st = argsL.reverse ++ .ref a :: rest) (hsz : Ls.size = ml)
    (hW : (rest.map fun v => v.category).sum ≤ W) (hf : rm.frames + 1 ≤ R.frames) (hl : W + (maxL + 11) + rm.locals ≤ R.locals) (hcl : cells + rm.cells ≤ R.cells) (hsl : slots + rm.slots ≤ R.slots) :
    ∃ v T' L, Bx own bs ml Z p l e R s m args below meth c T' T'.heap (locs ++ L) (cells + rm.cells) (slots + rm.slots) ∧ Q v T'.heap L ∧
      ∀ {P : Outcome → State → Prop}, OG p.tables e below P (T'.setTop (mkF m pc' Ls (v.toList ++ rest))) → OG p.tables e below P (T.setTop (mkF m pc Ls st)) := by
  subst hp hst
  obtain ⟨X, hx, hby, hml, hown, hZ, eT⟩ := B
  obtain ⟨cq, kq, qa, qb, qc⟩ := isOf hZ eT E
  obtain ⟨v, vm1, ⟨T', L', k', n'⟩, -, X', ⟨Lc, hQ, l', y', z'⟩, st⟩ := X.virtualBack hx (y := y) (z := y) hown (mvT hZ w1) (mvT hZ w2) (notFace_of_selects (args := #[]) (mvT hZ w5)) (mvT hZ w5) (mvT hZ w6) hy (backOf (W := W) hM hZ w4 w3 hf hl) qa qc (g := mkF m pc Ls (argsL.reverse ++ .ref a :: rest)) rfl (by rw [hml]; exact hsz) (Steps.refl _) (argsL := argsL) (rest := rest) (lenOf hpd hlen) rfl (by simpa using hW) (hb hby hd) (fun _ _ => ⟨has, eT, hcl, hsl⟩)
  dsimp only [Pt.U, Pt.locs, Pt.cells, Pt.slots] at X' l' y' z' st hQ
  subst l' y' z'
  exact ⟨v, T', Lc, ⟨X', hx, hby, hml, hown, hZ, rfl⟩, hQ, fun k => k.of fun t q => st.trans q⟩
theorem o_callVP {index : Nat} {y : MethodName} {C : String} {bytes : ByteArray} {maxL : Nat} {ret : Option FieldType} {fr lo : Nat} {as' : Array Value} {r : Value} {ps : List FieldType} {rt : Option FieldType}
    (B : Bx own bs ml Z p l e R s m args below meth c T h locs cells slots) (pc pc' : Nat) (hd : decode bs pc = .ok (.invokevirtual index, 3)) (hp : pc + 3 = pc')
    (w1 : (Cond.methodLink own index y).before a0 Z = true) (w2 : (Cond.declares y).before a0 Z = true) (w5 : (Cond.selects C y y).before a0 Z = true) (w6 : (Cond.instanceMethod y).before a0 Z = true) (w3 : (Cond.initialized y.cls).before a0 Z = true) (w4 : (Cond.code y bytes maxL ret).before a0 Z = true) (hy : y.cls ≠ "java/lang/invoke/MethodHandle" ∧ y.cls ≠ "java/lang/invoke/VarHandle") (E : Exa Z h a C)
    (hM : Met l Z y bytes maxL ret ({ frames := fr, cells := 0, slots := 0, locals := lo } : Room) as' h (Pu (some r) h)) (W : Nat) (argsL rest : List Value) (hpd : parseMethodDescriptor y.desc = some ⟨ps, rt⟩) (hlen : argsL.length = ps.length) (has : (.ref a :: argsL).toArray = as') {st : List Value} (hst : st = argsL.reverse ++ .ref a :: rest) (hsz : Ls.size = ml)
    (hW : (rest.map fun v => v.category).sum ≤ W) (hf : fr + 1 ≤ R.frames) (hl : W + (maxL + 11) + lo ≤ R.locals) (hcl : cells ≤ R.cells) (hsl : slots ≤ R.slots) :
    ∃ T', Bx own bs ml Z p l e R s m args below meth c T' h locs cells slots ∧
      ∀ {P : Outcome → State → Prop}, OG p.tables e below P (T'.setTop (mkF m pc' Ls (r :: rest))) → OG p.tables e below P (T.setTop (mkF m pc Ls st)) := by
  obtain ⟨v, T', L, B', ⟨rfl, rfl, hh⟩, st⟩ := o_callV B pc pc' hd hp w1 w2 w5 w6 w3 w4 hy E hM W argsL rest hpd hlen has hst hsz hW hf hl hcl hsl
  rw [hh, List.append_nil] at B'
  exact ⟨T', B', st⟩
theorem o_callNP {index : Nat} {y : MethodName} {bytes : ByteArray} {maxL : Nat} {fr lo : Nat} {as' : Array Value} {ps : List FieldType} {rt : Option FieldType}
    (B : Bx own bs ml Z p l e R s m args below meth c T h locs cells slots) (pc pc' : Nat) (hd : decode bs pc = .ok (.invokespecial index, 3)) (hp : pc + 3 = pc') (hy1 : y.name = "<init>")
    (w1 : (Cond.methodLink own index y).before a0 Z = true) (w2 : (Cond.instanceMethod y).before a0 Z = true) (w3 : (Cond.initialized y.cls).before a0 Z = true) (w4 : (Cond.code y bytes maxL none).before a0 Z = true) (hy : y.cls ≠ "java/lang/invoke/MethodHandle" ∧ y.cls ≠ "java/lang/invoke/VarHandle")
    (hM : Met l Z y bytes maxL none ({ frames := fr, cells := 0, slots := 0, locals := lo } : Room) as' h (Pu none h)) (W : Nat) (argsL rest : List Value) (hpd : parseMethodDescriptor y.desc = some ⟨ps, rt⟩) (hlen : argsL.length = ps.length) (has : (.ref a :: argsL).toArray = as') {st : List Value} (hst : st = argsL.reverse ++ .ref a :: rest) (hsz : Ls.size = ml)
    (hW : (rest.map fun v => v.category).sum ≤ W) (hf : fr + 1 ≤ R.frames) (hl : W + (maxL + 11) + lo ≤ R.locals) (hcl : cells ≤ R.cells) (hsl : slots ≤ R.slots) :
    ∃ T', Bx own bs ml Z p l e R s m args below meth c T' h locs cells slots ∧
      ∀ {P : Outcome → State → Prop}, OG p.tables e below P (T'.setTop (mkF m pc' Ls rest)) → OG p.tables e below P (T.setTop (mkF m pc Ls st)) := by
  obtain ⟨v, T', L, B', ⟨rfl, rfl, hh⟩, st⟩ := o_callN B pc pc' hd hp hy1 w1 w2 w3 w4 hy hM W argsL rest hpd hlen has hst hsz hW hf hl hcl hsl
  rw [hh, List.append_nil] at B'
  exact ⟨T', B', st⟩
end Walk2
theorem d1_0 : decode method_2_code 0 = .ok (.lload_n 0, 1) := by decide +kernel
theorem d1_1 : decode method_2_code 1 = .ok (.ldc2_w 7, 3) := by decide +kernel
theorem d1_4 : decode method_2_code 4 = .ok (.land, 1) := by decide +kernel
theorem d1_5 : decode method_2_code 5 = .ok (.l2i, 1) := by decide +kernel
theorem d1_6 : decode method_2_code 6 = .ok (.iconst 1, 1) := by decide +kernel
theorem d1_7 : decode method_2_code 7 = .ok (.iadd, 1) := by decide +kernel
theorem d1_8 : decode method_2_code 8 = .ok (.ireturn, 1) := by decide +kernel
theorem pl1 : plainFor (⟨"com/example/crosshatch/crosshatch/design/ParameterSetsNumberPinLaw", "count", "(J)I"⟩ : MethodName) = true := by first | exact plainFor_of_name (by first | (simp [plainName, overriddenIn]; done) | decide +kernel) | decide +kernel
def f1 (x0 : Int64) : Int32 := ((x0 &&& (32767 : Int64)).toInt32 + (1 : Int32))
set_option maxRecDepth 65536 in
set_option maxHeartbeats 40000000 in
theorem rm1 (l : Launch) (Z : State) (a0 : Array Value) (hw : ∀ d ∈ tables_1, d.before a0 Z = true) (x0 : Int64) (h0 : Heap) :
    Met l Z (⟨"com/example/crosshatch/crosshatch/design/ParameterSetsNumberPinLaw", "count", "(J)I"⟩ : MethodName) method_2_code 2 (some .int) ({ frames := 0, cells := 0, slots := 0, locals := 0 } : Room) #[(.long x0)] h0 (Pu (some (.int (f1 x0))) h0) := by
  refine enter pl1 #[.val (.long x0), .second] rfl ?_
  intro p e s m below meth c T B hret hlk hnm
  · refine o_lloadN B 0 1 (v := x0) d1_0 rfl rfl ?_
    refine o_ldc2 B 1 4 d1_1 rfl (hw _ (List.mem_of_getElem? (i := 5) rfl)) ?_
    refine o_land B 4 5 d1_4 rfl ?_
    refine o_l2i B 5 6 d1_5 rfl ?_
    refine o_iconst B 6 7 (1 : Int32) d1_6 rfl (by decide) ?_
    refine o_iadd B 7 8 d1_7 rfl ?_
    refine o_retI B 8 d1_8 hret hlk (by decide) (by decide) ⟨(congrArg (fun z => some (Value.int z)) (show f1 x0 = ((x0 &&& (32767 : Int64)).toInt32 + (1 : Int32)) from rfl)).symm, rfl, rfl⟩
theorem own_c (p : Int64) : 1 ≤ (f1 p).toInt ∧ (f1 p).toInt ≤ 32768 := by
  have m := c_maskL p 32767 15 (by decide) (by decide)
  have a := c_l2i (p &&& 32767)
  have r := rng32 (p &&& 32767).toInt32
  have b := c_iadd (p &&& 32767).toInt32 1
  have r2 := rng32 ((p &&& 32767).toInt32 + 1)
  rw [show (1 : Int32).toInt = 1 by decide] at b
  have e : (p &&& 32767).toInt32.toInt = (p &&& 32767).toInt := by omega
  unfold f1
  omega
theorem own_cnz (p : Int64) : f1 p ≠ 0 := by
  intro h
  have := own_c p
  rw [h] at this
  exact absurd this.1 (by decide)
def S4 (v : Int32) : Prop := 0 ≤ v.toInt ∧ v.toInt < 4
theorem own_ix {v : Int32} (h : S4 v) : v.toInt = (v.toInt.toNat : Nat) := by unfold S4 at h; omega
theorem own_lt {v : Int32} (h : S4 v) : v.toInt.toNat < 4 := by unfold S4 at h; omega
theorem d2_0 : decode method_3_code 0 = .ok (.lload_n 0, 1) := by decide +kernel
theorem d2_1 : decode method_3_code 1 = .ok (.bipush 15, 2) := by decide +kernel
theorem d2_3 : decode method_3_code 3 = .ok (.lushr, 1) := by decide +kernel
theorem d2_4 : decode method_3_code 4 = .ok (.ldc2_w 9, 3) := by decide +kernel
theorem d2_7 : decode method_3_code 7 = .ok (.land, 1) := by decide +kernel
theorem d2_8 : decode method_3_code 8 = .ok (.l2i, 1) := by decide +kernel
theorem d2_9 : decode method_3_code 9 = .ok (.iload_n 2, 1) := by decide +kernel
theorem d2_10 : decode method_3_code 10 = .ok (.irem, 1) := by decide +kernel
theorem d2_11 : decode method_3_code 11 = .ok (.ireturn, 1) := by decide +kernel
theorem pl2 : plainFor (⟨"com/example/crosshatch/crosshatch/design/ParameterSetsNumberPinLaw", "value", "(JI)I"⟩ : MethodName) = true := by first | exact plainFor_of_name (by first | (simp [plainName, overriddenIn]; done) | decide +kernel) | decide +kernel
def f2 (x0 : Int64) (x1 : Int32) : Int32 := (((XT.ushrL x0 (15 : Int32)) &&& (2147483647 : Int64)).toInt32 % x1)
set_option maxRecDepth 65536 in
set_option maxHeartbeats 40000000 in
theorem rm2 (l : Launch) (Z : State) (a0 : Array Value) (hw : ∀ d ∈ tables_1, d.before a0 Z = true) (x0 : Int64) (x1 : Int32) (h0 : Heap) (hx : x1 ≠ 0) :
    Met l Z (⟨"com/example/crosshatch/crosshatch/design/ParameterSetsNumberPinLaw", "value", "(JI)I"⟩ : MethodName) method_3_code 3 (some .int) ({ frames := 0, cells := 0, slots := 0, locals := 0 } : Room) #[(.long x0), (.int x1)] h0 (Pu (some (.int (f2 x0 x1))) h0) := by
  refine enter pl2 #[.val (.long x0), .second, .val (.int x1)] rfl ?_
  intro p e s m below meth c T B hret hlk hnm
  · refine o_lloadN B 0 1 (v := x0) d2_0 rfl rfl ?_
    refine o_bipush B 1 3 (15 : Int32) d2_1 rfl (by decide) ?_
    refine o_lushr B 3 4 d2_3 rfl ?_
    refine o_ldc2 B 4 7 d2_4 rfl (hw _ (List.mem_of_getElem? (i := 9) rfl)) ?_
    refine o_land B 7 8 d2_7 rfl ?_
    refine o_l2i B 8 9 d2_8 rfl ?_
    refine o_iloadN B 9 10 (v := x1) d2_9 rfl rfl ?_
    refine o_irem B 10 11 d2_10 rfl hx ?_
    refine o_retI B 11 d2_11 hret hlk (by decide) (by decide) ⟨(congrArg (fun z => some (Value.int z)) (show f2 x0 x1 = (((XT.ushrL x0 (15 : Int32)) &&& (2147483647 : Int64)).toInt32 % x1) from rfl)).symm, rfl, rfl⟩
theorem d3_0 : decode prog_6_method_6_code 0 = .ok (.lconst 0, 1) := by decide +kernel
theorem d3_1 : decode prog_6_method_6_code 1 = .ok (.lstore_n 3, 1) := by decide +kernel
theorem d3_2 : decode prog_6_method_6_code 2 = .ok (.aload_n 0, 1) := by decide +kernel
theorem d3_3 : decode prog_6_method_6_code 3 = .ok (.astore 5, 2) := by decide +kernel
theorem d3_5 : decode prog_6_method_6_code 5 = .ok (.aload 5, 2) := by decide +kernel
theorem d3_7 : decode prog_6_method_6_code 7 = .ok (.arraylength, 1) := by decide +kernel
theorem d3_8 : decode prog_6_method_6_code 8 = .ok (.istore 6, 2) := by decide +kernel
theorem d3_10 : decode prog_6_method_6_code 10 = .ok (.iconst 0, 1) := by decide +kernel
theorem d3_11 : decode prog_6_method_6_code 11 = .ok (.istore 7, 2) := by decide +kernel
theorem d3_13 : decode prog_6_method_6_code 13 = .ok (.iload 7, 2) := by decide +kernel
theorem d3_15 : decode prog_6_method_6_code 15 = .ok (.iload 6, 2) := by decide +kernel
theorem d3_17 : decode prog_6_method_6_code 17 = .ok (.if_icmp .ge 30, 3) := by decide +kernel
theorem d3_20 : decode prog_6_method_6_code 20 = .ok (.aload 5, 2) := by decide +kernel
theorem d3_22 : decode prog_6_method_6_code 22 = .ok (.iload 7, 2) := by decide +kernel
theorem d3_24 : decode prog_6_method_6_code 24 = .ok (.iaload, 1) := by decide +kernel
theorem d3_25 : decode prog_6_method_6_code 25 = .ok (.istore 8, 2) := by decide +kernel
theorem d3_27 : decode prog_6_method_6_code 27 = .ok (.lload_n 3, 1) := by decide +kernel
theorem d3_28 : decode prog_6_method_6_code 28 = .ok (.aload_n 2, 1) := by decide +kernel
theorem d3_29 : decode prog_6_method_6_code 29 = .ok (.iload 8, 2) := by decide +kernel
theorem d3_31 : decode prog_6_method_6_code 31 = .ok (.iaload, 1) := by decide +kernel
theorem d3_32 : decode prog_6_method_6_code 32 = .ok (.i2l, 1) := by decide +kernel
theorem d3_33 : decode prog_6_method_6_code 33 = .ok (.lmul, 1) := by decide +kernel
theorem d3_34 : decode prog_6_method_6_code 34 = .ok (.aload_n 1, 1) := by decide +kernel
theorem d3_35 : decode prog_6_method_6_code 35 = .ok (.iload 8, 2) := by decide +kernel
theorem d3_37 : decode prog_6_method_6_code 37 = .ok (.iaload, 1) := by decide +kernel
theorem d3_38 : decode prog_6_method_6_code 38 = .ok (.i2l, 1) := by decide +kernel
theorem d3_39 : decode prog_6_method_6_code 39 = .ok (.ladd, 1) := by decide +kernel
theorem d3_40 : decode prog_6_method_6_code 40 = .ok (.lstore_n 3, 1) := by decide +kernel
theorem d3_41 : decode prog_6_method_6_code 41 = .ok (.iinc 7 1, 3) := by decide +kernel
theorem d3_44 : decode prog_6_method_6_code 44 = .ok (.goto (-31), 3) := by decide +kernel
theorem d3_47 : decode prog_6_method_6_code 47 = .ok (.lload_n 3, 1) := by decide +kernel
theorem d3_48 : decode prog_6_method_6_code 48 = .ok (.lreturn, 1) := by decide +kernel
theorem pl3 : plainFor (⟨"com/example/crosshatch/crosshatch/design/ParameterSets", "number", "([I[I[I)J"⟩ : MethodName) = true := by first | exact plainFor_of_name (by first | (simp [plainName, overriddenIn]; done) | decide +kernel) | decide +kernel
def f3_0 (gs : Nat → Int32) (gt : Nat → Int32) (gc : Nat → Int32) : Int64 := (0 : Int64)
set_option maxRecDepth 65536 in
set_option maxHeartbeats 40000000 in
theorem rm3_0 (l : Launch) (Z : State) (a0 : Array Value) (hw : ∀ d ∈ tables_1, d.before a0 Z = true) (gs : Nat → Int32) (gt : Nat → Int32) (gc : Nat → Int32) (x0 : Addr) (x1 : Addr) (x2 : Addr) (h0 : Heap) (A0 : AI Z h0 x0 .int 0 gs) (A1 : AI Z h0 x1 .int 4 gt) (A2 : AI Z h0 x2 .int 4 gc) (hs : ∀ j, j < 0 → S4 (gs j)) :
    Met l Z (⟨"com/example/crosshatch/crosshatch/design/ParameterSets", "number", "([I[I[I)J"⟩ : MethodName) prog_6_method_6_code 9 (some .long) ({ frames := 0, cells := 0, slots := 0, locals := 0 } : Room) #[(.ref x0), (.ref x1), (.ref x2)] h0 (Pu (some (.long (f3_0 gs gt gc))) h0) := by
  refine enter pl3 #[.val (.ref x0), .val (.ref x1), .val (.ref x2), .unset, .unset, .unset, .unset, .unset, .unset] rfl ?_
  intro p e s m below meth c T B hret hlk hnm
  · refine o_lconst B 0 1 (0 : Int64) d3_0 rfl (by decide) ?_
    refine o_lstoreN B 1 2 (l' := #[.val (.ref x0), .val (.ref x1), .val (.ref x2), .val (.long (0 : Int64)), .second, .unset, .unset, .unset, .unset]) d3_1 rfl rfl ?_
    refine o_aloadN B 2 3 (v := (.ref x0)) d3_2 rfl rfl rfl ?_
    refine o_astore B 3 5 (l' := #[.val (.ref x0), .val (.ref x1), .val (.ref x2), .val (.long (0 : Int64)), .second, .val (.ref x0), .unset, .unset, .unset]) d3_3 rfl rfl rfl ?_
    refine o_aload B 5 7 (v := (.ref x0)) d3_5 rfl rfl rfl ?_
    refine o_alenI B 7 8 A0 (0 : Int32) d3_7 rfl (by decide) ?_
    refine o_istore B 8 10 (l' := #[.val (.ref x0), .val (.ref x1), .val (.ref x2), .val (.long (0 : Int64)), .second, .val (.ref x0), .val (.int (0 : Int32)), .unset, .unset]) d3_8 rfl rfl ?_
    refine o_iconst B 10 11 (0 : Int32) d3_10 rfl (by decide) ?_
    refine o_istore B 11 13 (l' := #[.val (.ref x0), .val (.ref x1), .val (.ref x2), .val (.long (0 : Int64)), .second, .val (.ref x0), .val (.int (0 : Int32)), .val (.int (0 : Int32)), .unset]) d3_11 rfl rfl ?_
    refine o_iload B 13 15 (v := (0 : Int32)) d3_13 rfl rfl ?_
    refine o_iload B 15 17 (v := (0 : Int32)) d3_15 rfl rfl ?_
    refine o_icY B 17 47 d3_17 (XT.ii_ge_t (by decide)) (by decide) (by decide) ?_
    refine o_lloadN B 47 48 (v := (0 : Int64)) d3_47 rfl rfl ?_
    refine o_retL B 48 d3_48 hret hlk (by decide) (by decide) ⟨(congrArg (fun z => some (Value.long z)) (show f3_0 gs gt gc = (0 : Int64) from rfl)).symm, rfl, rfl⟩
def q3_1_1 (gs : Nat → Int32) (gt : Nat → Int32) (gc : Nat → Int32) : Int64 := (((0 : Int64) * (gc (gs 0).toInt.toNat).toInt64) + (gt (gs 0).toInt.toNat).toInt64)
def f3_1 (gs : Nat → Int32) (gt : Nat → Int32) (gc : Nat → Int32) : Int64 := (q3_1_1 gs gt gc)
set_option maxRecDepth 65536 in
set_option maxHeartbeats 40000000 in
theorem rm3_1 (l : Launch) (Z : State) (a0 : Array Value) (hw : ∀ d ∈ tables_1, d.before a0 Z = true) (gs : Nat → Int32) (gt : Nat → Int32) (gc : Nat → Int32) (x0 : Addr) (x1 : Addr) (x2 : Addr) (h0 : Heap) (A0 : AI Z h0 x0 .int 1 gs) (A1 : AI Z h0 x1 .int 4 gt) (A2 : AI Z h0 x2 .int 4 gc) (hs : ∀ j, j < 1 → S4 (gs j)) :
    Met l Z (⟨"com/example/crosshatch/crosshatch/design/ParameterSets", "number", "([I[I[I)J"⟩ : MethodName) prog_6_method_6_code 9 (some .long) ({ frames := 0, cells := 0, slots := 0, locals := 0 } : Room) #[(.ref x0), (.ref x1), (.ref x2)] h0 (Pu (some (.long (f3_1 gs gt gc))) h0) := by
  refine enter pl3 #[.val (.ref x0), .val (.ref x1), .val (.ref x2), .unset, .unset, .unset, .unset, .unset, .unset] rfl ?_
  intro p e s m below meth c T B hret hlk hnm
  · refine o_lconst B 0 1 (0 : Int64) d3_0 rfl (by decide) ?_
    refine o_lstoreN B 1 2 (l' := #[.val (.ref x0), .val (.ref x1), .val (.ref x2), .val (.long (0 : Int64)), .second, .unset, .unset, .unset, .unset]) d3_1 rfl rfl ?_
    refine o_aloadN B 2 3 (v := (.ref x0)) d3_2 rfl rfl rfl ?_
    refine o_astore B 3 5 (l' := #[.val (.ref x0), .val (.ref x1), .val (.ref x2), .val (.long (0 : Int64)), .second, .val (.ref x0), .unset, .unset, .unset]) d3_3 rfl rfl rfl ?_
    refine o_aload B 5 7 (v := (.ref x0)) d3_5 rfl rfl rfl ?_
    refine o_alenI B 7 8 A0 (1 : Int32) d3_7 rfl (by decide) ?_
    refine o_istore B 8 10 (l' := #[.val (.ref x0), .val (.ref x1), .val (.ref x2), .val (.long (0 : Int64)), .second, .val (.ref x0), .val (.int (1 : Int32)), .unset, .unset]) d3_8 rfl rfl ?_
    refine o_iconst B 10 11 (0 : Int32) d3_10 rfl (by decide) ?_
    refine o_istore B 11 13 (l' := #[.val (.ref x0), .val (.ref x1), .val (.ref x2), .val (.long (0 : Int64)), .second, .val (.ref x0), .val (.int (1 : Int32)), .val (.int (0 : Int32)), .unset]) d3_11 rfl rfl ?_
    refine o_iload B 13 15 (v := (0 : Int32)) d3_13 rfl rfl ?_
    refine o_iload B 15 17 (v := (1 : Int32)) d3_15 rfl rfl ?_
    refine o_icN B 17 20 d3_17 rfl (XT.ii_ge_f (by decide)) ?_
    refine o_aload B 20 22 (v := (.ref x0)) d3_20 rfl rfl rfl ?_
    refine o_iload B 22 24 (v := (0 : Int32)) d3_22 rfl rfl ?_
    refine o_iaload B 24 25 A0 0 (gs 0) d3_24 rfl (by decide) (by decide) (by decide) rfl ?_
    refine o_istore B 25 27 (l' := #[.val (.ref x0), .val (.ref x1), .val (.ref x2), .val (.long (0 : Int64)), .second, .val (.ref x0), .val (.int (1 : Int32)), .val (.int (0 : Int32)), .val (.int (gs 0))]) d3_25 rfl rfl ?_
    refine o_lloadN B 27 28 (v := (0 : Int64)) d3_27 rfl rfl ?_
    refine o_aloadN B 28 29 (v := (.ref x2)) d3_28 rfl rfl rfl ?_
    refine o_iload B 29 31 (v := (gs 0)) d3_29 rfl rfl ?_
    refine o_iaload B 31 32 A2 (gs 0).toInt.toNat (gc (gs 0).toInt.toNat) d3_31 rfl (ix_of (own_ix (hs 0 (by decide)))).1 (ix_of (own_ix (hs 0 (by decide)))).2 (own_lt (hs 0 (by decide))) rfl ?_
    refine o_i2l B 32 33 d3_32 rfl ?_
    refine o_lmul B 33 34 d3_33 rfl ?_
    refine o_aloadN B 34 35 (v := (.ref x1)) d3_34 rfl rfl rfl ?_
    refine o_iload B 35 37 (v := (gs 0)) d3_35 rfl rfl ?_
    refine o_iaload B 37 38 A1 (gs 0).toInt.toNat (gt (gs 0).toInt.toNat) d3_37 rfl (ix_of (own_ix (hs 0 (by decide)))).1 (ix_of (own_ix (hs 0 (by decide)))).2 (own_lt (hs 0 (by decide))) rfl ?_
    refine o_i2l B 38 39 d3_38 rfl ?_
    refine o_ladd B 39 40 d3_39 rfl ?_
    refine o_lstoreN B 40 41 (l' := #[.val (.ref x0), .val (.ref x1), .val (.ref x2), .val (.long (q3_1_1 gs gt gc)), .second, .val (.ref x0), .val (.int (1 : Int32)), .val (.int (0 : Int32)), .val (.int (gs 0))]) d3_40 rfl rfl ?_
    refine o_iincC B 41 44 (l' := #[.val (.ref x0), .val (.ref x1), .val (.ref x2), .val (.long (q3_1_1 gs gt gc)), .second, .val (.ref x0), .val (.int (1 : Int32)), .val (.int (1 : Int32)), .val (.int (gs 0))]) (1 : Int32) (1 : Int32) d3_41 rfl (by decide) rfl (by decide) rfl ?_
    refine o_goto B 44 13 d3_44 (by decide) (by decide) ?_
    refine o_iload B 13 15 (v := (1 : Int32)) d3_13 rfl rfl ?_
    refine o_iload B 15 17 (v := (1 : Int32)) d3_15 rfl rfl ?_
    refine o_icY B 17 47 d3_17 (XT.ii_ge_t (by decide)) (by decide) (by decide) ?_
    refine o_lloadN B 47 48 (v := (q3_1_1 gs gt gc)) d3_47 rfl rfl ?_
    refine o_retL B 48 d3_48 hret hlk (by decide) (by decide) ⟨(congrArg (fun z => some (Value.long z)) (show f3_1 gs gt gc = (q3_1_1 gs gt gc) from rfl)).symm, rfl, rfl⟩
def q3_2_1 (gs : Nat → Int32) (gt : Nat → Int32) (gc : Nat → Int32) : Int64 := (((0 : Int64) * (gc (gs 0).toInt.toNat).toInt64) + (gt (gs 0).toInt.toNat).toInt64)
def q3_2_2 (gs : Nat → Int32) (gt : Nat → Int32) (gc : Nat → Int32) : Int64 := (((q3_2_1 gs gt gc) * (gc (gs 1).toInt.toNat).toInt64) + (gt (gs 1).toInt.toNat).toInt64)
def f3_2 (gs : Nat → Int32) (gt : Nat → Int32) (gc : Nat → Int32) : Int64 := (q3_2_2 gs gt gc)
set_option maxRecDepth 65536 in
set_option maxHeartbeats 40000000 in
theorem rm3_2 (l : Launch) (Z : State) (a0 : Array Value) (hw : ∀ d ∈ tables_1, d.before a0 Z = true) (gs : Nat → Int32) (gt : Nat → Int32) (gc : Nat → Int32) (x0 : Addr) (x1 : Addr) (x2 : Addr) (h0 : Heap) (A0 : AI Z h0 x0 .int 2 gs) (A1 : AI Z h0 x1 .int 4 gt) (A2 : AI Z h0 x2 .int 4 gc) (hs : ∀ j, j < 2 → S4 (gs j)) :
    Met l Z (⟨"com/example/crosshatch/crosshatch/design/ParameterSets", "number", "([I[I[I)J"⟩ : MethodName) prog_6_method_6_code 9 (some .long) ({ frames := 0, cells := 0, slots := 0, locals := 0 } : Room) #[(.ref x0), (.ref x1), (.ref x2)] h0 (Pu (some (.long (f3_2 gs gt gc))) h0) := by
  refine enter pl3 #[.val (.ref x0), .val (.ref x1), .val (.ref x2), .unset, .unset, .unset, .unset, .unset, .unset] rfl ?_
  intro p e s m below meth c T B hret hlk hnm
  · refine o_lconst B 0 1 (0 : Int64) d3_0 rfl (by decide) ?_
    refine o_lstoreN B 1 2 (l' := #[.val (.ref x0), .val (.ref x1), .val (.ref x2), .val (.long (0 : Int64)), .second, .unset, .unset, .unset, .unset]) d3_1 rfl rfl ?_
    refine o_aloadN B 2 3 (v := (.ref x0)) d3_2 rfl rfl rfl ?_
    refine o_astore B 3 5 (l' := #[.val (.ref x0), .val (.ref x1), .val (.ref x2), .val (.long (0 : Int64)), .second, .val (.ref x0), .unset, .unset, .unset]) d3_3 rfl rfl rfl ?_
    refine o_aload B 5 7 (v := (.ref x0)) d3_5 rfl rfl rfl ?_
    refine o_alenI B 7 8 A0 (2 : Int32) d3_7 rfl (by decide) ?_
    refine o_istore B 8 10 (l' := #[.val (.ref x0), .val (.ref x1), .val (.ref x2), .val (.long (0 : Int64)), .second, .val (.ref x0), .val (.int (2 : Int32)), .unset, .unset]) d3_8 rfl rfl ?_
    refine o_iconst B 10 11 (0 : Int32) d3_10 rfl (by decide) ?_
    refine o_istore B 11 13 (l' := #[.val (.ref x0), .val (.ref x1), .val (.ref x2), .val (.long (0 : Int64)), .second, .val (.ref x0), .val (.int (2 : Int32)), .val (.int (0 : Int32)), .unset]) d3_11 rfl rfl ?_
    refine o_iload B 13 15 (v := (0 : Int32)) d3_13 rfl rfl ?_
    refine o_iload B 15 17 (v := (2 : Int32)) d3_15 rfl rfl ?_
    refine o_icN B 17 20 d3_17 rfl (XT.ii_ge_f (by decide)) ?_
    refine o_aload B 20 22 (v := (.ref x0)) d3_20 rfl rfl rfl ?_
    refine o_iload B 22 24 (v := (0 : Int32)) d3_22 rfl rfl ?_
    refine o_iaload B 24 25 A0 0 (gs 0) d3_24 rfl (by decide) (by decide) (by decide) rfl ?_
    refine o_istore B 25 27 (l' := #[.val (.ref x0), .val (.ref x1), .val (.ref x2), .val (.long (0 : Int64)), .second, .val (.ref x0), .val (.int (2 : Int32)), .val (.int (0 : Int32)), .val (.int (gs 0))]) d3_25 rfl rfl ?_
    refine o_lloadN B 27 28 (v := (0 : Int64)) d3_27 rfl rfl ?_
    refine o_aloadN B 28 29 (v := (.ref x2)) d3_28 rfl rfl rfl ?_
    refine o_iload B 29 31 (v := (gs 0)) d3_29 rfl rfl ?_
    refine o_iaload B 31 32 A2 (gs 0).toInt.toNat (gc (gs 0).toInt.toNat) d3_31 rfl (ix_of (own_ix (hs 0 (by decide)))).1 (ix_of (own_ix (hs 0 (by decide)))).2 (own_lt (hs 0 (by decide))) rfl ?_
    refine o_i2l B 32 33 d3_32 rfl ?_
    refine o_lmul B 33 34 d3_33 rfl ?_
    refine o_aloadN B 34 35 (v := (.ref x1)) d3_34 rfl rfl rfl ?_
    refine o_iload B 35 37 (v := (gs 0)) d3_35 rfl rfl ?_
    refine o_iaload B 37 38 A1 (gs 0).toInt.toNat (gt (gs 0).toInt.toNat) d3_37 rfl (ix_of (own_ix (hs 0 (by decide)))).1 (ix_of (own_ix (hs 0 (by decide)))).2 (own_lt (hs 0 (by decide))) rfl ?_
    refine o_i2l B 38 39 d3_38 rfl ?_
    refine o_ladd B 39 40 d3_39 rfl ?_
    refine o_lstoreN B 40 41 (l' := #[.val (.ref x0), .val (.ref x1), .val (.ref x2), .val (.long (q3_2_1 gs gt gc)), .second, .val (.ref x0), .val (.int (2 : Int32)), .val (.int (0 : Int32)), .val (.int (gs 0))]) d3_40 rfl rfl ?_
    refine o_iincC B 41 44 (l' := #[.val (.ref x0), .val (.ref x1), .val (.ref x2), .val (.long (q3_2_1 gs gt gc)), .second, .val (.ref x0), .val (.int (2 : Int32)), .val (.int (1 : Int32)), .val (.int (gs 0))]) (1 : Int32) (1 : Int32) d3_41 rfl (by decide) rfl (by decide) rfl ?_
    refine o_goto B 44 13 d3_44 (by decide) (by decide) ?_
    refine o_iload B 13 15 (v := (1 : Int32)) d3_13 rfl rfl ?_
    refine o_iload B 15 17 (v := (2 : Int32)) d3_15 rfl rfl ?_
    refine o_icN B 17 20 d3_17 rfl (XT.ii_ge_f (by decide)) ?_
    refine o_aload B 20 22 (v := (.ref x0)) d3_20 rfl rfl rfl ?_
    refine o_iload B 22 24 (v := (1 : Int32)) d3_22 rfl rfl ?_
    refine o_iaload B 24 25 A0 1 (gs 1) d3_24 rfl (by decide) (by decide) (by decide) rfl ?_
    refine o_istore B 25 27 (l' := #[.val (.ref x0), .val (.ref x1), .val (.ref x2), .val (.long (q3_2_1 gs gt gc)), .second, .val (.ref x0), .val (.int (2 : Int32)), .val (.int (1 : Int32)), .val (.int (gs 1))]) d3_25 rfl rfl ?_
    refine o_lloadN B 27 28 (v := (q3_2_1 gs gt gc)) d3_27 rfl rfl ?_
    refine o_aloadN B 28 29 (v := (.ref x2)) d3_28 rfl rfl rfl ?_
    refine o_iload B 29 31 (v := (gs 1)) d3_29 rfl rfl ?_
    refine o_iaload B 31 32 A2 (gs 1).toInt.toNat (gc (gs 1).toInt.toNat) d3_31 rfl (ix_of (own_ix (hs 1 (by decide)))).1 (ix_of (own_ix (hs 1 (by decide)))).2 (own_lt (hs 1 (by decide))) rfl ?_
    refine o_i2l B 32 33 d3_32 rfl ?_
    refine o_lmul B 33 34 d3_33 rfl ?_
    refine o_aloadN B 34 35 (v := (.ref x1)) d3_34 rfl rfl rfl ?_
    refine o_iload B 35 37 (v := (gs 1)) d3_35 rfl rfl ?_
    refine o_iaload B 37 38 A1 (gs 1).toInt.toNat (gt (gs 1).toInt.toNat) d3_37 rfl (ix_of (own_ix (hs 1 (by decide)))).1 (ix_of (own_ix (hs 1 (by decide)))).2 (own_lt (hs 1 (by decide))) rfl ?_
    refine o_i2l B 38 39 d3_38 rfl ?_
    refine o_ladd B 39 40 d3_39 rfl ?_
    refine o_lstoreN B 40 41 (l' := #[.val (.ref x0), .val (.ref x1), .val (.ref x2), .val (.long (q3_2_2 gs gt gc)), .second, .val (.ref x0), .val (.int (2 : Int32)), .val (.int (1 : Int32)), .val (.int (gs 1))]) d3_40 rfl rfl ?_
    refine o_iincC B 41 44 (l' := #[.val (.ref x0), .val (.ref x1), .val (.ref x2), .val (.long (q3_2_2 gs gt gc)), .second, .val (.ref x0), .val (.int (2 : Int32)), .val (.int (2 : Int32)), .val (.int (gs 1))]) (1 : Int32) (2 : Int32) d3_41 rfl (by decide) rfl (by decide) rfl ?_
    refine o_goto B 44 13 d3_44 (by decide) (by decide) ?_
    refine o_iload B 13 15 (v := (2 : Int32)) d3_13 rfl rfl ?_
    refine o_iload B 15 17 (v := (2 : Int32)) d3_15 rfl rfl ?_
    refine o_icY B 17 47 d3_17 (XT.ii_ge_t (by decide)) (by decide) (by decide) ?_
    refine o_lloadN B 47 48 (v := (q3_2_2 gs gt gc)) d3_47 rfl rfl ?_
    refine o_retL B 48 d3_48 hret hlk (by decide) (by decide) ⟨(congrArg (fun z => some (Value.long z)) (show f3_2 gs gt gc = (q3_2_2 gs gt gc) from rfl)).symm, rfl, rfl⟩
def q3_3_1 (gs : Nat → Int32) (gt : Nat → Int32) (gc : Nat → Int32) : Int64 := (((0 : Int64) * (gc (gs 0).toInt.toNat).toInt64) + (gt (gs 0).toInt.toNat).toInt64)
def q3_3_2 (gs : Nat → Int32) (gt : Nat → Int32) (gc : Nat → Int32) : Int64 := (((q3_3_1 gs gt gc) * (gc (gs 1).toInt.toNat).toInt64) + (gt (gs 1).toInt.toNat).toInt64)
def q3_3_3 (gs : Nat → Int32) (gt : Nat → Int32) (gc : Nat → Int32) : Int64 := (((q3_3_2 gs gt gc) * (gc (gs 2).toInt.toNat).toInt64) + (gt (gs 2).toInt.toNat).toInt64)
def f3_3 (gs : Nat → Int32) (gt : Nat → Int32) (gc : Nat → Int32) : Int64 := (q3_3_3 gs gt gc)
set_option maxRecDepth 65536 in
set_option maxHeartbeats 40000000 in
theorem rm3_3 (l : Launch) (Z : State) (a0 : Array Value) (hw : ∀ d ∈ tables_1, d.before a0 Z = true) (gs : Nat → Int32) (gt : Nat → Int32) (gc : Nat → Int32) (x0 : Addr) (x1 : Addr) (x2 : Addr) (h0 : Heap) (A0 : AI Z h0 x0 .int 3 gs) (A1 : AI Z h0 x1 .int 4 gt) (A2 : AI Z h0 x2 .int 4 gc) (hs : ∀ j, j < 3 → S4 (gs j)) :
    Met l Z (⟨"com/example/crosshatch/crosshatch/design/ParameterSets", "number", "([I[I[I)J"⟩ : MethodName) prog_6_method_6_code 9 (some .long) ({ frames := 0, cells := 0, slots := 0, locals := 0 } : Room) #[(.ref x0), (.ref x1), (.ref x2)] h0 (Pu (some (.long (f3_3 gs gt gc))) h0) := by
  refine enter pl3 #[.val (.ref x0), .val (.ref x1), .val (.ref x2), .unset, .unset, .unset, .unset, .unset, .unset] rfl ?_
  intro p e s m below meth c T B hret hlk hnm
  · refine o_lconst B 0 1 (0 : Int64) d3_0 rfl (by decide) ?_
    refine o_lstoreN B 1 2 (l' := #[.val (.ref x0), .val (.ref x1), .val (.ref x2), .val (.long (0 : Int64)), .second, .unset, .unset, .unset, .unset]) d3_1 rfl rfl ?_
    refine o_aloadN B 2 3 (v := (.ref x0)) d3_2 rfl rfl rfl ?_
    refine o_astore B 3 5 (l' := #[.val (.ref x0), .val (.ref x1), .val (.ref x2), .val (.long (0 : Int64)), .second, .val (.ref x0), .unset, .unset, .unset]) d3_3 rfl rfl rfl ?_
    refine o_aload B 5 7 (v := (.ref x0)) d3_5 rfl rfl rfl ?_
    refine o_alenI B 7 8 A0 (3 : Int32) d3_7 rfl (by decide) ?_
    refine o_istore B 8 10 (l' := #[.val (.ref x0), .val (.ref x1), .val (.ref x2), .val (.long (0 : Int64)), .second, .val (.ref x0), .val (.int (3 : Int32)), .unset, .unset]) d3_8 rfl rfl ?_
    refine o_iconst B 10 11 (0 : Int32) d3_10 rfl (by decide) ?_
    refine o_istore B 11 13 (l' := #[.val (.ref x0), .val (.ref x1), .val (.ref x2), .val (.long (0 : Int64)), .second, .val (.ref x0), .val (.int (3 : Int32)), .val (.int (0 : Int32)), .unset]) d3_11 rfl rfl ?_
    refine o_iload B 13 15 (v := (0 : Int32)) d3_13 rfl rfl ?_
    refine o_iload B 15 17 (v := (3 : Int32)) d3_15 rfl rfl ?_
    refine o_icN B 17 20 d3_17 rfl (XT.ii_ge_f (by decide)) ?_
    refine o_aload B 20 22 (v := (.ref x0)) d3_20 rfl rfl rfl ?_
    refine o_iload B 22 24 (v := (0 : Int32)) d3_22 rfl rfl ?_
    refine o_iaload B 24 25 A0 0 (gs 0) d3_24 rfl (by decide) (by decide) (by decide) rfl ?_
    refine o_istore B 25 27 (l' := #[.val (.ref x0), .val (.ref x1), .val (.ref x2), .val (.long (0 : Int64)), .second, .val (.ref x0), .val (.int (3 : Int32)), .val (.int (0 : Int32)), .val (.int (gs 0))]) d3_25 rfl rfl ?_
    refine o_lloadN B 27 28 (v := (0 : Int64)) d3_27 rfl rfl ?_
    refine o_aloadN B 28 29 (v := (.ref x2)) d3_28 rfl rfl rfl ?_
    refine o_iload B 29 31 (v := (gs 0)) d3_29 rfl rfl ?_
    refine o_iaload B 31 32 A2 (gs 0).toInt.toNat (gc (gs 0).toInt.toNat) d3_31 rfl (ix_of (own_ix (hs 0 (by decide)))).1 (ix_of (own_ix (hs 0 (by decide)))).2 (own_lt (hs 0 (by decide))) rfl ?_
    refine o_i2l B 32 33 d3_32 rfl ?_
    refine o_lmul B 33 34 d3_33 rfl ?_
    refine o_aloadN B 34 35 (v := (.ref x1)) d3_34 rfl rfl rfl ?_
    refine o_iload B 35 37 (v := (gs 0)) d3_35 rfl rfl ?_
    refine o_iaload B 37 38 A1 (gs 0).toInt.toNat (gt (gs 0).toInt.toNat) d3_37 rfl (ix_of (own_ix (hs 0 (by decide)))).1 (ix_of (own_ix (hs 0 (by decide)))).2 (own_lt (hs 0 (by decide))) rfl ?_
    refine o_i2l B 38 39 d3_38 rfl ?_
    refine o_ladd B 39 40 d3_39 rfl ?_
    refine o_lstoreN B 40 41 (l' := #[.val (.ref x0), .val (.ref x1), .val (.ref x2), .val (.long (q3_3_1 gs gt gc)), .second, .val (.ref x0), .val (.int (3 : Int32)), .val (.int (0 : Int32)), .val (.int (gs 0))]) d3_40 rfl rfl ?_
    refine o_iincC B 41 44 (l' := #[.val (.ref x0), .val (.ref x1), .val (.ref x2), .val (.long (q3_3_1 gs gt gc)), .second, .val (.ref x0), .val (.int (3 : Int32)), .val (.int (1 : Int32)), .val (.int (gs 0))]) (1 : Int32) (1 : Int32) d3_41 rfl (by decide) rfl (by decide) rfl ?_
    refine o_goto B 44 13 d3_44 (by decide) (by decide) ?_
    refine o_iload B 13 15 (v := (1 : Int32)) d3_13 rfl rfl ?_
    refine o_iload B 15 17 (v := (3 : Int32)) d3_15 rfl rfl ?_
    refine o_icN B 17 20 d3_17 rfl (XT.ii_ge_f (by decide)) ?_
    refine o_aload B 20 22 (v := (.ref x0)) d3_20 rfl rfl rfl ?_
    refine o_iload B 22 24 (v := (1 : Int32)) d3_22 rfl rfl ?_
    refine o_iaload B 24 25 A0 1 (gs 1) d3_24 rfl (by decide) (by decide) (by decide) rfl ?_
    refine o_istore B 25 27 (l' := #[.val (.ref x0), .val (.ref x1), .val (.ref x2), .val (.long (q3_3_1 gs gt gc)), .second, .val (.ref x0), .val (.int (3 : Int32)), .val (.int (1 : Int32)), .val (.int (gs 1))]) d3_25 rfl rfl ?_
    refine o_lloadN B 27 28 (v := (q3_3_1 gs gt gc)) d3_27 rfl rfl ?_
    refine o_aloadN B 28 29 (v := (.ref x2)) d3_28 rfl rfl rfl ?_
    refine o_iload B 29 31 (v := (gs 1)) d3_29 rfl rfl ?_
    refine o_iaload B 31 32 A2 (gs 1).toInt.toNat (gc (gs 1).toInt.toNat) d3_31 rfl (ix_of (own_ix (hs 1 (by decide)))).1 (ix_of (own_ix (hs 1 (by decide)))).2 (own_lt (hs 1 (by decide))) rfl ?_
    refine o_i2l B 32 33 d3_32 rfl ?_
    refine o_lmul B 33 34 d3_33 rfl ?_
    refine o_aloadN B 34 35 (v := (.ref x1)) d3_34 rfl rfl rfl ?_
    refine o_iload B 35 37 (v := (gs 1)) d3_35 rfl rfl ?_
    refine o_iaload B 37 38 A1 (gs 1).toInt.toNat (gt (gs 1).toInt.toNat) d3_37 rfl (ix_of (own_ix (hs 1 (by decide)))).1 (ix_of (own_ix (hs 1 (by decide)))).2 (own_lt (hs 1 (by decide))) rfl ?_
    refine o_i2l B 38 39 d3_38 rfl ?_
    refine o_ladd B 39 40 d3_39 rfl ?_
    refine o_lstoreN B 40 41 (l' := #[.val (.ref x0), .val (.ref x1), .val (.ref x2), .val (.long (q3_3_2 gs gt gc)), .second, .val (.ref x0), .val (.int (3 : Int32)), .val (.int (1 : Int32)), .val (.int (gs 1))]) d3_40 rfl rfl ?_
    refine o_iincC B 41 44 (l' := #[.val (.ref x0), .val (.ref x1), .val (.ref x2), .val (.long (q3_3_2 gs gt gc)), .second, .val (.ref x0), .val (.int (3 : Int32)), .val (.int (2 : Int32)), .val (.int (gs 1))]) (1 : Int32) (2 : Int32) d3_41 rfl (by decide) rfl (by decide) rfl ?_
    refine o_goto B 44 13 d3_44 (by decide) (by decide) ?_
    refine o_iload B 13 15 (v := (2 : Int32)) d3_13 rfl rfl ?_
    refine o_iload B 15 17 (v := (3 : Int32)) d3_15 rfl rfl ?_
    refine o_icN B 17 20 d3_17 rfl (XT.ii_ge_f (by decide)) ?_
    refine o_aload B 20 22 (v := (.ref x0)) d3_20 rfl rfl rfl ?_
    refine o_iload B 22 24 (v := (2 : Int32)) d3_22 rfl rfl ?_
    refine o_iaload B 24 25 A0 2 (gs 2) d3_24 rfl (by decide) (by decide) (by decide) rfl ?_
    refine o_istore B 25 27 (l' := #[.val (.ref x0), .val (.ref x1), .val (.ref x2), .val (.long (q3_3_2 gs gt gc)), .second, .val (.ref x0), .val (.int (3 : Int32)), .val (.int (2 : Int32)), .val (.int (gs 2))]) d3_25 rfl rfl ?_
    refine o_lloadN B 27 28 (v := (q3_3_2 gs gt gc)) d3_27 rfl rfl ?_
    refine o_aloadN B 28 29 (v := (.ref x2)) d3_28 rfl rfl rfl ?_
    refine o_iload B 29 31 (v := (gs 2)) d3_29 rfl rfl ?_
    refine o_iaload B 31 32 A2 (gs 2).toInt.toNat (gc (gs 2).toInt.toNat) d3_31 rfl (ix_of (own_ix (hs 2 (by decide)))).1 (ix_of (own_ix (hs 2 (by decide)))).2 (own_lt (hs 2 (by decide))) rfl ?_
    refine o_i2l B 32 33 d3_32 rfl ?_
    refine o_lmul B 33 34 d3_33 rfl ?_
    refine o_aloadN B 34 35 (v := (.ref x1)) d3_34 rfl rfl rfl ?_
    refine o_iload B 35 37 (v := (gs 2)) d3_35 rfl rfl ?_
    refine o_iaload B 37 38 A1 (gs 2).toInt.toNat (gt (gs 2).toInt.toNat) d3_37 rfl (ix_of (own_ix (hs 2 (by decide)))).1 (ix_of (own_ix (hs 2 (by decide)))).2 (own_lt (hs 2 (by decide))) rfl ?_
    refine o_i2l B 38 39 d3_38 rfl ?_
    refine o_ladd B 39 40 d3_39 rfl ?_
    refine o_lstoreN B 40 41 (l' := #[.val (.ref x0), .val (.ref x1), .val (.ref x2), .val (.long (q3_3_3 gs gt gc)), .second, .val (.ref x0), .val (.int (3 : Int32)), .val (.int (2 : Int32)), .val (.int (gs 2))]) d3_40 rfl rfl ?_
    refine o_iincC B 41 44 (l' := #[.val (.ref x0), .val (.ref x1), .val (.ref x2), .val (.long (q3_3_3 gs gt gc)), .second, .val (.ref x0), .val (.int (3 : Int32)), .val (.int (3 : Int32)), .val (.int (gs 2))]) (1 : Int32) (3 : Int32) d3_41 rfl (by decide) rfl (by decide) rfl ?_
    refine o_goto B 44 13 d3_44 (by decide) (by decide) ?_
    refine o_iload B 13 15 (v := (3 : Int32)) d3_13 rfl rfl ?_
    refine o_iload B 15 17 (v := (3 : Int32)) d3_15 rfl rfl ?_
    refine o_icY B 17 47 d3_17 (XT.ii_ge_t (by decide)) (by decide) (by decide) ?_
    refine o_lloadN B 47 48 (v := (q3_3_3 gs gt gc)) d3_47 rfl rfl ?_
    refine o_retL B 48 d3_48 hret hlk (by decide) (by decide) ⟨(congrArg (fun z => some (Value.long z)) (show f3_3 gs gt gc = (q3_3_3 gs gt gc) from rfl)).symm, rfl, rfl⟩
def q3_4_1 (gs : Nat → Int32) (gt : Nat → Int32) (gc : Nat → Int32) : Int64 := (((0 : Int64) * (gc (gs 0).toInt.toNat).toInt64) + (gt (gs 0).toInt.toNat).toInt64)
def q3_4_2 (gs : Nat → Int32) (gt : Nat → Int32) (gc : Nat → Int32) : Int64 := (((q3_4_1 gs gt gc) * (gc (gs 1).toInt.toNat).toInt64) + (gt (gs 1).toInt.toNat).toInt64)
def q3_4_3 (gs : Nat → Int32) (gt : Nat → Int32) (gc : Nat → Int32) : Int64 := (((q3_4_2 gs gt gc) * (gc (gs 2).toInt.toNat).toInt64) + (gt (gs 2).toInt.toNat).toInt64)
def q3_4_4 (gs : Nat → Int32) (gt : Nat → Int32) (gc : Nat → Int32) : Int64 := (((q3_4_3 gs gt gc) * (gc (gs 3).toInt.toNat).toInt64) + (gt (gs 3).toInt.toNat).toInt64)
def f3_4 (gs : Nat → Int32) (gt : Nat → Int32) (gc : Nat → Int32) : Int64 := (q3_4_4 gs gt gc)
set_option maxRecDepth 65536 in
set_option maxHeartbeats 40000000 in
theorem rm3_4 (l : Launch) (Z : State) (a0 : Array Value) (hw : ∀ d ∈ tables_1, d.before a0 Z = true) (gs : Nat → Int32) (gt : Nat → Int32) (gc : Nat → Int32) (x0 : Addr) (x1 : Addr) (x2 : Addr) (h0 : Heap) (A0 : AI Z h0 x0 .int 4 gs) (A1 : AI Z h0 x1 .int 4 gt) (A2 : AI Z h0 x2 .int 4 gc) (hs : ∀ j, j < 4 → S4 (gs j)) :
    Met l Z (⟨"com/example/crosshatch/crosshatch/design/ParameterSets", "number", "([I[I[I)J"⟩ : MethodName) prog_6_method_6_code 9 (some .long) ({ frames := 0, cells := 0, slots := 0, locals := 0 } : Room) #[(.ref x0), (.ref x1), (.ref x2)] h0 (Pu (some (.long (f3_4 gs gt gc))) h0) := by
  refine enter pl3 #[.val (.ref x0), .val (.ref x1), .val (.ref x2), .unset, .unset, .unset, .unset, .unset, .unset] rfl ?_
  intro p e s m below meth c T B hret hlk hnm
  · refine o_lconst B 0 1 (0 : Int64) d3_0 rfl (by decide) ?_
    refine o_lstoreN B 1 2 (l' := #[.val (.ref x0), .val (.ref x1), .val (.ref x2), .val (.long (0 : Int64)), .second, .unset, .unset, .unset, .unset]) d3_1 rfl rfl ?_
    refine o_aloadN B 2 3 (v := (.ref x0)) d3_2 rfl rfl rfl ?_
    refine o_astore B 3 5 (l' := #[.val (.ref x0), .val (.ref x1), .val (.ref x2), .val (.long (0 : Int64)), .second, .val (.ref x0), .unset, .unset, .unset]) d3_3 rfl rfl rfl ?_
    refine o_aload B 5 7 (v := (.ref x0)) d3_5 rfl rfl rfl ?_
    refine o_alenI B 7 8 A0 (4 : Int32) d3_7 rfl (by decide) ?_
    refine o_istore B 8 10 (l' := #[.val (.ref x0), .val (.ref x1), .val (.ref x2), .val (.long (0 : Int64)), .second, .val (.ref x0), .val (.int (4 : Int32)), .unset, .unset]) d3_8 rfl rfl ?_
    refine o_iconst B 10 11 (0 : Int32) d3_10 rfl (by decide) ?_
    refine o_istore B 11 13 (l' := #[.val (.ref x0), .val (.ref x1), .val (.ref x2), .val (.long (0 : Int64)), .second, .val (.ref x0), .val (.int (4 : Int32)), .val (.int (0 : Int32)), .unset]) d3_11 rfl rfl ?_
    refine o_iload B 13 15 (v := (0 : Int32)) d3_13 rfl rfl ?_
    refine o_iload B 15 17 (v := (4 : Int32)) d3_15 rfl rfl ?_
    refine o_icN B 17 20 d3_17 rfl (XT.ii_ge_f (by decide)) ?_
    refine o_aload B 20 22 (v := (.ref x0)) d3_20 rfl rfl rfl ?_
    refine o_iload B 22 24 (v := (0 : Int32)) d3_22 rfl rfl ?_
    refine o_iaload B 24 25 A0 0 (gs 0) d3_24 rfl (by decide) (by decide) (by decide) rfl ?_
    refine o_istore B 25 27 (l' := #[.val (.ref x0), .val (.ref x1), .val (.ref x2), .val (.long (0 : Int64)), .second, .val (.ref x0), .val (.int (4 : Int32)), .val (.int (0 : Int32)), .val (.int (gs 0))]) d3_25 rfl rfl ?_
    refine o_lloadN B 27 28 (v := (0 : Int64)) d3_27 rfl rfl ?_
    refine o_aloadN B 28 29 (v := (.ref x2)) d3_28 rfl rfl rfl ?_
    refine o_iload B 29 31 (v := (gs 0)) d3_29 rfl rfl ?_
    refine o_iaload B 31 32 A2 (gs 0).toInt.toNat (gc (gs 0).toInt.toNat) d3_31 rfl (ix_of (own_ix (hs 0 (by decide)))).1 (ix_of (own_ix (hs 0 (by decide)))).2 (own_lt (hs 0 (by decide))) rfl ?_
    refine o_i2l B 32 33 d3_32 rfl ?_
    refine o_lmul B 33 34 d3_33 rfl ?_
    refine o_aloadN B 34 35 (v := (.ref x1)) d3_34 rfl rfl rfl ?_
    refine o_iload B 35 37 (v := (gs 0)) d3_35 rfl rfl ?_
    refine o_iaload B 37 38 A1 (gs 0).toInt.toNat (gt (gs 0).toInt.toNat) d3_37 rfl (ix_of (own_ix (hs 0 (by decide)))).1 (ix_of (own_ix (hs 0 (by decide)))).2 (own_lt (hs 0 (by decide))) rfl ?_
    refine o_i2l B 38 39 d3_38 rfl ?_
    refine o_ladd B 39 40 d3_39 rfl ?_
    refine o_lstoreN B 40 41 (l' := #[.val (.ref x0), .val (.ref x1), .val (.ref x2), .val (.long (q3_4_1 gs gt gc)), .second, .val (.ref x0), .val (.int (4 : Int32)), .val (.int (0 : Int32)), .val (.int (gs 0))]) d3_40 rfl rfl ?_
    refine o_iincC B 41 44 (l' := #[.val (.ref x0), .val (.ref x1), .val (.ref x2), .val (.long (q3_4_1 gs gt gc)), .second, .val (.ref x0), .val (.int (4 : Int32)), .val (.int (1 : Int32)), .val (.int (gs 0))]) (1 : Int32) (1 : Int32) d3_41 rfl (by decide) rfl (by decide) rfl ?_
    refine o_goto B 44 13 d3_44 (by decide) (by decide) ?_
    refine o_iload B 13 15 (v := (1 : Int32)) d3_13 rfl rfl ?_
    refine o_iload B 15 17 (v := (4 : Int32)) d3_15 rfl rfl ?_
    refine o_icN B 17 20 d3_17 rfl (XT.ii_ge_f (by decide)) ?_
    refine o_aload B 20 22 (v := (.ref x0)) d3_20 rfl rfl rfl ?_
    refine o_iload B 22 24 (v := (1 : Int32)) d3_22 rfl rfl ?_
    refine o_iaload B 24 25 A0 1 (gs 1) d3_24 rfl (by decide) (by decide) (by decide) rfl ?_
    refine o_istore B 25 27 (l' := #[.val (.ref x0), .val (.ref x1), .val (.ref x2), .val (.long (q3_4_1 gs gt gc)), .second, .val (.ref x0), .val (.int (4 : Int32)), .val (.int (1 : Int32)), .val (.int (gs 1))]) d3_25 rfl rfl ?_
    refine o_lloadN B 27 28 (v := (q3_4_1 gs gt gc)) d3_27 rfl rfl ?_
    refine o_aloadN B 28 29 (v := (.ref x2)) d3_28 rfl rfl rfl ?_
    refine o_iload B 29 31 (v := (gs 1)) d3_29 rfl rfl ?_
    refine o_iaload B 31 32 A2 (gs 1).toInt.toNat (gc (gs 1).toInt.toNat) d3_31 rfl (ix_of (own_ix (hs 1 (by decide)))).1 (ix_of (own_ix (hs 1 (by decide)))).2 (own_lt (hs 1 (by decide))) rfl ?_
    refine o_i2l B 32 33 d3_32 rfl ?_
    refine o_lmul B 33 34 d3_33 rfl ?_
    refine o_aloadN B 34 35 (v := (.ref x1)) d3_34 rfl rfl rfl ?_
    refine o_iload B 35 37 (v := (gs 1)) d3_35 rfl rfl ?_
    refine o_iaload B 37 38 A1 (gs 1).toInt.toNat (gt (gs 1).toInt.toNat) d3_37 rfl (ix_of (own_ix (hs 1 (by decide)))).1 (ix_of (own_ix (hs 1 (by decide)))).2 (own_lt (hs 1 (by decide))) rfl ?_
    refine o_i2l B 38 39 d3_38 rfl ?_
    refine o_ladd B 39 40 d3_39 rfl ?_
    refine o_lstoreN B 40 41 (l' := #[.val (.ref x0), .val (.ref x1), .val (.ref x2), .val (.long (q3_4_2 gs gt gc)), .second, .val (.ref x0), .val (.int (4 : Int32)), .val (.int (1 : Int32)), .val (.int (gs 1))]) d3_40 rfl rfl ?_
    refine o_iincC B 41 44 (l' := #[.val (.ref x0), .val (.ref x1), .val (.ref x2), .val (.long (q3_4_2 gs gt gc)), .second, .val (.ref x0), .val (.int (4 : Int32)), .val (.int (2 : Int32)), .val (.int (gs 1))]) (1 : Int32) (2 : Int32) d3_41 rfl (by decide) rfl (by decide) rfl ?_
    refine o_goto B 44 13 d3_44 (by decide) (by decide) ?_
    refine o_iload B 13 15 (v := (2 : Int32)) d3_13 rfl rfl ?_
    refine o_iload B 15 17 (v := (4 : Int32)) d3_15 rfl rfl ?_
    refine o_icN B 17 20 d3_17 rfl (XT.ii_ge_f (by decide)) ?_
    refine o_aload B 20 22 (v := (.ref x0)) d3_20 rfl rfl rfl ?_
    refine o_iload B 22 24 (v := (2 : Int32)) d3_22 rfl rfl ?_
    refine o_iaload B 24 25 A0 2 (gs 2) d3_24 rfl (by decide) (by decide) (by decide) rfl ?_
    refine o_istore B 25 27 (l' := #[.val (.ref x0), .val (.ref x1), .val (.ref x2), .val (.long (q3_4_2 gs gt gc)), .second, .val (.ref x0), .val (.int (4 : Int32)), .val (.int (2 : Int32)), .val (.int (gs 2))]) d3_25 rfl rfl ?_
    refine o_lloadN B 27 28 (v := (q3_4_2 gs gt gc)) d3_27 rfl rfl ?_
    refine o_aloadN B 28 29 (v := (.ref x2)) d3_28 rfl rfl rfl ?_
    refine o_iload B 29 31 (v := (gs 2)) d3_29 rfl rfl ?_
    refine o_iaload B 31 32 A2 (gs 2).toInt.toNat (gc (gs 2).toInt.toNat) d3_31 rfl (ix_of (own_ix (hs 2 (by decide)))).1 (ix_of (own_ix (hs 2 (by decide)))).2 (own_lt (hs 2 (by decide))) rfl ?_
    refine o_i2l B 32 33 d3_32 rfl ?_
    refine o_lmul B 33 34 d3_33 rfl ?_
    refine o_aloadN B 34 35 (v := (.ref x1)) d3_34 rfl rfl rfl ?_
    refine o_iload B 35 37 (v := (gs 2)) d3_35 rfl rfl ?_
    refine o_iaload B 37 38 A1 (gs 2).toInt.toNat (gt (gs 2).toInt.toNat) d3_37 rfl (ix_of (own_ix (hs 2 (by decide)))).1 (ix_of (own_ix (hs 2 (by decide)))).2 (own_lt (hs 2 (by decide))) rfl ?_
    refine o_i2l B 38 39 d3_38 rfl ?_
    refine o_ladd B 39 40 d3_39 rfl ?_
    refine o_lstoreN B 40 41 (l' := #[.val (.ref x0), .val (.ref x1), .val (.ref x2), .val (.long (q3_4_3 gs gt gc)), .second, .val (.ref x0), .val (.int (4 : Int32)), .val (.int (2 : Int32)), .val (.int (gs 2))]) d3_40 rfl rfl ?_
    refine o_iincC B 41 44 (l' := #[.val (.ref x0), .val (.ref x1), .val (.ref x2), .val (.long (q3_4_3 gs gt gc)), .second, .val (.ref x0), .val (.int (4 : Int32)), .val (.int (3 : Int32)), .val (.int (gs 2))]) (1 : Int32) (3 : Int32) d3_41 rfl (by decide) rfl (by decide) rfl ?_
    refine o_goto B 44 13 d3_44 (by decide) (by decide) ?_
    refine o_iload B 13 15 (v := (3 : Int32)) d3_13 rfl rfl ?_
    refine o_iload B 15 17 (v := (4 : Int32)) d3_15 rfl rfl ?_
    refine o_icN B 17 20 d3_17 rfl (XT.ii_ge_f (by decide)) ?_
    refine o_aload B 20 22 (v := (.ref x0)) d3_20 rfl rfl rfl ?_
    refine o_iload B 22 24 (v := (3 : Int32)) d3_22 rfl rfl ?_
    refine o_iaload B 24 25 A0 3 (gs 3) d3_24 rfl (by decide) (by decide) (by decide) rfl ?_
    refine o_istore B 25 27 (l' := #[.val (.ref x0), .val (.ref x1), .val (.ref x2), .val (.long (q3_4_3 gs gt gc)), .second, .val (.ref x0), .val (.int (4 : Int32)), .val (.int (3 : Int32)), .val (.int (gs 3))]) d3_25 rfl rfl ?_
    refine o_lloadN B 27 28 (v := (q3_4_3 gs gt gc)) d3_27 rfl rfl ?_
    refine o_aloadN B 28 29 (v := (.ref x2)) d3_28 rfl rfl rfl ?_
    refine o_iload B 29 31 (v := (gs 3)) d3_29 rfl rfl ?_
    refine o_iaload B 31 32 A2 (gs 3).toInt.toNat (gc (gs 3).toInt.toNat) d3_31 rfl (ix_of (own_ix (hs 3 (by decide)))).1 (ix_of (own_ix (hs 3 (by decide)))).2 (own_lt (hs 3 (by decide))) rfl ?_
    refine o_i2l B 32 33 d3_32 rfl ?_
    refine o_lmul B 33 34 d3_33 rfl ?_
    refine o_aloadN B 34 35 (v := (.ref x1)) d3_34 rfl rfl rfl ?_
    refine o_iload B 35 37 (v := (gs 3)) d3_35 rfl rfl ?_
    refine o_iaload B 37 38 A1 (gs 3).toInt.toNat (gt (gs 3).toInt.toNat) d3_37 rfl (ix_of (own_ix (hs 3 (by decide)))).1 (ix_of (own_ix (hs 3 (by decide)))).2 (own_lt (hs 3 (by decide))) rfl ?_
    refine o_i2l B 38 39 d3_38 rfl ?_
    refine o_ladd B 39 40 d3_39 rfl ?_
    refine o_lstoreN B 40 41 (l' := #[.val (.ref x0), .val (.ref x1), .val (.ref x2), .val (.long (q3_4_4 gs gt gc)), .second, .val (.ref x0), .val (.int (4 : Int32)), .val (.int (3 : Int32)), .val (.int (gs 3))]) d3_40 rfl rfl ?_
    refine o_iincC B 41 44 (l' := #[.val (.ref x0), .val (.ref x1), .val (.ref x2), .val (.long (q3_4_4 gs gt gc)), .second, .val (.ref x0), .val (.int (4 : Int32)), .val (.int (4 : Int32)), .val (.int (gs 3))]) (1 : Int32) (4 : Int32) d3_41 rfl (by decide) rfl (by decide) rfl ?_
    refine o_goto B 44 13 d3_44 (by decide) (by decide) ?_
    refine o_iload B 13 15 (v := (4 : Int32)) d3_13 rfl rfl ?_
    refine o_iload B 15 17 (v := (4 : Int32)) d3_15 rfl rfl ?_
    refine o_icY B 17 47 d3_17 (XT.ii_ge_t (by decide)) (by decide) (by decide) ?_
    refine o_lloadN B 47 48 (v := (q3_4_4 gs gt gc)) d3_47 rfl rfl ?_
    refine o_retL B 48 d3_48 hret hlk (by decide) (by decide) ⟨(congrArg (fun z => some (Value.long z)) (show f3_4 gs gt gc = (q3_4_4 gs gt gc) from rfl)).symm, rfl, rfl⟩
theorem pl0 : plainFor x = true := by first | exact plainFor_of_name (by first | (simp [plainName, overriddenIn]; done) | decide +kernel) | decide +kernel
theorem pd__J_I : parseMethodDescriptor "(J)I" = some ⟨[.long], some .int⟩ := by decide +kernel
theorem pd__JI_I : parseMethodDescriptor "(JI)I" = some ⟨[.long, .int], some .int⟩ := by decide +kernel
theorem pd___I_I_I_J : parseMethodDescriptor "([I[I[I)J" = some ⟨[(.array .int), (.array .int), (.array .int)], some .long⟩ := by decide +kernel
def q0_1 (shape : Int32) (p0 : Int64) (p1 : Int64) (p2 : Int64) (p3 : Int64) : Int32 := (f1 p0)
def w0_2 (shape : Int32) (p0 : Int64) (p1 : Int64) (p2 : Int64) (p3 : Int64) : Nat → Int32 := fun j => if j = 0 then (q0_1 shape p0 p1 p2 p3) else (fun _ => 0) j
def q0_3 (shape : Int32) (p0 : Int64) (p1 : Int64) (p2 : Int64) (p3 : Int64) : Int32 := (f1 p1)
def w0_4 (shape : Int32) (p0 : Int64) (p1 : Int64) (p2 : Int64) (p3 : Int64) : Nat → Int32 := fun j => if j = 1 then (q0_3 shape p0 p1 p2 p3) else (w0_2 shape p0 p1 p2 p3) j
def q0_5 (shape : Int32) (p0 : Int64) (p1 : Int64) (p2 : Int64) (p3 : Int64) : Int32 := (f1 p2)
def w0_6 (shape : Int32) (p0 : Int64) (p1 : Int64) (p2 : Int64) (p3 : Int64) : Nat → Int32 := fun j => if j = 2 then (q0_5 shape p0 p1 p2 p3) else (w0_4 shape p0 p1 p2 p3) j
def q0_7 (shape : Int32) (p0 : Int64) (p1 : Int64) (p2 : Int64) (p3 : Int64) : Int32 := (f1 p3)
def w0_8 (shape : Int32) (p0 : Int64) (p1 : Int64) (p2 : Int64) (p3 : Int64) : Nat → Int32 := fun j => if j = 3 then (q0_7 shape p0 p1 p2 p3) else (w0_6 shape p0 p1 p2 p3) j
def q0_9 (shape : Int32) (p0 : Int64) (p1 : Int64) (p2 : Int64) (p3 : Int64) : Int32 := (f2 p0 (q0_1 shape p0 p1 p2 p3))
def w0_10 (shape : Int32) (p0 : Int64) (p1 : Int64) (p2 : Int64) (p3 : Int64) : Nat → Int32 := fun j => if j = 0 then (q0_9 shape p0 p1 p2 p3) else (fun _ => 0) j
def q0_11 (shape : Int32) (p0 : Int64) (p1 : Int64) (p2 : Int64) (p3 : Int64) : Int32 := (f2 p1 (q0_3 shape p0 p1 p2 p3))
def w0_12 (shape : Int32) (p0 : Int64) (p1 : Int64) (p2 : Int64) (p3 : Int64) : Nat → Int32 := fun j => if j = 1 then (q0_11 shape p0 p1 p2 p3) else (w0_10 shape p0 p1 p2 p3) j
def q0_13 (shape : Int32) (p0 : Int64) (p1 : Int64) (p2 : Int64) (p3 : Int64) : Int32 := (f2 p2 (q0_5 shape p0 p1 p2 p3))
def w0_14 (shape : Int32) (p0 : Int64) (p1 : Int64) (p2 : Int64) (p3 : Int64) : Nat → Int32 := fun j => if j = 2 then (q0_13 shape p0 p1 p2 p3) else (w0_12 shape p0 p1 p2 p3) j
def q0_15 (shape : Int32) (p0 : Int64) (p1 : Int64) (p2 : Int64) (p3 : Int64) : Int32 := (f2 p3 (q0_7 shape p0 p1 p2 p3))
def w0_16 (shape : Int32) (p0 : Int64) (p1 : Int64) (p2 : Int64) (p3 : Int64) : Nat → Int32 := fun j => if j = 3 then (q0_15 shape p0 p1 p2 p3) else (w0_14 shape p0 p1 p2 p3) j
def q0_17 (shape : Int32) (p0 : Int64) (p1 : Int64) (p2 : Int64) (p3 : Int64) : Int32 := ((shape &&& (7 : Int32)) % (5 : Int32))
def q0_18 (shape : Int32) (p0 : Int64) (p1 : Int64) (p2 : Int64) (p3 : Int64) : Int32 := (XT.ushr shape (3 : Int32))
def w0_19 (shape : Int32) (p0 : Int64) (p1 : Int64) (p2 : Int64) (p3 : Int64) : Nat → Int64 := fun j => if j = 0 then (0 : Int64) else (fun _ => 0) j
def w0_20 (shape : Int32) (p0 : Int64) (p1 : Int64) (p2 : Int64) (p3 : Int64) : Nat → Int64 := fun j => if j = 1 then (0 : Int64) else (w0_19 shape p0 p1 p2 p3) j
def w0_21 (shape : Int32) (p0 : Int64) (p1 : Int64) (p2 : Int64) (p3 : Int64) : Nat → Int64 := fun j => if j = 2 then (0 : Int64) else (w0_20 shape p0 p1 p2 p3) j
def w0_22 (shape : Int32) (p0 : Int64) (p1 : Int64) (p2 : Int64) (p3 : Int64) : Nat → Int64 := fun j => if j = 3 then (0 : Int64) else (w0_21 shape p0 p1 p2 p3) j
def w0_23 (shape : Int32) (p0 : Int64) (p1 : Int64) (p2 : Int64) (p3 : Int64) : Nat → Int64 := fun j => if j = 0 then (1 : Int64) else (fun _ => 0) j
def w0_24 (shape : Int32) (p0 : Int64) (p1 : Int64) (p2 : Int64) (p3 : Int64) : Nat → Int64 := fun j => if j = 1 then (1 : Int64) else (w0_23 shape p0 p1 p2 p3) j
def w0_25 (shape : Int32) (p0 : Int64) (p1 : Int64) (p2 : Int64) (p3 : Int64) : Nat → Int64 := fun j => if j = 2 then (1 : Int64) else (w0_24 shape p0 p1 p2 p3) j
def w0_26 (shape : Int32) (p0 : Int64) (p1 : Int64) (p2 : Int64) (p3 : Int64) : Nat → Int64 := fun j => if j = 3 then (1 : Int64) else (w0_25 shape p0 p1 p2 p3) j
def q0_27 (shape : Int32) (p0 : Int64) (p1 : Int64) (p2 : Int64) (p3 : Int64) : Int64 := (f3_0 (fun _ => 0) (w0_16 shape p0 p1 p2 p3) (w0_8 shape p0 p1 p2 p3))
def q0_28 (shape : Int32) (p0 : Int64) (p1 : Int64) (p2 : Int64) (p3 : Int64) : Int32 := ((q0_18 shape p0 p1 p2 p3) &&& (3 : Int32))
def w0_29 (shape : Int32) (p0 : Int64) (p1 : Int64) (p2 : Int64) (p3 : Int64) : Nat → Int32 := fun j => if j = 0 then (q0_28 shape p0 p1 p2 p3) else (fun _ => 0) j
def q0_30 (shape : Int32) (p0 : Int64) (p1 : Int64) (p2 : Int64) (p3 : Int64) : Int64 := ((w0_16 shape p0 p1 p2 p3) (q0_28 shape p0 p1 p2 p3).toInt.toNat).toInt64
def w0_31 (shape : Int32) (p0 : Int64) (p1 : Int64) (p2 : Int64) (p3 : Int64) : Nat → Int64 := fun j => if j = 3 then (q0_30 shape p0 p1 p2 p3) else (w0_22 shape p0 p1 p2 p3) j
def q0_32 (shape : Int32) (p0 : Int64) (p1 : Int64) (p2 : Int64) (p3 : Int64) : Int64 := ((w0_8 shape p0 p1 p2 p3) (q0_28 shape p0 p1 p2 p3).toInt.toNat).toInt64
def w0_33 (shape : Int32) (p0 : Int64) (p1 : Int64) (p2 : Int64) (p3 : Int64) : Nat → Int64 := fun j => if j = 3 then (q0_32 shape p0 p1 p2 p3) else (w0_26 shape p0 p1 p2 p3) j
def q0_34 (shape : Int32) (p0 : Int64) (p1 : Int64) (p2 : Int64) (p3 : Int64) : Int64 := (((((0 : Int64) * (q0_32 shape p0 p1 p2 p3)) + ((0 : Int64) * (q0_32 shape p0 p1 p2 p3))) + ((0 : Int64) * (q0_32 shape p0 p1 p2 p3))) + (q0_30 shape p0 p1 p2 p3))
def q0_35 (shape : Int32) (p0 : Int64) (p1 : Int64) (p2 : Int64) (p3 : Int64) : Int64 := (f3_1 (w0_29 shape p0 p1 p2 p3) (w0_16 shape p0 p1 p2 p3) (w0_8 shape p0 p1 p2 p3))
def w0_36 (shape : Int32) (p0 : Int64) (p1 : Int64) (p2 : Int64) (p3 : Int64) : Nat → Int32 := fun j => if j = 0 then (0 : Int32) else (fun _ => 0) j
def w0_37 (shape : Int32) (p0 : Int64) (p1 : Int64) (p2 : Int64) (p3 : Int64) : Nat → Int32 := fun j => if j = 1 then (0 : Int32) else (w0_36 shape p0 p1 p2 p3) j
def w0_38 (shape : Int32) (p0 : Int64) (p1 : Int64) (p2 : Int64) (p3 : Int64) : Nat → Int32 := fun j => if j = 2 then (0 : Int32) else (w0_37 shape p0 p1 p2 p3) j
def w0_39 (shape : Int32) (p0 : Int64) (p1 : Int64) (p2 : Int64) (p3 : Int64) : Nat → Int32 := fun j => if j = 3 then (1 : Int32) else (w0_38 shape p0 p1 p2 p3) j
def w0_40 (shape : Int32) (p0 : Int64) (p1 : Int64) (p2 : Int64) (p3 : Int64) : Nat → Int32 := fun j => if j = 4 then (1 : Int32) else (w0_39 shape p0 p1 p2 p3) j
def w0_41 (shape : Int32) (p0 : Int64) (p1 : Int64) (p2 : Int64) (p3 : Int64) : Nat → Int32 := fun j => if j = 5 then (2 : Int32) else (w0_40 shape p0 p1 p2 p3) j
def w0_42 (shape : Int32) (p0 : Int64) (p1 : Int64) (p2 : Int64) (p3 : Int64) : Nat → Int32 := fun j => if j = 0 then (1 : Int32) else (fun _ => 0) j
def w0_43 (shape : Int32) (p0 : Int64) (p1 : Int64) (p2 : Int64) (p3 : Int64) : Nat → Int32 := fun j => if j = 1 then (2 : Int32) else (w0_42 shape p0 p1 p2 p3) j
def w0_44 (shape : Int32) (p0 : Int64) (p1 : Int64) (p2 : Int64) (p3 : Int64) : Nat → Int32 := fun j => if j = 2 then (3 : Int32) else (w0_43 shape p0 p1 p2 p3) j
def w0_45 (shape : Int32) (p0 : Int64) (p1 : Int64) (p2 : Int64) (p3 : Int64) : Nat → Int32 := fun j => if j = 3 then (2 : Int32) else (w0_44 shape p0 p1 p2 p3) j
def w0_46 (shape : Int32) (p0 : Int64) (p1 : Int64) (p2 : Int64) (p3 : Int64) : Nat → Int32 := fun j => if j = 4 then (3 : Int32) else (w0_45 shape p0 p1 p2 p3) j
def w0_47 (shape : Int32) (p0 : Int64) (p1 : Int64) (p2 : Int64) (p3 : Int64) : Nat → Int32 := fun j => if j = 5 then (3 : Int32) else (w0_46 shape p0 p1 p2 p3) j
def q0_48 (shape : Int32) (p0 : Int64) (p1 : Int64) (p2 : Int64) (p3 : Int64) : Int32 := (((q0_18 shape p0 p1 p2 p3) &&& (65535 : Int32)) % (6 : Int32))
def q0_49 (shape : Int32) (p0 : Int64) (p1 : Int64) (p2 : Int64) (p3 : Int64) : Int32 := ((w0_41 shape p0 p1 p2 p3) (q0_48 shape p0 p1 p2 p3).toInt.toNat)
def w0_50 (shape : Int32) (p0 : Int64) (p1 : Int64) (p2 : Int64) (p3 : Int64) : Nat → Int32 := fun j => if j = 0 then (q0_49 shape p0 p1 p2 p3) else (fun _ => 0) j
def q0_51 (shape : Int32) (p0 : Int64) (p1 : Int64) (p2 : Int64) (p3 : Int64) : Int32 := ((w0_47 shape p0 p1 p2 p3) (q0_48 shape p0 p1 p2 p3).toInt.toNat)
def w0_52 (shape : Int32) (p0 : Int64) (p1 : Int64) (p2 : Int64) (p3 : Int64) : Nat → Int32 := fun j => if j = 1 then (q0_51 shape p0 p1 p2 p3) else (w0_50 shape p0 p1 p2 p3) j
def q0_53 (shape : Int32) (p0 : Int64) (p1 : Int64) (p2 : Int64) (p3 : Int64) : Int64 := ((w0_16 shape p0 p1 p2 p3) (q0_49 shape p0 p1 p2 p3).toInt.toNat).toInt64
def w0_54 (shape : Int32) (p0 : Int64) (p1 : Int64) (p2 : Int64) (p3 : Int64) : Nat → Int64 := fun j => if j = 2 then (q0_53 shape p0 p1 p2 p3) else (w0_22 shape p0 p1 p2 p3) j
def q0_55 (shape : Int32) (p0 : Int64) (p1 : Int64) (p2 : Int64) (p3 : Int64) : Int64 := ((w0_8 shape p0 p1 p2 p3) (q0_49 shape p0 p1 p2 p3).toInt.toNat).toInt64
def w0_56 (shape : Int32) (p0 : Int64) (p1 : Int64) (p2 : Int64) (p3 : Int64) : Nat → Int64 := fun j => if j = 2 then (q0_55 shape p0 p1 p2 p3) else (w0_26 shape p0 p1 p2 p3) j
def q0_57 (shape : Int32) (p0 : Int64) (p1 : Int64) (p2 : Int64) (p3 : Int64) : Int64 := ((w0_16 shape p0 p1 p2 p3) (q0_51 shape p0 p1 p2 p3).toInt.toNat).toInt64
def w0_58 (shape : Int32) (p0 : Int64) (p1 : Int64) (p2 : Int64) (p3 : Int64) : Nat → Int64 := fun j => if j = 3 then (q0_57 shape p0 p1 p2 p3) else (w0_54 shape p0 p1 p2 p3) j
def q0_59 (shape : Int32) (p0 : Int64) (p1 : Int64) (p2 : Int64) (p3 : Int64) : Int64 := ((w0_8 shape p0 p1 p2 p3) (q0_51 shape p0 p1 p2 p3).toInt.toNat).toInt64
def w0_60 (shape : Int32) (p0 : Int64) (p1 : Int64) (p2 : Int64) (p3 : Int64) : Nat → Int64 := fun j => if j = 3 then (q0_59 shape p0 p1 p2 p3) else (w0_56 shape p0 p1 p2 p3) j
def q0_61 (shape : Int32) (p0 : Int64) (p1 : Int64) (p2 : Int64) (p3 : Int64) : Int64 := ((((((0 : Int64) * (q0_55 shape p0 p1 p2 p3)) * (q0_59 shape p0 p1 p2 p3)) + (((0 : Int64) * (q0_55 shape p0 p1 p2 p3)) * (q0_59 shape p0 p1 p2 p3))) + ((q0_53 shape p0 p1 p2 p3) * (q0_59 shape p0 p1 p2 p3))) + (q0_57 shape p0 p1 p2 p3))
def q0_62 (shape : Int32) (p0 : Int64) (p1 : Int64) (p2 : Int64) (p3 : Int64) : Int64 := (((1 : Int64) * (q0_55 shape p0 p1 p2 p3)) * (q0_59 shape p0 p1 p2 p3))
def q0_63 (shape : Int32) (p0 : Int64) (p1 : Int64) (p2 : Int64) (p3 : Int64) : Int64 := (f3_2 (w0_52 shape p0 p1 p2 p3) (w0_16 shape p0 p1 p2 p3) (w0_8 shape p0 p1 p2 p3))
def q0_64 (shape : Int32) (p0 : Int64) (p1 : Int64) (p2 : Int64) (p3 : Int64) : Int32 := (if (q0_28 shape p0 p1 p2 p3) = 0 then (1 : Int32) else 0)
def q0_65 (shape : Int32) (p0 : Int64) (p1 : Int64) (p2 : Int64) (p3 : Int64) : Int32 := (q0_64 shape p0 p1 p2 p3)
def w0_66 (shape : Int32) (p0 : Int64) (p1 : Int64) (p2 : Int64) (p3 : Int64) : Nat → Int32 := fun j => if j = 0 then (q0_65 shape p0 p1 p2 p3) else (fun _ => 0) j
def q0_67 (shape : Int32) (p0 : Int64) (p1 : Int64) (p2 : Int64) (p3 : Int64) : Int32 := (if (1 : Int32) < (q0_28 shape p0 p1 p2 p3) then (1 : Int32) else (2 : Int32))
def q0_68 (shape : Int32) (p0 : Int64) (p1 : Int64) (p2 : Int64) (p3 : Int64) : Int32 := (q0_67 shape p0 p1 p2 p3)
def w0_69 (shape : Int32) (p0 : Int64) (p1 : Int64) (p2 : Int64) (p3 : Int64) : Nat → Int32 := fun j => if j = 1 then (q0_68 shape p0 p1 p2 p3) else (w0_66 shape p0 p1 p2 p3) j
def q0_70 (shape : Int32) (p0 : Int64) (p1 : Int64) (p2 : Int64) (p3 : Int64) : Int32 := (if (2 : Int32) < (q0_28 shape p0 p1 p2 p3) then (2 : Int32) else (3 : Int32))
def q0_71 (shape : Int32) (p0 : Int64) (p1 : Int64) (p2 : Int64) (p3 : Int64) : Int32 := (q0_70 shape p0 p1 p2 p3)
def w0_72 (shape : Int32) (p0 : Int64) (p1 : Int64) (p2 : Int64) (p3 : Int64) : Nat → Int32 := fun j => if j = 2 then (q0_71 shape p0 p1 p2 p3) else (w0_69 shape p0 p1 p2 p3) j
def q0_73 (shape : Int32) (p0 : Int64) (p1 : Int64) (p2 : Int64) (p3 : Int64) : Int64 := ((w0_16 shape p0 p1 p2 p3) (q0_65 shape p0 p1 p2 p3).toInt.toNat).toInt64
def w0_74 (shape : Int32) (p0 : Int64) (p1 : Int64) (p2 : Int64) (p3 : Int64) : Nat → Int64 := fun j => if j = 1 then (q0_73 shape p0 p1 p2 p3) else (w0_22 shape p0 p1 p2 p3) j
def q0_75 (shape : Int32) (p0 : Int64) (p1 : Int64) (p2 : Int64) (p3 : Int64) : Int64 := ((w0_8 shape p0 p1 p2 p3) (q0_65 shape p0 p1 p2 p3).toInt.toNat).toInt64
def w0_76 (shape : Int32) (p0 : Int64) (p1 : Int64) (p2 : Int64) (p3 : Int64) : Nat → Int64 := fun j => if j = 1 then (q0_75 shape p0 p1 p2 p3) else (w0_26 shape p0 p1 p2 p3) j
def q0_77 (shape : Int32) (p0 : Int64) (p1 : Int64) (p2 : Int64) (p3 : Int64) : Int64 := ((w0_16 shape p0 p1 p2 p3) (q0_68 shape p0 p1 p2 p3).toInt.toNat).toInt64
def w0_78 (shape : Int32) (p0 : Int64) (p1 : Int64) (p2 : Int64) (p3 : Int64) : Nat → Int64 := fun j => if j = 2 then (q0_77 shape p0 p1 p2 p3) else (w0_74 shape p0 p1 p2 p3) j
def q0_79 (shape : Int32) (p0 : Int64) (p1 : Int64) (p2 : Int64) (p3 : Int64) : Int64 := ((w0_8 shape p0 p1 p2 p3) (q0_68 shape p0 p1 p2 p3).toInt.toNat).toInt64
def w0_80 (shape : Int32) (p0 : Int64) (p1 : Int64) (p2 : Int64) (p3 : Int64) : Nat → Int64 := fun j => if j = 2 then (q0_79 shape p0 p1 p2 p3) else (w0_76 shape p0 p1 p2 p3) j
def q0_81 (shape : Int32) (p0 : Int64) (p1 : Int64) (p2 : Int64) (p3 : Int64) : Int64 := ((w0_16 shape p0 p1 p2 p3) (q0_71 shape p0 p1 p2 p3).toInt.toNat).toInt64
def w0_82 (shape : Int32) (p0 : Int64) (p1 : Int64) (p2 : Int64) (p3 : Int64) : Nat → Int64 := fun j => if j = 3 then (q0_81 shape p0 p1 p2 p3) else (w0_78 shape p0 p1 p2 p3) j
def q0_83 (shape : Int32) (p0 : Int64) (p1 : Int64) (p2 : Int64) (p3 : Int64) : Int64 := ((w0_8 shape p0 p1 p2 p3) (q0_71 shape p0 p1 p2 p3).toInt.toNat).toInt64
def w0_84 (shape : Int32) (p0 : Int64) (p1 : Int64) (p2 : Int64) (p3 : Int64) : Nat → Int64 := fun j => if j = 3 then (q0_83 shape p0 p1 p2 p3) else (w0_80 shape p0 p1 p2 p3) j
def q0_85 (shape : Int32) (p0 : Int64) (p1 : Int64) (p2 : Int64) (p3 : Int64) : Int64 := (((((((0 : Int64) * (q0_75 shape p0 p1 p2 p3)) * (q0_79 shape p0 p1 p2 p3)) * (q0_83 shape p0 p1 p2 p3)) + (((q0_73 shape p0 p1 p2 p3) * (q0_79 shape p0 p1 p2 p3)) * (q0_83 shape p0 p1 p2 p3))) + ((q0_77 shape p0 p1 p2 p3) * (q0_83 shape p0 p1 p2 p3))) + (q0_81 shape p0 p1 p2 p3))
def q0_86 (shape : Int32) (p0 : Int64) (p1 : Int64) (p2 : Int64) (p3 : Int64) : Int64 := ((((1 : Int64) * (q0_75 shape p0 p1 p2 p3)) * (q0_79 shape p0 p1 p2 p3)) * (q0_83 shape p0 p1 p2 p3))
def q0_87 (shape : Int32) (p0 : Int64) (p1 : Int64) (p2 : Int64) (p3 : Int64) : Int64 := (f3_3 (w0_72 shape p0 p1 p2 p3) (w0_16 shape p0 p1 p2 p3) (w0_8 shape p0 p1 p2 p3))
def w0_88 (shape : Int32) (p0 : Int64) (p1 : Int64) (p2 : Int64) (p3 : Int64) : Nat → Int32 := fun j => if j = 1 then (1 : Int32) else (w0_36 shape p0 p1 p2 p3) j
def w0_89 (shape : Int32) (p0 : Int64) (p1 : Int64) (p2 : Int64) (p3 : Int64) : Nat → Int32 := fun j => if j = 2 then (2 : Int32) else (w0_88 shape p0 p1 p2 p3) j
def w0_90 (shape : Int32) (p0 : Int64) (p1 : Int64) (p2 : Int64) (p3 : Int64) : Nat → Int32 := fun j => if j = 3 then (3 : Int32) else (w0_89 shape p0 p1 p2 p3) j
def w0_91 (shape : Int32) (p0 : Int64) (p1 : Int64) (p2 : Int64) (p3 : Int64) : Nat → Int64 := fun j => if j = 0 then (q0_9 shape p0 p1 p2 p3).toInt64 else (w0_22 shape p0 p1 p2 p3) j
def w0_92 (shape : Int32) (p0 : Int64) (p1 : Int64) (p2 : Int64) (p3 : Int64) : Nat → Int64 := fun j => if j = 0 then (q0_1 shape p0 p1 p2 p3).toInt64 else (w0_26 shape p0 p1 p2 p3) j
def w0_93 (shape : Int32) (p0 : Int64) (p1 : Int64) (p2 : Int64) (p3 : Int64) : Nat → Int64 := fun j => if j = 1 then (q0_11 shape p0 p1 p2 p3).toInt64 else (w0_91 shape p0 p1 p2 p3) j
def w0_94 (shape : Int32) (p0 : Int64) (p1 : Int64) (p2 : Int64) (p3 : Int64) : Nat → Int64 := fun j => if j = 1 then (q0_3 shape p0 p1 p2 p3).toInt64 else (w0_92 shape p0 p1 p2 p3) j
def w0_95 (shape : Int32) (p0 : Int64) (p1 : Int64) (p2 : Int64) (p3 : Int64) : Nat → Int64 := fun j => if j = 2 then (q0_13 shape p0 p1 p2 p3).toInt64 else (w0_93 shape p0 p1 p2 p3) j
def w0_96 (shape : Int32) (p0 : Int64) (p1 : Int64) (p2 : Int64) (p3 : Int64) : Nat → Int64 := fun j => if j = 2 then (q0_5 shape p0 p1 p2 p3).toInt64 else (w0_94 shape p0 p1 p2 p3) j
def w0_97 (shape : Int32) (p0 : Int64) (p1 : Int64) (p2 : Int64) (p3 : Int64) : Nat → Int64 := fun j => if j = 3 then (q0_15 shape p0 p1 p2 p3).toInt64 else (w0_95 shape p0 p1 p2 p3) j
def w0_98 (shape : Int32) (p0 : Int64) (p1 : Int64) (p2 : Int64) (p3 : Int64) : Nat → Int64 := fun j => if j = 3 then (q0_7 shape p0 p1 p2 p3).toInt64 else (w0_96 shape p0 p1 p2 p3) j
def q0_99 (shape : Int32) (p0 : Int64) (p1 : Int64) (p2 : Int64) (p3 : Int64) : Int64 := (((((((q0_9 shape p0 p1 p2 p3).toInt64 * (q0_3 shape p0 p1 p2 p3).toInt64) * (q0_5 shape p0 p1 p2 p3).toInt64) * (q0_7 shape p0 p1 p2 p3).toInt64) + (((q0_11 shape p0 p1 p2 p3).toInt64 * (q0_5 shape p0 p1 p2 p3).toInt64) * (q0_7 shape p0 p1 p2 p3).toInt64)) + ((q0_13 shape p0 p1 p2 p3).toInt64 * (q0_7 shape p0 p1 p2 p3).toInt64)) + (q0_15 shape p0 p1 p2 p3).toInt64)
def q0_100 (shape : Int32) (p0 : Int64) (p1 : Int64) (p2 : Int64) (p3 : Int64) : Int64 := ((((q0_1 shape p0 p1 p2 p3).toInt64 * (q0_3 shape p0 p1 p2 p3).toInt64) * (q0_5 shape p0 p1 p2 p3).toInt64) * (q0_7 shape p0 p1 p2 p3).toInt64)
def q0_101 (shape : Int32) (p0 : Int64) (p1 : Int64) (p2 : Int64) (p3 : Int64) : Int64 := (f3_4 (w0_90 shape p0 p1 p2 p3) (w0_16 shape p0 p1 p2 p3) (w0_8 shape p0 p1 p2 p3))
def f0 (shape : Int32) (p0 : Int64) (p1 : Int64) (p2 : Int64) (p3 : Int64) : Int32 := (if (q0_17 shape p0 p1 p2 p3) = (0 : Int32) then (if (q0_27 shape p0 p1 p2 p3) = (0 : Int64) then (if (q0_27 shape p0 p1 p2 p3) < (0 : Int64) then (0 : Int32) else (if (q0_27 shape p0 p1 p2 p3) < (1 : Int64) then (1 : Int32) else (0 : Int32))) else (0 : Int32)) else (if (q0_17 shape p0 p1 p2 p3) = (1 : Int32) then (if (q0_35 shape p0 p1 p2 p3) = (q0_34 shape p0 p1 p2 p3) then (if (q0_35 shape p0 p1 p2 p3) < (0 : Int64) then (0 : Int32) else (if (q0_35 shape p0 p1 p2 p3) < ((1 : Int64) * (q0_32 shape p0 p1 p2 p3)) then (1 : Int32) else (0 : Int32))) else (0 : Int32)) else (if (q0_17 shape p0 p1 p2 p3) = (2 : Int32) then (if (q0_63 shape p0 p1 p2 p3) = (q0_61 shape p0 p1 p2 p3) then (if (q0_63 shape p0 p1 p2 p3) < (0 : Int64) then (0 : Int32) else (if (q0_63 shape p0 p1 p2 p3) < (q0_62 shape p0 p1 p2 p3) then (1 : Int32) else (0 : Int32))) else (0 : Int32)) else (if (q0_17 shape p0 p1 p2 p3) = (3 : Int32) then (if (q0_87 shape p0 p1 p2 p3) = (q0_85 shape p0 p1 p2 p3) then (if (q0_87 shape p0 p1 p2 p3) < (0 : Int64) then (0 : Int32) else (if (q0_87 shape p0 p1 p2 p3) < (q0_86 shape p0 p1 p2 p3) then (1 : Int32) else (0 : Int32))) else (0 : Int32)) else (if (q0_101 shape p0 p1 p2 p3) = (q0_99 shape p0 p1 p2 p3) then (if (q0_101 shape p0 p1 p2 p3) < (0 : Int64) then (0 : Int32) else (if (q0_101 shape p0 p1 p2 p3) < (q0_100 shape p0 p1 p2 p3) then (1 : Int32) else (0 : Int32))) else (0 : Int32))))))
theorem own_k (shape : Int32) (p0 p1 p2 p3 : Int64) (h0 : ¬ q0_17 shape p0 p1 p2 p3 = 0) (h1 : ¬ q0_17 shape p0 p1 p2 p3 = 1) (h2 : ¬ q0_17 shape p0 p1 p2 p3 = 2) (h3 : ¬ q0_17 shape p0 p1 p2 p3 = 3) : q0_17 shape p0 p1 p2 p3 = 4 := by
  have m := c_mask shape 7 3 (by decide) (by decide)
  have r := c_irem (shape &&& 7) 5 5 (by decide)
  have e : (q0_17 shape p0 p1 p2 p3).toInt = ((shape &&& 7) % 5).toInt := rfl
  simp only [← Int32.toInt_inj, Int32.reduceToInt] at *
  omega
theorem own_b_q0_28 (shape : Int32) (p0 p1 p2 p3 : Int64) : S4 (q0_28 shape p0 p1 p2 p3) := by
  have m := c_mask (q0_18 shape p0 p1 p2 p3) 3 2 (by decide) (by decide)
  unfold S4 q0_28
  omega
theorem own_i6' (shape : Int32) (p0 p1 p2 p3 : Int64) : 0 ≤ (q0_48 shape p0 p1 p2 p3).toInt ∧ (q0_48 shape p0 p1 p2 p3).toInt < 6 := by
  have m := c_mask (q0_18 shape p0 p1 p2 p3) 65535 16 (by decide) (by decide)
  have r := c_irem (q0_18 shape p0 p1 p2 p3 &&& 65535) 6 6 (by decide)
  unfold q0_48
  omega
theorem own_i6 (shape : Int32) (p0 p1 p2 p3 : Int64) : (q0_48 shape p0 p1 p2 p3).toInt = ((q0_48 shape p0 p1 p2 p3).toInt.toNat : Nat) := by have := own_i6' shape p0 p1 p2 p3; omega
theorem own_l6 (shape : Int32) (p0 p1 p2 p3 : Int64) : (q0_48 shape p0 p1 p2 p3).toInt.toNat < 6 := by have := own_i6' shape p0 p1 p2 p3; omega
theorem own_a6 (shape : Int32) (p0 p1 p2 p3 : Int64) (i : Nat) (h : i < 6) : S4 (w0_41 shape p0 p1 p2 p3 i) ∧ S4 (w0_47 shape p0 p1 p2 p3 i) := by
  match i, h with
  | 0, _ => exact ⟨(show S4 0 by unfold S4; decide), (show S4 1 by unfold S4; decide)⟩
  | 1, _ => exact ⟨(show S4 0 by unfold S4; decide), (show S4 2 by unfold S4; decide)⟩
  | 2, _ => exact ⟨(show S4 0 by unfold S4; decide), (show S4 3 by unfold S4; decide)⟩
  | 3, _ => exact ⟨(show S4 1 by unfold S4; decide), (show S4 2 by unfold S4; decide)⟩
  | 4, _ => exact ⟨(show S4 1 by unfold S4; decide), (show S4 3 by unfold S4; decide)⟩
  | 5, _ => exact ⟨(show S4 2 by unfold S4; decide), (show S4 3 by unfold S4; decide)⟩
theorem own_b_q0_49 (shape : Int32) (p0 p1 p2 p3 : Int64) : S4 (q0_49 shape p0 p1 p2 p3) := (own_a6 shape p0 p1 p2 p3 _ (own_l6 shape p0 p1 p2 p3)).1
theorem own_b_q0_51 (shape : Int32) (p0 p1 p2 p3 : Int64) : S4 (q0_51 shape p0 p1 p2 p3) := (own_a6 shape p0 p1 p2 p3 _ (own_l6 shape p0 p1 p2 p3)).2
theorem own_b_q0_65 (shape : Int32) (p0 p1 p2 p3 : Int64) : S4 (q0_65 shape p0 p1 p2 p3) := by
  unfold q0_65 q0_64; split <;> (unfold S4; decide)
theorem own_b_q0_68 (shape : Int32) (p0 p1 p2 p3 : Int64) : S4 (q0_68 shape p0 p1 p2 p3) := by
  unfold q0_68 q0_67; split <;> (unfold S4; decide)
theorem own_b_q0_71 (shape : Int32) (p0 p1 p2 p3 : Int64) : S4 (q0_71 shape p0 p1 p2 p3) := by
  unfold q0_71 q0_70; split <;> (unfold S4; decide)
theorem own_hs0 {g : Nat → Int32} : ∀ j, j < 0 → S4 (g j) := fun j h => absurd h (Nat.not_lt_zero j)
theorem own_hs1 {g : Nat → Int32} (h0 : S4 (g 0)) : ∀ j, j < 1 → S4 (g j) := by
  intro j hj
  match j, hj with
  | 0, _ => exact h0
theorem own_hs2 {g : Nat → Int32} (h0 : S4 (g 0)) (h1 : S4 (g 1)) : ∀ j, j < 2 → S4 (g j) := by
  intro j hj
  match j, hj with
  | 0, _ => exact h0
  | 1, _ => exact h1
theorem own_hs3 {g : Nat → Int32} (h0 : S4 (g 0)) (h1 : S4 (g 1)) (h2 : S4 (g 2)) : ∀ j, j < 3 → S4 (g j) := by
  intro j hj
  match j, hj with
  | 0, _ => exact h0
  | 1, _ => exact h1
  | 2, _ => exact h2
theorem own_hs4 {g : Nat → Int32} (h0 : S4 (g 0)) (h1 : S4 (g 1)) (h2 : S4 (g 2)) (h3 : S4 (g 3)) : ∀ j, j < 4 → S4 (g j) := by
  intro j hj
  match j, hj with
  | 0, _ => exact h0
  | 1, _ => exact h1
  | 2, _ => exact h2
  | 3, _ => exact h3

set_option maxRecDepth 65536 in
set_option maxHeartbeats 40000000 in
theorem rm0 (l : Launch) (Z : State) (a0 : Array Value) (hw : ∀ d ∈ tables_1, d.before a0 Z = true) (ws : List Jvm.Cond) (shape : Int32) (p0 : Int64) (p1 : Int64) (p2 : Int64) (p3 : Int64) (h0 : Heap) (n0 : Nat) (hz : n0 ≤ h0.size) :
    MetFree l x (head1 (Jvm.Cond.code x code maxLocals ret :: ws) room_1) (fun a U => a = #[(.int shape), (.long p0), (.long p1), (.long p2), (.long p3)] ∧ Z.Warmed39 U.vm ∧ U.heap = h0) (fun _ _ _ _ _ => True) (fun _ U o U' => ∃ v L, o = .returned v ∧ Lw n0 (some (.int (f0 shape p0 p1 p2 p3))) v U'.heap L ∧ FrameEnd U o U' L room_1.cells room_1.slots) := by
  refine enter (y := x) (bs := code) (ml := maxLocals) (ret := ret) (Q := Lw n0 (some (.int (f0 shape p0 p1 p2 p3)))) pl0 #[.val (.int shape), .val (.long p0), .second, .val (.long p1), .second, .val (.long p2), .second, .val (.long p3), .second, .unset, .unset, .unset, .unset, .unset, .unset, .unset, .unset, .unset, .unset, .unset, .unset, .unset] rfl ?_
  intro p e s m below meth c T B hret hlk hnm
  have N0 := Fr.nil n0
  refine o_iconst B 0 1 (4 : Int32) at_0 rfl (by decide) ?_
  obtain ⟨a1, T1, h1, z1, B1, E1, A1, c1⟩ := o_newI B 1 3 (ty := .int) (z := (4 : Int32)) 4 4 (hw _ (List.mem_of_getElem? (i := 0) rfl)) at_1 rfl rfl rfl (by decide) (by decide) (by decide) (by decide) (by decide) (by decide) (Ls := #[.val (.int shape), .val (.long p0), .second, .val (.long p1), .second, .val (.long p2), .second, .val (.long p3), .second, .unset, .unset, .unset, .unset, .unset, .unset, .unset, .unset, .unset, .unset, .unset, .unset, .unset]) (rest := [])
  have g1 : n0 ≤ a1 := by rw [z1]; exact hz
  have s1 : n0 ≤ h1.size := Nat.le_trans hz E1.1
  refine c1 ?_
  refine o_astore B1 3 5 (l' := #[.val (.int shape), .val (.long p0), .second, .val (.long p1), .second, .val (.long p2), .second, .val (.long p3), .second, .val (.ref a1), .unset, .unset, .unset, .unset, .unset, .unset, .unset, .unset, .unset, .unset, .unset, .unset]) at_3 rfl rfl rfl ?_
  refine o_aload B1 5 7 (v := (.ref a1)) at_5 rfl rfl rfl ?_
  refine o_iconst B1 7 8 (0 : Int32) at_7 rfl (by decide) ?_
  refine o_lloadN B1 8 9 (v := p0) at_8 rfl rfl ?_
  obtain ⟨T2, B2, c2⟩ := o_callP B1 9 12 at_9 rfl (hw _ (List.mem_of_getElem? (i := 1) rfl)) (hw _ (List.mem_of_getElem? (i := 2) rfl)) (hw _ (List.mem_of_getElem? (i := 3) rfl)) (hw _ (List.mem_of_getElem? (i := 4) rfl)) (by decide) (rm1 l Z a0 hw p0 h1 ) 2 [(.long p0)] [(.int (0 : Int32)), (.ref a1)] pd__J_I rfl rfl (st := [(.long p0), (.int (0 : Int32)), (.ref a1)]) rfl (Ls := #[.val (.int shape), .val (.long p0), .second, .val (.long p1), .second, .val (.long p2), .second, .val (.long p3), .second, .val (.ref a1), .unset, .unset, .unset, .unset, .unset, .unset, .unset, .unset, .unset, .unset, .unset, .unset]) rfl (Nat.le_of_eq rfl) (by decide) (by decide) (by decide) (by decide)
  refine c2 ?_
  obtain ⟨T3, h3, L3, B3, N3, W3, Q3, c3⟩ := o_iastore B2 N0 g1 12 13 A1 (j := (0 : Int32)) (x := (f1 p0)) 0 (q0_1 shape p0 p1 p2 p3) at_12 rfl (by decide) (by decide) (by decide) rfl (Ls := #[.val (.int shape), .val (.long p0), .second, .val (.long p1), .second, .val (.long p2), .second, .val (.long p3), .second, .val (.ref a1), .unset, .unset, .unset, .unset, .unset, .unset, .unset, .unset, .unset, .unset, .unset, .unset]) (rest := [])
  have A3 : AI Z h3 a1 .int 4 (w0_2 shape p0 p1 p2 p3) := Q3
  refine c3 ?_
  refine o_aload B3 13 15 (v := (.ref a1)) at_13 rfl rfl rfl ?_
  refine o_iconst B3 15 16 (1 : Int32) at_15 rfl (by decide) ?_
  refine o_lloadN B3 16 17 (v := p1) at_16 rfl rfl ?_
  obtain ⟨T4, B4, c4⟩ := o_callP B3 17 20 at_17 rfl (hw _ (List.mem_of_getElem? (i := 1) rfl)) (hw _ (List.mem_of_getElem? (i := 2) rfl)) (hw _ (List.mem_of_getElem? (i := 3) rfl)) (hw _ (List.mem_of_getElem? (i := 4) rfl)) (by decide) (rm1 l Z a0 hw p1 h3 ) 2 [(.long p1)] [(.int (1 : Int32)), (.ref a1)] pd__J_I rfl rfl (st := [(.long p1), (.int (1 : Int32)), (.ref a1)]) rfl (Ls := #[.val (.int shape), .val (.long p0), .second, .val (.long p1), .second, .val (.long p2), .second, .val (.long p3), .second, .val (.ref a1), .unset, .unset, .unset, .unset, .unset, .unset, .unset, .unset, .unset, .unset, .unset, .unset]) rfl (Nat.le_of_eq rfl) (by decide) (by decide) (by decide) (by decide)
  refine c4 ?_
  obtain ⟨T5, h5, L5, B5, N5, W5, Q5, c5⟩ := o_iastore B4 N3 g1 20 21 A3 (j := (1 : Int32)) (x := (f1 p1)) 1 (q0_3 shape p0 p1 p2 p3) at_20 rfl (by decide) (by decide) (by decide) rfl (Ls := #[.val (.int shape), .val (.long p0), .second, .val (.long p1), .second, .val (.long p2), .second, .val (.long p3), .second, .val (.ref a1), .unset, .unset, .unset, .unset, .unset, .unset, .unset, .unset, .unset, .unset, .unset, .unset]) (rest := [])
  have A5 : AI Z h5 a1 .int 4 (w0_4 shape p0 p1 p2 p3) := Q5
  refine c5 ?_
  refine o_aload B5 21 23 (v := (.ref a1)) at_21 rfl rfl rfl ?_
  refine o_iconst B5 23 24 (2 : Int32) at_23 rfl (by decide) ?_
  refine o_lload B5 24 26 (v := p2) at_24 rfl rfl ?_
  obtain ⟨T6, B6, c6⟩ := o_callP B5 26 29 at_26 rfl (hw _ (List.mem_of_getElem? (i := 1) rfl)) (hw _ (List.mem_of_getElem? (i := 2) rfl)) (hw _ (List.mem_of_getElem? (i := 3) rfl)) (hw _ (List.mem_of_getElem? (i := 4) rfl)) (by decide) (rm1 l Z a0 hw p2 h5 ) 2 [(.long p2)] [(.int (2 : Int32)), (.ref a1)] pd__J_I rfl rfl (st := [(.long p2), (.int (2 : Int32)), (.ref a1)]) rfl (Ls := #[.val (.int shape), .val (.long p0), .second, .val (.long p1), .second, .val (.long p2), .second, .val (.long p3), .second, .val (.ref a1), .unset, .unset, .unset, .unset, .unset, .unset, .unset, .unset, .unset, .unset, .unset, .unset]) rfl (Nat.le_of_eq rfl) (by decide) (by decide) (by decide) (by decide)
  refine c6 ?_
  obtain ⟨T7, h7, L7, B7, N7, W7, Q7, c7⟩ := o_iastore B6 N5 g1 29 30 A5 (j := (2 : Int32)) (x := (f1 p2)) 2 (q0_5 shape p0 p1 p2 p3) at_29 rfl (by decide) (by decide) (by decide) rfl (Ls := #[.val (.int shape), .val (.long p0), .second, .val (.long p1), .second, .val (.long p2), .second, .val (.long p3), .second, .val (.ref a1), .unset, .unset, .unset, .unset, .unset, .unset, .unset, .unset, .unset, .unset, .unset, .unset]) (rest := [])
  have A7 : AI Z h7 a1 .int 4 (w0_6 shape p0 p1 p2 p3) := Q7
  refine c7 ?_
  refine o_aload B7 30 32 (v := (.ref a1)) at_30 rfl rfl rfl ?_
  refine o_iconst B7 32 33 (3 : Int32) at_32 rfl (by decide) ?_
  refine o_lload B7 33 35 (v := p3) at_33 rfl rfl ?_
  obtain ⟨T8, B8, c8⟩ := o_callP B7 35 38 at_35 rfl (hw _ (List.mem_of_getElem? (i := 1) rfl)) (hw _ (List.mem_of_getElem? (i := 2) rfl)) (hw _ (List.mem_of_getElem? (i := 3) rfl)) (hw _ (List.mem_of_getElem? (i := 4) rfl)) (by decide) (rm1 l Z a0 hw p3 h7 ) 2 [(.long p3)] [(.int (3 : Int32)), (.ref a1)] pd__J_I rfl rfl (st := [(.long p3), (.int (3 : Int32)), (.ref a1)]) rfl (Ls := #[.val (.int shape), .val (.long p0), .second, .val (.long p1), .second, .val (.long p2), .second, .val (.long p3), .second, .val (.ref a1), .unset, .unset, .unset, .unset, .unset, .unset, .unset, .unset, .unset, .unset, .unset, .unset]) rfl (Nat.le_of_eq rfl) (by decide) (by decide) (by decide) (by decide)
  refine c8 ?_
  obtain ⟨T9, h9, L9, B9, N9, W9, Q9, c9⟩ := o_iastore B8 N7 g1 38 39 A7 (j := (3 : Int32)) (x := (f1 p3)) 3 (q0_7 shape p0 p1 p2 p3) at_38 rfl (by decide) (by decide) (by decide) rfl (Ls := #[.val (.int shape), .val (.long p0), .second, .val (.long p1), .second, .val (.long p2), .second, .val (.long p3), .second, .val (.ref a1), .unset, .unset, .unset, .unset, .unset, .unset, .unset, .unset, .unset, .unset, .unset, .unset]) (rest := [])
  have A9 : AI Z h9 a1 .int 4 (w0_8 shape p0 p1 p2 p3) := Q9
  refine c9 ?_
  refine o_iconst B9 39 40 (4 : Int32) at_39 rfl (by decide) ?_
  obtain ⟨a10, T10, h10, z10, B10, E10, A10, c10⟩ := o_newI B9 40 42 (ty := .int) (z := (4 : Int32)) 4 4 (hw _ (List.mem_of_getElem? (i := 0) rfl)) at_40 rfl rfl rfl (by decide) (by decide) (by decide) (by decide) (by decide) (by decide) (Ls := #[.val (.int shape), .val (.long p0), .second, .val (.long p1), .second, .val (.long p2), .second, .val (.long p3), .second, .val (.ref a1), .unset, .unset, .unset, .unset, .unset, .unset, .unset, .unset, .unset, .unset, .unset, .unset]) (rest := [])
  have ne11 : a1 ≠ a10 := by rw [z10]; exact Nat.ne_of_lt A9.lt
  have g10 : n0 ≤ a10 := by rw [z10]; exact (W9.size ▸ (W7.size ▸ (W5.size ▸ (W3.size ▸ s1))))
  have s10 : n0 ≤ h10.size := Nat.le_trans (W9.size ▸ (W7.size ▸ (W5.size ▸ (W3.size ▸ s1)))) E10.1
  refine c10 ?_
  refine o_astore B10 42 44 (l' := #[.val (.int shape), .val (.long p0), .second, .val (.long p1), .second, .val (.long p2), .second, .val (.long p3), .second, .val (.ref a1), .val (.ref a10), .unset, .unset, .unset, .unset, .unset, .unset, .unset, .unset, .unset, .unset, .unset]) at_42 rfl rfl rfl ?_
  refine o_aload B10 44 46 (v := (.ref a10)) at_44 rfl rfl rfl ?_
  refine o_iconst B10 46 47 (0 : Int32) at_46 rfl (by decide) ?_
  refine o_lloadN B10 47 48 (v := p0) at_47 rfl rfl ?_
  refine o_aload B10 48 50 (v := (.ref a1)) at_48 rfl rfl rfl ?_
  refine o_iconst B10 50 51 (0 : Int32) at_50 rfl (by decide) ?_
  have F13 := (A9.ext E10)
  refine o_iaload B10 51 52 F13 0 (q0_1 shape p0 p1 p2 p3) at_51 rfl (by decide) (by decide) (by decide) rfl ?_
  obtain ⟨T14, B14, c14⟩ := o_callP B10 52 55 at_52 rfl (hw _ (List.mem_of_getElem? (i := 6) rfl)) (hw _ (List.mem_of_getElem? (i := 7) rfl)) (hw _ (List.mem_of_getElem? (i := 3) rfl)) (hw _ (List.mem_of_getElem? (i := 8) rfl)) (by decide) (rm2 l Z a0 hw p0 (q0_1 shape p0 p1 p2 p3) h10  (own_cnz _)) 2 [(.long p0), (.int (q0_1 shape p0 p1 p2 p3))] [(.int (0 : Int32)), (.ref a10)] pd__JI_I rfl rfl (st := [(.int (q0_1 shape p0 p1 p2 p3)), (.long p0), (.int (0 : Int32)), (.ref a10)]) rfl (Ls := #[.val (.int shape), .val (.long p0), .second, .val (.long p1), .second, .val (.long p2), .second, .val (.long p3), .second, .val (.ref a1), .val (.ref a10), .unset, .unset, .unset, .unset, .unset, .unset, .unset, .unset, .unset, .unset, .unset]) rfl (Nat.le_of_eq rfl) (by decide) (by decide) (by decide) (by decide)
  refine c14 ?_
  obtain ⟨T15, h15, L15, B15, N15, W15, Q15, c15⟩ := o_iastore B14 N9 g10 55 56 A10 (j := (0 : Int32)) (x := (f2 p0 (q0_1 shape p0 p1 p2 p3))) 0 (q0_9 shape p0 p1 p2 p3) at_55 rfl (by decide) (by decide) (by decide) rfl (Ls := #[.val (.int shape), .val (.long p0), .second, .val (.long p1), .second, .val (.long p2), .second, .val (.long p3), .second, .val (.ref a1), .val (.ref a10), .unset, .unset, .unset, .unset, .unset, .unset, .unset, .unset, .unset, .unset, .unset]) (rest := [])
  have A15 : AI Z h15 a10 .int 4 (w0_10 shape p0 p1 p2 p3) := Q15
  refine c15 ?_
  refine o_aload B15 56 58 (v := (.ref a10)) at_56 rfl rfl rfl ?_
  refine o_iconst B15 58 59 (1 : Int32) at_58 rfl (by decide) ?_
  refine o_lloadN B15 59 60 (v := p1) at_59 rfl rfl ?_
  refine o_aload B15 60 62 (v := (.ref a1)) at_60 rfl rfl rfl ?_
  refine o_iconst B15 62 63 (1 : Int32) at_62 rfl (by decide) ?_
  have F17 := (F13.other W15 ne11)
  refine o_iaload B15 63 64 F17 1 (q0_3 shape p0 p1 p2 p3) at_63 rfl (by decide) (by decide) (by decide) rfl ?_
  obtain ⟨T18, B18, c18⟩ := o_callP B15 64 67 at_64 rfl (hw _ (List.mem_of_getElem? (i := 6) rfl)) (hw _ (List.mem_of_getElem? (i := 7) rfl)) (hw _ (List.mem_of_getElem? (i := 3) rfl)) (hw _ (List.mem_of_getElem? (i := 8) rfl)) (by decide) (rm2 l Z a0 hw p1 (q0_3 shape p0 p1 p2 p3) h15  (own_cnz _)) 2 [(.long p1), (.int (q0_3 shape p0 p1 p2 p3))] [(.int (1 : Int32)), (.ref a10)] pd__JI_I rfl rfl (st := [(.int (q0_3 shape p0 p1 p2 p3)), (.long p1), (.int (1 : Int32)), (.ref a10)]) rfl (Ls := #[.val (.int shape), .val (.long p0), .second, .val (.long p1), .second, .val (.long p2), .second, .val (.long p3), .second, .val (.ref a1), .val (.ref a10), .unset, .unset, .unset, .unset, .unset, .unset, .unset, .unset, .unset, .unset, .unset]) rfl (Nat.le_of_eq rfl) (by decide) (by decide) (by decide) (by decide)
  refine c18 ?_
  obtain ⟨T19, h19, L19, B19, N19, W19, Q19, c19⟩ := o_iastore B18 N15 g10 67 68 A15 (j := (1 : Int32)) (x := (f2 p1 (q0_3 shape p0 p1 p2 p3))) 1 (q0_11 shape p0 p1 p2 p3) at_67 rfl (by decide) (by decide) (by decide) rfl (Ls := #[.val (.int shape), .val (.long p0), .second, .val (.long p1), .second, .val (.long p2), .second, .val (.long p3), .second, .val (.ref a1), .val (.ref a10), .unset, .unset, .unset, .unset, .unset, .unset, .unset, .unset, .unset, .unset, .unset]) (rest := [])
  have A19 : AI Z h19 a10 .int 4 (w0_12 shape p0 p1 p2 p3) := Q19
  refine c19 ?_
  refine o_aload B19 68 70 (v := (.ref a10)) at_68 rfl rfl rfl ?_
  refine o_iconst B19 70 71 (2 : Int32) at_70 rfl (by decide) ?_
  refine o_lload B19 71 73 (v := p2) at_71 rfl rfl ?_
  refine o_aload B19 73 75 (v := (.ref a1)) at_73 rfl rfl rfl ?_
  refine o_iconst B19 75 76 (2 : Int32) at_75 rfl (by decide) ?_
  have F21 := (F17.other W19 ne11)
  refine o_iaload B19 76 77 F21 2 (q0_5 shape p0 p1 p2 p3) at_76 rfl (by decide) (by decide) (by decide) rfl ?_
  obtain ⟨T22, B22, c22⟩ := o_callP B19 77 80 at_77 rfl (hw _ (List.mem_of_getElem? (i := 6) rfl)) (hw _ (List.mem_of_getElem? (i := 7) rfl)) (hw _ (List.mem_of_getElem? (i := 3) rfl)) (hw _ (List.mem_of_getElem? (i := 8) rfl)) (by decide) (rm2 l Z a0 hw p2 (q0_5 shape p0 p1 p2 p3) h19  (own_cnz _)) 2 [(.long p2), (.int (q0_5 shape p0 p1 p2 p3))] [(.int (2 : Int32)), (.ref a10)] pd__JI_I rfl rfl (st := [(.int (q0_5 shape p0 p1 p2 p3)), (.long p2), (.int (2 : Int32)), (.ref a10)]) rfl (Ls := #[.val (.int shape), .val (.long p0), .second, .val (.long p1), .second, .val (.long p2), .second, .val (.long p3), .second, .val (.ref a1), .val (.ref a10), .unset, .unset, .unset, .unset, .unset, .unset, .unset, .unset, .unset, .unset, .unset]) rfl (Nat.le_of_eq rfl) (by decide) (by decide) (by decide) (by decide)
  refine c22 ?_
  obtain ⟨T23, h23, L23, B23, N23, W23, Q23, c23⟩ := o_iastore B22 N19 g10 80 81 A19 (j := (2 : Int32)) (x := (f2 p2 (q0_5 shape p0 p1 p2 p3))) 2 (q0_13 shape p0 p1 p2 p3) at_80 rfl (by decide) (by decide) (by decide) rfl (Ls := #[.val (.int shape), .val (.long p0), .second, .val (.long p1), .second, .val (.long p2), .second, .val (.long p3), .second, .val (.ref a1), .val (.ref a10), .unset, .unset, .unset, .unset, .unset, .unset, .unset, .unset, .unset, .unset, .unset]) (rest := [])
  have A23 : AI Z h23 a10 .int 4 (w0_14 shape p0 p1 p2 p3) := Q23
  refine c23 ?_
  refine o_aload B23 81 83 (v := (.ref a10)) at_81 rfl rfl rfl ?_
  refine o_iconst B23 83 84 (3 : Int32) at_83 rfl (by decide) ?_
  refine o_lload B23 84 86 (v := p3) at_84 rfl rfl ?_
  refine o_aload B23 86 88 (v := (.ref a1)) at_86 rfl rfl rfl ?_
  refine o_iconst B23 88 89 (3 : Int32) at_88 rfl (by decide) ?_
  have F25 := (F21.other W23 ne11)
  refine o_iaload B23 89 90 F25 3 (q0_7 shape p0 p1 p2 p3) at_89 rfl (by decide) (by decide) (by decide) rfl ?_
  obtain ⟨T26, B26, c26⟩ := o_callP B23 90 93 at_90 rfl (hw _ (List.mem_of_getElem? (i := 6) rfl)) (hw _ (List.mem_of_getElem? (i := 7) rfl)) (hw _ (List.mem_of_getElem? (i := 3) rfl)) (hw _ (List.mem_of_getElem? (i := 8) rfl)) (by decide) (rm2 l Z a0 hw p3 (q0_7 shape p0 p1 p2 p3) h23  (own_cnz _)) 2 [(.long p3), (.int (q0_7 shape p0 p1 p2 p3))] [(.int (3 : Int32)), (.ref a10)] pd__JI_I rfl rfl (st := [(.int (q0_7 shape p0 p1 p2 p3)), (.long p3), (.int (3 : Int32)), (.ref a10)]) rfl (Ls := #[.val (.int shape), .val (.long p0), .second, .val (.long p1), .second, .val (.long p2), .second, .val (.long p3), .second, .val (.ref a1), .val (.ref a10), .unset, .unset, .unset, .unset, .unset, .unset, .unset, .unset, .unset, .unset, .unset]) rfl (Nat.le_of_eq rfl) (by decide) (by decide) (by decide) (by decide)
  refine c26 ?_
  obtain ⟨T27, h27, L27, B27, N27, W27, Q27, c27⟩ := o_iastore B26 N23 g10 93 94 A23 (j := (3 : Int32)) (x := (f2 p3 (q0_7 shape p0 p1 p2 p3))) 3 (q0_15 shape p0 p1 p2 p3) at_93 rfl (by decide) (by decide) (by decide) rfl (Ls := #[.val (.int shape), .val (.long p0), .second, .val (.long p1), .second, .val (.long p2), .second, .val (.long p3), .second, .val (.ref a1), .val (.ref a10), .unset, .unset, .unset, .unset, .unset, .unset, .unset, .unset, .unset, .unset, .unset]) (rest := [])
  have A27 : AI Z h27 a10 .int 4 (w0_16 shape p0 p1 p2 p3) := Q27
  refine c27 ?_
  refine o_iloadN B27 94 95 (v := shape) at_94 rfl rfl ?_
  refine o_bipush B27 95 97 (7 : Int32) at_95 rfl (by decide) ?_
  refine o_iand B27 97 98 at_97 rfl ?_
  refine o_iconst B27 98 99 (5 : Int32) at_98 rfl (by decide) ?_
  refine o_irem B27 99 100 at_99 rfl (by decide) ?_
  refine o_istore B27 100 102 (l' := #[.val (.int shape), .val (.long p0), .second, .val (.long p1), .second, .val (.long p2), .second, .val (.long p3), .second, .val (.ref a1), .val (.ref a10), .val (.int (q0_17 shape p0 p1 p2 p3)), .unset, .unset, .unset, .unset, .unset, .unset, .unset, .unset, .unset, .unset]) at_100 rfl rfl ?_
  by_cases k1 : (q0_17 shape p0 p1 p2 p3) = (0 : Int32)
  · rw [k1]
    refine o_iloadN B27 102 103 (v := shape) at_102 rfl rfl ?_
    refine o_iconst B27 103 104 (3 : Int32) at_103 rfl (by decide) ?_
    refine o_iushr B27 104 105 at_104 rfl ?_
    refine o_istore B27 105 107 (l' := #[.val (.int shape), .val (.long p0), .second, .val (.long p1), .second, .val (.long p2), .second, .val (.long p3), .second, .val (.ref a1), .val (.ref a10), .val (.int (0 : Int32)), .val (.int (q0_18 shape p0 p1 p2 p3)), .unset, .unset, .unset, .unset, .unset, .unset, .unset, .unset, .unset]) at_105 rfl rfl ?_
    refine o_iload B27 107 109 (v := (0 : Int32)) at_107 rfl rfl ?_
    obtain ⟨a28, T28, h28, z28, B28, E28, A28, c28⟩ := o_newI B27 109 111 (ty := .int) (z := (0 : Int32)) 0 0 (hw _ (List.mem_of_getElem? (i := 0) rfl)) at_109 rfl rfl rfl (by decide) (by decide) (by decide) (by decide) (by decide) (by decide) (Ls := #[.val (.int shape), .val (.long p0), .second, .val (.long p1), .second, .val (.long p2), .second, .val (.long p3), .second, .val (.ref a1), .val (.ref a10), .val (.int (0 : Int32)), .val (.int (q0_18 shape p0 p1 p2 p3)), .unset, .unset, .unset, .unset, .unset, .unset, .unset, .unset, .unset]) (rest := [])
    have F29 := (F25.other W27 ne11)
    have ne30 : a1 ≠ a28 := by rw [z28]; exact Nat.ne_of_lt F29.lt
    have ne31 : a10 ≠ a28 := by rw [z28]; exact Nat.ne_of_lt A27.lt
    have g28 : n0 ≤ a28 := by rw [z28]; exact (W27.size ▸ (W23.size ▸ (W19.size ▸ (W15.size ▸ s10))))
    have s28 : n0 ≤ h28.size := Nat.le_trans (W27.size ▸ (W23.size ▸ (W19.size ▸ (W15.size ▸ s10)))) E28.1
    refine c28 ?_
    refine o_astore B28 111 113 (l' := #[.val (.int shape), .val (.long p0), .second, .val (.long p1), .second, .val (.long p2), .second, .val (.long p3), .second, .val (.ref a1), .val (.ref a10), .val (.int (0 : Int32)), .val (.int (q0_18 shape p0 p1 p2 p3)), .val (.ref a28), .unset, .unset, .unset, .unset, .unset, .unset, .unset, .unset]) at_111 rfl rfl rfl ?_
    refine o_iload B28 113 115 (v := (0 : Int32)) at_113 rfl rfl ?_
    refine o_iconst B28 115 116 (1 : Int32) at_115 rfl (by decide) ?_
    refine o_icY B28 116 130 at_116 (XT.ii_ne_t (by decide)) (by decide) (by decide) ?_
    refine o_iload B28 130 132 (v := (0 : Int32)) at_130 rfl rfl ?_
    refine o_iconst B28 132 133 (2 : Int32) at_132 rfl (by decide) ?_
    refine o_icY B28 133 227 at_133 (XT.ii_ne_t (by decide)) (by decide) (by decide) ?_
    refine o_iload B28 227 229 (v := (0 : Int32)) at_227 rfl rfl ?_
    refine o_iconst B28 229 230 (3 : Int32) at_229 rfl (by decide) ?_
    refine o_icY B28 230 286 at_230 (XT.ii_ne_t (by decide)) (by decide) (by decide) ?_
    refine o_iload B28 286 288 (v := (0 : Int32)) at_286 rfl rfl ?_
    refine o_iconst B28 288 289 (4 : Int32) at_288 rfl (by decide) ?_
    refine o_icY B28 289 312 at_289 (XT.ii_ne_t (by decide)) (by decide) (by decide) ?_
    refine o_iconst B28 312 313 (4 : Int32) at_312 rfl (by decide) ?_
    obtain ⟨a32, T32, h32, z32, B32, E32, A32, c32⟩ := o_newJ B28 313 315 (z := (4 : Int32)) 4 4 (hw _ (List.mem_of_getElem? (i := 10) rfl)) at_313 rfl rfl (by decide) (by decide) (by decide) (by decide) (by decide) (by decide) (Ls := #[.val (.int shape), .val (.long p0), .second, .val (.long p1), .second, .val (.long p2), .second, .val (.long p3), .second, .val (.ref a1), .val (.ref a10), .val (.int (0 : Int32)), .val (.int (q0_18 shape p0 p1 p2 p3)), .val (.ref a28), .unset, .unset, .unset, .unset, .unset, .unset, .unset, .unset]) (rest := [])
    have F33 := (F29.ext E28)
    have ne34 : a1 ≠ a32 := by rw [z32]; exact Nat.ne_of_lt F33.lt
    have F35 := (A27.ext E28)
    have ne36 : a10 ≠ a32 := by rw [z32]; exact Nat.ne_of_lt F35.lt
    have ne37 : a28 ≠ a32 := by rw [z32]; exact Nat.ne_of_lt A28.lt
    have g32 : n0 ≤ a32 := by rw [z32]; exact s28
    have s32 : n0 ≤ h32.size := Nat.le_trans s28 E32.1
    refine c32 ?_
    refine o_dup B32 315 316 at_315 rfl rfl ?_
    refine o_iconst B32 316 317 (0 : Int32) at_316 rfl (by decide) ?_
    refine o_lconst B32 317 318 (0 : Int64) at_317 rfl (by decide) ?_
    obtain ⟨T38, h38, L38, B38, N38, W38, Q38, c38⟩ := o_lastore B32 N27 g32 318 319 A32 (j := (0 : Int32)) (x := (0 : Int64)) 0 (0 : Int64) at_318 rfl (by decide) (by decide) (by decide) rfl (Ls := #[.val (.int shape), .val (.long p0), .second, .val (.long p1), .second, .val (.long p2), .second, .val (.long p3), .second, .val (.ref a1), .val (.ref a10), .val (.int (0 : Int32)), .val (.int (q0_18 shape p0 p1 p2 p3)), .val (.ref a28), .unset, .unset, .unset, .unset, .unset, .unset, .unset, .unset]) (rest := [(.ref a32)])
    have A38 : AJ Z h38 a32 4 (w0_19 shape p0 p1 p2 p3) := Q38
    refine c38 ?_
    refine o_dup B38 319 320 at_319 rfl rfl ?_
    refine o_iconst B38 320 321 (1 : Int32) at_320 rfl (by decide) ?_
    refine o_lconst B38 321 322 (0 : Int64) at_321 rfl (by decide) ?_
    obtain ⟨T39, h39, L39, B39, N39, W39, Q39, c39⟩ := o_lastore B38 N38 g32 322 323 A38 (j := (1 : Int32)) (x := (0 : Int64)) 1 (0 : Int64) at_322 rfl (by decide) (by decide) (by decide) rfl (Ls := #[.val (.int shape), .val (.long p0), .second, .val (.long p1), .second, .val (.long p2), .second, .val (.long p3), .second, .val (.ref a1), .val (.ref a10), .val (.int (0 : Int32)), .val (.int (q0_18 shape p0 p1 p2 p3)), .val (.ref a28), .unset, .unset, .unset, .unset, .unset, .unset, .unset, .unset]) (rest := [(.ref a32)])
    have A39 : AJ Z h39 a32 4 (w0_20 shape p0 p1 p2 p3) := Q39
    refine c39 ?_
    refine o_dup B39 323 324 at_323 rfl rfl ?_
    refine o_iconst B39 324 325 (2 : Int32) at_324 rfl (by decide) ?_
    refine o_lconst B39 325 326 (0 : Int64) at_325 rfl (by decide) ?_
    obtain ⟨T40, h40, L40, B40, N40, W40, Q40, c40⟩ := o_lastore B39 N39 g32 326 327 A39 (j := (2 : Int32)) (x := (0 : Int64)) 2 (0 : Int64) at_326 rfl (by decide) (by decide) (by decide) rfl (Ls := #[.val (.int shape), .val (.long p0), .second, .val (.long p1), .second, .val (.long p2), .second, .val (.long p3), .second, .val (.ref a1), .val (.ref a10), .val (.int (0 : Int32)), .val (.int (q0_18 shape p0 p1 p2 p3)), .val (.ref a28), .unset, .unset, .unset, .unset, .unset, .unset, .unset, .unset]) (rest := [(.ref a32)])
    have A40 : AJ Z h40 a32 4 (w0_21 shape p0 p1 p2 p3) := Q40
    refine c40 ?_
    refine o_dup B40 327 328 at_327 rfl rfl ?_
    refine o_iconst B40 328 329 (3 : Int32) at_328 rfl (by decide) ?_
    refine o_lconst B40 329 330 (0 : Int64) at_329 rfl (by decide) ?_
    obtain ⟨T41, h41, L41, B41, N41, W41, Q41, c41⟩ := o_lastore B40 N40 g32 330 331 A40 (j := (3 : Int32)) (x := (0 : Int64)) 3 (0 : Int64) at_330 rfl (by decide) (by decide) (by decide) rfl (Ls := #[.val (.int shape), .val (.long p0), .second, .val (.long p1), .second, .val (.long p2), .second, .val (.long p3), .second, .val (.ref a1), .val (.ref a10), .val (.int (0 : Int32)), .val (.int (q0_18 shape p0 p1 p2 p3)), .val (.ref a28), .unset, .unset, .unset, .unset, .unset, .unset, .unset, .unset]) (rest := [(.ref a32)])
    have A41 : AJ Z h41 a32 4 (w0_22 shape p0 p1 p2 p3) := Q41
    refine c41 ?_
    refine o_astore B41 331 333 (l' := #[.val (.int shape), .val (.long p0), .second, .val (.long p1), .second, .val (.long p2), .second, .val (.long p3), .second, .val (.ref a1), .val (.ref a10), .val (.int (0 : Int32)), .val (.int (q0_18 shape p0 p1 p2 p3)), .val (.ref a28), .val (.ref a32), .unset, .unset, .unset, .unset, .unset, .unset, .unset]) at_331 rfl rfl rfl ?_
    refine o_iconst B41 333 334 (4 : Int32) at_333 rfl (by decide) ?_
    obtain ⟨a42, T42, h42, z42, B42, E42, A42, c42⟩ := o_newJ B41 334 336 (z := (4 : Int32)) 4 4 (hw _ (List.mem_of_getElem? (i := 10) rfl)) at_334 rfl rfl (by decide) (by decide) (by decide) (by decide) (by decide) (by decide) (Ls := #[.val (.int shape), .val (.long p0), .second, .val (.long p1), .second, .val (.long p2), .second, .val (.long p3), .second, .val (.ref a1), .val (.ref a10), .val (.int (0 : Int32)), .val (.int (q0_18 shape p0 p1 p2 p3)), .val (.ref a28), .val (.ref a32), .unset, .unset, .unset, .unset, .unset, .unset, .unset]) (rest := [])
    have F43 := (((((F33.ext E32).other W38 ne34).other W39 ne34).other W40 ne34).other W41 ne34)
    have ne44 : a1 ≠ a42 := by rw [z42]; exact Nat.ne_of_lt F43.lt
    have F45 := (((((F35.ext E32).other W38 ne36).other W39 ne36).other W40 ne36).other W41 ne36)
    have ne46 : a10 ≠ a42 := by rw [z42]; exact Nat.ne_of_lt F45.lt
    have F47 := (((((A28.ext E32).other W38 ne37).other W39 ne37).other W40 ne37).other W41 ne37)
    have ne48 : a28 ≠ a42 := by rw [z42]; exact Nat.ne_of_lt F47.lt
    have ne49 : a32 ≠ a42 := by rw [z42]; exact Nat.ne_of_lt A41.lt
    have g42 : n0 ≤ a42 := by rw [z42]; exact (W41.size ▸ (W40.size ▸ (W39.size ▸ (W38.size ▸ s32))))
    have s42 : n0 ≤ h42.size := Nat.le_trans (W41.size ▸ (W40.size ▸ (W39.size ▸ (W38.size ▸ s32)))) E42.1
    refine c42 ?_
    refine o_dup B42 336 337 at_336 rfl rfl ?_
    refine o_iconst B42 337 338 (0 : Int32) at_337 rfl (by decide) ?_
    refine o_lconst B42 338 339 (1 : Int64) at_338 rfl (by decide) ?_
    obtain ⟨T50, h50, L50, B50, N50, W50, Q50, c50⟩ := o_lastore B42 N41 g42 339 340 A42 (j := (0 : Int32)) (x := (1 : Int64)) 0 (1 : Int64) at_339 rfl (by decide) (by decide) (by decide) rfl (Ls := #[.val (.int shape), .val (.long p0), .second, .val (.long p1), .second, .val (.long p2), .second, .val (.long p3), .second, .val (.ref a1), .val (.ref a10), .val (.int (0 : Int32)), .val (.int (q0_18 shape p0 p1 p2 p3)), .val (.ref a28), .val (.ref a32), .unset, .unset, .unset, .unset, .unset, .unset, .unset]) (rest := [(.ref a42)])
    have A50 : AJ Z h50 a42 4 (w0_23 shape p0 p1 p2 p3) := Q50
    refine c50 ?_
    refine o_dup B50 340 341 at_340 rfl rfl ?_
    refine o_iconst B50 341 342 (1 : Int32) at_341 rfl (by decide) ?_
    refine o_lconst B50 342 343 (1 : Int64) at_342 rfl (by decide) ?_
    obtain ⟨T51, h51, L51, B51, N51, W51, Q51, c51⟩ := o_lastore B50 N50 g42 343 344 A50 (j := (1 : Int32)) (x := (1 : Int64)) 1 (1 : Int64) at_343 rfl (by decide) (by decide) (by decide) rfl (Ls := #[.val (.int shape), .val (.long p0), .second, .val (.long p1), .second, .val (.long p2), .second, .val (.long p3), .second, .val (.ref a1), .val (.ref a10), .val (.int (0 : Int32)), .val (.int (q0_18 shape p0 p1 p2 p3)), .val (.ref a28), .val (.ref a32), .unset, .unset, .unset, .unset, .unset, .unset, .unset]) (rest := [(.ref a42)])
    have A51 : AJ Z h51 a42 4 (w0_24 shape p0 p1 p2 p3) := Q51
    refine c51 ?_
    refine o_dup B51 344 345 at_344 rfl rfl ?_
    refine o_iconst B51 345 346 (2 : Int32) at_345 rfl (by decide) ?_
    refine o_lconst B51 346 347 (1 : Int64) at_346 rfl (by decide) ?_
    obtain ⟨T52, h52, L52, B52, N52, W52, Q52, c52⟩ := o_lastore B51 N51 g42 347 348 A51 (j := (2 : Int32)) (x := (1 : Int64)) 2 (1 : Int64) at_347 rfl (by decide) (by decide) (by decide) rfl (Ls := #[.val (.int shape), .val (.long p0), .second, .val (.long p1), .second, .val (.long p2), .second, .val (.long p3), .second, .val (.ref a1), .val (.ref a10), .val (.int (0 : Int32)), .val (.int (q0_18 shape p0 p1 p2 p3)), .val (.ref a28), .val (.ref a32), .unset, .unset, .unset, .unset, .unset, .unset, .unset]) (rest := [(.ref a42)])
    have A52 : AJ Z h52 a42 4 (w0_25 shape p0 p1 p2 p3) := Q52
    refine c52 ?_
    refine o_dup B52 348 349 at_348 rfl rfl ?_
    refine o_iconst B52 349 350 (3 : Int32) at_349 rfl (by decide) ?_
    refine o_lconst B52 350 351 (1 : Int64) at_350 rfl (by decide) ?_
    obtain ⟨T53, h53, L53, B53, N53, W53, Q53, c53⟩ := o_lastore B52 N52 g42 351 352 A52 (j := (3 : Int32)) (x := (1 : Int64)) 3 (1 : Int64) at_351 rfl (by decide) (by decide) (by decide) rfl (Ls := #[.val (.int shape), .val (.long p0), .second, .val (.long p1), .second, .val (.long p2), .second, .val (.long p3), .second, .val (.ref a1), .val (.ref a10), .val (.int (0 : Int32)), .val (.int (q0_18 shape p0 p1 p2 p3)), .val (.ref a28), .val (.ref a32), .unset, .unset, .unset, .unset, .unset, .unset, .unset]) (rest := [(.ref a42)])
    have A53 : AJ Z h53 a42 4 (w0_26 shape p0 p1 p2 p3) := Q53
    refine c53 ?_
    refine o_astore B53 352 354 (l' := #[.val (.int shape), .val (.long p0), .second, .val (.long p1), .second, .val (.long p2), .second, .val (.long p3), .second, .val (.ref a1), .val (.ref a10), .val (.int (0 : Int32)), .val (.int (q0_18 shape p0 p1 p2 p3)), .val (.ref a28), .val (.ref a32), .val (.ref a42), .unset, .unset, .unset, .unset, .unset, .unset]) at_352 rfl rfl rfl ?_
    refine o_iload B53 354 356 (v := (0 : Int32)) at_354 rfl rfl ?_
    refine o_ifY B53 356 389 at_356 (XT.i0_le_t (by decide)) (by decide) (by decide) ?_
    refine o_iload B53 389 391 (v := (0 : Int32)) at_389 rfl rfl ?_
    refine o_iconst B53 391 392 (1 : Int32) at_391 rfl (by decide) ?_
    refine o_icY B53 392 425 at_392 (XT.ii_le_t (by decide)) (by decide) (by decide) ?_
    refine o_iload B53 425 427 (v := (0 : Int32)) at_425 rfl rfl ?_
    refine o_iconst B53 427 428 (2 : Int32) at_427 rfl (by decide) ?_
    refine o_icY B53 428 463 at_428 (XT.ii_le_t (by decide)) (by decide) (by decide) ?_
    refine o_iload B53 463 465 (v := (0 : Int32)) at_463 rfl rfl ?_
    refine o_iconst B53 465 466 (3 : Int32) at_465 rfl (by decide) ?_
    refine o_icY B53 466 501 at_466 (XT.ii_le_t (by decide)) (by decide) (by decide) ?_
    refine o_aload B53 501 503 (v := (.ref a32)) at_501 rfl rfl rfl ?_
    refine o_iconst B53 503 504 (0 : Int32) at_503 rfl (by decide) ?_
    have F55 := (((((A41.ext E42).other W50 ne49).other W51 ne49).other W52 ne49).other W53 ne49)
    refine o_laload B53 504 505 F55 0 (0 : Int64) at_504 rfl (by decide) (by decide) (by decide) rfl ?_
    refine o_aload B53 505 507 (v := (.ref a42)) at_505 rfl rfl rfl ?_
    refine o_iconst B53 507 508 (1 : Int32) at_507 rfl (by decide) ?_
    refine o_laload B53 508 509 A53 1 (1 : Int64) at_508 rfl (by decide) (by decide) (by decide) rfl ?_
    refine o_lmul B53 509 510 at_509 rfl ?_
    refine o_topJ (show ((0 : Int64) * (1 : Int64)) = (0 : Int64) by decide) ?_
    refine o_aload B53 510 512 (v := (.ref a42)) at_510 rfl rfl rfl ?_
    refine o_iconst B53 512 513 (2 : Int32) at_512 rfl (by decide) ?_
    refine o_laload B53 513 514 A53 2 (1 : Int64) at_513 rfl (by decide) (by decide) (by decide) rfl ?_
    refine o_lmul B53 514 515 at_514 rfl ?_
    refine o_topJ (show ((0 : Int64) * (1 : Int64)) = (0 : Int64) by decide) ?_
    refine o_aload B53 515 517 (v := (.ref a42)) at_515 rfl rfl rfl ?_
    refine o_iconst B53 517 518 (3 : Int32) at_517 rfl (by decide) ?_
    refine o_laload B53 518 519 A53 3 (1 : Int64) at_518 rfl (by decide) (by decide) (by decide) rfl ?_
    refine o_lmul B53 519 520 at_519 rfl ?_
    refine o_topJ (show ((0 : Int64) * (1 : Int64)) = (0 : Int64) by decide) ?_
    refine o_aload B53 520 522 (v := (.ref a32)) at_520 rfl rfl rfl ?_
    refine o_iconst B53 522 523 (1 : Int32) at_522 rfl (by decide) ?_
    refine o_laload B53 523 524 F55 1 (0 : Int64) at_523 rfl (by decide) (by decide) (by decide) rfl ?_
    refine o_aload B53 524 526 (v := (.ref a42)) at_524 rfl rfl rfl ?_
    refine o_iconst B53 526 527 (2 : Int32) at_526 rfl (by decide) ?_
    refine o_laload B53 527 528 A53 2 (1 : Int64) at_527 rfl (by decide) (by decide) (by decide) rfl ?_
    refine o_lmul B53 528 529 at_528 rfl ?_
    refine o_topJ (show ((0 : Int64) * (1 : Int64)) = (0 : Int64) by decide) ?_
    refine o_aload B53 529 531 (v := (.ref a42)) at_529 rfl rfl rfl ?_
    refine o_iconst B53 531 532 (3 : Int32) at_531 rfl (by decide) ?_
    refine o_laload B53 532 533 A53 3 (1 : Int64) at_532 rfl (by decide) (by decide) (by decide) rfl ?_
    refine o_lmul B53 533 534 at_533 rfl ?_
    refine o_topJ (show ((0 : Int64) * (1 : Int64)) = (0 : Int64) by decide) ?_
    refine o_ladd B53 534 535 at_534 rfl ?_
    refine o_topJ (show ((0 : Int64) + (0 : Int64)) = (0 : Int64) by decide) ?_
    refine o_aload B53 535 537 (v := (.ref a32)) at_535 rfl rfl rfl ?_
    refine o_iconst B53 537 538 (2 : Int32) at_537 rfl (by decide) ?_
    refine o_laload B53 538 539 F55 2 (0 : Int64) at_538 rfl (by decide) (by decide) (by decide) rfl ?_
    refine o_aload B53 539 541 (v := (.ref a42)) at_539 rfl rfl rfl ?_
    refine o_iconst B53 541 542 (3 : Int32) at_541 rfl (by decide) ?_
    refine o_laload B53 542 543 A53 3 (1 : Int64) at_542 rfl (by decide) (by decide) (by decide) rfl ?_
    refine o_lmul B53 543 544 at_543 rfl ?_
    refine o_topJ (show ((0 : Int64) * (1 : Int64)) = (0 : Int64) by decide) ?_
    refine o_ladd B53 544 545 at_544 rfl ?_
    refine o_topJ (show ((0 : Int64) + (0 : Int64)) = (0 : Int64) by decide) ?_
    refine o_aload B53 545 547 (v := (.ref a32)) at_545 rfl rfl rfl ?_
    refine o_iconst B53 547 548 (3 : Int32) at_547 rfl (by decide) ?_
    refine o_laload B53 548 549 F55 3 (0 : Int64) at_548 rfl (by decide) (by decide) (by decide) rfl ?_
    refine o_ladd B53 549 550 at_549 rfl ?_
    refine o_topJ (show ((0 : Int64) + (0 : Int64)) = (0 : Int64) by decide) ?_
    refine o_lstore B53 550 552 (l' := #[.val (.int shape), .val (.long p0), .second, .val (.long p1), .second, .val (.long p2), .second, .val (.long p3), .second, .val (.ref a1), .val (.ref a10), .val (.int (0 : Int32)), .val (.int (q0_18 shape p0 p1 p2 p3)), .val (.ref a28), .val (.ref a32), .val (.ref a42), .val (.long (0 : Int64)), .second, .unset, .unset, .unset, .unset]) at_550 rfl rfl ?_
    refine o_aload B53 552 554 (v := (.ref a42)) at_552 rfl rfl rfl ?_
    refine o_iconst B53 554 555 (0 : Int32) at_554 rfl (by decide) ?_
    refine o_laload B53 555 556 A53 0 (1 : Int64) at_555 rfl (by decide) (by decide) (by decide) rfl ?_
    refine o_aload B53 556 558 (v := (.ref a42)) at_556 rfl rfl rfl ?_
    refine o_iconst B53 558 559 (1 : Int32) at_558 rfl (by decide) ?_
    refine o_laload B53 559 560 A53 1 (1 : Int64) at_559 rfl (by decide) (by decide) (by decide) rfl ?_
    refine o_lmul B53 560 561 at_560 rfl ?_
    refine o_topJ (show ((1 : Int64) * (1 : Int64)) = (1 : Int64) by decide) ?_
    refine o_aload B53 561 563 (v := (.ref a42)) at_561 rfl rfl rfl ?_
    refine o_iconst B53 563 564 (2 : Int32) at_563 rfl (by decide) ?_
    refine o_laload B53 564 565 A53 2 (1 : Int64) at_564 rfl (by decide) (by decide) (by decide) rfl ?_
    refine o_lmul B53 565 566 at_565 rfl ?_
    refine o_topJ (show ((1 : Int64) * (1 : Int64)) = (1 : Int64) by decide) ?_
    refine o_aload B53 566 568 (v := (.ref a42)) at_566 rfl rfl rfl ?_
    refine o_iconst B53 568 569 (3 : Int32) at_568 rfl (by decide) ?_
    refine o_laload B53 569 570 A53 3 (1 : Int64) at_569 rfl (by decide) (by decide) (by decide) rfl ?_
    refine o_lmul B53 570 571 at_570 rfl ?_
    refine o_topJ (show ((1 : Int64) * (1 : Int64)) = (1 : Int64) by decide) ?_
    refine o_lstore B53 571 573 (l' := #[.val (.int shape), .val (.long p0), .second, .val (.long p1), .second, .val (.long p2), .second, .val (.long p3), .second, .val (.ref a1), .val (.ref a10), .val (.int (0 : Int32)), .val (.int (q0_18 shape p0 p1 p2 p3)), .val (.ref a28), .val (.ref a32), .val (.ref a42), .val (.long (0 : Int64)), .second, .val (.long (1 : Int64)), .second, .unset, .unset]) at_571 rfl rfl ?_
    refine o_aload B53 573 575 (v := (.ref a28)) at_573 rfl rfl rfl ?_
    refine o_aload B53 575 577 (v := (.ref a10)) at_575 rfl rfl rfl ?_
    refine o_aload B53 577 579 (v := (.ref a1)) at_577 rfl rfl rfl ?_
    have F69 := (((((F47.ext E42).other W50 ne48).other W51 ne48).other W52 ne48).other W53 ne48)
    have F70 := (((((F45.ext E42).other W50 ne46).other W51 ne46).other W52 ne46).other W53 ne46)
    have F71 := (((((F43.ext E42).other W50 ne44).other W51 ne44).other W52 ne44).other W53 ne44)
    obtain ⟨T72, B72, c72⟩ := o_callP B53 579 582 at_579 rfl (hw _ (List.mem_of_getElem? (i := 11) rfl)) (hw _ (List.mem_of_getElem? (i := 12) rfl)) (hw _ (List.mem_of_getElem? (i := 13) rfl)) (hw _ (List.mem_of_getElem? (i := 14) rfl)) (by decide) (rm3_0 l Z a0 hw (fun _ => 0) (w0_16 shape p0 p1 p2 p3) (w0_8 shape p0 p1 p2 p3) a28 a10 a1 h53 F69 F70 F71 (own_hs0)) 0 [(.ref a28), (.ref a10), (.ref a1)] [] pd___I_I_I_J rfl rfl (st := [(.ref a1), (.ref a10), (.ref a28)]) rfl (Ls := #[.val (.int shape), .val (.long p0), .second, .val (.long p1), .second, .val (.long p2), .second, .val (.long p3), .second, .val (.ref a1), .val (.ref a10), .val (.int (0 : Int32)), .val (.int (q0_18 shape p0 p1 p2 p3)), .val (.ref a28), .val (.ref a32), .val (.ref a42), .val (.long (0 : Int64)), .second, .val (.long (1 : Int64)), .second, .unset, .unset]) rfl (Nat.le_of_eq rfl) (by decide) (by decide) (by decide) (by decide)
    refine c72 ?_
    refine o_lstore B72 582 584 (l' := #[.val (.int shape), .val (.long p0), .second, .val (.long p1), .second, .val (.long p2), .second, .val (.long p3), .second, .val (.ref a1), .val (.ref a10), .val (.int (0 : Int32)), .val (.int (q0_18 shape p0 p1 p2 p3)), .val (.ref a28), .val (.ref a32), .val (.ref a42), .val (.long (0 : Int64)), .second, .val (.long (1 : Int64)), .second, .val (.long (q0_27 shape p0 p1 p2 p3)), .second]) at_582 rfl rfl ?_
    refine o_lload B72 584 586 (v := (q0_27 shape p0 p1 p2 p3)) at_584 rfl rfl ?_
    refine o_lload B72 586 588 (v := (0 : Int64)) at_586 rfl rfl ?_
    refine o_lcmp B72 588 589 at_588 rfl ?_
    by_cases k2 : (q0_27 shape p0 p1 p2 p3) = (0 : Int64)
    · refine o_ifN B72 589 592 at_589 rfl (XT.ll_ne_f k2) ?_
      refine o_lload B72 592 594 (v := (q0_27 shape p0 p1 p2 p3)) at_592 rfl rfl ?_
      refine o_lconst B72 594 595 (0 : Int64) at_594 rfl (by decide) ?_
      refine o_lcmp B72 595 596 at_595 rfl ?_
      by_cases k3 : (q0_27 shape p0 p1 p2 p3) < (0 : Int64)
      · refine o_ifY B72 596 611 at_596 (XT.ll_lt_t k3) (by decide) (by decide) ?_
        refine o_iconst B72 611 612 (0 : Int32) at_611 rfl (by decide) ?_
        refine o_retZ (t := .boolean) B72 612 at_612 hret hlk (by simp) (by decide) (by decide) ⟨(congrArg (fun z => some (Value.int z)) ((show nar .boolean (0 : Int32) = (0 : Int32) from rfl).trans (show f0 shape p0 p1 p2 p3 = (0 : Int32) from (if_pos k1).trans ((if_pos k2).trans ((if_pos k3).trans (rfl)))).symm)), N53⟩
      · refine o_ifN B72 596 599 at_596 rfl (XT.ll_lt_f k3) ?_
        refine o_lload B72 599 601 (v := (q0_27 shape p0 p1 p2 p3)) at_599 rfl rfl ?_
        refine o_lload B72 601 603 (v := (1 : Int64)) at_601 rfl rfl ?_
        refine o_lcmp B72 603 604 at_603 rfl ?_
        by_cases k4 : (q0_27 shape p0 p1 p2 p3) < (1 : Int64)
        · refine o_ifN B72 604 607 at_604 rfl (XT.ll_ge_f k4) ?_
          refine o_iconst B72 607 608 (1 : Int32) at_607 rfl (by decide) ?_
          refine o_goto B72 608 612 at_608 (by decide) (by decide) ?_
          refine o_retZ (t := .boolean) B72 612 at_612 hret hlk (by simp) (by decide) (by decide) ⟨(congrArg (fun z => some (Value.int z)) ((show nar .boolean (1 : Int32) = (1 : Int32) from rfl).trans (show f0 shape p0 p1 p2 p3 = (1 : Int32) from (if_pos k1).trans ((if_pos k2).trans ((if_neg k3).trans ((if_pos k4).trans (rfl))))).symm)), N53⟩
        · refine o_ifY B72 604 611 at_604 (XT.ll_ge_t k4) (by decide) (by decide) ?_
          refine o_iconst B72 611 612 (0 : Int32) at_611 rfl (by decide) ?_
          refine o_retZ (t := .boolean) B72 612 at_612 hret hlk (by simp) (by decide) (by decide) ⟨(congrArg (fun z => some (Value.int z)) ((show nar .boolean (0 : Int32) = (0 : Int32) from rfl).trans (show f0 shape p0 p1 p2 p3 = (0 : Int32) from (if_pos k1).trans ((if_pos k2).trans ((if_neg k3).trans ((if_neg k4).trans (rfl))))).symm)), N53⟩
    · refine o_ifY B72 589 611 at_589 (XT.ll_ne_t k2) (by decide) (by decide) ?_
      refine o_iconst B72 611 612 (0 : Int32) at_611 rfl (by decide) ?_
      refine o_retZ (t := .boolean) B72 612 at_612 hret hlk (by simp) (by decide) (by decide) ⟨(congrArg (fun z => some (Value.int z)) ((show nar .boolean (0 : Int32) = (0 : Int32) from rfl).trans (show f0 shape p0 p1 p2 p3 = (0 : Int32) from (if_pos k1).trans ((if_neg k2).trans (rfl))).symm)), N53⟩
  · by_cases k5 : (q0_17 shape p0 p1 p2 p3) = (1 : Int32)
    · rw [k5]
      refine o_iloadN B27 102 103 (v := shape) at_102 rfl rfl ?_
      refine o_iconst B27 103 104 (3 : Int32) at_103 rfl (by decide) ?_
      refine o_iushr B27 104 105 at_104 rfl ?_
      refine o_istore B27 105 107 (l' := #[.val (.int shape), .val (.long p0), .second, .val (.long p1), .second, .val (.long p2), .second, .val (.long p3), .second, .val (.ref a1), .val (.ref a10), .val (.int (1 : Int32)), .val (.int (q0_18 shape p0 p1 p2 p3)), .unset, .unset, .unset, .unset, .unset, .unset, .unset, .unset, .unset]) at_105 rfl rfl ?_
      refine o_iload B27 107 109 (v := (1 : Int32)) at_107 rfl rfl ?_
      obtain ⟨a73, T73, h73, z73, B73, E73, A73, c73⟩ := o_newI B27 109 111 (ty := .int) (z := (1 : Int32)) 1 1 (hw _ (List.mem_of_getElem? (i := 0) rfl)) at_109 rfl rfl rfl (by decide) (by decide) (by decide) (by decide) (by decide) (by decide) (Ls := #[.val (.int shape), .val (.long p0), .second, .val (.long p1), .second, .val (.long p2), .second, .val (.long p3), .second, .val (.ref a1), .val (.ref a10), .val (.int (1 : Int32)), .val (.int (q0_18 shape p0 p1 p2 p3)), .unset, .unset, .unset, .unset, .unset, .unset, .unset, .unset, .unset]) (rest := [])
      have F74 := (F25.other W27 ne11)
      have ne75 : a1 ≠ a73 := by rw [z73]; exact Nat.ne_of_lt F74.lt
      have ne76 : a10 ≠ a73 := by rw [z73]; exact Nat.ne_of_lt A27.lt
      have g73 : n0 ≤ a73 := by rw [z73]; exact (W27.size ▸ (W23.size ▸ (W19.size ▸ (W15.size ▸ s10))))
      have s73 : n0 ≤ h73.size := Nat.le_trans (W27.size ▸ (W23.size ▸ (W19.size ▸ (W15.size ▸ s10)))) E73.1
      refine c73 ?_
      refine o_astore B73 111 113 (l' := #[.val (.int shape), .val (.long p0), .second, .val (.long p1), .second, .val (.long p2), .second, .val (.long p3), .second, .val (.ref a1), .val (.ref a10), .val (.int (1 : Int32)), .val (.int (q0_18 shape p0 p1 p2 p3)), .val (.ref a73), .unset, .unset, .unset, .unset, .unset, .unset, .unset, .unset]) at_111 rfl rfl rfl ?_
      refine o_iload B73 113 115 (v := (1 : Int32)) at_113 rfl rfl ?_
      refine o_iconst B73 115 116 (1 : Int32) at_115 rfl (by decide) ?_
      refine o_icN B73 116 119 at_116 rfl (XT.ii_ne_f (by decide)) ?_
      refine o_aload B73 119 121 (v := (.ref a73)) at_119 rfl rfl rfl ?_
      refine o_iconst B73 121 122 (0 : Int32) at_121 rfl (by decide) ?_
      refine o_iload B73 122 124 (v := (q0_18 shape p0 p1 p2 p3)) at_122 rfl rfl ?_
      refine o_iconst B73 124 125 (3 : Int32) at_124 rfl (by decide) ?_
      refine o_iand B73 125 126 at_125 rfl ?_
      obtain ⟨T77, h77, L77, B77, N77, W77, Q77, c77⟩ := o_iastore B73 N27 g73 126 127 A73 (j := (0 : Int32)) (x := ((q0_18 shape p0 p1 p2 p3) &&& (3 : Int32))) 0 (q0_28 shape p0 p1 p2 p3) at_126 rfl (by decide) (by decide) (by decide) rfl (Ls := #[.val (.int shape), .val (.long p0), .second, .val (.long p1), .second, .val (.long p2), .second, .val (.long p3), .second, .val (.ref a1), .val (.ref a10), .val (.int (1 : Int32)), .val (.int (q0_18 shape p0 p1 p2 p3)), .val (.ref a73), .unset, .unset, .unset, .unset, .unset, .unset, .unset, .unset]) (rest := [])
      have A77 : AI Z h77 a73 .int 1 (w0_29 shape p0 p1 p2 p3) := Q77
      refine c77 ?_
      refine o_goto B77 127 312 at_127 (by decide) (by decide) ?_
      refine o_iconst B77 312 313 (4 : Int32) at_312 rfl (by decide) ?_
      obtain ⟨a78, T78, h78, z78, B78, E78, A78, c78⟩ := o_newJ B77 313 315 (z := (4 : Int32)) 4 4 (hw _ (List.mem_of_getElem? (i := 10) rfl)) at_313 rfl rfl (by decide) (by decide) (by decide) (by decide) (by decide) (by decide) (Ls := #[.val (.int shape), .val (.long p0), .second, .val (.long p1), .second, .val (.long p2), .second, .val (.long p3), .second, .val (.ref a1), .val (.ref a10), .val (.int (1 : Int32)), .val (.int (q0_18 shape p0 p1 p2 p3)), .val (.ref a73), .unset, .unset, .unset, .unset, .unset, .unset, .unset, .unset]) (rest := [])
      have F79 := ((F74.ext E73).other W77 ne75)
      have ne80 : a1 ≠ a78 := by rw [z78]; exact Nat.ne_of_lt F79.lt
      have F81 := ((A27.ext E73).other W77 ne76)
      have ne82 : a10 ≠ a78 := by rw [z78]; exact Nat.ne_of_lt F81.lt
      have ne83 : a73 ≠ a78 := by rw [z78]; exact Nat.ne_of_lt A77.lt
      have g78 : n0 ≤ a78 := by rw [z78]; exact (W77.size ▸ s73)
      have s78 : n0 ≤ h78.size := Nat.le_trans (W77.size ▸ s73) E78.1
      refine c78 ?_
      refine o_dup B78 315 316 at_315 rfl rfl ?_
      refine o_iconst B78 316 317 (0 : Int32) at_316 rfl (by decide) ?_
      refine o_lconst B78 317 318 (0 : Int64) at_317 rfl (by decide) ?_
      obtain ⟨T84, h84, L84, B84, N84, W84, Q84, c84⟩ := o_lastore B78 N77 g78 318 319 A78 (j := (0 : Int32)) (x := (0 : Int64)) 0 (0 : Int64) at_318 rfl (by decide) (by decide) (by decide) rfl (Ls := #[.val (.int shape), .val (.long p0), .second, .val (.long p1), .second, .val (.long p2), .second, .val (.long p3), .second, .val (.ref a1), .val (.ref a10), .val (.int (1 : Int32)), .val (.int (q0_18 shape p0 p1 p2 p3)), .val (.ref a73), .unset, .unset, .unset, .unset, .unset, .unset, .unset, .unset]) (rest := [(.ref a78)])
      have A84 : AJ Z h84 a78 4 (w0_19 shape p0 p1 p2 p3) := Q84
      refine c84 ?_
      refine o_dup B84 319 320 at_319 rfl rfl ?_
      refine o_iconst B84 320 321 (1 : Int32) at_320 rfl (by decide) ?_
      refine o_lconst B84 321 322 (0 : Int64) at_321 rfl (by decide) ?_
      obtain ⟨T85, h85, L85, B85, N85, W85, Q85, c85⟩ := o_lastore B84 N84 g78 322 323 A84 (j := (1 : Int32)) (x := (0 : Int64)) 1 (0 : Int64) at_322 rfl (by decide) (by decide) (by decide) rfl (Ls := #[.val (.int shape), .val (.long p0), .second, .val (.long p1), .second, .val (.long p2), .second, .val (.long p3), .second, .val (.ref a1), .val (.ref a10), .val (.int (1 : Int32)), .val (.int (q0_18 shape p0 p1 p2 p3)), .val (.ref a73), .unset, .unset, .unset, .unset, .unset, .unset, .unset, .unset]) (rest := [(.ref a78)])
      have A85 : AJ Z h85 a78 4 (w0_20 shape p0 p1 p2 p3) := Q85
      refine c85 ?_
      refine o_dup B85 323 324 at_323 rfl rfl ?_
      refine o_iconst B85 324 325 (2 : Int32) at_324 rfl (by decide) ?_
      refine o_lconst B85 325 326 (0 : Int64) at_325 rfl (by decide) ?_
      obtain ⟨T86, h86, L86, B86, N86, W86, Q86, c86⟩ := o_lastore B85 N85 g78 326 327 A85 (j := (2 : Int32)) (x := (0 : Int64)) 2 (0 : Int64) at_326 rfl (by decide) (by decide) (by decide) rfl (Ls := #[.val (.int shape), .val (.long p0), .second, .val (.long p1), .second, .val (.long p2), .second, .val (.long p3), .second, .val (.ref a1), .val (.ref a10), .val (.int (1 : Int32)), .val (.int (q0_18 shape p0 p1 p2 p3)), .val (.ref a73), .unset, .unset, .unset, .unset, .unset, .unset, .unset, .unset]) (rest := [(.ref a78)])
      have A86 : AJ Z h86 a78 4 (w0_21 shape p0 p1 p2 p3) := Q86
      refine c86 ?_
      refine o_dup B86 327 328 at_327 rfl rfl ?_
      refine o_iconst B86 328 329 (3 : Int32) at_328 rfl (by decide) ?_
      refine o_lconst B86 329 330 (0 : Int64) at_329 rfl (by decide) ?_
      obtain ⟨T87, h87, L87, B87, N87, W87, Q87, c87⟩ := o_lastore B86 N86 g78 330 331 A86 (j := (3 : Int32)) (x := (0 : Int64)) 3 (0 : Int64) at_330 rfl (by decide) (by decide) (by decide) rfl (Ls := #[.val (.int shape), .val (.long p0), .second, .val (.long p1), .second, .val (.long p2), .second, .val (.long p3), .second, .val (.ref a1), .val (.ref a10), .val (.int (1 : Int32)), .val (.int (q0_18 shape p0 p1 p2 p3)), .val (.ref a73), .unset, .unset, .unset, .unset, .unset, .unset, .unset, .unset]) (rest := [(.ref a78)])
      have A87 : AJ Z h87 a78 4 (w0_22 shape p0 p1 p2 p3) := Q87
      refine c87 ?_
      refine o_astore B87 331 333 (l' := #[.val (.int shape), .val (.long p0), .second, .val (.long p1), .second, .val (.long p2), .second, .val (.long p3), .second, .val (.ref a1), .val (.ref a10), .val (.int (1 : Int32)), .val (.int (q0_18 shape p0 p1 p2 p3)), .val (.ref a73), .val (.ref a78), .unset, .unset, .unset, .unset, .unset, .unset, .unset]) at_331 rfl rfl rfl ?_
      refine o_iconst B87 333 334 (4 : Int32) at_333 rfl (by decide) ?_
      obtain ⟨a88, T88, h88, z88, B88, E88, A88, c88⟩ := o_newJ B87 334 336 (z := (4 : Int32)) 4 4 (hw _ (List.mem_of_getElem? (i := 10) rfl)) at_334 rfl rfl (by decide) (by decide) (by decide) (by decide) (by decide) (by decide) (Ls := #[.val (.int shape), .val (.long p0), .second, .val (.long p1), .second, .val (.long p2), .second, .val (.long p3), .second, .val (.ref a1), .val (.ref a10), .val (.int (1 : Int32)), .val (.int (q0_18 shape p0 p1 p2 p3)), .val (.ref a73), .val (.ref a78), .unset, .unset, .unset, .unset, .unset, .unset, .unset]) (rest := [])
      have F89 := (((((F79.ext E78).other W84 ne80).other W85 ne80).other W86 ne80).other W87 ne80)
      have ne90 : a1 ≠ a88 := by rw [z88]; exact Nat.ne_of_lt F89.lt
      have F91 := (((((F81.ext E78).other W84 ne82).other W85 ne82).other W86 ne82).other W87 ne82)
      have ne92 : a10 ≠ a88 := by rw [z88]; exact Nat.ne_of_lt F91.lt
      have F93 := (((((A77.ext E78).other W84 ne83).other W85 ne83).other W86 ne83).other W87 ne83)
      have ne94 : a73 ≠ a88 := by rw [z88]; exact Nat.ne_of_lt F93.lt
      have ne95 : a78 ≠ a88 := by rw [z88]; exact Nat.ne_of_lt A87.lt
      have g88 : n0 ≤ a88 := by rw [z88]; exact (W87.size ▸ (W86.size ▸ (W85.size ▸ (W84.size ▸ s78))))
      have s88 : n0 ≤ h88.size := Nat.le_trans (W87.size ▸ (W86.size ▸ (W85.size ▸ (W84.size ▸ s78)))) E88.1
      refine c88 ?_
      refine o_dup B88 336 337 at_336 rfl rfl ?_
      refine o_iconst B88 337 338 (0 : Int32) at_337 rfl (by decide) ?_
      refine o_lconst B88 338 339 (1 : Int64) at_338 rfl (by decide) ?_
      obtain ⟨T96, h96, L96, B96, N96, W96, Q96, c96⟩ := o_lastore B88 N87 g88 339 340 A88 (j := (0 : Int32)) (x := (1 : Int64)) 0 (1 : Int64) at_339 rfl (by decide) (by decide) (by decide) rfl (Ls := #[.val (.int shape), .val (.long p0), .second, .val (.long p1), .second, .val (.long p2), .second, .val (.long p3), .second, .val (.ref a1), .val (.ref a10), .val (.int (1 : Int32)), .val (.int (q0_18 shape p0 p1 p2 p3)), .val (.ref a73), .val (.ref a78), .unset, .unset, .unset, .unset, .unset, .unset, .unset]) (rest := [(.ref a88)])
      have A96 : AJ Z h96 a88 4 (w0_23 shape p0 p1 p2 p3) := Q96
      refine c96 ?_
      refine o_dup B96 340 341 at_340 rfl rfl ?_
      refine o_iconst B96 341 342 (1 : Int32) at_341 rfl (by decide) ?_
      refine o_lconst B96 342 343 (1 : Int64) at_342 rfl (by decide) ?_
      obtain ⟨T97, h97, L97, B97, N97, W97, Q97, c97⟩ := o_lastore B96 N96 g88 343 344 A96 (j := (1 : Int32)) (x := (1 : Int64)) 1 (1 : Int64) at_343 rfl (by decide) (by decide) (by decide) rfl (Ls := #[.val (.int shape), .val (.long p0), .second, .val (.long p1), .second, .val (.long p2), .second, .val (.long p3), .second, .val (.ref a1), .val (.ref a10), .val (.int (1 : Int32)), .val (.int (q0_18 shape p0 p1 p2 p3)), .val (.ref a73), .val (.ref a78), .unset, .unset, .unset, .unset, .unset, .unset, .unset]) (rest := [(.ref a88)])
      have A97 : AJ Z h97 a88 4 (w0_24 shape p0 p1 p2 p3) := Q97
      refine c97 ?_
      refine o_dup B97 344 345 at_344 rfl rfl ?_
      refine o_iconst B97 345 346 (2 : Int32) at_345 rfl (by decide) ?_
      refine o_lconst B97 346 347 (1 : Int64) at_346 rfl (by decide) ?_
      obtain ⟨T98, h98, L98, B98, N98, W98, Q98, c98⟩ := o_lastore B97 N97 g88 347 348 A97 (j := (2 : Int32)) (x := (1 : Int64)) 2 (1 : Int64) at_347 rfl (by decide) (by decide) (by decide) rfl (Ls := #[.val (.int shape), .val (.long p0), .second, .val (.long p1), .second, .val (.long p2), .second, .val (.long p3), .second, .val (.ref a1), .val (.ref a10), .val (.int (1 : Int32)), .val (.int (q0_18 shape p0 p1 p2 p3)), .val (.ref a73), .val (.ref a78), .unset, .unset, .unset, .unset, .unset, .unset, .unset]) (rest := [(.ref a88)])
      have A98 : AJ Z h98 a88 4 (w0_25 shape p0 p1 p2 p3) := Q98
      refine c98 ?_
      refine o_dup B98 348 349 at_348 rfl rfl ?_
      refine o_iconst B98 349 350 (3 : Int32) at_349 rfl (by decide) ?_
      refine o_lconst B98 350 351 (1 : Int64) at_350 rfl (by decide) ?_
      obtain ⟨T99, h99, L99, B99, N99, W99, Q99, c99⟩ := o_lastore B98 N98 g88 351 352 A98 (j := (3 : Int32)) (x := (1 : Int64)) 3 (1 : Int64) at_351 rfl (by decide) (by decide) (by decide) rfl (Ls := #[.val (.int shape), .val (.long p0), .second, .val (.long p1), .second, .val (.long p2), .second, .val (.long p3), .second, .val (.ref a1), .val (.ref a10), .val (.int (1 : Int32)), .val (.int (q0_18 shape p0 p1 p2 p3)), .val (.ref a73), .val (.ref a78), .unset, .unset, .unset, .unset, .unset, .unset, .unset]) (rest := [(.ref a88)])
      have A99 : AJ Z h99 a88 4 (w0_26 shape p0 p1 p2 p3) := Q99
      refine c99 ?_
      refine o_astore B99 352 354 (l' := #[.val (.int shape), .val (.long p0), .second, .val (.long p1), .second, .val (.long p2), .second, .val (.long p3), .second, .val (.ref a1), .val (.ref a10), .val (.int (1 : Int32)), .val (.int (q0_18 shape p0 p1 p2 p3)), .val (.ref a73), .val (.ref a78), .val (.ref a88), .unset, .unset, .unset, .unset, .unset, .unset]) at_352 rfl rfl rfl ?_
      refine o_iload B99 354 356 (v := (1 : Int32)) at_354 rfl rfl ?_
      refine o_ifN B99 356 359 at_356 rfl (XT.i0_le_f (by decide)) ?_
      refine o_aload B99 359 361 (v := (.ref a78)) at_359 rfl rfl rfl ?_
      refine o_iconst B99 361 362 (4 : Int32) at_361 rfl (by decide) ?_
      refine o_iload B99 362 364 (v := (1 : Int32)) at_362 rfl rfl ?_
      refine o_isub B99 364 365 at_364 rfl ?_
      refine o_topI (show ((4 : Int32) - (1 : Int32)) = (3 : Int32) by decide) ?_
      refine o_aload B99 365 367 (v := (.ref a10)) at_365 rfl rfl rfl ?_
      refine o_aload B99 367 369 (v := (.ref a73)) at_367 rfl rfl rfl ?_
      refine o_iconst B99 369 370 (0 : Int32) at_369 rfl (by decide) ?_
      have F101 := (((((F93.ext E88).other W96 ne94).other W97 ne94).other W98 ne94).other W99 ne94)
      refine o_iaload B99 370 371 F101 0 (q0_28 shape p0 p1 p2 p3) at_370 rfl (by decide) (by decide) (by decide) rfl ?_
      have F103 := (((((F91.ext E88).other W96 ne92).other W97 ne92).other W98 ne92).other W99 ne92)
      refine o_iaload B99 371 372 F103 (q0_28 shape p0 p1 p2 p3).toInt.toNat ((w0_16 shape p0 p1 p2 p3) (q0_28 shape p0 p1 p2 p3).toInt.toNat) at_371 rfl (ix_of (own_ix (own_b_q0_28 shape p0 p1 p2 p3))).1 (ix_of (own_ix (own_b_q0_28 shape p0 p1 p2 p3))).2 (own_lt (own_b_q0_28 shape p0 p1 p2 p3)) rfl ?_
      refine o_i2l B99 372 373 at_372 rfl ?_
      have F105 := (((((A87.ext E88).other W96 ne95).other W97 ne95).other W98 ne95).other W99 ne95)
      obtain ⟨T104, h104, L104, B104, N104, W104, Q104, c104⟩ := o_lastore B99 N99 g78 373 374 F105 (j := (3 : Int32)) (x := ((w0_16 shape p0 p1 p2 p3) (q0_28 shape p0 p1 p2 p3).toInt.toNat).toInt64) 3 (q0_30 shape p0 p1 p2 p3) at_373 rfl (by decide) (by decide) (by decide) rfl (Ls := #[.val (.int shape), .val (.long p0), .second, .val (.long p1), .second, .val (.long p2), .second, .val (.long p3), .second, .val (.ref a1), .val (.ref a10), .val (.int (1 : Int32)), .val (.int (q0_18 shape p0 p1 p2 p3)), .val (.ref a73), .val (.ref a78), .val (.ref a88), .unset, .unset, .unset, .unset, .unset, .unset]) (rest := [])
      have A104 : AJ Z h104 a78 4 (w0_31 shape p0 p1 p2 p3) := Q104
      refine c104 ?_
      refine o_aload B104 374 376 (v := (.ref a88)) at_374 rfl rfl rfl ?_
      refine o_iconst B104 376 377 (4 : Int32) at_376 rfl (by decide) ?_
      refine o_iload B104 377 379 (v := (1 : Int32)) at_377 rfl rfl ?_
      refine o_isub B104 379 380 at_379 rfl ?_
      refine o_topI (show ((4 : Int32) - (1 : Int32)) = (3 : Int32) by decide) ?_
      refine o_aload B104 380 382 (v := (.ref a1)) at_380 rfl rfl rfl ?_
      refine o_aload B104 382 384 (v := (.ref a73)) at_382 rfl rfl rfl ?_
      refine o_iconst B104 384 385 (0 : Int32) at_384 rfl (by decide) ?_
      have F107 := (F101.other W104 ne83)
      refine o_iaload B104 385 386 F107 0 (q0_28 shape p0 p1 p2 p3) at_385 rfl (by decide) (by decide) (by decide) rfl ?_
      have F109 := ((((((F89.ext E88).other W96 ne90).other W97 ne90).other W98 ne90).other W99 ne90).other W104 ne80)
      refine o_iaload B104 386 387 F109 (q0_28 shape p0 p1 p2 p3).toInt.toNat ((w0_8 shape p0 p1 p2 p3) (q0_28 shape p0 p1 p2 p3).toInt.toNat) at_386 rfl (ix_of (own_ix (own_b_q0_28 shape p0 p1 p2 p3))).1 (ix_of (own_ix (own_b_q0_28 shape p0 p1 p2 p3))).2 (own_lt (own_b_q0_28 shape p0 p1 p2 p3)) rfl ?_
      refine o_i2l B104 387 388 at_387 rfl ?_
      have F111 := (A99.other W104 (Ne.symm ne95))
      obtain ⟨T110, h110, L110, B110, N110, W110, Q110, c110⟩ := o_lastore B104 N104 g88 388 389 F111 (j := (3 : Int32)) (x := ((w0_8 shape p0 p1 p2 p3) (q0_28 shape p0 p1 p2 p3).toInt.toNat).toInt64) 3 (q0_32 shape p0 p1 p2 p3) at_388 rfl (by decide) (by decide) (by decide) rfl (Ls := #[.val (.int shape), .val (.long p0), .second, .val (.long p1), .second, .val (.long p2), .second, .val (.long p3), .second, .val (.ref a1), .val (.ref a10), .val (.int (1 : Int32)), .val (.int (q0_18 shape p0 p1 p2 p3)), .val (.ref a73), .val (.ref a78), .val (.ref a88), .unset, .unset, .unset, .unset, .unset, .unset]) (rest := [])
      have A110 : AJ Z h110 a88 4 (w0_33 shape p0 p1 p2 p3) := Q110
      refine c110 ?_
      refine o_iload B110 389 391 (v := (1 : Int32)) at_389 rfl rfl ?_
      refine o_iconst B110 391 392 (1 : Int32) at_391 rfl (by decide) ?_
      refine o_icY B110 392 425 at_392 (XT.ii_le_t (by decide)) (by decide) (by decide) ?_
      refine o_iload B110 425 427 (v := (1 : Int32)) at_425 rfl rfl ?_
      refine o_iconst B110 427 428 (2 : Int32) at_427 rfl (by decide) ?_
      refine o_icY B110 428 463 at_428 (XT.ii_le_t (by decide)) (by decide) (by decide) ?_
      refine o_iload B110 463 465 (v := (1 : Int32)) at_463 rfl rfl ?_
      refine o_iconst B110 465 466 (3 : Int32) at_465 rfl (by decide) ?_
      refine o_icY B110 466 501 at_466 (XT.ii_le_t (by decide)) (by decide) (by decide) ?_
      refine o_aload B110 501 503 (v := (.ref a78)) at_501 rfl rfl rfl ?_
      refine o_iconst B110 503 504 (0 : Int32) at_503 rfl (by decide) ?_
      have F113 := (A104.other W110 ne95)
      refine o_laload B110 504 505 F113 0 (0 : Int64) at_504 rfl (by decide) (by decide) (by decide) rfl ?_
      refine o_aload B110 505 507 (v := (.ref a88)) at_505 rfl rfl rfl ?_
      refine o_iconst B110 507 508 (1 : Int32) at_507 rfl (by decide) ?_
      refine o_laload B110 508 509 A110 1 (1 : Int64) at_508 rfl (by decide) (by decide) (by decide) rfl ?_
      refine o_lmul B110 509 510 at_509 rfl ?_
      refine o_topJ (show ((0 : Int64) * (1 : Int64)) = (0 : Int64) by decide) ?_
      refine o_aload B110 510 512 (v := (.ref a88)) at_510 rfl rfl rfl ?_
      refine o_iconst B110 512 513 (2 : Int32) at_512 rfl (by decide) ?_
      refine o_laload B110 513 514 A110 2 (1 : Int64) at_513 rfl (by decide) (by decide) (by decide) rfl ?_
      refine o_lmul B110 514 515 at_514 rfl ?_
      refine o_topJ (show ((0 : Int64) * (1 : Int64)) = (0 : Int64) by decide) ?_
      refine o_aload B110 515 517 (v := (.ref a88)) at_515 rfl rfl rfl ?_
      refine o_iconst B110 517 518 (3 : Int32) at_517 rfl (by decide) ?_
      refine o_laload B110 518 519 A110 3 (q0_32 shape p0 p1 p2 p3) at_518 rfl (by decide) (by decide) (by decide) rfl ?_
      refine o_lmul B110 519 520 at_519 rfl ?_
      refine o_aload B110 520 522 (v := (.ref a78)) at_520 rfl rfl rfl ?_
      refine o_iconst B110 522 523 (1 : Int32) at_522 rfl (by decide) ?_
      refine o_laload B110 523 524 F113 1 (0 : Int64) at_523 rfl (by decide) (by decide) (by decide) rfl ?_
      refine o_aload B110 524 526 (v := (.ref a88)) at_524 rfl rfl rfl ?_
      refine o_iconst B110 526 527 (2 : Int32) at_526 rfl (by decide) ?_
      refine o_laload B110 527 528 A110 2 (1 : Int64) at_527 rfl (by decide) (by decide) (by decide) rfl ?_
      refine o_lmul B110 528 529 at_528 rfl ?_
      refine o_topJ (show ((0 : Int64) * (1 : Int64)) = (0 : Int64) by decide) ?_
      refine o_aload B110 529 531 (v := (.ref a88)) at_529 rfl rfl rfl ?_
      refine o_iconst B110 531 532 (3 : Int32) at_531 rfl (by decide) ?_
      refine o_laload B110 532 533 A110 3 (q0_32 shape p0 p1 p2 p3) at_532 rfl (by decide) (by decide) (by decide) rfl ?_
      refine o_lmul B110 533 534 at_533 rfl ?_
      refine o_ladd B110 534 535 at_534 rfl ?_
      refine o_aload B110 535 537 (v := (.ref a78)) at_535 rfl rfl rfl ?_
      refine o_iconst B110 537 538 (2 : Int32) at_537 rfl (by decide) ?_
      refine o_laload B110 538 539 F113 2 (0 : Int64) at_538 rfl (by decide) (by decide) (by decide) rfl ?_
      refine o_aload B110 539 541 (v := (.ref a88)) at_539 rfl rfl rfl ?_
      refine o_iconst B110 541 542 (3 : Int32) at_541 rfl (by decide) ?_
      refine o_laload B110 542 543 A110 3 (q0_32 shape p0 p1 p2 p3) at_542 rfl (by decide) (by decide) (by decide) rfl ?_
      refine o_lmul B110 543 544 at_543 rfl ?_
      refine o_ladd B110 544 545 at_544 rfl ?_
      refine o_aload B110 545 547 (v := (.ref a78)) at_545 rfl rfl rfl ?_
      refine o_iconst B110 547 548 (3 : Int32) at_547 rfl (by decide) ?_
      refine o_laload B110 548 549 F113 3 (q0_30 shape p0 p1 p2 p3) at_548 rfl (by decide) (by decide) (by decide) rfl ?_
      refine o_ladd B110 549 550 at_549 rfl ?_
      refine o_lstore B110 550 552 (l' := #[.val (.int shape), .val (.long p0), .second, .val (.long p1), .second, .val (.long p2), .second, .val (.long p3), .second, .val (.ref a1), .val (.ref a10), .val (.int (1 : Int32)), .val (.int (q0_18 shape p0 p1 p2 p3)), .val (.ref a73), .val (.ref a78), .val (.ref a88), .val (.long (q0_34 shape p0 p1 p2 p3)), .second, .unset, .unset, .unset, .unset]) at_550 rfl rfl ?_
      refine o_aload B110 552 554 (v := (.ref a88)) at_552 rfl rfl rfl ?_
      refine o_iconst B110 554 555 (0 : Int32) at_554 rfl (by decide) ?_
      refine o_laload B110 555 556 A110 0 (1 : Int64) at_555 rfl (by decide) (by decide) (by decide) rfl ?_
      refine o_aload B110 556 558 (v := (.ref a88)) at_556 rfl rfl rfl ?_
      refine o_iconst B110 558 559 (1 : Int32) at_558 rfl (by decide) ?_
      refine o_laload B110 559 560 A110 1 (1 : Int64) at_559 rfl (by decide) (by decide) (by decide) rfl ?_
      refine o_lmul B110 560 561 at_560 rfl ?_
      refine o_topJ (show ((1 : Int64) * (1 : Int64)) = (1 : Int64) by decide) ?_
      refine o_aload B110 561 563 (v := (.ref a88)) at_561 rfl rfl rfl ?_
      refine o_iconst B110 563 564 (2 : Int32) at_563 rfl (by decide) ?_
      refine o_laload B110 564 565 A110 2 (1 : Int64) at_564 rfl (by decide) (by decide) (by decide) rfl ?_
      refine o_lmul B110 565 566 at_565 rfl ?_
      refine o_topJ (show ((1 : Int64) * (1 : Int64)) = (1 : Int64) by decide) ?_
      refine o_aload B110 566 568 (v := (.ref a88)) at_566 rfl rfl rfl ?_
      refine o_iconst B110 568 569 (3 : Int32) at_568 rfl (by decide) ?_
      refine o_laload B110 569 570 A110 3 (q0_32 shape p0 p1 p2 p3) at_569 rfl (by decide) (by decide) (by decide) rfl ?_
      refine o_lmul B110 570 571 at_570 rfl ?_
      refine o_lstore B110 571 573 (l' := #[.val (.int shape), .val (.long p0), .second, .val (.long p1), .second, .val (.long p2), .second, .val (.long p3), .second, .val (.ref a1), .val (.ref a10), .val (.int (1 : Int32)), .val (.int (q0_18 shape p0 p1 p2 p3)), .val (.ref a73), .val (.ref a78), .val (.ref a88), .val (.long (q0_34 shape p0 p1 p2 p3)), .second, .val (.long ((1 : Int64) * (q0_32 shape p0 p1 p2 p3))), .second, .unset, .unset]) at_571 rfl rfl ?_
      refine o_aload B110 573 575 (v := (.ref a73)) at_573 rfl rfl rfl ?_
      refine o_aload B110 575 577 (v := (.ref a10)) at_575 rfl rfl rfl ?_
      refine o_aload B110 577 579 (v := (.ref a1)) at_577 rfl rfl rfl ?_
      have F127 := (F107.other W110 ne94)
      have F128 := ((F103.other W104 ne82).other W110 ne92)
      have F129 := (F109.other W110 ne90)
      obtain ⟨T130, B130, c130⟩ := o_callP B110 579 582 at_579 rfl (hw _ (List.mem_of_getElem? (i := 11) rfl)) (hw _ (List.mem_of_getElem? (i := 12) rfl)) (hw _ (List.mem_of_getElem? (i := 13) rfl)) (hw _ (List.mem_of_getElem? (i := 14) rfl)) (by decide) (rm3_1 l Z a0 hw (w0_29 shape p0 p1 p2 p3) (w0_16 shape p0 p1 p2 p3) (w0_8 shape p0 p1 p2 p3) a73 a10 a1 h110 F127 F128 F129 (own_hs1 (own_b_q0_28 shape p0 p1 p2 p3))) 0 [(.ref a73), (.ref a10), (.ref a1)] [] pd___I_I_I_J rfl rfl (st := [(.ref a1), (.ref a10), (.ref a73)]) rfl (Ls := #[.val (.int shape), .val (.long p0), .second, .val (.long p1), .second, .val (.long p2), .second, .val (.long p3), .second, .val (.ref a1), .val (.ref a10), .val (.int (1 : Int32)), .val (.int (q0_18 shape p0 p1 p2 p3)), .val (.ref a73), .val (.ref a78), .val (.ref a88), .val (.long (q0_34 shape p0 p1 p2 p3)), .second, .val (.long ((1 : Int64) * (q0_32 shape p0 p1 p2 p3))), .second, .unset, .unset]) rfl (Nat.le_of_eq rfl) (by decide) (by decide) (by decide) (by decide)
      refine c130 ?_
      refine o_lstore B130 582 584 (l' := #[.val (.int shape), .val (.long p0), .second, .val (.long p1), .second, .val (.long p2), .second, .val (.long p3), .second, .val (.ref a1), .val (.ref a10), .val (.int (1 : Int32)), .val (.int (q0_18 shape p0 p1 p2 p3)), .val (.ref a73), .val (.ref a78), .val (.ref a88), .val (.long (q0_34 shape p0 p1 p2 p3)), .second, .val (.long ((1 : Int64) * (q0_32 shape p0 p1 p2 p3))), .second, .val (.long (q0_35 shape p0 p1 p2 p3)), .second]) at_582 rfl rfl ?_
      refine o_lload B130 584 586 (v := (q0_35 shape p0 p1 p2 p3)) at_584 rfl rfl ?_
      refine o_lload B130 586 588 (v := (q0_34 shape p0 p1 p2 p3)) at_586 rfl rfl ?_
      refine o_lcmp B130 588 589 at_588 rfl ?_
      by_cases k6 : (q0_35 shape p0 p1 p2 p3) = (q0_34 shape p0 p1 p2 p3)
      · refine o_ifN B130 589 592 at_589 rfl (XT.ll_ne_f k6) ?_
        refine o_lload B130 592 594 (v := (q0_35 shape p0 p1 p2 p3)) at_592 rfl rfl ?_
        refine o_lconst B130 594 595 (0 : Int64) at_594 rfl (by decide) ?_
        refine o_lcmp B130 595 596 at_595 rfl ?_
        by_cases k7 : (q0_35 shape p0 p1 p2 p3) < (0 : Int64)
        · refine o_ifY B130 596 611 at_596 (XT.ll_lt_t k7) (by decide) (by decide) ?_
          refine o_iconst B130 611 612 (0 : Int32) at_611 rfl (by decide) ?_
          refine o_retZ (t := .boolean) B130 612 at_612 hret hlk (by simp) (by decide) (by decide) ⟨(congrArg (fun z => some (Value.int z)) ((show nar .boolean (0 : Int32) = (0 : Int32) from rfl).trans (show f0 shape p0 p1 p2 p3 = (0 : Int32) from (if_neg k1).trans ((if_pos k5).trans ((if_pos k6).trans ((if_pos k7).trans (rfl))))).symm)), N110⟩
        · refine o_ifN B130 596 599 at_596 rfl (XT.ll_lt_f k7) ?_
          refine o_lload B130 599 601 (v := (q0_35 shape p0 p1 p2 p3)) at_599 rfl rfl ?_
          refine o_lload B130 601 603 (v := ((1 : Int64) * (q0_32 shape p0 p1 p2 p3))) at_601 rfl rfl ?_
          refine o_lcmp B130 603 604 at_603 rfl ?_
          by_cases k8 : (q0_35 shape p0 p1 p2 p3) < ((1 : Int64) * (q0_32 shape p0 p1 p2 p3))
          · refine o_ifN B130 604 607 at_604 rfl (XT.ll_ge_f k8) ?_
            refine o_iconst B130 607 608 (1 : Int32) at_607 rfl (by decide) ?_
            refine o_goto B130 608 612 at_608 (by decide) (by decide) ?_
            refine o_retZ (t := .boolean) B130 612 at_612 hret hlk (by simp) (by decide) (by decide) ⟨(congrArg (fun z => some (Value.int z)) ((show nar .boolean (1 : Int32) = (1 : Int32) from rfl).trans (show f0 shape p0 p1 p2 p3 = (1 : Int32) from (if_neg k1).trans ((if_pos k5).trans ((if_pos k6).trans ((if_neg k7).trans ((if_pos k8).trans (rfl)))))).symm)), N110⟩
          · refine o_ifY B130 604 611 at_604 (XT.ll_ge_t k8) (by decide) (by decide) ?_
            refine o_iconst B130 611 612 (0 : Int32) at_611 rfl (by decide) ?_
            refine o_retZ (t := .boolean) B130 612 at_612 hret hlk (by simp) (by decide) (by decide) ⟨(congrArg (fun z => some (Value.int z)) ((show nar .boolean (0 : Int32) = (0 : Int32) from rfl).trans (show f0 shape p0 p1 p2 p3 = (0 : Int32) from (if_neg k1).trans ((if_pos k5).trans ((if_pos k6).trans ((if_neg k7).trans ((if_neg k8).trans (rfl)))))).symm)), N110⟩
      · refine o_ifY B130 589 611 at_589 (XT.ll_ne_t k6) (by decide) (by decide) ?_
        refine o_iconst B130 611 612 (0 : Int32) at_611 rfl (by decide) ?_
        refine o_retZ (t := .boolean) B130 612 at_612 hret hlk (by simp) (by decide) (by decide) ⟨(congrArg (fun z => some (Value.int z)) ((show nar .boolean (0 : Int32) = (0 : Int32) from rfl).trans (show f0 shape p0 p1 p2 p3 = (0 : Int32) from (if_neg k1).trans ((if_pos k5).trans ((if_neg k6).trans (rfl)))).symm)), N110⟩
    · by_cases k9 : (q0_17 shape p0 p1 p2 p3) = (2 : Int32)
      · rw [k9]
        refine o_iloadN B27 102 103 (v := shape) at_102 rfl rfl ?_
        refine o_iconst B27 103 104 (3 : Int32) at_103 rfl (by decide) ?_
        refine o_iushr B27 104 105 at_104 rfl ?_
        refine o_istore B27 105 107 (l' := #[.val (.int shape), .val (.long p0), .second, .val (.long p1), .second, .val (.long p2), .second, .val (.long p3), .second, .val (.ref a1), .val (.ref a10), .val (.int (2 : Int32)), .val (.int (q0_18 shape p0 p1 p2 p3)), .unset, .unset, .unset, .unset, .unset, .unset, .unset, .unset, .unset]) at_105 rfl rfl ?_
        refine o_iload B27 107 109 (v := (2 : Int32)) at_107 rfl rfl ?_
        obtain ⟨a131, T131, h131, z131, B131, E131, A131, c131⟩ := o_newI B27 109 111 (ty := .int) (z := (2 : Int32)) 2 2 (hw _ (List.mem_of_getElem? (i := 0) rfl)) at_109 rfl rfl rfl (by decide) (by decide) (by decide) (by decide) (by decide) (by decide) (Ls := #[.val (.int shape), .val (.long p0), .second, .val (.long p1), .second, .val (.long p2), .second, .val (.long p3), .second, .val (.ref a1), .val (.ref a10), .val (.int (2 : Int32)), .val (.int (q0_18 shape p0 p1 p2 p3)), .unset, .unset, .unset, .unset, .unset, .unset, .unset, .unset, .unset]) (rest := [])
        have F132 := (F25.other W27 ne11)
        have ne133 : a1 ≠ a131 := by rw [z131]; exact Nat.ne_of_lt F132.lt
        have ne134 : a10 ≠ a131 := by rw [z131]; exact Nat.ne_of_lt A27.lt
        have g131 : n0 ≤ a131 := by rw [z131]; exact (W27.size ▸ (W23.size ▸ (W19.size ▸ (W15.size ▸ s10))))
        have s131 : n0 ≤ h131.size := Nat.le_trans (W27.size ▸ (W23.size ▸ (W19.size ▸ (W15.size ▸ s10)))) E131.1
        refine c131 ?_
        refine o_astore B131 111 113 (l' := #[.val (.int shape), .val (.long p0), .second, .val (.long p1), .second, .val (.long p2), .second, .val (.long p3), .second, .val (.ref a1), .val (.ref a10), .val (.int (2 : Int32)), .val (.int (q0_18 shape p0 p1 p2 p3)), .val (.ref a131), .unset, .unset, .unset, .unset, .unset, .unset, .unset, .unset]) at_111 rfl rfl rfl ?_
        refine o_iload B131 113 115 (v := (2 : Int32)) at_113 rfl rfl ?_
        refine o_iconst B131 115 116 (1 : Int32) at_115 rfl (by decide) ?_
        refine o_icY B131 116 130 at_116 (XT.ii_ne_t (by decide)) (by decide) (by decide) ?_
        refine o_iload B131 130 132 (v := (2 : Int32)) at_130 rfl rfl ?_
        refine o_iconst B131 132 133 (2 : Int32) at_132 rfl (by decide) ?_
        refine o_icN B131 133 136 at_133 rfl (XT.ii_ne_f (by decide)) ?_
        refine o_bipush B131 136 138 (6 : Int32) at_136 rfl (by decide) ?_
        obtain ⟨a135, T135, h135, z135, B135, E135, A135, c135⟩ := o_newI B131 138 140 (ty := .int) (z := (6 : Int32)) 6 6 (hw _ (List.mem_of_getElem? (i := 0) rfl)) at_138 rfl rfl rfl (by decide) (by decide) (by decide) (by decide) (by decide) (by decide) (Ls := #[.val (.int shape), .val (.long p0), .second, .val (.long p1), .second, .val (.long p2), .second, .val (.long p3), .second, .val (.ref a1), .val (.ref a10), .val (.int (2 : Int32)), .val (.int (q0_18 shape p0 p1 p2 p3)), .val (.ref a131), .unset, .unset, .unset, .unset, .unset, .unset, .unset, .unset]) (rest := [])
        have F136 := (F132.ext E131)
        have ne137 : a1 ≠ a135 := by rw [z135]; exact Nat.ne_of_lt F136.lt
        have F138 := (A27.ext E131)
        have ne139 : a10 ≠ a135 := by rw [z135]; exact Nat.ne_of_lt F138.lt
        have ne140 : a131 ≠ a135 := by rw [z135]; exact Nat.ne_of_lt A131.lt
        have g135 : n0 ≤ a135 := by rw [z135]; exact s131
        have s135 : n0 ≤ h135.size := Nat.le_trans s131 E135.1
        refine c135 ?_
        refine o_dup B135 140 141 at_140 rfl rfl ?_
        refine o_iconst B135 141 142 (0 : Int32) at_141 rfl (by decide) ?_
        refine o_iconst B135 142 143 (0 : Int32) at_142 rfl (by decide) ?_
        obtain ⟨T141, h141, L141, B141, N141, W141, Q141, c141⟩ := o_iastore B135 N27 g135 143 144 A135 (j := (0 : Int32)) (x := (0 : Int32)) 0 (0 : Int32) at_143 rfl (by decide) (by decide) (by decide) rfl (Ls := #[.val (.int shape), .val (.long p0), .second, .val (.long p1), .second, .val (.long p2), .second, .val (.long p3), .second, .val (.ref a1), .val (.ref a10), .val (.int (2 : Int32)), .val (.int (q0_18 shape p0 p1 p2 p3)), .val (.ref a131), .unset, .unset, .unset, .unset, .unset, .unset, .unset, .unset]) (rest := [(.ref a135)])
        have A141 : AI Z h141 a135 .int 6 (w0_36 shape p0 p1 p2 p3) := Q141
        refine c141 ?_
        refine o_dup B141 144 145 at_144 rfl rfl ?_
        refine o_iconst B141 145 146 (1 : Int32) at_145 rfl (by decide) ?_
        refine o_iconst B141 146 147 (0 : Int32) at_146 rfl (by decide) ?_
        obtain ⟨T142, h142, L142, B142, N142, W142, Q142, c142⟩ := o_iastore B141 N141 g135 147 148 A141 (j := (1 : Int32)) (x := (0 : Int32)) 1 (0 : Int32) at_147 rfl (by decide) (by decide) (by decide) rfl (Ls := #[.val (.int shape), .val (.long p0), .second, .val (.long p1), .second, .val (.long p2), .second, .val (.long p3), .second, .val (.ref a1), .val (.ref a10), .val (.int (2 : Int32)), .val (.int (q0_18 shape p0 p1 p2 p3)), .val (.ref a131), .unset, .unset, .unset, .unset, .unset, .unset, .unset, .unset]) (rest := [(.ref a135)])
        have A142 : AI Z h142 a135 .int 6 (w0_37 shape p0 p1 p2 p3) := Q142
        refine c142 ?_
        refine o_dup B142 148 149 at_148 rfl rfl ?_
        refine o_iconst B142 149 150 (2 : Int32) at_149 rfl (by decide) ?_
        refine o_iconst B142 150 151 (0 : Int32) at_150 rfl (by decide) ?_
        obtain ⟨T143, h143, L143, B143, N143, W143, Q143, c143⟩ := o_iastore B142 N142 g135 151 152 A142 (j := (2 : Int32)) (x := (0 : Int32)) 2 (0 : Int32) at_151 rfl (by decide) (by decide) (by decide) rfl (Ls := #[.val (.int shape), .val (.long p0), .second, .val (.long p1), .second, .val (.long p2), .second, .val (.long p3), .second, .val (.ref a1), .val (.ref a10), .val (.int (2 : Int32)), .val (.int (q0_18 shape p0 p1 p2 p3)), .val (.ref a131), .unset, .unset, .unset, .unset, .unset, .unset, .unset, .unset]) (rest := [(.ref a135)])
        have A143 : AI Z h143 a135 .int 6 (w0_38 shape p0 p1 p2 p3) := Q143
        refine c143 ?_
        refine o_dup B143 152 153 at_152 rfl rfl ?_
        refine o_iconst B143 153 154 (3 : Int32) at_153 rfl (by decide) ?_
        refine o_iconst B143 154 155 (1 : Int32) at_154 rfl (by decide) ?_
        obtain ⟨T144, h144, L144, B144, N144, W144, Q144, c144⟩ := o_iastore B143 N143 g135 155 156 A143 (j := (3 : Int32)) (x := (1 : Int32)) 3 (1 : Int32) at_155 rfl (by decide) (by decide) (by decide) rfl (Ls := #[.val (.int shape), .val (.long p0), .second, .val (.long p1), .second, .val (.long p2), .second, .val (.long p3), .second, .val (.ref a1), .val (.ref a10), .val (.int (2 : Int32)), .val (.int (q0_18 shape p0 p1 p2 p3)), .val (.ref a131), .unset, .unset, .unset, .unset, .unset, .unset, .unset, .unset]) (rest := [(.ref a135)])
        have A144 : AI Z h144 a135 .int 6 (w0_39 shape p0 p1 p2 p3) := Q144
        refine c144 ?_
        refine o_dup B144 156 157 at_156 rfl rfl ?_
        refine o_iconst B144 157 158 (4 : Int32) at_157 rfl (by decide) ?_
        refine o_iconst B144 158 159 (1 : Int32) at_158 rfl (by decide) ?_
        obtain ⟨T145, h145, L145, B145, N145, W145, Q145, c145⟩ := o_iastore B144 N144 g135 159 160 A144 (j := (4 : Int32)) (x := (1 : Int32)) 4 (1 : Int32) at_159 rfl (by decide) (by decide) (by decide) rfl (Ls := #[.val (.int shape), .val (.long p0), .second, .val (.long p1), .second, .val (.long p2), .second, .val (.long p3), .second, .val (.ref a1), .val (.ref a10), .val (.int (2 : Int32)), .val (.int (q0_18 shape p0 p1 p2 p3)), .val (.ref a131), .unset, .unset, .unset, .unset, .unset, .unset, .unset, .unset]) (rest := [(.ref a135)])
        have A145 : AI Z h145 a135 .int 6 (w0_40 shape p0 p1 p2 p3) := Q145
        refine c145 ?_
        refine o_dup B145 160 161 at_160 rfl rfl ?_
        refine o_iconst B145 161 162 (5 : Int32) at_161 rfl (by decide) ?_
        refine o_iconst B145 162 163 (2 : Int32) at_162 rfl (by decide) ?_
        obtain ⟨T146, h146, L146, B146, N146, W146, Q146, c146⟩ := o_iastore B145 N145 g135 163 164 A145 (j := (5 : Int32)) (x := (2 : Int32)) 5 (2 : Int32) at_163 rfl (by decide) (by decide) (by decide) rfl (Ls := #[.val (.int shape), .val (.long p0), .second, .val (.long p1), .second, .val (.long p2), .second, .val (.long p3), .second, .val (.ref a1), .val (.ref a10), .val (.int (2 : Int32)), .val (.int (q0_18 shape p0 p1 p2 p3)), .val (.ref a131), .unset, .unset, .unset, .unset, .unset, .unset, .unset, .unset]) (rest := [(.ref a135)])
        have A146 : AI Z h146 a135 .int 6 (w0_41 shape p0 p1 p2 p3) := Q146
        refine c146 ?_
        refine o_astore B146 164 166 (l' := #[.val (.int shape), .val (.long p0), .second, .val (.long p1), .second, .val (.long p2), .second, .val (.long p3), .second, .val (.ref a1), .val (.ref a10), .val (.int (2 : Int32)), .val (.int (q0_18 shape p0 p1 p2 p3)), .val (.ref a131), .val (.ref a135), .unset, .unset, .unset, .unset, .unset, .unset, .unset]) at_164 rfl rfl rfl ?_
        refine o_bipush B146 166 168 (6 : Int32) at_166 rfl (by decide) ?_
        obtain ⟨a147, T147, h147, z147, B147, E147, A147, c147⟩ := o_newI B146 168 170 (ty := .int) (z := (6 : Int32)) 6 6 (hw _ (List.mem_of_getElem? (i := 0) rfl)) at_168 rfl rfl rfl (by decide) (by decide) (by decide) (by decide) (by decide) (by decide) (Ls := #[.val (.int shape), .val (.long p0), .second, .val (.long p1), .second, .val (.long p2), .second, .val (.long p3), .second, .val (.ref a1), .val (.ref a10), .val (.int (2 : Int32)), .val (.int (q0_18 shape p0 p1 p2 p3)), .val (.ref a131), .val (.ref a135), .unset, .unset, .unset, .unset, .unset, .unset, .unset]) (rest := [])
        have F148 := (((((((F136.ext E135).other W141 ne137).other W142 ne137).other W143 ne137).other W144 ne137).other W145 ne137).other W146 ne137)
        have ne149 : a1 ≠ a147 := by rw [z147]; exact Nat.ne_of_lt F148.lt
        have F150 := (((((((F138.ext E135).other W141 ne139).other W142 ne139).other W143 ne139).other W144 ne139).other W145 ne139).other W146 ne139)
        have ne151 : a10 ≠ a147 := by rw [z147]; exact Nat.ne_of_lt F150.lt
        have F152 := (((((((A131.ext E135).other W141 ne140).other W142 ne140).other W143 ne140).other W144 ne140).other W145 ne140).other W146 ne140)
        have ne153 : a131 ≠ a147 := by rw [z147]; exact Nat.ne_of_lt F152.lt
        have ne154 : a135 ≠ a147 := by rw [z147]; exact Nat.ne_of_lt A146.lt
        have g147 : n0 ≤ a147 := by rw [z147]; exact (W146.size ▸ (W145.size ▸ (W144.size ▸ (W143.size ▸ (W142.size ▸ (W141.size ▸ s135))))))
        have s147 : n0 ≤ h147.size := Nat.le_trans (W146.size ▸ (W145.size ▸ (W144.size ▸ (W143.size ▸ (W142.size ▸ (W141.size ▸ s135)))))) E147.1
        refine c147 ?_
        refine o_dup B147 170 171 at_170 rfl rfl ?_
        refine o_iconst B147 171 172 (0 : Int32) at_171 rfl (by decide) ?_
        refine o_iconst B147 172 173 (1 : Int32) at_172 rfl (by decide) ?_
        obtain ⟨T155, h155, L155, B155, N155, W155, Q155, c155⟩ := o_iastore B147 N146 g147 173 174 A147 (j := (0 : Int32)) (x := (1 : Int32)) 0 (1 : Int32) at_173 rfl (by decide) (by decide) (by decide) rfl (Ls := #[.val (.int shape), .val (.long p0), .second, .val (.long p1), .second, .val (.long p2), .second, .val (.long p3), .second, .val (.ref a1), .val (.ref a10), .val (.int (2 : Int32)), .val (.int (q0_18 shape p0 p1 p2 p3)), .val (.ref a131), .val (.ref a135), .unset, .unset, .unset, .unset, .unset, .unset, .unset]) (rest := [(.ref a147)])
        have A155 : AI Z h155 a147 .int 6 (w0_42 shape p0 p1 p2 p3) := Q155
        refine c155 ?_
        refine o_dup B155 174 175 at_174 rfl rfl ?_
        refine o_iconst B155 175 176 (1 : Int32) at_175 rfl (by decide) ?_
        refine o_iconst B155 176 177 (2 : Int32) at_176 rfl (by decide) ?_
        obtain ⟨T156, h156, L156, B156, N156, W156, Q156, c156⟩ := o_iastore B155 N155 g147 177 178 A155 (j := (1 : Int32)) (x := (2 : Int32)) 1 (2 : Int32) at_177 rfl (by decide) (by decide) (by decide) rfl (Ls := #[.val (.int shape), .val (.long p0), .second, .val (.long p1), .second, .val (.long p2), .second, .val (.long p3), .second, .val (.ref a1), .val (.ref a10), .val (.int (2 : Int32)), .val (.int (q0_18 shape p0 p1 p2 p3)), .val (.ref a131), .val (.ref a135), .unset, .unset, .unset, .unset, .unset, .unset, .unset]) (rest := [(.ref a147)])
        have A156 : AI Z h156 a147 .int 6 (w0_43 shape p0 p1 p2 p3) := Q156
        refine c156 ?_
        refine o_dup B156 178 179 at_178 rfl rfl ?_
        refine o_iconst B156 179 180 (2 : Int32) at_179 rfl (by decide) ?_
        refine o_iconst B156 180 181 (3 : Int32) at_180 rfl (by decide) ?_
        obtain ⟨T157, h157, L157, B157, N157, W157, Q157, c157⟩ := o_iastore B156 N156 g147 181 182 A156 (j := (2 : Int32)) (x := (3 : Int32)) 2 (3 : Int32) at_181 rfl (by decide) (by decide) (by decide) rfl (Ls := #[.val (.int shape), .val (.long p0), .second, .val (.long p1), .second, .val (.long p2), .second, .val (.long p3), .second, .val (.ref a1), .val (.ref a10), .val (.int (2 : Int32)), .val (.int (q0_18 shape p0 p1 p2 p3)), .val (.ref a131), .val (.ref a135), .unset, .unset, .unset, .unset, .unset, .unset, .unset]) (rest := [(.ref a147)])
        have A157 : AI Z h157 a147 .int 6 (w0_44 shape p0 p1 p2 p3) := Q157
        refine c157 ?_
        refine o_dup B157 182 183 at_182 rfl rfl ?_
        refine o_iconst B157 183 184 (3 : Int32) at_183 rfl (by decide) ?_
        refine o_iconst B157 184 185 (2 : Int32) at_184 rfl (by decide) ?_
        obtain ⟨T158, h158, L158, B158, N158, W158, Q158, c158⟩ := o_iastore B157 N157 g147 185 186 A157 (j := (3 : Int32)) (x := (2 : Int32)) 3 (2 : Int32) at_185 rfl (by decide) (by decide) (by decide) rfl (Ls := #[.val (.int shape), .val (.long p0), .second, .val (.long p1), .second, .val (.long p2), .second, .val (.long p3), .second, .val (.ref a1), .val (.ref a10), .val (.int (2 : Int32)), .val (.int (q0_18 shape p0 p1 p2 p3)), .val (.ref a131), .val (.ref a135), .unset, .unset, .unset, .unset, .unset, .unset, .unset]) (rest := [(.ref a147)])
        have A158 : AI Z h158 a147 .int 6 (w0_45 shape p0 p1 p2 p3) := Q158
        refine c158 ?_
        refine o_dup B158 186 187 at_186 rfl rfl ?_
        refine o_iconst B158 187 188 (4 : Int32) at_187 rfl (by decide) ?_
        refine o_iconst B158 188 189 (3 : Int32) at_188 rfl (by decide) ?_
        obtain ⟨T159, h159, L159, B159, N159, W159, Q159, c159⟩ := o_iastore B158 N158 g147 189 190 A158 (j := (4 : Int32)) (x := (3 : Int32)) 4 (3 : Int32) at_189 rfl (by decide) (by decide) (by decide) rfl (Ls := #[.val (.int shape), .val (.long p0), .second, .val (.long p1), .second, .val (.long p2), .second, .val (.long p3), .second, .val (.ref a1), .val (.ref a10), .val (.int (2 : Int32)), .val (.int (q0_18 shape p0 p1 p2 p3)), .val (.ref a131), .val (.ref a135), .unset, .unset, .unset, .unset, .unset, .unset, .unset]) (rest := [(.ref a147)])
        have A159 : AI Z h159 a147 .int 6 (w0_46 shape p0 p1 p2 p3) := Q159
        refine c159 ?_
        refine o_dup B159 190 191 at_190 rfl rfl ?_
        refine o_iconst B159 191 192 (5 : Int32) at_191 rfl (by decide) ?_
        refine o_iconst B159 192 193 (3 : Int32) at_192 rfl (by decide) ?_
        obtain ⟨T160, h160, L160, B160, N160, W160, Q160, c160⟩ := o_iastore B159 N159 g147 193 194 A159 (j := (5 : Int32)) (x := (3 : Int32)) 5 (3 : Int32) at_193 rfl (by decide) (by decide) (by decide) rfl (Ls := #[.val (.int shape), .val (.long p0), .second, .val (.long p1), .second, .val (.long p2), .second, .val (.long p3), .second, .val (.ref a1), .val (.ref a10), .val (.int (2 : Int32)), .val (.int (q0_18 shape p0 p1 p2 p3)), .val (.ref a131), .val (.ref a135), .unset, .unset, .unset, .unset, .unset, .unset, .unset]) (rest := [(.ref a147)])
        have A160 : AI Z h160 a147 .int 6 (w0_47 shape p0 p1 p2 p3) := Q160
        refine c160 ?_
        refine o_astore B160 194 196 (l' := #[.val (.int shape), .val (.long p0), .second, .val (.long p1), .second, .val (.long p2), .second, .val (.long p3), .second, .val (.ref a1), .val (.ref a10), .val (.int (2 : Int32)), .val (.int (q0_18 shape p0 p1 p2 p3)), .val (.ref a131), .val (.ref a135), .val (.ref a147), .unset, .unset, .unset, .unset, .unset, .unset]) at_194 rfl rfl rfl ?_
        refine o_iload B160 196 198 (v := (q0_18 shape p0 p1 p2 p3)) at_196 rfl rfl ?_
        refine o_ldc B160 198 200 at_198 rfl (hw _ (List.mem_of_getElem? (i := 15) rfl)) ?_
        refine o_iand B160 200 201 at_200 rfl ?_
        refine o_bipush B160 201 203 (6 : Int32) at_201 rfl (by decide) ?_
        refine o_irem B160 203 204 at_203 rfl (by decide) ?_
        refine o_istore B160 204 206 (l' := #[.val (.int shape), .val (.long p0), .second, .val (.long p1), .second, .val (.long p2), .second, .val (.long p3), .second, .val (.ref a1), .val (.ref a10), .val (.int (2 : Int32)), .val (.int (q0_18 shape p0 p1 p2 p3)), .val (.ref a131), .val (.ref a135), .val (.ref a147), .val (.int (q0_48 shape p0 p1 p2 p3)), .unset, .unset, .unset, .unset, .unset]) at_204 rfl rfl ?_
        refine o_aload B160 206 208 (v := (.ref a131)) at_206 rfl rfl rfl ?_
        refine o_iconst B160 208 209 (0 : Int32) at_208 rfl (by decide) ?_
        refine o_aload B160 209 211 (v := (.ref a135)) at_209 rfl rfl rfl ?_
        refine o_iload B160 211 213 (v := (q0_48 shape p0 p1 p2 p3)) at_211 rfl rfl ?_
        have F162 := (((((((A146.ext E147).other W155 ne154).other W156 ne154).other W157 ne154).other W158 ne154).other W159 ne154).other W160 ne154)
        refine o_iaload B160 213 214 F162 (q0_48 shape p0 p1 p2 p3).toInt.toNat ((w0_41 shape p0 p1 p2 p3) (q0_48 shape p0 p1 p2 p3).toInt.toNat) at_213 rfl (ix_of (own_i6 shape p0 p1 p2 p3)).1 (ix_of (own_i6 shape p0 p1 p2 p3)).2 (own_l6 shape p0 p1 p2 p3) rfl ?_
        have F164 := (((((((F152.ext E147).other W155 ne153).other W156 ne153).other W157 ne153).other W158 ne153).other W159 ne153).other W160 ne153)
        obtain ⟨T163, h163, L163, B163, N163, W163, Q163, c163⟩ := o_iastore B160 N160 g131 214 215 F164 (j := (0 : Int32)) (x := ((w0_41 shape p0 p1 p2 p3) (q0_48 shape p0 p1 p2 p3).toInt.toNat)) 0 (q0_49 shape p0 p1 p2 p3) at_214 rfl (by decide) (by decide) (by decide) rfl (Ls := #[.val (.int shape), .val (.long p0), .second, .val (.long p1), .second, .val (.long p2), .second, .val (.long p3), .second, .val (.ref a1), .val (.ref a10), .val (.int (2 : Int32)), .val (.int (q0_18 shape p0 p1 p2 p3)), .val (.ref a131), .val (.ref a135), .val (.ref a147), .val (.int (q0_48 shape p0 p1 p2 p3)), .unset, .unset, .unset, .unset, .unset]) (rest := [])
        have A163 : AI Z h163 a131 .int 2 (w0_50 shape p0 p1 p2 p3) := Q163
        refine c163 ?_
        refine o_aload B163 215 217 (v := (.ref a131)) at_215 rfl rfl rfl ?_
        refine o_iconst B163 217 218 (1 : Int32) at_217 rfl (by decide) ?_
        refine o_aload B163 218 220 (v := (.ref a147)) at_218 rfl rfl rfl ?_
        refine o_iload B163 220 222 (v := (q0_48 shape p0 p1 p2 p3)) at_220 rfl rfl ?_
        have F166 := (A160.other W163 (Ne.symm ne153))
        refine o_iaload B163 222 223 F166 (q0_48 shape p0 p1 p2 p3).toInt.toNat ((w0_47 shape p0 p1 p2 p3) (q0_48 shape p0 p1 p2 p3).toInt.toNat) at_222 rfl (ix_of (own_i6 shape p0 p1 p2 p3)).1 (ix_of (own_i6 shape p0 p1 p2 p3)).2 (own_l6 shape p0 p1 p2 p3) rfl ?_
        obtain ⟨T167, h167, L167, B167, N167, W167, Q167, c167⟩ := o_iastore B163 N163 g131 223 224 A163 (j := (1 : Int32)) (x := ((w0_47 shape p0 p1 p2 p3) (q0_48 shape p0 p1 p2 p3).toInt.toNat)) 1 (q0_51 shape p0 p1 p2 p3) at_223 rfl (by decide) (by decide) (by decide) rfl (Ls := #[.val (.int shape), .val (.long p0), .second, .val (.long p1), .second, .val (.long p2), .second, .val (.long p3), .second, .val (.ref a1), .val (.ref a10), .val (.int (2 : Int32)), .val (.int (q0_18 shape p0 p1 p2 p3)), .val (.ref a131), .val (.ref a135), .val (.ref a147), .val (.int (q0_48 shape p0 p1 p2 p3)), .unset, .unset, .unset, .unset, .unset]) (rest := [])
        have A167 : AI Z h167 a131 .int 2 (w0_52 shape p0 p1 p2 p3) := Q167
        refine c167 ?_
        refine o_goto B167 224 312 at_224 (by decide) (by decide) ?_
        refine o_iconst B167 312 313 (4 : Int32) at_312 rfl (by decide) ?_
        obtain ⟨a168, T168, h168, z168, B168, E168, A168, c168⟩ := o_newJ B167 313 315 (z := (4 : Int32)) 4 4 (hw _ (List.mem_of_getElem? (i := 10) rfl)) at_313 rfl rfl (by decide) (by decide) (by decide) (by decide) (by decide) (by decide) (Ls := #[.val (.int shape), .val (.long p0), .second, .val (.long p1), .second, .val (.long p2), .second, .val (.long p3), .second, .val (.ref a1), .val (.ref a10), .val (.int (2 : Int32)), .val (.int (q0_18 shape p0 p1 p2 p3)), .val (.ref a131), .val (.ref a135), .val (.ref a147), .val (.int (q0_48 shape p0 p1 p2 p3)), .unset, .unset, .unset, .unset, .unset]) (rest := [])
        have F169 := (((((((((F148.ext E147).other W155 ne149).other W156 ne149).other W157 ne149).other W158 ne149).other W159 ne149).other W160 ne149).other W163 ne133).other W167 ne133)
        have ne170 : a1 ≠ a168 := by rw [z168]; exact Nat.ne_of_lt F169.lt
        have F171 := (((((((((F150.ext E147).other W155 ne151).other W156 ne151).other W157 ne151).other W158 ne151).other W159 ne151).other W160 ne151).other W163 ne134).other W167 ne134)
        have ne172 : a10 ≠ a168 := by rw [z168]; exact Nat.ne_of_lt F171.lt
        have ne173 : a131 ≠ a168 := by rw [z168]; exact Nat.ne_of_lt A167.lt
        have F174 := ((F162.other W163 (Ne.symm ne140)).other W167 (Ne.symm ne140))
        have ne175 : a135 ≠ a168 := by rw [z168]; exact Nat.ne_of_lt F174.lt
        have F176 := (F166.other W167 (Ne.symm ne153))
        have ne177 : a147 ≠ a168 := by rw [z168]; exact Nat.ne_of_lt F176.lt
        have g168 : n0 ≤ a168 := by rw [z168]; exact (W167.size ▸ (W163.size ▸ (W160.size ▸ (W159.size ▸ (W158.size ▸ (W157.size ▸ (W156.size ▸ (W155.size ▸ s147))))))))
        have s168 : n0 ≤ h168.size := Nat.le_trans (W167.size ▸ (W163.size ▸ (W160.size ▸ (W159.size ▸ (W158.size ▸ (W157.size ▸ (W156.size ▸ (W155.size ▸ s147)))))))) E168.1
        refine c168 ?_
        refine o_dup B168 315 316 at_315 rfl rfl ?_
        refine o_iconst B168 316 317 (0 : Int32) at_316 rfl (by decide) ?_
        refine o_lconst B168 317 318 (0 : Int64) at_317 rfl (by decide) ?_
        obtain ⟨T178, h178, L178, B178, N178, W178, Q178, c178⟩ := o_lastore B168 N167 g168 318 319 A168 (j := (0 : Int32)) (x := (0 : Int64)) 0 (0 : Int64) at_318 rfl (by decide) (by decide) (by decide) rfl (Ls := #[.val (.int shape), .val (.long p0), .second, .val (.long p1), .second, .val (.long p2), .second, .val (.long p3), .second, .val (.ref a1), .val (.ref a10), .val (.int (2 : Int32)), .val (.int (q0_18 shape p0 p1 p2 p3)), .val (.ref a131), .val (.ref a135), .val (.ref a147), .val (.int (q0_48 shape p0 p1 p2 p3)), .unset, .unset, .unset, .unset, .unset]) (rest := [(.ref a168)])
        have A178 : AJ Z h178 a168 4 (w0_19 shape p0 p1 p2 p3) := Q178
        refine c178 ?_
        refine o_dup B178 319 320 at_319 rfl rfl ?_
        refine o_iconst B178 320 321 (1 : Int32) at_320 rfl (by decide) ?_
        refine o_lconst B178 321 322 (0 : Int64) at_321 rfl (by decide) ?_
        obtain ⟨T179, h179, L179, B179, N179, W179, Q179, c179⟩ := o_lastore B178 N178 g168 322 323 A178 (j := (1 : Int32)) (x := (0 : Int64)) 1 (0 : Int64) at_322 rfl (by decide) (by decide) (by decide) rfl (Ls := #[.val (.int shape), .val (.long p0), .second, .val (.long p1), .second, .val (.long p2), .second, .val (.long p3), .second, .val (.ref a1), .val (.ref a10), .val (.int (2 : Int32)), .val (.int (q0_18 shape p0 p1 p2 p3)), .val (.ref a131), .val (.ref a135), .val (.ref a147), .val (.int (q0_48 shape p0 p1 p2 p3)), .unset, .unset, .unset, .unset, .unset]) (rest := [(.ref a168)])
        have A179 : AJ Z h179 a168 4 (w0_20 shape p0 p1 p2 p3) := Q179
        refine c179 ?_
        refine o_dup B179 323 324 at_323 rfl rfl ?_
        refine o_iconst B179 324 325 (2 : Int32) at_324 rfl (by decide) ?_
        refine o_lconst B179 325 326 (0 : Int64) at_325 rfl (by decide) ?_
        obtain ⟨T180, h180, L180, B180, N180, W180, Q180, c180⟩ := o_lastore B179 N179 g168 326 327 A179 (j := (2 : Int32)) (x := (0 : Int64)) 2 (0 : Int64) at_326 rfl (by decide) (by decide) (by decide) rfl (Ls := #[.val (.int shape), .val (.long p0), .second, .val (.long p1), .second, .val (.long p2), .second, .val (.long p3), .second, .val (.ref a1), .val (.ref a10), .val (.int (2 : Int32)), .val (.int (q0_18 shape p0 p1 p2 p3)), .val (.ref a131), .val (.ref a135), .val (.ref a147), .val (.int (q0_48 shape p0 p1 p2 p3)), .unset, .unset, .unset, .unset, .unset]) (rest := [(.ref a168)])
        have A180 : AJ Z h180 a168 4 (w0_21 shape p0 p1 p2 p3) := Q180
        refine c180 ?_
        refine o_dup B180 327 328 at_327 rfl rfl ?_
        refine o_iconst B180 328 329 (3 : Int32) at_328 rfl (by decide) ?_
        refine o_lconst B180 329 330 (0 : Int64) at_329 rfl (by decide) ?_
        obtain ⟨T181, h181, L181, B181, N181, W181, Q181, c181⟩ := o_lastore B180 N180 g168 330 331 A180 (j := (3 : Int32)) (x := (0 : Int64)) 3 (0 : Int64) at_330 rfl (by decide) (by decide) (by decide) rfl (Ls := #[.val (.int shape), .val (.long p0), .second, .val (.long p1), .second, .val (.long p2), .second, .val (.long p3), .second, .val (.ref a1), .val (.ref a10), .val (.int (2 : Int32)), .val (.int (q0_18 shape p0 p1 p2 p3)), .val (.ref a131), .val (.ref a135), .val (.ref a147), .val (.int (q0_48 shape p0 p1 p2 p3)), .unset, .unset, .unset, .unset, .unset]) (rest := [(.ref a168)])
        have A181 : AJ Z h181 a168 4 (w0_22 shape p0 p1 p2 p3) := Q181
        refine c181 ?_
        refine o_astore B181 331 333 (l' := #[.val (.int shape), .val (.long p0), .second, .val (.long p1), .second, .val (.long p2), .second, .val (.long p3), .second, .val (.ref a1), .val (.ref a10), .val (.int (2 : Int32)), .val (.int (q0_18 shape p0 p1 p2 p3)), .val (.ref a131), .val (.ref a168), .val (.ref a147), .val (.int (q0_48 shape p0 p1 p2 p3)), .unset, .unset, .unset, .unset, .unset]) at_331 rfl rfl rfl ?_
        refine o_iconst B181 333 334 (4 : Int32) at_333 rfl (by decide) ?_
        obtain ⟨a182, T182, h182, z182, B182, E182, A182, c182⟩ := o_newJ B181 334 336 (z := (4 : Int32)) 4 4 (hw _ (List.mem_of_getElem? (i := 10) rfl)) at_334 rfl rfl (by decide) (by decide) (by decide) (by decide) (by decide) (by decide) (Ls := #[.val (.int shape), .val (.long p0), .second, .val (.long p1), .second, .val (.long p2), .second, .val (.long p3), .second, .val (.ref a1), .val (.ref a10), .val (.int (2 : Int32)), .val (.int (q0_18 shape p0 p1 p2 p3)), .val (.ref a131), .val (.ref a168), .val (.ref a147), .val (.int (q0_48 shape p0 p1 p2 p3)), .unset, .unset, .unset, .unset, .unset]) (rest := [])
        have F183 := (((((F169.ext E168).other W178 ne170).other W179 ne170).other W180 ne170).other W181 ne170)
        have ne184 : a1 ≠ a182 := by rw [z182]; exact Nat.ne_of_lt F183.lt
        have F185 := (((((F171.ext E168).other W178 ne172).other W179 ne172).other W180 ne172).other W181 ne172)
        have ne186 : a10 ≠ a182 := by rw [z182]; exact Nat.ne_of_lt F185.lt
        have F187 := (((((A167.ext E168).other W178 ne173).other W179 ne173).other W180 ne173).other W181 ne173)
        have ne188 : a131 ≠ a182 := by rw [z182]; exact Nat.ne_of_lt F187.lt
        have F189 := (((((F174.ext E168).other W178 ne175).other W179 ne175).other W180 ne175).other W181 ne175)
        have ne190 : a135 ≠ a182 := by rw [z182]; exact Nat.ne_of_lt F189.lt
        have F191 := (((((F176.ext E168).other W178 ne177).other W179 ne177).other W180 ne177).other W181 ne177)
        have ne192 : a147 ≠ a182 := by rw [z182]; exact Nat.ne_of_lt F191.lt
        have ne193 : a168 ≠ a182 := by rw [z182]; exact Nat.ne_of_lt A181.lt
        have g182 : n0 ≤ a182 := by rw [z182]; exact (W181.size ▸ (W180.size ▸ (W179.size ▸ (W178.size ▸ s168))))
        have s182 : n0 ≤ h182.size := Nat.le_trans (W181.size ▸ (W180.size ▸ (W179.size ▸ (W178.size ▸ s168)))) E182.1
        refine c182 ?_
        refine o_dup B182 336 337 at_336 rfl rfl ?_
        refine o_iconst B182 337 338 (0 : Int32) at_337 rfl (by decide) ?_
        refine o_lconst B182 338 339 (1 : Int64) at_338 rfl (by decide) ?_
        obtain ⟨T194, h194, L194, B194, N194, W194, Q194, c194⟩ := o_lastore B182 N181 g182 339 340 A182 (j := (0 : Int32)) (x := (1 : Int64)) 0 (1 : Int64) at_339 rfl (by decide) (by decide) (by decide) rfl (Ls := #[.val (.int shape), .val (.long p0), .second, .val (.long p1), .second, .val (.long p2), .second, .val (.long p3), .second, .val (.ref a1), .val (.ref a10), .val (.int (2 : Int32)), .val (.int (q0_18 shape p0 p1 p2 p3)), .val (.ref a131), .val (.ref a168), .val (.ref a147), .val (.int (q0_48 shape p0 p1 p2 p3)), .unset, .unset, .unset, .unset, .unset]) (rest := [(.ref a182)])
        have A194 : AJ Z h194 a182 4 (w0_23 shape p0 p1 p2 p3) := Q194
        refine c194 ?_
        refine o_dup B194 340 341 at_340 rfl rfl ?_
        refine o_iconst B194 341 342 (1 : Int32) at_341 rfl (by decide) ?_
        refine o_lconst B194 342 343 (1 : Int64) at_342 rfl (by decide) ?_
        obtain ⟨T195, h195, L195, B195, N195, W195, Q195, c195⟩ := o_lastore B194 N194 g182 343 344 A194 (j := (1 : Int32)) (x := (1 : Int64)) 1 (1 : Int64) at_343 rfl (by decide) (by decide) (by decide) rfl (Ls := #[.val (.int shape), .val (.long p0), .second, .val (.long p1), .second, .val (.long p2), .second, .val (.long p3), .second, .val (.ref a1), .val (.ref a10), .val (.int (2 : Int32)), .val (.int (q0_18 shape p0 p1 p2 p3)), .val (.ref a131), .val (.ref a168), .val (.ref a147), .val (.int (q0_48 shape p0 p1 p2 p3)), .unset, .unset, .unset, .unset, .unset]) (rest := [(.ref a182)])
        have A195 : AJ Z h195 a182 4 (w0_24 shape p0 p1 p2 p3) := Q195
        refine c195 ?_
        refine o_dup B195 344 345 at_344 rfl rfl ?_
        refine o_iconst B195 345 346 (2 : Int32) at_345 rfl (by decide) ?_
        refine o_lconst B195 346 347 (1 : Int64) at_346 rfl (by decide) ?_
        obtain ⟨T196, h196, L196, B196, N196, W196, Q196, c196⟩ := o_lastore B195 N195 g182 347 348 A195 (j := (2 : Int32)) (x := (1 : Int64)) 2 (1 : Int64) at_347 rfl (by decide) (by decide) (by decide) rfl (Ls := #[.val (.int shape), .val (.long p0), .second, .val (.long p1), .second, .val (.long p2), .second, .val (.long p3), .second, .val (.ref a1), .val (.ref a10), .val (.int (2 : Int32)), .val (.int (q0_18 shape p0 p1 p2 p3)), .val (.ref a131), .val (.ref a168), .val (.ref a147), .val (.int (q0_48 shape p0 p1 p2 p3)), .unset, .unset, .unset, .unset, .unset]) (rest := [(.ref a182)])
        have A196 : AJ Z h196 a182 4 (w0_25 shape p0 p1 p2 p3) := Q196
        refine c196 ?_
        refine o_dup B196 348 349 at_348 rfl rfl ?_
        refine o_iconst B196 349 350 (3 : Int32) at_349 rfl (by decide) ?_
        refine o_lconst B196 350 351 (1 : Int64) at_350 rfl (by decide) ?_
        obtain ⟨T197, h197, L197, B197, N197, W197, Q197, c197⟩ := o_lastore B196 N196 g182 351 352 A196 (j := (3 : Int32)) (x := (1 : Int64)) 3 (1 : Int64) at_351 rfl (by decide) (by decide) (by decide) rfl (Ls := #[.val (.int shape), .val (.long p0), .second, .val (.long p1), .second, .val (.long p2), .second, .val (.long p3), .second, .val (.ref a1), .val (.ref a10), .val (.int (2 : Int32)), .val (.int (q0_18 shape p0 p1 p2 p3)), .val (.ref a131), .val (.ref a168), .val (.ref a147), .val (.int (q0_48 shape p0 p1 p2 p3)), .unset, .unset, .unset, .unset, .unset]) (rest := [(.ref a182)])
        have A197 : AJ Z h197 a182 4 (w0_26 shape p0 p1 p2 p3) := Q197
        refine c197 ?_
        refine o_astore B197 352 354 (l' := #[.val (.int shape), .val (.long p0), .second, .val (.long p1), .second, .val (.long p2), .second, .val (.long p3), .second, .val (.ref a1), .val (.ref a10), .val (.int (2 : Int32)), .val (.int (q0_18 shape p0 p1 p2 p3)), .val (.ref a131), .val (.ref a168), .val (.ref a182), .val (.int (q0_48 shape p0 p1 p2 p3)), .unset, .unset, .unset, .unset, .unset]) at_352 rfl rfl rfl ?_
        refine o_iload B197 354 356 (v := (2 : Int32)) at_354 rfl rfl ?_
        refine o_ifN B197 356 359 at_356 rfl (XT.i0_le_f (by decide)) ?_
        refine o_aload B197 359 361 (v := (.ref a168)) at_359 rfl rfl rfl ?_
        refine o_iconst B197 361 362 (4 : Int32) at_361 rfl (by decide) ?_
        refine o_iload B197 362 364 (v := (2 : Int32)) at_362 rfl rfl ?_
        refine o_isub B197 364 365 at_364 rfl ?_
        refine o_topI (show ((4 : Int32) - (2 : Int32)) = (2 : Int32) by decide) ?_
        refine o_aload B197 365 367 (v := (.ref a10)) at_365 rfl rfl rfl ?_
        refine o_aload B197 367 369 (v := (.ref a131)) at_367 rfl rfl rfl ?_
        refine o_iconst B197 369 370 (0 : Int32) at_369 rfl (by decide) ?_
        have F199 := (((((F187.ext E182).other W194 ne188).other W195 ne188).other W196 ne188).other W197 ne188)
        refine o_iaload B197 370 371 F199 0 (q0_49 shape p0 p1 p2 p3) at_370 rfl (by decide) (by decide) (by decide) rfl ?_
        have F201 := (((((F185.ext E182).other W194 ne186).other W195 ne186).other W196 ne186).other W197 ne186)
        refine o_iaload B197 371 372 F201 (q0_49 shape p0 p1 p2 p3).toInt.toNat ((w0_16 shape p0 p1 p2 p3) (q0_49 shape p0 p1 p2 p3).toInt.toNat) at_371 rfl (ix_of (own_ix (own_b_q0_49 shape p0 p1 p2 p3))).1 (ix_of (own_ix (own_b_q0_49 shape p0 p1 p2 p3))).2 (own_lt (own_b_q0_49 shape p0 p1 p2 p3)) rfl ?_
        refine o_i2l B197 372 373 at_372 rfl ?_
        have F203 := (((((A181.ext E182).other W194 ne193).other W195 ne193).other W196 ne193).other W197 ne193)
        obtain ⟨T202, h202, L202, B202, N202, W202, Q202, c202⟩ := o_lastore B197 N197 g168 373 374 F203 (j := (2 : Int32)) (x := ((w0_16 shape p0 p1 p2 p3) (q0_49 shape p0 p1 p2 p3).toInt.toNat).toInt64) 2 (q0_53 shape p0 p1 p2 p3) at_373 rfl (by decide) (by decide) (by decide) rfl (Ls := #[.val (.int shape), .val (.long p0), .second, .val (.long p1), .second, .val (.long p2), .second, .val (.long p3), .second, .val (.ref a1), .val (.ref a10), .val (.int (2 : Int32)), .val (.int (q0_18 shape p0 p1 p2 p3)), .val (.ref a131), .val (.ref a168), .val (.ref a182), .val (.int (q0_48 shape p0 p1 p2 p3)), .unset, .unset, .unset, .unset, .unset]) (rest := [])
        have A202 : AJ Z h202 a168 4 (w0_54 shape p0 p1 p2 p3) := Q202
        refine c202 ?_
        refine o_aload B202 374 376 (v := (.ref a182)) at_374 rfl rfl rfl ?_
        refine o_iconst B202 376 377 (4 : Int32) at_376 rfl (by decide) ?_
        refine o_iload B202 377 379 (v := (2 : Int32)) at_377 rfl rfl ?_
        refine o_isub B202 379 380 at_379 rfl ?_
        refine o_topI (show ((4 : Int32) - (2 : Int32)) = (2 : Int32) by decide) ?_
        refine o_aload B202 380 382 (v := (.ref a1)) at_380 rfl rfl rfl ?_
        refine o_aload B202 382 384 (v := (.ref a131)) at_382 rfl rfl rfl ?_
        refine o_iconst B202 384 385 (0 : Int32) at_384 rfl (by decide) ?_
        have F205 := (F199.other W202 ne173)
        refine o_iaload B202 385 386 F205 0 (q0_49 shape p0 p1 p2 p3) at_385 rfl (by decide) (by decide) (by decide) rfl ?_
        have F207 := ((((((F183.ext E182).other W194 ne184).other W195 ne184).other W196 ne184).other W197 ne184).other W202 ne170)
        refine o_iaload B202 386 387 F207 (q0_49 shape p0 p1 p2 p3).toInt.toNat ((w0_8 shape p0 p1 p2 p3) (q0_49 shape p0 p1 p2 p3).toInt.toNat) at_386 rfl (ix_of (own_ix (own_b_q0_49 shape p0 p1 p2 p3))).1 (ix_of (own_ix (own_b_q0_49 shape p0 p1 p2 p3))).2 (own_lt (own_b_q0_49 shape p0 p1 p2 p3)) rfl ?_
        refine o_i2l B202 387 388 at_387 rfl ?_
        have F209 := (A197.other W202 (Ne.symm ne193))
        obtain ⟨T208, h208, L208, B208, N208, W208, Q208, c208⟩ := o_lastore B202 N202 g182 388 389 F209 (j := (2 : Int32)) (x := ((w0_8 shape p0 p1 p2 p3) (q0_49 shape p0 p1 p2 p3).toInt.toNat).toInt64) 2 (q0_55 shape p0 p1 p2 p3) at_388 rfl (by decide) (by decide) (by decide) rfl (Ls := #[.val (.int shape), .val (.long p0), .second, .val (.long p1), .second, .val (.long p2), .second, .val (.long p3), .second, .val (.ref a1), .val (.ref a10), .val (.int (2 : Int32)), .val (.int (q0_18 shape p0 p1 p2 p3)), .val (.ref a131), .val (.ref a168), .val (.ref a182), .val (.int (q0_48 shape p0 p1 p2 p3)), .unset, .unset, .unset, .unset, .unset]) (rest := [])
        have A208 : AJ Z h208 a182 4 (w0_56 shape p0 p1 p2 p3) := Q208
        refine c208 ?_
        refine o_iload B208 389 391 (v := (2 : Int32)) at_389 rfl rfl ?_
        refine o_iconst B208 391 392 (1 : Int32) at_391 rfl (by decide) ?_
        refine o_icN B208 392 395 at_392 rfl (XT.ii_le_f (by decide)) ?_
        refine o_aload B208 395 397 (v := (.ref a168)) at_395 rfl rfl rfl ?_
        refine o_iconst B208 397 398 (5 : Int32) at_397 rfl (by decide) ?_
        refine o_iload B208 398 400 (v := (2 : Int32)) at_398 rfl rfl ?_
        refine o_isub B208 400 401 at_400 rfl ?_
        refine o_topI (show ((5 : Int32) - (2 : Int32)) = (3 : Int32) by decide) ?_
        refine o_aload B208 401 403 (v := (.ref a10)) at_401 rfl rfl rfl ?_
        refine o_aload B208 403 405 (v := (.ref a131)) at_403 rfl rfl rfl ?_
        refine o_iconst B208 405 406 (1 : Int32) at_405 rfl (by decide) ?_
        have F211 := (F205.other W208 ne188)
        refine o_iaload B208 406 407 F211 1 (q0_51 shape p0 p1 p2 p3) at_406 rfl (by decide) (by decide) (by decide) rfl ?_
        have F213 := ((F201.other W202 ne172).other W208 ne186)
        refine o_iaload B208 407 408 F213 (q0_51 shape p0 p1 p2 p3).toInt.toNat ((w0_16 shape p0 p1 p2 p3) (q0_51 shape p0 p1 p2 p3).toInt.toNat) at_407 rfl (ix_of (own_ix (own_b_q0_51 shape p0 p1 p2 p3))).1 (ix_of (own_ix (own_b_q0_51 shape p0 p1 p2 p3))).2 (own_lt (own_b_q0_51 shape p0 p1 p2 p3)) rfl ?_
        refine o_i2l B208 408 409 at_408 rfl ?_
        have F215 := (A202.other W208 ne193)
        obtain ⟨T214, h214, L214, B214, N214, W214, Q214, c214⟩ := o_lastore B208 N208 g168 409 410 F215 (j := (3 : Int32)) (x := ((w0_16 shape p0 p1 p2 p3) (q0_51 shape p0 p1 p2 p3).toInt.toNat).toInt64) 3 (q0_57 shape p0 p1 p2 p3) at_409 rfl (by decide) (by decide) (by decide) rfl (Ls := #[.val (.int shape), .val (.long p0), .second, .val (.long p1), .second, .val (.long p2), .second, .val (.long p3), .second, .val (.ref a1), .val (.ref a10), .val (.int (2 : Int32)), .val (.int (q0_18 shape p0 p1 p2 p3)), .val (.ref a131), .val (.ref a168), .val (.ref a182), .val (.int (q0_48 shape p0 p1 p2 p3)), .unset, .unset, .unset, .unset, .unset]) (rest := [])
        have A214 : AJ Z h214 a168 4 (w0_58 shape p0 p1 p2 p3) := Q214
        refine c214 ?_
        refine o_aload B214 410 412 (v := (.ref a182)) at_410 rfl rfl rfl ?_
        refine o_iconst B214 412 413 (5 : Int32) at_412 rfl (by decide) ?_
        refine o_iload B214 413 415 (v := (2 : Int32)) at_413 rfl rfl ?_
        refine o_isub B214 415 416 at_415 rfl ?_
        refine o_topI (show ((5 : Int32) - (2 : Int32)) = (3 : Int32) by decide) ?_
        refine o_aload B214 416 418 (v := (.ref a1)) at_416 rfl rfl rfl ?_
        refine o_aload B214 418 420 (v := (.ref a131)) at_418 rfl rfl rfl ?_
        refine o_iconst B214 420 421 (1 : Int32) at_420 rfl (by decide) ?_
        have F217 := (F211.other W214 ne173)
        refine o_iaload B214 421 422 F217 1 (q0_51 shape p0 p1 p2 p3) at_421 rfl (by decide) (by decide) (by decide) rfl ?_
        have F219 := ((F207.other W208 ne184).other W214 ne170)
        refine o_iaload B214 422 423 F219 (q0_51 shape p0 p1 p2 p3).toInt.toNat ((w0_8 shape p0 p1 p2 p3) (q0_51 shape p0 p1 p2 p3).toInt.toNat) at_422 rfl (ix_of (own_ix (own_b_q0_51 shape p0 p1 p2 p3))).1 (ix_of (own_ix (own_b_q0_51 shape p0 p1 p2 p3))).2 (own_lt (own_b_q0_51 shape p0 p1 p2 p3)) rfl ?_
        refine o_i2l B214 423 424 at_423 rfl ?_
        have F221 := (A208.other W214 (Ne.symm ne193))
        obtain ⟨T220, h220, L220, B220, N220, W220, Q220, c220⟩ := o_lastore B214 N214 g182 424 425 F221 (j := (3 : Int32)) (x := ((w0_8 shape p0 p1 p2 p3) (q0_51 shape p0 p1 p2 p3).toInt.toNat).toInt64) 3 (q0_59 shape p0 p1 p2 p3) at_424 rfl (by decide) (by decide) (by decide) rfl (Ls := #[.val (.int shape), .val (.long p0), .second, .val (.long p1), .second, .val (.long p2), .second, .val (.long p3), .second, .val (.ref a1), .val (.ref a10), .val (.int (2 : Int32)), .val (.int (q0_18 shape p0 p1 p2 p3)), .val (.ref a131), .val (.ref a168), .val (.ref a182), .val (.int (q0_48 shape p0 p1 p2 p3)), .unset, .unset, .unset, .unset, .unset]) (rest := [])
        have A220 : AJ Z h220 a182 4 (w0_60 shape p0 p1 p2 p3) := Q220
        refine c220 ?_
        refine o_iload B220 425 427 (v := (2 : Int32)) at_425 rfl rfl ?_
        refine o_iconst B220 427 428 (2 : Int32) at_427 rfl (by decide) ?_
        refine o_icY B220 428 463 at_428 (XT.ii_le_t (by decide)) (by decide) (by decide) ?_
        refine o_iload B220 463 465 (v := (2 : Int32)) at_463 rfl rfl ?_
        refine o_iconst B220 465 466 (3 : Int32) at_465 rfl (by decide) ?_
        refine o_icY B220 466 501 at_466 (XT.ii_le_t (by decide)) (by decide) (by decide) ?_
        refine o_aload B220 501 503 (v := (.ref a168)) at_501 rfl rfl rfl ?_
        refine o_iconst B220 503 504 (0 : Int32) at_503 rfl (by decide) ?_
        have F223 := (A214.other W220 ne193)
        refine o_laload B220 504 505 F223 0 (0 : Int64) at_504 rfl (by decide) (by decide) (by decide) rfl ?_
        refine o_aload B220 505 507 (v := (.ref a182)) at_505 rfl rfl rfl ?_
        refine o_iconst B220 507 508 (1 : Int32) at_507 rfl (by decide) ?_
        refine o_laload B220 508 509 A220 1 (1 : Int64) at_508 rfl (by decide) (by decide) (by decide) rfl ?_
        refine o_lmul B220 509 510 at_509 rfl ?_
        refine o_topJ (show ((0 : Int64) * (1 : Int64)) = (0 : Int64) by decide) ?_
        refine o_aload B220 510 512 (v := (.ref a182)) at_510 rfl rfl rfl ?_
        refine o_iconst B220 512 513 (2 : Int32) at_512 rfl (by decide) ?_
        refine o_laload B220 513 514 A220 2 (q0_55 shape p0 p1 p2 p3) at_513 rfl (by decide) (by decide) (by decide) rfl ?_
        refine o_lmul B220 514 515 at_514 rfl ?_
        refine o_aload B220 515 517 (v := (.ref a182)) at_515 rfl rfl rfl ?_
        refine o_iconst B220 517 518 (3 : Int32) at_517 rfl (by decide) ?_
        refine o_laload B220 518 519 A220 3 (q0_59 shape p0 p1 p2 p3) at_518 rfl (by decide) (by decide) (by decide) rfl ?_
        refine o_lmul B220 519 520 at_519 rfl ?_
        refine o_aload B220 520 522 (v := (.ref a168)) at_520 rfl rfl rfl ?_
        refine o_iconst B220 522 523 (1 : Int32) at_522 rfl (by decide) ?_
        refine o_laload B220 523 524 F223 1 (0 : Int64) at_523 rfl (by decide) (by decide) (by decide) rfl ?_
        refine o_aload B220 524 526 (v := (.ref a182)) at_524 rfl rfl rfl ?_
        refine o_iconst B220 526 527 (2 : Int32) at_526 rfl (by decide) ?_
        refine o_laload B220 527 528 A220 2 (q0_55 shape p0 p1 p2 p3) at_527 rfl (by decide) (by decide) (by decide) rfl ?_
        refine o_lmul B220 528 529 at_528 rfl ?_
        refine o_aload B220 529 531 (v := (.ref a182)) at_529 rfl rfl rfl ?_
        refine o_iconst B220 531 532 (3 : Int32) at_531 rfl (by decide) ?_
        refine o_laload B220 532 533 A220 3 (q0_59 shape p0 p1 p2 p3) at_532 rfl (by decide) (by decide) (by decide) rfl ?_
        refine o_lmul B220 533 534 at_533 rfl ?_
        refine o_ladd B220 534 535 at_534 rfl ?_
        refine o_aload B220 535 537 (v := (.ref a168)) at_535 rfl rfl rfl ?_
        refine o_iconst B220 537 538 (2 : Int32) at_537 rfl (by decide) ?_
        refine o_laload B220 538 539 F223 2 (q0_53 shape p0 p1 p2 p3) at_538 rfl (by decide) (by decide) (by decide) rfl ?_
        refine o_aload B220 539 541 (v := (.ref a182)) at_539 rfl rfl rfl ?_
        refine o_iconst B220 541 542 (3 : Int32) at_541 rfl (by decide) ?_
        refine o_laload B220 542 543 A220 3 (q0_59 shape p0 p1 p2 p3) at_542 rfl (by decide) (by decide) (by decide) rfl ?_
        refine o_lmul B220 543 544 at_543 rfl ?_
        refine o_ladd B220 544 545 at_544 rfl ?_
        refine o_aload B220 545 547 (v := (.ref a168)) at_545 rfl rfl rfl ?_
        refine o_iconst B220 547 548 (3 : Int32) at_547 rfl (by decide) ?_
        refine o_laload B220 548 549 F223 3 (q0_57 shape p0 p1 p2 p3) at_548 rfl (by decide) (by decide) (by decide) rfl ?_
        refine o_ladd B220 549 550 at_549 rfl ?_
        refine o_lstore B220 550 552 (l' := #[.val (.int shape), .val (.long p0), .second, .val (.long p1), .second, .val (.long p2), .second, .val (.long p3), .second, .val (.ref a1), .val (.ref a10), .val (.int (2 : Int32)), .val (.int (q0_18 shape p0 p1 p2 p3)), .val (.ref a131), .val (.ref a168), .val (.ref a182), .val (.long (q0_61 shape p0 p1 p2 p3)), .second, .unset, .unset, .unset, .unset]) at_550 rfl rfl ?_
        refine o_aload B220 552 554 (v := (.ref a182)) at_552 rfl rfl rfl ?_
        refine o_iconst B220 554 555 (0 : Int32) at_554 rfl (by decide) ?_
        refine o_laload B220 555 556 A220 0 (1 : Int64) at_555 rfl (by decide) (by decide) (by decide) rfl ?_
        refine o_aload B220 556 558 (v := (.ref a182)) at_556 rfl rfl rfl ?_
        refine o_iconst B220 558 559 (1 : Int32) at_558 rfl (by decide) ?_
        refine o_laload B220 559 560 A220 1 (1 : Int64) at_559 rfl (by decide) (by decide) (by decide) rfl ?_
        refine o_lmul B220 560 561 at_560 rfl ?_
        refine o_topJ (show ((1 : Int64) * (1 : Int64)) = (1 : Int64) by decide) ?_
        refine o_aload B220 561 563 (v := (.ref a182)) at_561 rfl rfl rfl ?_
        refine o_iconst B220 563 564 (2 : Int32) at_563 rfl (by decide) ?_
        refine o_laload B220 564 565 A220 2 (q0_55 shape p0 p1 p2 p3) at_564 rfl (by decide) (by decide) (by decide) rfl ?_
        refine o_lmul B220 565 566 at_565 rfl ?_
        refine o_aload B220 566 568 (v := (.ref a182)) at_566 rfl rfl rfl ?_
        refine o_iconst B220 568 569 (3 : Int32) at_568 rfl (by decide) ?_
        refine o_laload B220 569 570 A220 3 (q0_59 shape p0 p1 p2 p3) at_569 rfl (by decide) (by decide) (by decide) rfl ?_
        refine o_lmul B220 570 571 at_570 rfl ?_
        refine o_lstore B220 571 573 (l' := #[.val (.int shape), .val (.long p0), .second, .val (.long p1), .second, .val (.long p2), .second, .val (.long p3), .second, .val (.ref a1), .val (.ref a10), .val (.int (2 : Int32)), .val (.int (q0_18 shape p0 p1 p2 p3)), .val (.ref a131), .val (.ref a168), .val (.ref a182), .val (.long (q0_61 shape p0 p1 p2 p3)), .second, .val (.long (q0_62 shape p0 p1 p2 p3)), .second, .unset, .unset]) at_571 rfl rfl ?_
        refine o_aload B220 573 575 (v := (.ref a131)) at_573 rfl rfl rfl ?_
        refine o_aload B220 575 577 (v := (.ref a10)) at_575 rfl rfl rfl ?_
        refine o_aload B220 577 579 (v := (.ref a1)) at_577 rfl rfl rfl ?_
        have F237 := (F217.other W220 ne188)
        have F238 := ((F213.other W214 ne172).other W220 ne186)
        have F239 := (F219.other W220 ne184)
        obtain ⟨T240, B240, c240⟩ := o_callP B220 579 582 at_579 rfl (hw _ (List.mem_of_getElem? (i := 11) rfl)) (hw _ (List.mem_of_getElem? (i := 12) rfl)) (hw _ (List.mem_of_getElem? (i := 13) rfl)) (hw _ (List.mem_of_getElem? (i := 14) rfl)) (by decide) (rm3_2 l Z a0 hw (w0_52 shape p0 p1 p2 p3) (w0_16 shape p0 p1 p2 p3) (w0_8 shape p0 p1 p2 p3) a131 a10 a1 h220 F237 F238 F239 (own_hs2 (own_b_q0_49 shape p0 p1 p2 p3) (own_b_q0_51 shape p0 p1 p2 p3))) 0 [(.ref a131), (.ref a10), (.ref a1)] [] pd___I_I_I_J rfl rfl (st := [(.ref a1), (.ref a10), (.ref a131)]) rfl (Ls := #[.val (.int shape), .val (.long p0), .second, .val (.long p1), .second, .val (.long p2), .second, .val (.long p3), .second, .val (.ref a1), .val (.ref a10), .val (.int (2 : Int32)), .val (.int (q0_18 shape p0 p1 p2 p3)), .val (.ref a131), .val (.ref a168), .val (.ref a182), .val (.long (q0_61 shape p0 p1 p2 p3)), .second, .val (.long (q0_62 shape p0 p1 p2 p3)), .second, .unset, .unset]) rfl (Nat.le_of_eq rfl) (by decide) (by decide) (by decide) (by decide)
        refine c240 ?_
        refine o_lstore B240 582 584 (l' := #[.val (.int shape), .val (.long p0), .second, .val (.long p1), .second, .val (.long p2), .second, .val (.long p3), .second, .val (.ref a1), .val (.ref a10), .val (.int (2 : Int32)), .val (.int (q0_18 shape p0 p1 p2 p3)), .val (.ref a131), .val (.ref a168), .val (.ref a182), .val (.long (q0_61 shape p0 p1 p2 p3)), .second, .val (.long (q0_62 shape p0 p1 p2 p3)), .second, .val (.long (q0_63 shape p0 p1 p2 p3)), .second]) at_582 rfl rfl ?_
        refine o_lload B240 584 586 (v := (q0_63 shape p0 p1 p2 p3)) at_584 rfl rfl ?_
        refine o_lload B240 586 588 (v := (q0_61 shape p0 p1 p2 p3)) at_586 rfl rfl ?_
        refine o_lcmp B240 588 589 at_588 rfl ?_
        by_cases k10 : (q0_63 shape p0 p1 p2 p3) = (q0_61 shape p0 p1 p2 p3)
        · refine o_ifN B240 589 592 at_589 rfl (XT.ll_ne_f k10) ?_
          refine o_lload B240 592 594 (v := (q0_63 shape p0 p1 p2 p3)) at_592 rfl rfl ?_
          refine o_lconst B240 594 595 (0 : Int64) at_594 rfl (by decide) ?_
          refine o_lcmp B240 595 596 at_595 rfl ?_
          by_cases k11 : (q0_63 shape p0 p1 p2 p3) < (0 : Int64)
          · refine o_ifY B240 596 611 at_596 (XT.ll_lt_t k11) (by decide) (by decide) ?_
            refine o_iconst B240 611 612 (0 : Int32) at_611 rfl (by decide) ?_
            refine o_retZ (t := .boolean) B240 612 at_612 hret hlk (by simp) (by decide) (by decide) ⟨(congrArg (fun z => some (Value.int z)) ((show nar .boolean (0 : Int32) = (0 : Int32) from rfl).trans (show f0 shape p0 p1 p2 p3 = (0 : Int32) from (if_neg k1).trans ((if_neg k5).trans ((if_pos k9).trans ((if_pos k10).trans ((if_pos k11).trans (rfl)))))).symm)), N220⟩
          · refine o_ifN B240 596 599 at_596 rfl (XT.ll_lt_f k11) ?_
            refine o_lload B240 599 601 (v := (q0_63 shape p0 p1 p2 p3)) at_599 rfl rfl ?_
            refine o_lload B240 601 603 (v := (q0_62 shape p0 p1 p2 p3)) at_601 rfl rfl ?_
            refine o_lcmp B240 603 604 at_603 rfl ?_
            by_cases k12 : (q0_63 shape p0 p1 p2 p3) < (q0_62 shape p0 p1 p2 p3)
            · refine o_ifN B240 604 607 at_604 rfl (XT.ll_ge_f k12) ?_
              refine o_iconst B240 607 608 (1 : Int32) at_607 rfl (by decide) ?_
              refine o_goto B240 608 612 at_608 (by decide) (by decide) ?_
              refine o_retZ (t := .boolean) B240 612 at_612 hret hlk (by simp) (by decide) (by decide) ⟨(congrArg (fun z => some (Value.int z)) ((show nar .boolean (1 : Int32) = (1 : Int32) from rfl).trans (show f0 shape p0 p1 p2 p3 = (1 : Int32) from (if_neg k1).trans ((if_neg k5).trans ((if_pos k9).trans ((if_pos k10).trans ((if_neg k11).trans ((if_pos k12).trans (rfl))))))).symm)), N220⟩
            · refine o_ifY B240 604 611 at_604 (XT.ll_ge_t k12) (by decide) (by decide) ?_
              refine o_iconst B240 611 612 (0 : Int32) at_611 rfl (by decide) ?_
              refine o_retZ (t := .boolean) B240 612 at_612 hret hlk (by simp) (by decide) (by decide) ⟨(congrArg (fun z => some (Value.int z)) ((show nar .boolean (0 : Int32) = (0 : Int32) from rfl).trans (show f0 shape p0 p1 p2 p3 = (0 : Int32) from (if_neg k1).trans ((if_neg k5).trans ((if_pos k9).trans ((if_pos k10).trans ((if_neg k11).trans ((if_neg k12).trans (rfl))))))).symm)), N220⟩
        · refine o_ifY B240 589 611 at_589 (XT.ll_ne_t k10) (by decide) (by decide) ?_
          refine o_iconst B240 611 612 (0 : Int32) at_611 rfl (by decide) ?_
          refine o_retZ (t := .boolean) B240 612 at_612 hret hlk (by simp) (by decide) (by decide) ⟨(congrArg (fun z => some (Value.int z)) ((show nar .boolean (0 : Int32) = (0 : Int32) from rfl).trans (show f0 shape p0 p1 p2 p3 = (0 : Int32) from (if_neg k1).trans ((if_neg k5).trans ((if_pos k9).trans ((if_neg k10).trans (rfl))))).symm)), N220⟩
      · by_cases k13 : (q0_17 shape p0 p1 p2 p3) = (3 : Int32)
        · rw [k13]
          refine o_iloadN B27 102 103 (v := shape) at_102 rfl rfl ?_
          refine o_iconst B27 103 104 (3 : Int32) at_103 rfl (by decide) ?_
          refine o_iushr B27 104 105 at_104 rfl ?_
          refine o_istore B27 105 107 (l' := #[.val (.int shape), .val (.long p0), .second, .val (.long p1), .second, .val (.long p2), .second, .val (.long p3), .second, .val (.ref a1), .val (.ref a10), .val (.int (3 : Int32)), .val (.int (q0_18 shape p0 p1 p2 p3)), .unset, .unset, .unset, .unset, .unset, .unset, .unset, .unset, .unset]) at_105 rfl rfl ?_
          refine o_iload B27 107 109 (v := (3 : Int32)) at_107 rfl rfl ?_
          obtain ⟨a241, T241, h241, z241, B241, E241, A241, c241⟩ := o_newI B27 109 111 (ty := .int) (z := (3 : Int32)) 3 3 (hw _ (List.mem_of_getElem? (i := 0) rfl)) at_109 rfl rfl rfl (by decide) (by decide) (by decide) (by decide) (by decide) (by decide) (Ls := #[.val (.int shape), .val (.long p0), .second, .val (.long p1), .second, .val (.long p2), .second, .val (.long p3), .second, .val (.ref a1), .val (.ref a10), .val (.int (3 : Int32)), .val (.int (q0_18 shape p0 p1 p2 p3)), .unset, .unset, .unset, .unset, .unset, .unset, .unset, .unset, .unset]) (rest := [])
          have F242 := (F25.other W27 ne11)
          have ne243 : a1 ≠ a241 := by rw [z241]; exact Nat.ne_of_lt F242.lt
          have ne244 : a10 ≠ a241 := by rw [z241]; exact Nat.ne_of_lt A27.lt
          have g241 : n0 ≤ a241 := by rw [z241]; exact (W27.size ▸ (W23.size ▸ (W19.size ▸ (W15.size ▸ s10))))
          have s241 : n0 ≤ h241.size := Nat.le_trans (W27.size ▸ (W23.size ▸ (W19.size ▸ (W15.size ▸ s10)))) E241.1
          refine c241 ?_
          refine o_astore B241 111 113 (l' := #[.val (.int shape), .val (.long p0), .second, .val (.long p1), .second, .val (.long p2), .second, .val (.long p3), .second, .val (.ref a1), .val (.ref a10), .val (.int (3 : Int32)), .val (.int (q0_18 shape p0 p1 p2 p3)), .val (.ref a241), .unset, .unset, .unset, .unset, .unset, .unset, .unset, .unset]) at_111 rfl rfl rfl ?_
          refine o_iload B241 113 115 (v := (3 : Int32)) at_113 rfl rfl ?_
          refine o_iconst B241 115 116 (1 : Int32) at_115 rfl (by decide) ?_
          refine o_icY B241 116 130 at_116 (XT.ii_ne_t (by decide)) (by decide) (by decide) ?_
          refine o_iload B241 130 132 (v := (3 : Int32)) at_130 rfl rfl ?_
          refine o_iconst B241 132 133 (2 : Int32) at_132 rfl (by decide) ?_
          refine o_icY B241 133 227 at_133 (XT.ii_ne_t (by decide)) (by decide) (by decide) ?_
          refine o_iload B241 227 229 (v := (3 : Int32)) at_227 rfl rfl ?_
          refine o_iconst B241 229 230 (3 : Int32) at_229 rfl (by decide) ?_
          refine o_icN B241 230 233 at_230 rfl (XT.ii_ne_f (by decide)) ?_
          refine o_iload B241 233 235 (v := (q0_18 shape p0 p1 p2 p3)) at_233 rfl rfl ?_
          refine o_iconst B241 235 236 (3 : Int32) at_235 rfl (by decide) ?_
          refine o_iand B241 236 237 at_236 rfl ?_
          refine o_istore B241 237 239 (l' := #[.val (.int shape), .val (.long p0), .second, .val (.long p1), .second, .val (.long p2), .second, .val (.long p3), .second, .val (.ref a1), .val (.ref a10), .val (.int (3 : Int32)), .val (.int (q0_18 shape p0 p1 p2 p3)), .val (.ref a241), .val (.int (q0_28 shape p0 p1 p2 p3)), .unset, .unset, .unset, .unset, .unset, .unset, .unset]) at_237 rfl rfl ?_
          refine o_aload B241 239 241 (v := (.ref a241)) at_239 rfl rfl rfl ?_
          refine o_iconst B241 241 242 (0 : Int32) at_241 rfl (by decide) ?_
          refine o_iload B241 242 244 (v := (q0_28 shape p0 p1 p2 p3)) at_242 rfl rfl ?_
          have dm14 : ∀ {P : Outcome → State → Prop}, OG p.tables e below P (T241.setTop (mkF m 252 #[.val (.int shape), .val (.long p0), .second, .val (.long p1), .second, .val (.long p2), .second, .val (.long p3), .second, .val (.ref a1), .val (.ref a10), .val (.int (3 : Int32)), .val (.int (q0_18 shape p0 p1 p2 p3)), .val (.ref a241), .val (.int (q0_28 shape p0 p1 p2 p3)), .unset, .unset, .unset, .unset, .unset, .unset, .unset] [(.int (q0_64 shape p0 p1 p2 p3)), (.int (0 : Int32)), (.ref a241)])) → OG p.tables e below P (T241.setTop (mkF m 244 #[.val (.int shape), .val (.long p0), .second, .val (.long p1), .second, .val (.long p2), .second, .val (.long p3), .second, .val (.ref a1), .val (.ref a10), .val (.int (3 : Int32)), .val (.int (q0_18 shape p0 p1 p2 p3)), .val (.ref a241), .val (.int (q0_28 shape p0 p1 p2 p3)), .unset, .unset, .unset, .unset, .unset, .unset, .unset] [(.int (q0_28 shape p0 p1 p2 p3)), (.int (0 : Int32)), (.ref a241)])) := by
            intro P k
            by_cases k15 : (q0_28 shape p0 p1 p2 p3) = 0
            · refine o_ifN B241 244 247 at_244 rfl (XT.i0_ne_f k15) ?_
              refine o_iconst B241 247 248 (1 : Int32) at_247 rfl (by decide) ?_
              refine o_goto B241 248 252 at_248 (by decide) (by decide) ?_
              have y0 : (q0_64 shape p0 p1 p2 p3) = (1 : Int32) := by simp only [q0_64, if_pos k15]
              rw [y0] at k
              exact k
            · refine o_ifY B241 244 251 at_244 (XT.i0_ne_t k15) (by decide) (by decide) ?_
              refine o_iconst B241 251 252 (0 : Int32) at_251 rfl (by decide) ?_
              have y0 : (q0_64 shape p0 p1 p2 p3) = (0 : Int32) := by simp only [q0_64, if_neg k15]
              rw [y0] at k
              exact k
          refine dm14 ?_
          obtain ⟨T247, h247, L247, B247, N247, W247, Q247, c247⟩ := o_iastore B241 N27 g241 252 253 A241 (j := (0 : Int32)) (x := (q0_64 shape p0 p1 p2 p3)) 0 (q0_65 shape p0 p1 p2 p3) at_252 rfl (by decide) (by decide) (by decide) rfl (Ls := #[.val (.int shape), .val (.long p0), .second, .val (.long p1), .second, .val (.long p2), .second, .val (.long p3), .second, .val (.ref a1), .val (.ref a10), .val (.int (3 : Int32)), .val (.int (q0_18 shape p0 p1 p2 p3)), .val (.ref a241), .val (.int (q0_28 shape p0 p1 p2 p3)), .unset, .unset, .unset, .unset, .unset, .unset, .unset]) (rest := [])
          have A247 : AI Z h247 a241 .int 3 (w0_66 shape p0 p1 p2 p3) := Q247
          refine c247 ?_
          refine o_aload B247 253 255 (v := (.ref a241)) at_253 rfl rfl rfl ?_
          refine o_iconst B247 255 256 (1 : Int32) at_255 rfl (by decide) ?_
          refine o_iload B247 256 258 (v := (q0_28 shape p0 p1 p2 p3)) at_256 rfl rfl ?_
          refine o_iconst B247 258 259 (1 : Int32) at_258 rfl (by decide) ?_
          have dm16 : ∀ {P : Outcome → State → Prop}, OG p.tables e below P (T247.setTop (mkF m 267 #[.val (.int shape), .val (.long p0), .second, .val (.long p1), .second, .val (.long p2), .second, .val (.long p3), .second, .val (.ref a1), .val (.ref a10), .val (.int (3 : Int32)), .val (.int (q0_18 shape p0 p1 p2 p3)), .val (.ref a241), .val (.int (q0_28 shape p0 p1 p2 p3)), .unset, .unset, .unset, .unset, .unset, .unset, .unset] [(.int (q0_67 shape p0 p1 p2 p3)), (.int (1 : Int32)), (.ref a241)])) → OG p.tables e below P (T247.setTop (mkF m 259 #[.val (.int shape), .val (.long p0), .second, .val (.long p1), .second, .val (.long p2), .second, .val (.long p3), .second, .val (.ref a1), .val (.ref a10), .val (.int (3 : Int32)), .val (.int (q0_18 shape p0 p1 p2 p3)), .val (.ref a241), .val (.int (q0_28 shape p0 p1 p2 p3)), .unset, .unset, .unset, .unset, .unset, .unset, .unset] [(.int (1 : Int32)), (.int (q0_28 shape p0 p1 p2 p3)), (.int (1 : Int32)), (.ref a241)])) := by
            intro P k
            by_cases k17 : (1 : Int32) < (q0_28 shape p0 p1 p2 p3)
            · refine o_icY B247 259 266 at_259 (XT.ii_gt_t k17) (by decide) (by decide) ?_
              refine o_iconst B247 266 267 (1 : Int32) at_266 rfl (by decide) ?_
              have y0 : (q0_67 shape p0 p1 p2 p3) = (1 : Int32) := by simp only [q0_67, if_pos k17]
              rw [y0] at k
              exact k
            · refine o_icN B247 259 262 at_259 rfl (XT.ii_gt_f k17) ?_
              refine o_iconst B247 262 263 (2 : Int32) at_262 rfl (by decide) ?_
              refine o_goto B247 263 267 at_263 (by decide) (by decide) ?_
              have y0 : (q0_67 shape p0 p1 p2 p3) = (2 : Int32) := by simp only [q0_67, if_neg k17]
              rw [y0] at k
              exact k
          refine dm16 ?_
          obtain ⟨T250, h250, L250, B250, N250, W250, Q250, c250⟩ := o_iastore B247 N247 g241 267 268 A247 (j := (1 : Int32)) (x := (q0_67 shape p0 p1 p2 p3)) 1 (q0_68 shape p0 p1 p2 p3) at_267 rfl (by decide) (by decide) (by decide) rfl (Ls := #[.val (.int shape), .val (.long p0), .second, .val (.long p1), .second, .val (.long p2), .second, .val (.long p3), .second, .val (.ref a1), .val (.ref a10), .val (.int (3 : Int32)), .val (.int (q0_18 shape p0 p1 p2 p3)), .val (.ref a241), .val (.int (q0_28 shape p0 p1 p2 p3)), .unset, .unset, .unset, .unset, .unset, .unset, .unset]) (rest := [])
          have A250 : AI Z h250 a241 .int 3 (w0_69 shape p0 p1 p2 p3) := Q250
          refine c250 ?_
          refine o_aload B250 268 270 (v := (.ref a241)) at_268 rfl rfl rfl ?_
          refine o_iconst B250 270 271 (2 : Int32) at_270 rfl (by decide) ?_
          refine o_iload B250 271 273 (v := (q0_28 shape p0 p1 p2 p3)) at_271 rfl rfl ?_
          refine o_iconst B250 273 274 (2 : Int32) at_273 rfl (by decide) ?_
          have dm18 : ∀ {P : Outcome → State → Prop}, OG p.tables e below P (T250.setTop (mkF m 282 #[.val (.int shape), .val (.long p0), .second, .val (.long p1), .second, .val (.long p2), .second, .val (.long p3), .second, .val (.ref a1), .val (.ref a10), .val (.int (3 : Int32)), .val (.int (q0_18 shape p0 p1 p2 p3)), .val (.ref a241), .val (.int (q0_28 shape p0 p1 p2 p3)), .unset, .unset, .unset, .unset, .unset, .unset, .unset] [(.int (q0_70 shape p0 p1 p2 p3)), (.int (2 : Int32)), (.ref a241)])) → OG p.tables e below P (T250.setTop (mkF m 274 #[.val (.int shape), .val (.long p0), .second, .val (.long p1), .second, .val (.long p2), .second, .val (.long p3), .second, .val (.ref a1), .val (.ref a10), .val (.int (3 : Int32)), .val (.int (q0_18 shape p0 p1 p2 p3)), .val (.ref a241), .val (.int (q0_28 shape p0 p1 p2 p3)), .unset, .unset, .unset, .unset, .unset, .unset, .unset] [(.int (2 : Int32)), (.int (q0_28 shape p0 p1 p2 p3)), (.int (2 : Int32)), (.ref a241)])) := by
            intro P k
            by_cases k19 : (2 : Int32) < (q0_28 shape p0 p1 p2 p3)
            · refine o_icY B250 274 281 at_274 (XT.ii_gt_t k19) (by decide) (by decide) ?_
              refine o_iconst B250 281 282 (2 : Int32) at_281 rfl (by decide) ?_
              have y0 : (q0_70 shape p0 p1 p2 p3) = (2 : Int32) := by simp only [q0_70, if_pos k19]
              rw [y0] at k
              exact k
            · refine o_icN B250 274 277 at_274 rfl (XT.ii_gt_f k19) ?_
              refine o_iconst B250 277 278 (3 : Int32) at_277 rfl (by decide) ?_
              refine o_goto B250 278 282 at_278 (by decide) (by decide) ?_
              have y0 : (q0_70 shape p0 p1 p2 p3) = (3 : Int32) := by simp only [q0_70, if_neg k19]
              rw [y0] at k
              exact k
          refine dm18 ?_
          obtain ⟨T253, h253, L253, B253, N253, W253, Q253, c253⟩ := o_iastore B250 N250 g241 282 283 A250 (j := (2 : Int32)) (x := (q0_70 shape p0 p1 p2 p3)) 2 (q0_71 shape p0 p1 p2 p3) at_282 rfl (by decide) (by decide) (by decide) rfl (Ls := #[.val (.int shape), .val (.long p0), .second, .val (.long p1), .second, .val (.long p2), .second, .val (.long p3), .second, .val (.ref a1), .val (.ref a10), .val (.int (3 : Int32)), .val (.int (q0_18 shape p0 p1 p2 p3)), .val (.ref a241), .val (.int (q0_28 shape p0 p1 p2 p3)), .unset, .unset, .unset, .unset, .unset, .unset, .unset]) (rest := [])
          have A253 : AI Z h253 a241 .int 3 (w0_72 shape p0 p1 p2 p3) := Q253
          refine c253 ?_
          refine o_goto B253 283 312 at_283 (by decide) (by decide) ?_
          refine o_iconst B253 312 313 (4 : Int32) at_312 rfl (by decide) ?_
          obtain ⟨a254, T254, h254, z254, B254, E254, A254, c254⟩ := o_newJ B253 313 315 (z := (4 : Int32)) 4 4 (hw _ (List.mem_of_getElem? (i := 10) rfl)) at_313 rfl rfl (by decide) (by decide) (by decide) (by decide) (by decide) (by decide) (Ls := #[.val (.int shape), .val (.long p0), .second, .val (.long p1), .second, .val (.long p2), .second, .val (.long p3), .second, .val (.ref a1), .val (.ref a10), .val (.int (3 : Int32)), .val (.int (q0_18 shape p0 p1 p2 p3)), .val (.ref a241), .val (.int (q0_28 shape p0 p1 p2 p3)), .unset, .unset, .unset, .unset, .unset, .unset, .unset]) (rest := [])
          have F255 := ((((F242.ext E241).other W247 ne243).other W250 ne243).other W253 ne243)
          have ne256 : a1 ≠ a254 := by rw [z254]; exact Nat.ne_of_lt F255.lt
          have F257 := ((((A27.ext E241).other W247 ne244).other W250 ne244).other W253 ne244)
          have ne258 : a10 ≠ a254 := by rw [z254]; exact Nat.ne_of_lt F257.lt
          have ne259 : a241 ≠ a254 := by rw [z254]; exact Nat.ne_of_lt A253.lt
          have g254 : n0 ≤ a254 := by rw [z254]; exact (W253.size ▸ (W250.size ▸ (W247.size ▸ s241)))
          have s254 : n0 ≤ h254.size := Nat.le_trans (W253.size ▸ (W250.size ▸ (W247.size ▸ s241))) E254.1
          refine c254 ?_
          refine o_dup B254 315 316 at_315 rfl rfl ?_
          refine o_iconst B254 316 317 (0 : Int32) at_316 rfl (by decide) ?_
          refine o_lconst B254 317 318 (0 : Int64) at_317 rfl (by decide) ?_
          obtain ⟨T260, h260, L260, B260, N260, W260, Q260, c260⟩ := o_lastore B254 N253 g254 318 319 A254 (j := (0 : Int32)) (x := (0 : Int64)) 0 (0 : Int64) at_318 rfl (by decide) (by decide) (by decide) rfl (Ls := #[.val (.int shape), .val (.long p0), .second, .val (.long p1), .second, .val (.long p2), .second, .val (.long p3), .second, .val (.ref a1), .val (.ref a10), .val (.int (3 : Int32)), .val (.int (q0_18 shape p0 p1 p2 p3)), .val (.ref a241), .val (.int (q0_28 shape p0 p1 p2 p3)), .unset, .unset, .unset, .unset, .unset, .unset, .unset]) (rest := [(.ref a254)])
          have A260 : AJ Z h260 a254 4 (w0_19 shape p0 p1 p2 p3) := Q260
          refine c260 ?_
          refine o_dup B260 319 320 at_319 rfl rfl ?_
          refine o_iconst B260 320 321 (1 : Int32) at_320 rfl (by decide) ?_
          refine o_lconst B260 321 322 (0 : Int64) at_321 rfl (by decide) ?_
          obtain ⟨T261, h261, L261, B261, N261, W261, Q261, c261⟩ := o_lastore B260 N260 g254 322 323 A260 (j := (1 : Int32)) (x := (0 : Int64)) 1 (0 : Int64) at_322 rfl (by decide) (by decide) (by decide) rfl (Ls := #[.val (.int shape), .val (.long p0), .second, .val (.long p1), .second, .val (.long p2), .second, .val (.long p3), .second, .val (.ref a1), .val (.ref a10), .val (.int (3 : Int32)), .val (.int (q0_18 shape p0 p1 p2 p3)), .val (.ref a241), .val (.int (q0_28 shape p0 p1 p2 p3)), .unset, .unset, .unset, .unset, .unset, .unset, .unset]) (rest := [(.ref a254)])
          have A261 : AJ Z h261 a254 4 (w0_20 shape p0 p1 p2 p3) := Q261
          refine c261 ?_
          refine o_dup B261 323 324 at_323 rfl rfl ?_
          refine o_iconst B261 324 325 (2 : Int32) at_324 rfl (by decide) ?_
          refine o_lconst B261 325 326 (0 : Int64) at_325 rfl (by decide) ?_
          obtain ⟨T262, h262, L262, B262, N262, W262, Q262, c262⟩ := o_lastore B261 N261 g254 326 327 A261 (j := (2 : Int32)) (x := (0 : Int64)) 2 (0 : Int64) at_326 rfl (by decide) (by decide) (by decide) rfl (Ls := #[.val (.int shape), .val (.long p0), .second, .val (.long p1), .second, .val (.long p2), .second, .val (.long p3), .second, .val (.ref a1), .val (.ref a10), .val (.int (3 : Int32)), .val (.int (q0_18 shape p0 p1 p2 p3)), .val (.ref a241), .val (.int (q0_28 shape p0 p1 p2 p3)), .unset, .unset, .unset, .unset, .unset, .unset, .unset]) (rest := [(.ref a254)])
          have A262 : AJ Z h262 a254 4 (w0_21 shape p0 p1 p2 p3) := Q262
          refine c262 ?_
          refine o_dup B262 327 328 at_327 rfl rfl ?_
          refine o_iconst B262 328 329 (3 : Int32) at_328 rfl (by decide) ?_
          refine o_lconst B262 329 330 (0 : Int64) at_329 rfl (by decide) ?_
          obtain ⟨T263, h263, L263, B263, N263, W263, Q263, c263⟩ := o_lastore B262 N262 g254 330 331 A262 (j := (3 : Int32)) (x := (0 : Int64)) 3 (0 : Int64) at_330 rfl (by decide) (by decide) (by decide) rfl (Ls := #[.val (.int shape), .val (.long p0), .second, .val (.long p1), .second, .val (.long p2), .second, .val (.long p3), .second, .val (.ref a1), .val (.ref a10), .val (.int (3 : Int32)), .val (.int (q0_18 shape p0 p1 p2 p3)), .val (.ref a241), .val (.int (q0_28 shape p0 p1 p2 p3)), .unset, .unset, .unset, .unset, .unset, .unset, .unset]) (rest := [(.ref a254)])
          have A263 : AJ Z h263 a254 4 (w0_22 shape p0 p1 p2 p3) := Q263
          refine c263 ?_
          refine o_astore B263 331 333 (l' := #[.val (.int shape), .val (.long p0), .second, .val (.long p1), .second, .val (.long p2), .second, .val (.long p3), .second, .val (.ref a1), .val (.ref a10), .val (.int (3 : Int32)), .val (.int (q0_18 shape p0 p1 p2 p3)), .val (.ref a241), .val (.ref a254), .unset, .unset, .unset, .unset, .unset, .unset, .unset]) at_331 rfl rfl rfl ?_
          refine o_iconst B263 333 334 (4 : Int32) at_333 rfl (by decide) ?_
          obtain ⟨a264, T264, h264, z264, B264, E264, A264, c264⟩ := o_newJ B263 334 336 (z := (4 : Int32)) 4 4 (hw _ (List.mem_of_getElem? (i := 10) rfl)) at_334 rfl rfl (by decide) (by decide) (by decide) (by decide) (by decide) (by decide) (Ls := #[.val (.int shape), .val (.long p0), .second, .val (.long p1), .second, .val (.long p2), .second, .val (.long p3), .second, .val (.ref a1), .val (.ref a10), .val (.int (3 : Int32)), .val (.int (q0_18 shape p0 p1 p2 p3)), .val (.ref a241), .val (.ref a254), .unset, .unset, .unset, .unset, .unset, .unset, .unset]) (rest := [])
          have F265 := (((((F255.ext E254).other W260 ne256).other W261 ne256).other W262 ne256).other W263 ne256)
          have ne266 : a1 ≠ a264 := by rw [z264]; exact Nat.ne_of_lt F265.lt
          have F267 := (((((F257.ext E254).other W260 ne258).other W261 ne258).other W262 ne258).other W263 ne258)
          have ne268 : a10 ≠ a264 := by rw [z264]; exact Nat.ne_of_lt F267.lt
          have F269 := (((((A253.ext E254).other W260 ne259).other W261 ne259).other W262 ne259).other W263 ne259)
          have ne270 : a241 ≠ a264 := by rw [z264]; exact Nat.ne_of_lt F269.lt
          have ne271 : a254 ≠ a264 := by rw [z264]; exact Nat.ne_of_lt A263.lt
          have g264 : n0 ≤ a264 := by rw [z264]; exact (W263.size ▸ (W262.size ▸ (W261.size ▸ (W260.size ▸ s254))))
          have s264 : n0 ≤ h264.size := Nat.le_trans (W263.size ▸ (W262.size ▸ (W261.size ▸ (W260.size ▸ s254)))) E264.1
          refine c264 ?_
          refine o_dup B264 336 337 at_336 rfl rfl ?_
          refine o_iconst B264 337 338 (0 : Int32) at_337 rfl (by decide) ?_
          refine o_lconst B264 338 339 (1 : Int64) at_338 rfl (by decide) ?_
          obtain ⟨T272, h272, L272, B272, N272, W272, Q272, c272⟩ := o_lastore B264 N263 g264 339 340 A264 (j := (0 : Int32)) (x := (1 : Int64)) 0 (1 : Int64) at_339 rfl (by decide) (by decide) (by decide) rfl (Ls := #[.val (.int shape), .val (.long p0), .second, .val (.long p1), .second, .val (.long p2), .second, .val (.long p3), .second, .val (.ref a1), .val (.ref a10), .val (.int (3 : Int32)), .val (.int (q0_18 shape p0 p1 p2 p3)), .val (.ref a241), .val (.ref a254), .unset, .unset, .unset, .unset, .unset, .unset, .unset]) (rest := [(.ref a264)])
          have A272 : AJ Z h272 a264 4 (w0_23 shape p0 p1 p2 p3) := Q272
          refine c272 ?_
          refine o_dup B272 340 341 at_340 rfl rfl ?_
          refine o_iconst B272 341 342 (1 : Int32) at_341 rfl (by decide) ?_
          refine o_lconst B272 342 343 (1 : Int64) at_342 rfl (by decide) ?_
          obtain ⟨T273, h273, L273, B273, N273, W273, Q273, c273⟩ := o_lastore B272 N272 g264 343 344 A272 (j := (1 : Int32)) (x := (1 : Int64)) 1 (1 : Int64) at_343 rfl (by decide) (by decide) (by decide) rfl (Ls := #[.val (.int shape), .val (.long p0), .second, .val (.long p1), .second, .val (.long p2), .second, .val (.long p3), .second, .val (.ref a1), .val (.ref a10), .val (.int (3 : Int32)), .val (.int (q0_18 shape p0 p1 p2 p3)), .val (.ref a241), .val (.ref a254), .unset, .unset, .unset, .unset, .unset, .unset, .unset]) (rest := [(.ref a264)])
          have A273 : AJ Z h273 a264 4 (w0_24 shape p0 p1 p2 p3) := Q273
          refine c273 ?_
          refine o_dup B273 344 345 at_344 rfl rfl ?_
          refine o_iconst B273 345 346 (2 : Int32) at_345 rfl (by decide) ?_
          refine o_lconst B273 346 347 (1 : Int64) at_346 rfl (by decide) ?_
          obtain ⟨T274, h274, L274, B274, N274, W274, Q274, c274⟩ := o_lastore B273 N273 g264 347 348 A273 (j := (2 : Int32)) (x := (1 : Int64)) 2 (1 : Int64) at_347 rfl (by decide) (by decide) (by decide) rfl (Ls := #[.val (.int shape), .val (.long p0), .second, .val (.long p1), .second, .val (.long p2), .second, .val (.long p3), .second, .val (.ref a1), .val (.ref a10), .val (.int (3 : Int32)), .val (.int (q0_18 shape p0 p1 p2 p3)), .val (.ref a241), .val (.ref a254), .unset, .unset, .unset, .unset, .unset, .unset, .unset]) (rest := [(.ref a264)])
          have A274 : AJ Z h274 a264 4 (w0_25 shape p0 p1 p2 p3) := Q274
          refine c274 ?_
          refine o_dup B274 348 349 at_348 rfl rfl ?_
          refine o_iconst B274 349 350 (3 : Int32) at_349 rfl (by decide) ?_
          refine o_lconst B274 350 351 (1 : Int64) at_350 rfl (by decide) ?_
          obtain ⟨T275, h275, L275, B275, N275, W275, Q275, c275⟩ := o_lastore B274 N274 g264 351 352 A274 (j := (3 : Int32)) (x := (1 : Int64)) 3 (1 : Int64) at_351 rfl (by decide) (by decide) (by decide) rfl (Ls := #[.val (.int shape), .val (.long p0), .second, .val (.long p1), .second, .val (.long p2), .second, .val (.long p3), .second, .val (.ref a1), .val (.ref a10), .val (.int (3 : Int32)), .val (.int (q0_18 shape p0 p1 p2 p3)), .val (.ref a241), .val (.ref a254), .unset, .unset, .unset, .unset, .unset, .unset, .unset]) (rest := [(.ref a264)])
          have A275 : AJ Z h275 a264 4 (w0_26 shape p0 p1 p2 p3) := Q275
          refine c275 ?_
          refine o_astore B275 352 354 (l' := #[.val (.int shape), .val (.long p0), .second, .val (.long p1), .second, .val (.long p2), .second, .val (.long p3), .second, .val (.ref a1), .val (.ref a10), .val (.int (3 : Int32)), .val (.int (q0_18 shape p0 p1 p2 p3)), .val (.ref a241), .val (.ref a254), .val (.ref a264), .unset, .unset, .unset, .unset, .unset, .unset]) at_352 rfl rfl rfl ?_
          refine o_iload B275 354 356 (v := (3 : Int32)) at_354 rfl rfl ?_
          refine o_ifN B275 356 359 at_356 rfl (XT.i0_le_f (by decide)) ?_
          refine o_aload B275 359 361 (v := (.ref a254)) at_359 rfl rfl rfl ?_
          refine o_iconst B275 361 362 (4 : Int32) at_361 rfl (by decide) ?_
          refine o_iload B275 362 364 (v := (3 : Int32)) at_362 rfl rfl ?_
          refine o_isub B275 364 365 at_364 rfl ?_
          refine o_topI (show ((4 : Int32) - (3 : Int32)) = (1 : Int32) by decide) ?_
          refine o_aload B275 365 367 (v := (.ref a10)) at_365 rfl rfl rfl ?_
          refine o_aload B275 367 369 (v := (.ref a241)) at_367 rfl rfl rfl ?_
          refine o_iconst B275 369 370 (0 : Int32) at_369 rfl (by decide) ?_
          have F277 := (((((F269.ext E264).other W272 ne270).other W273 ne270).other W274 ne270).other W275 ne270)
          refine o_iaload B275 370 371 F277 0 (q0_65 shape p0 p1 p2 p3) at_370 rfl (by decide) (by decide) (by decide) rfl ?_
          have F279 := (((((F267.ext E264).other W272 ne268).other W273 ne268).other W274 ne268).other W275 ne268)
          refine o_iaload B275 371 372 F279 (q0_65 shape p0 p1 p2 p3).toInt.toNat ((w0_16 shape p0 p1 p2 p3) (q0_65 shape p0 p1 p2 p3).toInt.toNat) at_371 rfl (ix_of (own_ix (own_b_q0_65 shape p0 p1 p2 p3))).1 (ix_of (own_ix (own_b_q0_65 shape p0 p1 p2 p3))).2 (own_lt (own_b_q0_65 shape p0 p1 p2 p3)) rfl ?_
          refine o_i2l B275 372 373 at_372 rfl ?_
          have F281 := (((((A263.ext E264).other W272 ne271).other W273 ne271).other W274 ne271).other W275 ne271)
          obtain ⟨T280, h280, L280, B280, N280, W280, Q280, c280⟩ := o_lastore B275 N275 g254 373 374 F281 (j := (1 : Int32)) (x := ((w0_16 shape p0 p1 p2 p3) (q0_65 shape p0 p1 p2 p3).toInt.toNat).toInt64) 1 (q0_73 shape p0 p1 p2 p3) at_373 rfl (by decide) (by decide) (by decide) rfl (Ls := #[.val (.int shape), .val (.long p0), .second, .val (.long p1), .second, .val (.long p2), .second, .val (.long p3), .second, .val (.ref a1), .val (.ref a10), .val (.int (3 : Int32)), .val (.int (q0_18 shape p0 p1 p2 p3)), .val (.ref a241), .val (.ref a254), .val (.ref a264), .unset, .unset, .unset, .unset, .unset, .unset]) (rest := [])
          have A280 : AJ Z h280 a254 4 (w0_74 shape p0 p1 p2 p3) := Q280
          refine c280 ?_
          refine o_aload B280 374 376 (v := (.ref a264)) at_374 rfl rfl rfl ?_
          refine o_iconst B280 376 377 (4 : Int32) at_376 rfl (by decide) ?_
          refine o_iload B280 377 379 (v := (3 : Int32)) at_377 rfl rfl ?_
          refine o_isub B280 379 380 at_379 rfl ?_
          refine o_topI (show ((4 : Int32) - (3 : Int32)) = (1 : Int32) by decide) ?_
          refine o_aload B280 380 382 (v := (.ref a1)) at_380 rfl rfl rfl ?_
          refine o_aload B280 382 384 (v := (.ref a241)) at_382 rfl rfl rfl ?_
          refine o_iconst B280 384 385 (0 : Int32) at_384 rfl (by decide) ?_
          have F283 := (F277.other W280 ne259)
          refine o_iaload B280 385 386 F283 0 (q0_65 shape p0 p1 p2 p3) at_385 rfl (by decide) (by decide) (by decide) rfl ?_
          have F285 := ((((((F265.ext E264).other W272 ne266).other W273 ne266).other W274 ne266).other W275 ne266).other W280 ne256)
          refine o_iaload B280 386 387 F285 (q0_65 shape p0 p1 p2 p3).toInt.toNat ((w0_8 shape p0 p1 p2 p3) (q0_65 shape p0 p1 p2 p3).toInt.toNat) at_386 rfl (ix_of (own_ix (own_b_q0_65 shape p0 p1 p2 p3))).1 (ix_of (own_ix (own_b_q0_65 shape p0 p1 p2 p3))).2 (own_lt (own_b_q0_65 shape p0 p1 p2 p3)) rfl ?_
          refine o_i2l B280 387 388 at_387 rfl ?_
          have F287 := (A275.other W280 (Ne.symm ne271))
          obtain ⟨T286, h286, L286, B286, N286, W286, Q286, c286⟩ := o_lastore B280 N280 g264 388 389 F287 (j := (1 : Int32)) (x := ((w0_8 shape p0 p1 p2 p3) (q0_65 shape p0 p1 p2 p3).toInt.toNat).toInt64) 1 (q0_75 shape p0 p1 p2 p3) at_388 rfl (by decide) (by decide) (by decide) rfl (Ls := #[.val (.int shape), .val (.long p0), .second, .val (.long p1), .second, .val (.long p2), .second, .val (.long p3), .second, .val (.ref a1), .val (.ref a10), .val (.int (3 : Int32)), .val (.int (q0_18 shape p0 p1 p2 p3)), .val (.ref a241), .val (.ref a254), .val (.ref a264), .unset, .unset, .unset, .unset, .unset, .unset]) (rest := [])
          have A286 : AJ Z h286 a264 4 (w0_76 shape p0 p1 p2 p3) := Q286
          refine c286 ?_
          refine o_iload B286 389 391 (v := (3 : Int32)) at_389 rfl rfl ?_
          refine o_iconst B286 391 392 (1 : Int32) at_391 rfl (by decide) ?_
          refine o_icN B286 392 395 at_392 rfl (XT.ii_le_f (by decide)) ?_
          refine o_aload B286 395 397 (v := (.ref a254)) at_395 rfl rfl rfl ?_
          refine o_iconst B286 397 398 (5 : Int32) at_397 rfl (by decide) ?_
          refine o_iload B286 398 400 (v := (3 : Int32)) at_398 rfl rfl ?_
          refine o_isub B286 400 401 at_400 rfl ?_
          refine o_topI (show ((5 : Int32) - (3 : Int32)) = (2 : Int32) by decide) ?_
          refine o_aload B286 401 403 (v := (.ref a10)) at_401 rfl rfl rfl ?_
          refine o_aload B286 403 405 (v := (.ref a241)) at_403 rfl rfl rfl ?_
          refine o_iconst B286 405 406 (1 : Int32) at_405 rfl (by decide) ?_
          have F289 := (F283.other W286 ne270)
          refine o_iaload B286 406 407 F289 1 (q0_68 shape p0 p1 p2 p3) at_406 rfl (by decide) (by decide) (by decide) rfl ?_
          have F291 := ((F279.other W280 ne258).other W286 ne268)
          refine o_iaload B286 407 408 F291 (q0_68 shape p0 p1 p2 p3).toInt.toNat ((w0_16 shape p0 p1 p2 p3) (q0_68 shape p0 p1 p2 p3).toInt.toNat) at_407 rfl (ix_of (own_ix (own_b_q0_68 shape p0 p1 p2 p3))).1 (ix_of (own_ix (own_b_q0_68 shape p0 p1 p2 p3))).2 (own_lt (own_b_q0_68 shape p0 p1 p2 p3)) rfl ?_
          refine o_i2l B286 408 409 at_408 rfl ?_
          have F293 := (A280.other W286 ne271)
          obtain ⟨T292, h292, L292, B292, N292, W292, Q292, c292⟩ := o_lastore B286 N286 g254 409 410 F293 (j := (2 : Int32)) (x := ((w0_16 shape p0 p1 p2 p3) (q0_68 shape p0 p1 p2 p3).toInt.toNat).toInt64) 2 (q0_77 shape p0 p1 p2 p3) at_409 rfl (by decide) (by decide) (by decide) rfl (Ls := #[.val (.int shape), .val (.long p0), .second, .val (.long p1), .second, .val (.long p2), .second, .val (.long p3), .second, .val (.ref a1), .val (.ref a10), .val (.int (3 : Int32)), .val (.int (q0_18 shape p0 p1 p2 p3)), .val (.ref a241), .val (.ref a254), .val (.ref a264), .unset, .unset, .unset, .unset, .unset, .unset]) (rest := [])
          have A292 : AJ Z h292 a254 4 (w0_78 shape p0 p1 p2 p3) := Q292
          refine c292 ?_
          refine o_aload B292 410 412 (v := (.ref a264)) at_410 rfl rfl rfl ?_
          refine o_iconst B292 412 413 (5 : Int32) at_412 rfl (by decide) ?_
          refine o_iload B292 413 415 (v := (3 : Int32)) at_413 rfl rfl ?_
          refine o_isub B292 415 416 at_415 rfl ?_
          refine o_topI (show ((5 : Int32) - (3 : Int32)) = (2 : Int32) by decide) ?_
          refine o_aload B292 416 418 (v := (.ref a1)) at_416 rfl rfl rfl ?_
          refine o_aload B292 418 420 (v := (.ref a241)) at_418 rfl rfl rfl ?_
          refine o_iconst B292 420 421 (1 : Int32) at_420 rfl (by decide) ?_
          have F295 := (F289.other W292 ne259)
          refine o_iaload B292 421 422 F295 1 (q0_68 shape p0 p1 p2 p3) at_421 rfl (by decide) (by decide) (by decide) rfl ?_
          have F297 := ((F285.other W286 ne266).other W292 ne256)
          refine o_iaload B292 422 423 F297 (q0_68 shape p0 p1 p2 p3).toInt.toNat ((w0_8 shape p0 p1 p2 p3) (q0_68 shape p0 p1 p2 p3).toInt.toNat) at_422 rfl (ix_of (own_ix (own_b_q0_68 shape p0 p1 p2 p3))).1 (ix_of (own_ix (own_b_q0_68 shape p0 p1 p2 p3))).2 (own_lt (own_b_q0_68 shape p0 p1 p2 p3)) rfl ?_
          refine o_i2l B292 423 424 at_423 rfl ?_
          have F299 := (A286.other W292 (Ne.symm ne271))
          obtain ⟨T298, h298, L298, B298, N298, W298, Q298, c298⟩ := o_lastore B292 N292 g264 424 425 F299 (j := (2 : Int32)) (x := ((w0_8 shape p0 p1 p2 p3) (q0_68 shape p0 p1 p2 p3).toInt.toNat).toInt64) 2 (q0_79 shape p0 p1 p2 p3) at_424 rfl (by decide) (by decide) (by decide) rfl (Ls := #[.val (.int shape), .val (.long p0), .second, .val (.long p1), .second, .val (.long p2), .second, .val (.long p3), .second, .val (.ref a1), .val (.ref a10), .val (.int (3 : Int32)), .val (.int (q0_18 shape p0 p1 p2 p3)), .val (.ref a241), .val (.ref a254), .val (.ref a264), .unset, .unset, .unset, .unset, .unset, .unset]) (rest := [])
          have A298 : AJ Z h298 a264 4 (w0_80 shape p0 p1 p2 p3) := Q298
          refine c298 ?_
          refine o_iload B298 425 427 (v := (3 : Int32)) at_425 rfl rfl ?_
          refine o_iconst B298 427 428 (2 : Int32) at_427 rfl (by decide) ?_
          refine o_icN B298 428 431 at_428 rfl (XT.ii_le_f (by decide)) ?_
          refine o_aload B298 431 433 (v := (.ref a254)) at_431 rfl rfl rfl ?_
          refine o_bipush B298 433 435 (6 : Int32) at_433 rfl (by decide) ?_
          refine o_iload B298 435 437 (v := (3 : Int32)) at_435 rfl rfl ?_
          refine o_isub B298 437 438 at_437 rfl ?_
          refine o_topI (show ((6 : Int32) - (3 : Int32)) = (3 : Int32) by decide) ?_
          refine o_aload B298 438 440 (v := (.ref a10)) at_438 rfl rfl rfl ?_
          refine o_aload B298 440 442 (v := (.ref a241)) at_440 rfl rfl rfl ?_
          refine o_iconst B298 442 443 (2 : Int32) at_442 rfl (by decide) ?_
          have F301 := (F295.other W298 ne270)
          refine o_iaload B298 443 444 F301 2 (q0_71 shape p0 p1 p2 p3) at_443 rfl (by decide) (by decide) (by decide) rfl ?_
          have F303 := ((F291.other W292 ne258).other W298 ne268)
          refine o_iaload B298 444 445 F303 (q0_71 shape p0 p1 p2 p3).toInt.toNat ((w0_16 shape p0 p1 p2 p3) (q0_71 shape p0 p1 p2 p3).toInt.toNat) at_444 rfl (ix_of (own_ix (own_b_q0_71 shape p0 p1 p2 p3))).1 (ix_of (own_ix (own_b_q0_71 shape p0 p1 p2 p3))).2 (own_lt (own_b_q0_71 shape p0 p1 p2 p3)) rfl ?_
          refine o_i2l B298 445 446 at_445 rfl ?_
          have F305 := (A292.other W298 ne271)
          obtain ⟨T304, h304, L304, B304, N304, W304, Q304, c304⟩ := o_lastore B298 N298 g254 446 447 F305 (j := (3 : Int32)) (x := ((w0_16 shape p0 p1 p2 p3) (q0_71 shape p0 p1 p2 p3).toInt.toNat).toInt64) 3 (q0_81 shape p0 p1 p2 p3) at_446 rfl (by decide) (by decide) (by decide) rfl (Ls := #[.val (.int shape), .val (.long p0), .second, .val (.long p1), .second, .val (.long p2), .second, .val (.long p3), .second, .val (.ref a1), .val (.ref a10), .val (.int (3 : Int32)), .val (.int (q0_18 shape p0 p1 p2 p3)), .val (.ref a241), .val (.ref a254), .val (.ref a264), .unset, .unset, .unset, .unset, .unset, .unset]) (rest := [])
          have A304 : AJ Z h304 a254 4 (w0_82 shape p0 p1 p2 p3) := Q304
          refine c304 ?_
          refine o_aload B304 447 449 (v := (.ref a264)) at_447 rfl rfl rfl ?_
          refine o_bipush B304 449 451 (6 : Int32) at_449 rfl (by decide) ?_
          refine o_iload B304 451 453 (v := (3 : Int32)) at_451 rfl rfl ?_
          refine o_isub B304 453 454 at_453 rfl ?_
          refine o_topI (show ((6 : Int32) - (3 : Int32)) = (3 : Int32) by decide) ?_
          refine o_aload B304 454 456 (v := (.ref a1)) at_454 rfl rfl rfl ?_
          refine o_aload B304 456 458 (v := (.ref a241)) at_456 rfl rfl rfl ?_
          refine o_iconst B304 458 459 (2 : Int32) at_458 rfl (by decide) ?_
          have F307 := (F301.other W304 ne259)
          refine o_iaload B304 459 460 F307 2 (q0_71 shape p0 p1 p2 p3) at_459 rfl (by decide) (by decide) (by decide) rfl ?_
          have F309 := ((F297.other W298 ne266).other W304 ne256)
          refine o_iaload B304 460 461 F309 (q0_71 shape p0 p1 p2 p3).toInt.toNat ((w0_8 shape p0 p1 p2 p3) (q0_71 shape p0 p1 p2 p3).toInt.toNat) at_460 rfl (ix_of (own_ix (own_b_q0_71 shape p0 p1 p2 p3))).1 (ix_of (own_ix (own_b_q0_71 shape p0 p1 p2 p3))).2 (own_lt (own_b_q0_71 shape p0 p1 p2 p3)) rfl ?_
          refine o_i2l B304 461 462 at_461 rfl ?_
          have F311 := (A298.other W304 (Ne.symm ne271))
          obtain ⟨T310, h310, L310, B310, N310, W310, Q310, c310⟩ := o_lastore B304 N304 g264 462 463 F311 (j := (3 : Int32)) (x := ((w0_8 shape p0 p1 p2 p3) (q0_71 shape p0 p1 p2 p3).toInt.toNat).toInt64) 3 (q0_83 shape p0 p1 p2 p3) at_462 rfl (by decide) (by decide) (by decide) rfl (Ls := #[.val (.int shape), .val (.long p0), .second, .val (.long p1), .second, .val (.long p2), .second, .val (.long p3), .second, .val (.ref a1), .val (.ref a10), .val (.int (3 : Int32)), .val (.int (q0_18 shape p0 p1 p2 p3)), .val (.ref a241), .val (.ref a254), .val (.ref a264), .unset, .unset, .unset, .unset, .unset, .unset]) (rest := [])
          have A310 : AJ Z h310 a264 4 (w0_84 shape p0 p1 p2 p3) := Q310
          refine c310 ?_
          refine o_iload B310 463 465 (v := (3 : Int32)) at_463 rfl rfl ?_
          refine o_iconst B310 465 466 (3 : Int32) at_465 rfl (by decide) ?_
          refine o_icY B310 466 501 at_466 (XT.ii_le_t (by decide)) (by decide) (by decide) ?_
          refine o_aload B310 501 503 (v := (.ref a254)) at_501 rfl rfl rfl ?_
          refine o_iconst B310 503 504 (0 : Int32) at_503 rfl (by decide) ?_
          have F313 := (A304.other W310 ne271)
          refine o_laload B310 504 505 F313 0 (0 : Int64) at_504 rfl (by decide) (by decide) (by decide) rfl ?_
          refine o_aload B310 505 507 (v := (.ref a264)) at_505 rfl rfl rfl ?_
          refine o_iconst B310 507 508 (1 : Int32) at_507 rfl (by decide) ?_
          refine o_laload B310 508 509 A310 1 (q0_75 shape p0 p1 p2 p3) at_508 rfl (by decide) (by decide) (by decide) rfl ?_
          refine o_lmul B310 509 510 at_509 rfl ?_
          refine o_aload B310 510 512 (v := (.ref a264)) at_510 rfl rfl rfl ?_
          refine o_iconst B310 512 513 (2 : Int32) at_512 rfl (by decide) ?_
          refine o_laload B310 513 514 A310 2 (q0_79 shape p0 p1 p2 p3) at_513 rfl (by decide) (by decide) (by decide) rfl ?_
          refine o_lmul B310 514 515 at_514 rfl ?_
          refine o_aload B310 515 517 (v := (.ref a264)) at_515 rfl rfl rfl ?_
          refine o_iconst B310 517 518 (3 : Int32) at_517 rfl (by decide) ?_
          refine o_laload B310 518 519 A310 3 (q0_83 shape p0 p1 p2 p3) at_518 rfl (by decide) (by decide) (by decide) rfl ?_
          refine o_lmul B310 519 520 at_519 rfl ?_
          refine o_aload B310 520 522 (v := (.ref a254)) at_520 rfl rfl rfl ?_
          refine o_iconst B310 522 523 (1 : Int32) at_522 rfl (by decide) ?_
          refine o_laload B310 523 524 F313 1 (q0_73 shape p0 p1 p2 p3) at_523 rfl (by decide) (by decide) (by decide) rfl ?_
          refine o_aload B310 524 526 (v := (.ref a264)) at_524 rfl rfl rfl ?_
          refine o_iconst B310 526 527 (2 : Int32) at_526 rfl (by decide) ?_
          refine o_laload B310 527 528 A310 2 (q0_79 shape p0 p1 p2 p3) at_527 rfl (by decide) (by decide) (by decide) rfl ?_
          refine o_lmul B310 528 529 at_528 rfl ?_
          refine o_aload B310 529 531 (v := (.ref a264)) at_529 rfl rfl rfl ?_
          refine o_iconst B310 531 532 (3 : Int32) at_531 rfl (by decide) ?_
          refine o_laload B310 532 533 A310 3 (q0_83 shape p0 p1 p2 p3) at_532 rfl (by decide) (by decide) (by decide) rfl ?_
          refine o_lmul B310 533 534 at_533 rfl ?_
          refine o_ladd B310 534 535 at_534 rfl ?_
          refine o_aload B310 535 537 (v := (.ref a254)) at_535 rfl rfl rfl ?_
          refine o_iconst B310 537 538 (2 : Int32) at_537 rfl (by decide) ?_
          refine o_laload B310 538 539 F313 2 (q0_77 shape p0 p1 p2 p3) at_538 rfl (by decide) (by decide) (by decide) rfl ?_
          refine o_aload B310 539 541 (v := (.ref a264)) at_539 rfl rfl rfl ?_
          refine o_iconst B310 541 542 (3 : Int32) at_541 rfl (by decide) ?_
          refine o_laload B310 542 543 A310 3 (q0_83 shape p0 p1 p2 p3) at_542 rfl (by decide) (by decide) (by decide) rfl ?_
          refine o_lmul B310 543 544 at_543 rfl ?_
          refine o_ladd B310 544 545 at_544 rfl ?_
          refine o_aload B310 545 547 (v := (.ref a254)) at_545 rfl rfl rfl ?_
          refine o_iconst B310 547 548 (3 : Int32) at_547 rfl (by decide) ?_
          refine o_laload B310 548 549 F313 3 (q0_81 shape p0 p1 p2 p3) at_548 rfl (by decide) (by decide) (by decide) rfl ?_
          refine o_ladd B310 549 550 at_549 rfl ?_
          refine o_lstore B310 550 552 (l' := #[.val (.int shape), .val (.long p0), .second, .val (.long p1), .second, .val (.long p2), .second, .val (.long p3), .second, .val (.ref a1), .val (.ref a10), .val (.int (3 : Int32)), .val (.int (q0_18 shape p0 p1 p2 p3)), .val (.ref a241), .val (.ref a254), .val (.ref a264), .val (.long (q0_85 shape p0 p1 p2 p3)), .second, .unset, .unset, .unset, .unset]) at_550 rfl rfl ?_
          refine o_aload B310 552 554 (v := (.ref a264)) at_552 rfl rfl rfl ?_
          refine o_iconst B310 554 555 (0 : Int32) at_554 rfl (by decide) ?_
          refine o_laload B310 555 556 A310 0 (1 : Int64) at_555 rfl (by decide) (by decide) (by decide) rfl ?_
          refine o_aload B310 556 558 (v := (.ref a264)) at_556 rfl rfl rfl ?_
          refine o_iconst B310 558 559 (1 : Int32) at_558 rfl (by decide) ?_
          refine o_laload B310 559 560 A310 1 (q0_75 shape p0 p1 p2 p3) at_559 rfl (by decide) (by decide) (by decide) rfl ?_
          refine o_lmul B310 560 561 at_560 rfl ?_
          refine o_aload B310 561 563 (v := (.ref a264)) at_561 rfl rfl rfl ?_
          refine o_iconst B310 563 564 (2 : Int32) at_563 rfl (by decide) ?_
          refine o_laload B310 564 565 A310 2 (q0_79 shape p0 p1 p2 p3) at_564 rfl (by decide) (by decide) (by decide) rfl ?_
          refine o_lmul B310 565 566 at_565 rfl ?_
          refine o_aload B310 566 568 (v := (.ref a264)) at_566 rfl rfl rfl ?_
          refine o_iconst B310 568 569 (3 : Int32) at_568 rfl (by decide) ?_
          refine o_laload B310 569 570 A310 3 (q0_83 shape p0 p1 p2 p3) at_569 rfl (by decide) (by decide) (by decide) rfl ?_
          refine o_lmul B310 570 571 at_570 rfl ?_
          refine o_lstore B310 571 573 (l' := #[.val (.int shape), .val (.long p0), .second, .val (.long p1), .second, .val (.long p2), .second, .val (.long p3), .second, .val (.ref a1), .val (.ref a10), .val (.int (3 : Int32)), .val (.int (q0_18 shape p0 p1 p2 p3)), .val (.ref a241), .val (.ref a254), .val (.ref a264), .val (.long (q0_85 shape p0 p1 p2 p3)), .second, .val (.long (q0_86 shape p0 p1 p2 p3)), .second, .unset, .unset]) at_571 rfl rfl ?_
          refine o_aload B310 573 575 (v := (.ref a241)) at_573 rfl rfl rfl ?_
          refine o_aload B310 575 577 (v := (.ref a10)) at_575 rfl rfl rfl ?_
          refine o_aload B310 577 579 (v := (.ref a1)) at_577 rfl rfl rfl ?_
          have F327 := (F307.other W310 ne270)
          have F328 := ((F303.other W304 ne258).other W310 ne268)
          have F329 := (F309.other W310 ne266)
          obtain ⟨T330, B330, c330⟩ := o_callP B310 579 582 at_579 rfl (hw _ (List.mem_of_getElem? (i := 11) rfl)) (hw _ (List.mem_of_getElem? (i := 12) rfl)) (hw _ (List.mem_of_getElem? (i := 13) rfl)) (hw _ (List.mem_of_getElem? (i := 14) rfl)) (by decide) (rm3_3 l Z a0 hw (w0_72 shape p0 p1 p2 p3) (w0_16 shape p0 p1 p2 p3) (w0_8 shape p0 p1 p2 p3) a241 a10 a1 h310 F327 F328 F329 (own_hs3 (own_b_q0_65 shape p0 p1 p2 p3) (own_b_q0_68 shape p0 p1 p2 p3) (own_b_q0_71 shape p0 p1 p2 p3))) 0 [(.ref a241), (.ref a10), (.ref a1)] [] pd___I_I_I_J rfl rfl (st := [(.ref a1), (.ref a10), (.ref a241)]) rfl (Ls := #[.val (.int shape), .val (.long p0), .second, .val (.long p1), .second, .val (.long p2), .second, .val (.long p3), .second, .val (.ref a1), .val (.ref a10), .val (.int (3 : Int32)), .val (.int (q0_18 shape p0 p1 p2 p3)), .val (.ref a241), .val (.ref a254), .val (.ref a264), .val (.long (q0_85 shape p0 p1 p2 p3)), .second, .val (.long (q0_86 shape p0 p1 p2 p3)), .second, .unset, .unset]) rfl (Nat.le_of_eq rfl) (by decide) (by decide) (by decide) (by decide)
          refine c330 ?_
          refine o_lstore B330 582 584 (l' := #[.val (.int shape), .val (.long p0), .second, .val (.long p1), .second, .val (.long p2), .second, .val (.long p3), .second, .val (.ref a1), .val (.ref a10), .val (.int (3 : Int32)), .val (.int (q0_18 shape p0 p1 p2 p3)), .val (.ref a241), .val (.ref a254), .val (.ref a264), .val (.long (q0_85 shape p0 p1 p2 p3)), .second, .val (.long (q0_86 shape p0 p1 p2 p3)), .second, .val (.long (q0_87 shape p0 p1 p2 p3)), .second]) at_582 rfl rfl ?_
          refine o_lload B330 584 586 (v := (q0_87 shape p0 p1 p2 p3)) at_584 rfl rfl ?_
          refine o_lload B330 586 588 (v := (q0_85 shape p0 p1 p2 p3)) at_586 rfl rfl ?_
          refine o_lcmp B330 588 589 at_588 rfl ?_
          by_cases k20 : (q0_87 shape p0 p1 p2 p3) = (q0_85 shape p0 p1 p2 p3)
          · refine o_ifN B330 589 592 at_589 rfl (XT.ll_ne_f k20) ?_
            refine o_lload B330 592 594 (v := (q0_87 shape p0 p1 p2 p3)) at_592 rfl rfl ?_
            refine o_lconst B330 594 595 (0 : Int64) at_594 rfl (by decide) ?_
            refine o_lcmp B330 595 596 at_595 rfl ?_
            by_cases k21 : (q0_87 shape p0 p1 p2 p3) < (0 : Int64)
            · refine o_ifY B330 596 611 at_596 (XT.ll_lt_t k21) (by decide) (by decide) ?_
              refine o_iconst B330 611 612 (0 : Int32) at_611 rfl (by decide) ?_
              refine o_retZ (t := .boolean) B330 612 at_612 hret hlk (by simp) (by decide) (by decide) ⟨(congrArg (fun z => some (Value.int z)) ((show nar .boolean (0 : Int32) = (0 : Int32) from rfl).trans (show f0 shape p0 p1 p2 p3 = (0 : Int32) from (if_neg k1).trans ((if_neg k5).trans ((if_neg k9).trans ((if_pos k13).trans ((if_pos k20).trans ((if_pos k21).trans (rfl))))))).symm)), N310⟩
            · refine o_ifN B330 596 599 at_596 rfl (XT.ll_lt_f k21) ?_
              refine o_lload B330 599 601 (v := (q0_87 shape p0 p1 p2 p3)) at_599 rfl rfl ?_
              refine o_lload B330 601 603 (v := (q0_86 shape p0 p1 p2 p3)) at_601 rfl rfl ?_
              refine o_lcmp B330 603 604 at_603 rfl ?_
              by_cases k22 : (q0_87 shape p0 p1 p2 p3) < (q0_86 shape p0 p1 p2 p3)
              · refine o_ifN B330 604 607 at_604 rfl (XT.ll_ge_f k22) ?_
                refine o_iconst B330 607 608 (1 : Int32) at_607 rfl (by decide) ?_
                refine o_goto B330 608 612 at_608 (by decide) (by decide) ?_
                refine o_retZ (t := .boolean) B330 612 at_612 hret hlk (by simp) (by decide) (by decide) ⟨(congrArg (fun z => some (Value.int z)) ((show nar .boolean (1 : Int32) = (1 : Int32) from rfl).trans (show f0 shape p0 p1 p2 p3 = (1 : Int32) from (if_neg k1).trans ((if_neg k5).trans ((if_neg k9).trans ((if_pos k13).trans ((if_pos k20).trans ((if_neg k21).trans ((if_pos k22).trans (rfl)))))))).symm)), N310⟩
              · refine o_ifY B330 604 611 at_604 (XT.ll_ge_t k22) (by decide) (by decide) ?_
                refine o_iconst B330 611 612 (0 : Int32) at_611 rfl (by decide) ?_
                refine o_retZ (t := .boolean) B330 612 at_612 hret hlk (by simp) (by decide) (by decide) ⟨(congrArg (fun z => some (Value.int z)) ((show nar .boolean (0 : Int32) = (0 : Int32) from rfl).trans (show f0 shape p0 p1 p2 p3 = (0 : Int32) from (if_neg k1).trans ((if_neg k5).trans ((if_neg k9).trans ((if_pos k13).trans ((if_pos k20).trans ((if_neg k21).trans ((if_neg k22).trans (rfl)))))))).symm)), N310⟩
          · refine o_ifY B330 589 611 at_589 (XT.ll_ne_t k20) (by decide) (by decide) ?_
            refine o_iconst B330 611 612 (0 : Int32) at_611 rfl (by decide) ?_
            refine o_retZ (t := .boolean) B330 612 at_612 hret hlk (by simp) (by decide) (by decide) ⟨(congrArg (fun z => some (Value.int z)) ((show nar .boolean (0 : Int32) = (0 : Int32) from rfl).trans (show f0 shape p0 p1 p2 p3 = (0 : Int32) from (if_neg k1).trans ((if_neg k5).trans ((if_neg k9).trans ((if_pos k13).trans ((if_neg k20).trans (rfl)))))).symm)), N310⟩
        · have k23 : (q0_17 shape p0 p1 p2 p3) = (4 : Int32) := (own_k shape p0 p1 p2 p3 k1 k5 k9 k13)
          rw [k23]
          refine o_iloadN B27 102 103 (v := shape) at_102 rfl rfl ?_
          refine o_iconst B27 103 104 (3 : Int32) at_103 rfl (by decide) ?_
          refine o_iushr B27 104 105 at_104 rfl ?_
          refine o_istore B27 105 107 (l' := #[.val (.int shape), .val (.long p0), .second, .val (.long p1), .second, .val (.long p2), .second, .val (.long p3), .second, .val (.ref a1), .val (.ref a10), .val (.int (4 : Int32)), .val (.int (q0_18 shape p0 p1 p2 p3)), .unset, .unset, .unset, .unset, .unset, .unset, .unset, .unset, .unset]) at_105 rfl rfl ?_
          refine o_iload B27 107 109 (v := (4 : Int32)) at_107 rfl rfl ?_
          obtain ⟨a331, T331, h331, z331, B331, E331, A331, c331⟩ := o_newI B27 109 111 (ty := .int) (z := (4 : Int32)) 4 4 (hw _ (List.mem_of_getElem? (i := 0) rfl)) at_109 rfl rfl rfl (by decide) (by decide) (by decide) (by decide) (by decide) (by decide) (Ls := #[.val (.int shape), .val (.long p0), .second, .val (.long p1), .second, .val (.long p2), .second, .val (.long p3), .second, .val (.ref a1), .val (.ref a10), .val (.int (4 : Int32)), .val (.int (q0_18 shape p0 p1 p2 p3)), .unset, .unset, .unset, .unset, .unset, .unset, .unset, .unset, .unset]) (rest := [])
          have F332 := (F25.other W27 ne11)
          have ne333 : a1 ≠ a331 := by rw [z331]; exact Nat.ne_of_lt F332.lt
          have ne334 : a10 ≠ a331 := by rw [z331]; exact Nat.ne_of_lt A27.lt
          have g331 : n0 ≤ a331 := by rw [z331]; exact (W27.size ▸ (W23.size ▸ (W19.size ▸ (W15.size ▸ s10))))
          have s331 : n0 ≤ h331.size := Nat.le_trans (W27.size ▸ (W23.size ▸ (W19.size ▸ (W15.size ▸ s10)))) E331.1
          refine c331 ?_
          refine o_astore B331 111 113 (l' := #[.val (.int shape), .val (.long p0), .second, .val (.long p1), .second, .val (.long p2), .second, .val (.long p3), .second, .val (.ref a1), .val (.ref a10), .val (.int (4 : Int32)), .val (.int (q0_18 shape p0 p1 p2 p3)), .val (.ref a331), .unset, .unset, .unset, .unset, .unset, .unset, .unset, .unset]) at_111 rfl rfl rfl ?_
          refine o_iload B331 113 115 (v := (4 : Int32)) at_113 rfl rfl ?_
          refine o_iconst B331 115 116 (1 : Int32) at_115 rfl (by decide) ?_
          refine o_icY B331 116 130 at_116 (XT.ii_ne_t (by decide)) (by decide) (by decide) ?_
          refine o_iload B331 130 132 (v := (4 : Int32)) at_130 rfl rfl ?_
          refine o_iconst B331 132 133 (2 : Int32) at_132 rfl (by decide) ?_
          refine o_icY B331 133 227 at_133 (XT.ii_ne_t (by decide)) (by decide) (by decide) ?_
          refine o_iload B331 227 229 (v := (4 : Int32)) at_227 rfl rfl ?_
          refine o_iconst B331 229 230 (3 : Int32) at_229 rfl (by decide) ?_
          refine o_icY B331 230 286 at_230 (XT.ii_ne_t (by decide)) (by decide) (by decide) ?_
          refine o_iload B331 286 288 (v := (4 : Int32)) at_286 rfl rfl ?_
          refine o_iconst B331 288 289 (4 : Int32) at_288 rfl (by decide) ?_
          refine o_icN B331 289 292 at_289 rfl (XT.ii_ne_f (by decide)) ?_
          refine o_aload B331 292 294 (v := (.ref a331)) at_292 rfl rfl rfl ?_
          refine o_iconst B331 294 295 (0 : Int32) at_294 rfl (by decide) ?_
          refine o_iconst B331 295 296 (0 : Int32) at_295 rfl (by decide) ?_
          obtain ⟨T335, h335, L335, B335, N335, W335, Q335, c335⟩ := o_iastore B331 N27 g331 296 297 A331 (j := (0 : Int32)) (x := (0 : Int32)) 0 (0 : Int32) at_296 rfl (by decide) (by decide) (by decide) rfl (Ls := #[.val (.int shape), .val (.long p0), .second, .val (.long p1), .second, .val (.long p2), .second, .val (.long p3), .second, .val (.ref a1), .val (.ref a10), .val (.int (4 : Int32)), .val (.int (q0_18 shape p0 p1 p2 p3)), .val (.ref a331), .unset, .unset, .unset, .unset, .unset, .unset, .unset, .unset]) (rest := [])
          have A335 : AI Z h335 a331 .int 4 (w0_36 shape p0 p1 p2 p3) := Q335
          refine c335 ?_
          refine o_aload B335 297 299 (v := (.ref a331)) at_297 rfl rfl rfl ?_
          refine o_iconst B335 299 300 (1 : Int32) at_299 rfl (by decide) ?_
          refine o_iconst B335 300 301 (1 : Int32) at_300 rfl (by decide) ?_
          obtain ⟨T336, h336, L336, B336, N336, W336, Q336, c336⟩ := o_iastore B335 N335 g331 301 302 A335 (j := (1 : Int32)) (x := (1 : Int32)) 1 (1 : Int32) at_301 rfl (by decide) (by decide) (by decide) rfl (Ls := #[.val (.int shape), .val (.long p0), .second, .val (.long p1), .second, .val (.long p2), .second, .val (.long p3), .second, .val (.ref a1), .val (.ref a10), .val (.int (4 : Int32)), .val (.int (q0_18 shape p0 p1 p2 p3)), .val (.ref a331), .unset, .unset, .unset, .unset, .unset, .unset, .unset, .unset]) (rest := [])
          have A336 : AI Z h336 a331 .int 4 (w0_88 shape p0 p1 p2 p3) := Q336
          refine c336 ?_
          refine o_aload B336 302 304 (v := (.ref a331)) at_302 rfl rfl rfl ?_
          refine o_iconst B336 304 305 (2 : Int32) at_304 rfl (by decide) ?_
          refine o_iconst B336 305 306 (2 : Int32) at_305 rfl (by decide) ?_
          obtain ⟨T337, h337, L337, B337, N337, W337, Q337, c337⟩ := o_iastore B336 N336 g331 306 307 A336 (j := (2 : Int32)) (x := (2 : Int32)) 2 (2 : Int32) at_306 rfl (by decide) (by decide) (by decide) rfl (Ls := #[.val (.int shape), .val (.long p0), .second, .val (.long p1), .second, .val (.long p2), .second, .val (.long p3), .second, .val (.ref a1), .val (.ref a10), .val (.int (4 : Int32)), .val (.int (q0_18 shape p0 p1 p2 p3)), .val (.ref a331), .unset, .unset, .unset, .unset, .unset, .unset, .unset, .unset]) (rest := [])
          have A337 : AI Z h337 a331 .int 4 (w0_89 shape p0 p1 p2 p3) := Q337
          refine c337 ?_
          refine o_aload B337 307 309 (v := (.ref a331)) at_307 rfl rfl rfl ?_
          refine o_iconst B337 309 310 (3 : Int32) at_309 rfl (by decide) ?_
          refine o_iconst B337 310 311 (3 : Int32) at_310 rfl (by decide) ?_
          obtain ⟨T338, h338, L338, B338, N338, W338, Q338, c338⟩ := o_iastore B337 N337 g331 311 312 A337 (j := (3 : Int32)) (x := (3 : Int32)) 3 (3 : Int32) at_311 rfl (by decide) (by decide) (by decide) rfl (Ls := #[.val (.int shape), .val (.long p0), .second, .val (.long p1), .second, .val (.long p2), .second, .val (.long p3), .second, .val (.ref a1), .val (.ref a10), .val (.int (4 : Int32)), .val (.int (q0_18 shape p0 p1 p2 p3)), .val (.ref a331), .unset, .unset, .unset, .unset, .unset, .unset, .unset, .unset]) (rest := [])
          have A338 : AI Z h338 a331 .int 4 (w0_90 shape p0 p1 p2 p3) := Q338
          refine c338 ?_
          refine o_iconst B338 312 313 (4 : Int32) at_312 rfl (by decide) ?_
          obtain ⟨a339, T339, h339, z339, B339, E339, A339, c339⟩ := o_newJ B338 313 315 (z := (4 : Int32)) 4 4 (hw _ (List.mem_of_getElem? (i := 10) rfl)) at_313 rfl rfl (by decide) (by decide) (by decide) (by decide) (by decide) (by decide) (Ls := #[.val (.int shape), .val (.long p0), .second, .val (.long p1), .second, .val (.long p2), .second, .val (.long p3), .second, .val (.ref a1), .val (.ref a10), .val (.int (4 : Int32)), .val (.int (q0_18 shape p0 p1 p2 p3)), .val (.ref a331), .unset, .unset, .unset, .unset, .unset, .unset, .unset, .unset]) (rest := [])
          have F340 := (((((F332.ext E331).other W335 ne333).other W336 ne333).other W337 ne333).other W338 ne333)
          have ne341 : a1 ≠ a339 := by rw [z339]; exact Nat.ne_of_lt F340.lt
          have F342 := (((((A27.ext E331).other W335 ne334).other W336 ne334).other W337 ne334).other W338 ne334)
          have ne343 : a10 ≠ a339 := by rw [z339]; exact Nat.ne_of_lt F342.lt
          have ne344 : a331 ≠ a339 := by rw [z339]; exact Nat.ne_of_lt A338.lt
          have g339 : n0 ≤ a339 := by rw [z339]; exact (W338.size ▸ (W337.size ▸ (W336.size ▸ (W335.size ▸ s331))))
          have s339 : n0 ≤ h339.size := Nat.le_trans (W338.size ▸ (W337.size ▸ (W336.size ▸ (W335.size ▸ s331)))) E339.1
          refine c339 ?_
          refine o_dup B339 315 316 at_315 rfl rfl ?_
          refine o_iconst B339 316 317 (0 : Int32) at_316 rfl (by decide) ?_
          refine o_lconst B339 317 318 (0 : Int64) at_317 rfl (by decide) ?_
          obtain ⟨T345, h345, L345, B345, N345, W345, Q345, c345⟩ := o_lastore B339 N338 g339 318 319 A339 (j := (0 : Int32)) (x := (0 : Int64)) 0 (0 : Int64) at_318 rfl (by decide) (by decide) (by decide) rfl (Ls := #[.val (.int shape), .val (.long p0), .second, .val (.long p1), .second, .val (.long p2), .second, .val (.long p3), .second, .val (.ref a1), .val (.ref a10), .val (.int (4 : Int32)), .val (.int (q0_18 shape p0 p1 p2 p3)), .val (.ref a331), .unset, .unset, .unset, .unset, .unset, .unset, .unset, .unset]) (rest := [(.ref a339)])
          have A345 : AJ Z h345 a339 4 (w0_19 shape p0 p1 p2 p3) := Q345
          refine c345 ?_
          refine o_dup B345 319 320 at_319 rfl rfl ?_
          refine o_iconst B345 320 321 (1 : Int32) at_320 rfl (by decide) ?_
          refine o_lconst B345 321 322 (0 : Int64) at_321 rfl (by decide) ?_
          obtain ⟨T346, h346, L346, B346, N346, W346, Q346, c346⟩ := o_lastore B345 N345 g339 322 323 A345 (j := (1 : Int32)) (x := (0 : Int64)) 1 (0 : Int64) at_322 rfl (by decide) (by decide) (by decide) rfl (Ls := #[.val (.int shape), .val (.long p0), .second, .val (.long p1), .second, .val (.long p2), .second, .val (.long p3), .second, .val (.ref a1), .val (.ref a10), .val (.int (4 : Int32)), .val (.int (q0_18 shape p0 p1 p2 p3)), .val (.ref a331), .unset, .unset, .unset, .unset, .unset, .unset, .unset, .unset]) (rest := [(.ref a339)])
          have A346 : AJ Z h346 a339 4 (w0_20 shape p0 p1 p2 p3) := Q346
          refine c346 ?_
          refine o_dup B346 323 324 at_323 rfl rfl ?_
          refine o_iconst B346 324 325 (2 : Int32) at_324 rfl (by decide) ?_
          refine o_lconst B346 325 326 (0 : Int64) at_325 rfl (by decide) ?_
          obtain ⟨T347, h347, L347, B347, N347, W347, Q347, c347⟩ := o_lastore B346 N346 g339 326 327 A346 (j := (2 : Int32)) (x := (0 : Int64)) 2 (0 : Int64) at_326 rfl (by decide) (by decide) (by decide) rfl (Ls := #[.val (.int shape), .val (.long p0), .second, .val (.long p1), .second, .val (.long p2), .second, .val (.long p3), .second, .val (.ref a1), .val (.ref a10), .val (.int (4 : Int32)), .val (.int (q0_18 shape p0 p1 p2 p3)), .val (.ref a331), .unset, .unset, .unset, .unset, .unset, .unset, .unset, .unset]) (rest := [(.ref a339)])
          have A347 : AJ Z h347 a339 4 (w0_21 shape p0 p1 p2 p3) := Q347
          refine c347 ?_
          refine o_dup B347 327 328 at_327 rfl rfl ?_
          refine o_iconst B347 328 329 (3 : Int32) at_328 rfl (by decide) ?_
          refine o_lconst B347 329 330 (0 : Int64) at_329 rfl (by decide) ?_
          obtain ⟨T348, h348, L348, B348, N348, W348, Q348, c348⟩ := o_lastore B347 N347 g339 330 331 A347 (j := (3 : Int32)) (x := (0 : Int64)) 3 (0 : Int64) at_330 rfl (by decide) (by decide) (by decide) rfl (Ls := #[.val (.int shape), .val (.long p0), .second, .val (.long p1), .second, .val (.long p2), .second, .val (.long p3), .second, .val (.ref a1), .val (.ref a10), .val (.int (4 : Int32)), .val (.int (q0_18 shape p0 p1 p2 p3)), .val (.ref a331), .unset, .unset, .unset, .unset, .unset, .unset, .unset, .unset]) (rest := [(.ref a339)])
          have A348 : AJ Z h348 a339 4 (w0_22 shape p0 p1 p2 p3) := Q348
          refine c348 ?_
          refine o_astore B348 331 333 (l' := #[.val (.int shape), .val (.long p0), .second, .val (.long p1), .second, .val (.long p2), .second, .val (.long p3), .second, .val (.ref a1), .val (.ref a10), .val (.int (4 : Int32)), .val (.int (q0_18 shape p0 p1 p2 p3)), .val (.ref a331), .val (.ref a339), .unset, .unset, .unset, .unset, .unset, .unset, .unset]) at_331 rfl rfl rfl ?_
          refine o_iconst B348 333 334 (4 : Int32) at_333 rfl (by decide) ?_
          obtain ⟨a349, T349, h349, z349, B349, E349, A349, c349⟩ := o_newJ B348 334 336 (z := (4 : Int32)) 4 4 (hw _ (List.mem_of_getElem? (i := 10) rfl)) at_334 rfl rfl (by decide) (by decide) (by decide) (by decide) (by decide) (by decide) (Ls := #[.val (.int shape), .val (.long p0), .second, .val (.long p1), .second, .val (.long p2), .second, .val (.long p3), .second, .val (.ref a1), .val (.ref a10), .val (.int (4 : Int32)), .val (.int (q0_18 shape p0 p1 p2 p3)), .val (.ref a331), .val (.ref a339), .unset, .unset, .unset, .unset, .unset, .unset, .unset]) (rest := [])
          have F350 := (((((F340.ext E339).other W345 ne341).other W346 ne341).other W347 ne341).other W348 ne341)
          have ne351 : a1 ≠ a349 := by rw [z349]; exact Nat.ne_of_lt F350.lt
          have F352 := (((((F342.ext E339).other W345 ne343).other W346 ne343).other W347 ne343).other W348 ne343)
          have ne353 : a10 ≠ a349 := by rw [z349]; exact Nat.ne_of_lt F352.lt
          have F354 := (((((A338.ext E339).other W345 ne344).other W346 ne344).other W347 ne344).other W348 ne344)
          have ne355 : a331 ≠ a349 := by rw [z349]; exact Nat.ne_of_lt F354.lt
          have ne356 : a339 ≠ a349 := by rw [z349]; exact Nat.ne_of_lt A348.lt
          have g349 : n0 ≤ a349 := by rw [z349]; exact (W348.size ▸ (W347.size ▸ (W346.size ▸ (W345.size ▸ s339))))
          have s349 : n0 ≤ h349.size := Nat.le_trans (W348.size ▸ (W347.size ▸ (W346.size ▸ (W345.size ▸ s339)))) E349.1
          refine c349 ?_
          refine o_dup B349 336 337 at_336 rfl rfl ?_
          refine o_iconst B349 337 338 (0 : Int32) at_337 rfl (by decide) ?_
          refine o_lconst B349 338 339 (1 : Int64) at_338 rfl (by decide) ?_
          obtain ⟨T357, h357, L357, B357, N357, W357, Q357, c357⟩ := o_lastore B349 N348 g349 339 340 A349 (j := (0 : Int32)) (x := (1 : Int64)) 0 (1 : Int64) at_339 rfl (by decide) (by decide) (by decide) rfl (Ls := #[.val (.int shape), .val (.long p0), .second, .val (.long p1), .second, .val (.long p2), .second, .val (.long p3), .second, .val (.ref a1), .val (.ref a10), .val (.int (4 : Int32)), .val (.int (q0_18 shape p0 p1 p2 p3)), .val (.ref a331), .val (.ref a339), .unset, .unset, .unset, .unset, .unset, .unset, .unset]) (rest := [(.ref a349)])
          have A357 : AJ Z h357 a349 4 (w0_23 shape p0 p1 p2 p3) := Q357
          refine c357 ?_
          refine o_dup B357 340 341 at_340 rfl rfl ?_
          refine o_iconst B357 341 342 (1 : Int32) at_341 rfl (by decide) ?_
          refine o_lconst B357 342 343 (1 : Int64) at_342 rfl (by decide) ?_
          obtain ⟨T358, h358, L358, B358, N358, W358, Q358, c358⟩ := o_lastore B357 N357 g349 343 344 A357 (j := (1 : Int32)) (x := (1 : Int64)) 1 (1 : Int64) at_343 rfl (by decide) (by decide) (by decide) rfl (Ls := #[.val (.int shape), .val (.long p0), .second, .val (.long p1), .second, .val (.long p2), .second, .val (.long p3), .second, .val (.ref a1), .val (.ref a10), .val (.int (4 : Int32)), .val (.int (q0_18 shape p0 p1 p2 p3)), .val (.ref a331), .val (.ref a339), .unset, .unset, .unset, .unset, .unset, .unset, .unset]) (rest := [(.ref a349)])
          have A358 : AJ Z h358 a349 4 (w0_24 shape p0 p1 p2 p3) := Q358
          refine c358 ?_
          refine o_dup B358 344 345 at_344 rfl rfl ?_
          refine o_iconst B358 345 346 (2 : Int32) at_345 rfl (by decide) ?_
          refine o_lconst B358 346 347 (1 : Int64) at_346 rfl (by decide) ?_
          obtain ⟨T359, h359, L359, B359, N359, W359, Q359, c359⟩ := o_lastore B358 N358 g349 347 348 A358 (j := (2 : Int32)) (x := (1 : Int64)) 2 (1 : Int64) at_347 rfl (by decide) (by decide) (by decide) rfl (Ls := #[.val (.int shape), .val (.long p0), .second, .val (.long p1), .second, .val (.long p2), .second, .val (.long p3), .second, .val (.ref a1), .val (.ref a10), .val (.int (4 : Int32)), .val (.int (q0_18 shape p0 p1 p2 p3)), .val (.ref a331), .val (.ref a339), .unset, .unset, .unset, .unset, .unset, .unset, .unset]) (rest := [(.ref a349)])
          have A359 : AJ Z h359 a349 4 (w0_25 shape p0 p1 p2 p3) := Q359
          refine c359 ?_
          refine o_dup B359 348 349 at_348 rfl rfl ?_
          refine o_iconst B359 349 350 (3 : Int32) at_349 rfl (by decide) ?_
          refine o_lconst B359 350 351 (1 : Int64) at_350 rfl (by decide) ?_
          obtain ⟨T360, h360, L360, B360, N360, W360, Q360, c360⟩ := o_lastore B359 N359 g349 351 352 A359 (j := (3 : Int32)) (x := (1 : Int64)) 3 (1 : Int64) at_351 rfl (by decide) (by decide) (by decide) rfl (Ls := #[.val (.int shape), .val (.long p0), .second, .val (.long p1), .second, .val (.long p2), .second, .val (.long p3), .second, .val (.ref a1), .val (.ref a10), .val (.int (4 : Int32)), .val (.int (q0_18 shape p0 p1 p2 p3)), .val (.ref a331), .val (.ref a339), .unset, .unset, .unset, .unset, .unset, .unset, .unset]) (rest := [(.ref a349)])
          have A360 : AJ Z h360 a349 4 (w0_26 shape p0 p1 p2 p3) := Q360
          refine c360 ?_
          refine o_astore B360 352 354 (l' := #[.val (.int shape), .val (.long p0), .second, .val (.long p1), .second, .val (.long p2), .second, .val (.long p3), .second, .val (.ref a1), .val (.ref a10), .val (.int (4 : Int32)), .val (.int (q0_18 shape p0 p1 p2 p3)), .val (.ref a331), .val (.ref a339), .val (.ref a349), .unset, .unset, .unset, .unset, .unset, .unset]) at_352 rfl rfl rfl ?_
          refine o_iload B360 354 356 (v := (4 : Int32)) at_354 rfl rfl ?_
          refine o_ifN B360 356 359 at_356 rfl (XT.i0_le_f (by decide)) ?_
          refine o_aload B360 359 361 (v := (.ref a339)) at_359 rfl rfl rfl ?_
          refine o_iconst B360 361 362 (4 : Int32) at_361 rfl (by decide) ?_
          refine o_iload B360 362 364 (v := (4 : Int32)) at_362 rfl rfl ?_
          refine o_isub B360 364 365 at_364 rfl ?_
          refine o_topI (show ((4 : Int32) - (4 : Int32)) = (0 : Int32) by decide) ?_
          refine o_aload B360 365 367 (v := (.ref a10)) at_365 rfl rfl rfl ?_
          refine o_aload B360 367 369 (v := (.ref a331)) at_367 rfl rfl rfl ?_
          refine o_iconst B360 369 370 (0 : Int32) at_369 rfl (by decide) ?_
          have F362 := (((((F354.ext E349).other W357 ne355).other W358 ne355).other W359 ne355).other W360 ne355)
          refine o_iaload B360 370 371 F362 0 (0 : Int32) at_370 rfl (by decide) (by decide) (by decide) rfl ?_
          have F364 := (((((F352.ext E349).other W357 ne353).other W358 ne353).other W359 ne353).other W360 ne353)
          refine o_iaload B360 371 372 F364 0 (q0_9 shape p0 p1 p2 p3) at_371 rfl (by decide) (by decide) (by decide) rfl ?_
          refine o_i2l B360 372 373 at_372 rfl ?_
          have F366 := (((((A348.ext E349).other W357 ne356).other W358 ne356).other W359 ne356).other W360 ne356)
          obtain ⟨T365, h365, L365, B365, N365, W365, Q365, c365⟩ := o_lastore B360 N360 g339 373 374 F366 (j := (0 : Int32)) (x := (q0_9 shape p0 p1 p2 p3).toInt64) 0 (q0_9 shape p0 p1 p2 p3).toInt64 at_373 rfl (by decide) (by decide) (by decide) rfl (Ls := #[.val (.int shape), .val (.long p0), .second, .val (.long p1), .second, .val (.long p2), .second, .val (.long p3), .second, .val (.ref a1), .val (.ref a10), .val (.int (4 : Int32)), .val (.int (q0_18 shape p0 p1 p2 p3)), .val (.ref a331), .val (.ref a339), .val (.ref a349), .unset, .unset, .unset, .unset, .unset, .unset]) (rest := [])
          have A365 : AJ Z h365 a339 4 (w0_91 shape p0 p1 p2 p3) := Q365
          refine c365 ?_
          refine o_aload B365 374 376 (v := (.ref a349)) at_374 rfl rfl rfl ?_
          refine o_iconst B365 376 377 (4 : Int32) at_376 rfl (by decide) ?_
          refine o_iload B365 377 379 (v := (4 : Int32)) at_377 rfl rfl ?_
          refine o_isub B365 379 380 at_379 rfl ?_
          refine o_topI (show ((4 : Int32) - (4 : Int32)) = (0 : Int32) by decide) ?_
          refine o_aload B365 380 382 (v := (.ref a1)) at_380 rfl rfl rfl ?_
          refine o_aload B365 382 384 (v := (.ref a331)) at_382 rfl rfl rfl ?_
          refine o_iconst B365 384 385 (0 : Int32) at_384 rfl (by decide) ?_
          have F368 := (F362.other W365 ne344)
          refine o_iaload B365 385 386 F368 0 (0 : Int32) at_385 rfl (by decide) (by decide) (by decide) rfl ?_
          have F370 := ((((((F350.ext E349).other W357 ne351).other W358 ne351).other W359 ne351).other W360 ne351).other W365 ne341)
          refine o_iaload B365 386 387 F370 0 (q0_1 shape p0 p1 p2 p3) at_386 rfl (by decide) (by decide) (by decide) rfl ?_
          refine o_i2l B365 387 388 at_387 rfl ?_
          have F372 := (A360.other W365 (Ne.symm ne356))
          obtain ⟨T371, h371, L371, B371, N371, W371, Q371, c371⟩ := o_lastore B365 N365 g349 388 389 F372 (j := (0 : Int32)) (x := (q0_1 shape p0 p1 p2 p3).toInt64) 0 (q0_1 shape p0 p1 p2 p3).toInt64 at_388 rfl (by decide) (by decide) (by decide) rfl (Ls := #[.val (.int shape), .val (.long p0), .second, .val (.long p1), .second, .val (.long p2), .second, .val (.long p3), .second, .val (.ref a1), .val (.ref a10), .val (.int (4 : Int32)), .val (.int (q0_18 shape p0 p1 p2 p3)), .val (.ref a331), .val (.ref a339), .val (.ref a349), .unset, .unset, .unset, .unset, .unset, .unset]) (rest := [])
          have A371 : AJ Z h371 a349 4 (w0_92 shape p0 p1 p2 p3) := Q371
          refine c371 ?_
          refine o_iload B371 389 391 (v := (4 : Int32)) at_389 rfl rfl ?_
          refine o_iconst B371 391 392 (1 : Int32) at_391 rfl (by decide) ?_
          refine o_icN B371 392 395 at_392 rfl (XT.ii_le_f (by decide)) ?_
          refine o_aload B371 395 397 (v := (.ref a339)) at_395 rfl rfl rfl ?_
          refine o_iconst B371 397 398 (5 : Int32) at_397 rfl (by decide) ?_
          refine o_iload B371 398 400 (v := (4 : Int32)) at_398 rfl rfl ?_
          refine o_isub B371 400 401 at_400 rfl ?_
          refine o_topI (show ((5 : Int32) - (4 : Int32)) = (1 : Int32) by decide) ?_
          refine o_aload B371 401 403 (v := (.ref a10)) at_401 rfl rfl rfl ?_
          refine o_aload B371 403 405 (v := (.ref a331)) at_403 rfl rfl rfl ?_
          refine o_iconst B371 405 406 (1 : Int32) at_405 rfl (by decide) ?_
          have F374 := (F368.other W371 ne355)
          refine o_iaload B371 406 407 F374 1 (1 : Int32) at_406 rfl (by decide) (by decide) (by decide) rfl ?_
          have F376 := ((F364.other W365 ne343).other W371 ne353)
          refine o_iaload B371 407 408 F376 1 (q0_11 shape p0 p1 p2 p3) at_407 rfl (by decide) (by decide) (by decide) rfl ?_
          refine o_i2l B371 408 409 at_408 rfl ?_
          have F378 := (A365.other W371 ne356)
          obtain ⟨T377, h377, L377, B377, N377, W377, Q377, c377⟩ := o_lastore B371 N371 g339 409 410 F378 (j := (1 : Int32)) (x := (q0_11 shape p0 p1 p2 p3).toInt64) 1 (q0_11 shape p0 p1 p2 p3).toInt64 at_409 rfl (by decide) (by decide) (by decide) rfl (Ls := #[.val (.int shape), .val (.long p0), .second, .val (.long p1), .second, .val (.long p2), .second, .val (.long p3), .second, .val (.ref a1), .val (.ref a10), .val (.int (4 : Int32)), .val (.int (q0_18 shape p0 p1 p2 p3)), .val (.ref a331), .val (.ref a339), .val (.ref a349), .unset, .unset, .unset, .unset, .unset, .unset]) (rest := [])
          have A377 : AJ Z h377 a339 4 (w0_93 shape p0 p1 p2 p3) := Q377
          refine c377 ?_
          refine o_aload B377 410 412 (v := (.ref a349)) at_410 rfl rfl rfl ?_
          refine o_iconst B377 412 413 (5 : Int32) at_412 rfl (by decide) ?_
          refine o_iload B377 413 415 (v := (4 : Int32)) at_413 rfl rfl ?_
          refine o_isub B377 415 416 at_415 rfl ?_
          refine o_topI (show ((5 : Int32) - (4 : Int32)) = (1 : Int32) by decide) ?_
          refine o_aload B377 416 418 (v := (.ref a1)) at_416 rfl rfl rfl ?_
          refine o_aload B377 418 420 (v := (.ref a331)) at_418 rfl rfl rfl ?_
          refine o_iconst B377 420 421 (1 : Int32) at_420 rfl (by decide) ?_
          have F380 := (F374.other W377 ne344)
          refine o_iaload B377 421 422 F380 1 (1 : Int32) at_421 rfl (by decide) (by decide) (by decide) rfl ?_
          have F382 := ((F370.other W371 ne351).other W377 ne341)
          refine o_iaload B377 422 423 F382 1 (q0_3 shape p0 p1 p2 p3) at_422 rfl (by decide) (by decide) (by decide) rfl ?_
          refine o_i2l B377 423 424 at_423 rfl ?_
          have F384 := (A371.other W377 (Ne.symm ne356))
          obtain ⟨T383, h383, L383, B383, N383, W383, Q383, c383⟩ := o_lastore B377 N377 g349 424 425 F384 (j := (1 : Int32)) (x := (q0_3 shape p0 p1 p2 p3).toInt64) 1 (q0_3 shape p0 p1 p2 p3).toInt64 at_424 rfl (by decide) (by decide) (by decide) rfl (Ls := #[.val (.int shape), .val (.long p0), .second, .val (.long p1), .second, .val (.long p2), .second, .val (.long p3), .second, .val (.ref a1), .val (.ref a10), .val (.int (4 : Int32)), .val (.int (q0_18 shape p0 p1 p2 p3)), .val (.ref a331), .val (.ref a339), .val (.ref a349), .unset, .unset, .unset, .unset, .unset, .unset]) (rest := [])
          have A383 : AJ Z h383 a349 4 (w0_94 shape p0 p1 p2 p3) := Q383
          refine c383 ?_
          refine o_iload B383 425 427 (v := (4 : Int32)) at_425 rfl rfl ?_
          refine o_iconst B383 427 428 (2 : Int32) at_427 rfl (by decide) ?_
          refine o_icN B383 428 431 at_428 rfl (XT.ii_le_f (by decide)) ?_
          refine o_aload B383 431 433 (v := (.ref a339)) at_431 rfl rfl rfl ?_
          refine o_bipush B383 433 435 (6 : Int32) at_433 rfl (by decide) ?_
          refine o_iload B383 435 437 (v := (4 : Int32)) at_435 rfl rfl ?_
          refine o_isub B383 437 438 at_437 rfl ?_
          refine o_topI (show ((6 : Int32) - (4 : Int32)) = (2 : Int32) by decide) ?_
          refine o_aload B383 438 440 (v := (.ref a10)) at_438 rfl rfl rfl ?_
          refine o_aload B383 440 442 (v := (.ref a331)) at_440 rfl rfl rfl ?_
          refine o_iconst B383 442 443 (2 : Int32) at_442 rfl (by decide) ?_
          have F386 := (F380.other W383 ne355)
          refine o_iaload B383 443 444 F386 2 (2 : Int32) at_443 rfl (by decide) (by decide) (by decide) rfl ?_
          have F388 := ((F376.other W377 ne343).other W383 ne353)
          refine o_iaload B383 444 445 F388 2 (q0_13 shape p0 p1 p2 p3) at_444 rfl (by decide) (by decide) (by decide) rfl ?_
          refine o_i2l B383 445 446 at_445 rfl ?_
          have F390 := (A377.other W383 ne356)
          obtain ⟨T389, h389, L389, B389, N389, W389, Q389, c389⟩ := o_lastore B383 N383 g339 446 447 F390 (j := (2 : Int32)) (x := (q0_13 shape p0 p1 p2 p3).toInt64) 2 (q0_13 shape p0 p1 p2 p3).toInt64 at_446 rfl (by decide) (by decide) (by decide) rfl (Ls := #[.val (.int shape), .val (.long p0), .second, .val (.long p1), .second, .val (.long p2), .second, .val (.long p3), .second, .val (.ref a1), .val (.ref a10), .val (.int (4 : Int32)), .val (.int (q0_18 shape p0 p1 p2 p3)), .val (.ref a331), .val (.ref a339), .val (.ref a349), .unset, .unset, .unset, .unset, .unset, .unset]) (rest := [])
          have A389 : AJ Z h389 a339 4 (w0_95 shape p0 p1 p2 p3) := Q389
          refine c389 ?_
          refine o_aload B389 447 449 (v := (.ref a349)) at_447 rfl rfl rfl ?_
          refine o_bipush B389 449 451 (6 : Int32) at_449 rfl (by decide) ?_
          refine o_iload B389 451 453 (v := (4 : Int32)) at_451 rfl rfl ?_
          refine o_isub B389 453 454 at_453 rfl ?_
          refine o_topI (show ((6 : Int32) - (4 : Int32)) = (2 : Int32) by decide) ?_
          refine o_aload B389 454 456 (v := (.ref a1)) at_454 rfl rfl rfl ?_
          refine o_aload B389 456 458 (v := (.ref a331)) at_456 rfl rfl rfl ?_
          refine o_iconst B389 458 459 (2 : Int32) at_458 rfl (by decide) ?_
          have F392 := (F386.other W389 ne344)
          refine o_iaload B389 459 460 F392 2 (2 : Int32) at_459 rfl (by decide) (by decide) (by decide) rfl ?_
          have F394 := ((F382.other W383 ne351).other W389 ne341)
          refine o_iaload B389 460 461 F394 2 (q0_5 shape p0 p1 p2 p3) at_460 rfl (by decide) (by decide) (by decide) rfl ?_
          refine o_i2l B389 461 462 at_461 rfl ?_
          have F396 := (A383.other W389 (Ne.symm ne356))
          obtain ⟨T395, h395, L395, B395, N395, W395, Q395, c395⟩ := o_lastore B389 N389 g349 462 463 F396 (j := (2 : Int32)) (x := (q0_5 shape p0 p1 p2 p3).toInt64) 2 (q0_5 shape p0 p1 p2 p3).toInt64 at_462 rfl (by decide) (by decide) (by decide) rfl (Ls := #[.val (.int shape), .val (.long p0), .second, .val (.long p1), .second, .val (.long p2), .second, .val (.long p3), .second, .val (.ref a1), .val (.ref a10), .val (.int (4 : Int32)), .val (.int (q0_18 shape p0 p1 p2 p3)), .val (.ref a331), .val (.ref a339), .val (.ref a349), .unset, .unset, .unset, .unset, .unset, .unset]) (rest := [])
          have A395 : AJ Z h395 a349 4 (w0_96 shape p0 p1 p2 p3) := Q395
          refine c395 ?_
          refine o_iload B395 463 465 (v := (4 : Int32)) at_463 rfl rfl ?_
          refine o_iconst B395 465 466 (3 : Int32) at_465 rfl (by decide) ?_
          refine o_icN B395 466 469 at_466 rfl (XT.ii_le_f (by decide)) ?_
          refine o_aload B395 469 471 (v := (.ref a339)) at_469 rfl rfl rfl ?_
          refine o_bipush B395 471 473 (7 : Int32) at_471 rfl (by decide) ?_
          refine o_iload B395 473 475 (v := (4 : Int32)) at_473 rfl rfl ?_
          refine o_isub B395 475 476 at_475 rfl ?_
          refine o_topI (show ((7 : Int32) - (4 : Int32)) = (3 : Int32) by decide) ?_
          refine o_aload B395 476 478 (v := (.ref a10)) at_476 rfl rfl rfl ?_
          refine o_aload B395 478 480 (v := (.ref a331)) at_478 rfl rfl rfl ?_
          refine o_iconst B395 480 481 (3 : Int32) at_480 rfl (by decide) ?_
          have F398 := (F392.other W395 ne355)
          refine o_iaload B395 481 482 F398 3 (3 : Int32) at_481 rfl (by decide) (by decide) (by decide) rfl ?_
          have F400 := ((F388.other W389 ne343).other W395 ne353)
          refine o_iaload B395 482 483 F400 3 (q0_15 shape p0 p1 p2 p3) at_482 rfl (by decide) (by decide) (by decide) rfl ?_
          refine o_i2l B395 483 484 at_483 rfl ?_
          have F402 := (A389.other W395 ne356)
          obtain ⟨T401, h401, L401, B401, N401, W401, Q401, c401⟩ := o_lastore B395 N395 g339 484 485 F402 (j := (3 : Int32)) (x := (q0_15 shape p0 p1 p2 p3).toInt64) 3 (q0_15 shape p0 p1 p2 p3).toInt64 at_484 rfl (by decide) (by decide) (by decide) rfl (Ls := #[.val (.int shape), .val (.long p0), .second, .val (.long p1), .second, .val (.long p2), .second, .val (.long p3), .second, .val (.ref a1), .val (.ref a10), .val (.int (4 : Int32)), .val (.int (q0_18 shape p0 p1 p2 p3)), .val (.ref a331), .val (.ref a339), .val (.ref a349), .unset, .unset, .unset, .unset, .unset, .unset]) (rest := [])
          have A401 : AJ Z h401 a339 4 (w0_97 shape p0 p1 p2 p3) := Q401
          refine c401 ?_
          refine o_aload B401 485 487 (v := (.ref a349)) at_485 rfl rfl rfl ?_
          refine o_bipush B401 487 489 (7 : Int32) at_487 rfl (by decide) ?_
          refine o_iload B401 489 491 (v := (4 : Int32)) at_489 rfl rfl ?_
          refine o_isub B401 491 492 at_491 rfl ?_
          refine o_topI (show ((7 : Int32) - (4 : Int32)) = (3 : Int32) by decide) ?_
          refine o_aload B401 492 494 (v := (.ref a1)) at_492 rfl rfl rfl ?_
          refine o_aload B401 494 496 (v := (.ref a331)) at_494 rfl rfl rfl ?_
          refine o_iconst B401 496 497 (3 : Int32) at_496 rfl (by decide) ?_
          have F404 := (F398.other W401 ne344)
          refine o_iaload B401 497 498 F404 3 (3 : Int32) at_497 rfl (by decide) (by decide) (by decide) rfl ?_
          have F406 := ((F394.other W395 ne351).other W401 ne341)
          refine o_iaload B401 498 499 F406 3 (q0_7 shape p0 p1 p2 p3) at_498 rfl (by decide) (by decide) (by decide) rfl ?_
          refine o_i2l B401 499 500 at_499 rfl ?_
          have F408 := (A395.other W401 (Ne.symm ne356))
          obtain ⟨T407, h407, L407, B407, N407, W407, Q407, c407⟩ := o_lastore B401 N401 g349 500 501 F408 (j := (3 : Int32)) (x := (q0_7 shape p0 p1 p2 p3).toInt64) 3 (q0_7 shape p0 p1 p2 p3).toInt64 at_500 rfl (by decide) (by decide) (by decide) rfl (Ls := #[.val (.int shape), .val (.long p0), .second, .val (.long p1), .second, .val (.long p2), .second, .val (.long p3), .second, .val (.ref a1), .val (.ref a10), .val (.int (4 : Int32)), .val (.int (q0_18 shape p0 p1 p2 p3)), .val (.ref a331), .val (.ref a339), .val (.ref a349), .unset, .unset, .unset, .unset, .unset, .unset]) (rest := [])
          have A407 : AJ Z h407 a349 4 (w0_98 shape p0 p1 p2 p3) := Q407
          refine c407 ?_
          refine o_aload B407 501 503 (v := (.ref a339)) at_501 rfl rfl rfl ?_
          refine o_iconst B407 503 504 (0 : Int32) at_503 rfl (by decide) ?_
          have F410 := (A401.other W407 ne356)
          refine o_laload B407 504 505 F410 0 (q0_9 shape p0 p1 p2 p3).toInt64 at_504 rfl (by decide) (by decide) (by decide) rfl ?_
          refine o_aload B407 505 507 (v := (.ref a349)) at_505 rfl rfl rfl ?_
          refine o_iconst B407 507 508 (1 : Int32) at_507 rfl (by decide) ?_
          refine o_laload B407 508 509 A407 1 (q0_3 shape p0 p1 p2 p3).toInt64 at_508 rfl (by decide) (by decide) (by decide) rfl ?_
          refine o_lmul B407 509 510 at_509 rfl ?_
          refine o_aload B407 510 512 (v := (.ref a349)) at_510 rfl rfl rfl ?_
          refine o_iconst B407 512 513 (2 : Int32) at_512 rfl (by decide) ?_
          refine o_laload B407 513 514 A407 2 (q0_5 shape p0 p1 p2 p3).toInt64 at_513 rfl (by decide) (by decide) (by decide) rfl ?_
          refine o_lmul B407 514 515 at_514 rfl ?_
          refine o_aload B407 515 517 (v := (.ref a349)) at_515 rfl rfl rfl ?_
          refine o_iconst B407 517 518 (3 : Int32) at_517 rfl (by decide) ?_
          refine o_laload B407 518 519 A407 3 (q0_7 shape p0 p1 p2 p3).toInt64 at_518 rfl (by decide) (by decide) (by decide) rfl ?_
          refine o_lmul B407 519 520 at_519 rfl ?_
          refine o_aload B407 520 522 (v := (.ref a339)) at_520 rfl rfl rfl ?_
          refine o_iconst B407 522 523 (1 : Int32) at_522 rfl (by decide) ?_
          refine o_laload B407 523 524 F410 1 (q0_11 shape p0 p1 p2 p3).toInt64 at_523 rfl (by decide) (by decide) (by decide) rfl ?_
          refine o_aload B407 524 526 (v := (.ref a349)) at_524 rfl rfl rfl ?_
          refine o_iconst B407 526 527 (2 : Int32) at_526 rfl (by decide) ?_
          refine o_laload B407 527 528 A407 2 (q0_5 shape p0 p1 p2 p3).toInt64 at_527 rfl (by decide) (by decide) (by decide) rfl ?_
          refine o_lmul B407 528 529 at_528 rfl ?_
          refine o_aload B407 529 531 (v := (.ref a349)) at_529 rfl rfl rfl ?_
          refine o_iconst B407 531 532 (3 : Int32) at_531 rfl (by decide) ?_
          refine o_laload B407 532 533 A407 3 (q0_7 shape p0 p1 p2 p3).toInt64 at_532 rfl (by decide) (by decide) (by decide) rfl ?_
          refine o_lmul B407 533 534 at_533 rfl ?_
          refine o_ladd B407 534 535 at_534 rfl ?_
          refine o_aload B407 535 537 (v := (.ref a339)) at_535 rfl rfl rfl ?_
          refine o_iconst B407 537 538 (2 : Int32) at_537 rfl (by decide) ?_
          refine o_laload B407 538 539 F410 2 (q0_13 shape p0 p1 p2 p3).toInt64 at_538 rfl (by decide) (by decide) (by decide) rfl ?_
          refine o_aload B407 539 541 (v := (.ref a349)) at_539 rfl rfl rfl ?_
          refine o_iconst B407 541 542 (3 : Int32) at_541 rfl (by decide) ?_
          refine o_laload B407 542 543 A407 3 (q0_7 shape p0 p1 p2 p3).toInt64 at_542 rfl (by decide) (by decide) (by decide) rfl ?_
          refine o_lmul B407 543 544 at_543 rfl ?_
          refine o_ladd B407 544 545 at_544 rfl ?_
          refine o_aload B407 545 547 (v := (.ref a339)) at_545 rfl rfl rfl ?_
          refine o_iconst B407 547 548 (3 : Int32) at_547 rfl (by decide) ?_
          refine o_laload B407 548 549 F410 3 (q0_15 shape p0 p1 p2 p3).toInt64 at_548 rfl (by decide) (by decide) (by decide) rfl ?_
          refine o_ladd B407 549 550 at_549 rfl ?_
          refine o_lstore B407 550 552 (l' := #[.val (.int shape), .val (.long p0), .second, .val (.long p1), .second, .val (.long p2), .second, .val (.long p3), .second, .val (.ref a1), .val (.ref a10), .val (.int (4 : Int32)), .val (.int (q0_18 shape p0 p1 p2 p3)), .val (.ref a331), .val (.ref a339), .val (.ref a349), .val (.long (q0_99 shape p0 p1 p2 p3)), .second, .unset, .unset, .unset, .unset]) at_550 rfl rfl ?_
          refine o_aload B407 552 554 (v := (.ref a349)) at_552 rfl rfl rfl ?_
          refine o_iconst B407 554 555 (0 : Int32) at_554 rfl (by decide) ?_
          refine o_laload B407 555 556 A407 0 (q0_1 shape p0 p1 p2 p3).toInt64 at_555 rfl (by decide) (by decide) (by decide) rfl ?_
          refine o_aload B407 556 558 (v := (.ref a349)) at_556 rfl rfl rfl ?_
          refine o_iconst B407 558 559 (1 : Int32) at_558 rfl (by decide) ?_
          refine o_laload B407 559 560 A407 1 (q0_3 shape p0 p1 p2 p3).toInt64 at_559 rfl (by decide) (by decide) (by decide) rfl ?_
          refine o_lmul B407 560 561 at_560 rfl ?_
          refine o_aload B407 561 563 (v := (.ref a349)) at_561 rfl rfl rfl ?_
          refine o_iconst B407 563 564 (2 : Int32) at_563 rfl (by decide) ?_
          refine o_laload B407 564 565 A407 2 (q0_5 shape p0 p1 p2 p3).toInt64 at_564 rfl (by decide) (by decide) (by decide) rfl ?_
          refine o_lmul B407 565 566 at_565 rfl ?_
          refine o_aload B407 566 568 (v := (.ref a349)) at_566 rfl rfl rfl ?_
          refine o_iconst B407 568 569 (3 : Int32) at_568 rfl (by decide) ?_
          refine o_laload B407 569 570 A407 3 (q0_7 shape p0 p1 p2 p3).toInt64 at_569 rfl (by decide) (by decide) (by decide) rfl ?_
          refine o_lmul B407 570 571 at_570 rfl ?_
          refine o_lstore B407 571 573 (l' := #[.val (.int shape), .val (.long p0), .second, .val (.long p1), .second, .val (.long p2), .second, .val (.long p3), .second, .val (.ref a1), .val (.ref a10), .val (.int (4 : Int32)), .val (.int (q0_18 shape p0 p1 p2 p3)), .val (.ref a331), .val (.ref a339), .val (.ref a349), .val (.long (q0_99 shape p0 p1 p2 p3)), .second, .val (.long (q0_100 shape p0 p1 p2 p3)), .second, .unset, .unset]) at_571 rfl rfl ?_
          refine o_aload B407 573 575 (v := (.ref a331)) at_573 rfl rfl rfl ?_
          refine o_aload B407 575 577 (v := (.ref a10)) at_575 rfl rfl rfl ?_
          refine o_aload B407 577 579 (v := (.ref a1)) at_577 rfl rfl rfl ?_
          have F424 := (F404.other W407 ne355)
          have F425 := ((F400.other W401 ne343).other W407 ne353)
          have F426 := (F406.other W407 ne351)
          obtain ⟨T427, B427, c427⟩ := o_callP B407 579 582 at_579 rfl (hw _ (List.mem_of_getElem? (i := 11) rfl)) (hw _ (List.mem_of_getElem? (i := 12) rfl)) (hw _ (List.mem_of_getElem? (i := 13) rfl)) (hw _ (List.mem_of_getElem? (i := 14) rfl)) (by decide) (rm3_4 l Z a0 hw (w0_90 shape p0 p1 p2 p3) (w0_16 shape p0 p1 p2 p3) (w0_8 shape p0 p1 p2 p3) a331 a10 a1 h407 F424 F425 F426 (own_hs4 (show S4 (0 : Int32) by unfold S4; decide) (show S4 (1 : Int32) by unfold S4; decide) (show S4 (2 : Int32) by unfold S4; decide) (show S4 (3 : Int32) by unfold S4; decide))) 0 [(.ref a331), (.ref a10), (.ref a1)] [] pd___I_I_I_J rfl rfl (st := [(.ref a1), (.ref a10), (.ref a331)]) rfl (Ls := #[.val (.int shape), .val (.long p0), .second, .val (.long p1), .second, .val (.long p2), .second, .val (.long p3), .second, .val (.ref a1), .val (.ref a10), .val (.int (4 : Int32)), .val (.int (q0_18 shape p0 p1 p2 p3)), .val (.ref a331), .val (.ref a339), .val (.ref a349), .val (.long (q0_99 shape p0 p1 p2 p3)), .second, .val (.long (q0_100 shape p0 p1 p2 p3)), .second, .unset, .unset]) rfl (Nat.le_of_eq rfl) (by decide) (by decide) (by decide) (by decide)
          refine c427 ?_
          refine o_lstore B427 582 584 (l' := #[.val (.int shape), .val (.long p0), .second, .val (.long p1), .second, .val (.long p2), .second, .val (.long p3), .second, .val (.ref a1), .val (.ref a10), .val (.int (4 : Int32)), .val (.int (q0_18 shape p0 p1 p2 p3)), .val (.ref a331), .val (.ref a339), .val (.ref a349), .val (.long (q0_99 shape p0 p1 p2 p3)), .second, .val (.long (q0_100 shape p0 p1 p2 p3)), .second, .val (.long (q0_101 shape p0 p1 p2 p3)), .second]) at_582 rfl rfl ?_
          refine o_lload B427 584 586 (v := (q0_101 shape p0 p1 p2 p3)) at_584 rfl rfl ?_
          refine o_lload B427 586 588 (v := (q0_99 shape p0 p1 p2 p3)) at_586 rfl rfl ?_
          refine o_lcmp B427 588 589 at_588 rfl ?_
          by_cases k24 : (q0_101 shape p0 p1 p2 p3) = (q0_99 shape p0 p1 p2 p3)
          · refine o_ifN B427 589 592 at_589 rfl (XT.ll_ne_f k24) ?_
            refine o_lload B427 592 594 (v := (q0_101 shape p0 p1 p2 p3)) at_592 rfl rfl ?_
            refine o_lconst B427 594 595 (0 : Int64) at_594 rfl (by decide) ?_
            refine o_lcmp B427 595 596 at_595 rfl ?_
            by_cases k25 : (q0_101 shape p0 p1 p2 p3) < (0 : Int64)
            · refine o_ifY B427 596 611 at_596 (XT.ll_lt_t k25) (by decide) (by decide) ?_
              refine o_iconst B427 611 612 (0 : Int32) at_611 rfl (by decide) ?_
              refine o_retZ (t := .boolean) B427 612 at_612 hret hlk (by simp) (by decide) (by decide) ⟨(congrArg (fun z => some (Value.int z)) ((show nar .boolean (0 : Int32) = (0 : Int32) from rfl).trans (show f0 shape p0 p1 p2 p3 = (0 : Int32) from (if_neg k1).trans ((if_neg k5).trans ((if_neg k9).trans ((if_neg k13).trans ((if_pos k24).trans ((if_pos k25).trans (rfl))))))).symm)), N407⟩
            · refine o_ifN B427 596 599 at_596 rfl (XT.ll_lt_f k25) ?_
              refine o_lload B427 599 601 (v := (q0_101 shape p0 p1 p2 p3)) at_599 rfl rfl ?_
              refine o_lload B427 601 603 (v := (q0_100 shape p0 p1 p2 p3)) at_601 rfl rfl ?_
              refine o_lcmp B427 603 604 at_603 rfl ?_
              by_cases k26 : (q0_101 shape p0 p1 p2 p3) < (q0_100 shape p0 p1 p2 p3)
              · refine o_ifN B427 604 607 at_604 rfl (XT.ll_ge_f k26) ?_
                refine o_iconst B427 607 608 (1 : Int32) at_607 rfl (by decide) ?_
                refine o_goto B427 608 612 at_608 (by decide) (by decide) ?_
                refine o_retZ (t := .boolean) B427 612 at_612 hret hlk (by simp) (by decide) (by decide) ⟨(congrArg (fun z => some (Value.int z)) ((show nar .boolean (1 : Int32) = (1 : Int32) from rfl).trans (show f0 shape p0 p1 p2 p3 = (1 : Int32) from (if_neg k1).trans ((if_neg k5).trans ((if_neg k9).trans ((if_neg k13).trans ((if_pos k24).trans ((if_neg k25).trans ((if_pos k26).trans (rfl)))))))).symm)), N407⟩
              · refine o_ifY B427 604 611 at_604 (XT.ll_ge_t k26) (by decide) (by decide) ?_
                refine o_iconst B427 611 612 (0 : Int32) at_611 rfl (by decide) ?_
                refine o_retZ (t := .boolean) B427 612 at_612 hret hlk (by simp) (by decide) (by decide) ⟨(congrArg (fun z => some (Value.int z)) ((show nar .boolean (0 : Int32) = (0 : Int32) from rfl).trans (show f0 shape p0 p1 p2 p3 = (0 : Int32) from (if_neg k1).trans ((if_neg k5).trans ((if_neg k9).trans ((if_neg k13).trans ((if_pos k24).trans ((if_neg k25).trans ((if_neg k26).trans (rfl)))))))).symm)), N407⟩
          · refine o_ifY B427 589 611 at_589 (XT.ll_ne_t k24) (by decide) (by decide) ?_
            refine o_iconst B427 611 612 (0 : Int32) at_611 rfl (by decide) ?_
            refine o_retZ (t := .boolean) B427 612 at_612 hret hlk (by simp) (by decide) (by decide) ⟨(congrArg (fun z => some (Value.int z)) ((show nar .boolean (0 : Int32) = (0 : Int32) from rfl).trans (show f0 shape p0 p1 p2 p3 = (0 : Int32) from (if_neg k1).trans ((if_neg k5).trans ((if_neg k9).trans ((if_neg k13).trans ((if_neg k24).trans (rfl)))))).symm)), N407⟩
def Bd (t c : Int64) : Prop := 1 ≤ c.toInt ∧ c.toInt ≤ 32768 ∧ 0 ≤ t.toInt ∧ t.toInt < c.toInt
theorem own_val (p : Int64) : Bd (f2 p (f1 p)).toInt64 (f1 p).toInt64 := by
  have h := own_c p
  have m := c_maskL (XT.ushrL p 15) 2147483647 31 (by decide) (by decide)
  have a := c_l2i (XT.ushrL p 15 &&& 2147483647)
  have r := rng32 (XT.ushrL p 15 &&& 2147483647).toInt32
  have q := c_iremV (XT.ushrL p 15 &&& 2147483647).toInt32 (f1 p)
  have e1 := c_i2l (f2 p (f1 p))
  have e2 := c_i2l (f1 p)
  have e3 : (f2 p (f1 p)).toInt = ((XT.ushrL p 15 &&& 2147483647).toInt32 % f1 p).toInt := rfl
  have e4 : (XT.ushrL p 15 &&& 2147483647).toInt32.toInt = (XT.ushrL p 15 &&& 2147483647).toInt := by omega
  unfold Bd
  rw [e1, e2]
  omega
theorem own_bd (shape : Int32) (p0 p1 p2 p3 : Int64) (i : Nat) (h : i < 4) : Bd (w0_16 shape p0 p1 p2 p3 i).toInt64 (w0_8 shape p0 p1 p2 p3 i).toInt64 := by
  match i, h with
  | 0, _ => exact own_val p0
  | 1, _ => exact own_val p1
  | 2, _ => exact own_val p2
  | 3, _ => exact own_val p3
def Lt (N T : Int64) (M : Int) : Prop := 0 ≤ N.toInt ∧ N.toInt < T.toInt ∧ T.toInt ≤ M
theorem own_st {N T c t : Int64} (M : Int) (h : Lt N T M) (hM : M * 32768 ≤ 4611686018427387904) (b : Bd t c) : Lt (N * c + t) (T * c) (M * 32768) := by
  unfold Lt at h
  unfold Bd at b
  have p1 : 0 ≤ N.toInt * c.toInt := Int.mul_nonneg h.1 (by omega)
  have p2 : N.toInt * c.toInt ≤ (T.toInt - 1) * c.toInt := Int.mul_le_mul_of_nonneg_right (by omega) (by omega)
  rw [Int.sub_mul, Int.one_mul] at p2
  have p3 : T.toInt * c.toInt ≤ M * 32768 := Int.mul_le_mul h.2.2 b.2.1 (by omega) (by omega)
  have e1 : (N * c).toInt = N.toInt * c.toInt := by have := c_lmul N c; have := rng64 (N * c); omega
  have e2 : (T * c).toInt = T.toInt * c.toInt := by have := c_lmul T c; have := rng64 (T * c); omega
  have e3 : (N * c + t).toInt = N.toInt * c.toInt + t.toInt := by have := c_ladd (N * c) t; have := rng64 (N * c + t); omega
  unfold Lt
  rw [e2, e3]
  omega
theorem own_res {n r t : Int64} {M : Int} (h1 : n = r) (h2 : Lt n t M) : (if n = r then (if n < (0 : Int64) then (0 : Int32) else (if n < t then (1 : Int32) else (0 : Int32))) else (0 : Int32)) = 1 := by
  unfold Lt at h2
  rw [if_pos h1, if_neg (by rw [Int64.lt_iff_toInt_lt, Int64.toInt_zero]; omega), if_pos (by rw [Int64.lt_iff_toInt_lt]; omega)]
theorem own_b1 {t c : Int64} (b : Bd t c) : Lt t c 32768 := by unfold Bd at b; unfold Lt; omega
theorem law_true (shape : Int32) (p0 p1 p2 p3 : Int64) : f0 shape p0 p1 p2 p3 = 1 := by
  have B := own_bd shape p0 p1 p2 p3
  unfold f0
  by_cases k0 : q0_17 shape p0 p1 p2 p3 = 0
  · rw [if_pos k0]
    rw [show q0_27 shape p0 p1 p2 p3 = 0 from rfl]
    decide
  · rw [if_neg k0]
    by_cases k1 : q0_17 shape p0 p1 p2 p3 = 1
    · rw [if_pos k1]
      have b0 := B _ (own_lt (own_b_q0_28 shape p0 p1 p2 p3))
      have hn : q0_35 shape p0 p1 p2 p3 = 0 * q0_32 shape p0 p1 p2 p3 + q0_30 shape p0 p1 p2 p3 := rfl
      refine own_res (M := 32768) ?_ ?_
      · rw [hn]
        unfold q0_34
        simp only [Int64.zero_mul, Int64.zero_add]
      · rw [hn, Int64.zero_mul, Int64.zero_add, Int64.one_mul]
        exact own_b1 b0
    · rw [if_neg k1]
      by_cases k2 : q0_17 shape p0 p1 p2 p3 = 2
      · rw [if_pos k2]
        have b0 : Bd (q0_53 shape p0 p1 p2 p3) (q0_55 shape p0 p1 p2 p3) := B _ (own_lt (own_b_q0_49 shape p0 p1 p2 p3))
        have b1 : Bd (q0_57 shape p0 p1 p2 p3) (q0_59 shape p0 p1 p2 p3) := B _ (own_lt (own_b_q0_51 shape p0 p1 p2 p3))
        have hn : q0_63 shape p0 p1 p2 p3 = (0 * q0_55 shape p0 p1 p2 p3 + q0_53 shape p0 p1 p2 p3) * q0_59 shape p0 p1 p2 p3 + q0_57 shape p0 p1 p2 p3 := rfl
        rw [Int64.zero_mul, Int64.zero_add] at hn
        refine own_res (M := 32768 * 32768) ?_ ?_
        · rw [hn]
          unfold q0_61
          simp only [Int64.zero_mul, Int64.zero_add]
        · rw [hn]
          unfold q0_62
          rw [Int64.one_mul]
          exact own_st _ (own_b1 b0) (by decide) b1
      · rw [if_neg k2]
        by_cases k3 : q0_17 shape p0 p1 p2 p3 = 3
        · rw [if_pos k3]
          have b0 : Bd (q0_73 shape p0 p1 p2 p3) (q0_75 shape p0 p1 p2 p3) := B _ (own_lt (own_b_q0_65 shape p0 p1 p2 p3))
          have b1 : Bd (q0_77 shape p0 p1 p2 p3) (q0_79 shape p0 p1 p2 p3) := B _ (own_lt (own_b_q0_68 shape p0 p1 p2 p3))
          have b2 : Bd (q0_81 shape p0 p1 p2 p3) (q0_83 shape p0 p1 p2 p3) := B _ (own_lt (own_b_q0_71 shape p0 p1 p2 p3))
          have hn : q0_87 shape p0 p1 p2 p3 = ((0 * q0_75 shape p0 p1 p2 p3 + q0_73 shape p0 p1 p2 p3) * q0_79 shape p0 p1 p2 p3 + q0_77 shape p0 p1 p2 p3) * q0_83 shape p0 p1 p2 p3 + q0_81 shape p0 p1 p2 p3 := rfl
          rw [Int64.zero_mul, Int64.zero_add] at hn
          refine own_res (M := 32768 * 32768 * 32768) ?_ ?_
          · rw [hn]
            unfold q0_85
            simp only [Int64.zero_mul, Int64.zero_add, Int64.add_mul]
          · rw [hn]
            unfold q0_86
            rw [Int64.one_mul]
            exact own_st _ (own_st _ (own_b1 b0) (by decide) b1) (by decide) b2
        · rw [if_neg k3]
          have b0 := own_val p0
          have b1 := own_val p1
          have b2 := own_val p2
          have b3 := own_val p3
          have hn : q0_101 shape p0 p1 p2 p3 = (((0 * (q0_1 shape p0 p1 p2 p3).toInt64 + (q0_9 shape p0 p1 p2 p3).toInt64) * (q0_3 shape p0 p1 p2 p3).toInt64 + (q0_11 shape p0 p1 p2 p3).toInt64) * (q0_5 shape p0 p1 p2 p3).toInt64 + (q0_13 shape p0 p1 p2 p3).toInt64) * (q0_7 shape p0 p1 p2 p3).toInt64 + (q0_15 shape p0 p1 p2 p3).toInt64 := rfl
          rw [Int64.zero_mul, Int64.zero_add] at hn
          refine own_res (M := 32768 * 32768 * 32768 * 32768) ?_ ?_
          · rw [hn]
            unfold q0_99
            simp only [Int64.add_mul]
          · rw [hn]
            exact own_st _ (own_st _ (own_st _ (own_b1 b0) (by decide) b1) (by decide) b2) (by decide) b3

set_option maxRecDepth 65536 in
set_option maxHeartbeats 40000000 in
theorem comes_1 {Post : Tables → Env → Array Value → State → Outcome → State → Prop} (hpost : ∀ tb e args s v u, (limb_1_1.after args s (.returned v) u = true ∧ limb_1_2.after args s (.returned v) u = true ∧ True) → FrameEnd s (.returned v) u (Jvm.fieldLocs frame_1_writes args s ++ Jvm.arrayLocs frame_1_arrays args s ++ Jvm.staticLocs frame_1_statics s) 24 128 → Post tb e args s (.returned v) u) :
    ArmFor flags0 classFile x code maxLocals ret World_1 tables_1 room_1 Calls_1 rest_1 Pre_1 Post := by
  intro l hfl _ _ p e ha hc hk s m args below hf hA hF happ hP
  obtain ⟨hcalls, hrest, hpre⟩ := hP
  obtain ⟨-, -, -, hnamed, -, -, -, hat⟩ := (Spec.applies_iff hf).mp happ
  obtain ⟨hg, hn⟩ := and_e (Cond.before_iff.mp (show (Jvm.Cond.and given_1 narrow_1).before args s = true from hpre))
  obtain ⟨g0, hg⟩ := and_e hg
  obtain ⟨g1, hg⟩ := and_e hg
  obtain ⟨g2, hg⟩ := and_e hg
  obtain ⟨g3, hg⟩ := and_e hg
  obtain ⟨g4, hg⟩ := and_e hg
  obtain ⟨w0, w1, w2, w3, w4, rfl⟩ : ∃ w0 w1 w2 w3 w4 : Value, args = #[w0, w1, w2, w3, w4] := by
    have hs : args.size = 5 := by simpa [Cond.value, given_1] using g0
    obtain ⟨L⟩ := args
    match L, hs with
    | [w0, w1, w2, w3, w4], _ => exact ⟨w0, w1, w2, w3, w4, rfl⟩
  have hw := fun d (hd : d ∈ tables_1) => atoms_spec (ws := Jvm.Cond.code x code maxLocals ret :: tables_1) hat d (List.mem_cons_of_mem _ hd)
  obtain ⟨i0, e0⟩ := is_v g1
  obtain rfl : w0 = (.int i0) := Option.some.inj e0
  obtain ⟨i1, e1⟩ := isL_v g2
  obtain rfl : w1 = (.long i1) := Option.some.inj e1
  obtain ⟨i2, e2⟩ := isL_v g3
  obtain rfl : w2 = (.long i2) := Option.some.inj e2
  obtain ⟨i3, e3⟩ := isL_v g4
  obtain rfl : w3 = (.long i3) := Option.some.inj e3
  obtain ⟨i4, e4⟩ := isL_v hg
  obtain rfl : w4 = (.long i4) := Option.some.inj e4
  obtain ⟨n, o, h1, h2, h3, v, L, rfl, ⟨rfl, N⟩, hq⟩ := rm0 l s _ hw tables_1 i0 i1 i2 i3 i4 s.heap s.heap.size (Nat.le_refl _) p e ha hc hk s m _ below hf ((Spec.applies_iff_loose hf).mp happ).1 ⟨rfl, State.Warmed39.refl s, rfl⟩ trivial
  rw [law_true] at h3 hq
  refine ⟨n, _, h1, h2, h3, hpost _ _ _ _ _ _ ⟨Cond.after_iff.mpr rfl, Cond.after_iff.mpr (eq_i res_at (Term.int_eval (1)) rfl), trivial⟩ ⟨hq.1, hq.2.1, (hq.2.2.sift fun y hy => Or.inr (N y hy)).mono (by decide) (by decide)⟩⟩
theorem main_1_1 : Claimed_1_1 := comes_1 fun _ _ _ _ _ _ h hF => ⟨h.1, hF⟩
theorem main_1_2 : Claimed_1_2 := comes_1 fun _ _ _ _ _ _ h hF => ⟨h.2.1, hF⟩
end Jvm.Pilot.@@N@@
namespace Jvm.Pilot.@@N@@
open Jvm Jvm.ClassFile Sem Op Lib Jvm.Free Jvm.Stand Jvm.Pilot.@@N@@.Jvm.D
/-! MADE BY PROGRAM (witnessworld.py) out of the Statement's table words and the real class files: 11 classes; the members and pool entries that the words name. The judged class is class 1, her method 3. -/
namespace start1
open Jvm.ClassFile
def u (s : String) : CpInfo := .utf8 (stringToUtf16 s)
/-- a pool by its gaps: so many unusable entries, then the entry; so many at the end -/
def gap : Nat → List CpInfo → List CpInfo
  | 0, r => r
  | n + 1, r => .unusable :: gap n r
def poolList (es : List (Nat × CpInfo)) (last : Nat) : List CpInfo := es.foldr (fun e r => gap e.1 (e.2 :: r)) (gap last [])
def pool (es : List (Nat × CpInfo)) (last : Nat) : Array CpInfo := ⟨poolList es last⟩
def fileOf (pool : Array CpInfo) (this : Nat) (attrs : Array Attribute := #[]) (ms : Array MethodInfo := #[]) (fl : Nat := 33) (sup : Nat := 0) (ifs : Array Nat := #[]) (fds : Array FieldInfo := #[]) : ClassFile where
  minorVersion := 0
  majorVersion := 65
  constantPool := pool
  accessFlags := fl
  thisClass := this
  superClass := sup
  interfaces := ifs
  fields := fds
  methods := ms
  attributes := attrs
def plain (name : String) (sup : Option ClassId) : Class where
  name := name
  kind := .ordinary
  loader := none
  accessFlags := 33
  super := sup
  interfaces := #[]
  cf := none
  fields := #[]
  methods := #[]
  instanceTypes := #[]
  staticTypes := #[]
  resolved := #[]
  callSites := []
  init := .initialized
  statics := none
  mirror := none

def pool0 : Array CpInfo := pool [(5, u "<init>"), (0, u "()V"), (1, .class_ 10), (1, u "java/lang/Object")] 113

def k0m0 : Method := { name := "<init>", desc := "()V", sig := { parameters := [], returnType := none }, accessFlags := 1, code := none }
/-- java/lang/Object -/
def k0 : Class := { plain "java/lang/Object" none with
  accessFlags := 33
  interfaces := #[]
  cf := some (fileOf pool0 8 #[] #[{ accessFlags := 1, nameIndex := 5, descriptorIndex := 6, attributes := #[] }] 33 0 #[] #[])
  fields := #[]
  methods := #[k0m0]
  instanceTypes := #[]
  staticTypes := #[]
  resolved := Array.replicate 124 none
  statics := none }

def pool1 : Array CpInfo := pool [(2, .class_ 4), (1, u "java/lang/Object"), (0, u "<init>"), (0, u "()V"), (0, .long 32767), (1, .long 2147483647), (1, .methodref 12 13), (0, .class_ 14), (0, .nameAndType 15 16), (0, u "com/example/crosshatch/crosshatch/design/ParameterSetsNumberPinLaw"), (0, u "count"), (0, u "(J)I"), (0, .methodref 12 18), (0, .nameAndType 19 20), (0, u "value"), (0, u "(JI)I"), (0, .integer 65535), (0, .methodref 23 24), (0, .class_ 25), (0, .nameAndType 26 27), (0, u "com/example/crosshatch/crosshatch/design/ParameterSets"), (0, u "number"), (0, u "([I[I[I)J"), (2, u "law"), (0, u "(IJJJJ)Z")] 7

def k1m0 : Method := { name := "<init>", desc := "()V", sig := { parameters := [], returnType := none }, accessFlags := 2, code := none }
def k1c1 : Code := { maxStack := 4, maxLocals := 2, code := method_2_code, exceptionTable := #[], attributes := #[] }
def k1m1 : Method := { name := "count", desc := "(J)I", sig := { parameters := [.long], returnType := some .int }, accessFlags := 10, code := some k1c1 }
def k1c2 : Code := { maxStack := 4, maxLocals := 3, code := method_3_code, exceptionTable := #[], attributes := #[] }
def k1m2 : Method := { name := "value", desc := "(JI)I", sig := { parameters := [.long, .int], returnType := some .int }, accessFlags := 10, code := some k1c2 }
def k1c3 : Code := { maxStack := 6, maxLocals := 22, code := code, exceptionTable := #[], attributes := #[] }
def k1m3 : Method := { name := "law", desc := "(IJJJJ)Z", sig := { parameters := [.int, .long, .long, .long, .long], returnType := some .boolean }, accessFlags := 9, code := some k1c3 }
/-- com/example/crosshatch/crosshatch/design/ParameterSetsNumberPinLaw -/
def k1 : Class := { plain "com/example/crosshatch/crosshatch/design/ParameterSetsNumberPinLaw" (some 0) with
  accessFlags := 49
  interfaces := #[]
  cf := some (fileOf pool1 12 #[] #[{ accessFlags := 2, nameIndex := 5, descriptorIndex := 6, attributes := #[] }, { accessFlags := 10, nameIndex := 15, descriptorIndex := 16, attributes := #[] }, { accessFlags := 10, nameIndex := 19, descriptorIndex := 20, attributes := #[] }, { accessFlags := 9, nameIndex := 30, descriptorIndex := 31, attributes := #[] }] 49 2 #[] #[])
  fields := #[]
  methods := #[k1m0, k1m1, k1m2, k1m3]
  instanceTypes := #[]
  staticTypes := #[]
  resolved := Array.replicate 39 none
  statics := none }

def pool2 : Array CpInfo := pool [(2, .class_ 4), (1, u "java/lang/Object"), (0, u "<init>"), (0, u "()V"), (24, .class_ 33), (1, u "com/example/crosshatch/crosshatch/design/ParameterSets"), (13, u "number"), (0, u "([I[I[I)J")] 19

def k2m0 : Method := { name := "<init>", desc := "()V", sig := { parameters := [], returnType := none }, accessFlags := 2, code := none }
def k2c1 : Code := { maxStack := 4, maxLocals := 9, code := prog_6_method_6_code, exceptionTable := #[], attributes := #[] }
def k2m1 : Method := { name := "number", desc := "([I[I[I)J", sig := { parameters := [(.array .int), (.array .int), (.array .int)], returnType := some .long }, accessFlags := 9, code := some k2c1 }
/-- com/example/crosshatch/crosshatch/design/ParameterSets -/
def k2 : Class := { plain "com/example/crosshatch/crosshatch/design/ParameterSets" (some 0) with
  accessFlags := 33
  interfaces := #[]
  cf := some (fileOf pool2 31 #[] #[{ accessFlags := 2, nameIndex := 5, descriptorIndex := 6, attributes := #[] }, { accessFlags := 9, nameIndex := 47, descriptorIndex := 48, attributes := #[] }] 33 2 #[] #[])
  fields := #[]
  methods := #[k2m0, k2m1]
  instanceTypes := #[]
  staticTypes := #[]
  resolved := Array.replicate 68 none
  statics := none }

def pool3 : Array CpInfo := pool [(1, u "java/lang/Cloneable"), (0, .class_ 1), (0, u "java/lang/Object"), (0, .class_ 3)] 3

/-- java/lang/Cloneable -/
def k3 : Class := { plain "java/lang/Cloneable" (some 0) with
  accessFlags := 1537
  interfaces := #[]
  cf := some (fileOf pool3 2 #[] #[] 1537 4 #[] #[])
  fields := #[]
  methods := #[]
  instanceTypes := #[]
  staticTypes := #[]
  resolved := Array.replicate 8 none
  statics := none }

def pool4 : Array CpInfo := pool [(1, u "java/io/Serializable"), (0, .class_ 1), (0, u "java/lang/Object"), (0, .class_ 3)] 3

/-- java/io/Serializable -/
def k4 : Class := { plain "java/io/Serializable" (some 0) with
  accessFlags := 1537
  interfaces := #[]
  cf := some (fileOf pool4 2 #[] #[] 1537 4 #[] #[])
  fields := #[]
  methods := #[]
  instanceTypes := #[]
  staticTypes := #[]
  resolved := Array.replicate 8 none
  statics := none }

/-- the primitive byte -/
def k5 : Class := { plain "byte" none with kind := .primitive 'B', accessFlags := 0x411 }
/-- [B -/
def k6 : Class := { plain "[B" (some 0) with kind := .array 5 .byte, interfaces := #[3, 4], accessFlags := 1041 }

/-- the primitive int -/
def k7 : Class := { plain "int" none with kind := .primitive 'I', accessFlags := 0x411 }
/-- [I -/
def k8 : Class := { plain "[I" (some 0) with kind := .array 7 .int, interfaces := #[3, 4], accessFlags := 1041 }

/-- the primitive long -/
def k9 : Class := { plain "long" none with kind := .primitive 'J', accessFlags := 0x411 }
/-- [J -/
def k10 : Class := { plain "[J" (some 0) with kind := .array 9 .long, interfaces := #[3, 4], accessFlags := 1041 }

def heap : Heap := #[]
def classes : Array Class := #[k0, k1, k2, k3, k4, k5, k6, k7, k8, k9, k10]
def interned : List (Array UInt16 × Addr) := []
def slotsUsed : Nat := 0
def theMethod : MethodId := ⟨1, 3⟩
def args0 : Array Value := #[.int 1, .long 2, .long 3, .long 4, .long 5]
def aboutOver (below : List Frame) : State where
  vm := { classes := classes, interned := interned.toArray }
  heap := heap
  slotsUsed := slotsUsed
  threads := #[{ frames := .invoking theMethod args0 :: below }]
def below0 : List Frame := [.native { method := ⟨0, 0⟩, args := #[] }]
def about1 : State := aboutOver below0
def p0 : Program := .bare "" "" ""
def e0 : Env := launch0.env 0 0 0
theorem w_frames : about1.frames = Frame.invoking theMethod args0 :: below0 := rfl
set_option maxRecDepth 65536 in
theorem w_args : argsFit about1.vm theMethod args0 = true := by decide +kernel
set_option maxRecDepth 65536 in
theorem w_heap : heapFits about1 = true := by decide +kernel
set_option maxRecDepth 65536 in
theorem w_runnable : about1.curStatus? = some .runnable := by decide +kernel
set_option maxRecDepth 65536 in
theorem w_alone : about1.alone = true := by decide +kernel
set_option maxRecDepth 65536 in
theorem w_named : about1.methodNamed? x = some theMethod := by decide +kernel
set_option maxRecDepth 65536 in
theorem w_hears : about1.hears theMethod below0 = true := by decide +kernel
set_option maxRecDepth 65536 in
theorem w_ripe : about1.ripe theMethod args0 below0 = true := by decide +kernel
theorem w_running : about1.status = .running := rfl
set_option maxRecDepth 65536 in
theorem w_room : about1.hasRoom e0.platform room_1 = true :=
  launch0.hasRoom_least _ room_1 (by decide +kernel) (by decide +kernel) (by decide +kernel) (by decide +kernel) (by decide +kernel) (by decide +kernel)
theorem allAtoms_all (ts : List Jvm.Cond) (a : Array Jvm.Value) (st : Jvm.State) : (allAtoms ts).before a st = ts.all (fun c => c.before a st) := by
  induction ts with
  | nil => rfl
  | cons c t ih =>
    show (Jvm.Cond.and c (allAtoms t)).before a st = _
    rw [Jvm.Cond.before_and, ih, List.all_cons]
def words1 : List Jvm.Cond := Jvm.Cond.code x code maxLocals ret :: tables_1
/-- a 'code' word, met by the world's own term for the bytes: nothing is compared byte by byte -/
theorem code_word {y : MethodName} {bytes : ByteArray} {mx : Nat} {rt : Option FieldType} {a : Array Value} {s : State} {m : MethodId} {meth : Method} {c : Code} (h1 : s.methodNamed? y = some m) (h2 : s.vm.method? m = some meth) (h3 : meth.code = some c) (h4 : c.code = bytes)
    (h5 : (c.maxLocals == mx && c.exceptionTable.isEmpty && decide (c.maxStack ≤ mostOperands) && decide (meth.sig.returnType = rt) && !meth.locks && decide (parseMethodDescriptor y.desc = some meth.sig)) = true) : (Jvm.Cond.code y bytes mx rt).before a s = true := by
  simp only [Bool.and_eq_true, beq_iff_eq, Bool.not_eq_true', decide_eq_true_eq] at h5
  obtain ⟨⟨⟨⟨⟨g1, g2⟩, g3⟩, g4⟩, g5⟩, g6⟩ := h5
  simp [Cond.before, Cond.holds, Cond.value, h1, h2, h3, h4, g1, g2, g3, g4, g5, g6]
def isCode : Jvm.Cond → Bool
  | .code _ _ _ _ => true
  | _ => false
theorem all_split {L : List Jvm.Cond} {P : Jvm.Cond → Bool} (h1 : L.all (fun c => isCode c || P c) = true) (h2 : ∀ c ∈ L.filter isCode, P c = true) : L.all P = true := by
  refine List.all_eq_true.mpr fun c hc => ?_
  have h := List.all_eq_true.mp h1 c hc
  rcases Bool.eq_false_or_eq_true (isCode c) with hi | hi
  · exact h2 c (List.mem_filter.mpr ⟨hc, hi⟩)
  · simpa [hi] using h
set_option maxRecDepth 65536 in
theorem w_c0 : (Jvm.Cond.code x code maxLocals ret).before args0 about1 = true := code_word (m := ⟨1, 3⟩) (meth := k1m3) (c := k1c3) (by decide +kernel) rfl rfl rfl (by decide +kernel)
set_option maxRecDepth 65536 in
theorem w_c1 : (Jvm.Cond.code ({ cls := "com/example/crosshatch/crosshatch/design/ParameterSetsNumberPinLaw", name := "count", desc := "(J)I" } : Jvm.MethodName) method_2_code (2 : Nat) (Option.some Jvm.ClassFile.FieldType.int)).before args0 about1 = true := code_word (m := ⟨1, 1⟩) (meth := k1m1) (c := k1c1) (by decide +kernel) rfl rfl rfl (by decide +kernel)
set_option maxRecDepth 65536 in
theorem w_c2 : (Jvm.Cond.code ({ cls := "com/example/crosshatch/crosshatch/design/ParameterSetsNumberPinLaw", name := "value", desc := "(JI)I" } : Jvm.MethodName) method_3_code (3 : Nat) (Option.some Jvm.ClassFile.FieldType.int)).before args0 about1 = true := code_word (m := ⟨1, 2⟩) (meth := k1m2) (c := k1c2) (by decide +kernel) rfl rfl rfl (by decide +kernel)
set_option maxRecDepth 65536 in
theorem w_c3 : (Jvm.Cond.code ({ cls := "com/example/crosshatch/crosshatch/design/ParameterSets", name := "number", desc := "([I[I[I)J" } : Jvm.MethodName) prog_6_method_6_code (9 : Nat) (Option.some Jvm.ClassFile.FieldType.long)).before args0 about1 = true := code_word (m := ⟨2, 1⟩) (meth := k2m1) (c := k2c1) (by decide +kernel) rfl rfl rfl (by decide +kernel)
def codes1 : List Jvm.Cond := [Jvm.Cond.code x code maxLocals ret, Jvm.Cond.code ({ cls := "com/example/crosshatch/crosshatch/design/ParameterSetsNumberPinLaw", name := "count", desc := "(J)I" } : Jvm.MethodName) method_2_code (2 : Nat) (Option.some Jvm.ClassFile.FieldType.int), Jvm.Cond.code ({ cls := "com/example/crosshatch/crosshatch/design/ParameterSetsNumberPinLaw", name := "value", desc := "(JI)I" } : Jvm.MethodName) method_3_code (3 : Nat) (Option.some Jvm.ClassFile.FieldType.int), Jvm.Cond.code ({ cls := "com/example/crosshatch/crosshatch/design/ParameterSets", name := "number", desc := "([I[I[I)J" } : Jvm.MethodName) prog_6_method_6_code (9 : Nat) (Option.some Jvm.ClassFile.FieldType.long)]
set_option maxRecDepth 65536 in
theorem codes_eq : words1.filter isCode = codes1 := rfl
theorem w_codes : ∀ c ∈ words1.filter isCode, c.before args0 about1 = true := by
  rw [codes_eq]
  intro c hc
  simp only [codes1, List.mem_cons, List.not_mem_nil, or_false] at hc
  rcases hc with rfl | rfl | rfl | rfl
  · exact w_c0
  · exact w_c1
  · exact w_c2
  · exact w_c3
set_option maxRecDepth 65536 in
theorem w_t1 : words1.all (fun c => isCode c || c.before args0 about1) = true := by decide +kernel
theorem w_tables : (allAtoms (Jvm.Cond.code x code maxLocals ret :: tables_1)).before args0 about1 = true := by
  rw [allAtoms_all]
  show words1.all (fun c => c.before args0 about1) = true
  refine all_split ?_ w_codes
  rw [w_t1]
set_option maxRecDepth 65536 in
theorem w_case : (Jvm.Cond.and given_1 narrow_1).before args0 about1 = true := by decide +kernel
theorem w_applies : (headSpec (Jvm.Cond.code x code maxLocals ret :: tables_1) room_1).applies x e0.platform about1 = true :=
  (Spec.applies_iff w_frames).mpr ⟨w_running, w_runnable, w_alone, w_named, w_hears, w_ripe, w_room, w_tables⟩
theorem atStart : AtStart classFile x code maxLocals ret World_1 tables_1 room_1 Calls_1 rest_1 Pre_1 launch0 p0 e0 about1 theMethod args0 below0 :=
  ⟨lists_1, trivial, launch0.admits_env _ _ _, launch0.least_env, fairChoices_fair.cas, fairChoices_fair.clock, w_frames, w_args, w_heap, w_applies, trivial, trivial, w_case⟩
end start1
theorem witness_1 : WitnessClaimed_1 := ⟨start1.p0, start1.e0, start1.about1, start1.theMethod, start1.args0, start1.below0, start1.atStart⟩
end Jvm.Pilot.@@N@@
