import JvmDerived
import JvmDerived.Pilot.@@N@@Statement
import JvmDerived.Pilot.@@N@@Code
set_option linter.unusedVariables false
set_option linter.unusedSimpArgs false
namespace Jvm.Pilot.@@N@@
open Jvm Jvm.ClassFile Sem Op Lib Jvm.Free Jvm.Stand Jvm.LawKit Jvm.RoadKit Bundle Jvm.Pilot.@@N@@.Jvm.D
/-! 1. the walk's own words -/
def OG (tb : Tables) (e : Env) (below : List Frame) (P : Outcome → State → Prop) (A : State) : Prop :=
  ∃ s₂ o, Steps tb e below A s₂ ∧ s₂.status = .running ∧ Ended s₂ below o ∧ P o s₂
theorem OG.of {tb : Tables} {e : Env} {below : List Frame} {P : Outcome → State → Prop} {A B : State} (h : OG tb e below P B) (k : ∀ t, Steps tb e below B t → Steps tb e below A t) : OG tb e below P A := by
  obtain ⟨t, o, st, r⟩ := h
  exact ⟨t, o, k t st, r⟩
def Bx (own : String) (bs : ByteArray) (ml : Nat) (Z : State) (p : Program) (l : Launch) (e : Env) (R : Room) (s : State) (m : MethodId) (args : Array Value) (below : List Frame) (meth : Method) (c : Code) (T : State) (h : Heap) (locs : List Loc) (cells slots : Nat) : Prop :=
  Stand p l e R s m args below meth c T locs cells slots ∧ p.tables.exec = Jvm.exec ∧ c.code = bs ∧ c.maxLocals = ml ∧ s.vm.findClass own = some m.cls ∧ Z.Warmed39 s.vm ∧ T.heap = h
section Walk
variable {own : String} {bs : ByteArray} {ml : Nat} {Z : State} {p : Program} {l : Launch} {e : Env} {R : Room} {s : State} {m : MethodId} {args : Array Value} {below : List Frame} {meth : Method} {c : Code} {T : State} {h : Heap} {locs : List Loc} {cells slots : Nat} {P : Outcome → State → Prop} {Ls : Array Slot} {rest : List Value} {a0 : Array Value}
theorem o_iadd (B : Bx own bs ml Z p l e R s m args below meth c T h locs cells slots) (pc pc' : Nat) {x y : Int32} (hd : decode bs pc = .ok (.iadd, 1)) (hp : pc + 1 = pc') 
    (hr : OG p.tables e below P (T.setTop (mkF m pc' Ls (.int (x + y) :: rest)))) : OG p.tables e below P (T.setTop (mkF m pc Ls (.int y :: .int x :: rest))) := by
  subst hp
  obtain ⟨X, hx, hby, hml, hown, hZ, eT⟩ := B
  exact hr.of fun t k => XS.iadd X.here hx rfl (hb hby hd) rfl k
theorem o_isub (B : Bx own bs ml Z p l e R s m args below meth c T h locs cells slots) (pc pc' : Nat) {x y : Int32} (hd : decode bs pc = .ok (.isub, 1)) (hp : pc + 1 = pc') 
    (hr : OG p.tables e below P (T.setTop (mkF m pc' Ls (.int (x - y) :: rest)))) : OG p.tables e below P (T.setTop (mkF m pc Ls (.int y :: .int x :: rest))) := by
  subst hp
  obtain ⟨X, hx, hby, hml, hown, hZ, eT⟩ := B
  exact hr.of fun t k => XS.isub X.here hx rfl (hb hby hd) rfl k
theorem o_imul (B : Bx own bs ml Z p l e R s m args below meth c T h locs cells slots) (pc pc' : Nat) {x y : Int32} (hd : decode bs pc = .ok (.imul, 1)) (hp : pc + 1 = pc') 
    (hr : OG p.tables e below P (T.setTop (mkF m pc' Ls (.int (x * y) :: rest)))) : OG p.tables e below P (T.setTop (mkF m pc Ls (.int y :: .int x :: rest))) := by
  subst hp
  obtain ⟨X, hx, hby, hml, hown, hZ, eT⟩ := B
  exact hr.of fun t k => XS.imul X.here hx rfl (hb hby hd) rfl k
theorem o_iand (B : Bx own bs ml Z p l e R s m args below meth c T h locs cells slots) (pc pc' : Nat) {x y : Int32} (hd : decode bs pc = .ok (.iand, 1)) (hp : pc + 1 = pc') 
    (hr : OG p.tables e below P (T.setTop (mkF m pc' Ls (.int (x &&& y) :: rest)))) : OG p.tables e below P (T.setTop (mkF m pc Ls (.int y :: .int x :: rest))) := by
  subst hp
  obtain ⟨X, hx, hby, hml, hown, hZ, eT⟩ := B
  exact hr.of fun t k => XS.iand X.here hx rfl (hb hby hd) rfl k
theorem o_ior (B : Bx own bs ml Z p l e R s m args below meth c T h locs cells slots) (pc pc' : Nat) {x y : Int32} (hd : decode bs pc = .ok (.ior, 1)) (hp : pc + 1 = pc') 
    (hr : OG p.tables e below P (T.setTop (mkF m pc' Ls (.int (x ||| y) :: rest)))) : OG p.tables e below P (T.setTop (mkF m pc Ls (.int y :: .int x :: rest))) := by
  subst hp
  obtain ⟨X, hx, hby, hml, hown, hZ, eT⟩ := B
  exact hr.of fun t k => XT.ior X.here hx rfl (hb hby hd) rfl k
theorem o_ixor (B : Bx own bs ml Z p l e R s m args below meth c T h locs cells slots) (pc pc' : Nat) {x y : Int32} (hd : decode bs pc = .ok (.ixor, 1)) (hp : pc + 1 = pc') 
    (hr : OG p.tables e below P (T.setTop (mkF m pc' Ls (.int (x ^^^ y) :: rest)))) : OG p.tables e below P (T.setTop (mkF m pc Ls (.int y :: .int x :: rest))) := by
  subst hp
  obtain ⟨X, hx, hby, hml, hown, hZ, eT⟩ := B
  exact hr.of fun t k => XT.ixor X.here hx rfl (hb hby hd) rfl k
theorem o_ishl (B : Bx own bs ml Z p l e R s m args below meth c T h locs cells slots) (pc pc' : Nat) {x y : Int32} (hd : decode bs pc = .ok (.ishl, 1)) (hp : pc + 1 = pc') 
    (hr : OG p.tables e below P (T.setTop (mkF m pc' Ls (.int (x <<< (y &&& 31)) :: rest)))) : OG p.tables e below P (T.setTop (mkF m pc Ls (.int y :: .int x :: rest))) := by
  subst hp
  obtain ⟨X, hx, hby, hml, hown, hZ, eT⟩ := B
  exact hr.of fun t k => XT.ishl X.here hx rfl (hb hby hd) rfl k
theorem o_ishr (B : Bx own bs ml Z p l e R s m args below meth c T h locs cells slots) (pc pc' : Nat) {x y : Int32} (hd : decode bs pc = .ok (.ishr, 1)) (hp : pc + 1 = pc') 
    (hr : OG p.tables e below P (T.setTop (mkF m pc' Ls (.int (x >>> (y &&& 31)) :: rest)))) : OG p.tables e below P (T.setTop (mkF m pc Ls (.int y :: .int x :: rest))) := by
  subst hp
  obtain ⟨X, hx, hby, hml, hown, hZ, eT⟩ := B
  exact hr.of fun t k => XT.ishr X.here hx rfl (hb hby hd) rfl k
theorem o_iushr (B : Bx own bs ml Z p l e R s m args below meth c T h locs cells slots) (pc pc' : Nat) {x y : Int32} (hd : decode bs pc = .ok (.iushr, 1)) (hp : pc + 1 = pc') 
    (hr : OG p.tables e below P (T.setTop (mkF m pc' Ls (.int (XT.ushr x y) :: rest)))) : OG p.tables e below P (T.setTop (mkF m pc Ls (.int y :: .int x :: rest))) := by
  subst hp
  obtain ⟨X, hx, hby, hml, hown, hZ, eT⟩ := B
  exact hr.of fun t k => XT.iushr X.here hx rfl (hb hby hd) rfl k
theorem o_idiv (B : Bx own bs ml Z p l e R s m args below meth c T h locs cells slots) (pc pc' : Nat) {x y : Int32} (hd : decode bs pc = .ok (.idiv, 1)) (hp : pc + 1 = pc') (hy : y ≠ 0)
    (hr : OG p.tables e below P (T.setTop (mkF m pc' Ls (.int (x / y) :: rest)))) : OG p.tables e below P (T.setTop (mkF m pc Ls (.int y :: .int x :: rest))) := by
  subst hp
  obtain ⟨X, hx, hby, hml, hown, hZ, eT⟩ := B
  exact hr.of fun t k => XS.idiv X.here hx rfl (hb hby hd) rfl hy k
theorem o_irem (B : Bx own bs ml Z p l e R s m args below meth c T h locs cells slots) (pc pc' : Nat) {x y : Int32} (hd : decode bs pc = .ok (.irem, 1)) (hp : pc + 1 = pc') (hy : y ≠ 0)
    (hr : OG p.tables e below P (T.setTop (mkF m pc' Ls (.int (x % y) :: rest)))) : OG p.tables e below P (T.setTop (mkF m pc Ls (.int y :: .int x :: rest))) := by
  subst hp
  obtain ⟨X, hx, hby, hml, hown, hZ, eT⟩ := B
  exact hr.of fun t k => XS.irem X.here hx rfl (hb hby hd) rfl hy (by rw [irem_eq_mod]; exact k)
theorem o_ladd (B : Bx own bs ml Z p l e R s m args below meth c T h locs cells slots) (pc pc' : Nat) {x y : Int64} (hd : decode bs pc = .ok (.ladd, 1)) (hp : pc + 1 = pc') 
    (hr : OG p.tables e below P (T.setTop (mkF m pc' Ls (.long (x + y) :: rest)))) : OG p.tables e below P (T.setTop (mkF m pc Ls (.long y :: .long x :: rest))) := by
  subst hp
  obtain ⟨X, hx, hby, hml, hown, hZ, eT⟩ := B
  exact hr.of fun t k => XT.ladd X.here hx rfl (hb hby hd) rfl k
theorem o_lsub (B : Bx own bs ml Z p l e R s m args below meth c T h locs cells slots) (pc pc' : Nat) {x y : Int64} (hd : decode bs pc = .ok (.lsub, 1)) (hp : pc + 1 = pc') 
    (hr : OG p.tables e below P (T.setTop (mkF m pc' Ls (.long (x - y) :: rest)))) : OG p.tables e below P (T.setTop (mkF m pc Ls (.long y :: .long x :: rest))) := by
  subst hp
  obtain ⟨X, hx, hby, hml, hown, hZ, eT⟩ := B
  exact hr.of fun t k => XT.lsub X.here hx rfl (hb hby hd) rfl k
theorem o_lmul (B : Bx own bs ml Z p l e R s m args below meth c T h locs cells slots) (pc pc' : Nat) {x y : Int64} (hd : decode bs pc = .ok (.lmul, 1)) (hp : pc + 1 = pc') 
    (hr : OG p.tables e below P (T.setTop (mkF m pc' Ls (.long (x * y) :: rest)))) : OG p.tables e below P (T.setTop (mkF m pc Ls (.long y :: .long x :: rest))) := by
  subst hp
  obtain ⟨X, hx, hby, hml, hown, hZ, eT⟩ := B
  exact hr.of fun t k => XT.lmul X.here hx rfl (hb hby hd) rfl k
theorem o_land (B : Bx own bs ml Z p l e R s m args below meth c T h locs cells slots) (pc pc' : Nat) {x y : Int64} (hd : decode bs pc = .ok (.land, 1)) (hp : pc + 1 = pc') 
    (hr : OG p.tables e below P (T.setTop (mkF m pc' Ls (.long (x &&& y) :: rest)))) : OG p.tables e below P (T.setTop (mkF m pc Ls (.long y :: .long x :: rest))) := by
  subst hp
  obtain ⟨X, hx, hby, hml, hown, hZ, eT⟩ := B
  exact hr.of fun t k => XT.land X.here hx rfl (hb hby hd) rfl k
theorem o_lor (B : Bx own bs ml Z p l e R s m args below meth c T h locs cells slots) (pc pc' : Nat) {x y : Int64} (hd : decode bs pc = .ok (.lor, 1)) (hp : pc + 1 = pc') 
    (hr : OG p.tables e below P (T.setTop (mkF m pc' Ls (.long (x ||| y) :: rest)))) : OG p.tables e below P (T.setTop (mkF m pc Ls (.long y :: .long x :: rest))) := by
  subst hp
  obtain ⟨X, hx, hby, hml, hown, hZ, eT⟩ := B
  exact hr.of fun t k => XT.lor X.here hx rfl (hb hby hd) rfl k
theorem o_lxor (B : Bx own bs ml Z p l e R s m args below meth c T h locs cells slots) (pc pc' : Nat) {x y : Int64} (hd : decode bs pc = .ok (.lxor, 1)) (hp : pc + 1 = pc') 
    (hr : OG p.tables e below P (T.setTop (mkF m pc' Ls (.long (x ^^^ y) :: rest)))) : OG p.tables e below P (T.setTop (mkF m pc Ls (.long y :: .long x :: rest))) := by
  subst hp
  obtain ⟨X, hx, hby, hml, hown, hZ, eT⟩ := B
  exact hr.of fun t k => XT.lxor X.here hx rfl (hb hby hd) rfl k
theorem o_ldiv (B : Bx own bs ml Z p l e R s m args below meth c T h locs cells slots) (pc pc' : Nat) {x y : Int64} (hd : decode bs pc = .ok (.ldiv, 1)) (hp : pc + 1 = pc') (hy : y ≠ 0)
    (hr : OG p.tables e below P (T.setTop (mkF m pc' Ls (.long (x / y) :: rest)))) : OG p.tables e below P (T.setTop (mkF m pc Ls (.long y :: .long x :: rest))) := by
  subst hp
  obtain ⟨X, hx, hby, hml, hown, hZ, eT⟩ := B
  exact hr.of fun t k => XT.ldiv X.here hx rfl (hb hby hd) rfl hy k
theorem o_lrem (B : Bx own bs ml Z p l e R s m args below meth c T h locs cells slots) (pc pc' : Nat) {x y : Int64} (hd : decode bs pc = .ok (.lrem, 1)) (hp : pc + 1 = pc') (hy : y ≠ 0)
    (hr : OG p.tables e below P (T.setTop (mkF m pc' Ls (.long (x % y) :: rest)))) : OG p.tables e below P (T.setTop (mkF m pc Ls (.long y :: .long x :: rest))) := by
  subst hp
  obtain ⟨X, hx, hby, hml, hown, hZ, eT⟩ := B
  exact hr.of fun t k => XT.lrem X.here hx rfl (hb hby hd) rfl hy (by rw [lrem_mod]; exact k)
theorem o_lshl (B : Bx own bs ml Z p l e R s m args below meth c T h locs cells slots) (pc pc' : Nat) {x : Int64} {y : Int32} (hd : decode bs pc = .ok (.lshl, 1)) (hp : pc + 1 = pc') 
    (hr : OG p.tables e below P (T.setTop (mkF m pc' Ls (.long (x <<< (y.toInt64 &&& 63)) :: rest)))) : OG p.tables e below P (T.setTop (mkF m pc Ls (.int y :: .long x :: rest))) := by
  subst hp
  obtain ⟨X, hx, hby, hml, hown, hZ, eT⟩ := B
  exact hr.of fun t k => XT.lshl X.here hx rfl (hb hby hd) rfl k
theorem o_lshr (B : Bx own bs ml Z p l e R s m args below meth c T h locs cells slots) (pc pc' : Nat) {x : Int64} {y : Int32} (hd : decode bs pc = .ok (.lshr, 1)) (hp : pc + 1 = pc') 
    (hr : OG p.tables e below P (T.setTop (mkF m pc' Ls (.long (x >>> (y.toInt64 &&& 63)) :: rest)))) : OG p.tables e below P (T.setTop (mkF m pc Ls (.int y :: .long x :: rest))) := by
  subst hp
  obtain ⟨X, hx, hby, hml, hown, hZ, eT⟩ := B
  exact hr.of fun t k => XT.lshr X.here hx rfl (hb hby hd) rfl k
theorem o_lushr (B : Bx own bs ml Z p l e R s m args below meth c T h locs cells slots) (pc pc' : Nat) {x : Int64} {y : Int32} (hd : decode bs pc = .ok (.lushr, 1)) (hp : pc + 1 = pc') 
    (hr : OG p.tables e below P (T.setTop (mkF m pc' Ls (.long (XT.ushrL x y) :: rest)))) : OG p.tables e below P (T.setTop (mkF m pc Ls (.int y :: .long x :: rest))) := by
  subst hp
  obtain ⟨X, hx, hby, hml, hown, hZ, eT⟩ := B
  exact hr.of fun t k => XT.lushr X.here hx rfl (hb hby hd) rfl k
theorem o_lcmp (B : Bx own bs ml Z p l e R s m args below meth c T h locs cells slots) (pc pc' : Nat) {x y : Int64} (hd : decode bs pc = .ok (.lcmp, 1)) (hp : pc + 1 = pc') 
    (hr : OG p.tables e below P (T.setTop (mkF m pc' Ls (.int (XT.cmpL x y) :: rest)))) : OG p.tables e below P (T.setTop (mkF m pc Ls (.long y :: .long x :: rest))) := by
  subst hp
  obtain ⟨X, hx, hby, hml, hown, hZ, eT⟩ := B
  exact hr.of fun t k => XT.lcmp X.here hx rfl (hb hby hd) rfl k
theorem o_ineg (B : Bx own bs ml Z p l e R s m args below meth c T h locs cells slots) (pc pc' : Nat) {x : Int32} (hd : decode bs pc = .ok (.ineg, 1)) (hp : pc + 1 = pc') 
    (hr : OG p.tables e below P (T.setTop (mkF m pc' Ls (.int (-x) :: rest)))) : OG p.tables e below P (T.setTop (mkF m pc Ls (.int x :: rest))) := by
  subst hp
  obtain ⟨X, hx, hby, hml, hown, hZ, eT⟩ := B
  exact hr.of fun t k => XS.ineg X.here hx rfl (hb hby hd) rfl k
theorem o_lneg (B : Bx own bs ml Z p l e R s m args below meth c T h locs cells slots) (pc pc' : Nat) {x : Int64} (hd : decode bs pc = .ok (.lneg, 1)) (hp : pc + 1 = pc') 
    (hr : OG p.tables e below P (T.setTop (mkF m pc' Ls (.long (-x) :: rest)))) : OG p.tables e below P (T.setTop (mkF m pc Ls (.long x :: rest))) := by
  subst hp
  obtain ⟨X, hx, hby, hml, hown, hZ, eT⟩ := B
  exact hr.of fun t k => XT.lneg X.here hx rfl (hb hby hd) rfl k
theorem o_i2l (B : Bx own bs ml Z p l e R s m args below meth c T h locs cells slots) (pc pc' : Nat) {x : Int32} (hd : decode bs pc = .ok (.i2l, 1)) (hp : pc + 1 = pc') 
    (hr : OG p.tables e below P (T.setTop (mkF m pc' Ls (.long (x.toInt64) :: rest)))) : OG p.tables e below P (T.setTop (mkF m pc Ls (.int x :: rest))) := by
  subst hp
  obtain ⟨X, hx, hby, hml, hown, hZ, eT⟩ := B
  exact hr.of fun t k => XT.i2l X.here hx rfl (hb hby hd) rfl k
theorem o_l2i (B : Bx own bs ml Z p l e R s m args below meth c T h locs cells slots) (pc pc' : Nat) {x : Int64} (hd : decode bs pc = .ok (.l2i, 1)) (hp : pc + 1 = pc') 
    (hr : OG p.tables e below P (T.setTop (mkF m pc' Ls (.int (x.toInt32) :: rest)))) : OG p.tables e below P (T.setTop (mkF m pc Ls (.long x :: rest))) := by
  subst hp
  obtain ⟨X, hx, hby, hml, hown, hZ, eT⟩ := B
  exact hr.of fun t k => XT.l2i X.here hx rfl (hb hby hd) rfl k
theorem o_i2b (B : Bx own bs ml Z p l e R s m args below meth c T h locs cells slots) (pc pc' : Nat) {x : Int32} (hd : decode bs pc = .ok (.i2b, 1)) (hp : pc + 1 = pc') 
    (hr : OG p.tables e below P (T.setTop (mkF m pc' Ls (.int (x.toInt8.toInt32) :: rest)))) : OG p.tables e below P (T.setTop (mkF m pc Ls (.int x :: rest))) := by
  subst hp
  obtain ⟨X, hx, hby, hml, hown, hZ, eT⟩ := B
  exact hr.of fun t k => XT.i2b X.here hx rfl (hb hby hd) rfl k
theorem o_i2c (B : Bx own bs ml Z p l e R s m args below meth c T h locs cells slots) (pc pc' : Nat) {x : Int32} (hd : decode bs pc = .ok (.i2c, 1)) (hp : pc + 1 = pc') 
    (hr : OG p.tables e below P (T.setTop (mkF m pc' Ls (.int (x.toUInt32.toUInt16.toUInt32.toInt32) :: rest)))) : OG p.tables e below P (T.setTop (mkF m pc Ls (.int x :: rest))) := by
  subst hp
  obtain ⟨X, hx, hby, hml, hown, hZ, eT⟩ := B
  exact hr.of fun t k => XT.i2c X.here hx rfl (hb hby hd) rfl k
theorem o_i2s (B : Bx own bs ml Z p l e R s m args below meth c T h locs cells slots) (pc pc' : Nat) {x : Int32} (hd : decode bs pc = .ok (.i2s, 1)) (hp : pc + 1 = pc') 
    (hr : OG p.tables e below P (T.setTop (mkF m pc' Ls (.int (x.toInt16.toInt32) :: rest)))) : OG p.tables e below P (T.setTop (mkF m pc Ls (.int x :: rest))) := by
  subst hp
  obtain ⟨X, hx, hby, hml, hown, hZ, eT⟩ := B
  exact hr.of fun t k => XT.i2s X.here hx rfl (hb hby hd) rfl k
theorem o_iconst (B : Bx own bs ml Z p l e R s m args below meth c T h locs cells slots) (pc pc' : Nat) {i : Int} (v : Int32) (hd : decode bs pc = .ok (.iconst i, 1)) (hp : pc + 1 = pc') (hv : Int32.ofInt i = v)
    (hr : OG p.tables e below P (T.setTop (mkF m pc' Ls (.int v :: rest)))) : OG p.tables e below P (T.setTop (mkF m pc Ls rest)) := by
  subst hp
  obtain ⟨X, hx, hby, hml, hown, hZ, eT⟩ := B
  exact hr.of fun t k => XT.iconstV X.here hx rfl v (hb hby hd) hv k
theorem o_bipush (B : Bx own bs ml Z p l e R s m args below meth c T h locs cells slots) (pc pc' : Nat) {i : Int} (v : Int32) (hd : decode bs pc = .ok (.bipush i, 2)) (hp : pc + 2 = pc') (hv : (Int8.ofInt i).toInt32 = v)
    (hr : OG p.tables e below P (T.setTop (mkF m pc' Ls (.int v :: rest)))) : OG p.tables e below P (T.setTop (mkF m pc Ls rest)) := by
  subst hp
  obtain ⟨X, hx, hby, hml, hown, hZ, eT⟩ := B
  exact hr.of fun t k => XT.bipushV X.here hx rfl v (hb hby hd) hv k
theorem o_sipush (B : Bx own bs ml Z p l e R s m args below meth c T h locs cells slots) (pc pc' : Nat) {i : Int} (v : Int32) (hd : decode bs pc = .ok (.sipush i, 3)) (hp : pc + 3 = pc') (hv : (Int16.ofInt i).toInt32 = v)
    (hr : OG p.tables e below P (T.setTop (mkF m pc' Ls (.int v :: rest)))) : OG p.tables e below P (T.setTop (mkF m pc Ls rest)) := by
  subst hp
  obtain ⟨X, hx, hby, hml, hown, hZ, eT⟩ := B
  exact hr.of fun t k => XT.sipushV X.here hx rfl v (hb hby hd) hv k
theorem o_lconst (B : Bx own bs ml Z p l e R s m args below meth c T h locs cells slots) (pc pc' : Nat) {i : Fin 2} (v : Int64) (hd : decode bs pc = .ok (.lconst i, 1)) (hp : pc + 1 = pc') (hv : Int64.ofNat i = v)
    (hr : OG p.tables e below P (T.setTop (mkF m pc' Ls (.long v :: rest)))) : OG p.tables e below P (T.setTop (mkF m pc Ls rest)) := by
  subst hp
  obtain ⟨X, hx, hby, hml, hown, hZ, eT⟩ := B
  exact hr.of fun t k => XT.lconstV X.here hx rfl v (hb hby hd) hv k
theorem o_aconst_null (B : Bx own bs ml Z p l e R s m args below meth c T h locs cells slots) (pc pc' : Nat)  (hd : decode bs pc = .ok (.aconst_null, 1)) (hp : pc + 1 = pc') 
    (hr : OG p.tables e below P (T.setTop (mkF m pc' Ls (.null :: rest)))) : OG p.tables e below P (T.setTop (mkF m pc Ls rest)) := by
  subst hp
  obtain ⟨X, hx, hby, hml, hown, hZ, eT⟩ := B
  exact hr.of fun t k => XS.aconstNull X.here hx rfl (hb hby hd) k
theorem o_iloadN (B : Bx own bs ml Z p l e R s m args below meth c T h locs cells slots) (pc pc' : Nat) {k : Fin 4} {v : Int32} (hd : decode bs pc = .ok (.iload_n k, 1)) (hp : pc + 1 = pc') (hl : Ls[k.val]? = some (.val (.int v)))
    (hr : OG p.tables e below P (T.setTop (mkF m pc' Ls (.int v :: rest)))) : OG p.tables e below P (T.setTop (mkF m pc Ls rest)) := by
  subst hp
  obtain ⟨X, hx, hby, hml, hown, hZ, eT⟩ := B
  exact hr.of fun t k => XS.iloadN X.here hx rfl (hb hby hd) hl k
theorem o_iload (B : Bx own bs ml Z p l e R s m args below meth c T h locs cells slots) (pc pc' : Nat) {k : Nat} {v : Int32} (hd : decode bs pc = .ok (.iload k, 2)) (hp : pc + 2 = pc') (hl : Ls[k]? = some (.val (.int v)))
    (hr : OG p.tables e below P (T.setTop (mkF m pc' Ls (.int v :: rest)))) : OG p.tables e below P (T.setTop (mkF m pc Ls rest)) := by
  subst hp
  obtain ⟨X, hx, hby, hml, hown, hZ, eT⟩ := B
  exact hr.of fun t k => XS.iload X.here hx rfl (hb hby hd) hl k
theorem o_lloadN (B : Bx own bs ml Z p l e R s m args below meth c T h locs cells slots) (pc pc' : Nat) {k : Fin 4} {v : Int64} (hd : decode bs pc = .ok (.lload_n k, 1)) (hp : pc + 1 = pc') (hl : Ls[k.val]? = some (.val (.long v)))
    (hr : OG p.tables e below P (T.setTop (mkF m pc' Ls (.long v :: rest)))) : OG p.tables e below P (T.setTop (mkF m pc Ls rest)) := by
  subst hp
  obtain ⟨X, hx, hby, hml, hown, hZ, eT⟩ := B
  exact hr.of fun t k => XT.lloadN X.here hx rfl (hb hby hd) hl k
theorem o_lload (B : Bx own bs ml Z p l e R s m args below meth c T h locs cells slots) (pc pc' : Nat) {k : Nat} {v : Int64} (hd : decode bs pc = .ok (.lload k, 2)) (hp : pc + 2 = pc') (hl : Ls[k]? = some (.val (.long v)))
    (hr : OG p.tables e below P (T.setTop (mkF m pc' Ls (.long v :: rest)))) : OG p.tables e below P (T.setTop (mkF m pc Ls rest)) := by
  subst hp
  obtain ⟨X, hx, hby, hml, hown, hZ, eT⟩ := B
  exact hr.of fun t k => XT.lload X.here hx rfl (hb hby hd) hl k
theorem o_aloadN (B : Bx own bs ml Z p l e R s m args below meth c T h locs cells slots) (pc pc' : Nat) {k : Fin 4} {v : Value} (hd : decode bs pc = .ok (.aload_n k, 1)) (hp : pc + 1 = pc') (hl : Ls[k.val]? = some (.val v)) (hv : v.isRef = true)
    (hr : OG p.tables e below P (T.setTop (mkF m pc' Ls (v :: rest)))) : OG p.tables e below P (T.setTop (mkF m pc Ls rest)) := by
  subst hp
  obtain ⟨X, hx, hby, hml, hown, hZ, eT⟩ := B
  exact hr.of fun t k => XS.aloadN X.here hx rfl (hb hby hd) hl hv k
theorem o_aload (B : Bx own bs ml Z p l e R s m args below meth c T h locs cells slots) (pc pc' : Nat) {k : Nat} {v : Value} (hd : decode bs pc = .ok (.aload k, 2)) (hp : pc + 2 = pc') (hl : Ls[k]? = some (.val v)) (hv : v.isRef = true)
    (hr : OG p.tables e below P (T.setTop (mkF m pc' Ls (v :: rest)))) : OG p.tables e below P (T.setTop (mkF m pc Ls rest)) := by
  subst hp
  obtain ⟨X, hx, hby, hml, hown, hZ, eT⟩ := B
  exact hr.of fun t k => XS.aload X.here hx rfl (hb hby hd) hl hv k
theorem o_istoreN (B : Bx own bs ml Z p l e R s m args below meth c T h locs cells slots) (pc pc' : Nat) {k : Fin 4} {x : Int32} {l' : Array Slot} (hd : decode bs pc = .ok (.istore_n k, 1)) (hp : pc + 1 = pc') (hl : storeLocals Ls k.val (.int x) = some l')
    (hr : OG p.tables e below P (T.setTop (mkF m pc' l' rest))) : OG p.tables e below P (T.setTop (mkF m pc Ls (.int x :: rest))) := by
  subst hp
  obtain ⟨X, hx, hby, hml, hown, hZ, eT⟩ := B
  exact hr.of fun t k => XS.istoreN X.here hx rfl (hb hby hd) rfl hl k
theorem o_istore (B : Bx own bs ml Z p l e R s m args below meth c T h locs cells slots) (pc pc' : Nat) {k : Nat} {x : Int32} {l' : Array Slot} (hd : decode bs pc = .ok (.istore k, 2)) (hp : pc + 2 = pc') (hl : storeLocals Ls k (.int x) = some l')
    (hr : OG p.tables e below P (T.setTop (mkF m pc' l' rest))) : OG p.tables e below P (T.setTop (mkF m pc Ls (.int x :: rest))) := by
  subst hp
  obtain ⟨X, hx, hby, hml, hown, hZ, eT⟩ := B
  exact hr.of fun t k => XS.istore X.here hx rfl (hb hby hd) rfl hl k
theorem o_lstoreN (B : Bx own bs ml Z p l e R s m args below meth c T h locs cells slots) (pc pc' : Nat) {k : Fin 4} {x : Int64} {l' : Array Slot} (hd : decode bs pc = .ok (.lstore_n k, 1)) (hp : pc + 1 = pc') (hl : storeLocals Ls k.val (.long x) = some l')
    (hr : OG p.tables e below P (T.setTop (mkF m pc' l' rest))) : OG p.tables e below P (T.setTop (mkF m pc Ls (.long x :: rest))) := by
  subst hp
  obtain ⟨X, hx, hby, hml, hown, hZ, eT⟩ := B
  exact hr.of fun t k => XT.lstoreN X.here hx rfl (hb hby hd) rfl hl k
theorem o_lstore (B : Bx own bs ml Z p l e R s m args below meth c T h locs cells slots) (pc pc' : Nat) {k : Nat} {x : Int64} {l' : Array Slot} (hd : decode bs pc = .ok (.lstore k, 2)) (hp : pc + 2 = pc') (hl : storeLocals Ls k (.long x) = some l')
    (hr : OG p.tables e below P (T.setTop (mkF m pc' l' rest))) : OG p.tables e below P (T.setTop (mkF m pc Ls (.long x :: rest))) := by
  subst hp
  obtain ⟨X, hx, hby, hml, hown, hZ, eT⟩ := B
  exact hr.of fun t k => XT.lstore X.here hx rfl (hb hby hd) rfl hl k
theorem o_astoreN (B : Bx own bs ml Z p l e R s m args below meth c T h locs cells slots) (pc pc' : Nat) {k : Fin 4} {x : Value} {l' : Array Slot} (hd : decode bs pc = .ok (.astore_n k, 1)) (hp : pc + 1 = pc') (hv : x.isRef = true) (hl : storeLocals Ls k.val x = some l')
    (hr : OG p.tables e below P (T.setTop (mkF m pc' l' rest))) : OG p.tables e below P (T.setTop (mkF m pc Ls (x :: rest))) := by
  subst hp
  obtain ⟨X, hx, hby, hml, hown, hZ, eT⟩ := B
  exact hr.of fun t k => XS.astoreN X.here hx rfl (hb hby hd) rfl hv hl k
theorem o_astore (B : Bx own bs ml Z p l e R s m args below meth c T h locs cells slots) (pc pc' : Nat) {k : Nat} {x : Value} {l' : Array Slot} (hd : decode bs pc = .ok (.astore k, 2)) (hp : pc + 2 = pc') (hv : x.isRef = true) (hl : storeLocals Ls k x = some l')
    (hr : OG p.tables e below P (T.setTop (mkF m pc' l' rest))) : OG p.tables e below P (T.setTop (mkF m pc Ls (x :: rest))) := by
  subst hp
  obtain ⟨X, hx, hby, hml, hown, hZ, eT⟩ := B
  exact hr.of fun t k => XS.astore X.here hx rfl (hb hby hd) rfl hv hl k
theorem o_iinc (B : Bx own bs ml Z p l e R s m args below meth c T h locs cells slots) (pc pc' : Nat) {k : Nat} {cst : Int} {x : Int32} {l' : Array Slot} (v : Int32) (hd : decode bs pc = .ok (.iinc k cst, 3)) (hp : pc + 3 = pc') (hv : Int32.ofInt cst = v) (hl : Ls[k]? = some (.val (.int x))) (hl' : storeLocals Ls k (.int (x + v)) = some l')
    (hr : OG p.tables e below P (T.setTop (mkF m pc' l' rest))) : OG p.tables e below P (T.setTop (mkF m pc Ls rest)) := by
  subst hp
  obtain ⟨X, hx, hby, hml, hown, hZ, eT⟩ := B
  exact hr.of fun t k => XT.iincV X.here hx rfl v (hb hby hd) hv hl hl' k
theorem o_goto (B : Bx own bs ml Z p l e R s m args below meth c T h locs cells slots) (pc pc' : Nat) {o : Int} (hd : decode bs pc = .ok (.goto o, 3))  (ho : 0 ≤ (pc : Int) + o) (hp : ((pc : Int) + o).toNat = pc')
    (hr : OG p.tables e below P (T.setTop (mkF m pc' Ls rest))) : OG p.tables e below P (T.setTop (mkF m pc Ls rest)) := by
  obtain ⟨X, hx, hby, hml, hown, hZ, eT⟩ := B
  exact hr.of fun t k => XS.goto X.here hx rfl (pc0 := pc) (pc' := pc') rfl (hb hby hd) ho hp k
theorem o_ifY (B : Bx own bs ml Z p l e R s m args below meth c T h locs cells slots) (pc pc' : Nat) {cd : ClassFile.Cond} {o : Int} {x : Int32} (hd : decode bs pc = .ok (.ifCond cd o, 3))  (hc : ifCond.holds cd x = true) (ho : 0 ≤ (pc : Int) + o) (hp : ((pc : Int) + o).toNat = pc')
    (hr : OG p.tables e below P (T.setTop (mkF m pc' Ls rest))) : OG p.tables e below P (T.setTop (mkF m pc Ls (.int x :: rest))) := by
  obtain ⟨X, hx, hby, hml, hown, hZ, eT⟩ := B
  exact hr.of fun t k => XS.ifYes X.here hx rfl (pc0 := pc) (pc' := pc') rfl (hb hby hd) rfl hc ho hp k
theorem o_ifN (B : Bx own bs ml Z p l e R s m args below meth c T h locs cells slots) (pc pc' : Nat) {cd : ClassFile.Cond} {o : Int} {x : Int32} (hd : decode bs pc = .ok (.ifCond cd o, 3)) (hp : pc + 3 = pc') (hc : ifCond.holds cd x = false)
    (hr : OG p.tables e below P (T.setTop (mkF m pc' Ls rest))) : OG p.tables e below P (T.setTop (mkF m pc Ls (.int x :: rest))) := by
  subst hp
  obtain ⟨X, hx, hby, hml, hown, hZ, eT⟩ := B
  exact hr.of fun t k => XS.ifNo X.here hx rfl (hb hby hd) rfl hc k
theorem o_icY (B : Bx own bs ml Z p l e R s m args below meth c T h locs cells slots) (pc pc' : Nat) {cd : ClassFile.Cond} {o : Int} {x y : Int32} (hd : decode bs pc = .ok (.if_icmp cd o, 3))  (hc : if_icmp.holds cd x y = true) (ho : 0 ≤ (pc : Int) + o) (hp : ((pc : Int) + o).toNat = pc')
    (hr : OG p.tables e below P (T.setTop (mkF m pc' Ls rest))) : OG p.tables e below P (T.setTop (mkF m pc Ls (.int y :: .int x :: rest))) := by
  obtain ⟨X, hx, hby, hml, hown, hZ, eT⟩ := B
  exact hr.of fun t k => XS.icmpYes X.here hx rfl (pc0 := pc) (pc' := pc') rfl (hb hby hd) rfl hc ho hp k
theorem o_icN (B : Bx own bs ml Z p l e R s m args below meth c T h locs cells slots) (pc pc' : Nat) {cd : ClassFile.Cond} {o : Int} {x y : Int32} (hd : decode bs pc = .ok (.if_icmp cd o, 3)) (hp : pc + 3 = pc') (hc : if_icmp.holds cd x y = false)
    (hr : OG p.tables e below P (T.setTop (mkF m pc' Ls rest))) : OG p.tables e below P (T.setTop (mkF m pc Ls (.int y :: .int x :: rest))) := by
  subst hp
  obtain ⟨X, hx, hby, hml, hown, hZ, eT⟩ := B
  exact hr.of fun t k => XS.icmpNo X.here hx rfl (hb hby hd) rfl hc k
theorem o_dup (B : Bx own bs ml Z p l e R s m args below meth c T h locs cells slots) (pc pc' : Nat) {x : Value} (hd : decode bs pc = .ok (.dup, 1)) (hp : pc + 1 = pc') (hc : x.category = 1)
    (hr : OG p.tables e below P (T.setTop (mkF m pc' Ls (x :: x :: rest)))) : OG p.tables e below P (T.setTop (mkF m pc Ls (x :: rest))) := by
  subst hp
  obtain ⟨X, hx, hby, hml, hown, hZ, eT⟩ := B
  exact hr.of fun t k => XS.dup X.here hx rfl (hb hby hd) rfl hc k
theorem o_pop (B : Bx own bs ml Z p l e R s m args below meth c T h locs cells slots) (pc pc' : Nat) {x : Value} (hd : decode bs pc = .ok (.pop, 1)) (hp : pc + 1 = pc') (hc : x.category = 1)
    (hr : OG p.tables e below P (T.setTop (mkF m pc' Ls rest))) : OG p.tables e below P (T.setTop (mkF m pc Ls (x :: rest))) := by
  subst hp
  obtain ⟨X, hx, hby, hml, hown, hZ, eT⟩ := B
  exact hr.of fun t k => XT.pop X.here hx rfl (hb hby hd) rfl hc k
theorem o_dup_x1 (B : Bx own bs ml Z p l e R s m args below meth c T h locs cells slots) (pc pc' : Nat) {x y : Value} (hd : decode bs pc = .ok (.dup_x1, 1)) (hp : pc + 1 = pc') (hc : x.category = 1) (hc' : y.category = 1)
    (hr : OG p.tables e below P (T.setTop (mkF m pc' Ls (x :: y :: x :: rest)))) : OG p.tables e below P (T.setTop (mkF m pc Ls (x :: y :: rest))) := by
  subst hp
  obtain ⟨X, hx, hby, hml, hown, hZ, eT⟩ := B
  exact hr.of fun t k => XT.dupX1 X.here hx rfl (hb hby hd) rfl hc hc' k
theorem o_dup2 (B : Bx own bs ml Z p l e R s m args below meth c T h locs cells slots) (pc pc' : Nat) {x y : Value} (hd : decode bs pc = .ok (.dup2, 1)) (hp : pc + 1 = pc') (hc : x.category = 1) (hc' : y.category = 1)
    (hr : OG p.tables e below P (T.setTop (mkF m pc' Ls (x :: y :: x :: y :: rest)))) : OG p.tables e below P (T.setTop (mkF m pc Ls (x :: y :: rest))) := by
  subst hp
  obtain ⟨X, hx, hby, hml, hown, hZ, eT⟩ := B
  exact hr.of fun t k => XT.dup2 X.here hx rfl (hb hby hd) rfl hc hc' k
theorem o_dup2L (B : Bx own bs ml Z p l e R s m args below meth c T h locs cells slots) (pc pc' : Nat) {x : Int64} (hd : decode bs pc = .ok (.dup2, 1)) (hp : pc + 1 = pc') 
    (hr : OG p.tables e below P (T.setTop (mkF m pc' Ls (.long x :: .long x :: rest)))) : OG p.tables e below P (T.setTop (mkF m pc Ls (.long x :: rest))) := by
  subst hp
  obtain ⟨X, hx, hby, hml, hown, hZ, eT⟩ := B
  exact hr.of fun t k => XT.dup2L X.here hx rfl (hb hby hd) rfl k
theorem o_ldc (B : Bx own bs ml Z p l e R s m args below meth c T h locs cells slots) (pc pc' : Nat) {i : Nat} {v : Int32} (hd : decode bs pc = .ok (.ldc i, 2)) (hp : pc + 2 = pc') (w : (Cond.constant own i v).before a0 Z = true)
    (hr : OG p.tables e below P (T.setTop (mkF m pc' Ls (.int v :: rest)))) : OG p.tables e below P (T.setTop (mkF m pc Ls rest)) := by
  subst hp
  obtain ⟨X, hx, hby, hml, hown, hZ, eT⟩ := B
  exact hr.of fun t k => X.ldcI hx hown (mv hZ w) rfl (hb hby hd) k
theorem o_ldc_w (B : Bx own bs ml Z p l e R s m args below meth c T h locs cells slots) (pc pc' : Nat) {i : Nat} {v : Int32} (hd : decode bs pc = .ok (.ldc_w i, 3)) (hp : pc + 3 = pc') (w : (Cond.constant own i v).before a0 Z = true)
    (hr : OG p.tables e below P (T.setTop (mkF m pc' Ls (.int v :: rest)))) : OG p.tables e below P (T.setTop (mkF m pc Ls rest)) := by
  subst hp
  obtain ⟨X, hx, hby, hml, hown, hZ, eT⟩ := B
  exact hr.of fun t k => X.ldcWI hx hown (mv hZ w) rfl (hb hby hd) k
theorem o_ldc2 (B : Bx own bs ml Z p l e R s m args below meth c T h locs cells slots) (pc pc' : Nat) {i : Nat} {v : Int64} (hd : decode bs pc = .ok (.ldc2_w i, 3)) (hp : pc + 3 = pc') (w : (Cond.constantLong own i v).before a0 Z = true)
    (hr : OG p.tables e below P (T.setTop (mkF m pc' Ls (.long v :: rest)))) : OG p.tables e below P (T.setTop (mkF m pc Ls rest)) := by
  subst hp
  obtain ⟨X, hx, hby, hml, hown, hZ, eT⟩ := B
  exact hr.of fun t k => X.ldc2J hx hown (mv hZ w) rfl (hb hby hd) k
theorem o_topI {pc : Nat} {x y : Int32} (q : x = y) (hr : OG p.tables e below P (T.setTop (mkF m pc Ls (.int y :: rest)))) : OG p.tables e below P (T.setTop (mkF m pc Ls (.int x :: rest))) := q ▸ hr
theorem o_topJ {pc : Nat} {x y : Int64} (q : x = y) (hr : OG p.tables e below P (T.setTop (mkF m pc Ls (.long y :: rest)))) : OG p.tables e below P (T.setTop (mkF m pc Ls (.long x :: rest))) := q ▸ hr
theorem o_iincC (B : Bx own bs ml Z p l e R s m args below meth c T h locs cells slots) (pc pc' : Nat) {k : Nat} {cst : Int} {x : Int32} {l' : Array Slot} (v y : Int32) (hd : decode bs pc = .ok (.iinc k cst, 3)) (hp : pc + 3 = pc') (hv : Int32.ofInt cst = v) (hl : Ls[k]? = some (.val (.int x))) (hy : x + v = y) (hl' : storeLocals Ls k (.int y) = some l')
    (hr : OG p.tables e below P (T.setTop (mkF m pc' l' rest))) : OG p.tables e below P (T.setTop (mkF m pc Ls rest)) := by
  subst hp
  obtain ⟨X, hx, hby, hml, hown, hZ, eT⟩ := B
  exact hr.of fun t k => XT.iincV X.here hx rfl v (hb hby hd) hv hl (hy ▸ hl') k
theorem o_retZ {Q : Option Value → Heap → List Loc → Prop} {kc ks : Nat} (B : Bx own bs ml Z p l e R s m args below meth c T h locs cells slots) (pc : Nat) {z : Int32} {t : FieldType} (hd : decode bs pc = .ok (.ireturn, 1)) (hret : meth.sig.returnType = some t) (hlk : meth.locks = false) (ht : t = .boolean ∨ t = .byte ∨ t = .char ∨ t = .short) (hc : cells ≤ kc) (hs : slots ≤ ks) (hq : Q (some (.int (nar t z))) h locs) :
    OG p.tables e below (fun o s₂ => ∃ v L, o = .returned v ∧ Q v s₂.heap L ∧ FrameEnd s o s₂ L kc ks) (T.setTop (mkF m pc Ls (.int z :: rest))) := by
  obtain ⟨X, hx, hby, hml, hown, hZ, eT⟩ := B
  subst eT
  obtain ⟨fs, hr, hrun, hended, hW, hsame⟩ := X.leave (v := some (.int (nar t z))) (fun hn => by rw [hret] at hn; cases hn) hlk
  exact ⟨_, _, retN X hx hret ht (hb hby hd) hr, hrun, hended, _, _, rfl, hq, ⟨_, rfl⟩, hW, hsame.mono hc hs⟩
theorem o_retI0 (X : Stand p l e R s m args below meth c T locs cells slots) (hx : p.tables.exec = Jvm.exec) {pc : Nat} {z : Int32} (hret : meth.sig.returnType = some .int) (hd : decode c.code pc = .ok (.ireturn, 1)) {fs : List Frame}
    (hl : ∀ (f : JFrame) (acts : List Action), f.method = m → f.locked = none → f.entered = [] → (doReturn e (T.setTop f) acts (some (.int z))).1 = T.setFrames fs) : Steps p.tables e below (T.setTop (mkF m pc Ls (.int z :: rest))) (T.setFrames fs) :=
  retOut X hx hret rfl (Or.inl ⟨rfl, Or.inl rfl, _, rfl⟩) hd hl
theorem o_retI {Q : Option Value → Heap → List Loc → Prop} {kc ks : Nat} (B : Bx own bs ml Z p l e R s m args below meth c T h locs cells slots) (pc : Nat) {z : Int32} (hd : decode bs pc = .ok (.ireturn, 1)) (hret : meth.sig.returnType = some .int) (hlk : meth.locks = false)  (hc : cells ≤ kc) (hs : slots ≤ ks) (hq : Q (some (.int z)) h locs) :
    OG p.tables e below (fun o s₂ => ∃ v L, o = .returned v ∧ Q v s₂.heap L ∧ FrameEnd s o s₂ L kc ks) (T.setTop (mkF m pc Ls (.int z :: rest))) := by
  obtain ⟨X, hx, hby, hml, hown, hZ, eT⟩ := B
  subst eT
  obtain ⟨fs, hr, hrun, hended, hW, hsame⟩ := X.leave (v := some (.int z)) (fun hn => by rw [hret] at hn; cases hn) hlk
  exact ⟨_, _, o_retI0 X hx hret (hb hby hd) hr, hrun, hended, _, _, rfl, hq, ⟨_, rfl⟩, hW, hsame.mono hc hs⟩
theorem o_retL {Q : Option Value → Heap → List Loc → Prop} {kc ks : Nat} (B : Bx own bs ml Z p l e R s m args below meth c T h locs cells slots) (pc : Nat) {z : Int64} (hd : decode bs pc = .ok (.lreturn, 1)) (hret : meth.sig.returnType = some .long) (hlk : meth.locks = false)  (hc : cells ≤ kc) (hs : slots ≤ ks) (hq : Q (some (.long z)) h locs) :
    OG p.tables e below (fun o s₂ => ∃ v L, o = .returned v ∧ Q v s₂.heap L ∧ FrameEnd s o s₂ L kc ks) (T.setTop (mkF m pc Ls [.long z])) := by
  obtain ⟨X, hx, hby, hml, hown, hZ, eT⟩ := B
  subst eT
  obtain ⟨fs, hr, hrun, hended, hW, hsame⟩ := X.leave (v := some (.long z)) (fun hn => by rw [hret] at hn; cases hn) hlk
  exact ⟨_, _, X.lreturnOut hx hret (hb hby hd) hr, hrun, hended, _, _, rfl, hq, ⟨_, rfl⟩, hW, hsame.mono hc hs⟩
theorem o_retA {Q : Option Value → Heap → List Loc → Prop} {kc ks : Nat} (B : Bx own bs ml Z p l e R s m args below meth c T h locs cells slots) (pc : Nat) {z : Value} {t : FieldType} (hd : decode bs pc = .ok (.areturn, 1)) (hret : meth.sig.returnType = some t) (hlk : meth.locks = false) (ht : t.isReference = true) (hz : z.isRef = true) (hc : cells ≤ kc) (hs : slots ≤ ks) (hq : Q (some z) h locs) :
    OG p.tables e below (fun o s₂ => ∃ v L, o = .returned v ∧ Q v s₂.heap L ∧ FrameEnd s o s₂ L kc ks) (T.setTop (mkF m pc Ls [z])) := by
  obtain ⟨X, hx, hby, hml, hown, hZ, eT⟩ := B
  subst eT
  obtain ⟨fs, hr, hrun, hended, hW, hsame⟩ := X.leave (v := some z) (fun hn => by rw [hret] at hn; cases hn) hlk
  exact ⟨_, _, X.areturnOut hx hz hret ht (hb hby hd) hr, hrun, hended, _, _, rfl, hq, ⟨_, rfl⟩, hW, hsame.mono hc hs⟩
theorem o_retV {Q : Option Value → Heap → List Loc → Prop} {kc ks : Nat} (B : Bx own bs ml Z p l e R s m args below meth c T h locs cells slots) (pc : Nat)  (hd : decode bs pc = .ok (.return_, 1)) (hret : meth.sig.returnType = none) (hlk : meth.locks = false)  (hc : cells ≤ kc) (hs : slots ≤ ks) (hq : Q (none) h locs) :
    OG p.tables e below (fun o s₂ => ∃ v L, o = .returned v ∧ Q v s₂.heap L ∧ FrameEnd s o s₂ L kc ks) (T.setTop (mkF m pc Ls [])) := by
  obtain ⟨X, hx, hby, hml, hown, hZ, eT⟩ := B
  subst eT
  obtain ⟨fs, hr, hrun, hended, hW, hsame⟩ := X.leave (v := none) (fun _ => rfl) hlk
  exact ⟨_, _, X.returnOut hx hret (hb hby hd) hr, hrun, hended, _, _, rfl, hq, ⟨_, rfl⟩, hW, hsame.mono hc hs⟩
/-- a body's contract, out of its walk -/
theorem enter {y : MethodName} {ret : Option FieldType} {rm : Room} {ws : List Jvm.Cond} {as' : Array Value} {h0 : Heap} {Q : Option Value → Heap → List Loc → Prop} {kc ks : Nat} (hpl : plainFor y = true) (Ls : Array Slot)
    (hL : Jvm.Sym.laidSlots as'.toList ++ List.replicate (ml - (Jvm.Sym.laidSlots as'.toList).length) .unset = Ls.toList)
    (body : ∀ (p : Program) (e : Env) (s : State) (m : MethodId) (below : List Frame) (meth : Method) (c : Code) (T : State), Bx y.cls bs ml Z p l e rm s m as' below meth c T h0 [] 0 0 → meth.sig.returnType = ret → meth.locks = false → meth.name = y.name →
      OG p.tables e below (fun o s₂ => ∃ v L, o = .returned v ∧ Q v s₂.heap L ∧ FrameEnd s o s₂ L kc ks) (T.setTop (mkF m 0 Ls []))) :
    MetFree l y (head1 (Jvm.Cond.code y bs ml ret :: ws) rm) (fun a U => a = as' ∧ Z.Warmed39 U.vm ∧ U.heap = h0) (fun _ _ _ _ _ => True) (fun _ U o U' => ∃ v L, o = .returned v ∧ Q v U'.heap L ∧ FrameEnd U o U' L kc ks) := by
  refine MetFree.of_bodySF hpl hisR ?_
  intro p e s m args below meth c s₁ Bd hml0 hP hK
  obtain ⟨rfl, hZ, hh⟩ := hP
  have e0 : s₁.heap = h0 := by rw [← hh, Bd.state]; rfl
  have r := body p e s m below meth c s₁ ⟨Stand.of_body Bd, Bd.exec, Bd.bytes, hml0, findClass_of_methodNamed Bd.named, hZ, e0⟩ Bd.returns (BodyLoose.notSynchronized Bd) (name_of_methodNamed Bd.named Bd.method).1
  exact OG.of r fun t k => (XT.entry hL).trans k
/-- what a callee owes -/
abbrev Met (l : Launch) (Z : State) (y : MethodName) (bytes : ByteArray) (maxL : Nat) (ret : Option FieldType) (rm : Room) (as' : Array Value) (h : Heap) (Q : Option Value → Heap → List Loc → Prop) : Prop :=
  MetFree l y (head1 [Jvm.Cond.code y bytes maxL ret] rm) (fun a U => a = as' ∧ Z.Warmed39 U.vm ∧ U.heap = h) (fun _ _ _ _ _ => True) (fun _ U o U' => ∃ v L, o = .returned v ∧ Q v U'.heap L ∧ FrameEnd U o U' L rm.cells rm.slots)
theorem o_callS {index : Nat} {y : MethodName} {bytes : ByteArray} {maxL : Nat} {ret : Option FieldType} {rm : Room} {as' : Array Value} {Q : Option Value → Heap → List Loc → Prop} {ps : List FieldType} {rt : Option FieldType}
    (B : Bx own bs ml Z p l e R s m args below meth c T h locs cells slots) (pc pc' : Nat) (hd : decode bs pc = .ok (.invokestatic index, 3)) (hp : pc + 3 = pc')
    (w1 : (Cond.methodLink own index y).before a0 Z = true) (w2 : (Cond.static y).before a0 Z = true) (w3 : (Cond.initialized y.cls).before a0 Z = true) (w4 : (Cond.code y bytes maxL ret).before a0 Z = true) (hy : y.cls ≠ "java/lang/invoke/MethodHandle" ∧ y.cls ≠ "java/lang/invoke/VarHandle")
    (hM : Met l Z y bytes maxL ret rm as' h Q) (W : Nat) (argsL rest : List Value) (hpd : parseMethodDescriptor y.desc = some ⟨ps, rt⟩) (hlen : argsL.length = ps.length) (has : argsL.toArray = as') {st : List Value} (hst : st = argsL.reverse ++ rest) (hsz : Ls.size = ml)
    (hW : (rest.map fun v => v.category).sum ≤ W) (hf : rm.frames + 1 ≤ R.frames) (hl : W + (maxL + 11) + rm.locals ≤ R.locals) (hcl : cells + rm.cells ≤ R.cells) (hsl : slots + rm.slots ≤ R.slots) :
    ∃ v T' L, Bx own bs ml Z p l e R s m args below meth c T' T'.heap (locs ++ L) (cells + rm.cells) (slots + rm.slots) ∧ Q v T'.heap L ∧
      ∀ {P : Outcome → State → Prop}, OG p.tables e below P (T'.setTop (mkF m pc' Ls (v.toList ++ rest))) → OG p.tables e below P (T.setTop (mkF m pc Ls st)) := by
  subst hp hst
  obtain ⟨X, hx, hby, hml, hown, hZ, eT⟩ := B
  obtain ⟨v, vm1, ⟨T', L', k', n'⟩, -, X', ⟨Lc, hQ, l', y', z'⟩, st⟩ := Jvm.LawKit.callS X hx (y := y) hown (mvT hZ w1) (mvT hZ w2) (mvT hZ w3) (mvT hZ w4) hy (backOf (W := W) hM hZ w4 w3 hf hl) (g := mkF m pc Ls (argsL.reverse ++ rest)) rfl (by rw [hml]; exact hsz) (argsL := argsL) (rest := rest) (lenOf hpd hlen) rfl (by simpa using hW) (hb hby hd) (fun _ _ => ⟨has, eT, hcl, hsl⟩)
  dsimp only [Pt.U, Pt.locs, Pt.cells, Pt.slots] at X' l' y' z' st hQ
  subst l' y' z'
  exact ⟨v, T', Lc, ⟨X', hx, hby, hml, hown, hZ, rfl⟩, hQ, fun k => k.of st⟩
/-- a callee that writes and makes nothing -/
def Pu (r : Option Value) (h : Heap) (v : Option Value) (h' : Heap) (L : List Loc) : Prop := v = r ∧ L = [] ∧ h' = h
theorem o_callP {index : Nat} {y : MethodName} {bytes : ByteArray} {maxL : Nat} {ret : Option FieldType} {fr lo : Nat} {as' : Array Value} {r : Value} {ps : List FieldType} {rt : Option FieldType}
    (B : Bx own bs ml Z p l e R s m args below meth c T h locs cells slots) (pc pc' : Nat) (hd : decode bs pc = .ok (.invokestatic index, 3)) (hp : pc + 3 = pc')
    (w1 : (Cond.methodLink own index y).before a0 Z = true) (w2 : (Cond.static y).before a0 Z = true) (w3 : (Cond.initialized y.cls).before a0 Z = true) (w4 : (Cond.code y bytes maxL ret).before a0 Z = true) (hy : y.cls ≠ "java/lang/invoke/MethodHandle" ∧ y.cls ≠ "java/lang/invoke/VarHandle")
    (hM : Met l Z y bytes maxL ret ({ frames := fr, cells := 0, slots := 0, locals := lo } : Room) as' h (Pu (some r) h)) (W : Nat) (argsL rest : List Value) (hpd : parseMethodDescriptor y.desc = some ⟨ps, rt⟩) (hlen : argsL.length = ps.length) (has : argsL.toArray = as') {st : List Value} (hst : st = argsL.reverse ++ rest) (hsz : Ls.size = ml)
    (hW : (rest.map fun v => v.category).sum ≤ W) (hf : fr + 1 ≤ R.frames) (hl : W + (maxL + 11) + lo ≤ R.locals) (hcl : cells ≤ R.cells) (hsl : slots ≤ R.slots) :
    ∃ T', Bx own bs ml Z p l e R s m args below meth c T' h locs cells slots ∧
      ∀ {P : Outcome → State → Prop}, OG p.tables e below P (T'.setTop (mkF m pc' Ls (r :: rest))) → OG p.tables e below P (T.setTop (mkF m pc Ls st)) := by
  obtain ⟨v, T', L, B', ⟨rfl, rfl, hh⟩, st⟩ := o_callS B pc pc' hd hp w1 w2 w3 w4 hy hM W argsL rest hpd hlen has hst hsz hW hf hl hcl hsl
  rw [hh, List.append_nil] at B'
  exact ⟨T', B', st⟩
end Walk
theorem b_ne_t {c : Prop} [Decidable c] (h : c) : ifCond.holds .ne (if c then (1 : Int32) else 0) = true := by rw [if_pos h]; rfl
theorem b_ne_f {c : Prop} [Decidable c] (h : ¬ c) : ifCond.holds .ne (if c then (1 : Int32) else 0) = false := by rw [if_neg h]; rfl
theorem b_eq_t {c : Prop} [Decidable c] (h : ¬ c) : ifCond.holds .eq (if c then (1 : Int32) else 0) = true := by rw [if_neg h]; rfl
theorem b_eq_f {c : Prop} [Decidable c] (h : c) : ifCond.holds .eq (if c then (1 : Int32) else 0) = false := by rw [if_pos h]; rfl
/-! 2. arrays by a function of the place -/
def AI (Z : State) (h : Heap) (a : Addr) (ty : FieldType) (n : Nat) (g : Nat → Int32) : Prop := ∃ c : Cell, Arr Z h a c ty ∧ c.slots.size = n ∧ n < 2147483648 ∧ ∀ j, j < n → c.slots[j]? = some (.int (g j))
def AJ (Z : State) (h : Heap) (a : Addr) (n : Nat) (g : Nat → Int64) : Prop := ∃ c : Cell, Arr Z h a c .long ∧ c.slots.size = n ∧ n < 2147483648 ∧ ∀ j, j < n → c.slots[j]? = some (.long (g j))
section Arrays
variable {Z : State} {h h' : Heap} {a b : Addr} {ty : FieldType} {n i : Nat} {v : Value} {ws : List Addr}
theorem AI.ext {g : Nat → Int32} (A : AI Z h a ty n g) (E : Ext h h') : AI Z h' a ty n g := by obtain ⟨c, A, r⟩ := A; exact ⟨c, A.ext E, r⟩
theorem AI.other {g : Nat → Int32} (A : AI Z h a ty n g) (W : Wr h h' b i v) (q : a ≠ b) : AI Z h' a ty n g := by obtain ⟨c, A, r⟩ := A; exact ⟨c, A.other W q, r⟩
theorem AI.keep {g : Nat → Int32} (A : AI Z h a ty n g) (K : Keep h h' ws) (q : a ∉ ws) : AI Z h' a ty n g := by obtain ⟨c, A, r⟩ := A; exact ⟨c, ⟨K.2.1 a c A.1 q, A.2⟩, r⟩
theorem AI.lt {g : Nat → Int32} (A : AI Z h a ty n g) : a < h.size := by obtain ⟨c, A, r⟩ := A; exact A.lt
theorem AI.len {g : Nat → Int32} (A : AI Z h a ty n g) : n < 2147483648 := by obtain ⟨c, A, r, q, _⟩ := A; exact q
theorem AI.alt {g g' : Nat → Int32} (A : AI Z h a ty n g) (q : ∀ j, j < n → g' j = g j) : AI Z h a ty n g' := by obtain ⟨c, A, r, s, H⟩ := A; exact ⟨c, A, r, s, fun j hj => by rw [q j hj]; exact H j hj⟩
theorem AI.set {g : Nat → Int32} {x : Int32} (A : AI Z h a ty n g) (W : Wr h h' a i (.int x)) : AI Z h' a ty n (fun j => if j = i then x else g j) := by
  obtain ⟨c, A, S, hn, H⟩ := A
  refine ⟨c.setSlot i (.int x), Arr.same W A, by simp [Cell.setSlot, S], hn, fun j hj => ?_⟩
  show (c.slots.setIfInBounds i (.int x))[j]? = some (.int (if j = i then x else g j))
  by_cases e : j = i
  · subst e; rw [if_pos rfl]; simp [S, hj]
  · rw [if_neg e, Array.getElem?_setIfInBounds_ne (Ne.symm e)]; exact H j hj
theorem AJ.ext {g : Nat → Int64} (A : AJ Z h a n g) (E : Ext h h') : AJ Z h' a n g := by obtain ⟨c, A, r⟩ := A; exact ⟨c, A.ext E, r⟩
theorem AJ.other {g : Nat → Int64} (A : AJ Z h a n g) (W : Wr h h' b i v) (q : a ≠ b) : AJ Z h' a n g := by obtain ⟨c, A, r⟩ := A; exact ⟨c, A.other W q, r⟩
theorem AJ.keep {g : Nat → Int64} (A : AJ Z h a n g) (K : Keep h h' ws) (q : a ∉ ws) : AJ Z h' a n g := by obtain ⟨c, A, r⟩ := A; exact ⟨c, ⟨K.2.1 a c A.1 q, A.2⟩, r⟩
theorem AJ.lt {g : Nat → Int64} (A : AJ Z h a n g) : a < h.size := by obtain ⟨c, A, r⟩ := A; exact A.lt
theorem AJ.len {g : Nat → Int64} (A : AJ Z h a n g) : n < 2147483648 := by obtain ⟨c, A, r, q, _⟩ := A; exact q
theorem AJ.alt {g g' : Nat → Int64} (A : AJ Z h a n g) (q : ∀ j, j < n → g' j = g j) : AJ Z h a n g' := by obtain ⟨c, A, r, s, H⟩ := A; exact ⟨c, A, r, s, fun j hj => by rw [q j hj]; exact H j hj⟩
theorem AJ.set {g : Nat → Int64} {x : Int64} (A : AJ Z h a n g) (W : Wr h h' a i (.long x)) : AJ Z h' a n (fun j => if j = i then x else g j) := by
  obtain ⟨c, A, S, hn, H⟩ := A
  refine ⟨c.setSlot i (.long x), Arr.same W A, by simp [Cell.setSlot, S], hn, fun j hj => ?_⟩
  show (c.slots.setIfInBounds i (.long x))[j]? = some (.long (if j = i then x else g j))
  by_cases e : j = i
  · subst e; rw [if_pos rfl]; simp [S, hj]
  · rw [if_neg e, Array.getElem?_setIfInBounds_ne (Ne.symm e)]; exact H j hj
theorem in_of {c : Cell} {j : Int32} (S : c.slots.size = n) (h0 : ¬ j < 0) (hj : j.toNatClampNeg = i) (hi : i < n) : ¬ (j < 0 ∨ c.slots.size ≤ j.toNatClampNeg) := by rw [S, hj]; rintro (q | q); exact h0 q; omega
end Arrays
theorem ix_of {j : Int32} {k : Nat} (h : j.toInt = k) : ¬ j < 0 ∧ j.toNatClampNeg = k := by
  rw [Int32.lt_iff_toInt_lt, Int32.toInt_zero]
  simp only [Int32.toNatClampNeg, h]
  omega
theorem ix_add {j : Int32} {k : Nat} (c : Int32) (n : Nat) (h : j.toInt = k) (hc : c.toInt = n) (hk : k + n < 2147483648) : (j + c).toInt = (k + n : Nat) := by
  have a := c_iadd j c
  have r := rng32 (j + c)
  omega
theorem nar_bb (x : Int32) : nar .byte x.toInt8.toInt32 = x.toInt8.toInt32 := by simp [nar]
theorem nar_cc (x : Int32) : nar .char x.toUInt32.toUInt16.toUInt32.toInt32 = x.toUInt32.toUInt16.toUInt32.toInt32 := by simp only [nar, UInt32.toUInt32_toInt32, UInt16.toUInt16_toUInt32]
def Lw (n0 : Nat) (r : Option Value) (v : Option Value) (h : Heap) (L : List Loc) : Prop := v = r ∧ Fr n0 L
section Walk2
variable {own : String} {bs : ByteArray} {ml : Nat} {Z : State} {p : Program} {l : Launch} {e : Env} {R : Room} {s : State} {m : MethodId} {args : Array Value} {below : List Frame} {meth : Method} {c : Code} {T : State} {h : Heap} {locs : List Loc} {cells slots n0 : Nat} {P : Outcome → State → Prop} {Ls : Array Slot} {rest : List Value} {a0 : Array Value} {a : Addr} {n : Nat}
theorem o_iaload (B : Bx own bs ml Z p l e R s m args below meth c T h locs cells slots) (pc pc' : Nat) {g : Nat → Int32} (A : AI Z h a .int n g) {j : Int32} (i : Nat) (v : Int32) (hd : decode bs pc = .ok (.iaload, 1)) (hp : pc + 1 = pc') (h0 : ¬ j < 0) (hj : j.toNatClampNeg = i) (hi : i < n) (hv : g i = v)
    (hr : OG p.tables e below P (T.setTop (mkF m pc' Ls (.int v :: rest)))) : OG p.tables e below P (T.setTop (mkF m pc Ls (.int j :: .ref a :: rest))) := by
  subst hp hv
  obtain ⟨X, hx, hby, hml, hown, hZ, eT⟩ := B
  obtain ⟨cl, A, S, hn, H⟩ := A
  exact hr.of fun t k => X.iaload hx (by rw [eT]; exact A.1) (State.isArrayOf_alike hZ.alike A.2.1) A.2.2 (in_of S h0 hj hi) (by rw [hj]; exact H i hi) (g := mkF m pc Ls (.int j :: .ref a :: rest)) rfl rfl (hb hby hd) t k
theorem o_caload (B : Bx own bs ml Z p l e R s m args below meth c T h locs cells slots) (pc pc' : Nat) {g : Nat → Int32} (A : AI Z h a .char n g) {j : Int32} (i : Nat) (v : Int32) (hd : decode bs pc = .ok (.caload, 1)) (hp : pc + 1 = pc') (h0 : ¬ j < 0) (hj : j.toNatClampNeg = i) (hi : i < n) (hv : g i = v)
    (hr : OG p.tables e below P (T.setTop (mkF m pc' Ls (.int v :: rest)))) : OG p.tables e below P (T.setTop (mkF m pc Ls (.int j :: .ref a :: rest))) := by
  subst hp hv
  obtain ⟨X, hx, hby, hml, hown, hZ, eT⟩ := B
  obtain ⟨cl, A, S, hn, H⟩ := A
  exact hr.of fun t k => X.caload hx (by rw [eT]; exact A.1) (State.isArrayOf_alike hZ.alike A.2.1) A.2.2 (in_of S h0 hj hi) (by rw [hj]; exact H i hi) (g := mkF m pc Ls (.int j :: .ref a :: rest)) rfl rfl (hb hby hd) t k
theorem o_baload (B : Bx own bs ml Z p l e R s m args below meth c T h locs cells slots) (pc pc' : Nat) {g : Nat → Int32} (A : AI Z h a .byte n g) {j : Int32} (i : Nat) (v : Int32) (hd : decode bs pc = .ok (.baload, 1)) (hp : pc + 1 = pc') (h0 : ¬ j < 0) (hj : j.toNatClampNeg = i) (hi : i < n) (hv : g i = v)
    (hr : OG p.tables e below P (T.setTop (mkF m pc' Ls (.int v :: rest)))) : OG p.tables e below P (T.setTop (mkF m pc Ls (.int j :: .ref a :: rest))) := by
  subst hp hv
  obtain ⟨X, hx, hby, hml, hown, hZ, eT⟩ := B
  obtain ⟨cl, A, S, hn, H⟩ := A
  exact hr.of fun t k => X.baloadBytes hx (by rw [eT]; exact A.1) (State.isArrayOf_alike hZ.alike A.2.1) A.2.2 (in_of S h0 hj hi) (by rw [hj]; exact H i hi) (g := mkF m pc Ls (.int j :: .ref a :: rest)) rfl rfl (hb hby hd) t k
theorem o_zaload (B : Bx own bs ml Z p l e R s m args below meth c T h locs cells slots) (pc pc' : Nat) {g : Nat → Int32} (A : AI Z h a .boolean n g) {j : Int32} (i : Nat) (v : Int32) (hd : decode bs pc = .ok (.baload, 1)) (hp : pc + 1 = pc') (h0 : ¬ j < 0) (hj : j.toNatClampNeg = i) (hi : i < n) (hv : g i = v)
    (hr : OG p.tables e below P (T.setTop (mkF m pc' Ls (.int v :: rest)))) : OG p.tables e below P (T.setTop (mkF m pc Ls (.int j :: .ref a :: rest))) := by
  subst hp hv
  obtain ⟨X, hx, hby, hml, hown, hZ, eT⟩ := B
  obtain ⟨cl, A, S, hn, H⟩ := A
  exact hr.of fun t k => X.baloadBooleans hx (by rw [eT]; exact A.1) (State.isArrayOf_alike hZ.alike A.2.1) A.2.2 (in_of S h0 hj hi) (by rw [hj]; exact H i hi) (g := mkF m pc Ls (.int j :: .ref a :: rest)) rfl rfl (hb hby hd) t k
theorem o_laload (B : Bx own bs ml Z p l e R s m args below meth c T h locs cells slots) (pc pc' : Nat) {g : Nat → Int64} (A : AJ Z h a n g) {j : Int32} (i : Nat) (v : Int64) (hd : decode bs pc = .ok (.laload, 1)) (hp : pc + 1 = pc') (h0 : ¬ j < 0) (hj : j.toNatClampNeg = i) (hi : i < n) (hv : g i = v)
    (hr : OG p.tables e below P (T.setTop (mkF m pc' Ls (.long v :: rest)))) : OG p.tables e below P (T.setTop (mkF m pc Ls (.int j :: .ref a :: rest))) := by
  subst hp hv
  obtain ⟨X, hx, hby, hml, hown, hZ, eT⟩ := B
  obtain ⟨cl, A, S, hn, H⟩ := A
  exact hr.of fun t k => X.laload hx (by rw [eT]; exact A.1) (State.isArrayOf_alike hZ.alike A.2.1) A.2.2 (in_of S h0 hj hi) (by rw [hj]; exact H i hi) (g := mkF m pc Ls (.int j :: .ref a :: rest)) rfl rfl (hb hby hd) t k
theorem o_alenI (B : Bx own bs ml Z p l e R s m args below meth c T h locs cells slots) (pc pc' : Nat) {ty : FieldType} {g : Nat → Int32} (A : AI Z h a ty n g) (v : Int32) (hd : decode bs pc = .ok (.arraylength, 1)) (hp : pc + 1 = pc') (hv : n.toInt32 = v)
    (hr : OG p.tables e below P (T.setTop (mkF m pc' Ls (.int v :: rest)))) : OG p.tables e below P (T.setTop (mkF m pc Ls (.ref a :: rest))) := by
  subst hp hv
  obtain ⟨X, hx, hby, hml, hown, hZ, eT⟩ := B
  obtain ⟨cl, A, S, hn, H⟩ := A
  exact hr.of fun t k => X.arraylength hx (by rw [eT]; exact A.1) (State.isArrayOf_alike hZ.alike A.2.1) (g := mkF m pc Ls (.ref a :: rest)) rfl rfl (hb hby hd) t (by rw [S]; exact k)
theorem o_alenJ (B : Bx own bs ml Z p l e R s m args below meth c T h locs cells slots) (pc pc' : Nat) {g : Nat → Int64} (A : AJ Z h a n g) (v : Int32) (hd : decode bs pc = .ok (.arraylength, 1)) (hp : pc + 1 = pc') (hv : n.toInt32 = v)
    (hr : OG p.tables e below P (T.setTop (mkF m pc' Ls (.int v :: rest)))) : OG p.tables e below P (T.setTop (mkF m pc Ls (.ref a :: rest))) := by
  subst hp hv
  obtain ⟨X, hx, hby, hml, hown, hZ, eT⟩ := B
  obtain ⟨cl, A, S, hn, H⟩ := A
  exact hr.of fun t k => X.arraylength hx (by rw [eT]; exact A.1) (State.isArrayOf_alike hZ.alike A.2.1) (g := mkF m pc Ls (.ref a :: rest)) rfl rfl (hb hby hd) t (by rw [S]; exact k)
theorem o_iastore (B : Bx own bs ml Z p l e R s m args below meth c T h locs cells slots) (N : Fr n0 locs) (ge : n0 ≤ a) (pc pc' : Nat) {g : Nat → Int32} (A : AI Z h a .int n g) {j : Int32} {x : Int32} (i : Nat) (y : Int32) (hd : decode bs pc = .ok (.iastore, 1)) (hp : pc + 1 = pc') (h0 : ¬ j < 0) (hj : j.toNatClampNeg = i) (hi : i < n) (hy : x = y) :
    ∃ T' h' L', Bx own bs ml Z p l e R s m args below meth c T' h' L' cells slots ∧ Fr n0 L' ∧ Wr h h' a i (.int y) ∧ AI Z h' a .int n (fun j => if j = i then y else g j) ∧ ∀ {P : Outcome → State → Prop}, OG p.tables e below P (T'.setTop (mkF m pc' Ls rest)) → OG p.tables e below P (T.setTop (mkF m pc Ls (.int x :: .int j :: .ref a :: rest))) := by
  subst hp hj hy
  obtain ⟨X, hx, hby, hml, hown, hZ, eT⟩ := B
  have A' := A
  obtain ⟨cl, A, S, hn, H⟩ := A
  obtain ⟨T', h', X', e', W, st⟩ := stI X hx hZ eT A (in_of S h0 rfl hi) (g := mkF m pc Ls (.int x :: .int j :: .ref a :: rest)) rfl rfl (hb hby hd)
  exact ⟨T', h', _, ⟨X', hx, hby, hml, hown, hZ, e'⟩, Fr.snoc X' N ge, W, A'.set W, fun k => k.of st⟩
theorem o_castore (B : Bx own bs ml Z p l e R s m args below meth c T h locs cells slots) (N : Fr n0 locs) (ge : n0 ≤ a) (pc pc' : Nat) {g : Nat → Int32} (A : AI Z h a .char n g) {j : Int32} {x : Int32} (i : Nat) (y : Int32) (hd : decode bs pc = .ok (.castore, 1)) (hp : pc + 1 = pc') (h0 : ¬ j < 0) (hj : j.toNatClampNeg = i) (hi : i < n) (hy : nar .char x = y) :
    ∃ T' h' L', Bx own bs ml Z p l e R s m args below meth c T' h' L' cells slots ∧ Fr n0 L' ∧ Wr h h' a i (.int y) ∧ AI Z h' a .char n (fun j => if j = i then y else g j) ∧ ∀ {P : Outcome → State → Prop}, OG p.tables e below P (T'.setTop (mkF m pc' Ls rest)) → OG p.tables e below P (T.setTop (mkF m pc Ls (.int x :: .int j :: .ref a :: rest))) := by
  subst hp hj hy
  obtain ⟨X, hx, hby, hml, hown, hZ, eT⟩ := B
  have A' := A
  obtain ⟨cl, A, S, hn, H⟩ := A
  obtain ⟨T', h', X', e', W, st⟩ := stC X hx hZ eT A (in_of S h0 rfl hi) (g := mkF m pc Ls (.int x :: .int j :: .ref a :: rest)) rfl rfl (hb hby hd)
  exact ⟨T', h', _, ⟨X', hx, hby, hml, hown, hZ, e'⟩, Fr.snoc X' N ge, W, A'.set W, fun k => k.of st⟩
theorem o_bastore (B : Bx own bs ml Z p l e R s m args below meth c T h locs cells slots) (N : Fr n0 locs) (ge : n0 ≤ a) (pc pc' : Nat) {g : Nat → Int32} (A : AI Z h a .byte n g) {j : Int32} {x : Int32} (i : Nat) (y : Int32) (hd : decode bs pc = .ok (.bastore, 1)) (hp : pc + 1 = pc') (h0 : ¬ j < 0) (hj : j.toNatClampNeg = i) (hi : i < n) (hy : nar .byte x = y) :
    ∃ T' h' L', Bx own bs ml Z p l e R s m args below meth c T' h' L' cells slots ∧ Fr n0 L' ∧ Wr h h' a i (.int y) ∧ AI Z h' a .byte n (fun j => if j = i then y else g j) ∧ ∀ {P : Outcome → State → Prop}, OG p.tables e below P (T'.setTop (mkF m pc' Ls rest)) → OG p.tables e below P (T.setTop (mkF m pc Ls (.int x :: .int j :: .ref a :: rest))) := by
  subst hp hj hy
  obtain ⟨X, hx, hby, hml, hown, hZ, eT⟩ := B
  have A' := A
  obtain ⟨cl, A, S, hn, H⟩ := A
  obtain ⟨T', h', X', e', W, st⟩ := stB X hx hZ eT A (in_of S h0 rfl hi) (g := mkF m pc Ls (.int x :: .int j :: .ref a :: rest)) rfl rfl (hb hby hd)
  exact ⟨T', h', _, ⟨X', hx, hby, hml, hown, hZ, e'⟩, Fr.snoc X' N ge, W, A'.set W, fun k => k.of st⟩
theorem o_zastore (B : Bx own bs ml Z p l e R s m args below meth c T h locs cells slots) (N : Fr n0 locs) (ge : n0 ≤ a) (pc pc' : Nat) {g : Nat → Int32} (A : AI Z h a .boolean n g) {j : Int32} {x : Int32} (i : Nat) (y : Int32) (hd : decode bs pc = .ok (.bastore, 1)) (hp : pc + 1 = pc') (h0 : ¬ j < 0) (hj : j.toNatClampNeg = i) (hi : i < n) (hy : nar .boolean x = y) :
    ∃ T' h' L', Bx own bs ml Z p l e R s m args below meth c T' h' L' cells slots ∧ Fr n0 L' ∧ Wr h h' a i (.int y) ∧ AI Z h' a .boolean n (fun j => if j = i then y else g j) ∧ ∀ {P : Outcome → State → Prop}, OG p.tables e below P (T'.setTop (mkF m pc' Ls rest)) → OG p.tables e below P (T.setTop (mkF m pc Ls (.int x :: .int j :: .ref a :: rest))) := by
  subst hp hj hy
  obtain ⟨X, hx, hby, hml, hown, hZ, eT⟩ := B
  have A' := A
  obtain ⟨cl, A, S, hn, H⟩ := A
  obtain ⟨T', h', X', e', W, st⟩ := stZ X hx hZ eT A (in_of S h0 rfl hi) (g := mkF m pc Ls (.int x :: .int j :: .ref a :: rest)) rfl rfl (hb hby hd)
  exact ⟨T', h', _, ⟨X', hx, hby, hml, hown, hZ, e'⟩, Fr.snoc X' N ge, W, A'.set W, fun k => k.of st⟩
theorem o_lastore (B : Bx own bs ml Z p l e R s m args below meth c T h locs cells slots) (N : Fr n0 locs) (ge : n0 ≤ a) (pc pc' : Nat) {g : Nat → Int64} (A : AJ Z h a n g) {j : Int32} {x : Int64} (i : Nat) (y : Int64) (hd : decode bs pc = .ok (.lastore, 1)) (hp : pc + 1 = pc') (h0 : ¬ j < 0) (hj : j.toNatClampNeg = i) (hi : i < n) (hy : x = y) :
    ∃ T' h' L', Bx own bs ml Z p l e R s m args below meth c T' h' L' cells slots ∧ Fr n0 L' ∧ Wr h h' a i (.long y) ∧ AJ Z h' a n (fun j => if j = i then y else g j) ∧ ∀ {P : Outcome → State → Prop}, OG p.tables e below P (T'.setTop (mkF m pc' Ls rest)) → OG p.tables e below P (T.setTop (mkF m pc Ls (.long x :: .int j :: .ref a :: rest))) := by
  subst hp hj hy
  obtain ⟨X, hx, hby, hml, hown, hZ, eT⟩ := B
  have A' := A
  obtain ⟨cl, A, S, hn, H⟩ := A
  obtain ⟨T', h', X', e', W, st⟩ := stJ X hx hZ eT A (in_of S h0 rfl hi) (g := mkF m pc Ls (.long x :: .int j :: .ref a :: rest)) rfl rfl (hb hby hd)
  exact ⟨T', h', _, ⟨X', hx, hby, hml, hown, hZ, e'⟩, Fr.snoc X' N ge, W, A'.set W, fun k => k.of st⟩
theorem o_newI (B : Bx own bs ml Z p l e R s m args below meth c T h locs cells slots) (pc pc' : Nat) {aty : ArrayType} {ty : FieldType} {z : Int32} (k cap : Nat) (w : (Cond.arrayClass (newarray.typeOf aty)).before a0 Z = true) (hd : decode bs pc = .ok (.newarray aty, 2)) (hp : pc + 2 = pc') (hty : newarray.typeOf aty = ty) (hdv : defaultValue ty = .int 0) (hz : ¬ z < 0) (hk : z.toNatClampNeg = k) (hcap : k ≤ cap) (hb8 : cap * 8 ≤ 536870912) (hc : cells + 1 ≤ R.cells) (hl : slots + cap ≤ R.slots) :
    ∃ a T' h', a = h.size ∧ Bx own bs ml Z p l e R s m args below meth c T' h' locs (cells + 1) (slots + cap) ∧ Ext h h' ∧ AI Z h' a ty k (fun _ => 0) ∧ ∀ {P : Outcome → State → Prop}, OG p.tables e below P (T'.setTop (mkF m pc' Ls (.ref a :: rest))) → OG p.tables e below P (T.setTop (mkF m pc Ls (.int z :: rest))) := by
  subst hp hk
  obtain ⟨X, hx, hby, hml, hown, hZ, eT⟩ := B
  obtain ⟨T', h', cA, X', e', E, A, st⟩ := newP X hx hZ w eT (g := mkF m pc Ls (.int z :: rest)) rfl (hb hby hd) rfl hz (cap := cap) hcap hb8 hc hl
  rw [hty] at A
  refine ⟨h.size, T', h', rfl, ⟨X', hx, hby, hml, hown, hZ, e'⟩, E, ⟨_, A, sz_new _ _ _, (back32 hz).2, fun j hj => ?_⟩, fun k => k.of st⟩
  simp [newA, hj, hdv]
theorem o_newJ (B : Bx own bs ml Z p l e R s m args below meth c T h locs cells slots) (pc pc' : Nat) {aty : ArrayType} {z : Int32} (k cap : Nat) (w : (Cond.arrayClass (newarray.typeOf aty)).before a0 Z = true) (hd : decode bs pc = .ok (.newarray aty, 2)) (hp : pc + 2 = pc') (hty : newarray.typeOf aty = .long) (hz : ¬ z < 0) (hk : z.toNatClampNeg = k) (hcap : k ≤ cap) (hb8 : cap * 8 ≤ 536870912) (hc : cells + 1 ≤ R.cells) (hl : slots + cap ≤ R.slots) :
    ∃ a T' h', a = h.size ∧ Bx own bs ml Z p l e R s m args below meth c T' h' locs (cells + 1) (slots + cap) ∧ Ext h h' ∧ AJ Z h' a k (fun _ => 0) ∧ ∀ {P : Outcome → State → Prop}, OG p.tables e below P (T'.setTop (mkF m pc' Ls (.ref a :: rest))) → OG p.tables e below P (T.setTop (mkF m pc Ls (.int z :: rest))) := by
  subst hp hk
  obtain ⟨X, hx, hby, hml, hown, hZ, eT⟩ := B
  obtain ⟨T', h', cA, X', e', E, A, st⟩ := newP X hx hZ w eT (g := mkF m pc Ls (.int z :: rest)) rfl (hb hby hd) rfl hz (cap := cap) hcap hb8 hc hl
  rw [hty] at A
  refine ⟨h.size, T', h', rfl, ⟨X', hx, hby, hml, hown, hZ, e'⟩, E, ⟨_, A, sz_new _ _ _, (back32 hz).2, fun j hj => ?_⟩, fun k => k.of st⟩
  simp [newA, hj, defaultValue]
theorem o_getfield (B : Bx own bs ml Z p l e R s m args below meth c T h locs cells slots) {R0 O f d host : String} {index : Nat} {v : Value} (pc pc' : Nat) (hd : decode bs pc = .ok (.getfield index, 3)) (hp : pc + 3 = pc') (w : (Cond.fieldLink own index R0 f d).before a0 Z = true ∨ (Cond.fieldLinkNest own index R0 f d host).before a0 Z = true) (via : Via Z R0 O f d) (F : Fld Z h a O f d v) :
    ∃ T', Bx own bs ml Z p l e R s m args below meth c T' h locs cells slots ∧ ∀ {P : Outcome → State → Prop}, OG p.tables e below P (T'.setTop (mkF m pc' Ls (v :: rest))) → OG p.tables e below P (T.setTop (mkF m pc Ls (.ref a :: rest))) := by
  subst hp
  obtain ⟨X, hx, hby, hml, hown, hZ, eT⟩ := B
  obtain ⟨T', X', e', st⟩ := getF X hx hZ hown w via eT F (g := mkF m pc Ls (.ref a :: rest)) rfl rfl (hb hby hd)
  exact ⟨T', ⟨X', hx, hby, hml, hown, hZ, e'⟩, fun k => k.of st⟩
theorem o_putfield (B : Bx own bs ml Z p l e R s m args below meth c T h locs cells slots) (N : Fr n0 locs) (ge : n0 ≤ a) {R0 O f d host C : String} {index kk : Nat} {v old : Value} {ty : FieldType} (pc pc' : Nat) (hd : decode bs pc = .ok (.putfield index, 3)) (hp : pc + 3 = pc') (w : (Cond.fieldLink own index R0 f d).before a0 Z = true ∨ (Cond.fieldLinkNest own index R0 f d host).before a0 Z = true) (via : Via Z R0 O f d) (F : Fld Z h a O f d old) (E : Exa Z h a C) (L : (Cond.lays C O f d).before a0 Z = true ∨ ((Cond.laysFinal C O f d).before a0 Z = true ∧ own = O ∧ meth.name = "<init>")) (wi : (Cond.instantiable C kk).before a0 Z = true) (hty : parseFieldDescriptor d = some ty) (hn : narrow ty v = v) (hf : fits ty v = true) :
    ∃ T' h' L', Bx own bs ml Z p l e R s m args below meth c T' h' L' cells slots ∧ Fr n0 L' ∧ Wr h h' a (Jvm.RoadKit.slotOf Z O f d) v ∧ ∀ {P : Outcome → State → Prop}, OG p.tables e below P (T'.setTop (mkF m pc' Ls rest)) → OG p.tables e below P (T.setTop (mkF m pc Ls (v :: .ref a :: rest))) := by
  subst hp
  obtain ⟨X, hx, hby, hml, hown, hZ, eT⟩ := B
  obtain ⟨T', h', X', e', W, st⟩ := putF X hx hZ hown w via eT F E L wi hty hn hf (g := mkF m pc Ls (v :: .ref a :: rest)) rfl rfl (hb hby hd)
  exact ⟨T', h', _, ⟨X', hx, hby, hml, hown, hZ, e'⟩, Fr.snoc X' N ge, W, fun k => k.of st⟩
theorem o_new (B : Bx own bs ml Z p l e R s m args below meth c T h locs cells slots) {C : String} {index : Nat} (pc pc' : Nat) (hd : decode bs pc = .ok (.new index, 3)) (hp : pc + 3 = pc') (w : (Cond.classLink own index C).before a0 Z = true) (wi : (Cond.instantiable C n).before a0 Z = true) (wz : (Cond.initialized C).before a0 Z = true) (hc : cells + 1 ≤ R.cells) (hl : slots + n ≤ R.slots) :
    ∃ a T' h', a = h.size ∧ Bx own bs ml Z p l e R s m args below meth c T' h' locs (cells + 1) (slots + n) ∧ Ext h h' ∧ Exa Z h' a C ∧ (∀ {O nm d : String} {ty : FieldType}, Laid Z a0 C O nm d → parseFieldDescriptor d = some ty → Fld Z h' a O nm d (defaultValue ty)) ∧ ∀ {P : Outcome → State → Prop}, OG p.tables e below P (T'.setTop (mkF m pc' Ls (.ref a :: rest))) → OG p.tables e below P (T.setTop (mkF m pc Ls rest)) := by
  subst hp
  obtain ⟨X, hx, hby, hml, hown, hZ, eT⟩ := B
  obtain ⟨T', h', X', e', E, A, D, -, st⟩ := newO X hx hZ hown w wi wz eT (g := mkF m pc Ls rest) rfl (hb hby hd) hc hl
  exact ⟨h.size, T', h', rfl, ⟨X', hx, hby, hml, hown, hZ, e'⟩, E, A, D, fun k => k.of st⟩
theorem o_initO (B : Bx own bs ml Z p l e R s m args below meth c T h locs cells slots) {index : Nat} (pc pc' : Nat) (hd : decode bs pc = .ok (.invokespecial index, 3)) (hp : pc + 3 = pc') (w1 : (Cond.methodLink own index Lib.objectInit).before a0 Z = true) (w2 : (Cond.instanceMethod Lib.objectInit).before a0 Z = true) (w3 : (Cond.code Lib.objectInit ⟨#[0xb1]⟩ 1 none).before a0 Z = true) (hsz : Ls.size = ml) (W : Nat) (hW : (rest.map fun v => v.category).sum ≤ W) (hf : 1 ≤ R.frames) (hl : W + 12 ≤ R.locals) :
    ∃ T', Bx own bs ml Z p l e R s m args below meth c T' h locs cells slots ∧ ∀ {P : Outcome → State → Prop}, OG p.tables e below P (T'.setTop (mkF m pc' Ls rest)) → OG p.tables e below P (T.setTop (mkF m pc Ls (.ref a :: rest))) := by
  subst hp
  obtain ⟨X, hx, hby, hml, hown, hZ, eT⟩ := B
  obtain ⟨T', X', e', st⟩ := initO X hx hZ hown w1 w2 w3 eT (g := mkF m pc Ls (.ref a :: rest)) rfl (by rw [hml]; exact hsz) rfl (hb hby hd) hf (W := W) (by simpa using hW) hl
  exact ⟨T', ⟨X', hx, hby, hml, hown, hZ, e'⟩, fun k => k.of st⟩
theorem o_callN {index : Nat} {y : MethodName} {bytes : ByteArray} {maxL : Nat} {rm : Room} {as' : Array Value} {Q : Option Value → Heap → List Loc → Prop} {ps : List FieldType} {rt : Option FieldType}
    (B : Bx own bs ml Z p l e R s m args below meth c T h locs cells slots) (pc pc' : Nat) (hd : decode bs pc = .ok (.invokespecial index, 3)) (hp : pc + 3 = pc') (hy1 : y.name = "<init>")
    (w1 : (Cond.methodLink own index y).before a0 Z = true) (w2 : (Cond.instanceMethod y).before a0 Z = true) (w3 : (Cond.initialized y.cls).before a0 Z = true) (w4 : (Cond.code y bytes maxL none).before a0 Z = true) (hy : y.cls ≠ "java/lang/invoke/MethodHandle" ∧ y.cls ≠ "java/lang/invoke/VarHandle")
    (hM : Met l Z y bytes maxL none rm as' h Q) (W : Nat) (argsL rest : List Value) (hpd : parseMethodDescriptor y.desc = some ⟨ps, rt⟩) (hlen : argsL.length = ps.length) (has : (.ref a :: argsL).toArray = as') {st : List Value} (hst : st = argsL.reverse ++ .ref a :: rest) (hsz : Ls.size = ml)
    (hW : (rest.map fun v => v.category).sum ≤ W) (hf : rm.frames + 1 ≤ R.frames) (hl : W + (maxL + 11) + rm.locals ≤ R.locals) (hcl : cells + rm.cells ≤ R.cells) (hsl : slots + rm.slots ≤ R.slots) :
    ∃ v T' L, Bx own bs ml Z p l e R s m args below meth c T' T'.heap (locs ++ L) (cells + rm.cells) (slots + rm.slots) ∧ Q v T'.heap L ∧
      ∀ {P : Outcome → State → Prop}, OG p.tables e below P (T'.setTop (mkF m pc' Ls (v.toList ++ rest))) → OG p.tables e below P (T.setTop (mkF m pc Ls st)) := by
  subst hp hst
  obtain ⟨X, hx, hby, hml, hown, hZ, eT⟩ := B
  obtain ⟨v, vm1, ⟨T', L', k', n'⟩, -, X', ⟨Lc, hQ, l', y', z'⟩, st⟩ := X.specialBack hx (y := y) hy1 hown (mvT hZ w1) (mvT hZ w2) (mvT hZ w4) hy (backOf (W := W) hM hZ w4 w3 hf hl) (g := mkF m pc Ls (argsL.reverse ++ .ref a :: rest)) rfl (by rw [hml]; exact hsz) (Steps.refl _) (a := a) (argsL := argsL) (rest := rest) (lenOf hpd hlen) rfl (by simpa using hW) (hb hby hd) (fun _ _ => ⟨has, eT, hcl, hsl⟩)
  dsimp only [Pt.U, Pt.locs, Pt.cells, Pt.slots] at X' l' y' z' st hQ
  subst l' y' z'
  exact ⟨v, T', Lc, ⟨X', hx, hby, hml, hown, hZ, rfl⟩, hQ, fun k => k.of fun t q => st.trans q⟩
theorem o_callV {index : Nat} {y : MethodName} {C : String} {bytes : ByteArray} {maxL : Nat} {ret : Option FieldType} {rm : Room} {as' : Array Value} {Q : Option Value → Heap → List Loc → Prop} {ps : List FieldType} {rt : Option FieldType}
    (B : Bx own bs ml Z p l e R s m args below meth c T h locs cells slots) (pc pc' : Nat) (hd : decode bs pc = .ok (.invokevirtual index, 3)) (hp : pc + 3 = pc')
    (w1 : (Cond.methodLink own index y).before a0 Z = true) (w2 : (Cond.declares y).before a0 Z = true) (w5 : (Cond.selects C y y).before a0 Z = true) (w6 : (Cond.instanceMethod y).before a0 Z = true) (w3 : (Cond.initialized y.cls).before a0 Z = true) (w4 : (Cond.code y bytes maxL ret).before a0 Z = true) (hy : y.cls ≠ "java/lang/invoke/MethodHandle" ∧ y.cls ≠ "java/lang/invoke/VarHandle") (E : Exa Z h a C)
    (hM : Met l Z y bytes maxL ret rm as' h Q) (W : Nat) (argsL rest : List Value) (hpd : parseMethodDescriptor y.desc = some ⟨ps, rt⟩) (hlen : argsL.length = ps.length) (has : (.ref a :: argsL).toArray = as') {st : List Value} (hst : st = argsL.reverse ++ .ref a :: rest) (hsz : Ls.size = ml)
    (hW : (rest.map fun v => v.category).sum ≤ W) (hf : rm.frames + 1 ≤ R.frames) (hl : W + (maxL + 11) + rm.locals ≤ R.locals) (hcl : cells + rm.cells ≤ R.cells) (hsl : slots + rm.slots ≤ R.slots) :
    ∃ v T' L, Bx own bs ml Z p l e R s m args below meth c T' T'.heap (locs ++ L) (cells + rm.cells) (slots + rm.slots) ∧ Q v T'.heap L ∧
      ∀ {P : Outcome → State → Prop}, OG p.tables e below P (T'.setTop (mkF m pc' Ls (v.toList ++ rest))) → OG p.tables e below P (T.setTop (mkF m pc Ls st)) := by
  subst hp hst
  obtain ⟨X, hx, hby, hml, hown, hZ, eT⟩ := B
  obtain ⟨cq, kq, qa, qb, qc⟩ := isOf hZ eT E
  obtain ⟨v, vm1, ⟨T', L', k', n'⟩, -, X', ⟨Lc, hQ, l', y', z'⟩, st⟩ := X.virtualBack hx (y := y) (z := y) hown (mvT hZ w1) (mvT hZ w2) (notFace_of_selects (args := #[]) (mvT hZ w5)) (mvT hZ w5) (mvT hZ w6) hy (backOf (W := W) hM hZ w4 w3 hf hl) qa qc (g := mkF m pc Ls (argsL.reverse ++ .ref a :: rest)) rfl (by rw [hml]; exact hsz) (Steps.refl _) (argsL := argsL) (rest := rest) (lenOf hpd hlen) rfl (by simpa using hW) (hb hby hd) (fun _ _ => ⟨has, eT, hcl, hsl⟩)
  dsimp only [Pt.U, Pt.locs, Pt.cells, Pt.slots] at X' l' y' z' st hQ
  subst l' y' z'
  exact ⟨v, T', Lc, ⟨X', hx, hby, hml, hown, hZ, rfl⟩, hQ, fun k => k.of fun t q => st.trans q⟩
theorem o_callVP {index : Nat} {y : MethodName} {C : String} {bytes : ByteArray} {maxL : Nat} {ret : Option FieldType} {fr lo : Nat} {as' : Array Value} {r : Value} {ps : List FieldType} {rt : Option FieldType}
    (B : Bx own bs ml Z p l e R s m args below meth c T h locs cells slots) (pc pc' : Nat) (hd : decode bs pc = .ok (.invokevirtual index, 3)) (hp : pc + 3 = pc')
    (w1 : (Cond.methodLink own index y).before a0 Z = true) (w2 : (Cond.declares y).before a0 Z = true) (w5 : (Cond.selects C y y).before a0 Z = true) (w6 : (Cond.instanceMethod y).before a0 Z = true) (w3 : (Cond.initialized y.cls).before a0 Z = true) (w4 : (Cond.code y bytes maxL ret).before a0 Z = true) (hy : y.cls ≠ "java/lang/invoke/MethodHandle" ∧ y.cls ≠ "java/lang/invoke/VarHandle") (E : Exa Z h a C)
    (hM : Met l Z y bytes maxL ret ({ frames := fr, cells := 0, slots := 0, locals := lo } : Room) as' h (Pu (some r) h)) (W : Nat) (argsL rest : List Value) (hpd : parseMethodDescriptor y.desc = some ⟨ps, rt⟩) (hlen : argsL.length = ps.length) (has : (.ref a :: argsL).toArray = as') {st : List Value} (hst : st = argsL.reverse ++ .ref a :: rest) (hsz : Ls.size = ml)
    (hW : (rest.map fun v => v.category).sum ≤ W) (hf : fr + 1 ≤ R.frames) (hl : W + (maxL + 11) + lo ≤ R.locals) (hcl : cells ≤ R.cells) (hsl : slots ≤ R.slots) :
    ∃ T', Bx own bs ml Z p l e R s m args below meth c T' h locs cells slots ∧
      ∀ {P : Outcome → State → Prop}, OG p.tables e below P (T'.setTop (mkF m pc' Ls (r :: rest))) → OG p.tables e below P (T.setTop (mkF m pc Ls st)) := by
  obtain ⟨v, T', L, B', ⟨rfl, rfl, hh⟩, st⟩ := o_callV B pc pc' hd hp w1 w2 w5 w6 w3 w4 hy E hM W argsL rest hpd hlen has hst hsz hW hf hl hcl hsl
  rw [hh, List.append_nil] at B'
  exact ⟨T', B', st⟩
theorem o_callNP {index : Nat} {y : MethodName} {bytes : ByteArray} {maxL : Nat} {fr lo : Nat} {as' : Array Value} {ps : List FieldType} {rt : Option FieldType}
    (B : Bx own bs ml Z p l e R s m args below meth c T h locs cells slots) (pc pc' : Nat) (hd : decode bs pc = .ok (.invokespecial index, 3)) (hp : pc + 3 = pc') (hy1 : y.name = "<init>")
    (w1 : (Cond.methodLink own index y).before a0 Z = true) (w2 : (Cond.instanceMethod y).before a0 Z = true) (w3 : (Cond.initialized y.cls).before a0 Z = true) (w4 : (Cond.code y bytes maxL none).before a0 Z = true) (hy : y.cls ≠ "java/lang/invoke/MethodHandle" ∧ y.cls ≠ "java/lang/invoke/VarHandle")
    (hM : Met l Z y bytes maxL none ({ frames := fr, cells := 0, slots := 0, locals := lo } : Room) as' h (Pu none h)) (W : Nat) (argsL rest : List Value) (hpd : parseMethodDescriptor y.desc = some ⟨ps, rt⟩) (hlen : argsL.length = ps.length) (has : (.ref a :: argsL).toArray = as') {st : List Value} (hst : st = argsL.reverse ++ .ref a :: rest) (hsz : Ls.size = ml)
    (hW : (rest.map fun v => v.category).sum ≤ W) (hf : fr + 1 ≤ R.frames) (hl : W + (maxL + 11) + lo ≤ R.locals) (hcl : cells ≤ R.cells) (hsl : slots ≤ R.slots) :
    ∃ T', Bx own bs ml Z p l e R s m args below meth c T' h locs cells slots ∧
      ∀ {P : Outcome → State → Prop}, OG p.tables e below P (T'.setTop (mkF m pc' Ls rest)) → OG p.tables e below P (T.setTop (mkF m pc Ls st)) := by
  obtain ⟨v, T', L, B', ⟨rfl, rfl, hh⟩, st⟩ := o_callN B pc pc' hd hp hy1 w1 w2 w3 w4 hy hM W argsL rest hpd hlen has hst hsz hW hf hl hcl hsl
  rw [hh, List.append_nil] at B'
  exact ⟨T', B', st⟩
end Walk2
theorem d1_0 : decode prog_6_method_7_code 0 = .ok (.aload_n 1, 1) := by decide +kernel
theorem d1_1 : decode prog_6_method_7_code 1 = .ok (.arraylength, 1) := by decide +kernel
theorem d1_2 : decode prog_6_method_7_code 2 = .ok (.iconst 1, 1) := by decide +kernel
theorem d1_3 : decode prog_6_method_7_code 3 = .ok (.isub, 1) := by decide +kernel
theorem d1_4 : decode prog_6_method_7_code 4 = .ok (.istore_n 3, 1) := by decide +kernel
theorem d1_5 : decode prog_6_method_7_code 5 = .ok (.iload_n 3, 1) := by decide +kernel
theorem d1_6 : decode prog_6_method_7_code 6 = .ok (.ifCond .lt 26, 3) := by decide +kernel
theorem d1_9 : decode prog_6_method_7_code 9 = .ok (.aload_n 1, 1) := by decide +kernel
theorem d1_10 : decode prog_6_method_7_code 10 = .ok (.iload_n 3, 1) := by decide +kernel
theorem d1_11 : decode prog_6_method_7_code 11 = .ok (.iaload, 1) := by decide +kernel
theorem d1_12 : decode prog_6_method_7_code 12 = .ok (.aload_n 2, 1) := by decide +kernel
theorem d1_13 : decode prog_6_method_7_code 13 = .ok (.aload_n 0, 1) := by decide +kernel
theorem d1_14 : decode prog_6_method_7_code 14 = .ok (.iload_n 3, 1) := by decide +kernel
theorem d1_15 : decode prog_6_method_7_code 15 = .ok (.iaload, 1) := by decide +kernel
theorem d1_16 : decode prog_6_method_7_code 16 = .ok (.iaload, 1) := by decide +kernel
theorem d1_17 : decode prog_6_method_7_code 17 = .ok (.iconst 1, 1) := by decide +kernel
theorem d1_18 : decode prog_6_method_7_code 18 = .ok (.isub, 1) := by decide +kernel
theorem d1_19 : decode prog_6_method_7_code 19 = .ok (.if_icmp .ne 13, 3) := by decide +kernel
theorem d1_22 : decode prog_6_method_7_code 22 = .ok (.aload_n 1, 1) := by decide +kernel
theorem d1_23 : decode prog_6_method_7_code 23 = .ok (.iload_n 3, 1) := by decide +kernel
theorem d1_24 : decode prog_6_method_7_code 24 = .ok (.iconst 0, 1) := by decide +kernel
theorem d1_25 : decode prog_6_method_7_code 25 = .ok (.iastore, 1) := by decide +kernel
theorem d1_26 : decode prog_6_method_7_code 26 = .ok (.iinc 3 (-1), 3) := by decide +kernel
theorem d1_29 : decode prog_6_method_7_code 29 = .ok (.goto (-24), 3) := by decide +kernel
theorem d1_32 : decode prog_6_method_7_code 32 = .ok (.iload_n 3, 1) := by decide +kernel
theorem d1_33 : decode prog_6_method_7_code 33 = .ok (.ifCond .ge 5, 3) := by decide +kernel
theorem d1_36 : decode prog_6_method_7_code 36 = .ok (.iconst 0, 1) := by decide +kernel
theorem d1_37 : decode prog_6_method_7_code 37 = .ok (.ireturn, 1) := by decide +kernel
theorem d1_38 : decode prog_6_method_7_code 38 = .ok (.aload_n 1, 1) := by decide +kernel
theorem d1_39 : decode prog_6_method_7_code 39 = .ok (.iload_n 3, 1) := by decide +kernel
theorem d1_40 : decode prog_6_method_7_code 40 = .ok (.dup2, 1) := by decide +kernel
theorem d1_41 : decode prog_6_method_7_code 41 = .ok (.iaload, 1) := by decide +kernel
theorem d1_42 : decode prog_6_method_7_code 42 = .ok (.iconst 1, 1) := by decide +kernel
theorem d1_43 : decode prog_6_method_7_code 43 = .ok (.iadd, 1) := by decide +kernel
theorem d1_44 : decode prog_6_method_7_code 44 = .ok (.iastore, 1) := by decide +kernel
theorem d1_45 : decode prog_6_method_7_code 45 = .ok (.iconst 1, 1) := by decide +kernel
theorem d1_46 : decode prog_6_method_7_code 46 = .ok (.ireturn, 1) := by decide +kernel
theorem pl1 : plainFor (⟨"com/example/crosshatch/crosshatch/design/ParameterSets", "nextValues", "([I[I[I)Z"⟩ : MethodName) = true := by first | exact plainFor_of_name (by first | (simp [plainName, overriddenIn]; done) | decide +kernel) | decide +kernel
def w1_1 (gs : Nat → Int32) (gv : Nat → Int32) (gc : Nat → Int32) : Nat → Int32 := fun j => if j = 2 then (0 : Int32) else gv j
def w1_2 (gs : Nat → Int32) (gv : Nat → Int32) (gc : Nat → Int32) : Nat → Int32 := fun j => if j = 1 then (0 : Int32) else (w1_1 gs gv gc) j
def w1_3 (gs : Nat → Int32) (gv : Nat → Int32) (gc : Nat → Int32) : Nat → Int32 := fun j => if j = 0 then (0 : Int32) else (w1_2 gs gv gc) j
def w1_4 (gs : Nat → Int32) (gv : Nat → Int32) (gc : Nat → Int32) : Nat → Int32 := fun j => if j = 0 then (((w1_2 gs gv gc) 0) + (1 : Int32)) else (w1_2 gs gv gc) j
def w1_5 (gs : Nat → Int32) (gv : Nat → Int32) (gc : Nat → Int32) : Nat → Int32 := fun j => if j = 1 then (((w1_1 gs gv gc) 1) + (1 : Int32)) else (w1_1 gs gv gc) j
def w1_6 (gs : Nat → Int32) (gv : Nat → Int32) (gc : Nat → Int32) : Nat → Int32 := fun j => if j = 2 then ((gv 2) + (1 : Int32)) else gv j
def f1 (gs : Nat → Int32) (gv : Nat → Int32) (gc : Nat → Int32) : Int32 := (if (gv 2) = ((gc (gs 2).toInt.toNat) - (1 : Int32)) then (if ((w1_1 gs gv gc) 1) = ((gc (gs 1).toInt.toNat) - (1 : Int32)) then (if ((w1_2 gs gv gc) 0) = ((gc (gs 0).toInt.toNat) - (1 : Int32)) then (0 : Int32) else (1 : Int32)) else (1 : Int32)) else (1 : Int32))
def o1_0 (gs : Nat → Int32) (gv : Nat → Int32) (gc : Nat → Int32) : Nat → Int32 := (if (gv 2) = ((gc (gs 2).toInt.toNat) - (1 : Int32)) then (if ((w1_1 gs gv gc) 1) = ((gc (gs 1).toInt.toNat) - (1 : Int32)) then (if ((w1_2 gs gv gc) 0) = ((gc (gs 0).toInt.toNat) - (1 : Int32)) then (w1_3 gs gv gc) else (w1_4 gs gv gc)) else (w1_5 gs gv gc)) else (w1_6 gs gv gc))
def Q1 (Z : State) (gs : Nat → Int32) (gv : Nat → Int32) (gc : Nat → Int32) (x0 : Addr) (x1 : Addr) (x2 : Addr) (h0 : Heap) (n0 : Nat) (v : Option Value) (h : Heap) (L : List Loc) : Prop := v = some (.int (f1 gs gv gc)) ∧ Fr n0 L ∧ Keep h0 h [x1] ∧ AI Z h x1 .int 3 (o1_0 gs gv gc)
set_option maxRecDepth 65536 in
set_option maxHeartbeats 40000000 in
theorem rm1 (l : Launch) (Z : State) (a0 : Array Value) (hw : ∀ d ∈ tables_1, d.before a0 Z = true) (gs : Nat → Int32) (gv : Nat → Int32) (gc : Nat → Int32) (x0 : Addr) (x1 : Addr) (x2 : Addr) (h0 : Heap) (n0 : Nat) (hz : n0 ≤ h0.size) (A0 : AI Z h0 x0 .int 3 gs) (A1 : AI Z h0 x1 .int 3 gv) (A2 : AI Z h0 x2 .int 4 gc) (gw_x1 : n0 ≤ x1) (ne_x0_x1 : x0 ≠ x1) (ne_x2_x1 : x2 ≠ x1) (hs : ∀ j, j < 3 → 0 ≤ (gs j).toInt ∧ (gs j).toInt < 4) :
    Met l Z (⟨"com/example/crosshatch/crosshatch/design/ParameterSets", "nextValues", "([I[I[I)Z"⟩ : MethodName) prog_6_method_7_code 4 (some .boolean) ({ frames := 0, cells := 0, slots := 0, locals := 0 } : Room) #[(.ref x0), (.ref x1), (.ref x2)] h0 (Q1 Z gs gv gc x0 x1 x2 h0 n0) := by
  refine enter pl1 #[.val (.ref x0), .val (.ref x1), .val (.ref x2), .unset] rfl ?_
  intro p e s m below meth c T B hret hlk hnm
  have N0 := Fr.nil n0
  refine o_aloadN B 0 1 (v := (.ref x1)) d1_0 rfl rfl rfl ?_
  refine o_alenI B 1 2 A1 (3 : Int32) d1_1 rfl (by decide) ?_
  refine o_iconst B 2 3 (1 : Int32) d1_2 rfl (by decide) ?_
  refine o_isub B 3 4 d1_3 rfl ?_
  refine o_topI (show ((3 : Int32) - (1 : Int32)) = (2 : Int32) by decide) ?_
  refine o_istoreN B 4 5 (l' := #[.val (.ref x0), .val (.ref x1), .val (.ref x2), .val (.int (2 : Int32))]) d1_4 rfl rfl ?_
  refine o_iloadN B 5 6 (v := (2 : Int32)) d1_5 rfl rfl ?_
  refine o_ifN B 6 9 d1_6 rfl (XT.i0_lt_f (by decide)) ?_
  refine o_aloadN B 9 10 (v := (.ref x1)) d1_9 rfl rfl rfl ?_
  refine o_iloadN B 10 11 (v := (2 : Int32)) d1_10 rfl rfl ?_
  refine o_iaload B 11 12 A1 2 (gv 2) d1_11 rfl (by decide) (by decide) (by decide) rfl ?_
  refine o_aloadN B 12 13 (v := (.ref x2)) d1_12 rfl rfl rfl ?_
  refine o_aloadN B 13 14 (v := (.ref x0)) d1_13 rfl rfl rfl ?_
  refine o_iloadN B 14 15 (v := (2 : Int32)) d1_14 rfl rfl ?_
  refine o_iaload B 15 16 A0 2 (gs 2) d1_15 rfl (by decide) (by decide) (by decide) rfl ?_
  have j5 := ix_of (j := (gs 2)) (k := (gs 2).toInt.toNat) (by have := hs 2 (by decide); omega)
  refine o_iaload B 16 17 A2 (gs 2).toInt.toNat (gc (gs 2).toInt.toNat) d1_16 rfl j5.1 j5.2 (by have := hs 2 (by decide); omega) rfl ?_
  refine o_iconst B 17 18 (1 : Int32) d1_17 rfl (by decide) ?_
  refine o_isub B 18 19 d1_18 rfl ?_
  by_cases k1 : (gv 2) = ((gc (gs 2).toInt.toNat) - (1 : Int32))
  · refine o_icN B 19 22 d1_19 rfl (XT.ii_ne_f k1) ?_
    refine o_aloadN B 22 23 (v := (.ref x1)) d1_22 rfl rfl rfl ?_
    refine o_iloadN B 23 24 (v := (2 : Int32)) d1_23 rfl rfl ?_
    refine o_iconst B 24 25 (0 : Int32) d1_24 rfl (by decide) ?_
    obtain ⟨T6, h6, L6, B6, N6, W6, Q6, c6⟩ := o_iastore B N0 gw_x1 25 26 A1 (j := (2 : Int32)) (x := (0 : Int32)) 2 (0 : Int32) d1_25 rfl (by decide) (by decide) (by decide) rfl (Ls := #[.val (.ref x0), .val (.ref x1), .val (.ref x2), .val (.int (2 : Int32))]) (rest := [])
    have A6 : AI Z h6 x1 .int 3 (w1_1 gs gv gc) := Q6
    refine c6 ?_
    refine o_iincC B6 26 29 (l' := #[.val (.ref x0), .val (.ref x1), .val (.ref x2), .val (.int (1 : Int32))]) (-1 : Int32) (1 : Int32) d1_26 rfl (by decide) rfl (by decide) rfl ?_
    refine o_goto B6 29 5 d1_29 (by decide) (by decide) ?_
    refine o_iloadN B6 5 6 (v := (1 : Int32)) d1_5 rfl rfl ?_
    refine o_ifN B6 6 9 d1_6 rfl (XT.i0_lt_f (by decide)) ?_
    refine o_aloadN B6 9 10 (v := (.ref x1)) d1_9 rfl rfl rfl ?_
    refine o_iloadN B6 10 11 (v := (1 : Int32)) d1_10 rfl rfl ?_
    refine o_iaload B6 11 12 A6 1 ((w1_1 gs gv gc) 1) d1_11 rfl (by decide) (by decide) (by decide) rfl ?_
    refine o_aloadN B6 12 13 (v := (.ref x2)) d1_12 rfl rfl rfl ?_
    refine o_aloadN B6 13 14 (v := (.ref x0)) d1_13 rfl rfl rfl ?_
    refine o_iloadN B6 14 15 (v := (1 : Int32)) d1_14 rfl rfl ?_
    have F9 := (A0.other W6 ne_x0_x1)
    refine o_iaload B6 15 16 F9 1 (gs 1) d1_15 rfl (by decide) (by decide) (by decide) rfl ?_
    have F11 := (A2.other W6 ne_x2_x1)
    have j12 := ix_of (j := (gs 1)) (k := (gs 1).toInt.toNat) (by have := hs 1 (by decide); omega)
    refine o_iaload B6 16 17 F11 (gs 1).toInt.toNat (gc (gs 1).toInt.toNat) d1_16 rfl j12.1 j12.2 (by have := hs 1 (by decide); omega) rfl ?_
    refine o_iconst B6 17 18 (1 : Int32) d1_17 rfl (by decide) ?_
    refine o_isub B6 18 19 d1_18 rfl ?_
    by_cases k2 : ((w1_1 gs gv gc) 1) = ((gc (gs 1).toInt.toNat) - (1 : Int32))
    · refine o_icN B6 19 22 d1_19 rfl (XT.ii_ne_f k2) ?_
      refine o_aloadN B6 22 23 (v := (.ref x1)) d1_22 rfl rfl rfl ?_
      refine o_iloadN B6 23 24 (v := (1 : Int32)) d1_23 rfl rfl ?_
      refine o_iconst B6 24 25 (0 : Int32) d1_24 rfl (by decide) ?_
      obtain ⟨T13, h13, L13, B13, N13, W13, Q13, c13⟩ := o_iastore B6 N6 gw_x1 25 26 A6 (j := (1 : Int32)) (x := (0 : Int32)) 1 (0 : Int32) d1_25 rfl (by decide) (by decide) (by decide) rfl (Ls := #[.val (.ref x0), .val (.ref x1), .val (.ref x2), .val (.int (1 : Int32))]) (rest := [])
      have A13 : AI Z h13 x1 .int 3 (w1_2 gs gv gc) := Q13
      refine c13 ?_
      refine o_iincC B13 26 29 (l' := #[.val (.ref x0), .val (.ref x1), .val (.ref x2), .val (.int (0 : Int32))]) (-1 : Int32) (0 : Int32) d1_26 rfl (by decide) rfl (by decide) rfl ?_
      refine o_goto B13 29 5 d1_29 (by decide) (by decide) ?_
      refine o_iloadN B13 5 6 (v := (0 : Int32)) d1_5 rfl rfl ?_
      refine o_ifN B13 6 9 d1_6 rfl (XT.i0_lt_f (by decide)) ?_
      refine o_aloadN B13 9 10 (v := (.ref x1)) d1_9 rfl rfl rfl ?_
      refine o_iloadN B13 10 11 (v := (0 : Int32)) d1_10 rfl rfl ?_
      refine o_iaload B13 11 12 A13 0 ((w1_2 gs gv gc) 0) d1_11 rfl (by decide) (by decide) (by decide) rfl ?_
      refine o_aloadN B13 12 13 (v := (.ref x2)) d1_12 rfl rfl rfl ?_
      refine o_aloadN B13 13 14 (v := (.ref x0)) d1_13 rfl rfl rfl ?_
      refine o_iloadN B13 14 15 (v := (0 : Int32)) d1_14 rfl rfl ?_
      have F16 := (F9.other W13 ne_x0_x1)
      refine o_iaload B13 15 16 F16 0 (gs 0) d1_15 rfl (by decide) (by decide) (by decide) rfl ?_
      have F18 := (F11.other W13 ne_x2_x1)
      have j19 := ix_of (j := (gs 0)) (k := (gs 0).toInt.toNat) (by have := hs 0 (by decide); omega)
      refine o_iaload B13 16 17 F18 (gs 0).toInt.toNat (gc (gs 0).toInt.toNat) d1_16 rfl j19.1 j19.2 (by have := hs 0 (by decide); omega) rfl ?_
      refine o_iconst B13 17 18 (1 : Int32) d1_17 rfl (by decide) ?_
      refine o_isub B13 18 19 d1_18 rfl ?_
      by_cases k3 : ((w1_2 gs gv gc) 0) = ((gc (gs 0).toInt.toNat) - (1 : Int32))
      · refine o_icN B13 19 22 d1_19 rfl (XT.ii_ne_f k3) ?_
        refine o_aloadN B13 22 23 (v := (.ref x1)) d1_22 rfl rfl rfl ?_
        refine o_iloadN B13 23 24 (v := (0 : Int32)) d1_23 rfl rfl ?_
        refine o_iconst B13 24 25 (0 : Int32) d1_24 rfl (by decide) ?_
        obtain ⟨T20, h20, L20, B20, N20, W20, Q20, c20⟩ := o_iastore B13 N13 gw_x1 25 26 A13 (j := (0 : Int32)) (x := (0 : Int32)) 0 (0 : Int32) d1_25 rfl (by decide) (by decide) (by decide) rfl (Ls := #[.val (.ref x0), .val (.ref x1), .val (.ref x2), .val (.int (0 : Int32))]) (rest := [])
        have A20 : AI Z h20 x1 .int 3 (w1_3 gs gv gc) := Q20
        refine c20 ?_
        refine o_iincC B20 26 29 (l' := #[.val (.ref x0), .val (.ref x1), .val (.ref x2), .val (.int (-1 : Int32))]) (-1 : Int32) (-1 : Int32) d1_26 rfl (by decide) rfl (by decide) rfl ?_
        refine o_goto B20 29 5 d1_29 (by decide) (by decide) ?_
        refine o_iloadN B20 5 6 (v := (-1 : Int32)) d1_5 rfl rfl ?_
        refine o_ifY B20 6 32 d1_6 (XT.i0_lt_t (by decide)) (by decide) (by decide) ?_
        refine o_iloadN B20 32 33 (v := (-1 : Int32)) d1_32 rfl rfl ?_
        refine o_ifN B20 33 36 d1_33 rfl (XT.i0_ge_f (by decide)) ?_
        refine o_iconst B20 36 37 (0 : Int32) d1_36 rfl (by decide) ?_
        refine o_retZ (t := .boolean) B20 37 d1_37 hret hlk (by simp) (by decide) (by decide) ⟨(congrArg (fun z => some (Value.int z)) ((show nar .boolean (0 : Int32) = (0 : Int32) from rfl).trans (show f1 gs gv gc = (0 : Int32) from (if_pos k1).trans ((if_pos k2).trans ((if_pos k3).trans (rfl)))).symm)), N20, ((((Keep.refl _ _).wr W6 (Or.inl (List.mem_of_getElem? (i := 0) rfl))).wr W13 (Or.inl (List.mem_of_getElem? (i := 0) rfl))).wr W20 (Or.inl (List.mem_of_getElem? (i := 0) rfl))), (by rw [show (o1_0 gs gv gc) = (w1_3 gs gv gc) from (if_pos k1).trans ((if_pos k2).trans ((if_pos k3).trans (rfl)))]; exact A20)⟩
      · refine o_icY B13 19 32 d1_19 (XT.ii_ne_t k3) (by decide) (by decide) ?_
        refine o_iloadN B13 32 33 (v := (0 : Int32)) d1_32 rfl rfl ?_
        refine o_ifY B13 33 38 d1_33 (XT.i0_ge_t (by decide)) (by decide) (by decide) ?_
        refine o_aloadN B13 38 39 (v := (.ref x1)) d1_38 rfl rfl rfl ?_
        refine o_iloadN B13 39 40 (v := (0 : Int32)) d1_39 rfl rfl ?_
        refine o_dup2 B13 40 41 d1_40 rfl rfl rfl ?_
        refine o_iaload B13 41 42 A13 0 ((w1_2 gs gv gc) 0) d1_41 rfl (by decide) (by decide) (by decide) rfl ?_
        refine o_iconst B13 42 43 (1 : Int32) d1_42 rfl (by decide) ?_
        refine o_iadd B13 43 44 d1_43 rfl ?_
        obtain ⟨T22, h22, L22, B22, N22, W22, Q22, c22⟩ := o_iastore B13 N13 gw_x1 44 45 A13 (j := (0 : Int32)) (x := (((w1_2 gs gv gc) 0) + (1 : Int32))) 0 (((w1_2 gs gv gc) 0) + (1 : Int32)) d1_44 rfl (by decide) (by decide) (by decide) rfl (Ls := #[.val (.ref x0), .val (.ref x1), .val (.ref x2), .val (.int (0 : Int32))]) (rest := [])
        have A22 : AI Z h22 x1 .int 3 (w1_4 gs gv gc) := Q22
        refine c22 ?_
        refine o_iconst B22 45 46 (1 : Int32) d1_45 rfl (by decide) ?_
        refine o_retZ (t := .boolean) B22 46 d1_46 hret hlk (by simp) (by decide) (by decide) ⟨(congrArg (fun z => some (Value.int z)) ((show nar .boolean (1 : Int32) = (1 : Int32) from rfl).trans (show f1 gs gv gc = (1 : Int32) from (if_pos k1).trans ((if_pos k2).trans ((if_neg k3).trans (rfl)))).symm)), N22, ((((Keep.refl _ _).wr W6 (Or.inl (List.mem_of_getElem? (i := 0) rfl))).wr W13 (Or.inl (List.mem_of_getElem? (i := 0) rfl))).wr W22 (Or.inl (List.mem_of_getElem? (i := 0) rfl))), (by rw [show (o1_0 gs gv gc) = (w1_4 gs gv gc) from (if_pos k1).trans ((if_pos k2).trans ((if_neg k3).trans (rfl)))]; exact A22)⟩
    · refine o_icY B6 19 32 d1_19 (XT.ii_ne_t k2) (by decide) (by decide) ?_
      refine o_iloadN B6 32 33 (v := (1 : Int32)) d1_32 rfl rfl ?_
      refine o_ifY B6 33 38 d1_33 (XT.i0_ge_t (by decide)) (by decide) (by decide) ?_
      refine o_aloadN B6 38 39 (v := (.ref x1)) d1_38 rfl rfl rfl ?_
      refine o_iloadN B6 39 40 (v := (1 : Int32)) d1_39 rfl rfl ?_
      refine o_dup2 B6 40 41 d1_40 rfl rfl rfl ?_
      refine o_iaload B6 41 42 A6 1 ((w1_1 gs gv gc) 1) d1_41 rfl (by decide) (by decide) (by decide) rfl ?_
      refine o_iconst B6 42 43 (1 : Int32) d1_42 rfl (by decide) ?_
      refine o_iadd B6 43 44 d1_43 rfl ?_
      obtain ⟨T24, h24, L24, B24, N24, W24, Q24, c24⟩ := o_iastore B6 N6 gw_x1 44 45 A6 (j := (1 : Int32)) (x := (((w1_1 gs gv gc) 1) + (1 : Int32))) 1 (((w1_1 gs gv gc) 1) + (1 : Int32)) d1_44 rfl (by decide) (by decide) (by decide) rfl (Ls := #[.val (.ref x0), .val (.ref x1), .val (.ref x2), .val (.int (1 : Int32))]) (rest := [])
      have A24 : AI Z h24 x1 .int 3 (w1_5 gs gv gc) := Q24
      refine c24 ?_
      refine o_iconst B24 45 46 (1 : Int32) d1_45 rfl (by decide) ?_
      refine o_retZ (t := .boolean) B24 46 d1_46 hret hlk (by simp) (by decide) (by decide) ⟨(congrArg (fun z => some (Value.int z)) ((show nar .boolean (1 : Int32) = (1 : Int32) from rfl).trans (show f1 gs gv gc = (1 : Int32) from (if_pos k1).trans ((if_neg k2).trans (rfl))).symm)), N24, (((Keep.refl _ _).wr W6 (Or.inl (List.mem_of_getElem? (i := 0) rfl))).wr W24 (Or.inl (List.mem_of_getElem? (i := 0) rfl))), (by rw [show (o1_0 gs gv gc) = (w1_5 gs gv gc) from (if_pos k1).trans ((if_neg k2).trans (rfl))]; exact A24)⟩
  · refine o_icY B 19 32 d1_19 (XT.ii_ne_t k1) (by decide) (by decide) ?_
    refine o_iloadN B 32 33 (v := (2 : Int32)) d1_32 rfl rfl ?_
    refine o_ifY B 33 38 d1_33 (XT.i0_ge_t (by decide)) (by decide) (by decide) ?_
    refine o_aloadN B 38 39 (v := (.ref x1)) d1_38 rfl rfl rfl ?_
    refine o_iloadN B 39 40 (v := (2 : Int32)) d1_39 rfl rfl ?_
    refine o_dup2 B 40 41 d1_40 rfl rfl rfl ?_
    refine o_iaload B 41 42 A1 2 (gv 2) d1_41 rfl (by decide) (by decide) (by decide) rfl ?_
    refine o_iconst B 42 43 (1 : Int32) d1_42 rfl (by decide) ?_
    refine o_iadd B 43 44 d1_43 rfl ?_
    obtain ⟨T26, h26, L26, B26, N26, W26, Q26, c26⟩ := o_iastore B N0 gw_x1 44 45 A1 (j := (2 : Int32)) (x := ((gv 2) + (1 : Int32))) 2 ((gv 2) + (1 : Int32)) d1_44 rfl (by decide) (by decide) (by decide) rfl (Ls := #[.val (.ref x0), .val (.ref x1), .val (.ref x2), .val (.int (2 : Int32))]) (rest := [])
    have A26 : AI Z h26 x1 .int 3 (w1_6 gs gv gc) := Q26
    refine c26 ?_
    refine o_iconst B26 45 46 (1 : Int32) d1_45 rfl (by decide) ?_
    refine o_retZ (t := .boolean) B26 46 d1_46 hret hlk (by simp) (by decide) (by decide) ⟨(congrArg (fun z => some (Value.int z)) ((show nar .boolean (1 : Int32) = (1 : Int32) from rfl).trans (show f1 gs gv gc = (1 : Int32) from (if_neg k1).trans (rfl)).symm)), N26, ((Keep.refl _ _).wr W26 (Or.inl (List.mem_of_getElem? (i := 0) rfl))), (by rw [show (o1_0 gs gv gc) = (w1_6 gs gv gc) from (if_neg k1).trans (rfl)]; exact A26)⟩
theorem pl0 : plainFor x = true := by first | exact plainFor_of_name (by first | (simp [plainName, overriddenIn]; done) | decide +kernel) | decide +kernel
theorem pd___I_I_I_Z : parseMethodDescriptor "([I[I[I)Z" = some ⟨[(.array .int), (.array .int), (.array .int)], some .boolean⟩ := by decide +kernel
def q0_1 (x0 : Int32) (x1 : Int32) (x2 : Int32) (x3 : Int32) (x4 : Int32) : Int32 := ((x1 &&& (7 : Int32)) + (1 : Int32))
def q0_2 (x0 : Int32) (x1 : Int32) (x2 : Int32) (x3 : Int32) (x4 : Int32) : Int32 := (((XT.ushr x1 (3 : Int32)) &&& (7 : Int32)) + (1 : Int32))
def q0_3 (x0 : Int32) (x1 : Int32) (x2 : Int32) (x3 : Int32) (x4 : Int32) : Int32 := (((XT.ushr x1 (6 : Int32)) &&& (7 : Int32)) + (1 : Int32))
def q0_4 (x0 : Int32) (x1 : Int32) (x2 : Int32) (x3 : Int32) (x4 : Int32) : Int32 := (((XT.ushr x1 (9 : Int32)) &&& (7 : Int32)) + (1 : Int32))
def w0_5 (x0 : Int32) (x1 : Int32) (x2 : Int32) (x3 : Int32) (x4 : Int32) : Nat → Int32 := fun j => if j = 0 then (q0_1 x0 x1 x2 x3 x4) else (fun _ => 0) j
def w0_6 (x0 : Int32) (x1 : Int32) (x2 : Int32) (x3 : Int32) (x4 : Int32) : Nat → Int32 := fun j => if j = 1 then (q0_2 x0 x1 x2 x3 x4) else (w0_5 x0 x1 x2 x3 x4) j
def w0_7 (x0 : Int32) (x1 : Int32) (x2 : Int32) (x3 : Int32) (x4 : Int32) : Nat → Int32 := fun j => if j = 2 then (q0_3 x0 x1 x2 x3 x4) else (w0_6 x0 x1 x2 x3 x4) j
def w0_8 (x0 : Int32) (x1 : Int32) (x2 : Int32) (x3 : Int32) (x4 : Int32) : Nat → Int32 := fun j => if j = 3 then (q0_4 x0 x1 x2 x3 x4) else (w0_7 x0 x1 x2 x3 x4) j
def w0_9 (x0 : Int32) (x1 : Int32) (x2 : Int32) (x3 : Int32) (x4 : Int32) : Nat → Int32 := fun j => if j = 0 then (1 : Int32) else (fun _ => 0) j
def w0_10 (x0 : Int32) (x1 : Int32) (x2 : Int32) (x3 : Int32) (x4 : Int32) : Nat → Int32 := fun j => if j = 1 then (2 : Int32) else (w0_9 x0 x1 x2 x3 x4) j
def w0_11 (x0 : Int32) (x1 : Int32) (x2 : Int32) (x3 : Int32) (x4 : Int32) : Nat → Int32 := fun j => if j = 2 then (3 : Int32) else (w0_10 x0 x1 x2 x3 x4) j
def q0_12 (x0 : Int32) (x1 : Int32) (x2 : Int32) (x3 : Int32) (x4 : Int32) : Int32 := ((x2 &&& (2147483647 : Int32)) % (q0_2 x0 x1 x2 x3 x4))
def w0_13 (x0 : Int32) (x1 : Int32) (x2 : Int32) (x3 : Int32) (x4 : Int32) : Nat → Int32 := fun j => if j = 0 then (q0_12 x0 x1 x2 x3 x4) else (fun _ => 0) j
def q0_14 (x0 : Int32) (x1 : Int32) (x2 : Int32) (x3 : Int32) (x4 : Int32) : Int32 := ((x3 &&& (2147483647 : Int32)) % (q0_3 x0 x1 x2 x3 x4))
def w0_15 (x0 : Int32) (x1 : Int32) (x2 : Int32) (x3 : Int32) (x4 : Int32) : Nat → Int32 := fun j => if j = 1 then (q0_14 x0 x1 x2 x3 x4) else (w0_13 x0 x1 x2 x3 x4) j
def q0_16 (x0 : Int32) (x1 : Int32) (x2 : Int32) (x3 : Int32) (x4 : Int32) : Int32 := ((x4 &&& (2147483647 : Int32)) % (q0_4 x0 x1 x2 x3 x4))
def w0_17 (x0 : Int32) (x1 : Int32) (x2 : Int32) (x3 : Int32) (x4 : Int32) : Nat → Int32 := fun j => if j = 2 then (q0_16 x0 x1 x2 x3 x4) else (w0_15 x0 x1 x2 x3 x4) j
def q0_18 (x0 : Int32) (x1 : Int32) (x2 : Int32) (x3 : Int32) (x4 : Int32) : Int32 := (((((q0_12 x0 x1 x2 x3 x4) * (q0_3 x0 x1 x2 x3 x4)) + (q0_14 x0 x1 x2 x3 x4)) * (q0_4 x0 x1 x2 x3 x4)) + (q0_16 x0 x1 x2 x3 x4))
def q0_19 (x0 : Int32) (x1 : Int32) (x2 : Int32) (x3 : Int32) (x4 : Int32) : Int32 := (((q0_2 x0 x1 x2 x3 x4) * (q0_3 x0 x1 x2 x3 x4)) * (q0_4 x0 x1 x2 x3 x4))
def q0_20 (x0 : Int32) (x1 : Int32) (x2 : Int32) (x3 : Int32) (x4 : Int32) : Int32 := (f1 (w0_11 x0 x1 x2 x3 x4) (w0_17 x0 x1 x2 x3 x4) (w0_8 x0 x1 x2 x3 x4))
def w0_21 (x0 : Int32) (x1 : Int32) (x2 : Int32) (x3 : Int32) (x4 : Int32) : Nat → Int32 := fun j => if j = 0 then (0 : Int32) else (fun _ => 0) j
def w0_22 (x0 : Int32) (x1 : Int32) (x2 : Int32) (x3 : Int32) (x4 : Int32) : Nat → Int32 := fun j => if j = 1 then (2 : Int32) else (w0_21 x0 x1 x2 x3 x4) j
def w0_23 (x0 : Int32) (x1 : Int32) (x2 : Int32) (x3 : Int32) (x4 : Int32) : Nat → Int32 := fun j => if j = 2 then (3 : Int32) else (w0_22 x0 x1 x2 x3 x4) j
def q0_24 (x0 : Int32) (x1 : Int32) (x2 : Int32) (x3 : Int32) (x4 : Int32) : Int32 := ((x2 &&& (2147483647 : Int32)) % (q0_1 x0 x1 x2 x3 x4))
def w0_25 (x0 : Int32) (x1 : Int32) (x2 : Int32) (x3 : Int32) (x4 : Int32) : Nat → Int32 := fun j => if j = 0 then (q0_24 x0 x1 x2 x3 x4) else (fun _ => 0) j
def w0_26 (x0 : Int32) (x1 : Int32) (x2 : Int32) (x3 : Int32) (x4 : Int32) : Nat → Int32 := fun j => if j = 1 then (q0_14 x0 x1 x2 x3 x4) else (w0_25 x0 x1 x2 x3 x4) j
def w0_27 (x0 : Int32) (x1 : Int32) (x2 : Int32) (x3 : Int32) (x4 : Int32) : Nat → Int32 := fun j => if j = 2 then (q0_16 x0 x1 x2 x3 x4) else (w0_26 x0 x1 x2 x3 x4) j
def q0_28 (x0 : Int32) (x1 : Int32) (x2 : Int32) (x3 : Int32) (x4 : Int32) : Int32 := (((((q0_24 x0 x1 x2 x3 x4) * (q0_3 x0 x1 x2 x3 x4)) + (q0_14 x0 x1 x2 x3 x4)) * (q0_4 x0 x1 x2 x3 x4)) + (q0_16 x0 x1 x2 x3 x4))
def q0_29 (x0 : Int32) (x1 : Int32) (x2 : Int32) (x3 : Int32) (x4 : Int32) : Int32 := (((q0_1 x0 x1 x2 x3 x4) * (q0_3 x0 x1 x2 x3 x4)) * (q0_4 x0 x1 x2 x3 x4))
def q0_30 (x0 : Int32) (x1 : Int32) (x2 : Int32) (x3 : Int32) (x4 : Int32) : Int32 := (f1 (w0_23 x0 x1 x2 x3 x4) (w0_27 x0 x1 x2 x3 x4) (w0_8 x0 x1 x2 x3 x4))
def w0_31 (x0 : Int32) (x1 : Int32) (x2 : Int32) (x3 : Int32) (x4 : Int32) : Nat → Int32 := fun j => if j = 1 then (1 : Int32) else (w0_21 x0 x1 x2 x3 x4) j
def w0_32 (x0 : Int32) (x1 : Int32) (x2 : Int32) (x3 : Int32) (x4 : Int32) : Nat → Int32 := fun j => if j = 2 then (3 : Int32) else (w0_31 x0 x1 x2 x3 x4) j
def q0_33 (x0 : Int32) (x1 : Int32) (x2 : Int32) (x3 : Int32) (x4 : Int32) : Int32 := ((x3 &&& (2147483647 : Int32)) % (q0_2 x0 x1 x2 x3 x4))
def w0_34 (x0 : Int32) (x1 : Int32) (x2 : Int32) (x3 : Int32) (x4 : Int32) : Nat → Int32 := fun j => if j = 1 then (q0_33 x0 x1 x2 x3 x4) else (w0_25 x0 x1 x2 x3 x4) j
def w0_35 (x0 : Int32) (x1 : Int32) (x2 : Int32) (x3 : Int32) (x4 : Int32) : Nat → Int32 := fun j => if j = 2 then (q0_16 x0 x1 x2 x3 x4) else (w0_34 x0 x1 x2 x3 x4) j
def q0_36 (x0 : Int32) (x1 : Int32) (x2 : Int32) (x3 : Int32) (x4 : Int32) : Int32 := (((((q0_24 x0 x1 x2 x3 x4) * (q0_2 x0 x1 x2 x3 x4)) + (q0_33 x0 x1 x2 x3 x4)) * (q0_4 x0 x1 x2 x3 x4)) + (q0_16 x0 x1 x2 x3 x4))
def q0_37 (x0 : Int32) (x1 : Int32) (x2 : Int32) (x3 : Int32) (x4 : Int32) : Int32 := (((q0_1 x0 x1 x2 x3 x4) * (q0_2 x0 x1 x2 x3 x4)) * (q0_4 x0 x1 x2 x3 x4))
def q0_38 (x0 : Int32) (x1 : Int32) (x2 : Int32) (x3 : Int32) (x4 : Int32) : Int32 := (f1 (w0_32 x0 x1 x2 x3 x4) (w0_35 x0 x1 x2 x3 x4) (w0_8 x0 x1 x2 x3 x4))
def w0_39 (x0 : Int32) (x1 : Int32) (x2 : Int32) (x3 : Int32) (x4 : Int32) : Nat → Int32 := fun j => if j = 2 then (2 : Int32) else (w0_31 x0 x1 x2 x3 x4) j
def q0_40 (x0 : Int32) (x1 : Int32) (x2 : Int32) (x3 : Int32) (x4 : Int32) : Int32 := ((x4 &&& (2147483647 : Int32)) % (q0_3 x0 x1 x2 x3 x4))
def w0_41 (x0 : Int32) (x1 : Int32) (x2 : Int32) (x3 : Int32) (x4 : Int32) : Nat → Int32 := fun j => if j = 2 then (q0_40 x0 x1 x2 x3 x4) else (w0_34 x0 x1 x2 x3 x4) j
def q0_42 (x0 : Int32) (x1 : Int32) (x2 : Int32) (x3 : Int32) (x4 : Int32) : Int32 := (((((q0_24 x0 x1 x2 x3 x4) * (q0_2 x0 x1 x2 x3 x4)) + (q0_33 x0 x1 x2 x3 x4)) * (q0_3 x0 x1 x2 x3 x4)) + (q0_40 x0 x1 x2 x3 x4))
def q0_43 (x0 : Int32) (x1 : Int32) (x2 : Int32) (x3 : Int32) (x4 : Int32) : Int32 := (((q0_1 x0 x1 x2 x3 x4) * (q0_2 x0 x1 x2 x3 x4)) * (q0_3 x0 x1 x2 x3 x4))
def q0_44 (x0 : Int32) (x1 : Int32) (x2 : Int32) (x3 : Int32) (x4 : Int32) : Int32 := (f1 (w0_39 x0 x1 x2 x3 x4) (w0_41 x0 x1 x2 x3 x4) (w0_8 x0 x1 x2 x3 x4))
def f0 (x0 : Int32) (x1 : Int32) (x2 : Int32) (x3 : Int32) (x4 : Int32) : Int32 := (if (x0 &&& (3 : Int32)) = (0 : Int32) then (if (q0_18 x0 x1 x2 x3 x4) = ((q0_19 x0 x1 x2 x3 x4) - (1 : Int32)) then (if (q0_20 x0 x1 x2 x3 x4) = 0 then (if ((o1_0 (w0_11 x0 x1 x2 x3 x4) (w0_17 x0 x1 x2 x3 x4) (w0_8 x0 x1 x2 x3 x4)) 0) = 0 then (if ((o1_0 (w0_11 x0 x1 x2 x3 x4) (w0_17 x0 x1 x2 x3 x4) (w0_8 x0 x1 x2 x3 x4)) 1) = 0 then (if ((o1_0 (w0_11 x0 x1 x2 x3 x4) (w0_17 x0 x1 x2 x3 x4) (w0_8 x0 x1 x2 x3 x4)) 2) = 0 then (1 : Int32) else (0 : Int32)) else (0 : Int32)) else (0 : Int32)) else (0 : Int32)) else (if (q0_20 x0 x1 x2 x3 x4) = 0 then (0 : Int32) else (if ((o1_0 (w0_11 x0 x1 x2 x3 x4) (w0_17 x0 x1 x2 x3 x4) (w0_8 x0 x1 x2 x3 x4)) 2) = (((q0_18 x0 x1 x2 x3 x4) + (1 : Int32)) % (q0_4 x0 x1 x2 x3 x4)) then (if ((o1_0 (w0_11 x0 x1 x2 x3 x4) (w0_17 x0 x1 x2 x3 x4) (w0_8 x0 x1 x2 x3 x4)) 1) = ((((q0_18 x0 x1 x2 x3 x4) + (1 : Int32)) / (q0_4 x0 x1 x2 x3 x4)) % (q0_3 x0 x1 x2 x3 x4)) then (if ((o1_0 (w0_11 x0 x1 x2 x3 x4) (w0_17 x0 x1 x2 x3 x4) (w0_8 x0 x1 x2 x3 x4)) 0) = (((q0_18 x0 x1 x2 x3 x4) + (1 : Int32)) / ((q0_3 x0 x1 x2 x3 x4) * (q0_4 x0 x1 x2 x3 x4))) then (1 : Int32) else (0 : Int32)) else (0 : Int32)) else (0 : Int32)))) else (if (x0 &&& (3 : Int32)) = (1 : Int32) then (if (q0_28 x0 x1 x2 x3 x4) = ((q0_29 x0 x1 x2 x3 x4) - (1 : Int32)) then (if (q0_30 x0 x1 x2 x3 x4) = 0 then (if ((o1_0 (w0_23 x0 x1 x2 x3 x4) (w0_27 x0 x1 x2 x3 x4) (w0_8 x0 x1 x2 x3 x4)) 0) = 0 then (if ((o1_0 (w0_23 x0 x1 x2 x3 x4) (w0_27 x0 x1 x2 x3 x4) (w0_8 x0 x1 x2 x3 x4)) 1) = 0 then (if ((o1_0 (w0_23 x0 x1 x2 x3 x4) (w0_27 x0 x1 x2 x3 x4) (w0_8 x0 x1 x2 x3 x4)) 2) = 0 then (1 : Int32) else (0 : Int32)) else (0 : Int32)) else (0 : Int32)) else (0 : Int32)) else (if (q0_30 x0 x1 x2 x3 x4) = 0 then (0 : Int32) else (if ((o1_0 (w0_23 x0 x1 x2 x3 x4) (w0_27 x0 x1 x2 x3 x4) (w0_8 x0 x1 x2 x3 x4)) 2) = (((q0_28 x0 x1 x2 x3 x4) + (1 : Int32)) % (q0_4 x0 x1 x2 x3 x4)) then (if ((o1_0 (w0_23 x0 x1 x2 x3 x4) (w0_27 x0 x1 x2 x3 x4) (w0_8 x0 x1 x2 x3 x4)) 1) = ((((q0_28 x0 x1 x2 x3 x4) + (1 : Int32)) / (q0_4 x0 x1 x2 x3 x4)) % (q0_3 x0 x1 x2 x3 x4)) then (if ((o1_0 (w0_23 x0 x1 x2 x3 x4) (w0_27 x0 x1 x2 x3 x4) (w0_8 x0 x1 x2 x3 x4)) 0) = (((q0_28 x0 x1 x2 x3 x4) + (1 : Int32)) / ((q0_3 x0 x1 x2 x3 x4) * (q0_4 x0 x1 x2 x3 x4))) then (1 : Int32) else (0 : Int32)) else (0 : Int32)) else (0 : Int32)))) else (if (x0 &&& (3 : Int32)) = (2 : Int32) then (if (q0_36 x0 x1 x2 x3 x4) = ((q0_37 x0 x1 x2 x3 x4) - (1 : Int32)) then (if (q0_38 x0 x1 x2 x3 x4) = 0 then (if ((o1_0 (w0_32 x0 x1 x2 x3 x4) (w0_35 x0 x1 x2 x3 x4) (w0_8 x0 x1 x2 x3 x4)) 0) = 0 then (if ((o1_0 (w0_32 x0 x1 x2 x3 x4) (w0_35 x0 x1 x2 x3 x4) (w0_8 x0 x1 x2 x3 x4)) 1) = 0 then (if ((o1_0 (w0_32 x0 x1 x2 x3 x4) (w0_35 x0 x1 x2 x3 x4) (w0_8 x0 x1 x2 x3 x4)) 2) = 0 then (1 : Int32) else (0 : Int32)) else (0 : Int32)) else (0 : Int32)) else (0 : Int32)) else (if (q0_38 x0 x1 x2 x3 x4) = 0 then (0 : Int32) else (if ((o1_0 (w0_32 x0 x1 x2 x3 x4) (w0_35 x0 x1 x2 x3 x4) (w0_8 x0 x1 x2 x3 x4)) 2) = (((q0_36 x0 x1 x2 x3 x4) + (1 : Int32)) % (q0_4 x0 x1 x2 x3 x4)) then (if ((o1_0 (w0_32 x0 x1 x2 x3 x4) (w0_35 x0 x1 x2 x3 x4) (w0_8 x0 x1 x2 x3 x4)) 1) = ((((q0_36 x0 x1 x2 x3 x4) + (1 : Int32)) / (q0_4 x0 x1 x2 x3 x4)) % (q0_2 x0 x1 x2 x3 x4)) then (if ((o1_0 (w0_32 x0 x1 x2 x3 x4) (w0_35 x0 x1 x2 x3 x4) (w0_8 x0 x1 x2 x3 x4)) 0) = (((q0_36 x0 x1 x2 x3 x4) + (1 : Int32)) / ((q0_2 x0 x1 x2 x3 x4) * (q0_4 x0 x1 x2 x3 x4))) then (1 : Int32) else (0 : Int32)) else (0 : Int32)) else (0 : Int32)))) else (if (q0_42 x0 x1 x2 x3 x4) = ((q0_43 x0 x1 x2 x3 x4) - (1 : Int32)) then (if (q0_44 x0 x1 x2 x3 x4) = 0 then (if ((o1_0 (w0_39 x0 x1 x2 x3 x4) (w0_41 x0 x1 x2 x3 x4) (w0_8 x0 x1 x2 x3 x4)) 0) = 0 then (if ((o1_0 (w0_39 x0 x1 x2 x3 x4) (w0_41 x0 x1 x2 x3 x4) (w0_8 x0 x1 x2 x3 x4)) 1) = 0 then (if ((o1_0 (w0_39 x0 x1 x2 x3 x4) (w0_41 x0 x1 x2 x3 x4) (w0_8 x0 x1 x2 x3 x4)) 2) = 0 then (1 : Int32) else (0 : Int32)) else (0 : Int32)) else (0 : Int32)) else (0 : Int32)) else (if (q0_44 x0 x1 x2 x3 x4) = 0 then (0 : Int32) else (if ((o1_0 (w0_39 x0 x1 x2 x3 x4) (w0_41 x0 x1 x2 x3 x4) (w0_8 x0 x1 x2 x3 x4)) 2) = (((q0_42 x0 x1 x2 x3 x4) + (1 : Int32)) % (q0_3 x0 x1 x2 x3 x4)) then (if ((o1_0 (w0_39 x0 x1 x2 x3 x4) (w0_41 x0 x1 x2 x3 x4) (w0_8 x0 x1 x2 x3 x4)) 1) = ((((q0_42 x0 x1 x2 x3 x4) + (1 : Int32)) / (q0_3 x0 x1 x2 x3 x4)) % (q0_2 x0 x1 x2 x3 x4)) then (if ((o1_0 (w0_39 x0 x1 x2 x3 x4) (w0_41 x0 x1 x2 x3 x4) (w0_8 x0 x1 x2 x3 x4)) 0) = (((q0_42 x0 x1 x2 x3 x4) + (1 : Int32)) / ((q0_2 x0 x1 x2 x3 x4) * (q0_3 x0 x1 x2 x3 x4))) then (1 : Int32) else (0 : Int32)) else (0 : Int32)) else (0 : Int32)))))))
theorem own_3 {g : Nat → Int32} (h0 : 0 ≤ (g 0).toInt ∧ (g 0).toInt < 4) (h1 : 0 ≤ (g 1).toInt ∧ (g 1).toInt < 4) (h2 : 0 ≤ (g 2).toInt ∧ (g 2).toInt < 4) : ∀ j, j < 3 → 0 ≤ (g j).toInt ∧ (g j).toInt < 4 := by
  intro j hj
  match j, hj with
  | 0, _ => exact h0
  | 1, _ => exact h1
  | 2, _ => exact h2
theorem own_k (x0 : Int32) (h0 : ¬ x0 &&& 3 = 0) (h1 : ¬ x0 &&& 3 = 1) (h2 : ¬ x0 &&& 3 = 2) : x0 &&& 3 = 3 := by
  have m := c_mask x0 3 2 (by decide) (by decide)
  simp only [← Int32.toInt_inj, Int32.reduceToInt] at *
  omega
def W18 (z : Int32) : Prop := 1 ≤ z.toInt ∧ z.toInt ≤ 8
theorem own_w (y : Int32) : W18 ((y &&& 7) + 1) := by
  have m := c_mask y 7 3 (by decide) (by decide)
  have a := c_iadd (y &&& 7) 1
  have r := rng32 ((y &&& 7) + 1)
  simp only [Int32.reduceToInt] at a
  unfold W18
  omega
theorem own_w1 (x0 x1 x2 x3 x4 : Int32) : W18 (q0_1 x0 x1 x2 x3 x4) := own_w _
theorem own_w2 (x0 x1 x2 x3 x4 : Int32) : W18 (q0_2 x0 x1 x2 x3 x4) := own_w _
theorem own_w3 (x0 x1 x2 x3 x4 : Int32) : W18 (q0_3 x0 x1 x2 x3 x4) := own_w _
theorem own_w4 (x0 x1 x2 x3 x4 : Int32) : W18 (q0_4 x0 x1 x2 x3 x4) := own_w _
theorem own_nz {z : Int32} (h : W18 z) : z ≠ 0 := by rintro rfl; exact absurd h (by unfold W18; decide)
theorem own_nz2 {y z : Int32} (hy : W18 y) (hz : W18 z) : y * z ≠ 0 := by
  unfold W18 at *
  intro e
  have a := c_imul y z
  rw [e] at a
  have b : 1 * 1 ≤ y.toInt * z.toInt := Int.mul_le_mul hy.1 hz.1 (by decide) (by omega)
  have c : y.toInt * z.toInt ≤ 8 * 8 := Int.mul_le_mul hy.2 hz.2 (by omega) (by decide)
  simp only [Int32.reduceToInt] at a
  omega
set_option maxRecDepth 65536 in
set_option maxHeartbeats 40000000 in
theorem rm0 (l : Launch) (Z : State) (a0 : Array Value) (hw : ∀ d ∈ tables_1, d.before a0 Z = true) (ws : List Jvm.Cond) (x0 : Int32) (x1 : Int32) (x2 : Int32) (x3 : Int32) (x4 : Int32) (h0 : Heap) (n0 : Nat) (hz : n0 ≤ h0.size) :
    MetFree l x (head1 (Jvm.Cond.code x code maxLocals ret :: ws) room_1) (fun a U => a = #[(.int x0), (.int x1), (.int x2), (.int x3), (.int x4)] ∧ Z.Warmed39 U.vm ∧ U.heap = h0) (fun _ _ _ _ _ => True) (fun _ U o U' => ∃ v L, o = .returned v ∧ Lw n0 (some (.int (f0 x0 x1 x2 x3 x4))) v U'.heap L ∧ FrameEnd U o U' L room_1.cells room_1.slots) := by
  refine enter (y := x) (bs := code) (ml := maxLocals) (ret := ret) (Q := Lw n0 (some (.int (f0 x0 x1 x2 x3 x4)))) pl0 #[.val (.int x0), .val (.int x1), .val (.int x2), .val (.int x3), .val (.int x4), .unset, .unset, .unset, .unset, .unset, .unset, .unset, .unset, .unset, .unset, .unset, .unset, .unset, .unset, .unset, .unset, .unset, .unset, .unset] rfl ?_
  intro p e s m below meth c T B hret hlk hnm
  have N0 := Fr.nil n0
  refine o_iloadN B 0 1 (v := x0) at_0 rfl rfl ?_
  refine o_iconst B 1 2 (3 : Int32) at_1 rfl (by decide) ?_
  refine o_iand B 2 3 at_2 rfl ?_
  refine o_istore B 3 5 (l' := #[.val (.int x0), .val (.int x1), .val (.int x2), .val (.int x3), .val (.int x4), .val (.int (x0 &&& (3 : Int32))), .unset, .unset, .unset, .unset, .unset, .unset, .unset, .unset, .unset, .unset, .unset, .unset, .unset, .unset, .unset, .unset, .unset, .unset]) at_3 rfl rfl ?_
  by_cases k1 : (x0 &&& (3 : Int32)) = (0 : Int32)
  · rw [k1]
    refine o_iload B 5 7 (v := (0 : Int32)) at_5 rfl rfl ?_
    refine o_ifN B 7 10 at_7 rfl (XT.i0_ne_f (by decide)) ?_
    refine o_iconst B 10 11 (1 : Int32) at_10 rfl (by decide) ?_
    refine o_goto B 11 15 at_11 (by decide) (by decide) ?_
    refine o_istore B 15 17 (l' := #[.val (.int x0), .val (.int x1), .val (.int x2), .val (.int x3), .val (.int x4), .val (.int (0 : Int32)), .val (.int (1 : Int32)), .unset, .unset, .unset, .unset, .unset, .unset, .unset, .unset, .unset, .unset, .unset, .unset, .unset, .unset, .unset, .unset, .unset]) at_15 rfl rfl ?_
    refine o_iload B 17 19 (v := (0 : Int32)) at_17 rfl rfl ?_
    refine o_iconst B 19 20 (1 : Int32) at_19 rfl (by decide) ?_
    refine o_icN B 20 23 at_20 rfl (XT.ii_gt_f (by decide)) ?_
    refine o_iconst B 23 24 (2 : Int32) at_23 rfl (by decide) ?_
    refine o_goto B 24 28 at_24 (by decide) (by decide) ?_
    refine o_istore B 28 30 (l' := #[.val (.int x0), .val (.int x1), .val (.int x2), .val (.int x3), .val (.int x4), .val (.int (0 : Int32)), .val (.int (1 : Int32)), .val (.int (2 : Int32)), .unset, .unset, .unset, .unset, .unset, .unset, .unset, .unset, .unset, .unset, .unset, .unset, .unset, .unset, .unset, .unset]) at_28 rfl rfl ?_
    refine o_iload B 30 32 (v := (0 : Int32)) at_30 rfl rfl ?_
    refine o_iconst B 32 33 (2 : Int32) at_32 rfl (by decide) ?_
    refine o_icN B 33 36 at_33 rfl (XT.ii_gt_f (by decide)) ?_
    refine o_iconst B 36 37 (3 : Int32) at_36 rfl (by decide) ?_
    refine o_goto B 37 41 at_37 (by decide) (by decide) ?_
    refine o_istore B 41 43 (l' := #[.val (.int x0), .val (.int x1), .val (.int x2), .val (.int x3), .val (.int x4), .val (.int (0 : Int32)), .val (.int (1 : Int32)), .val (.int (2 : Int32)), .val (.int (3 : Int32)), .unset, .unset, .unset, .unset, .unset, .unset, .unset, .unset, .unset, .unset, .unset, .unset, .unset, .unset, .unset]) at_41 rfl rfl ?_
    refine o_iloadN B 43 44 (v := x1) at_43 rfl rfl ?_
    refine o_bipush B 44 46 (7 : Int32) at_44 rfl (by decide) ?_
    refine o_iand B 46 47 at_46 rfl ?_
    refine o_iconst B 47 48 (1 : Int32) at_47 rfl (by decide) ?_
    refine o_iadd B 48 49 at_48 rfl ?_
    refine o_istore B 49 51 (l' := #[.val (.int x0), .val (.int x1), .val (.int x2), .val (.int x3), .val (.int x4), .val (.int (0 : Int32)), .val (.int (1 : Int32)), .val (.int (2 : Int32)), .val (.int (3 : Int32)), .val (.int (q0_1 x0 x1 x2 x3 x4)), .unset, .unset, .unset, .unset, .unset, .unset, .unset, .unset, .unset, .unset, .unset, .unset, .unset, .unset]) at_49 rfl rfl ?_
    refine o_iloadN B 51 52 (v := x1) at_51 rfl rfl ?_
    refine o_iconst B 52 53 (3 : Int32) at_52 rfl (by decide) ?_
    refine o_iushr B 53 54 at_53 rfl ?_
    refine o_bipush B 54 56 (7 : Int32) at_54 rfl (by decide) ?_
    refine o_iand B 56 57 at_56 rfl ?_
    refine o_iconst B 57 58 (1 : Int32) at_57 rfl (by decide) ?_
    refine o_iadd B 58 59 at_58 rfl ?_
    refine o_istore B 59 61 (l' := #[.val (.int x0), .val (.int x1), .val (.int x2), .val (.int x3), .val (.int x4), .val (.int (0 : Int32)), .val (.int (1 : Int32)), .val (.int (2 : Int32)), .val (.int (3 : Int32)), .val (.int (q0_1 x0 x1 x2 x3 x4)), .val (.int (q0_2 x0 x1 x2 x3 x4)), .unset, .unset, .unset, .unset, .unset, .unset, .unset, .unset, .unset, .unset, .unset, .unset, .unset]) at_59 rfl rfl ?_
    refine o_iloadN B 61 62 (v := x1) at_61 rfl rfl ?_
    refine o_bipush B 62 64 (6 : Int32) at_62 rfl (by decide) ?_
    refine o_iushr B 64 65 at_64 rfl ?_
    refine o_bipush B 65 67 (7 : Int32) at_65 rfl (by decide) ?_
    refine o_iand B 67 68 at_67 rfl ?_
    refine o_iconst B 68 69 (1 : Int32) at_68 rfl (by decide) ?_
    refine o_iadd B 69 70 at_69 rfl ?_
    refine o_istore B 70 72 (l' := #[.val (.int x0), .val (.int x1), .val (.int x2), .val (.int x3), .val (.int x4), .val (.int (0 : Int32)), .val (.int (1 : Int32)), .val (.int (2 : Int32)), .val (.int (3 : Int32)), .val (.int (q0_1 x0 x1 x2 x3 x4)), .val (.int (q0_2 x0 x1 x2 x3 x4)), .val (.int (q0_3 x0 x1 x2 x3 x4)), .unset, .unset, .unset, .unset, .unset, .unset, .unset, .unset, .unset, .unset, .unset, .unset]) at_70 rfl rfl ?_
    refine o_iloadN B 72 73 (v := x1) at_72 rfl rfl ?_
    refine o_bipush B 73 75 (9 : Int32) at_73 rfl (by decide) ?_
    refine o_iushr B 75 76 at_75 rfl ?_
    refine o_bipush B 76 78 (7 : Int32) at_76 rfl (by decide) ?_
    refine o_iand B 78 79 at_78 rfl ?_
    refine o_iconst B 79 80 (1 : Int32) at_79 rfl (by decide) ?_
    refine o_iadd B 80 81 at_80 rfl ?_
    refine o_istore B 81 83 (l' := #[.val (.int x0), .val (.int x1), .val (.int x2), .val (.int x3), .val (.int x4), .val (.int (0 : Int32)), .val (.int (1 : Int32)), .val (.int (2 : Int32)), .val (.int (3 : Int32)), .val (.int (q0_1 x0 x1 x2 x3 x4)), .val (.int (q0_2 x0 x1 x2 x3 x4)), .val (.int (q0_3 x0 x1 x2 x3 x4)), .val (.int (q0_4 x0 x1 x2 x3 x4)), .unset, .unset, .unset, .unset, .unset, .unset, .unset, .unset, .unset, .unset, .unset]) at_81 rfl rfl ?_
    refine o_iconst B 83 84 (4 : Int32) at_83 rfl (by decide) ?_
    obtain ⟨a1, T1, h1, z1, B1, E1, A1, c1⟩ := o_newI B 84 86 (ty := .int) (z := (4 : Int32)) 4 4 (hw _ (List.mem_of_getElem? (i := 0) rfl)) at_84 rfl rfl rfl (by decide) (by decide) (by decide) (by decide) (by decide) (by decide) (Ls := #[.val (.int x0), .val (.int x1), .val (.int x2), .val (.int x3), .val (.int x4), .val (.int (0 : Int32)), .val (.int (1 : Int32)), .val (.int (2 : Int32)), .val (.int (3 : Int32)), .val (.int (q0_1 x0 x1 x2 x3 x4)), .val (.int (q0_2 x0 x1 x2 x3 x4)), .val (.int (q0_3 x0 x1 x2 x3 x4)), .val (.int (q0_4 x0 x1 x2 x3 x4)), .unset, .unset, .unset, .unset, .unset, .unset, .unset, .unset, .unset, .unset, .unset]) (rest := [])
    have g1 : n0 ≤ a1 := by rw [z1]; exact hz
    have s1 : n0 ≤ h1.size := Nat.le_trans hz E1.1
    refine c1 ?_
    refine o_astore B1 86 88 (l' := #[.val (.int x0), .val (.int x1), .val (.int x2), .val (.int x3), .val (.int x4), .val (.int (0 : Int32)), .val (.int (1 : Int32)), .val (.int (2 : Int32)), .val (.int (3 : Int32)), .val (.int (q0_1 x0 x1 x2 x3 x4)), .val (.int (q0_2 x0 x1 x2 x3 x4)), .val (.int (q0_3 x0 x1 x2 x3 x4)), .val (.int (q0_4 x0 x1 x2 x3 x4)), .val (.ref a1), .unset, .unset, .unset, .unset, .unset, .unset, .unset, .unset, .unset, .unset]) at_86 rfl rfl rfl ?_
    refine o_aload B1 88 90 (v := (.ref a1)) at_88 rfl rfl rfl ?_
    refine o_iconst B1 90 91 (0 : Int32) at_90 rfl (by decide) ?_
    refine o_iload B1 91 93 (v := (q0_1 x0 x1 x2 x3 x4)) at_91 rfl rfl ?_
    obtain ⟨T2, h2, L2, B2, N2, W2, Q2, c2⟩ := o_iastore B1 N0 g1 93 94 A1 (j := (0 : Int32)) (x := (q0_1 x0 x1 x2 x3 x4)) 0 (q0_1 x0 x1 x2 x3 x4) at_93 rfl (by decide) (by decide) (by decide) rfl (Ls := #[.val (.int x0), .val (.int x1), .val (.int x2), .val (.int x3), .val (.int x4), .val (.int (0 : Int32)), .val (.int (1 : Int32)), .val (.int (2 : Int32)), .val (.int (3 : Int32)), .val (.int (q0_1 x0 x1 x2 x3 x4)), .val (.int (q0_2 x0 x1 x2 x3 x4)), .val (.int (q0_3 x0 x1 x2 x3 x4)), .val (.int (q0_4 x0 x1 x2 x3 x4)), .val (.ref a1), .unset, .unset, .unset, .unset, .unset, .unset, .unset, .unset, .unset, .unset]) (rest := [])
    have A2 : AI Z h2 a1 .int 4 (w0_5 x0 x1 x2 x3 x4) := Q2
    refine c2 ?_
    refine o_aload B2 94 96 (v := (.ref a1)) at_94 rfl rfl rfl ?_
    refine o_iconst B2 96 97 (1 : Int32) at_96 rfl (by decide) ?_
    refine o_iload B2 97 99 (v := (q0_2 x0 x1 x2 x3 x4)) at_97 rfl rfl ?_
    obtain ⟨T3, h3, L3, B3, N3, W3, Q3, c3⟩ := o_iastore B2 N2 g1 99 100 A2 (j := (1 : Int32)) (x := (q0_2 x0 x1 x2 x3 x4)) 1 (q0_2 x0 x1 x2 x3 x4) at_99 rfl (by decide) (by decide) (by decide) rfl (Ls := #[.val (.int x0), .val (.int x1), .val (.int x2), .val (.int x3), .val (.int x4), .val (.int (0 : Int32)), .val (.int (1 : Int32)), .val (.int (2 : Int32)), .val (.int (3 : Int32)), .val (.int (q0_1 x0 x1 x2 x3 x4)), .val (.int (q0_2 x0 x1 x2 x3 x4)), .val (.int (q0_3 x0 x1 x2 x3 x4)), .val (.int (q0_4 x0 x1 x2 x3 x4)), .val (.ref a1), .unset, .unset, .unset, .unset, .unset, .unset, .unset, .unset, .unset, .unset]) (rest := [])
    have A3 : AI Z h3 a1 .int 4 (w0_6 x0 x1 x2 x3 x4) := Q3
    refine c3 ?_
    refine o_aload B3 100 102 (v := (.ref a1)) at_100 rfl rfl rfl ?_
    refine o_iconst B3 102 103 (2 : Int32) at_102 rfl (by decide) ?_
    refine o_iload B3 103 105 (v := (q0_3 x0 x1 x2 x3 x4)) at_103 rfl rfl ?_
    obtain ⟨T4, h4, L4, B4, N4, W4, Q4, c4⟩ := o_iastore B3 N3 g1 105 106 A3 (j := (2 : Int32)) (x := (q0_3 x0 x1 x2 x3 x4)) 2 (q0_3 x0 x1 x2 x3 x4) at_105 rfl (by decide) (by decide) (by decide) rfl (Ls := #[.val (.int x0), .val (.int x1), .val (.int x2), .val (.int x3), .val (.int x4), .val (.int (0 : Int32)), .val (.int (1 : Int32)), .val (.int (2 : Int32)), .val (.int (3 : Int32)), .val (.int (q0_1 x0 x1 x2 x3 x4)), .val (.int (q0_2 x0 x1 x2 x3 x4)), .val (.int (q0_3 x0 x1 x2 x3 x4)), .val (.int (q0_4 x0 x1 x2 x3 x4)), .val (.ref a1), .unset, .unset, .unset, .unset, .unset, .unset, .unset, .unset, .unset, .unset]) (rest := [])
    have A4 : AI Z h4 a1 .int 4 (w0_7 x0 x1 x2 x3 x4) := Q4
    refine c4 ?_
    refine o_aload B4 106 108 (v := (.ref a1)) at_106 rfl rfl rfl ?_
    refine o_iconst B4 108 109 (3 : Int32) at_108 rfl (by decide) ?_
    refine o_iload B4 109 111 (v := (q0_4 x0 x1 x2 x3 x4)) at_109 rfl rfl ?_
    obtain ⟨T5, h5, L5, B5, N5, W5, Q5, c5⟩ := o_iastore B4 N4 g1 111 112 A4 (j := (3 : Int32)) (x := (q0_4 x0 x1 x2 x3 x4)) 3 (q0_4 x0 x1 x2 x3 x4) at_111 rfl (by decide) (by decide) (by decide) rfl (Ls := #[.val (.int x0), .val (.int x1), .val (.int x2), .val (.int x3), .val (.int x4), .val (.int (0 : Int32)), .val (.int (1 : Int32)), .val (.int (2 : Int32)), .val (.int (3 : Int32)), .val (.int (q0_1 x0 x1 x2 x3 x4)), .val (.int (q0_2 x0 x1 x2 x3 x4)), .val (.int (q0_3 x0 x1 x2 x3 x4)), .val (.int (q0_4 x0 x1 x2 x3 x4)), .val (.ref a1), .unset, .unset, .unset, .unset, .unset, .unset, .unset, .unset, .unset, .unset]) (rest := [])
    have A5 : AI Z h5 a1 .int 4 (w0_8 x0 x1 x2 x3 x4) := Q5
    refine c5 ?_
    refine o_iconst B5 112 113 (3 : Int32) at_112 rfl (by decide) ?_
    obtain ⟨a6, T6, h6, z6, B6, E6, A6, c6⟩ := o_newI B5 113 115 (ty := .int) (z := (3 : Int32)) 3 3 (hw _ (List.mem_of_getElem? (i := 0) rfl)) at_113 rfl rfl rfl (by decide) (by decide) (by decide) (by decide) (by decide) (by decide) (Ls := #[.val (.int x0), .val (.int x1), .val (.int x2), .val (.int x3), .val (.int x4), .val (.int (0 : Int32)), .val (.int (1 : Int32)), .val (.int (2 : Int32)), .val (.int (3 : Int32)), .val (.int (q0_1 x0 x1 x2 x3 x4)), .val (.int (q0_2 x0 x1 x2 x3 x4)), .val (.int (q0_3 x0 x1 x2 x3 x4)), .val (.int (q0_4 x0 x1 x2 x3 x4)), .val (.ref a1), .unset, .unset, .unset, .unset, .unset, .unset, .unset, .unset, .unset, .unset]) (rest := [])
    have ne7 : a1 ≠ a6 := by rw [z6]; exact Nat.ne_of_lt A5.lt
    have g6 : n0 ≤ a6 := by rw [z6]; exact (W5.size ▸ (W4.size ▸ (W3.size ▸ (W2.size ▸ s1))))
    have s6 : n0 ≤ h6.size := Nat.le_trans (W5.size ▸ (W4.size ▸ (W3.size ▸ (W2.size ▸ s1)))) E6.1
    refine c6 ?_
    refine o_astore B6 115 117 (l' := #[.val (.int x0), .val (.int x1), .val (.int x2), .val (.int x3), .val (.int x4), .val (.int (0 : Int32)), .val (.int (1 : Int32)), .val (.int (2 : Int32)), .val (.int (3 : Int32)), .val (.int (q0_1 x0 x1 x2 x3 x4)), .val (.int (q0_2 x0 x1 x2 x3 x4)), .val (.int (q0_3 x0 x1 x2 x3 x4)), .val (.int (q0_4 x0 x1 x2 x3 x4)), .val (.ref a1), .val (.ref a6), .unset, .unset, .unset, .unset, .unset, .unset, .unset, .unset, .unset]) at_115 rfl rfl rfl ?_
    refine o_aload B6 117 119 (v := (.ref a6)) at_117 rfl rfl rfl ?_
    refine o_iconst B6 119 120 (0 : Int32) at_119 rfl (by decide) ?_
    refine o_iload B6 120 122 (v := (1 : Int32)) at_120 rfl rfl ?_
    obtain ⟨T8, h8, L8, B8, N8, W8, Q8, c8⟩ := o_iastore B6 N5 g6 122 123 A6 (j := (0 : Int32)) (x := (1 : Int32)) 0 (1 : Int32) at_122 rfl (by decide) (by decide) (by decide) rfl (Ls := #[.val (.int x0), .val (.int x1), .val (.int x2), .val (.int x3), .val (.int x4), .val (.int (0 : Int32)), .val (.int (1 : Int32)), .val (.int (2 : Int32)), .val (.int (3 : Int32)), .val (.int (q0_1 x0 x1 x2 x3 x4)), .val (.int (q0_2 x0 x1 x2 x3 x4)), .val (.int (q0_3 x0 x1 x2 x3 x4)), .val (.int (q0_4 x0 x1 x2 x3 x4)), .val (.ref a1), .val (.ref a6), .unset, .unset, .unset, .unset, .unset, .unset, .unset, .unset, .unset]) (rest := [])
    have A8 : AI Z h8 a6 .int 3 (w0_9 x0 x1 x2 x3 x4) := Q8
    refine c8 ?_
    refine o_aload B8 123 125 (v := (.ref a6)) at_123 rfl rfl rfl ?_
    refine o_iconst B8 125 126 (1 : Int32) at_125 rfl (by decide) ?_
    refine o_iload B8 126 128 (v := (2 : Int32)) at_126 rfl rfl ?_
    obtain ⟨T9, h9, L9, B9, N9, W9, Q9, c9⟩ := o_iastore B8 N8 g6 128 129 A8 (j := (1 : Int32)) (x := (2 : Int32)) 1 (2 : Int32) at_128 rfl (by decide) (by decide) (by decide) rfl (Ls := #[.val (.int x0), .val (.int x1), .val (.int x2), .val (.int x3), .val (.int x4), .val (.int (0 : Int32)), .val (.int (1 : Int32)), .val (.int (2 : Int32)), .val (.int (3 : Int32)), .val (.int (q0_1 x0 x1 x2 x3 x4)), .val (.int (q0_2 x0 x1 x2 x3 x4)), .val (.int (q0_3 x0 x1 x2 x3 x4)), .val (.int (q0_4 x0 x1 x2 x3 x4)), .val (.ref a1), .val (.ref a6), .unset, .unset, .unset, .unset, .unset, .unset, .unset, .unset, .unset]) (rest := [])
    have A9 : AI Z h9 a6 .int 3 (w0_10 x0 x1 x2 x3 x4) := Q9
    refine c9 ?_
    refine o_aload B9 129 131 (v := (.ref a6)) at_129 rfl rfl rfl ?_
    refine o_iconst B9 131 132 (2 : Int32) at_131 rfl (by decide) ?_
    refine o_iload B9 132 134 (v := (3 : Int32)) at_132 rfl rfl ?_
    obtain ⟨T10, h10, L10, B10, N10, W10, Q10, c10⟩ := o_iastore B9 N9 g6 134 135 A9 (j := (2 : Int32)) (x := (3 : Int32)) 2 (3 : Int32) at_134 rfl (by decide) (by decide) (by decide) rfl (Ls := #[.val (.int x0), .val (.int x1), .val (.int x2), .val (.int x3), .val (.int x4), .val (.int (0 : Int32)), .val (.int (1 : Int32)), .val (.int (2 : Int32)), .val (.int (3 : Int32)), .val (.int (q0_1 x0 x1 x2 x3 x4)), .val (.int (q0_2 x0 x1 x2 x3 x4)), .val (.int (q0_3 x0 x1 x2 x3 x4)), .val (.int (q0_4 x0 x1 x2 x3 x4)), .val (.ref a1), .val (.ref a6), .unset, .unset, .unset, .unset, .unset, .unset, .unset, .unset, .unset]) (rest := [])
    have A10 : AI Z h10 a6 .int 3 (w0_11 x0 x1 x2 x3 x4) := Q10
    refine c10 ?_
    refine o_aload B10 135 137 (v := (.ref a1)) at_135 rfl rfl rfl ?_
    refine o_iload B10 137 139 (v := (1 : Int32)) at_137 rfl rfl ?_
    have F12 := ((((A5.ext E6).other W8 ne7).other W9 ne7).other W10 ne7)
    refine o_iaload B10 139 140 F12 1 (q0_2 x0 x1 x2 x3 x4) at_139 rfl (by decide) (by decide) (by decide) rfl ?_
    refine o_istore B10 140 142 (l' := #[.val (.int x0), .val (.int x1), .val (.int x2), .val (.int x3), .val (.int x4), .val (.int (0 : Int32)), .val (.int (1 : Int32)), .val (.int (2 : Int32)), .val (.int (3 : Int32)), .val (.int (q0_1 x0 x1 x2 x3 x4)), .val (.int (q0_2 x0 x1 x2 x3 x4)), .val (.int (q0_3 x0 x1 x2 x3 x4)), .val (.int (q0_4 x0 x1 x2 x3 x4)), .val (.ref a1), .val (.ref a6), .val (.int (q0_2 x0 x1 x2 x3 x4)), .unset, .unset, .unset, .unset, .unset, .unset, .unset, .unset]) at_140 rfl rfl ?_
    refine o_aload B10 142 144 (v := (.ref a1)) at_142 rfl rfl rfl ?_
    refine o_iload B10 144 146 (v := (2 : Int32)) at_144 rfl rfl ?_
    refine o_iaload B10 146 147 F12 2 (q0_3 x0 x1 x2 x3 x4) at_146 rfl (by decide) (by decide) (by decide) rfl ?_
    refine o_istore B10 147 149 (l' := #[.val (.int x0), .val (.int x1), .val (.int x2), .val (.int x3), .val (.int x4), .val (.int (0 : Int32)), .val (.int (1 : Int32)), .val (.int (2 : Int32)), .val (.int (3 : Int32)), .val (.int (q0_1 x0 x1 x2 x3 x4)), .val (.int (q0_2 x0 x1 x2 x3 x4)), .val (.int (q0_3 x0 x1 x2 x3 x4)), .val (.int (q0_4 x0 x1 x2 x3 x4)), .val (.ref a1), .val (.ref a6), .val (.int (q0_2 x0 x1 x2 x3 x4)), .val (.int (q0_3 x0 x1 x2 x3 x4)), .unset, .unset, .unset, .unset, .unset, .unset, .unset]) at_147 rfl rfl ?_
    refine o_aload B10 149 151 (v := (.ref a1)) at_149 rfl rfl rfl ?_
    refine o_iload B10 151 153 (v := (3 : Int32)) at_151 rfl rfl ?_
    refine o_iaload B10 153 154 F12 3 (q0_4 x0 x1 x2 x3 x4) at_153 rfl (by decide) (by decide) (by decide) rfl ?_
    refine o_istore B10 154 156 (l' := #[.val (.int x0), .val (.int x1), .val (.int x2), .val (.int x3), .val (.int x4), .val (.int (0 : Int32)), .val (.int (1 : Int32)), .val (.int (2 : Int32)), .val (.int (3 : Int32)), .val (.int (q0_1 x0 x1 x2 x3 x4)), .val (.int (q0_2 x0 x1 x2 x3 x4)), .val (.int (q0_3 x0 x1 x2 x3 x4)), .val (.int (q0_4 x0 x1 x2 x3 x4)), .val (.ref a1), .val (.ref a6), .val (.int (q0_2 x0 x1 x2 x3 x4)), .val (.int (q0_3 x0 x1 x2 x3 x4)), .val (.int (q0_4 x0 x1 x2 x3 x4)), .unset, .unset, .unset, .unset, .unset, .unset]) at_154 rfl rfl ?_
    refine o_iconst B10 156 157 (3 : Int32) at_156 rfl (by decide) ?_
    obtain ⟨a15, T15, h15, z15, B15, E15, A15, c15⟩ := o_newI B10 157 159 (ty := .int) (z := (3 : Int32)) 3 3 (hw _ (List.mem_of_getElem? (i := 0) rfl)) at_157 rfl rfl rfl (by decide) (by decide) (by decide) (by decide) (by decide) (by decide) (Ls := #[.val (.int x0), .val (.int x1), .val (.int x2), .val (.int x3), .val (.int x4), .val (.int (0 : Int32)), .val (.int (1 : Int32)), .val (.int (2 : Int32)), .val (.int (3 : Int32)), .val (.int (q0_1 x0 x1 x2 x3 x4)), .val (.int (q0_2 x0 x1 x2 x3 x4)), .val (.int (q0_3 x0 x1 x2 x3 x4)), .val (.int (q0_4 x0 x1 x2 x3 x4)), .val (.ref a1), .val (.ref a6), .val (.int (q0_2 x0 x1 x2 x3 x4)), .val (.int (q0_3 x0 x1 x2 x3 x4)), .val (.int (q0_4 x0 x1 x2 x3 x4)), .unset, .unset, .unset, .unset, .unset, .unset]) (rest := [])
    have ne16 : a1 ≠ a15 := by rw [z15]; exact Nat.ne_of_lt F12.lt
    have ne17 : a6 ≠ a15 := by rw [z15]; exact Nat.ne_of_lt A10.lt
    have g15 : n0 ≤ a15 := by rw [z15]; exact (W10.size ▸ (W9.size ▸ (W8.size ▸ s6)))
    have s15 : n0 ≤ h15.size := Nat.le_trans (W10.size ▸ (W9.size ▸ (W8.size ▸ s6))) E15.1
    refine c15 ?_
    refine o_astore B15 159 161 (l' := #[.val (.int x0), .val (.int x1), .val (.int x2), .val (.int x3), .val (.int x4), .val (.int (0 : Int32)), .val (.int (1 : Int32)), .val (.int (2 : Int32)), .val (.int (3 : Int32)), .val (.int (q0_1 x0 x1 x2 x3 x4)), .val (.int (q0_2 x0 x1 x2 x3 x4)), .val (.int (q0_3 x0 x1 x2 x3 x4)), .val (.int (q0_4 x0 x1 x2 x3 x4)), .val (.ref a1), .val (.ref a6), .val (.int (q0_2 x0 x1 x2 x3 x4)), .val (.int (q0_3 x0 x1 x2 x3 x4)), .val (.int (q0_4 x0 x1 x2 x3 x4)), .val (.ref a15), .unset, .unset, .unset, .unset, .unset]) at_159 rfl rfl rfl ?_
    refine o_aload B15 161 163 (v := (.ref a15)) at_161 rfl rfl rfl ?_
    refine o_iconst B15 163 164 (0 : Int32) at_163 rfl (by decide) ?_
    refine o_iloadN B15 164 165 (v := x2) at_164 rfl rfl ?_
    refine o_ldc B15 165 167 at_165 rfl (hw _ (List.mem_of_getElem? (i := 1) rfl)) ?_
    refine o_iand B15 167 168 at_167 rfl ?_
    refine o_iload B15 168 170 (v := (q0_2 x0 x1 x2 x3 x4)) at_168 rfl rfl ?_
    refine o_irem B15 170 171 at_170 rfl (own_nz (own_w2 x0 x1 x2 x3 x4)) ?_
    obtain ⟨T18, h18, L18, B18, N18, W18, Q18, c18⟩ := o_iastore B15 N10 g15 171 172 A15 (j := (0 : Int32)) (x := ((x2 &&& (2147483647 : Int32)) % (q0_2 x0 x1 x2 x3 x4))) 0 (q0_12 x0 x1 x2 x3 x4) at_171 rfl (by decide) (by decide) (by decide) rfl (Ls := #[.val (.int x0), .val (.int x1), .val (.int x2), .val (.int x3), .val (.int x4), .val (.int (0 : Int32)), .val (.int (1 : Int32)), .val (.int (2 : Int32)), .val (.int (3 : Int32)), .val (.int (q0_1 x0 x1 x2 x3 x4)), .val (.int (q0_2 x0 x1 x2 x3 x4)), .val (.int (q0_3 x0 x1 x2 x3 x4)), .val (.int (q0_4 x0 x1 x2 x3 x4)), .val (.ref a1), .val (.ref a6), .val (.int (q0_2 x0 x1 x2 x3 x4)), .val (.int (q0_3 x0 x1 x2 x3 x4)), .val (.int (q0_4 x0 x1 x2 x3 x4)), .val (.ref a15), .unset, .unset, .unset, .unset, .unset]) (rest := [])
    have A18 : AI Z h18 a15 .int 3 (w0_13 x0 x1 x2 x3 x4) := Q18
    refine c18 ?_
    refine o_aload B18 172 174 (v := (.ref a15)) at_172 rfl rfl rfl ?_
    refine o_iconst B18 174 175 (1 : Int32) at_174 rfl (by decide) ?_
    refine o_iloadN B18 175 176 (v := x3) at_175 rfl rfl ?_
    refine o_ldc B18 176 178 at_176 rfl (hw _ (List.mem_of_getElem? (i := 1) rfl)) ?_
    refine o_iand B18 178 179 at_178 rfl ?_
    refine o_iload B18 179 181 (v := (q0_3 x0 x1 x2 x3 x4)) at_179 rfl rfl ?_
    refine o_irem B18 181 182 at_181 rfl (own_nz (own_w3 x0 x1 x2 x3 x4)) ?_
    obtain ⟨T19, h19, L19, B19, N19, W19, Q19, c19⟩ := o_iastore B18 N18 g15 182 183 A18 (j := (1 : Int32)) (x := ((x3 &&& (2147483647 : Int32)) % (q0_3 x0 x1 x2 x3 x4))) 1 (q0_14 x0 x1 x2 x3 x4) at_182 rfl (by decide) (by decide) (by decide) rfl (Ls := #[.val (.int x0), .val (.int x1), .val (.int x2), .val (.int x3), .val (.int x4), .val (.int (0 : Int32)), .val (.int (1 : Int32)), .val (.int (2 : Int32)), .val (.int (3 : Int32)), .val (.int (q0_1 x0 x1 x2 x3 x4)), .val (.int (q0_2 x0 x1 x2 x3 x4)), .val (.int (q0_3 x0 x1 x2 x3 x4)), .val (.int (q0_4 x0 x1 x2 x3 x4)), .val (.ref a1), .val (.ref a6), .val (.int (q0_2 x0 x1 x2 x3 x4)), .val (.int (q0_3 x0 x1 x2 x3 x4)), .val (.int (q0_4 x0 x1 x2 x3 x4)), .val (.ref a15), .unset, .unset, .unset, .unset, .unset]) (rest := [])
    have A19 : AI Z h19 a15 .int 3 (w0_15 x0 x1 x2 x3 x4) := Q19
    refine c19 ?_
    refine o_aload B19 183 185 (v := (.ref a15)) at_183 rfl rfl rfl ?_
    refine o_iconst B19 185 186 (2 : Int32) at_185 rfl (by decide) ?_
    refine o_iload B19 186 188 (v := x4) at_186 rfl rfl ?_
    refine o_ldc B19 188 190 at_188 rfl (hw _ (List.mem_of_getElem? (i := 1) rfl)) ?_
    refine o_iand B19 190 191 at_190 rfl ?_
    refine o_iload B19 191 193 (v := (q0_4 x0 x1 x2 x3 x4)) at_191 rfl rfl ?_
    refine o_irem B19 193 194 at_193 rfl (own_nz (own_w4 x0 x1 x2 x3 x4)) ?_
    obtain ⟨T20, h20, L20, B20, N20, W20, Q20, c20⟩ := o_iastore B19 N19 g15 194 195 A19 (j := (2 : Int32)) (x := ((x4 &&& (2147483647 : Int32)) % (q0_4 x0 x1 x2 x3 x4))) 2 (q0_16 x0 x1 x2 x3 x4) at_194 rfl (by decide) (by decide) (by decide) rfl (Ls := #[.val (.int x0), .val (.int x1), .val (.int x2), .val (.int x3), .val (.int x4), .val (.int (0 : Int32)), .val (.int (1 : Int32)), .val (.int (2 : Int32)), .val (.int (3 : Int32)), .val (.int (q0_1 x0 x1 x2 x3 x4)), .val (.int (q0_2 x0 x1 x2 x3 x4)), .val (.int (q0_3 x0 x1 x2 x3 x4)), .val (.int (q0_4 x0 x1 x2 x3 x4)), .val (.ref a1), .val (.ref a6), .val (.int (q0_2 x0 x1 x2 x3 x4)), .val (.int (q0_3 x0 x1 x2 x3 x4)), .val (.int (q0_4 x0 x1 x2 x3 x4)), .val (.ref a15), .unset, .unset, .unset, .unset, .unset]) (rest := [])
    have A20 : AI Z h20 a15 .int 3 (w0_17 x0 x1 x2 x3 x4) := Q20
    refine c20 ?_
    refine o_aload B20 195 197 (v := (.ref a15)) at_195 rfl rfl rfl ?_
    refine o_iconst B20 197 198 (0 : Int32) at_197 rfl (by decide) ?_
    refine o_iaload B20 198 199 A20 0 (q0_12 x0 x1 x2 x3 x4) at_198 rfl (by decide) (by decide) (by decide) rfl ?_
    refine o_iload B20 199 201 (v := (q0_3 x0 x1 x2 x3 x4)) at_199 rfl rfl ?_
    refine o_imul B20 201 202 at_201 rfl ?_
    refine o_aload B20 202 204 (v := (.ref a15)) at_202 rfl rfl rfl ?_
    refine o_iconst B20 204 205 (1 : Int32) at_204 rfl (by decide) ?_
    refine o_iaload B20 205 206 A20 1 (q0_14 x0 x1 x2 x3 x4) at_205 rfl (by decide) (by decide) (by decide) rfl ?_
    refine o_iadd B20 206 207 at_206 rfl ?_
    refine o_iload B20 207 209 (v := (q0_4 x0 x1 x2 x3 x4)) at_207 rfl rfl ?_
    refine o_imul B20 209 210 at_209 rfl ?_
    refine o_aload B20 210 212 (v := (.ref a15)) at_210 rfl rfl rfl ?_
    refine o_iconst B20 212 213 (2 : Int32) at_212 rfl (by decide) ?_
    refine o_iaload B20 213 214 A20 2 (q0_16 x0 x1 x2 x3 x4) at_213 rfl (by decide) (by decide) (by decide) rfl ?_
    refine o_iadd B20 214 215 at_214 rfl ?_
    refine o_istore B20 215 217 (l' := #[.val (.int x0), .val (.int x1), .val (.int x2), .val (.int x3), .val (.int x4), .val (.int (0 : Int32)), .val (.int (1 : Int32)), .val (.int (2 : Int32)), .val (.int (3 : Int32)), .val (.int (q0_1 x0 x1 x2 x3 x4)), .val (.int (q0_2 x0 x1 x2 x3 x4)), .val (.int (q0_3 x0 x1 x2 x3 x4)), .val (.int (q0_4 x0 x1 x2 x3 x4)), .val (.ref a1), .val (.ref a6), .val (.int (q0_2 x0 x1 x2 x3 x4)), .val (.int (q0_3 x0 x1 x2 x3 x4)), .val (.int (q0_4 x0 x1 x2 x3 x4)), .val (.ref a15), .val (.int (q0_18 x0 x1 x2 x3 x4)), .unset, .unset, .unset, .unset]) at_215 rfl rfl ?_
    refine o_iload B20 217 219 (v := (q0_2 x0 x1 x2 x3 x4)) at_217 rfl rfl ?_
    refine o_iload B20 219 221 (v := (q0_3 x0 x1 x2 x3 x4)) at_219 rfl rfl ?_
    refine o_imul B20 221 222 at_221 rfl ?_
    refine o_iload B20 222 224 (v := (q0_4 x0 x1 x2 x3 x4)) at_222 rfl rfl ?_
    refine o_imul B20 224 225 at_224 rfl ?_
    refine o_istore B20 225 227 (l' := #[.val (.int x0), .val (.int x1), .val (.int x2), .val (.int x3), .val (.int x4), .val (.int (0 : Int32)), .val (.int (1 : Int32)), .val (.int (2 : Int32)), .val (.int (3 : Int32)), .val (.int (q0_1 x0 x1 x2 x3 x4)), .val (.int (q0_2 x0 x1 x2 x3 x4)), .val (.int (q0_3 x0 x1 x2 x3 x4)), .val (.int (q0_4 x0 x1 x2 x3 x4)), .val (.ref a1), .val (.ref a6), .val (.int (q0_2 x0 x1 x2 x3 x4)), .val (.int (q0_3 x0 x1 x2 x3 x4)), .val (.int (q0_4 x0 x1 x2 x3 x4)), .val (.ref a15), .val (.int (q0_18 x0 x1 x2 x3 x4)), .val (.int (q0_19 x0 x1 x2 x3 x4)), .unset, .unset, .unset]) at_225 rfl rfl ?_
    refine o_aload B20 227 229 (v := (.ref a6)) at_227 rfl rfl rfl ?_
    refine o_aload B20 229 231 (v := (.ref a15)) at_229 rfl rfl rfl ?_
    refine o_aload B20 231 233 (v := (.ref a1)) at_231 rfl rfl rfl ?_
    have F24 := ((((A10.ext E15).other W18 ne17).other W19 ne17).other W20 ne17)
    have F25 := ((((F12.ext E15).other W18 ne16).other W19 ne16).other W20 ne16)
    obtain ⟨v26, T26, L26, B26, Q26, c26⟩ := o_callS B20 233 236 at_233 rfl (hw _ (List.mem_of_getElem? (i := 2) rfl)) (hw _ (List.mem_of_getElem? (i := 3) rfl)) (hw _ (List.mem_of_getElem? (i := 4) rfl)) (hw _ (List.mem_of_getElem? (i := 5) rfl)) (by decide) (rm1 l Z a0 hw (w0_11 x0 x1 x2 x3 x4) (w0_17 x0 x1 x2 x3 x4) (w0_8 x0 x1 x2 x3 x4) a6 a15 a1 h20 n0 (W20.size ▸ (W19.size ▸ (W18.size ▸ s15))) F24 A20 F25 g15 ne17 ne16 (own_3 (show 0 ≤ (1 : Int32).toInt ∧ (1 : Int32).toInt < 4 by decide) (show 0 ≤ (2 : Int32).toInt ∧ (2 : Int32).toInt < 4 by decide) (show 0 ≤ (3 : Int32).toInt ∧ (3 : Int32).toInt < 4 by decide))) 0 [(.ref a6), (.ref a15), (.ref a1)] [] pd___I_I_I_Z rfl rfl (st := [(.ref a1), (.ref a15), (.ref a6)]) rfl (Ls := #[.val (.int x0), .val (.int x1), .val (.int x2), .val (.int x3), .val (.int x4), .val (.int (0 : Int32)), .val (.int (1 : Int32)), .val (.int (2 : Int32)), .val (.int (3 : Int32)), .val (.int (q0_1 x0 x1 x2 x3 x4)), .val (.int (q0_2 x0 x1 x2 x3 x4)), .val (.int (q0_3 x0 x1 x2 x3 x4)), .val (.int (q0_4 x0 x1 x2 x3 x4)), .val (.ref a1), .val (.ref a6), .val (.int (q0_2 x0 x1 x2 x3 x4)), .val (.int (q0_3 x0 x1 x2 x3 x4)), .val (.int (q0_4 x0 x1 x2 x3 x4)), .val (.ref a15), .val (.int (q0_18 x0 x1 x2 x3 x4)), .val (.int (q0_19 x0 x1 x2 x3 x4)), .unset, .unset, .unset]) rfl (Nat.le_of_eq rfl) (by decide) (by decide) (by decide) (by decide)
    obtain ⟨rfl, M26, K26, O26_0⟩ := Q26
    have N26 := Fr.app N20 M26
    have s26 : n0 ≤ T26.heap.size := Nat.le_trans (W20.size ▸ (W19.size ▸ (W18.size ▸ s15))) K26.1
    refine c26 ?_
    show OG p.tables e below _ (T26.setTop (mkF m 236 #[.val (.int x0), .val (.int x1), .val (.int x2), .val (.int x3), .val (.int x4), .val (.int (0 : Int32)), .val (.int (1 : Int32)), .val (.int (2 : Int32)), .val (.int (3 : Int32)), .val (.int (q0_1 x0 x1 x2 x3 x4)), .val (.int (q0_2 x0 x1 x2 x3 x4)), .val (.int (q0_3 x0 x1 x2 x3 x4)), .val (.int (q0_4 x0 x1 x2 x3 x4)), .val (.ref a1), .val (.ref a6), .val (.int (q0_2 x0 x1 x2 x3 x4)), .val (.int (q0_3 x0 x1 x2 x3 x4)), .val (.int (q0_4 x0 x1 x2 x3 x4)), .val (.ref a15), .val (.int (q0_18 x0 x1 x2 x3 x4)), .val (.int (q0_19 x0 x1 x2 x3 x4)), .unset, .unset, .unset] [(.int (q0_20 x0 x1 x2 x3 x4))]))
    refine o_istore B26 236 238 (l' := #[.val (.int x0), .val (.int x1), .val (.int x2), .val (.int x3), .val (.int x4), .val (.int (0 : Int32)), .val (.int (1 : Int32)), .val (.int (2 : Int32)), .val (.int (3 : Int32)), .val (.int (q0_1 x0 x1 x2 x3 x4)), .val (.int (q0_2 x0 x1 x2 x3 x4)), .val (.int (q0_3 x0 x1 x2 x3 x4)), .val (.int (q0_4 x0 x1 x2 x3 x4)), .val (.ref a1), .val (.ref a6), .val (.int (q0_2 x0 x1 x2 x3 x4)), .val (.int (q0_3 x0 x1 x2 x3 x4)), .val (.int (q0_4 x0 x1 x2 x3 x4)), .val (.ref a15), .val (.int (q0_18 x0 x1 x2 x3 x4)), .val (.int (q0_19 x0 x1 x2 x3 x4)), .val (.int (q0_20 x0 x1 x2 x3 x4)), .unset, .unset]) at_236 rfl rfl ?_
    refine o_aload B26 238 240 (v := (.ref a6)) at_238 rfl rfl rfl ?_
    refine o_iconst B26 240 241 (0 : Int32) at_240 rfl (by decide) ?_
    have F28 := (F24.keep K26 (ninS ne17 nin0))
    refine o_iaload B26 241 242 F28 0 (1 : Int32) at_241 rfl (by decide) (by decide) (by decide) rfl ?_
    refine o_iload B26 242 244 (v := (1 : Int32)) at_242 rfl rfl ?_
    refine o_icN B26 244 247 at_244 rfl (XT.ii_ne_f (by decide)) ?_
    refine o_aload B26 247 249 (v := (.ref a6)) at_247 rfl rfl rfl ?_
    refine o_iconst B26 249 250 (1 : Int32) at_249 rfl (by decide) ?_
    refine o_iaload B26 250 251 F28 1 (2 : Int32) at_250 rfl (by decide) (by decide) (by decide) rfl ?_
    refine o_iload B26 251 253 (v := (2 : Int32)) at_251 rfl rfl ?_
    refine o_icN B26 253 256 at_253 rfl (XT.ii_ne_f (by decide)) ?_
    refine o_aload B26 256 258 (v := (.ref a6)) at_256 rfl rfl rfl ?_
    refine o_iconst B26 258 259 (2 : Int32) at_258 rfl (by decide) ?_
    refine o_iaload B26 259 260 F28 2 (3 : Int32) at_259 rfl (by decide) (by decide) (by decide) rfl ?_
    refine o_iload B26 260 262 (v := (3 : Int32)) at_260 rfl rfl ?_
    refine o_icN B26 262 265 at_262 rfl (XT.ii_ne_f (by decide)) ?_
    refine o_aload B26 265 267 (v := (.ref a1)) at_265 rfl rfl rfl ?_
    refine o_iconst B26 267 268 (0 : Int32) at_267 rfl (by decide) ?_
    have F32 := (F25.keep K26 (ninS ne16 nin0))
    refine o_iaload B26 268 269 F32 0 (q0_1 x0 x1 x2 x3 x4) at_268 rfl (by decide) (by decide) (by decide) rfl ?_
    refine o_iload B26 269 271 (v := (q0_1 x0 x1 x2 x3 x4)) at_269 rfl rfl ?_
    refine o_icN B26 271 274 at_271 rfl (XT.ii_ne_f rfl) ?_
    refine o_aload B26 274 276 (v := (.ref a1)) at_274 rfl rfl rfl ?_
    refine o_iconst B26 276 277 (1 : Int32) at_276 rfl (by decide) ?_
    refine o_iaload B26 277 278 F32 1 (q0_2 x0 x1 x2 x3 x4) at_277 rfl (by decide) (by decide) (by decide) rfl ?_
    refine o_iload B26 278 280 (v := (q0_2 x0 x1 x2 x3 x4)) at_278 rfl rfl ?_
    refine o_icN B26 280 283 at_280 rfl (XT.ii_ne_f rfl) ?_
    refine o_aload B26 283 285 (v := (.ref a1)) at_283 rfl rfl rfl ?_
    refine o_iconst B26 285 286 (2 : Int32) at_285 rfl (by decide) ?_
    refine o_iaload B26 286 287 F32 2 (q0_3 x0 x1 x2 x3 x4) at_286 rfl (by decide) (by decide) (by decide) rfl ?_
    refine o_iload B26 287 289 (v := (q0_3 x0 x1 x2 x3 x4)) at_287 rfl rfl ?_
    refine o_icN B26 289 292 at_289 rfl (XT.ii_ne_f rfl) ?_
    refine o_aload B26 292 294 (v := (.ref a1)) at_292 rfl rfl rfl ?_
    refine o_iconst B26 294 295 (3 : Int32) at_294 rfl (by decide) ?_
    refine o_iaload B26 295 296 F32 3 (q0_4 x0 x1 x2 x3 x4) at_295 rfl (by decide) (by decide) (by decide) rfl ?_
    refine o_iload B26 296 298 (v := (q0_4 x0 x1 x2 x3 x4)) at_296 rfl rfl ?_
    refine o_icN B26 298 301 at_298 rfl (XT.ii_ne_f rfl) ?_
    refine o_iconst B26 301 302 (1 : Int32) at_301 rfl (by decide) ?_
    refine o_goto B26 302 306 at_302 (by decide) (by decide) ?_
    refine o_istore B26 306 308 (l' := #[.val (.int x0), .val (.int x1), .val (.int x2), .val (.int x3), .val (.int x4), .val (.int (0 : Int32)), .val (.int (1 : Int32)), .val (.int (2 : Int32)), .val (.int (3 : Int32)), .val (.int (q0_1 x0 x1 x2 x3 x4)), .val (.int (q0_2 x0 x1 x2 x3 x4)), .val (.int (q0_3 x0 x1 x2 x3 x4)), .val (.int (q0_4 x0 x1 x2 x3 x4)), .val (.ref a1), .val (.ref a6), .val (.int (q0_2 x0 x1 x2 x3 x4)), .val (.int (q0_3 x0 x1 x2 x3 x4)), .val (.int (q0_4 x0 x1 x2 x3 x4)), .val (.ref a15), .val (.int (q0_18 x0 x1 x2 x3 x4)), .val (.int (q0_19 x0 x1 x2 x3 x4)), .val (.int (q0_20 x0 x1 x2 x3 x4)), .val (.int (1 : Int32)), .unset]) at_306 rfl rfl ?_
    refine o_iload B26 308 310 (v := (q0_18 x0 x1 x2 x3 x4)) at_308 rfl rfl ?_
    refine o_iload B26 310 312 (v := (q0_19 x0 x1 x2 x3 x4)) at_310 rfl rfl ?_
    refine o_iconst B26 312 313 (1 : Int32) at_312 rfl (by decide) ?_
    refine o_isub B26 313 314 at_313 rfl ?_
    by_cases k2 : (q0_18 x0 x1 x2 x3 x4) = ((q0_19 x0 x1 x2 x3 x4) - (1 : Int32))
    · refine o_icN B26 314 317 at_314 rfl (XT.ii_ne_f k2) ?_
      refine o_iload B26 317 319 (v := (q0_20 x0 x1 x2 x3 x4)) at_317 rfl rfl ?_
      by_cases k3 : (q0_20 x0 x1 x2 x3 x4) = 0
      · refine o_ifN B26 319 322 at_319 rfl (XT.i0_ne_f k3) ?_
        refine o_aload B26 322 324 (v := (.ref a15)) at_322 rfl rfl rfl ?_
        refine o_iconst B26 324 325 (0 : Int32) at_324 rfl (by decide) ?_
        refine o_iaload B26 325 326 O26_0 0 ((o1_0 (w0_11 x0 x1 x2 x3 x4) (w0_17 x0 x1 x2 x3 x4) (w0_8 x0 x1 x2 x3 x4)) 0) at_325 rfl (by decide) (by decide) (by decide) rfl ?_
        by_cases k4 : ((o1_0 (w0_11 x0 x1 x2 x3 x4) (w0_17 x0 x1 x2 x3 x4) (w0_8 x0 x1 x2 x3 x4)) 0) = 0
        · refine o_ifN B26 326 329 at_326 rfl (XT.i0_ne_f k4) ?_
          refine o_aload B26 329 331 (v := (.ref a15)) at_329 rfl rfl rfl ?_
          refine o_iconst B26 331 332 (1 : Int32) at_331 rfl (by decide) ?_
          refine o_iaload B26 332 333 O26_0 1 ((o1_0 (w0_11 x0 x1 x2 x3 x4) (w0_17 x0 x1 x2 x3 x4) (w0_8 x0 x1 x2 x3 x4)) 1) at_332 rfl (by decide) (by decide) (by decide) rfl ?_
          by_cases k5 : ((o1_0 (w0_11 x0 x1 x2 x3 x4) (w0_17 x0 x1 x2 x3 x4) (w0_8 x0 x1 x2 x3 x4)) 1) = 0
          · refine o_ifN B26 333 336 at_333 rfl (XT.i0_ne_f k5) ?_
            refine o_aload B26 336 338 (v := (.ref a15)) at_336 rfl rfl rfl ?_
            refine o_iconst B26 338 339 (2 : Int32) at_338 rfl (by decide) ?_
            refine o_iaload B26 339 340 O26_0 2 ((o1_0 (w0_11 x0 x1 x2 x3 x4) (w0_17 x0 x1 x2 x3 x4) (w0_8 x0 x1 x2 x3 x4)) 2) at_339 rfl (by decide) (by decide) (by decide) rfl ?_
            by_cases k6 : ((o1_0 (w0_11 x0 x1 x2 x3 x4) (w0_17 x0 x1 x2 x3 x4) (w0_8 x0 x1 x2 x3 x4)) 2) = 0
            · refine o_ifN B26 340 343 at_340 rfl (XT.i0_ne_f k6) ?_
              refine o_iload B26 343 345 (v := (1 : Int32)) at_343 rfl rfl ?_
              refine o_ifN B26 345 348 at_345 rfl (XT.i0_eq_f (by decide)) ?_
              refine o_iconst B26 348 349 (1 : Int32) at_348 rfl (by decide) ?_
              refine o_goto B26 349 353 at_349 (by decide) (by decide) ?_
              refine o_retZ (t := .boolean) B26 353 at_353 hret hlk (by simp) (by decide) (by decide) ⟨(congrArg (fun z => some (Value.int z)) ((show nar .boolean (1 : Int32) = (1 : Int32) from rfl).trans (show f0 x0 x1 x2 x3 x4 = (1 : Int32) from (if_pos k1).trans ((if_pos k2).trans ((if_pos k3).trans ((if_pos k4).trans ((if_pos k5).trans ((if_pos k6).trans (rfl))))))).symm)), N26⟩
            · refine o_ifY B26 340 352 at_340 (XT.i0_ne_t k6) (by decide) (by decide) ?_
              refine o_iconst B26 352 353 (0 : Int32) at_352 rfl (by decide) ?_
              refine o_retZ (t := .boolean) B26 353 at_353 hret hlk (by simp) (by decide) (by decide) ⟨(congrArg (fun z => some (Value.int z)) ((show nar .boolean (0 : Int32) = (0 : Int32) from rfl).trans (show f0 x0 x1 x2 x3 x4 = (0 : Int32) from (if_pos k1).trans ((if_pos k2).trans ((if_pos k3).trans ((if_pos k4).trans ((if_pos k5).trans ((if_neg k6).trans (rfl))))))).symm)), N26⟩
          · refine o_ifY B26 333 352 at_333 (XT.i0_ne_t k5) (by decide) (by decide) ?_
            refine o_iconst B26 352 353 (0 : Int32) at_352 rfl (by decide) ?_
            refine o_retZ (t := .boolean) B26 353 at_353 hret hlk (by simp) (by decide) (by decide) ⟨(congrArg (fun z => some (Value.int z)) ((show nar .boolean (0 : Int32) = (0 : Int32) from rfl).trans (show f0 x0 x1 x2 x3 x4 = (0 : Int32) from (if_pos k1).trans ((if_pos k2).trans ((if_pos k3).trans ((if_pos k4).trans ((if_neg k5).trans (rfl)))))).symm)), N26⟩
        · refine o_ifY B26 326 352 at_326 (XT.i0_ne_t k4) (by decide) (by decide) ?_
          refine o_iconst B26 352 353 (0 : Int32) at_352 rfl (by decide) ?_
          refine o_retZ (t := .boolean) B26 353 at_353 hret hlk (by simp) (by decide) (by decide) ⟨(congrArg (fun z => some (Value.int z)) ((show nar .boolean (0 : Int32) = (0 : Int32) from rfl).trans (show f0 x0 x1 x2 x3 x4 = (0 : Int32) from (if_pos k1).trans ((if_pos k2).trans ((if_pos k3).trans ((if_neg k4).trans (rfl))))).symm)), N26⟩
      · refine o_ifY B26 319 352 at_319 (XT.i0_ne_t k3) (by decide) (by decide) ?_
        refine o_iconst B26 352 353 (0 : Int32) at_352 rfl (by decide) ?_
        refine o_retZ (t := .boolean) B26 353 at_353 hret hlk (by simp) (by decide) (by decide) ⟨(congrArg (fun z => some (Value.int z)) ((show nar .boolean (0 : Int32) = (0 : Int32) from rfl).trans (show f0 x0 x1 x2 x3 x4 = (0 : Int32) from (if_pos k1).trans ((if_pos k2).trans ((if_neg k3).trans (rfl)))).symm)), N26⟩
    · refine o_icY B26 314 354 at_314 (XT.ii_ne_t k2) (by decide) (by decide) ?_
      refine o_iload B26 354 356 (v := (q0_18 x0 x1 x2 x3 x4)) at_354 rfl rfl ?_
      refine o_iconst B26 356 357 (1 : Int32) at_356 rfl (by decide) ?_
      refine o_iadd B26 357 358 at_357 rfl ?_
      refine o_istore B26 358 360 (l' := #[.val (.int x0), .val (.int x1), .val (.int x2), .val (.int x3), .val (.int x4), .val (.int (0 : Int32)), .val (.int (1 : Int32)), .val (.int (2 : Int32)), .val (.int (3 : Int32)), .val (.int (q0_1 x0 x1 x2 x3 x4)), .val (.int (q0_2 x0 x1 x2 x3 x4)), .val (.int (q0_3 x0 x1 x2 x3 x4)), .val (.int (q0_4 x0 x1 x2 x3 x4)), .val (.ref a1), .val (.ref a6), .val (.int (q0_2 x0 x1 x2 x3 x4)), .val (.int (q0_3 x0 x1 x2 x3 x4)), .val (.int (q0_4 x0 x1 x2 x3 x4)), .val (.ref a15), .val (.int (q0_18 x0 x1 x2 x3 x4)), .val (.int (q0_19 x0 x1 x2 x3 x4)), .val (.int (q0_20 x0 x1 x2 x3 x4)), .val (.int (1 : Int32)), .val (.int ((q0_18 x0 x1 x2 x3 x4) + (1 : Int32)))]) at_358 rfl rfl ?_
      refine o_iload B26 360 362 (v := (q0_20 x0 x1 x2 x3 x4)) at_360 rfl rfl ?_
      by_cases k7 : (q0_20 x0 x1 x2 x3 x4) = 0
      · refine o_ifY B26 362 416 at_362 (XT.i0_eq_t k7) (by decide) (by decide) ?_
        refine o_iconst B26 416 417 (0 : Int32) at_416 rfl (by decide) ?_
        refine o_retZ (t := .boolean) B26 417 at_417 hret hlk (by simp) (by decide) (by decide) ⟨(congrArg (fun z => some (Value.int z)) ((show nar .boolean (0 : Int32) = (0 : Int32) from rfl).trans (show f0 x0 x1 x2 x3 x4 = (0 : Int32) from (if_pos k1).trans ((if_neg k2).trans ((if_pos k7).trans (rfl)))).symm)), N26⟩
      · refine o_ifN B26 362 365 at_362 rfl (XT.i0_eq_f k7) ?_
        refine o_aload B26 365 367 (v := (.ref a15)) at_365 rfl rfl rfl ?_
        refine o_iconst B26 367 368 (2 : Int32) at_367 rfl (by decide) ?_
        refine o_iaload B26 368 369 O26_0 2 ((o1_0 (w0_11 x0 x1 x2 x3 x4) (w0_17 x0 x1 x2 x3 x4) (w0_8 x0 x1 x2 x3 x4)) 2) at_368 rfl (by decide) (by decide) (by decide) rfl ?_
        refine o_iload B26 369 371 (v := ((q0_18 x0 x1 x2 x3 x4) + (1 : Int32))) at_369 rfl rfl ?_
        refine o_iload B26 371 373 (v := (q0_4 x0 x1 x2 x3 x4)) at_371 rfl rfl ?_
        refine o_irem B26 373 374 at_373 rfl (own_nz (own_w4 x0 x1 x2 x3 x4)) ?_
        by_cases k8 : ((o1_0 (w0_11 x0 x1 x2 x3 x4) (w0_17 x0 x1 x2 x3 x4) (w0_8 x0 x1 x2 x3 x4)) 2) = (((q0_18 x0 x1 x2 x3 x4) + (1 : Int32)) % (q0_4 x0 x1 x2 x3 x4))
        · refine o_icN B26 374 377 at_374 rfl (XT.ii_ne_f k8) ?_
          refine o_aload B26 377 379 (v := (.ref a15)) at_377 rfl rfl rfl ?_
          refine o_iconst B26 379 380 (1 : Int32) at_379 rfl (by decide) ?_
          refine o_iaload B26 380 381 O26_0 1 ((o1_0 (w0_11 x0 x1 x2 x3 x4) (w0_17 x0 x1 x2 x3 x4) (w0_8 x0 x1 x2 x3 x4)) 1) at_380 rfl (by decide) (by decide) (by decide) rfl ?_
          refine o_iload B26 381 383 (v := ((q0_18 x0 x1 x2 x3 x4) + (1 : Int32))) at_381 rfl rfl ?_
          refine o_iload B26 383 385 (v := (q0_4 x0 x1 x2 x3 x4)) at_383 rfl rfl ?_
          refine o_idiv B26 385 386 at_385 rfl (own_nz (own_w4 x0 x1 x2 x3 x4)) ?_
          refine o_iload B26 386 388 (v := (q0_3 x0 x1 x2 x3 x4)) at_386 rfl rfl ?_
          refine o_irem B26 388 389 at_388 rfl (own_nz (own_w3 x0 x1 x2 x3 x4)) ?_
          by_cases k9 : ((o1_0 (w0_11 x0 x1 x2 x3 x4) (w0_17 x0 x1 x2 x3 x4) (w0_8 x0 x1 x2 x3 x4)) 1) = ((((q0_18 x0 x1 x2 x3 x4) + (1 : Int32)) / (q0_4 x0 x1 x2 x3 x4)) % (q0_3 x0 x1 x2 x3 x4))
          · refine o_icN B26 389 392 at_389 rfl (XT.ii_ne_f k9) ?_
            refine o_aload B26 392 394 (v := (.ref a15)) at_392 rfl rfl rfl ?_
            refine o_iconst B26 394 395 (0 : Int32) at_394 rfl (by decide) ?_
            refine o_iaload B26 395 396 O26_0 0 ((o1_0 (w0_11 x0 x1 x2 x3 x4) (w0_17 x0 x1 x2 x3 x4) (w0_8 x0 x1 x2 x3 x4)) 0) at_395 rfl (by decide) (by decide) (by decide) rfl ?_
            refine o_iload B26 396 398 (v := ((q0_18 x0 x1 x2 x3 x4) + (1 : Int32))) at_396 rfl rfl ?_
            refine o_iload B26 398 400 (v := (q0_3 x0 x1 x2 x3 x4)) at_398 rfl rfl ?_
            refine o_iload B26 400 402 (v := (q0_4 x0 x1 x2 x3 x4)) at_400 rfl rfl ?_
            refine o_imul B26 402 403 at_402 rfl ?_
            refine o_idiv B26 403 404 at_403 rfl (own_nz2 (own_w3 x0 x1 x2 x3 x4) (own_w4 x0 x1 x2 x3 x4)) ?_
            by_cases k10 : ((o1_0 (w0_11 x0 x1 x2 x3 x4) (w0_17 x0 x1 x2 x3 x4) (w0_8 x0 x1 x2 x3 x4)) 0) = (((q0_18 x0 x1 x2 x3 x4) + (1 : Int32)) / ((q0_3 x0 x1 x2 x3 x4) * (q0_4 x0 x1 x2 x3 x4)))
            · refine o_icN B26 404 407 at_404 rfl (XT.ii_ne_f k10) ?_
              refine o_iload B26 407 409 (v := (1 : Int32)) at_407 rfl rfl ?_
              refine o_ifN B26 409 412 at_409 rfl (XT.i0_eq_f (by decide)) ?_
              refine o_iconst B26 412 413 (1 : Int32) at_412 rfl (by decide) ?_
              refine o_goto B26 413 417 at_413 (by decide) (by decide) ?_
              refine o_retZ (t := .boolean) B26 417 at_417 hret hlk (by simp) (by decide) (by decide) ⟨(congrArg (fun z => some (Value.int z)) ((show nar .boolean (1 : Int32) = (1 : Int32) from rfl).trans (show f0 x0 x1 x2 x3 x4 = (1 : Int32) from (if_pos k1).trans ((if_neg k2).trans ((if_neg k7).trans ((if_pos k8).trans ((if_pos k9).trans ((if_pos k10).trans (rfl))))))).symm)), N26⟩
            · refine o_icY B26 404 416 at_404 (XT.ii_ne_t k10) (by decide) (by decide) ?_
              refine o_iconst B26 416 417 (0 : Int32) at_416 rfl (by decide) ?_
              refine o_retZ (t := .boolean) B26 417 at_417 hret hlk (by simp) (by decide) (by decide) ⟨(congrArg (fun z => some (Value.int z)) ((show nar .boolean (0 : Int32) = (0 : Int32) from rfl).trans (show f0 x0 x1 x2 x3 x4 = (0 : Int32) from (if_pos k1).trans ((if_neg k2).trans ((if_neg k7).trans ((if_pos k8).trans ((if_pos k9).trans ((if_neg k10).trans (rfl))))))).symm)), N26⟩
          · refine o_icY B26 389 416 at_389 (XT.ii_ne_t k9) (by decide) (by decide) ?_
            refine o_iconst B26 416 417 (0 : Int32) at_416 rfl (by decide) ?_
            refine o_retZ (t := .boolean) B26 417 at_417 hret hlk (by simp) (by decide) (by decide) ⟨(congrArg (fun z => some (Value.int z)) ((show nar .boolean (0 : Int32) = (0 : Int32) from rfl).trans (show f0 x0 x1 x2 x3 x4 = (0 : Int32) from (if_pos k1).trans ((if_neg k2).trans ((if_neg k7).trans ((if_pos k8).trans ((if_neg k9).trans (rfl)))))).symm)), N26⟩
        · refine o_icY B26 374 416 at_374 (XT.ii_ne_t k8) (by decide) (by decide) ?_
          refine o_iconst B26 416 417 (0 : Int32) at_416 rfl (by decide) ?_
          refine o_retZ (t := .boolean) B26 417 at_417 hret hlk (by simp) (by decide) (by decide) ⟨(congrArg (fun z => some (Value.int z)) ((show nar .boolean (0 : Int32) = (0 : Int32) from rfl).trans (show f0 x0 x1 x2 x3 x4 = (0 : Int32) from (if_pos k1).trans ((if_neg k2).trans ((if_neg k7).trans ((if_neg k8).trans (rfl))))).symm)), N26⟩
  · by_cases k11 : (x0 &&& (3 : Int32)) = (1 : Int32)
    · rw [k11]
      refine o_iload B 5 7 (v := (1 : Int32)) at_5 rfl rfl ?_
      refine o_ifY B 7 14 at_7 (XT.i0_ne_t (by decide)) (by decide) (by decide) ?_
      refine o_iconst B 14 15 (0 : Int32) at_14 rfl (by decide) ?_
      refine o_istore B 15 17 (l' := #[.val (.int x0), .val (.int x1), .val (.int x2), .val (.int x3), .val (.int x4), .val (.int (1 : Int32)), .val (.int (0 : Int32)), .unset, .unset, .unset, .unset, .unset, .unset, .unset, .unset, .unset, .unset, .unset, .unset, .unset, .unset, .unset, .unset, .unset]) at_15 rfl rfl ?_
      refine o_iload B 17 19 (v := (1 : Int32)) at_17 rfl rfl ?_
      refine o_iconst B 19 20 (1 : Int32) at_19 rfl (by decide) ?_
      refine o_icN B 20 23 at_20 rfl (XT.ii_gt_f (by decide)) ?_
      refine o_iconst B 23 24 (2 : Int32) at_23 rfl (by decide) ?_
      refine o_goto B 24 28 at_24 (by decide) (by decide) ?_
      refine o_istore B 28 30 (l' := #[.val (.int x0), .val (.int x1), .val (.int x2), .val (.int x3), .val (.int x4), .val (.int (1 : Int32)), .val (.int (0 : Int32)), .val (.int (2 : Int32)), .unset, .unset, .unset, .unset, .unset, .unset, .unset, .unset, .unset, .unset, .unset, .unset, .unset, .unset, .unset, .unset]) at_28 rfl rfl ?_
      refine o_iload B 30 32 (v := (1 : Int32)) at_30 rfl rfl ?_
      refine o_iconst B 32 33 (2 : Int32) at_32 rfl (by decide) ?_
      refine o_icN B 33 36 at_33 rfl (XT.ii_gt_f (by decide)) ?_
      refine o_iconst B 36 37 (3 : Int32) at_36 rfl (by decide) ?_
      refine o_goto B 37 41 at_37 (by decide) (by decide) ?_
      refine o_istore B 41 43 (l' := #[.val (.int x0), .val (.int x1), .val (.int x2), .val (.int x3), .val (.int x4), .val (.int (1 : Int32)), .val (.int (0 : Int32)), .val (.int (2 : Int32)), .val (.int (3 : Int32)), .unset, .unset, .unset, .unset, .unset, .unset, .unset, .unset, .unset, .unset, .unset, .unset, .unset, .unset, .unset]) at_41 rfl rfl ?_
      refine o_iloadN B 43 44 (v := x1) at_43 rfl rfl ?_
      refine o_bipush B 44 46 (7 : Int32) at_44 rfl (by decide) ?_
      refine o_iand B 46 47 at_46 rfl ?_
      refine o_iconst B 47 48 (1 : Int32) at_47 rfl (by decide) ?_
      refine o_iadd B 48 49 at_48 rfl ?_
      refine o_istore B 49 51 (l' := #[.val (.int x0), .val (.int x1), .val (.int x2), .val (.int x3), .val (.int x4), .val (.int (1 : Int32)), .val (.int (0 : Int32)), .val (.int (2 : Int32)), .val (.int (3 : Int32)), .val (.int (q0_1 x0 x1 x2 x3 x4)), .unset, .unset, .unset, .unset, .unset, .unset, .unset, .unset, .unset, .unset, .unset, .unset, .unset, .unset]) at_49 rfl rfl ?_
      refine o_iloadN B 51 52 (v := x1) at_51 rfl rfl ?_
      refine o_iconst B 52 53 (3 : Int32) at_52 rfl (by decide) ?_
      refine o_iushr B 53 54 at_53 rfl ?_
      refine o_bipush B 54 56 (7 : Int32) at_54 rfl (by decide) ?_
      refine o_iand B 56 57 at_56 rfl ?_
      refine o_iconst B 57 58 (1 : Int32) at_57 rfl (by decide) ?_
      refine o_iadd B 58 59 at_58 rfl ?_
      refine o_istore B 59 61 (l' := #[.val (.int x0), .val (.int x1), .val (.int x2), .val (.int x3), .val (.int x4), .val (.int (1 : Int32)), .val (.int (0 : Int32)), .val (.int (2 : Int32)), .val (.int (3 : Int32)), .val (.int (q0_1 x0 x1 x2 x3 x4)), .val (.int (q0_2 x0 x1 x2 x3 x4)), .unset, .unset, .unset, .unset, .unset, .unset, .unset, .unset, .unset, .unset, .unset, .unset, .unset]) at_59 rfl rfl ?_
      refine o_iloadN B 61 62 (v := x1) at_61 rfl rfl ?_
      refine o_bipush B 62 64 (6 : Int32) at_62 rfl (by decide) ?_
      refine o_iushr B 64 65 at_64 rfl ?_
      refine o_bipush B 65 67 (7 : Int32) at_65 rfl (by decide) ?_
      refine o_iand B 67 68 at_67 rfl ?_
      refine o_iconst B 68 69 (1 : Int32) at_68 rfl (by decide) ?_
      refine o_iadd B 69 70 at_69 rfl ?_
      refine o_istore B 70 72 (l' := #[.val (.int x0), .val (.int x1), .val (.int x2), .val (.int x3), .val (.int x4), .val (.int (1 : Int32)), .val (.int (0 : Int32)), .val (.int (2 : Int32)), .val (.int (3 : Int32)), .val (.int (q0_1 x0 x1 x2 x3 x4)), .val (.int (q0_2 x0 x1 x2 x3 x4)), .val (.int (q0_3 x0 x1 x2 x3 x4)), .unset, .unset, .unset, .unset, .unset, .unset, .unset, .unset, .unset, .unset, .unset, .unset]) at_70 rfl rfl ?_
      refine o_iloadN B 72 73 (v := x1) at_72 rfl rfl ?_
      refine o_bipush B 73 75 (9 : Int32) at_73 rfl (by decide) ?_
      refine o_iushr B 75 76 at_75 rfl ?_
      refine o_bipush B 76 78 (7 : Int32) at_76 rfl (by decide) ?_
      refine o_iand B 78 79 at_78 rfl ?_
      refine o_iconst B 79 80 (1 : Int32) at_79 rfl (by decide) ?_
      refine o_iadd B 80 81 at_80 rfl ?_
      refine o_istore B 81 83 (l' := #[.val (.int x0), .val (.int x1), .val (.int x2), .val (.int x3), .val (.int x4), .val (.int (1 : Int32)), .val (.int (0 : Int32)), .val (.int (2 : Int32)), .val (.int (3 : Int32)), .val (.int (q0_1 x0 x1 x2 x3 x4)), .val (.int (q0_2 x0 x1 x2 x3 x4)), .val (.int (q0_3 x0 x1 x2 x3 x4)), .val (.int (q0_4 x0 x1 x2 x3 x4)), .unset, .unset, .unset, .unset, .unset, .unset, .unset, .unset, .unset, .unset, .unset]) at_81 rfl rfl ?_
      refine o_iconst B 83 84 (4 : Int32) at_83 rfl (by decide) ?_
      obtain ⟨a42, T42, h42, z42, B42, E42, A42, c42⟩ := o_newI B 84 86 (ty := .int) (z := (4 : Int32)) 4 4 (hw _ (List.mem_of_getElem? (i := 0) rfl)) at_84 rfl rfl rfl (by decide) (by decide) (by decide) (by decide) (by decide) (by decide) (Ls := #[.val (.int x0), .val (.int x1), .val (.int x2), .val (.int x3), .val (.int x4), .val (.int (1 : Int32)), .val (.int (0 : Int32)), .val (.int (2 : Int32)), .val (.int (3 : Int32)), .val (.int (q0_1 x0 x1 x2 x3 x4)), .val (.int (q0_2 x0 x1 x2 x3 x4)), .val (.int (q0_3 x0 x1 x2 x3 x4)), .val (.int (q0_4 x0 x1 x2 x3 x4)), .unset, .unset, .unset, .unset, .unset, .unset, .unset, .unset, .unset, .unset, .unset]) (rest := [])
      have g42 : n0 ≤ a42 := by rw [z42]; exact hz
      have s42 : n0 ≤ h42.size := Nat.le_trans hz E42.1
      refine c42 ?_
      refine o_astore B42 86 88 (l' := #[.val (.int x0), .val (.int x1), .val (.int x2), .val (.int x3), .val (.int x4), .val (.int (1 : Int32)), .val (.int (0 : Int32)), .val (.int (2 : Int32)), .val (.int (3 : Int32)), .val (.int (q0_1 x0 x1 x2 x3 x4)), .val (.int (q0_2 x0 x1 x2 x3 x4)), .val (.int (q0_3 x0 x1 x2 x3 x4)), .val (.int (q0_4 x0 x1 x2 x3 x4)), .val (.ref a42), .unset, .unset, .unset, .unset, .unset, .unset, .unset, .unset, .unset, .unset]) at_86 rfl rfl rfl ?_
      refine o_aload B42 88 90 (v := (.ref a42)) at_88 rfl rfl rfl ?_
      refine o_iconst B42 90 91 (0 : Int32) at_90 rfl (by decide) ?_
      refine o_iload B42 91 93 (v := (q0_1 x0 x1 x2 x3 x4)) at_91 rfl rfl ?_
      obtain ⟨T43, h43, L43, B43, N43, W43, Q43, c43⟩ := o_iastore B42 N0 g42 93 94 A42 (j := (0 : Int32)) (x := (q0_1 x0 x1 x2 x3 x4)) 0 (q0_1 x0 x1 x2 x3 x4) at_93 rfl (by decide) (by decide) (by decide) rfl (Ls := #[.val (.int x0), .val (.int x1), .val (.int x2), .val (.int x3), .val (.int x4), .val (.int (1 : Int32)), .val (.int (0 : Int32)), .val (.int (2 : Int32)), .val (.int (3 : Int32)), .val (.int (q0_1 x0 x1 x2 x3 x4)), .val (.int (q0_2 x0 x1 x2 x3 x4)), .val (.int (q0_3 x0 x1 x2 x3 x4)), .val (.int (q0_4 x0 x1 x2 x3 x4)), .val (.ref a42), .unset, .unset, .unset, .unset, .unset, .unset, .unset, .unset, .unset, .unset]) (rest := [])
      have A43 : AI Z h43 a42 .int 4 (w0_5 x0 x1 x2 x3 x4) := Q43
      refine c43 ?_
      refine o_aload B43 94 96 (v := (.ref a42)) at_94 rfl rfl rfl ?_
      refine o_iconst B43 96 97 (1 : Int32) at_96 rfl (by decide) ?_
      refine o_iload B43 97 99 (v := (q0_2 x0 x1 x2 x3 x4)) at_97 rfl rfl ?_
      obtain ⟨T44, h44, L44, B44, N44, W44, Q44, c44⟩ := o_iastore B43 N43 g42 99 100 A43 (j := (1 : Int32)) (x := (q0_2 x0 x1 x2 x3 x4)) 1 (q0_2 x0 x1 x2 x3 x4) at_99 rfl (by decide) (by decide) (by decide) rfl (Ls := #[.val (.int x0), .val (.int x1), .val (.int x2), .val (.int x3), .val (.int x4), .val (.int (1 : Int32)), .val (.int (0 : Int32)), .val (.int (2 : Int32)), .val (.int (3 : Int32)), .val (.int (q0_1 x0 x1 x2 x3 x4)), .val (.int (q0_2 x0 x1 x2 x3 x4)), .val (.int (q0_3 x0 x1 x2 x3 x4)), .val (.int (q0_4 x0 x1 x2 x3 x4)), .val (.ref a42), .unset, .unset, .unset, .unset, .unset, .unset, .unset, .unset, .unset, .unset]) (rest := [])
      have A44 : AI Z h44 a42 .int 4 (w0_6 x0 x1 x2 x3 x4) := Q44
      refine c44 ?_
      refine o_aload B44 100 102 (v := (.ref a42)) at_100 rfl rfl rfl ?_
      refine o_iconst B44 102 103 (2 : Int32) at_102 rfl (by decide) ?_
      refine o_iload B44 103 105 (v := (q0_3 x0 x1 x2 x3 x4)) at_103 rfl rfl ?_
      obtain ⟨T45, h45, L45, B45, N45, W45, Q45, c45⟩ := o_iastore B44 N44 g42 105 106 A44 (j := (2 : Int32)) (x := (q0_3 x0 x1 x2 x3 x4)) 2 (q0_3 x0 x1 x2 x3 x4) at_105 rfl (by decide) (by decide) (by decide) rfl (Ls := #[.val (.int x0), .val (.int x1), .val (.int x2), .val (.int x3), .val (.int x4), .val (.int (1 : Int32)), .val (.int (0 : Int32)), .val (.int (2 : Int32)), .val (.int (3 : Int32)), .val (.int (q0_1 x0 x1 x2 x3 x4)), .val (.int (q0_2 x0 x1 x2 x3 x4)), .val (.int (q0_3 x0 x1 x2 x3 x4)), .val (.int (q0_4 x0 x1 x2 x3 x4)), .val (.ref a42), .unset, .unset, .unset, .unset, .unset, .unset, .unset, .unset, .unset, .unset]) (rest := [])
      have A45 : AI Z h45 a42 .int 4 (w0_7 x0 x1 x2 x3 x4) := Q45
      refine c45 ?_
      refine o_aload B45 106 108 (v := (.ref a42)) at_106 rfl rfl rfl ?_
      refine o_iconst B45 108 109 (3 : Int32) at_108 rfl (by decide) ?_
      refine o_iload B45 109 111 (v := (q0_4 x0 x1 x2 x3 x4)) at_109 rfl rfl ?_
      obtain ⟨T46, h46, L46, B46, N46, W46, Q46, c46⟩ := o_iastore B45 N45 g42 111 112 A45 (j := (3 : Int32)) (x := (q0_4 x0 x1 x2 x3 x4)) 3 (q0_4 x0 x1 x2 x3 x4) at_111 rfl (by decide) (by decide) (by decide) rfl (Ls := #[.val (.int x0), .val (.int x1), .val (.int x2), .val (.int x3), .val (.int x4), .val (.int (1 : Int32)), .val (.int (0 : Int32)), .val (.int (2 : Int32)), .val (.int (3 : Int32)), .val (.int (q0_1 x0 x1 x2 x3 x4)), .val (.int (q0_2 x0 x1 x2 x3 x4)), .val (.int (q0_3 x0 x1 x2 x3 x4)), .val (.int (q0_4 x0 x1 x2 x3 x4)), .val (.ref a42), .unset, .unset, .unset, .unset, .unset, .unset, .unset, .unset, .unset, .unset]) (rest := [])
      have A46 : AI Z h46 a42 .int 4 (w0_8 x0 x1 x2 x3 x4) := Q46
      refine c46 ?_
      refine o_iconst B46 112 113 (3 : Int32) at_112 rfl (by decide) ?_
      obtain ⟨a47, T47, h47, z47, B47, E47, A47, c47⟩ := o_newI B46 113 115 (ty := .int) (z := (3 : Int32)) 3 3 (hw _ (List.mem_of_getElem? (i := 0) rfl)) at_113 rfl rfl rfl (by decide) (by decide) (by decide) (by decide) (by decide) (by decide) (Ls := #[.val (.int x0), .val (.int x1), .val (.int x2), .val (.int x3), .val (.int x4), .val (.int (1 : Int32)), .val (.int (0 : Int32)), .val (.int (2 : Int32)), .val (.int (3 : Int32)), .val (.int (q0_1 x0 x1 x2 x3 x4)), .val (.int (q0_2 x0 x1 x2 x3 x4)), .val (.int (q0_3 x0 x1 x2 x3 x4)), .val (.int (q0_4 x0 x1 x2 x3 x4)), .val (.ref a42), .unset, .unset, .unset, .unset, .unset, .unset, .unset, .unset, .unset, .unset]) (rest := [])
      have ne48 : a42 ≠ a47 := by rw [z47]; exact Nat.ne_of_lt A46.lt
      have g47 : n0 ≤ a47 := by rw [z47]; exact (W46.size ▸ (W45.size ▸ (W44.size ▸ (W43.size ▸ s42))))
      have s47 : n0 ≤ h47.size := Nat.le_trans (W46.size ▸ (W45.size ▸ (W44.size ▸ (W43.size ▸ s42)))) E47.1
      refine c47 ?_
      refine o_astore B47 115 117 (l' := #[.val (.int x0), .val (.int x1), .val (.int x2), .val (.int x3), .val (.int x4), .val (.int (1 : Int32)), .val (.int (0 : Int32)), .val (.int (2 : Int32)), .val (.int (3 : Int32)), .val (.int (q0_1 x0 x1 x2 x3 x4)), .val (.int (q0_2 x0 x1 x2 x3 x4)), .val (.int (q0_3 x0 x1 x2 x3 x4)), .val (.int (q0_4 x0 x1 x2 x3 x4)), .val (.ref a42), .val (.ref a47), .unset, .unset, .unset, .unset, .unset, .unset, .unset, .unset, .unset]) at_115 rfl rfl rfl ?_
      refine o_aload B47 117 119 (v := (.ref a47)) at_117 rfl rfl rfl ?_
      refine o_iconst B47 119 120 (0 : Int32) at_119 rfl (by decide) ?_
      refine o_iload B47 120 122 (v := (0 : Int32)) at_120 rfl rfl ?_
      obtain ⟨T49, h49, L49, B49, N49, W49, Q49, c49⟩ := o_iastore B47 N46 g47 122 123 A47 (j := (0 : Int32)) (x := (0 : Int32)) 0 (0 : Int32) at_122 rfl (by decide) (by decide) (by decide) rfl (Ls := #[.val (.int x0), .val (.int x1), .val (.int x2), .val (.int x3), .val (.int x4), .val (.int (1 : Int32)), .val (.int (0 : Int32)), .val (.int (2 : Int32)), .val (.int (3 : Int32)), .val (.int (q0_1 x0 x1 x2 x3 x4)), .val (.int (q0_2 x0 x1 x2 x3 x4)), .val (.int (q0_3 x0 x1 x2 x3 x4)), .val (.int (q0_4 x0 x1 x2 x3 x4)), .val (.ref a42), .val (.ref a47), .unset, .unset, .unset, .unset, .unset, .unset, .unset, .unset, .unset]) (rest := [])
      have A49 : AI Z h49 a47 .int 3 (w0_21 x0 x1 x2 x3 x4) := Q49
      refine c49 ?_
      refine o_aload B49 123 125 (v := (.ref a47)) at_123 rfl rfl rfl ?_
      refine o_iconst B49 125 126 (1 : Int32) at_125 rfl (by decide) ?_
      refine o_iload B49 126 128 (v := (2 : Int32)) at_126 rfl rfl ?_
      obtain ⟨T50, h50, L50, B50, N50, W50, Q50, c50⟩ := o_iastore B49 N49 g47 128 129 A49 (j := (1 : Int32)) (x := (2 : Int32)) 1 (2 : Int32) at_128 rfl (by decide) (by decide) (by decide) rfl (Ls := #[.val (.int x0), .val (.int x1), .val (.int x2), .val (.int x3), .val (.int x4), .val (.int (1 : Int32)), .val (.int (0 : Int32)), .val (.int (2 : Int32)), .val (.int (3 : Int32)), .val (.int (q0_1 x0 x1 x2 x3 x4)), .val (.int (q0_2 x0 x1 x2 x3 x4)), .val (.int (q0_3 x0 x1 x2 x3 x4)), .val (.int (q0_4 x0 x1 x2 x3 x4)), .val (.ref a42), .val (.ref a47), .unset, .unset, .unset, .unset, .unset, .unset, .unset, .unset, .unset]) (rest := [])
      have A50 : AI Z h50 a47 .int 3 (w0_22 x0 x1 x2 x3 x4) := Q50
      refine c50 ?_
      refine o_aload B50 129 131 (v := (.ref a47)) at_129 rfl rfl rfl ?_
      refine o_iconst B50 131 132 (2 : Int32) at_131 rfl (by decide) ?_
      refine o_iload B50 132 134 (v := (3 : Int32)) at_132 rfl rfl ?_
      obtain ⟨T51, h51, L51, B51, N51, W51, Q51, c51⟩ := o_iastore B50 N50 g47 134 135 A50 (j := (2 : Int32)) (x := (3 : Int32)) 2 (3 : Int32) at_134 rfl (by decide) (by decide) (by decide) rfl (Ls := #[.val (.int x0), .val (.int x1), .val (.int x2), .val (.int x3), .val (.int x4), .val (.int (1 : Int32)), .val (.int (0 : Int32)), .val (.int (2 : Int32)), .val (.int (3 : Int32)), .val (.int (q0_1 x0 x1 x2 x3 x4)), .val (.int (q0_2 x0 x1 x2 x3 x4)), .val (.int (q0_3 x0 x1 x2 x3 x4)), .val (.int (q0_4 x0 x1 x2 x3 x4)), .val (.ref a42), .val (.ref a47), .unset, .unset, .unset, .unset, .unset, .unset, .unset, .unset, .unset]) (rest := [])
      have A51 : AI Z h51 a47 .int 3 (w0_23 x0 x1 x2 x3 x4) := Q51
      refine c51 ?_
      refine o_aload B51 135 137 (v := (.ref a42)) at_135 rfl rfl rfl ?_
      refine o_iload B51 137 139 (v := (0 : Int32)) at_137 rfl rfl ?_
      have F53 := ((((A46.ext E47).other W49 ne48).other W50 ne48).other W51 ne48)
      refine o_iaload B51 139 140 F53 0 (q0_1 x0 x1 x2 x3 x4) at_139 rfl (by decide) (by decide) (by decide) rfl ?_
      refine o_istore B51 140 142 (l' := #[.val (.int x0), .val (.int x1), .val (.int x2), .val (.int x3), .val (.int x4), .val (.int (1 : Int32)), .val (.int (0 : Int32)), .val (.int (2 : Int32)), .val (.int (3 : Int32)), .val (.int (q0_1 x0 x1 x2 x3 x4)), .val (.int (q0_2 x0 x1 x2 x3 x4)), .val (.int (q0_3 x0 x1 x2 x3 x4)), .val (.int (q0_4 x0 x1 x2 x3 x4)), .val (.ref a42), .val (.ref a47), .val (.int (q0_1 x0 x1 x2 x3 x4)), .unset, .unset, .unset, .unset, .unset, .unset, .unset, .unset]) at_140 rfl rfl ?_
      refine o_aload B51 142 144 (v := (.ref a42)) at_142 rfl rfl rfl ?_
      refine o_iload B51 144 146 (v := (2 : Int32)) at_144 rfl rfl ?_
      refine o_iaload B51 146 147 F53 2 (q0_3 x0 x1 x2 x3 x4) at_146 rfl (by decide) (by decide) (by decide) rfl ?_
      refine o_istore B51 147 149 (l' := #[.val (.int x0), .val (.int x1), .val (.int x2), .val (.int x3), .val (.int x4), .val (.int (1 : Int32)), .val (.int (0 : Int32)), .val (.int (2 : Int32)), .val (.int (3 : Int32)), .val (.int (q0_1 x0 x1 x2 x3 x4)), .val (.int (q0_2 x0 x1 x2 x3 x4)), .val (.int (q0_3 x0 x1 x2 x3 x4)), .val (.int (q0_4 x0 x1 x2 x3 x4)), .val (.ref a42), .val (.ref a47), .val (.int (q0_1 x0 x1 x2 x3 x4)), .val (.int (q0_3 x0 x1 x2 x3 x4)), .unset, .unset, .unset, .unset, .unset, .unset, .unset]) at_147 rfl rfl ?_
      refine o_aload B51 149 151 (v := (.ref a42)) at_149 rfl rfl rfl ?_
      refine o_iload B51 151 153 (v := (3 : Int32)) at_151 rfl rfl ?_
      refine o_iaload B51 153 154 F53 3 (q0_4 x0 x1 x2 x3 x4) at_153 rfl (by decide) (by decide) (by decide) rfl ?_
      refine o_istore B51 154 156 (l' := #[.val (.int x0), .val (.int x1), .val (.int x2), .val (.int x3), .val (.int x4), .val (.int (1 : Int32)), .val (.int (0 : Int32)), .val (.int (2 : Int32)), .val (.int (3 : Int32)), .val (.int (q0_1 x0 x1 x2 x3 x4)), .val (.int (q0_2 x0 x1 x2 x3 x4)), .val (.int (q0_3 x0 x1 x2 x3 x4)), .val (.int (q0_4 x0 x1 x2 x3 x4)), .val (.ref a42), .val (.ref a47), .val (.int (q0_1 x0 x1 x2 x3 x4)), .val (.int (q0_3 x0 x1 x2 x3 x4)), .val (.int (q0_4 x0 x1 x2 x3 x4)), .unset, .unset, .unset, .unset, .unset, .unset]) at_154 rfl rfl ?_
      refine o_iconst B51 156 157 (3 : Int32) at_156 rfl (by decide) ?_
      obtain ⟨a56, T56, h56, z56, B56, E56, A56, c56⟩ := o_newI B51 157 159 (ty := .int) (z := (3 : Int32)) 3 3 (hw _ (List.mem_of_getElem? (i := 0) rfl)) at_157 rfl rfl rfl (by decide) (by decide) (by decide) (by decide) (by decide) (by decide) (Ls := #[.val (.int x0), .val (.int x1), .val (.int x2), .val (.int x3), .val (.int x4), .val (.int (1 : Int32)), .val (.int (0 : Int32)), .val (.int (2 : Int32)), .val (.int (3 : Int32)), .val (.int (q0_1 x0 x1 x2 x3 x4)), .val (.int (q0_2 x0 x1 x2 x3 x4)), .val (.int (q0_3 x0 x1 x2 x3 x4)), .val (.int (q0_4 x0 x1 x2 x3 x4)), .val (.ref a42), .val (.ref a47), .val (.int (q0_1 x0 x1 x2 x3 x4)), .val (.int (q0_3 x0 x1 x2 x3 x4)), .val (.int (q0_4 x0 x1 x2 x3 x4)), .unset, .unset, .unset, .unset, .unset, .unset]) (rest := [])
      have ne57 : a42 ≠ a56 := by rw [z56]; exact Nat.ne_of_lt F53.lt
      have ne58 : a47 ≠ a56 := by rw [z56]; exact Nat.ne_of_lt A51.lt
      have g56 : n0 ≤ a56 := by rw [z56]; exact (W51.size ▸ (W50.size ▸ (W49.size ▸ s47)))
      have s56 : n0 ≤ h56.size := Nat.le_trans (W51.size ▸ (W50.size ▸ (W49.size ▸ s47))) E56.1
      refine c56 ?_
      refine o_astore B56 159 161 (l' := #[.val (.int x0), .val (.int x1), .val (.int x2), .val (.int x3), .val (.int x4), .val (.int (1 : Int32)), .val (.int (0 : Int32)), .val (.int (2 : Int32)), .val (.int (3 : Int32)), .val (.int (q0_1 x0 x1 x2 x3 x4)), .val (.int (q0_2 x0 x1 x2 x3 x4)), .val (.int (q0_3 x0 x1 x2 x3 x4)), .val (.int (q0_4 x0 x1 x2 x3 x4)), .val (.ref a42), .val (.ref a47), .val (.int (q0_1 x0 x1 x2 x3 x4)), .val (.int (q0_3 x0 x1 x2 x3 x4)), .val (.int (q0_4 x0 x1 x2 x3 x4)), .val (.ref a56), .unset, .unset, .unset, .unset, .unset]) at_159 rfl rfl rfl ?_
      refine o_aload B56 161 163 (v := (.ref a56)) at_161 rfl rfl rfl ?_
      refine o_iconst B56 163 164 (0 : Int32) at_163 rfl (by decide) ?_
      refine o_iloadN B56 164 165 (v := x2) at_164 rfl rfl ?_
      refine o_ldc B56 165 167 at_165 rfl (hw _ (List.mem_of_getElem? (i := 1) rfl)) ?_
      refine o_iand B56 167 168 at_167 rfl ?_
      refine o_iload B56 168 170 (v := (q0_1 x0 x1 x2 x3 x4)) at_168 rfl rfl ?_
      refine o_irem B56 170 171 at_170 rfl (own_nz (own_w1 x0 x1 x2 x3 x4)) ?_
      obtain ⟨T59, h59, L59, B59, N59, W59, Q59, c59⟩ := o_iastore B56 N51 g56 171 172 A56 (j := (0 : Int32)) (x := ((x2 &&& (2147483647 : Int32)) % (q0_1 x0 x1 x2 x3 x4))) 0 (q0_24 x0 x1 x2 x3 x4) at_171 rfl (by decide) (by decide) (by decide) rfl (Ls := #[.val (.int x0), .val (.int x1), .val (.int x2), .val (.int x3), .val (.int x4), .val (.int (1 : Int32)), .val (.int (0 : Int32)), .val (.int (2 : Int32)), .val (.int (3 : Int32)), .val (.int (q0_1 x0 x1 x2 x3 x4)), .val (.int (q0_2 x0 x1 x2 x3 x4)), .val (.int (q0_3 x0 x1 x2 x3 x4)), .val (.int (q0_4 x0 x1 x2 x3 x4)), .val (.ref a42), .val (.ref a47), .val (.int (q0_1 x0 x1 x2 x3 x4)), .val (.int (q0_3 x0 x1 x2 x3 x4)), .val (.int (q0_4 x0 x1 x2 x3 x4)), .val (.ref a56), .unset, .unset, .unset, .unset, .unset]) (rest := [])
      have A59 : AI Z h59 a56 .int 3 (w0_25 x0 x1 x2 x3 x4) := Q59
      refine c59 ?_
      refine o_aload B59 172 174 (v := (.ref a56)) at_172 rfl rfl rfl ?_
      refine o_iconst B59 174 175 (1 : Int32) at_174 rfl (by decide) ?_
      refine o_iloadN B59 175 176 (v := x3) at_175 rfl rfl ?_
      refine o_ldc B59 176 178 at_176 rfl (hw _ (List.mem_of_getElem? (i := 1) rfl)) ?_
      refine o_iand B59 178 179 at_178 rfl ?_
      refine o_iload B59 179 181 (v := (q0_3 x0 x1 x2 x3 x4)) at_179 rfl rfl ?_
      refine o_irem B59 181 182 at_181 rfl (own_nz (own_w3 x0 x1 x2 x3 x4)) ?_
      obtain ⟨T60, h60, L60, B60, N60, W60, Q60, c60⟩ := o_iastore B59 N59 g56 182 183 A59 (j := (1 : Int32)) (x := ((x3 &&& (2147483647 : Int32)) % (q0_3 x0 x1 x2 x3 x4))) 1 (q0_14 x0 x1 x2 x3 x4) at_182 rfl (by decide) (by decide) (by decide) rfl (Ls := #[.val (.int x0), .val (.int x1), .val (.int x2), .val (.int x3), .val (.int x4), .val (.int (1 : Int32)), .val (.int (0 : Int32)), .val (.int (2 : Int32)), .val (.int (3 : Int32)), .val (.int (q0_1 x0 x1 x2 x3 x4)), .val (.int (q0_2 x0 x1 x2 x3 x4)), .val (.int (q0_3 x0 x1 x2 x3 x4)), .val (.int (q0_4 x0 x1 x2 x3 x4)), .val (.ref a42), .val (.ref a47), .val (.int (q0_1 x0 x1 x2 x3 x4)), .val (.int (q0_3 x0 x1 x2 x3 x4)), .val (.int (q0_4 x0 x1 x2 x3 x4)), .val (.ref a56), .unset, .unset, .unset, .unset, .unset]) (rest := [])
      have A60 : AI Z h60 a56 .int 3 (w0_26 x0 x1 x2 x3 x4) := Q60
      refine c60 ?_
      refine o_aload B60 183 185 (v := (.ref a56)) at_183 rfl rfl rfl ?_
      refine o_iconst B60 185 186 (2 : Int32) at_185 rfl (by decide) ?_
      refine o_iload B60 186 188 (v := x4) at_186 rfl rfl ?_
      refine o_ldc B60 188 190 at_188 rfl (hw _ (List.mem_of_getElem? (i := 1) rfl)) ?_
      refine o_iand B60 190 191 at_190 rfl ?_
      refine o_iload B60 191 193 (v := (q0_4 x0 x1 x2 x3 x4)) at_191 rfl rfl ?_
      refine o_irem B60 193 194 at_193 rfl (own_nz (own_w4 x0 x1 x2 x3 x4)) ?_
      obtain ⟨T61, h61, L61, B61, N61, W61, Q61, c61⟩ := o_iastore B60 N60 g56 194 195 A60 (j := (2 : Int32)) (x := ((x4 &&& (2147483647 : Int32)) % (q0_4 x0 x1 x2 x3 x4))) 2 (q0_16 x0 x1 x2 x3 x4) at_194 rfl (by decide) (by decide) (by decide) rfl (Ls := #[.val (.int x0), .val (.int x1), .val (.int x2), .val (.int x3), .val (.int x4), .val (.int (1 : Int32)), .val (.int (0 : Int32)), .val (.int (2 : Int32)), .val (.int (3 : Int32)), .val (.int (q0_1 x0 x1 x2 x3 x4)), .val (.int (q0_2 x0 x1 x2 x3 x4)), .val (.int (q0_3 x0 x1 x2 x3 x4)), .val (.int (q0_4 x0 x1 x2 x3 x4)), .val (.ref a42), .val (.ref a47), .val (.int (q0_1 x0 x1 x2 x3 x4)), .val (.int (q0_3 x0 x1 x2 x3 x4)), .val (.int (q0_4 x0 x1 x2 x3 x4)), .val (.ref a56), .unset, .unset, .unset, .unset, .unset]) (rest := [])
      have A61 : AI Z h61 a56 .int 3 (w0_27 x0 x1 x2 x3 x4) := Q61
      refine c61 ?_
      refine o_aload B61 195 197 (v := (.ref a56)) at_195 rfl rfl rfl ?_
      refine o_iconst B61 197 198 (0 : Int32) at_197 rfl (by decide) ?_
      refine o_iaload B61 198 199 A61 0 (q0_24 x0 x1 x2 x3 x4) at_198 rfl (by decide) (by decide) (by decide) rfl ?_
      refine o_iload B61 199 201 (v := (q0_3 x0 x1 x2 x3 x4)) at_199 rfl rfl ?_
      refine o_imul B61 201 202 at_201 rfl ?_
      refine o_aload B61 202 204 (v := (.ref a56)) at_202 rfl rfl rfl ?_
      refine o_iconst B61 204 205 (1 : Int32) at_204 rfl (by decide) ?_
      refine o_iaload B61 205 206 A61 1 (q0_14 x0 x1 x2 x3 x4) at_205 rfl (by decide) (by decide) (by decide) rfl ?_
      refine o_iadd B61 206 207 at_206 rfl ?_
      refine o_iload B61 207 209 (v := (q0_4 x0 x1 x2 x3 x4)) at_207 rfl rfl ?_
      refine o_imul B61 209 210 at_209 rfl ?_
      refine o_aload B61 210 212 (v := (.ref a56)) at_210 rfl rfl rfl ?_
      refine o_iconst B61 212 213 (2 : Int32) at_212 rfl (by decide) ?_
      refine o_iaload B61 213 214 A61 2 (q0_16 x0 x1 x2 x3 x4) at_213 rfl (by decide) (by decide) (by decide) rfl ?_
      refine o_iadd B61 214 215 at_214 rfl ?_
      refine o_istore B61 215 217 (l' := #[.val (.int x0), .val (.int x1), .val (.int x2), .val (.int x3), .val (.int x4), .val (.int (1 : Int32)), .val (.int (0 : Int32)), .val (.int (2 : Int32)), .val (.int (3 : Int32)), .val (.int (q0_1 x0 x1 x2 x3 x4)), .val (.int (q0_2 x0 x1 x2 x3 x4)), .val (.int (q0_3 x0 x1 x2 x3 x4)), .val (.int (q0_4 x0 x1 x2 x3 x4)), .val (.ref a42), .val (.ref a47), .val (.int (q0_1 x0 x1 x2 x3 x4)), .val (.int (q0_3 x0 x1 x2 x3 x4)), .val (.int (q0_4 x0 x1 x2 x3 x4)), .val (.ref a56), .val (.int (q0_28 x0 x1 x2 x3 x4)), .unset, .unset, .unset, .unset]) at_215 rfl rfl ?_
      refine o_iload B61 217 219 (v := (q0_1 x0 x1 x2 x3 x4)) at_217 rfl rfl ?_
      refine o_iload B61 219 221 (v := (q0_3 x0 x1 x2 x3 x4)) at_219 rfl rfl ?_
      refine o_imul B61 221 222 at_221 rfl ?_
      refine o_iload B61 222 224 (v := (q0_4 x0 x1 x2 x3 x4)) at_222 rfl rfl ?_
      refine o_imul B61 224 225 at_224 rfl ?_
      refine o_istore B61 225 227 (l' := #[.val (.int x0), .val (.int x1), .val (.int x2), .val (.int x3), .val (.int x4), .val (.int (1 : Int32)), .val (.int (0 : Int32)), .val (.int (2 : Int32)), .val (.int (3 : Int32)), .val (.int (q0_1 x0 x1 x2 x3 x4)), .val (.int (q0_2 x0 x1 x2 x3 x4)), .val (.int (q0_3 x0 x1 x2 x3 x4)), .val (.int (q0_4 x0 x1 x2 x3 x4)), .val (.ref a42), .val (.ref a47), .val (.int (q0_1 x0 x1 x2 x3 x4)), .val (.int (q0_3 x0 x1 x2 x3 x4)), .val (.int (q0_4 x0 x1 x2 x3 x4)), .val (.ref a56), .val (.int (q0_28 x0 x1 x2 x3 x4)), .val (.int (q0_29 x0 x1 x2 x3 x4)), .unset, .unset, .unset]) at_225 rfl rfl ?_
      refine o_aload B61 227 229 (v := (.ref a47)) at_227 rfl rfl rfl ?_
      refine o_aload B61 229 231 (v := (.ref a56)) at_229 rfl rfl rfl ?_
      refine o_aload B61 231 233 (v := (.ref a42)) at_231 rfl rfl rfl ?_
      have F65 := ((((A51.ext E56).other W59 ne58).other W60 ne58).other W61 ne58)
      have F66 := ((((F53.ext E56).other W59 ne57).other W60 ne57).other W61 ne57)
      obtain ⟨v67, T67, L67, B67, Q67, c67⟩ := o_callS B61 233 236 at_233 rfl (hw _ (List.mem_of_getElem? (i := 2) rfl)) (hw _ (List.mem_of_getElem? (i := 3) rfl)) (hw _ (List.mem_of_getElem? (i := 4) rfl)) (hw _ (List.mem_of_getElem? (i := 5) rfl)) (by decide) (rm1 l Z a0 hw (w0_23 x0 x1 x2 x3 x4) (w0_27 x0 x1 x2 x3 x4) (w0_8 x0 x1 x2 x3 x4) a47 a56 a42 h61 n0 (W61.size ▸ (W60.size ▸ (W59.size ▸ s56))) F65 A61 F66 g56 ne58 ne57 (own_3 (show 0 ≤ (0 : Int32).toInt ∧ (0 : Int32).toInt < 4 by decide) (show 0 ≤ (2 : Int32).toInt ∧ (2 : Int32).toInt < 4 by decide) (show 0 ≤ (3 : Int32).toInt ∧ (3 : Int32).toInt < 4 by decide))) 0 [(.ref a47), (.ref a56), (.ref a42)] [] pd___I_I_I_Z rfl rfl (st := [(.ref a42), (.ref a56), (.ref a47)]) rfl (Ls := #[.val (.int x0), .val (.int x1), .val (.int x2), .val (.int x3), .val (.int x4), .val (.int (1 : Int32)), .val (.int (0 : Int32)), .val (.int (2 : Int32)), .val (.int (3 : Int32)), .val (.int (q0_1 x0 x1 x2 x3 x4)), .val (.int (q0_2 x0 x1 x2 x3 x4)), .val (.int (q0_3 x0 x1 x2 x3 x4)), .val (.int (q0_4 x0 x1 x2 x3 x4)), .val (.ref a42), .val (.ref a47), .val (.int (q0_1 x0 x1 x2 x3 x4)), .val (.int (q0_3 x0 x1 x2 x3 x4)), .val (.int (q0_4 x0 x1 x2 x3 x4)), .val (.ref a56), .val (.int (q0_28 x0 x1 x2 x3 x4)), .val (.int (q0_29 x0 x1 x2 x3 x4)), .unset, .unset, .unset]) rfl (Nat.le_of_eq rfl) (by decide) (by decide) (by decide) (by decide)
      obtain ⟨rfl, M67, K67, O67_0⟩ := Q67
      have N67 := Fr.app N61 M67
      have s67 : n0 ≤ T67.heap.size := Nat.le_trans (W61.size ▸ (W60.size ▸ (W59.size ▸ s56))) K67.1
      refine c67 ?_
      show OG p.tables e below _ (T67.setTop (mkF m 236 #[.val (.int x0), .val (.int x1), .val (.int x2), .val (.int x3), .val (.int x4), .val (.int (1 : Int32)), .val (.int (0 : Int32)), .val (.int (2 : Int32)), .val (.int (3 : Int32)), .val (.int (q0_1 x0 x1 x2 x3 x4)), .val (.int (q0_2 x0 x1 x2 x3 x4)), .val (.int (q0_3 x0 x1 x2 x3 x4)), .val (.int (q0_4 x0 x1 x2 x3 x4)), .val (.ref a42), .val (.ref a47), .val (.int (q0_1 x0 x1 x2 x3 x4)), .val (.int (q0_3 x0 x1 x2 x3 x4)), .val (.int (q0_4 x0 x1 x2 x3 x4)), .val (.ref a56), .val (.int (q0_28 x0 x1 x2 x3 x4)), .val (.int (q0_29 x0 x1 x2 x3 x4)), .unset, .unset, .unset] [(.int (q0_30 x0 x1 x2 x3 x4))]))
      refine o_istore B67 236 238 (l' := #[.val (.int x0), .val (.int x1), .val (.int x2), .val (.int x3), .val (.int x4), .val (.int (1 : Int32)), .val (.int (0 : Int32)), .val (.int (2 : Int32)), .val (.int (3 : Int32)), .val (.int (q0_1 x0 x1 x2 x3 x4)), .val (.int (q0_2 x0 x1 x2 x3 x4)), .val (.int (q0_3 x0 x1 x2 x3 x4)), .val (.int (q0_4 x0 x1 x2 x3 x4)), .val (.ref a42), .val (.ref a47), .val (.int (q0_1 x0 x1 x2 x3 x4)), .val (.int (q0_3 x0 x1 x2 x3 x4)), .val (.int (q0_4 x0 x1 x2 x3 x4)), .val (.ref a56), .val (.int (q0_28 x0 x1 x2 x3 x4)), .val (.int (q0_29 x0 x1 x2 x3 x4)), .val (.int (q0_30 x0 x1 x2 x3 x4)), .unset, .unset]) at_236 rfl rfl ?_
      refine o_aload B67 238 240 (v := (.ref a47)) at_238 rfl rfl rfl ?_
      refine o_iconst B67 240 241 (0 : Int32) at_240 rfl (by decide) ?_
      have F69 := (F65.keep K67 (ninS ne58 nin0))
      refine o_iaload B67 241 242 F69 0 (0 : Int32) at_241 rfl (by decide) (by decide) (by decide) rfl ?_
      refine o_iload B67 242 244 (v := (0 : Int32)) at_242 rfl rfl ?_
      refine o_icN B67 244 247 at_244 rfl (XT.ii_ne_f (by decide)) ?_
      refine o_aload B67 247 249 (v := (.ref a47)) at_247 rfl rfl rfl ?_
      refine o_iconst B67 249 250 (1 : Int32) at_249 rfl (by decide) ?_
      refine o_iaload B67 250 251 F69 1 (2 : Int32) at_250 rfl (by decide) (by decide) (by decide) rfl ?_
      refine o_iload B67 251 253 (v := (2 : Int32)) at_251 rfl rfl ?_
      refine o_icN B67 253 256 at_253 rfl (XT.ii_ne_f (by decide)) ?_
      refine o_aload B67 256 258 (v := (.ref a47)) at_256 rfl rfl rfl ?_
      refine o_iconst B67 258 259 (2 : Int32) at_258 rfl (by decide) ?_
      refine o_iaload B67 259 260 F69 2 (3 : Int32) at_259 rfl (by decide) (by decide) (by decide) rfl ?_
      refine o_iload B67 260 262 (v := (3 : Int32)) at_260 rfl rfl ?_
      refine o_icN B67 262 265 at_262 rfl (XT.ii_ne_f (by decide)) ?_
      refine o_aload B67 265 267 (v := (.ref a42)) at_265 rfl rfl rfl ?_
      refine o_iconst B67 267 268 (0 : Int32) at_267 rfl (by decide) ?_
      have F73 := (F66.keep K67 (ninS ne57 nin0))
      refine o_iaload B67 268 269 F73 0 (q0_1 x0 x1 x2 x3 x4) at_268 rfl (by decide) (by decide) (by decide) rfl ?_
      refine o_iload B67 269 271 (v := (q0_1 x0 x1 x2 x3 x4)) at_269 rfl rfl ?_
      refine o_icN B67 271 274 at_271 rfl (XT.ii_ne_f rfl) ?_
      refine o_aload B67 274 276 (v := (.ref a42)) at_274 rfl rfl rfl ?_
      refine o_iconst B67 276 277 (1 : Int32) at_276 rfl (by decide) ?_
      refine o_iaload B67 277 278 F73 1 (q0_2 x0 x1 x2 x3 x4) at_277 rfl (by decide) (by decide) (by decide) rfl ?_
      refine o_iload B67 278 280 (v := (q0_2 x0 x1 x2 x3 x4)) at_278 rfl rfl ?_
      refine o_icN B67 280 283 at_280 rfl (XT.ii_ne_f rfl) ?_
      refine o_aload B67 283 285 (v := (.ref a42)) at_283 rfl rfl rfl ?_
      refine o_iconst B67 285 286 (2 : Int32) at_285 rfl (by decide) ?_
      refine o_iaload B67 286 287 F73 2 (q0_3 x0 x1 x2 x3 x4) at_286 rfl (by decide) (by decide) (by decide) rfl ?_
      refine o_iload B67 287 289 (v := (q0_3 x0 x1 x2 x3 x4)) at_287 rfl rfl ?_
      refine o_icN B67 289 292 at_289 rfl (XT.ii_ne_f rfl) ?_
      refine o_aload B67 292 294 (v := (.ref a42)) at_292 rfl rfl rfl ?_
      refine o_iconst B67 294 295 (3 : Int32) at_294 rfl (by decide) ?_
      refine o_iaload B67 295 296 F73 3 (q0_4 x0 x1 x2 x3 x4) at_295 rfl (by decide) (by decide) (by decide) rfl ?_
      refine o_iload B67 296 298 (v := (q0_4 x0 x1 x2 x3 x4)) at_296 rfl rfl ?_
      refine o_icN B67 298 301 at_298 rfl (XT.ii_ne_f rfl) ?_
      refine o_iconst B67 301 302 (1 : Int32) at_301 rfl (by decide) ?_
      refine o_goto B67 302 306 at_302 (by decide) (by decide) ?_
      refine o_istore B67 306 308 (l' := #[.val (.int x0), .val (.int x1), .val (.int x2), .val (.int x3), .val (.int x4), .val (.int (1 : Int32)), .val (.int (0 : Int32)), .val (.int (2 : Int32)), .val (.int (3 : Int32)), .val (.int (q0_1 x0 x1 x2 x3 x4)), .val (.int (q0_2 x0 x1 x2 x3 x4)), .val (.int (q0_3 x0 x1 x2 x3 x4)), .val (.int (q0_4 x0 x1 x2 x3 x4)), .val (.ref a42), .val (.ref a47), .val (.int (q0_1 x0 x1 x2 x3 x4)), .val (.int (q0_3 x0 x1 x2 x3 x4)), .val (.int (q0_4 x0 x1 x2 x3 x4)), .val (.ref a56), .val (.int (q0_28 x0 x1 x2 x3 x4)), .val (.int (q0_29 x0 x1 x2 x3 x4)), .val (.int (q0_30 x0 x1 x2 x3 x4)), .val (.int (1 : Int32)), .unset]) at_306 rfl rfl ?_
      refine o_iload B67 308 310 (v := (q0_28 x0 x1 x2 x3 x4)) at_308 rfl rfl ?_
      refine o_iload B67 310 312 (v := (q0_29 x0 x1 x2 x3 x4)) at_310 rfl rfl ?_
      refine o_iconst B67 312 313 (1 : Int32) at_312 rfl (by decide) ?_
      refine o_isub B67 313 314 at_313 rfl ?_
      by_cases k12 : (q0_28 x0 x1 x2 x3 x4) = ((q0_29 x0 x1 x2 x3 x4) - (1 : Int32))
      · refine o_icN B67 314 317 at_314 rfl (XT.ii_ne_f k12) ?_
        refine o_iload B67 317 319 (v := (q0_30 x0 x1 x2 x3 x4)) at_317 rfl rfl ?_
        by_cases k13 : (q0_30 x0 x1 x2 x3 x4) = 0
        · refine o_ifN B67 319 322 at_319 rfl (XT.i0_ne_f k13) ?_
          refine o_aload B67 322 324 (v := (.ref a56)) at_322 rfl rfl rfl ?_
          refine o_iconst B67 324 325 (0 : Int32) at_324 rfl (by decide) ?_
          refine o_iaload B67 325 326 O67_0 0 ((o1_0 (w0_23 x0 x1 x2 x3 x4) (w0_27 x0 x1 x2 x3 x4) (w0_8 x0 x1 x2 x3 x4)) 0) at_325 rfl (by decide) (by decide) (by decide) rfl ?_
          by_cases k14 : ((o1_0 (w0_23 x0 x1 x2 x3 x4) (w0_27 x0 x1 x2 x3 x4) (w0_8 x0 x1 x2 x3 x4)) 0) = 0
          · refine o_ifN B67 326 329 at_326 rfl (XT.i0_ne_f k14) ?_
            refine o_aload B67 329 331 (v := (.ref a56)) at_329 rfl rfl rfl ?_
            refine o_iconst B67 331 332 (1 : Int32) at_331 rfl (by decide) ?_
            refine o_iaload B67 332 333 O67_0 1 ((o1_0 (w0_23 x0 x1 x2 x3 x4) (w0_27 x0 x1 x2 x3 x4) (w0_8 x0 x1 x2 x3 x4)) 1) at_332 rfl (by decide) (by decide) (by decide) rfl ?_
            by_cases k15 : ((o1_0 (w0_23 x0 x1 x2 x3 x4) (w0_27 x0 x1 x2 x3 x4) (w0_8 x0 x1 x2 x3 x4)) 1) = 0
            · refine o_ifN B67 333 336 at_333 rfl (XT.i0_ne_f k15) ?_
              refine o_aload B67 336 338 (v := (.ref a56)) at_336 rfl rfl rfl ?_
              refine o_iconst B67 338 339 (2 : Int32) at_338 rfl (by decide) ?_
              refine o_iaload B67 339 340 O67_0 2 ((o1_0 (w0_23 x0 x1 x2 x3 x4) (w0_27 x0 x1 x2 x3 x4) (w0_8 x0 x1 x2 x3 x4)) 2) at_339 rfl (by decide) (by decide) (by decide) rfl ?_
              by_cases k16 : ((o1_0 (w0_23 x0 x1 x2 x3 x4) (w0_27 x0 x1 x2 x3 x4) (w0_8 x0 x1 x2 x3 x4)) 2) = 0
              · refine o_ifN B67 340 343 at_340 rfl (XT.i0_ne_f k16) ?_
                refine o_iload B67 343 345 (v := (1 : Int32)) at_343 rfl rfl ?_
                refine o_ifN B67 345 348 at_345 rfl (XT.i0_eq_f (by decide)) ?_
                refine o_iconst B67 348 349 (1 : Int32) at_348 rfl (by decide) ?_
                refine o_goto B67 349 353 at_349 (by decide) (by decide) ?_
                refine o_retZ (t := .boolean) B67 353 at_353 hret hlk (by simp) (by decide) (by decide) ⟨(congrArg (fun z => some (Value.int z)) ((show nar .boolean (1 : Int32) = (1 : Int32) from rfl).trans (show f0 x0 x1 x2 x3 x4 = (1 : Int32) from (if_neg k1).trans ((if_pos k11).trans ((if_pos k12).trans ((if_pos k13).trans ((if_pos k14).trans ((if_pos k15).trans ((if_pos k16).trans (rfl)))))))).symm)), N67⟩
              · refine o_ifY B67 340 352 at_340 (XT.i0_ne_t k16) (by decide) (by decide) ?_
                refine o_iconst B67 352 353 (0 : Int32) at_352 rfl (by decide) ?_
                refine o_retZ (t := .boolean) B67 353 at_353 hret hlk (by simp) (by decide) (by decide) ⟨(congrArg (fun z => some (Value.int z)) ((show nar .boolean (0 : Int32) = (0 : Int32) from rfl).trans (show f0 x0 x1 x2 x3 x4 = (0 : Int32) from (if_neg k1).trans ((if_pos k11).trans ((if_pos k12).trans ((if_pos k13).trans ((if_pos k14).trans ((if_pos k15).trans ((if_neg k16).trans (rfl)))))))).symm)), N67⟩
            · refine o_ifY B67 333 352 at_333 (XT.i0_ne_t k15) (by decide) (by decide) ?_
              refine o_iconst B67 352 353 (0 : Int32) at_352 rfl (by decide) ?_
              refine o_retZ (t := .boolean) B67 353 at_353 hret hlk (by simp) (by decide) (by decide) ⟨(congrArg (fun z => some (Value.int z)) ((show nar .boolean (0 : Int32) = (0 : Int32) from rfl).trans (show f0 x0 x1 x2 x3 x4 = (0 : Int32) from (if_neg k1).trans ((if_pos k11).trans ((if_pos k12).trans ((if_pos k13).trans ((if_pos k14).trans ((if_neg k15).trans (rfl))))))).symm)), N67⟩
          · refine o_ifY B67 326 352 at_326 (XT.i0_ne_t k14) (by decide) (by decide) ?_
            refine o_iconst B67 352 353 (0 : Int32) at_352 rfl (by decide) ?_
            refine o_retZ (t := .boolean) B67 353 at_353 hret hlk (by simp) (by decide) (by decide) ⟨(congrArg (fun z => some (Value.int z)) ((show nar .boolean (0 : Int32) = (0 : Int32) from rfl).trans (show f0 x0 x1 x2 x3 x4 = (0 : Int32) from (if_neg k1).trans ((if_pos k11).trans ((if_pos k12).trans ((if_pos k13).trans ((if_neg k14).trans (rfl)))))).symm)), N67⟩
        · refine o_ifY B67 319 352 at_319 (XT.i0_ne_t k13) (by decide) (by decide) ?_
          refine o_iconst B67 352 353 (0 : Int32) at_352 rfl (by decide) ?_
          refine o_retZ (t := .boolean) B67 353 at_353 hret hlk (by simp) (by decide) (by decide) ⟨(congrArg (fun z => some (Value.int z)) ((show nar .boolean (0 : Int32) = (0 : Int32) from rfl).trans (show f0 x0 x1 x2 x3 x4 = (0 : Int32) from (if_neg k1).trans ((if_pos k11).trans ((if_pos k12).trans ((if_neg k13).trans (rfl))))).symm)), N67⟩
      · refine o_icY B67 314 354 at_314 (XT.ii_ne_t k12) (by decide) (by decide) ?_
        refine o_iload B67 354 356 (v := (q0_28 x0 x1 x2 x3 x4)) at_354 rfl rfl ?_
        refine o_iconst B67 356 357 (1 : Int32) at_356 rfl (by decide) ?_
        refine o_iadd B67 357 358 at_357 rfl ?_
        refine o_istore B67 358 360 (l' := #[.val (.int x0), .val (.int x1), .val (.int x2), .val (.int x3), .val (.int x4), .val (.int (1 : Int32)), .val (.int (0 : Int32)), .val (.int (2 : Int32)), .val (.int (3 : Int32)), .val (.int (q0_1 x0 x1 x2 x3 x4)), .val (.int (q0_2 x0 x1 x2 x3 x4)), .val (.int (q0_3 x0 x1 x2 x3 x4)), .val (.int (q0_4 x0 x1 x2 x3 x4)), .val (.ref a42), .val (.ref a47), .val (.int (q0_1 x0 x1 x2 x3 x4)), .val (.int (q0_3 x0 x1 x2 x3 x4)), .val (.int (q0_4 x0 x1 x2 x3 x4)), .val (.ref a56), .val (.int (q0_28 x0 x1 x2 x3 x4)), .val (.int (q0_29 x0 x1 x2 x3 x4)), .val (.int (q0_30 x0 x1 x2 x3 x4)), .val (.int (1 : Int32)), .val (.int ((q0_28 x0 x1 x2 x3 x4) + (1 : Int32)))]) at_358 rfl rfl ?_
        refine o_iload B67 360 362 (v := (q0_30 x0 x1 x2 x3 x4)) at_360 rfl rfl ?_
        by_cases k17 : (q0_30 x0 x1 x2 x3 x4) = 0
        · refine o_ifY B67 362 416 at_362 (XT.i0_eq_t k17) (by decide) (by decide) ?_
          refine o_iconst B67 416 417 (0 : Int32) at_416 rfl (by decide) ?_
          refine o_retZ (t := .boolean) B67 417 at_417 hret hlk (by simp) (by decide) (by decide) ⟨(congrArg (fun z => some (Value.int z)) ((show nar .boolean (0 : Int32) = (0 : Int32) from rfl).trans (show f0 x0 x1 x2 x3 x4 = (0 : Int32) from (if_neg k1).trans ((if_pos k11).trans ((if_neg k12).trans ((if_pos k17).trans (rfl))))).symm)), N67⟩
        · refine o_ifN B67 362 365 at_362 rfl (XT.i0_eq_f k17) ?_
          refine o_aload B67 365 367 (v := (.ref a56)) at_365 rfl rfl rfl ?_
          refine o_iconst B67 367 368 (2 : Int32) at_367 rfl (by decide) ?_
          refine o_iaload B67 368 369 O67_0 2 ((o1_0 (w0_23 x0 x1 x2 x3 x4) (w0_27 x0 x1 x2 x3 x4) (w0_8 x0 x1 x2 x3 x4)) 2) at_368 rfl (by decide) (by decide) (by decide) rfl ?_
          refine o_iload B67 369 371 (v := ((q0_28 x0 x1 x2 x3 x4) + (1 : Int32))) at_369 rfl rfl ?_
          refine o_iload B67 371 373 (v := (q0_4 x0 x1 x2 x3 x4)) at_371 rfl rfl ?_
          refine o_irem B67 373 374 at_373 rfl (own_nz (own_w4 x0 x1 x2 x3 x4)) ?_
          by_cases k18 : ((o1_0 (w0_23 x0 x1 x2 x3 x4) (w0_27 x0 x1 x2 x3 x4) (w0_8 x0 x1 x2 x3 x4)) 2) = (((q0_28 x0 x1 x2 x3 x4) + (1 : Int32)) % (q0_4 x0 x1 x2 x3 x4))
          · refine o_icN B67 374 377 at_374 rfl (XT.ii_ne_f k18) ?_
            refine o_aload B67 377 379 (v := (.ref a56)) at_377 rfl rfl rfl ?_
            refine o_iconst B67 379 380 (1 : Int32) at_379 rfl (by decide) ?_
            refine o_iaload B67 380 381 O67_0 1 ((o1_0 (w0_23 x0 x1 x2 x3 x4) (w0_27 x0 x1 x2 x3 x4) (w0_8 x0 x1 x2 x3 x4)) 1) at_380 rfl (by decide) (by decide) (by decide) rfl ?_
            refine o_iload B67 381 383 (v := ((q0_28 x0 x1 x2 x3 x4) + (1 : Int32))) at_381 rfl rfl ?_
            refine o_iload B67 383 385 (v := (q0_4 x0 x1 x2 x3 x4)) at_383 rfl rfl ?_
            refine o_idiv B67 385 386 at_385 rfl (own_nz (own_w4 x0 x1 x2 x3 x4)) ?_
            refine o_iload B67 386 388 (v := (q0_3 x0 x1 x2 x3 x4)) at_386 rfl rfl ?_
            refine o_irem B67 388 389 at_388 rfl (own_nz (own_w3 x0 x1 x2 x3 x4)) ?_
            by_cases k19 : ((o1_0 (w0_23 x0 x1 x2 x3 x4) (w0_27 x0 x1 x2 x3 x4) (w0_8 x0 x1 x2 x3 x4)) 1) = ((((q0_28 x0 x1 x2 x3 x4) + (1 : Int32)) / (q0_4 x0 x1 x2 x3 x4)) % (q0_3 x0 x1 x2 x3 x4))
            · refine o_icN B67 389 392 at_389 rfl (XT.ii_ne_f k19) ?_
              refine o_aload B67 392 394 (v := (.ref a56)) at_392 rfl rfl rfl ?_
              refine o_iconst B67 394 395 (0 : Int32) at_394 rfl (by decide) ?_
              refine o_iaload B67 395 396 O67_0 0 ((o1_0 (w0_23 x0 x1 x2 x3 x4) (w0_27 x0 x1 x2 x3 x4) (w0_8 x0 x1 x2 x3 x4)) 0) at_395 rfl (by decide) (by decide) (by decide) rfl ?_
              refine o_iload B67 396 398 (v := ((q0_28 x0 x1 x2 x3 x4) + (1 : Int32))) at_396 rfl rfl ?_
              refine o_iload B67 398 400 (v := (q0_3 x0 x1 x2 x3 x4)) at_398 rfl rfl ?_
              refine o_iload B67 400 402 (v := (q0_4 x0 x1 x2 x3 x4)) at_400 rfl rfl ?_
              refine o_imul B67 402 403 at_402 rfl ?_
              refine o_idiv B67 403 404 at_403 rfl (own_nz2 (own_w3 x0 x1 x2 x3 x4) (own_w4 x0 x1 x2 x3 x4)) ?_
              by_cases k20 : ((o1_0 (w0_23 x0 x1 x2 x3 x4) (w0_27 x0 x1 x2 x3 x4) (w0_8 x0 x1 x2 x3 x4)) 0) = (((q0_28 x0 x1 x2 x3 x4) + (1 : Int32)) / ((q0_3 x0 x1 x2 x3 x4) * (q0_4 x0 x1 x2 x3 x4)))
              · refine o_icN B67 404 407 at_404 rfl (XT.ii_ne_f k20) ?_
                refine o_iload B67 407 409 (v := (1 : Int32)) at_407 rfl rfl ?_
                refine o_ifN B67 409 412 at_409 rfl (XT.i0_eq_f (by decide)) ?_
                refine o_iconst B67 412 413 (1 : Int32) at_412 rfl (by decide) ?_
                refine o_goto B67 413 417 at_413 (by decide) (by decide) ?_
                refine o_retZ (t := .boolean) B67 417 at_417 hret hlk (by simp) (by decide) (by decide) ⟨(congrArg (fun z => some (Value.int z)) ((show nar .boolean (1 : Int32) = (1 : Int32) from rfl).trans (show f0 x0 x1 x2 x3 x4 = (1 : Int32) from (if_neg k1).trans ((if_pos k11).trans ((if_neg k12).trans ((if_neg k17).trans ((if_pos k18).trans ((if_pos k19).trans ((if_pos k20).trans (rfl)))))))).symm)), N67⟩
              · refine o_icY B67 404 416 at_404 (XT.ii_ne_t k20) (by decide) (by decide) ?_
                refine o_iconst B67 416 417 (0 : Int32) at_416 rfl (by decide) ?_
                refine o_retZ (t := .boolean) B67 417 at_417 hret hlk (by simp) (by decide) (by decide) ⟨(congrArg (fun z => some (Value.int z)) ((show nar .boolean (0 : Int32) = (0 : Int32) from rfl).trans (show f0 x0 x1 x2 x3 x4 = (0 : Int32) from (if_neg k1).trans ((if_pos k11).trans ((if_neg k12).trans ((if_neg k17).trans ((if_pos k18).trans ((if_pos k19).trans ((if_neg k20).trans (rfl)))))))).symm)), N67⟩
            · refine o_icY B67 389 416 at_389 (XT.ii_ne_t k19) (by decide) (by decide) ?_
              refine o_iconst B67 416 417 (0 : Int32) at_416 rfl (by decide) ?_
              refine o_retZ (t := .boolean) B67 417 at_417 hret hlk (by simp) (by decide) (by decide) ⟨(congrArg (fun z => some (Value.int z)) ((show nar .boolean (0 : Int32) = (0 : Int32) from rfl).trans (show f0 x0 x1 x2 x3 x4 = (0 : Int32) from (if_neg k1).trans ((if_pos k11).trans ((if_neg k12).trans ((if_neg k17).trans ((if_pos k18).trans ((if_neg k19).trans (rfl))))))).symm)), N67⟩
          · refine o_icY B67 374 416 at_374 (XT.ii_ne_t k18) (by decide) (by decide) ?_
            refine o_iconst B67 416 417 (0 : Int32) at_416 rfl (by decide) ?_
            refine o_retZ (t := .boolean) B67 417 at_417 hret hlk (by simp) (by decide) (by decide) ⟨(congrArg (fun z => some (Value.int z)) ((show nar .boolean (0 : Int32) = (0 : Int32) from rfl).trans (show f0 x0 x1 x2 x3 x4 = (0 : Int32) from (if_neg k1).trans ((if_pos k11).trans ((if_neg k12).trans ((if_neg k17).trans ((if_neg k18).trans (rfl)))))).symm)), N67⟩
    · by_cases k21 : (x0 &&& (3 : Int32)) = (2 : Int32)
      · rw [k21]
        refine o_iload B 5 7 (v := (2 : Int32)) at_5 rfl rfl ?_
        refine o_ifY B 7 14 at_7 (XT.i0_ne_t (by decide)) (by decide) (by decide) ?_
        refine o_iconst B 14 15 (0 : Int32) at_14 rfl (by decide) ?_
        refine o_istore B 15 17 (l' := #[.val (.int x0), .val (.int x1), .val (.int x2), .val (.int x3), .val (.int x4), .val (.int (2 : Int32)), .val (.int (0 : Int32)), .unset, .unset, .unset, .unset, .unset, .unset, .unset, .unset, .unset, .unset, .unset, .unset, .unset, .unset, .unset, .unset, .unset]) at_15 rfl rfl ?_
        refine o_iload B 17 19 (v := (2 : Int32)) at_17 rfl rfl ?_
        refine o_iconst B 19 20 (1 : Int32) at_19 rfl (by decide) ?_
        refine o_icY B 20 27 at_20 (XT.ii_gt_t (by decide)) (by decide) (by decide) ?_
        refine o_iconst B 27 28 (1 : Int32) at_27 rfl (by decide) ?_
        refine o_istore B 28 30 (l' := #[.val (.int x0), .val (.int x1), .val (.int x2), .val (.int x3), .val (.int x4), .val (.int (2 : Int32)), .val (.int (0 : Int32)), .val (.int (1 : Int32)), .unset, .unset, .unset, .unset, .unset, .unset, .unset, .unset, .unset, .unset, .unset, .unset, .unset, .unset, .unset, .unset]) at_28 rfl rfl ?_
        refine o_iload B 30 32 (v := (2 : Int32)) at_30 rfl rfl ?_
        refine o_iconst B 32 33 (2 : Int32) at_32 rfl (by decide) ?_
        refine o_icN B 33 36 at_33 rfl (XT.ii_gt_f (by decide)) ?_
        refine o_iconst B 36 37 (3 : Int32) at_36 rfl (by decide) ?_
        refine o_goto B 37 41 at_37 (by decide) (by decide) ?_
        refine o_istore B 41 43 (l' := #[.val (.int x0), .val (.int x1), .val (.int x2), .val (.int x3), .val (.int x4), .val (.int (2 : Int32)), .val (.int (0 : Int32)), .val (.int (1 : Int32)), .val (.int (3 : Int32)), .unset, .unset, .unset, .unset, .unset, .unset, .unset, .unset, .unset, .unset, .unset, .unset, .unset, .unset, .unset]) at_41 rfl rfl ?_
        refine o_iloadN B 43 44 (v := x1) at_43 rfl rfl ?_
        refine o_bipush B 44 46 (7 : Int32) at_44 rfl (by decide) ?_
        refine o_iand B 46 47 at_46 rfl ?_
        refine o_iconst B 47 48 (1 : Int32) at_47 rfl (by decide) ?_
        refine o_iadd B 48 49 at_48 rfl ?_
        refine o_istore B 49 51 (l' := #[.val (.int x0), .val (.int x1), .val (.int x2), .val (.int x3), .val (.int x4), .val (.int (2 : Int32)), .val (.int (0 : Int32)), .val (.int (1 : Int32)), .val (.int (3 : Int32)), .val (.int (q0_1 x0 x1 x2 x3 x4)), .unset, .unset, .unset, .unset, .unset, .unset, .unset, .unset, .unset, .unset, .unset, .unset, .unset, .unset]) at_49 rfl rfl ?_
        refine o_iloadN B 51 52 (v := x1) at_51 rfl rfl ?_
        refine o_iconst B 52 53 (3 : Int32) at_52 rfl (by decide) ?_
        refine o_iushr B 53 54 at_53 rfl ?_
        refine o_bipush B 54 56 (7 : Int32) at_54 rfl (by decide) ?_
        refine o_iand B 56 57 at_56 rfl ?_
        refine o_iconst B 57 58 (1 : Int32) at_57 rfl (by decide) ?_
        refine o_iadd B 58 59 at_58 rfl ?_
        refine o_istore B 59 61 (l' := #[.val (.int x0), .val (.int x1), .val (.int x2), .val (.int x3), .val (.int x4), .val (.int (2 : Int32)), .val (.int (0 : Int32)), .val (.int (1 : Int32)), .val (.int (3 : Int32)), .val (.int (q0_1 x0 x1 x2 x3 x4)), .val (.int (q0_2 x0 x1 x2 x3 x4)), .unset, .unset, .unset, .unset, .unset, .unset, .unset, .unset, .unset, .unset, .unset, .unset, .unset]) at_59 rfl rfl ?_
        refine o_iloadN B 61 62 (v := x1) at_61 rfl rfl ?_
        refine o_bipush B 62 64 (6 : Int32) at_62 rfl (by decide) ?_
        refine o_iushr B 64 65 at_64 rfl ?_
        refine o_bipush B 65 67 (7 : Int32) at_65 rfl (by decide) ?_
        refine o_iand B 67 68 at_67 rfl ?_
        refine o_iconst B 68 69 (1 : Int32) at_68 rfl (by decide) ?_
        refine o_iadd B 69 70 at_69 rfl ?_
        refine o_istore B 70 72 (l' := #[.val (.int x0), .val (.int x1), .val (.int x2), .val (.int x3), .val (.int x4), .val (.int (2 : Int32)), .val (.int (0 : Int32)), .val (.int (1 : Int32)), .val (.int (3 : Int32)), .val (.int (q0_1 x0 x1 x2 x3 x4)), .val (.int (q0_2 x0 x1 x2 x3 x4)), .val (.int (q0_3 x0 x1 x2 x3 x4)), .unset, .unset, .unset, .unset, .unset, .unset, .unset, .unset, .unset, .unset, .unset, .unset]) at_70 rfl rfl ?_
        refine o_iloadN B 72 73 (v := x1) at_72 rfl rfl ?_
        refine o_bipush B 73 75 (9 : Int32) at_73 rfl (by decide) ?_
        refine o_iushr B 75 76 at_75 rfl ?_
        refine o_bipush B 76 78 (7 : Int32) at_76 rfl (by decide) ?_
        refine o_iand B 78 79 at_78 rfl ?_
        refine o_iconst B 79 80 (1 : Int32) at_79 rfl (by decide) ?_
        refine o_iadd B 80 81 at_80 rfl ?_
        refine o_istore B 81 83 (l' := #[.val (.int x0), .val (.int x1), .val (.int x2), .val (.int x3), .val (.int x4), .val (.int (2 : Int32)), .val (.int (0 : Int32)), .val (.int (1 : Int32)), .val (.int (3 : Int32)), .val (.int (q0_1 x0 x1 x2 x3 x4)), .val (.int (q0_2 x0 x1 x2 x3 x4)), .val (.int (q0_3 x0 x1 x2 x3 x4)), .val (.int (q0_4 x0 x1 x2 x3 x4)), .unset, .unset, .unset, .unset, .unset, .unset, .unset, .unset, .unset, .unset, .unset]) at_81 rfl rfl ?_
        refine o_iconst B 83 84 (4 : Int32) at_83 rfl (by decide) ?_
        obtain ⟨a83, T83, h83, z83, B83, E83, A83, c83⟩ := o_newI B 84 86 (ty := .int) (z := (4 : Int32)) 4 4 (hw _ (List.mem_of_getElem? (i := 0) rfl)) at_84 rfl rfl rfl (by decide) (by decide) (by decide) (by decide) (by decide) (by decide) (Ls := #[.val (.int x0), .val (.int x1), .val (.int x2), .val (.int x3), .val (.int x4), .val (.int (2 : Int32)), .val (.int (0 : Int32)), .val (.int (1 : Int32)), .val (.int (3 : Int32)), .val (.int (q0_1 x0 x1 x2 x3 x4)), .val (.int (q0_2 x0 x1 x2 x3 x4)), .val (.int (q0_3 x0 x1 x2 x3 x4)), .val (.int (q0_4 x0 x1 x2 x3 x4)), .unset, .unset, .unset, .unset, .unset, .unset, .unset, .unset, .unset, .unset, .unset]) (rest := [])
        have g83 : n0 ≤ a83 := by rw [z83]; exact hz
        have s83 : n0 ≤ h83.size := Nat.le_trans hz E83.1
        refine c83 ?_
        refine o_astore B83 86 88 (l' := #[.val (.int x0), .val (.int x1), .val (.int x2), .val (.int x3), .val (.int x4), .val (.int (2 : Int32)), .val (.int (0 : Int32)), .val (.int (1 : Int32)), .val (.int (3 : Int32)), .val (.int (q0_1 x0 x1 x2 x3 x4)), .val (.int (q0_2 x0 x1 x2 x3 x4)), .val (.int (q0_3 x0 x1 x2 x3 x4)), .val (.int (q0_4 x0 x1 x2 x3 x4)), .val (.ref a83), .unset, .unset, .unset, .unset, .unset, .unset, .unset, .unset, .unset, .unset]) at_86 rfl rfl rfl ?_
        refine o_aload B83 88 90 (v := (.ref a83)) at_88 rfl rfl rfl ?_
        refine o_iconst B83 90 91 (0 : Int32) at_90 rfl (by decide) ?_
        refine o_iload B83 91 93 (v := (q0_1 x0 x1 x2 x3 x4)) at_91 rfl rfl ?_
        obtain ⟨T84, h84, L84, B84, N84, W84, Q84, c84⟩ := o_iastore B83 N0 g83 93 94 A83 (j := (0 : Int32)) (x := (q0_1 x0 x1 x2 x3 x4)) 0 (q0_1 x0 x1 x2 x3 x4) at_93 rfl (by decide) (by decide) (by decide) rfl (Ls := #[.val (.int x0), .val (.int x1), .val (.int x2), .val (.int x3), .val (.int x4), .val (.int (2 : Int32)), .val (.int (0 : Int32)), .val (.int (1 : Int32)), .val (.int (3 : Int32)), .val (.int (q0_1 x0 x1 x2 x3 x4)), .val (.int (q0_2 x0 x1 x2 x3 x4)), .val (.int (q0_3 x0 x1 x2 x3 x4)), .val (.int (q0_4 x0 x1 x2 x3 x4)), .val (.ref a83), .unset, .unset, .unset, .unset, .unset, .unset, .unset, .unset, .unset, .unset]) (rest := [])
        have A84 : AI Z h84 a83 .int 4 (w0_5 x0 x1 x2 x3 x4) := Q84
        refine c84 ?_
        refine o_aload B84 94 96 (v := (.ref a83)) at_94 rfl rfl rfl ?_
        refine o_iconst B84 96 97 (1 : Int32) at_96 rfl (by decide) ?_
        refine o_iload B84 97 99 (v := (q0_2 x0 x1 x2 x3 x4)) at_97 rfl rfl ?_
        obtain ⟨T85, h85, L85, B85, N85, W85, Q85, c85⟩ := o_iastore B84 N84 g83 99 100 A84 (j := (1 : Int32)) (x := (q0_2 x0 x1 x2 x3 x4)) 1 (q0_2 x0 x1 x2 x3 x4) at_99 rfl (by decide) (by decide) (by decide) rfl (Ls := #[.val (.int x0), .val (.int x1), .val (.int x2), .val (.int x3), .val (.int x4), .val (.int (2 : Int32)), .val (.int (0 : Int32)), .val (.int (1 : Int32)), .val (.int (3 : Int32)), .val (.int (q0_1 x0 x1 x2 x3 x4)), .val (.int (q0_2 x0 x1 x2 x3 x4)), .val (.int (q0_3 x0 x1 x2 x3 x4)), .val (.int (q0_4 x0 x1 x2 x3 x4)), .val (.ref a83), .unset, .unset, .unset, .unset, .unset, .unset, .unset, .unset, .unset, .unset]) (rest := [])
        have A85 : AI Z h85 a83 .int 4 (w0_6 x0 x1 x2 x3 x4) := Q85
        refine c85 ?_
        refine o_aload B85 100 102 (v := (.ref a83)) at_100 rfl rfl rfl ?_
        refine o_iconst B85 102 103 (2 : Int32) at_102 rfl (by decide) ?_
        refine o_iload B85 103 105 (v := (q0_3 x0 x1 x2 x3 x4)) at_103 rfl rfl ?_
        obtain ⟨T86, h86, L86, B86, N86, W86, Q86, c86⟩ := o_iastore B85 N85 g83 105 106 A85 (j := (2 : Int32)) (x := (q0_3 x0 x1 x2 x3 x4)) 2 (q0_3 x0 x1 x2 x3 x4) at_105 rfl (by decide) (by decide) (by decide) rfl (Ls := #[.val (.int x0), .val (.int x1), .val (.int x2), .val (.int x3), .val (.int x4), .val (.int (2 : Int32)), .val (.int (0 : Int32)), .val (.int (1 : Int32)), .val (.int (3 : Int32)), .val (.int (q0_1 x0 x1 x2 x3 x4)), .val (.int (q0_2 x0 x1 x2 x3 x4)), .val (.int (q0_3 x0 x1 x2 x3 x4)), .val (.int (q0_4 x0 x1 x2 x3 x4)), .val (.ref a83), .unset, .unset, .unset, .unset, .unset, .unset, .unset, .unset, .unset, .unset]) (rest := [])
        have A86 : AI Z h86 a83 .int 4 (w0_7 x0 x1 x2 x3 x4) := Q86
        refine c86 ?_
        refine o_aload B86 106 108 (v := (.ref a83)) at_106 rfl rfl rfl ?_
        refine o_iconst B86 108 109 (3 : Int32) at_108 rfl (by decide) ?_
        refine o_iload B86 109 111 (v := (q0_4 x0 x1 x2 x3 x4)) at_109 rfl rfl ?_
        obtain ⟨T87, h87, L87, B87, N87, W87, Q87, c87⟩ := o_iastore B86 N86 g83 111 112 A86 (j := (3 : Int32)) (x := (q0_4 x0 x1 x2 x3 x4)) 3 (q0_4 x0 x1 x2 x3 x4) at_111 rfl (by decide) (by decide) (by decide) rfl (Ls := #[.val (.int x0), .val (.int x1), .val (.int x2), .val (.int x3), .val (.int x4), .val (.int (2 : Int32)), .val (.int (0 : Int32)), .val (.int (1 : Int32)), .val (.int (3 : Int32)), .val (.int (q0_1 x0 x1 x2 x3 x4)), .val (.int (q0_2 x0 x1 x2 x3 x4)), .val (.int (q0_3 x0 x1 x2 x3 x4)), .val (.int (q0_4 x0 x1 x2 x3 x4)), .val (.ref a83), .unset, .unset, .unset, .unset, .unset, .unset, .unset, .unset, .unset, .unset]) (rest := [])
        have A87 : AI Z h87 a83 .int 4 (w0_8 x0 x1 x2 x3 x4) := Q87
        refine c87 ?_
        refine o_iconst B87 112 113 (3 : Int32) at_112 rfl (by decide) ?_
        obtain ⟨a88, T88, h88, z88, B88, E88, A88, c88⟩ := o_newI B87 113 115 (ty := .int) (z := (3 : Int32)) 3 3 (hw _ (List.mem_of_getElem? (i := 0) rfl)) at_113 rfl rfl rfl (by decide) (by decide) (by decide) (by decide) (by decide) (by decide) (Ls := #[.val (.int x0), .val (.int x1), .val (.int x2), .val (.int x3), .val (.int x4), .val (.int (2 : Int32)), .val (.int (0 : Int32)), .val (.int (1 : Int32)), .val (.int (3 : Int32)), .val (.int (q0_1 x0 x1 x2 x3 x4)), .val (.int (q0_2 x0 x1 x2 x3 x4)), .val (.int (q0_3 x0 x1 x2 x3 x4)), .val (.int (q0_4 x0 x1 x2 x3 x4)), .val (.ref a83), .unset, .unset, .unset, .unset, .unset, .unset, .unset, .unset, .unset, .unset]) (rest := [])
        have ne89 : a83 ≠ a88 := by rw [z88]; exact Nat.ne_of_lt A87.lt
        have g88 : n0 ≤ a88 := by rw [z88]; exact (W87.size ▸ (W86.size ▸ (W85.size ▸ (W84.size ▸ s83))))
        have s88 : n0 ≤ h88.size := Nat.le_trans (W87.size ▸ (W86.size ▸ (W85.size ▸ (W84.size ▸ s83)))) E88.1
        refine c88 ?_
        refine o_astore B88 115 117 (l' := #[.val (.int x0), .val (.int x1), .val (.int x2), .val (.int x3), .val (.int x4), .val (.int (2 : Int32)), .val (.int (0 : Int32)), .val (.int (1 : Int32)), .val (.int (3 : Int32)), .val (.int (q0_1 x0 x1 x2 x3 x4)), .val (.int (q0_2 x0 x1 x2 x3 x4)), .val (.int (q0_3 x0 x1 x2 x3 x4)), .val (.int (q0_4 x0 x1 x2 x3 x4)), .val (.ref a83), .val (.ref a88), .unset, .unset, .unset, .unset, .unset, .unset, .unset, .unset, .unset]) at_115 rfl rfl rfl ?_
        refine o_aload B88 117 119 (v := (.ref a88)) at_117 rfl rfl rfl ?_
        refine o_iconst B88 119 120 (0 : Int32) at_119 rfl (by decide) ?_
        refine o_iload B88 120 122 (v := (0 : Int32)) at_120 rfl rfl ?_
        obtain ⟨T90, h90, L90, B90, N90, W90, Q90, c90⟩ := o_iastore B88 N87 g88 122 123 A88 (j := (0 : Int32)) (x := (0 : Int32)) 0 (0 : Int32) at_122 rfl (by decide) (by decide) (by decide) rfl (Ls := #[.val (.int x0), .val (.int x1), .val (.int x2), .val (.int x3), .val (.int x4), .val (.int (2 : Int32)), .val (.int (0 : Int32)), .val (.int (1 : Int32)), .val (.int (3 : Int32)), .val (.int (q0_1 x0 x1 x2 x3 x4)), .val (.int (q0_2 x0 x1 x2 x3 x4)), .val (.int (q0_3 x0 x1 x2 x3 x4)), .val (.int (q0_4 x0 x1 x2 x3 x4)), .val (.ref a83), .val (.ref a88), .unset, .unset, .unset, .unset, .unset, .unset, .unset, .unset, .unset]) (rest := [])
        have A90 : AI Z h90 a88 .int 3 (w0_21 x0 x1 x2 x3 x4) := Q90
        refine c90 ?_
        refine o_aload B90 123 125 (v := (.ref a88)) at_123 rfl rfl rfl ?_
        refine o_iconst B90 125 126 (1 : Int32) at_125 rfl (by decide) ?_
        refine o_iload B90 126 128 (v := (1 : Int32)) at_126 rfl rfl ?_
        obtain ⟨T91, h91, L91, B91, N91, W91, Q91, c91⟩ := o_iastore B90 N90 g88 128 129 A90 (j := (1 : Int32)) (x := (1 : Int32)) 1 (1 : Int32) at_128 rfl (by decide) (by decide) (by decide) rfl (Ls := #[.val (.int x0), .val (.int x1), .val (.int x2), .val (.int x3), .val (.int x4), .val (.int (2 : Int32)), .val (.int (0 : Int32)), .val (.int (1 : Int32)), .val (.int (3 : Int32)), .val (.int (q0_1 x0 x1 x2 x3 x4)), .val (.int (q0_2 x0 x1 x2 x3 x4)), .val (.int (q0_3 x0 x1 x2 x3 x4)), .val (.int (q0_4 x0 x1 x2 x3 x4)), .val (.ref a83), .val (.ref a88), .unset, .unset, .unset, .unset, .unset, .unset, .unset, .unset, .unset]) (rest := [])
        have A91 : AI Z h91 a88 .int 3 (w0_31 x0 x1 x2 x3 x4) := Q91
        refine c91 ?_
        refine o_aload B91 129 131 (v := (.ref a88)) at_129 rfl rfl rfl ?_
        refine o_iconst B91 131 132 (2 : Int32) at_131 rfl (by decide) ?_
        refine o_iload B91 132 134 (v := (3 : Int32)) at_132 rfl rfl ?_
        obtain ⟨T92, h92, L92, B92, N92, W92, Q92, c92⟩ := o_iastore B91 N91 g88 134 135 A91 (j := (2 : Int32)) (x := (3 : Int32)) 2 (3 : Int32) at_134 rfl (by decide) (by decide) (by decide) rfl (Ls := #[.val (.int x0), .val (.int x1), .val (.int x2), .val (.int x3), .val (.int x4), .val (.int (2 : Int32)), .val (.int (0 : Int32)), .val (.int (1 : Int32)), .val (.int (3 : Int32)), .val (.int (q0_1 x0 x1 x2 x3 x4)), .val (.int (q0_2 x0 x1 x2 x3 x4)), .val (.int (q0_3 x0 x1 x2 x3 x4)), .val (.int (q0_4 x0 x1 x2 x3 x4)), .val (.ref a83), .val (.ref a88), .unset, .unset, .unset, .unset, .unset, .unset, .unset, .unset, .unset]) (rest := [])
        have A92 : AI Z h92 a88 .int 3 (w0_32 x0 x1 x2 x3 x4) := Q92
        refine c92 ?_
        refine o_aload B92 135 137 (v := (.ref a83)) at_135 rfl rfl rfl ?_
        refine o_iload B92 137 139 (v := (0 : Int32)) at_137 rfl rfl ?_
        have F94 := ((((A87.ext E88).other W90 ne89).other W91 ne89).other W92 ne89)
        refine o_iaload B92 139 140 F94 0 (q0_1 x0 x1 x2 x3 x4) at_139 rfl (by decide) (by decide) (by decide) rfl ?_
        refine o_istore B92 140 142 (l' := #[.val (.int x0), .val (.int x1), .val (.int x2), .val (.int x3), .val (.int x4), .val (.int (2 : Int32)), .val (.int (0 : Int32)), .val (.int (1 : Int32)), .val (.int (3 : Int32)), .val (.int (q0_1 x0 x1 x2 x3 x4)), .val (.int (q0_2 x0 x1 x2 x3 x4)), .val (.int (q0_3 x0 x1 x2 x3 x4)), .val (.int (q0_4 x0 x1 x2 x3 x4)), .val (.ref a83), .val (.ref a88), .val (.int (q0_1 x0 x1 x2 x3 x4)), .unset, .unset, .unset, .unset, .unset, .unset, .unset, .unset]) at_140 rfl rfl ?_
        refine o_aload B92 142 144 (v := (.ref a83)) at_142 rfl rfl rfl ?_
        refine o_iload B92 144 146 (v := (1 : Int32)) at_144 rfl rfl ?_
        refine o_iaload B92 146 147 F94 1 (q0_2 x0 x1 x2 x3 x4) at_146 rfl (by decide) (by decide) (by decide) rfl ?_
        refine o_istore B92 147 149 (l' := #[.val (.int x0), .val (.int x1), .val (.int x2), .val (.int x3), .val (.int x4), .val (.int (2 : Int32)), .val (.int (0 : Int32)), .val (.int (1 : Int32)), .val (.int (3 : Int32)), .val (.int (q0_1 x0 x1 x2 x3 x4)), .val (.int (q0_2 x0 x1 x2 x3 x4)), .val (.int (q0_3 x0 x1 x2 x3 x4)), .val (.int (q0_4 x0 x1 x2 x3 x4)), .val (.ref a83), .val (.ref a88), .val (.int (q0_1 x0 x1 x2 x3 x4)), .val (.int (q0_2 x0 x1 x2 x3 x4)), .unset, .unset, .unset, .unset, .unset, .unset, .unset]) at_147 rfl rfl ?_
        refine o_aload B92 149 151 (v := (.ref a83)) at_149 rfl rfl rfl ?_
        refine o_iload B92 151 153 (v := (3 : Int32)) at_151 rfl rfl ?_
        refine o_iaload B92 153 154 F94 3 (q0_4 x0 x1 x2 x3 x4) at_153 rfl (by decide) (by decide) (by decide) rfl ?_
        refine o_istore B92 154 156 (l' := #[.val (.int x0), .val (.int x1), .val (.int x2), .val (.int x3), .val (.int x4), .val (.int (2 : Int32)), .val (.int (0 : Int32)), .val (.int (1 : Int32)), .val (.int (3 : Int32)), .val (.int (q0_1 x0 x1 x2 x3 x4)), .val (.int (q0_2 x0 x1 x2 x3 x4)), .val (.int (q0_3 x0 x1 x2 x3 x4)), .val (.int (q0_4 x0 x1 x2 x3 x4)), .val (.ref a83), .val (.ref a88), .val (.int (q0_1 x0 x1 x2 x3 x4)), .val (.int (q0_2 x0 x1 x2 x3 x4)), .val (.int (q0_4 x0 x1 x2 x3 x4)), .unset, .unset, .unset, .unset, .unset, .unset]) at_154 rfl rfl ?_
        refine o_iconst B92 156 157 (3 : Int32) at_156 rfl (by decide) ?_
        obtain ⟨a97, T97, h97, z97, B97, E97, A97, c97⟩ := o_newI B92 157 159 (ty := .int) (z := (3 : Int32)) 3 3 (hw _ (List.mem_of_getElem? (i := 0) rfl)) at_157 rfl rfl rfl (by decide) (by decide) (by decide) (by decide) (by decide) (by decide) (Ls := #[.val (.int x0), .val (.int x1), .val (.int x2), .val (.int x3), .val (.int x4), .val (.int (2 : Int32)), .val (.int (0 : Int32)), .val (.int (1 : Int32)), .val (.int (3 : Int32)), .val (.int (q0_1 x0 x1 x2 x3 x4)), .val (.int (q0_2 x0 x1 x2 x3 x4)), .val (.int (q0_3 x0 x1 x2 x3 x4)), .val (.int (q0_4 x0 x1 x2 x3 x4)), .val (.ref a83), .val (.ref a88), .val (.int (q0_1 x0 x1 x2 x3 x4)), .val (.int (q0_2 x0 x1 x2 x3 x4)), .val (.int (q0_4 x0 x1 x2 x3 x4)), .unset, .unset, .unset, .unset, .unset, .unset]) (rest := [])
        have ne98 : a83 ≠ a97 := by rw [z97]; exact Nat.ne_of_lt F94.lt
        have ne99 : a88 ≠ a97 := by rw [z97]; exact Nat.ne_of_lt A92.lt
        have g97 : n0 ≤ a97 := by rw [z97]; exact (W92.size ▸ (W91.size ▸ (W90.size ▸ s88)))
        have s97 : n0 ≤ h97.size := Nat.le_trans (W92.size ▸ (W91.size ▸ (W90.size ▸ s88))) E97.1
        refine c97 ?_
        refine o_astore B97 159 161 (l' := #[.val (.int x0), .val (.int x1), .val (.int x2), .val (.int x3), .val (.int x4), .val (.int (2 : Int32)), .val (.int (0 : Int32)), .val (.int (1 : Int32)), .val (.int (3 : Int32)), .val (.int (q0_1 x0 x1 x2 x3 x4)), .val (.int (q0_2 x0 x1 x2 x3 x4)), .val (.int (q0_3 x0 x1 x2 x3 x4)), .val (.int (q0_4 x0 x1 x2 x3 x4)), .val (.ref a83), .val (.ref a88), .val (.int (q0_1 x0 x1 x2 x3 x4)), .val (.int (q0_2 x0 x1 x2 x3 x4)), .val (.int (q0_4 x0 x1 x2 x3 x4)), .val (.ref a97), .unset, .unset, .unset, .unset, .unset]) at_159 rfl rfl rfl ?_
        refine o_aload B97 161 163 (v := (.ref a97)) at_161 rfl rfl rfl ?_
        refine o_iconst B97 163 164 (0 : Int32) at_163 rfl (by decide) ?_
        refine o_iloadN B97 164 165 (v := x2) at_164 rfl rfl ?_
        refine o_ldc B97 165 167 at_165 rfl (hw _ (List.mem_of_getElem? (i := 1) rfl)) ?_
        refine o_iand B97 167 168 at_167 rfl ?_
        refine o_iload B97 168 170 (v := (q0_1 x0 x1 x2 x3 x4)) at_168 rfl rfl ?_
        refine o_irem B97 170 171 at_170 rfl (own_nz (own_w1 x0 x1 x2 x3 x4)) ?_
        obtain ⟨T100, h100, L100, B100, N100, W100, Q100, c100⟩ := o_iastore B97 N92 g97 171 172 A97 (j := (0 : Int32)) (x := ((x2 &&& (2147483647 : Int32)) % (q0_1 x0 x1 x2 x3 x4))) 0 (q0_24 x0 x1 x2 x3 x4) at_171 rfl (by decide) (by decide) (by decide) rfl (Ls := #[.val (.int x0), .val (.int x1), .val (.int x2), .val (.int x3), .val (.int x4), .val (.int (2 : Int32)), .val (.int (0 : Int32)), .val (.int (1 : Int32)), .val (.int (3 : Int32)), .val (.int (q0_1 x0 x1 x2 x3 x4)), .val (.int (q0_2 x0 x1 x2 x3 x4)), .val (.int (q0_3 x0 x1 x2 x3 x4)), .val (.int (q0_4 x0 x1 x2 x3 x4)), .val (.ref a83), .val (.ref a88), .val (.int (q0_1 x0 x1 x2 x3 x4)), .val (.int (q0_2 x0 x1 x2 x3 x4)), .val (.int (q0_4 x0 x1 x2 x3 x4)), .val (.ref a97), .unset, .unset, .unset, .unset, .unset]) (rest := [])
        have A100 : AI Z h100 a97 .int 3 (w0_25 x0 x1 x2 x3 x4) := Q100
        refine c100 ?_
        refine o_aload B100 172 174 (v := (.ref a97)) at_172 rfl rfl rfl ?_
        refine o_iconst B100 174 175 (1 : Int32) at_174 rfl (by decide) ?_
        refine o_iloadN B100 175 176 (v := x3) at_175 rfl rfl ?_
        refine o_ldc B100 176 178 at_176 rfl (hw _ (List.mem_of_getElem? (i := 1) rfl)) ?_
        refine o_iand B100 178 179 at_178 rfl ?_
        refine o_iload B100 179 181 (v := (q0_2 x0 x1 x2 x3 x4)) at_179 rfl rfl ?_
        refine o_irem B100 181 182 at_181 rfl (own_nz (own_w2 x0 x1 x2 x3 x4)) ?_
        obtain ⟨T101, h101, L101, B101, N101, W101, Q101, c101⟩ := o_iastore B100 N100 g97 182 183 A100 (j := (1 : Int32)) (x := ((x3 &&& (2147483647 : Int32)) % (q0_2 x0 x1 x2 x3 x4))) 1 (q0_33 x0 x1 x2 x3 x4) at_182 rfl (by decide) (by decide) (by decide) rfl (Ls := #[.val (.int x0), .val (.int x1), .val (.int x2), .val (.int x3), .val (.int x4), .val (.int (2 : Int32)), .val (.int (0 : Int32)), .val (.int (1 : Int32)), .val (.int (3 : Int32)), .val (.int (q0_1 x0 x1 x2 x3 x4)), .val (.int (q0_2 x0 x1 x2 x3 x4)), .val (.int (q0_3 x0 x1 x2 x3 x4)), .val (.int (q0_4 x0 x1 x2 x3 x4)), .val (.ref a83), .val (.ref a88), .val (.int (q0_1 x0 x1 x2 x3 x4)), .val (.int (q0_2 x0 x1 x2 x3 x4)), .val (.int (q0_4 x0 x1 x2 x3 x4)), .val (.ref a97), .unset, .unset, .unset, .unset, .unset]) (rest := [])
        have A101 : AI Z h101 a97 .int 3 (w0_34 x0 x1 x2 x3 x4) := Q101
        refine c101 ?_
        refine o_aload B101 183 185 (v := (.ref a97)) at_183 rfl rfl rfl ?_
        refine o_iconst B101 185 186 (2 : Int32) at_185 rfl (by decide) ?_
        refine o_iload B101 186 188 (v := x4) at_186 rfl rfl ?_
        refine o_ldc B101 188 190 at_188 rfl (hw _ (List.mem_of_getElem? (i := 1) rfl)) ?_
        refine o_iand B101 190 191 at_190 rfl ?_
        refine o_iload B101 191 193 (v := (q0_4 x0 x1 x2 x3 x4)) at_191 rfl rfl ?_
        refine o_irem B101 193 194 at_193 rfl (own_nz (own_w4 x0 x1 x2 x3 x4)) ?_
        obtain ⟨T102, h102, L102, B102, N102, W102, Q102, c102⟩ := o_iastore B101 N101 g97 194 195 A101 (j := (2 : Int32)) (x := ((x4 &&& (2147483647 : Int32)) % (q0_4 x0 x1 x2 x3 x4))) 2 (q0_16 x0 x1 x2 x3 x4) at_194 rfl (by decide) (by decide) (by decide) rfl (Ls := #[.val (.int x0), .val (.int x1), .val (.int x2), .val (.int x3), .val (.int x4), .val (.int (2 : Int32)), .val (.int (0 : Int32)), .val (.int (1 : Int32)), .val (.int (3 : Int32)), .val (.int (q0_1 x0 x1 x2 x3 x4)), .val (.int (q0_2 x0 x1 x2 x3 x4)), .val (.int (q0_3 x0 x1 x2 x3 x4)), .val (.int (q0_4 x0 x1 x2 x3 x4)), .val (.ref a83), .val (.ref a88), .val (.int (q0_1 x0 x1 x2 x3 x4)), .val (.int (q0_2 x0 x1 x2 x3 x4)), .val (.int (q0_4 x0 x1 x2 x3 x4)), .val (.ref a97), .unset, .unset, .unset, .unset, .unset]) (rest := [])
        have A102 : AI Z h102 a97 .int 3 (w0_35 x0 x1 x2 x3 x4) := Q102
        refine c102 ?_
        refine o_aload B102 195 197 (v := (.ref a97)) at_195 rfl rfl rfl ?_
        refine o_iconst B102 197 198 (0 : Int32) at_197 rfl (by decide) ?_
        refine o_iaload B102 198 199 A102 0 (q0_24 x0 x1 x2 x3 x4) at_198 rfl (by decide) (by decide) (by decide) rfl ?_
        refine o_iload B102 199 201 (v := (q0_2 x0 x1 x2 x3 x4)) at_199 rfl rfl ?_
        refine o_imul B102 201 202 at_201 rfl ?_
        refine o_aload B102 202 204 (v := (.ref a97)) at_202 rfl rfl rfl ?_
        refine o_iconst B102 204 205 (1 : Int32) at_204 rfl (by decide) ?_
        refine o_iaload B102 205 206 A102 1 (q0_33 x0 x1 x2 x3 x4) at_205 rfl (by decide) (by decide) (by decide) rfl ?_
        refine o_iadd B102 206 207 at_206 rfl ?_
        refine o_iload B102 207 209 (v := (q0_4 x0 x1 x2 x3 x4)) at_207 rfl rfl ?_
        refine o_imul B102 209 210 at_209 rfl ?_
        refine o_aload B102 210 212 (v := (.ref a97)) at_210 rfl rfl rfl ?_
        refine o_iconst B102 212 213 (2 : Int32) at_212 rfl (by decide) ?_
        refine o_iaload B102 213 214 A102 2 (q0_16 x0 x1 x2 x3 x4) at_213 rfl (by decide) (by decide) (by decide) rfl ?_
        refine o_iadd B102 214 215 at_214 rfl ?_
        refine o_istore B102 215 217 (l' := #[.val (.int x0), .val (.int x1), .val (.int x2), .val (.int x3), .val (.int x4), .val (.int (2 : Int32)), .val (.int (0 : Int32)), .val (.int (1 : Int32)), .val (.int (3 : Int32)), .val (.int (q0_1 x0 x1 x2 x3 x4)), .val (.int (q0_2 x0 x1 x2 x3 x4)), .val (.int (q0_3 x0 x1 x2 x3 x4)), .val (.int (q0_4 x0 x1 x2 x3 x4)), .val (.ref a83), .val (.ref a88), .val (.int (q0_1 x0 x1 x2 x3 x4)), .val (.int (q0_2 x0 x1 x2 x3 x4)), .val (.int (q0_4 x0 x1 x2 x3 x4)), .val (.ref a97), .val (.int (q0_36 x0 x1 x2 x3 x4)), .unset, .unset, .unset, .unset]) at_215 rfl rfl ?_
        refine o_iload B102 217 219 (v := (q0_1 x0 x1 x2 x3 x4)) at_217 rfl rfl ?_
        refine o_iload B102 219 221 (v := (q0_2 x0 x1 x2 x3 x4)) at_219 rfl rfl ?_
        refine o_imul B102 221 222 at_221 rfl ?_
        refine o_iload B102 222 224 (v := (q0_4 x0 x1 x2 x3 x4)) at_222 rfl rfl ?_
        refine o_imul B102 224 225 at_224 rfl ?_
        refine o_istore B102 225 227 (l' := #[.val (.int x0), .val (.int x1), .val (.int x2), .val (.int x3), .val (.int x4), .val (.int (2 : Int32)), .val (.int (0 : Int32)), .val (.int (1 : Int32)), .val (.int (3 : Int32)), .val (.int (q0_1 x0 x1 x2 x3 x4)), .val (.int (q0_2 x0 x1 x2 x3 x4)), .val (.int (q0_3 x0 x1 x2 x3 x4)), .val (.int (q0_4 x0 x1 x2 x3 x4)), .val (.ref a83), .val (.ref a88), .val (.int (q0_1 x0 x1 x2 x3 x4)), .val (.int (q0_2 x0 x1 x2 x3 x4)), .val (.int (q0_4 x0 x1 x2 x3 x4)), .val (.ref a97), .val (.int (q0_36 x0 x1 x2 x3 x4)), .val (.int (q0_37 x0 x1 x2 x3 x4)), .unset, .unset, .unset]) at_225 rfl rfl ?_
        refine o_aload B102 227 229 (v := (.ref a88)) at_227 rfl rfl rfl ?_
        refine o_aload B102 229 231 (v := (.ref a97)) at_229 rfl rfl rfl ?_
        refine o_aload B102 231 233 (v := (.ref a83)) at_231 rfl rfl rfl ?_
        have F106 := ((((A92.ext E97).other W100 ne99).other W101 ne99).other W102 ne99)
        have F107 := ((((F94.ext E97).other W100 ne98).other W101 ne98).other W102 ne98)
        obtain ⟨v108, T108, L108, B108, Q108, c108⟩ := o_callS B102 233 236 at_233 rfl (hw _ (List.mem_of_getElem? (i := 2) rfl)) (hw _ (List.mem_of_getElem? (i := 3) rfl)) (hw _ (List.mem_of_getElem? (i := 4) rfl)) (hw _ (List.mem_of_getElem? (i := 5) rfl)) (by decide) (rm1 l Z a0 hw (w0_32 x0 x1 x2 x3 x4) (w0_35 x0 x1 x2 x3 x4) (w0_8 x0 x1 x2 x3 x4) a88 a97 a83 h102 n0 (W102.size ▸ (W101.size ▸ (W100.size ▸ s97))) F106 A102 F107 g97 ne99 ne98 (own_3 (show 0 ≤ (0 : Int32).toInt ∧ (0 : Int32).toInt < 4 by decide) (show 0 ≤ (1 : Int32).toInt ∧ (1 : Int32).toInt < 4 by decide) (show 0 ≤ (3 : Int32).toInt ∧ (3 : Int32).toInt < 4 by decide))) 0 [(.ref a88), (.ref a97), (.ref a83)] [] pd___I_I_I_Z rfl rfl (st := [(.ref a83), (.ref a97), (.ref a88)]) rfl (Ls := #[.val (.int x0), .val (.int x1), .val (.int x2), .val (.int x3), .val (.int x4), .val (.int (2 : Int32)), .val (.int (0 : Int32)), .val (.int (1 : Int32)), .val (.int (3 : Int32)), .val (.int (q0_1 x0 x1 x2 x3 x4)), .val (.int (q0_2 x0 x1 x2 x3 x4)), .val (.int (q0_3 x0 x1 x2 x3 x4)), .val (.int (q0_4 x0 x1 x2 x3 x4)), .val (.ref a83), .val (.ref a88), .val (.int (q0_1 x0 x1 x2 x3 x4)), .val (.int (q0_2 x0 x1 x2 x3 x4)), .val (.int (q0_4 x0 x1 x2 x3 x4)), .val (.ref a97), .val (.int (q0_36 x0 x1 x2 x3 x4)), .val (.int (q0_37 x0 x1 x2 x3 x4)), .unset, .unset, .unset]) rfl (Nat.le_of_eq rfl) (by decide) (by decide) (by decide) (by decide)
        obtain ⟨rfl, M108, K108, O108_0⟩ := Q108
        have N108 := Fr.app N102 M108
        have s108 : n0 ≤ T108.heap.size := Nat.le_trans (W102.size ▸ (W101.size ▸ (W100.size ▸ s97))) K108.1
        refine c108 ?_
        show OG p.tables e below _ (T108.setTop (mkF m 236 #[.val (.int x0), .val (.int x1), .val (.int x2), .val (.int x3), .val (.int x4), .val (.int (2 : Int32)), .val (.int (0 : Int32)), .val (.int (1 : Int32)), .val (.int (3 : Int32)), .val (.int (q0_1 x0 x1 x2 x3 x4)), .val (.int (q0_2 x0 x1 x2 x3 x4)), .val (.int (q0_3 x0 x1 x2 x3 x4)), .val (.int (q0_4 x0 x1 x2 x3 x4)), .val (.ref a83), .val (.ref a88), .val (.int (q0_1 x0 x1 x2 x3 x4)), .val (.int (q0_2 x0 x1 x2 x3 x4)), .val (.int (q0_4 x0 x1 x2 x3 x4)), .val (.ref a97), .val (.int (q0_36 x0 x1 x2 x3 x4)), .val (.int (q0_37 x0 x1 x2 x3 x4)), .unset, .unset, .unset] [(.int (q0_38 x0 x1 x2 x3 x4))]))
        refine o_istore B108 236 238 (l' := #[.val (.int x0), .val (.int x1), .val (.int x2), .val (.int x3), .val (.int x4), .val (.int (2 : Int32)), .val (.int (0 : Int32)), .val (.int (1 : Int32)), .val (.int (3 : Int32)), .val (.int (q0_1 x0 x1 x2 x3 x4)), .val (.int (q0_2 x0 x1 x2 x3 x4)), .val (.int (q0_3 x0 x1 x2 x3 x4)), .val (.int (q0_4 x0 x1 x2 x3 x4)), .val (.ref a83), .val (.ref a88), .val (.int (q0_1 x0 x1 x2 x3 x4)), .val (.int (q0_2 x0 x1 x2 x3 x4)), .val (.int (q0_4 x0 x1 x2 x3 x4)), .val (.ref a97), .val (.int (q0_36 x0 x1 x2 x3 x4)), .val (.int (q0_37 x0 x1 x2 x3 x4)), .val (.int (q0_38 x0 x1 x2 x3 x4)), .unset, .unset]) at_236 rfl rfl ?_
        refine o_aload B108 238 240 (v := (.ref a88)) at_238 rfl rfl rfl ?_
        refine o_iconst B108 240 241 (0 : Int32) at_240 rfl (by decide) ?_
        have F110 := (F106.keep K108 (ninS ne99 nin0))
        refine o_iaload B108 241 242 F110 0 (0 : Int32) at_241 rfl (by decide) (by decide) (by decide) rfl ?_
        refine o_iload B108 242 244 (v := (0 : Int32)) at_242 rfl rfl ?_
        refine o_icN B108 244 247 at_244 rfl (XT.ii_ne_f (by decide)) ?_
        refine o_aload B108 247 249 (v := (.ref a88)) at_247 rfl rfl rfl ?_
        refine o_iconst B108 249 250 (1 : Int32) at_249 rfl (by decide) ?_
        refine o_iaload B108 250 251 F110 1 (1 : Int32) at_250 rfl (by decide) (by decide) (by decide) rfl ?_
        refine o_iload B108 251 253 (v := (1 : Int32)) at_251 rfl rfl ?_
        refine o_icN B108 253 256 at_253 rfl (XT.ii_ne_f (by decide)) ?_
        refine o_aload B108 256 258 (v := (.ref a88)) at_256 rfl rfl rfl ?_
        refine o_iconst B108 258 259 (2 : Int32) at_258 rfl (by decide) ?_
        refine o_iaload B108 259 260 F110 2 (3 : Int32) at_259 rfl (by decide) (by decide) (by decide) rfl ?_
        refine o_iload B108 260 262 (v := (3 : Int32)) at_260 rfl rfl ?_
        refine o_icN B108 262 265 at_262 rfl (XT.ii_ne_f (by decide)) ?_
        refine o_aload B108 265 267 (v := (.ref a83)) at_265 rfl rfl rfl ?_
        refine o_iconst B108 267 268 (0 : Int32) at_267 rfl (by decide) ?_
        have F114 := (F107.keep K108 (ninS ne98 nin0))
        refine o_iaload B108 268 269 F114 0 (q0_1 x0 x1 x2 x3 x4) at_268 rfl (by decide) (by decide) (by decide) rfl ?_
        refine o_iload B108 269 271 (v := (q0_1 x0 x1 x2 x3 x4)) at_269 rfl rfl ?_
        refine o_icN B108 271 274 at_271 rfl (XT.ii_ne_f rfl) ?_
        refine o_aload B108 274 276 (v := (.ref a83)) at_274 rfl rfl rfl ?_
        refine o_iconst B108 276 277 (1 : Int32) at_276 rfl (by decide) ?_
        refine o_iaload B108 277 278 F114 1 (q0_2 x0 x1 x2 x3 x4) at_277 rfl (by decide) (by decide) (by decide) rfl ?_
        refine o_iload B108 278 280 (v := (q0_2 x0 x1 x2 x3 x4)) at_278 rfl rfl ?_
        refine o_icN B108 280 283 at_280 rfl (XT.ii_ne_f rfl) ?_
        refine o_aload B108 283 285 (v := (.ref a83)) at_283 rfl rfl rfl ?_
        refine o_iconst B108 285 286 (2 : Int32) at_285 rfl (by decide) ?_
        refine o_iaload B108 286 287 F114 2 (q0_3 x0 x1 x2 x3 x4) at_286 rfl (by decide) (by decide) (by decide) rfl ?_
        refine o_iload B108 287 289 (v := (q0_3 x0 x1 x2 x3 x4)) at_287 rfl rfl ?_
        refine o_icN B108 289 292 at_289 rfl (XT.ii_ne_f rfl) ?_
        refine o_aload B108 292 294 (v := (.ref a83)) at_292 rfl rfl rfl ?_
        refine o_iconst B108 294 295 (3 : Int32) at_294 rfl (by decide) ?_
        refine o_iaload B108 295 296 F114 3 (q0_4 x0 x1 x2 x3 x4) at_295 rfl (by decide) (by decide) (by decide) rfl ?_
        refine o_iload B108 296 298 (v := (q0_4 x0 x1 x2 x3 x4)) at_296 rfl rfl ?_
        refine o_icN B108 298 301 at_298 rfl (XT.ii_ne_f rfl) ?_
        refine o_iconst B108 301 302 (1 : Int32) at_301 rfl (by decide) ?_
        refine o_goto B108 302 306 at_302 (by decide) (by decide) ?_
        refine o_istore B108 306 308 (l' := #[.val (.int x0), .val (.int x1), .val (.int x2), .val (.int x3), .val (.int x4), .val (.int (2 : Int32)), .val (.int (0 : Int32)), .val (.int (1 : Int32)), .val (.int (3 : Int32)), .val (.int (q0_1 x0 x1 x2 x3 x4)), .val (.int (q0_2 x0 x1 x2 x3 x4)), .val (.int (q0_3 x0 x1 x2 x3 x4)), .val (.int (q0_4 x0 x1 x2 x3 x4)), .val (.ref a83), .val (.ref a88), .val (.int (q0_1 x0 x1 x2 x3 x4)), .val (.int (q0_2 x0 x1 x2 x3 x4)), .val (.int (q0_4 x0 x1 x2 x3 x4)), .val (.ref a97), .val (.int (q0_36 x0 x1 x2 x3 x4)), .val (.int (q0_37 x0 x1 x2 x3 x4)), .val (.int (q0_38 x0 x1 x2 x3 x4)), .val (.int (1 : Int32)), .unset]) at_306 rfl rfl ?_
        refine o_iload B108 308 310 (v := (q0_36 x0 x1 x2 x3 x4)) at_308 rfl rfl ?_
        refine o_iload B108 310 312 (v := (q0_37 x0 x1 x2 x3 x4)) at_310 rfl rfl ?_
        refine o_iconst B108 312 313 (1 : Int32) at_312 rfl (by decide) ?_
        refine o_isub B108 313 314 at_313 rfl ?_
        by_cases k22 : (q0_36 x0 x1 x2 x3 x4) = ((q0_37 x0 x1 x2 x3 x4) - (1 : Int32))
        · refine o_icN B108 314 317 at_314 rfl (XT.ii_ne_f k22) ?_
          refine o_iload B108 317 319 (v := (q0_38 x0 x1 x2 x3 x4)) at_317 rfl rfl ?_
          by_cases k23 : (q0_38 x0 x1 x2 x3 x4) = 0
          · refine o_ifN B108 319 322 at_319 rfl (XT.i0_ne_f k23) ?_
            refine o_aload B108 322 324 (v := (.ref a97)) at_322 rfl rfl rfl ?_
            refine o_iconst B108 324 325 (0 : Int32) at_324 rfl (by decide) ?_
            refine o_iaload B108 325 326 O108_0 0 ((o1_0 (w0_32 x0 x1 x2 x3 x4) (w0_35 x0 x1 x2 x3 x4) (w0_8 x0 x1 x2 x3 x4)) 0) at_325 rfl (by decide) (by decide) (by decide) rfl ?_
            by_cases k24 : ((o1_0 (w0_32 x0 x1 x2 x3 x4) (w0_35 x0 x1 x2 x3 x4) (w0_8 x0 x1 x2 x3 x4)) 0) = 0
            · refine o_ifN B108 326 329 at_326 rfl (XT.i0_ne_f k24) ?_
              refine o_aload B108 329 331 (v := (.ref a97)) at_329 rfl rfl rfl ?_
              refine o_iconst B108 331 332 (1 : Int32) at_331 rfl (by decide) ?_
              refine o_iaload B108 332 333 O108_0 1 ((o1_0 (w0_32 x0 x1 x2 x3 x4) (w0_35 x0 x1 x2 x3 x4) (w0_8 x0 x1 x2 x3 x4)) 1) at_332 rfl (by decide) (by decide) (by decide) rfl ?_
              by_cases k25 : ((o1_0 (w0_32 x0 x1 x2 x3 x4) (w0_35 x0 x1 x2 x3 x4) (w0_8 x0 x1 x2 x3 x4)) 1) = 0
              · refine o_ifN B108 333 336 at_333 rfl (XT.i0_ne_f k25) ?_
                refine o_aload B108 336 338 (v := (.ref a97)) at_336 rfl rfl rfl ?_
                refine o_iconst B108 338 339 (2 : Int32) at_338 rfl (by decide) ?_
                refine o_iaload B108 339 340 O108_0 2 ((o1_0 (w0_32 x0 x1 x2 x3 x4) (w0_35 x0 x1 x2 x3 x4) (w0_8 x0 x1 x2 x3 x4)) 2) at_339 rfl (by decide) (by decide) (by decide) rfl ?_
                by_cases k26 : ((o1_0 (w0_32 x0 x1 x2 x3 x4) (w0_35 x0 x1 x2 x3 x4) (w0_8 x0 x1 x2 x3 x4)) 2) = 0
                · refine o_ifN B108 340 343 at_340 rfl (XT.i0_ne_f k26) ?_
                  refine o_iload B108 343 345 (v := (1 : Int32)) at_343 rfl rfl ?_
                  refine o_ifN B108 345 348 at_345 rfl (XT.i0_eq_f (by decide)) ?_
                  refine o_iconst B108 348 349 (1 : Int32) at_348 rfl (by decide) ?_
                  refine o_goto B108 349 353 at_349 (by decide) (by decide) ?_
                  refine o_retZ (t := .boolean) B108 353 at_353 hret hlk (by simp) (by decide) (by decide) ⟨(congrArg (fun z => some (Value.int z)) ((show nar .boolean (1 : Int32) = (1 : Int32) from rfl).trans (show f0 x0 x1 x2 x3 x4 = (1 : Int32) from (if_neg k1).trans ((if_neg k11).trans ((if_pos k21).trans ((if_pos k22).trans ((if_pos k23).trans ((if_pos k24).trans ((if_pos k25).trans ((if_pos k26).trans (rfl))))))))).symm)), N108⟩
                · refine o_ifY B108 340 352 at_340 (XT.i0_ne_t k26) (by decide) (by decide) ?_
                  refine o_iconst B108 352 353 (0 : Int32) at_352 rfl (by decide) ?_
                  refine o_retZ (t := .boolean) B108 353 at_353 hret hlk (by simp) (by decide) (by decide) ⟨(congrArg (fun z => some (Value.int z)) ((show nar .boolean (0 : Int32) = (0 : Int32) from rfl).trans (show f0 x0 x1 x2 x3 x4 = (0 : Int32) from (if_neg k1).trans ((if_neg k11).trans ((if_pos k21).trans ((if_pos k22).trans ((if_pos k23).trans ((if_pos k24).trans ((if_pos k25).trans ((if_neg k26).trans (rfl))))))))).symm)), N108⟩
              · refine o_ifY B108 333 352 at_333 (XT.i0_ne_t k25) (by decide) (by decide) ?_
                refine o_iconst B108 352 353 (0 : Int32) at_352 rfl (by decide) ?_
                refine o_retZ (t := .boolean) B108 353 at_353 hret hlk (by simp) (by decide) (by decide) ⟨(congrArg (fun z => some (Value.int z)) ((show nar .boolean (0 : Int32) = (0 : Int32) from rfl).trans (show f0 x0 x1 x2 x3 x4 = (0 : Int32) from (if_neg k1).trans ((if_neg k11).trans ((if_pos k21).trans ((if_pos k22).trans ((if_pos k23).trans ((if_pos k24).trans ((if_neg k25).trans (rfl)))))))).symm)), N108⟩
            · refine o_ifY B108 326 352 at_326 (XT.i0_ne_t k24) (by decide) (by decide) ?_
              refine o_iconst B108 352 353 (0 : Int32) at_352 rfl (by decide) ?_
              refine o_retZ (t := .boolean) B108 353 at_353 hret hlk (by simp) (by decide) (by decide) ⟨(congrArg (fun z => some (Value.int z)) ((show nar .boolean (0 : Int32) = (0 : Int32) from rfl).trans (show f0 x0 x1 x2 x3 x4 = (0 : Int32) from (if_neg k1).trans ((if_neg k11).trans ((if_pos k21).trans ((if_pos k22).trans ((if_pos k23).trans ((if_neg k24).trans (rfl))))))).symm)), N108⟩
          · refine o_ifY B108 319 352 at_319 (XT.i0_ne_t k23) (by decide) (by decide) ?_
            refine o_iconst B108 352 353 (0 : Int32) at_352 rfl (by decide) ?_
            refine o_retZ (t := .boolean) B108 353 at_353 hret hlk (by simp) (by decide) (by decide) ⟨(congrArg (fun z => some (Value.int z)) ((show nar .boolean (0 : Int32) = (0 : Int32) from rfl).trans (show f0 x0 x1 x2 x3 x4 = (0 : Int32) from (if_neg k1).trans ((if_neg k11).trans ((if_pos k21).trans ((if_pos k22).trans ((if_neg k23).trans (rfl)))))).symm)), N108⟩
        · refine o_icY B108 314 354 at_314 (XT.ii_ne_t k22) (by decide) (by decide) ?_
          refine o_iload B108 354 356 (v := (q0_36 x0 x1 x2 x3 x4)) at_354 rfl rfl ?_
          refine o_iconst B108 356 357 (1 : Int32) at_356 rfl (by decide) ?_
          refine o_iadd B108 357 358 at_357 rfl ?_
          refine o_istore B108 358 360 (l' := #[.val (.int x0), .val (.int x1), .val (.int x2), .val (.int x3), .val (.int x4), .val (.int (2 : Int32)), .val (.int (0 : Int32)), .val (.int (1 : Int32)), .val (.int (3 : Int32)), .val (.int (q0_1 x0 x1 x2 x3 x4)), .val (.int (q0_2 x0 x1 x2 x3 x4)), .val (.int (q0_3 x0 x1 x2 x3 x4)), .val (.int (q0_4 x0 x1 x2 x3 x4)), .val (.ref a83), .val (.ref a88), .val (.int (q0_1 x0 x1 x2 x3 x4)), .val (.int (q0_2 x0 x1 x2 x3 x4)), .val (.int (q0_4 x0 x1 x2 x3 x4)), .val (.ref a97), .val (.int (q0_36 x0 x1 x2 x3 x4)), .val (.int (q0_37 x0 x1 x2 x3 x4)), .val (.int (q0_38 x0 x1 x2 x3 x4)), .val (.int (1 : Int32)), .val (.int ((q0_36 x0 x1 x2 x3 x4) + (1 : Int32)))]) at_358 rfl rfl ?_
          refine o_iload B108 360 362 (v := (q0_38 x0 x1 x2 x3 x4)) at_360 rfl rfl ?_
          by_cases k27 : (q0_38 x0 x1 x2 x3 x4) = 0
          · refine o_ifY B108 362 416 at_362 (XT.i0_eq_t k27) (by decide) (by decide) ?_
            refine o_iconst B108 416 417 (0 : Int32) at_416 rfl (by decide) ?_
            refine o_retZ (t := .boolean) B108 417 at_417 hret hlk (by simp) (by decide) (by decide) ⟨(congrArg (fun z => some (Value.int z)) ((show nar .boolean (0 : Int32) = (0 : Int32) from rfl).trans (show f0 x0 x1 x2 x3 x4 = (0 : Int32) from (if_neg k1).trans ((if_neg k11).trans ((if_pos k21).trans ((if_neg k22).trans ((if_pos k27).trans (rfl)))))).symm)), N108⟩
          · refine o_ifN B108 362 365 at_362 rfl (XT.i0_eq_f k27) ?_
            refine o_aload B108 365 367 (v := (.ref a97)) at_365 rfl rfl rfl ?_
            refine o_iconst B108 367 368 (2 : Int32) at_367 rfl (by decide) ?_
            refine o_iaload B108 368 369 O108_0 2 ((o1_0 (w0_32 x0 x1 x2 x3 x4) (w0_35 x0 x1 x2 x3 x4) (w0_8 x0 x1 x2 x3 x4)) 2) at_368 rfl (by decide) (by decide) (by decide) rfl ?_
            refine o_iload B108 369 371 (v := ((q0_36 x0 x1 x2 x3 x4) + (1 : Int32))) at_369 rfl rfl ?_
            refine o_iload B108 371 373 (v := (q0_4 x0 x1 x2 x3 x4)) at_371 rfl rfl ?_
            refine o_irem B108 373 374 at_373 rfl (own_nz (own_w4 x0 x1 x2 x3 x4)) ?_
            by_cases k28 : ((o1_0 (w0_32 x0 x1 x2 x3 x4) (w0_35 x0 x1 x2 x3 x4) (w0_8 x0 x1 x2 x3 x4)) 2) = (((q0_36 x0 x1 x2 x3 x4) + (1 : Int32)) % (q0_4 x0 x1 x2 x3 x4))
            · refine o_icN B108 374 377 at_374 rfl (XT.ii_ne_f k28) ?_
              refine o_aload B108 377 379 (v := (.ref a97)) at_377 rfl rfl rfl ?_
              refine o_iconst B108 379 380 (1 : Int32) at_379 rfl (by decide) ?_
              refine o_iaload B108 380 381 O108_0 1 ((o1_0 (w0_32 x0 x1 x2 x3 x4) (w0_35 x0 x1 x2 x3 x4) (w0_8 x0 x1 x2 x3 x4)) 1) at_380 rfl (by decide) (by decide) (by decide) rfl ?_
              refine o_iload B108 381 383 (v := ((q0_36 x0 x1 x2 x3 x4) + (1 : Int32))) at_381 rfl rfl ?_
              refine o_iload B108 383 385 (v := (q0_4 x0 x1 x2 x3 x4)) at_383 rfl rfl ?_
              refine o_idiv B108 385 386 at_385 rfl (own_nz (own_w4 x0 x1 x2 x3 x4)) ?_
              refine o_iload B108 386 388 (v := (q0_2 x0 x1 x2 x3 x4)) at_386 rfl rfl ?_
              refine o_irem B108 388 389 at_388 rfl (own_nz (own_w2 x0 x1 x2 x3 x4)) ?_
              by_cases k29 : ((o1_0 (w0_32 x0 x1 x2 x3 x4) (w0_35 x0 x1 x2 x3 x4) (w0_8 x0 x1 x2 x3 x4)) 1) = ((((q0_36 x0 x1 x2 x3 x4) + (1 : Int32)) / (q0_4 x0 x1 x2 x3 x4)) % (q0_2 x0 x1 x2 x3 x4))
              · refine o_icN B108 389 392 at_389 rfl (XT.ii_ne_f k29) ?_
                refine o_aload B108 392 394 (v := (.ref a97)) at_392 rfl rfl rfl ?_
                refine o_iconst B108 394 395 (0 : Int32) at_394 rfl (by decide) ?_
                refine o_iaload B108 395 396 O108_0 0 ((o1_0 (w0_32 x0 x1 x2 x3 x4) (w0_35 x0 x1 x2 x3 x4) (w0_8 x0 x1 x2 x3 x4)) 0) at_395 rfl (by decide) (by decide) (by decide) rfl ?_
                refine o_iload B108 396 398 (v := ((q0_36 x0 x1 x2 x3 x4) + (1 : Int32))) at_396 rfl rfl ?_
                refine o_iload B108 398 400 (v := (q0_2 x0 x1 x2 x3 x4)) at_398 rfl rfl ?_
                refine o_iload B108 400 402 (v := (q0_4 x0 x1 x2 x3 x4)) at_400 rfl rfl ?_
                refine o_imul B108 402 403 at_402 rfl ?_
                refine o_idiv B108 403 404 at_403 rfl (own_nz2 (own_w2 x0 x1 x2 x3 x4) (own_w4 x0 x1 x2 x3 x4)) ?_
                by_cases k30 : ((o1_0 (w0_32 x0 x1 x2 x3 x4) (w0_35 x0 x1 x2 x3 x4) (w0_8 x0 x1 x2 x3 x4)) 0) = (((q0_36 x0 x1 x2 x3 x4) + (1 : Int32)) / ((q0_2 x0 x1 x2 x3 x4) * (q0_4 x0 x1 x2 x3 x4)))
                · refine o_icN B108 404 407 at_404 rfl (XT.ii_ne_f k30) ?_
                  refine o_iload B108 407 409 (v := (1 : Int32)) at_407 rfl rfl ?_
                  refine o_ifN B108 409 412 at_409 rfl (XT.i0_eq_f (by decide)) ?_
                  refine o_iconst B108 412 413 (1 : Int32) at_412 rfl (by decide) ?_
                  refine o_goto B108 413 417 at_413 (by decide) (by decide) ?_
                  refine o_retZ (t := .boolean) B108 417 at_417 hret hlk (by simp) (by decide) (by decide) ⟨(congrArg (fun z => some (Value.int z)) ((show nar .boolean (1 : Int32) = (1 : Int32) from rfl).trans (show f0 x0 x1 x2 x3 x4 = (1 : Int32) from (if_neg k1).trans ((if_neg k11).trans ((if_pos k21).trans ((if_neg k22).trans ((if_neg k27).trans ((if_pos k28).trans ((if_pos k29).trans ((if_pos k30).trans (rfl))))))))).symm)), N108⟩
                · refine o_icY B108 404 416 at_404 (XT.ii_ne_t k30) (by decide) (by decide) ?_
                  refine o_iconst B108 416 417 (0 : Int32) at_416 rfl (by decide) ?_
                  refine o_retZ (t := .boolean) B108 417 at_417 hret hlk (by simp) (by decide) (by decide) ⟨(congrArg (fun z => some (Value.int z)) ((show nar .boolean (0 : Int32) = (0 : Int32) from rfl).trans (show f0 x0 x1 x2 x3 x4 = (0 : Int32) from (if_neg k1).trans ((if_neg k11).trans ((if_pos k21).trans ((if_neg k22).trans ((if_neg k27).trans ((if_pos k28).trans ((if_pos k29).trans ((if_neg k30).trans (rfl))))))))).symm)), N108⟩
              · refine o_icY B108 389 416 at_389 (XT.ii_ne_t k29) (by decide) (by decide) ?_
                refine o_iconst B108 416 417 (0 : Int32) at_416 rfl (by decide) ?_
                refine o_retZ (t := .boolean) B108 417 at_417 hret hlk (by simp) (by decide) (by decide) ⟨(congrArg (fun z => some (Value.int z)) ((show nar .boolean (0 : Int32) = (0 : Int32) from rfl).trans (show f0 x0 x1 x2 x3 x4 = (0 : Int32) from (if_neg k1).trans ((if_neg k11).trans ((if_pos k21).trans ((if_neg k22).trans ((if_neg k27).trans ((if_pos k28).trans ((if_neg k29).trans (rfl)))))))).symm)), N108⟩
            · refine o_icY B108 374 416 at_374 (XT.ii_ne_t k28) (by decide) (by decide) ?_
              refine o_iconst B108 416 417 (0 : Int32) at_416 rfl (by decide) ?_
              refine o_retZ (t := .boolean) B108 417 at_417 hret hlk (by simp) (by decide) (by decide) ⟨(congrArg (fun z => some (Value.int z)) ((show nar .boolean (0 : Int32) = (0 : Int32) from rfl).trans (show f0 x0 x1 x2 x3 x4 = (0 : Int32) from (if_neg k1).trans ((if_neg k11).trans ((if_pos k21).trans ((if_neg k22).trans ((if_neg k27).trans ((if_neg k28).trans (rfl))))))).symm)), N108⟩
      · have k31 : (x0 &&& (3 : Int32)) = (3 : Int32) := (own_k x0 k1 k11 k21)
        rw [k31]
        refine o_iload B 5 7 (v := (3 : Int32)) at_5 rfl rfl ?_
        refine o_ifY B 7 14 at_7 (XT.i0_ne_t (by decide)) (by decide) (by decide) ?_
        refine o_iconst B 14 15 (0 : Int32) at_14 rfl (by decide) ?_
        refine o_istore B 15 17 (l' := #[.val (.int x0), .val (.int x1), .val (.int x2), .val (.int x3), .val (.int x4), .val (.int (3 : Int32)), .val (.int (0 : Int32)), .unset, .unset, .unset, .unset, .unset, .unset, .unset, .unset, .unset, .unset, .unset, .unset, .unset, .unset, .unset, .unset, .unset]) at_15 rfl rfl ?_
        refine o_iload B 17 19 (v := (3 : Int32)) at_17 rfl rfl ?_
        refine o_iconst B 19 20 (1 : Int32) at_19 rfl (by decide) ?_
        refine o_icY B 20 27 at_20 (XT.ii_gt_t (by decide)) (by decide) (by decide) ?_
        refine o_iconst B 27 28 (1 : Int32) at_27 rfl (by decide) ?_
        refine o_istore B 28 30 (l' := #[.val (.int x0), .val (.int x1), .val (.int x2), .val (.int x3), .val (.int x4), .val (.int (3 : Int32)), .val (.int (0 : Int32)), .val (.int (1 : Int32)), .unset, .unset, .unset, .unset, .unset, .unset, .unset, .unset, .unset, .unset, .unset, .unset, .unset, .unset, .unset, .unset]) at_28 rfl rfl ?_
        refine o_iload B 30 32 (v := (3 : Int32)) at_30 rfl rfl ?_
        refine o_iconst B 32 33 (2 : Int32) at_32 rfl (by decide) ?_
        refine o_icY B 33 40 at_33 (XT.ii_gt_t (by decide)) (by decide) (by decide) ?_
        refine o_iconst B 40 41 (2 : Int32) at_40 rfl (by decide) ?_
        refine o_istore B 41 43 (l' := #[.val (.int x0), .val (.int x1), .val (.int x2), .val (.int x3), .val (.int x4), .val (.int (3 : Int32)), .val (.int (0 : Int32)), .val (.int (1 : Int32)), .val (.int (2 : Int32)), .unset, .unset, .unset, .unset, .unset, .unset, .unset, .unset, .unset, .unset, .unset, .unset, .unset, .unset, .unset]) at_41 rfl rfl ?_
        refine o_iloadN B 43 44 (v := x1) at_43 rfl rfl ?_
        refine o_bipush B 44 46 (7 : Int32) at_44 rfl (by decide) ?_
        refine o_iand B 46 47 at_46 rfl ?_
        refine o_iconst B 47 48 (1 : Int32) at_47 rfl (by decide) ?_
        refine o_iadd B 48 49 at_48 rfl ?_
        refine o_istore B 49 51 (l' := #[.val (.int x0), .val (.int x1), .val (.int x2), .val (.int x3), .val (.int x4), .val (.int (3 : Int32)), .val (.int (0 : Int32)), .val (.int (1 : Int32)), .val (.int (2 : Int32)), .val (.int (q0_1 x0 x1 x2 x3 x4)), .unset, .unset, .unset, .unset, .unset, .unset, .unset, .unset, .unset, .unset, .unset, .unset, .unset, .unset]) at_49 rfl rfl ?_
        refine o_iloadN B 51 52 (v := x1) at_51 rfl rfl ?_
        refine o_iconst B 52 53 (3 : Int32) at_52 rfl (by decide) ?_
        refine o_iushr B 53 54 at_53 rfl ?_
        refine o_bipush B 54 56 (7 : Int32) at_54 rfl (by decide) ?_
        refine o_iand B 56 57 at_56 rfl ?_
        refine o_iconst B 57 58 (1 : Int32) at_57 rfl (by decide) ?_
        refine o_iadd B 58 59 at_58 rfl ?_
        refine o_istore B 59 61 (l' := #[.val (.int x0), .val (.int x1), .val (.int x2), .val (.int x3), .val (.int x4), .val (.int (3 : Int32)), .val (.int (0 : Int32)), .val (.int (1 : Int32)), .val (.int (2 : Int32)), .val (.int (q0_1 x0 x1 x2 x3 x4)), .val (.int (q0_2 x0 x1 x2 x3 x4)), .unset, .unset, .unset, .unset, .unset, .unset, .unset, .unset, .unset, .unset, .unset, .unset, .unset]) at_59 rfl rfl ?_
        refine o_iloadN B 61 62 (v := x1) at_61 rfl rfl ?_
        refine o_bipush B 62 64 (6 : Int32) at_62 rfl (by decide) ?_
        refine o_iushr B 64 65 at_64 rfl ?_
        refine o_bipush B 65 67 (7 : Int32) at_65 rfl (by decide) ?_
        refine o_iand B 67 68 at_67 rfl ?_
        refine o_iconst B 68 69 (1 : Int32) at_68 rfl (by decide) ?_
        refine o_iadd B 69 70 at_69 rfl ?_
        refine o_istore B 70 72 (l' := #[.val (.int x0), .val (.int x1), .val (.int x2), .val (.int x3), .val (.int x4), .val (.int (3 : Int32)), .val (.int (0 : Int32)), .val (.int (1 : Int32)), .val (.int (2 : Int32)), .val (.int (q0_1 x0 x1 x2 x3 x4)), .val (.int (q0_2 x0 x1 x2 x3 x4)), .val (.int (q0_3 x0 x1 x2 x3 x4)), .unset, .unset, .unset, .unset, .unset, .unset, .unset, .unset, .unset, .unset, .unset, .unset]) at_70 rfl rfl ?_
        refine o_iloadN B 72 73 (v := x1) at_72 rfl rfl ?_
        refine o_bipush B 73 75 (9 : Int32) at_73 rfl (by decide) ?_
        refine o_iushr B 75 76 at_75 rfl ?_
        refine o_bipush B 76 78 (7 : Int32) at_76 rfl (by decide) ?_
        refine o_iand B 78 79 at_78 rfl ?_
        refine o_iconst B 79 80 (1 : Int32) at_79 rfl (by decide) ?_
        refine o_iadd B 80 81 at_80 rfl ?_
        refine o_istore B 81 83 (l' := #[.val (.int x0), .val (.int x1), .val (.int x2), .val (.int x3), .val (.int x4), .val (.int (3 : Int32)), .val (.int (0 : Int32)), .val (.int (1 : Int32)), .val (.int (2 : Int32)), .val (.int (q0_1 x0 x1 x2 x3 x4)), .val (.int (q0_2 x0 x1 x2 x3 x4)), .val (.int (q0_3 x0 x1 x2 x3 x4)), .val (.int (q0_4 x0 x1 x2 x3 x4)), .unset, .unset, .unset, .unset, .unset, .unset, .unset, .unset, .unset, .unset, .unset]) at_81 rfl rfl ?_
        refine o_iconst B 83 84 (4 : Int32) at_83 rfl (by decide) ?_
        obtain ⟨a124, T124, h124, z124, B124, E124, A124, c124⟩ := o_newI B 84 86 (ty := .int) (z := (4 : Int32)) 4 4 (hw _ (List.mem_of_getElem? (i := 0) rfl)) at_84 rfl rfl rfl (by decide) (by decide) (by decide) (by decide) (by decide) (by decide) (Ls := #[.val (.int x0), .val (.int x1), .val (.int x2), .val (.int x3), .val (.int x4), .val (.int (3 : Int32)), .val (.int (0 : Int32)), .val (.int (1 : Int32)), .val (.int (2 : Int32)), .val (.int (q0_1 x0 x1 x2 x3 x4)), .val (.int (q0_2 x0 x1 x2 x3 x4)), .val (.int (q0_3 x0 x1 x2 x3 x4)), .val (.int (q0_4 x0 x1 x2 x3 x4)), .unset, .unset, .unset, .unset, .unset, .unset, .unset, .unset, .unset, .unset, .unset]) (rest := [])
        have g124 : n0 ≤ a124 := by rw [z124]; exact hz
        have s124 : n0 ≤ h124.size := Nat.le_trans hz E124.1
        refine c124 ?_
        refine o_astore B124 86 88 (l' := #[.val (.int x0), .val (.int x1), .val (.int x2), .val (.int x3), .val (.int x4), .val (.int (3 : Int32)), .val (.int (0 : Int32)), .val (.int (1 : Int32)), .val (.int (2 : Int32)), .val (.int (q0_1 x0 x1 x2 x3 x4)), .val (.int (q0_2 x0 x1 x2 x3 x4)), .val (.int (q0_3 x0 x1 x2 x3 x4)), .val (.int (q0_4 x0 x1 x2 x3 x4)), .val (.ref a124), .unset, .unset, .unset, .unset, .unset, .unset, .unset, .unset, .unset, .unset]) at_86 rfl rfl rfl ?_
        refine o_aload B124 88 90 (v := (.ref a124)) at_88 rfl rfl rfl ?_
        refine o_iconst B124 90 91 (0 : Int32) at_90 rfl (by decide) ?_
        refine o_iload B124 91 93 (v := (q0_1 x0 x1 x2 x3 x4)) at_91 rfl rfl ?_
        obtain ⟨T125, h125, L125, B125, N125, W125, Q125, c125⟩ := o_iastore B124 N0 g124 93 94 A124 (j := (0 : Int32)) (x := (q0_1 x0 x1 x2 x3 x4)) 0 (q0_1 x0 x1 x2 x3 x4) at_93 rfl (by decide) (by decide) (by decide) rfl (Ls := #[.val (.int x0), .val (.int x1), .val (.int x2), .val (.int x3), .val (.int x4), .val (.int (3 : Int32)), .val (.int (0 : Int32)), .val (.int (1 : Int32)), .val (.int (2 : Int32)), .val (.int (q0_1 x0 x1 x2 x3 x4)), .val (.int (q0_2 x0 x1 x2 x3 x4)), .val (.int (q0_3 x0 x1 x2 x3 x4)), .val (.int (q0_4 x0 x1 x2 x3 x4)), .val (.ref a124), .unset, .unset, .unset, .unset, .unset, .unset, .unset, .unset, .unset, .unset]) (rest := [])
        have A125 : AI Z h125 a124 .int 4 (w0_5 x0 x1 x2 x3 x4) := Q125
        refine c125 ?_
        refine o_aload B125 94 96 (v := (.ref a124)) at_94 rfl rfl rfl ?_
        refine o_iconst B125 96 97 (1 : Int32) at_96 rfl (by decide) ?_
        refine o_iload B125 97 99 (v := (q0_2 x0 x1 x2 x3 x4)) at_97 rfl rfl ?_
        obtain ⟨T126, h126, L126, B126, N126, W126, Q126, c126⟩ := o_iastore B125 N125 g124 99 100 A125 (j := (1 : Int32)) (x := (q0_2 x0 x1 x2 x3 x4)) 1 (q0_2 x0 x1 x2 x3 x4) at_99 rfl (by decide) (by decide) (by decide) rfl (Ls := #[.val (.int x0), .val (.int x1), .val (.int x2), .val (.int x3), .val (.int x4), .val (.int (3 : Int32)), .val (.int (0 : Int32)), .val (.int (1 : Int32)), .val (.int (2 : Int32)), .val (.int (q0_1 x0 x1 x2 x3 x4)), .val (.int (q0_2 x0 x1 x2 x3 x4)), .val (.int (q0_3 x0 x1 x2 x3 x4)), .val (.int (q0_4 x0 x1 x2 x3 x4)), .val (.ref a124), .unset, .unset, .unset, .unset, .unset, .unset, .unset, .unset, .unset, .unset]) (rest := [])
        have A126 : AI Z h126 a124 .int 4 (w0_6 x0 x1 x2 x3 x4) := Q126
        refine c126 ?_
        refine o_aload B126 100 102 (v := (.ref a124)) at_100 rfl rfl rfl ?_
        refine o_iconst B126 102 103 (2 : Int32) at_102 rfl (by decide) ?_
        refine o_iload B126 103 105 (v := (q0_3 x0 x1 x2 x3 x4)) at_103 rfl rfl ?_
        obtain ⟨T127, h127, L127, B127, N127, W127, Q127, c127⟩ := o_iastore B126 N126 g124 105 106 A126 (j := (2 : Int32)) (x := (q0_3 x0 x1 x2 x3 x4)) 2 (q0_3 x0 x1 x2 x3 x4) at_105 rfl (by decide) (by decide) (by decide) rfl (Ls := #[.val (.int x0), .val (.int x1), .val (.int x2), .val (.int x3), .val (.int x4), .val (.int (3 : Int32)), .val (.int (0 : Int32)), .val (.int (1 : Int32)), .val (.int (2 : Int32)), .val (.int (q0_1 x0 x1 x2 x3 x4)), .val (.int (q0_2 x0 x1 x2 x3 x4)), .val (.int (q0_3 x0 x1 x2 x3 x4)), .val (.int (q0_4 x0 x1 x2 x3 x4)), .val (.ref a124), .unset, .unset, .unset, .unset, .unset, .unset, .unset, .unset, .unset, .unset]) (rest := [])
        have A127 : AI Z h127 a124 .int 4 (w0_7 x0 x1 x2 x3 x4) := Q127
        refine c127 ?_
        refine o_aload B127 106 108 (v := (.ref a124)) at_106 rfl rfl rfl ?_
        refine o_iconst B127 108 109 (3 : Int32) at_108 rfl (by decide) ?_
        refine o_iload B127 109 111 (v := (q0_4 x0 x1 x2 x3 x4)) at_109 rfl rfl ?_
        obtain ⟨T128, h128, L128, B128, N128, W128, Q128, c128⟩ := o_iastore B127 N127 g124 111 112 A127 (j := (3 : Int32)) (x := (q0_4 x0 x1 x2 x3 x4)) 3 (q0_4 x0 x1 x2 x3 x4) at_111 rfl (by decide) (by decide) (by decide) rfl (Ls := #[.val (.int x0), .val (.int x1), .val (.int x2), .val (.int x3), .val (.int x4), .val (.int (3 : Int32)), .val (.int (0 : Int32)), .val (.int (1 : Int32)), .val (.int (2 : Int32)), .val (.int (q0_1 x0 x1 x2 x3 x4)), .val (.int (q0_2 x0 x1 x2 x3 x4)), .val (.int (q0_3 x0 x1 x2 x3 x4)), .val (.int (q0_4 x0 x1 x2 x3 x4)), .val (.ref a124), .unset, .unset, .unset, .unset, .unset, .unset, .unset, .unset, .unset, .unset]) (rest := [])
        have A128 : AI Z h128 a124 .int 4 (w0_8 x0 x1 x2 x3 x4) := Q128
        refine c128 ?_
        refine o_iconst B128 112 113 (3 : Int32) at_112 rfl (by decide) ?_
        obtain ⟨a129, T129, h129, z129, B129, E129, A129, c129⟩ := o_newI B128 113 115 (ty := .int) (z := (3 : Int32)) 3 3 (hw _ (List.mem_of_getElem? (i := 0) rfl)) at_113 rfl rfl rfl (by decide) (by decide) (by decide) (by decide) (by decide) (by decide) (Ls := #[.val (.int x0), .val (.int x1), .val (.int x2), .val (.int x3), .val (.int x4), .val (.int (3 : Int32)), .val (.int (0 : Int32)), .val (.int (1 : Int32)), .val (.int (2 : Int32)), .val (.int (q0_1 x0 x1 x2 x3 x4)), .val (.int (q0_2 x0 x1 x2 x3 x4)), .val (.int (q0_3 x0 x1 x2 x3 x4)), .val (.int (q0_4 x0 x1 x2 x3 x4)), .val (.ref a124), .unset, .unset, .unset, .unset, .unset, .unset, .unset, .unset, .unset, .unset]) (rest := [])
        have ne130 : a124 ≠ a129 := by rw [z129]; exact Nat.ne_of_lt A128.lt
        have g129 : n0 ≤ a129 := by rw [z129]; exact (W128.size ▸ (W127.size ▸ (W126.size ▸ (W125.size ▸ s124))))
        have s129 : n0 ≤ h129.size := Nat.le_trans (W128.size ▸ (W127.size ▸ (W126.size ▸ (W125.size ▸ s124)))) E129.1
        refine c129 ?_
        refine o_astore B129 115 117 (l' := #[.val (.int x0), .val (.int x1), .val (.int x2), .val (.int x3), .val (.int x4), .val (.int (3 : Int32)), .val (.int (0 : Int32)), .val (.int (1 : Int32)), .val (.int (2 : Int32)), .val (.int (q0_1 x0 x1 x2 x3 x4)), .val (.int (q0_2 x0 x1 x2 x3 x4)), .val (.int (q0_3 x0 x1 x2 x3 x4)), .val (.int (q0_4 x0 x1 x2 x3 x4)), .val (.ref a124), .val (.ref a129), .unset, .unset, .unset, .unset, .unset, .unset, .unset, .unset, .unset]) at_115 rfl rfl rfl ?_
        refine o_aload B129 117 119 (v := (.ref a129)) at_117 rfl rfl rfl ?_
        refine o_iconst B129 119 120 (0 : Int32) at_119 rfl (by decide) ?_
        refine o_iload B129 120 122 (v := (0 : Int32)) at_120 rfl rfl ?_
        obtain ⟨T131, h131, L131, B131, N131, W131, Q131, c131⟩ := o_iastore B129 N128 g129 122 123 A129 (j := (0 : Int32)) (x := (0 : Int32)) 0 (0 : Int32) at_122 rfl (by decide) (by decide) (by decide) rfl (Ls := #[.val (.int x0), .val (.int x1), .val (.int x2), .val (.int x3), .val (.int x4), .val (.int (3 : Int32)), .val (.int (0 : Int32)), .val (.int (1 : Int32)), .val (.int (2 : Int32)), .val (.int (q0_1 x0 x1 x2 x3 x4)), .val (.int (q0_2 x0 x1 x2 x3 x4)), .val (.int (q0_3 x0 x1 x2 x3 x4)), .val (.int (q0_4 x0 x1 x2 x3 x4)), .val (.ref a124), .val (.ref a129), .unset, .unset, .unset, .unset, .unset, .unset, .unset, .unset, .unset]) (rest := [])
        have A131 : AI Z h131 a129 .int 3 (w0_21 x0 x1 x2 x3 x4) := Q131
        refine c131 ?_
        refine o_aload B131 123 125 (v := (.ref a129)) at_123 rfl rfl rfl ?_
        refine o_iconst B131 125 126 (1 : Int32) at_125 rfl (by decide) ?_
        refine o_iload B131 126 128 (v := (1 : Int32)) at_126 rfl rfl ?_
        obtain ⟨T132, h132, L132, B132, N132, W132, Q132, c132⟩ := o_iastore B131 N131 g129 128 129 A131 (j := (1 : Int32)) (x := (1 : Int32)) 1 (1 : Int32) at_128 rfl (by decide) (by decide) (by decide) rfl (Ls := #[.val (.int x0), .val (.int x1), .val (.int x2), .val (.int x3), .val (.int x4), .val (.int (3 : Int32)), .val (.int (0 : Int32)), .val (.int (1 : Int32)), .val (.int (2 : Int32)), .val (.int (q0_1 x0 x1 x2 x3 x4)), .val (.int (q0_2 x0 x1 x2 x3 x4)), .val (.int (q0_3 x0 x1 x2 x3 x4)), .val (.int (q0_4 x0 x1 x2 x3 x4)), .val (.ref a124), .val (.ref a129), .unset, .unset, .unset, .unset, .unset, .unset, .unset, .unset, .unset]) (rest := [])
        have A132 : AI Z h132 a129 .int 3 (w0_31 x0 x1 x2 x3 x4) := Q132
        refine c132 ?_
        refine o_aload B132 129 131 (v := (.ref a129)) at_129 rfl rfl rfl ?_
        refine o_iconst B132 131 132 (2 : Int32) at_131 rfl (by decide) ?_
        refine o_iload B132 132 134 (v := (2 : Int32)) at_132 rfl rfl ?_
        obtain ⟨T133, h133, L133, B133, N133, W133, Q133, c133⟩ := o_iastore B132 N132 g129 134 135 A132 (j := (2 : Int32)) (x := (2 : Int32)) 2 (2 : Int32) at_134 rfl (by decide) (by decide) (by decide) rfl (Ls := #[.val (.int x0), .val (.int x1), .val (.int x2), .val (.int x3), .val (.int x4), .val (.int (3 : Int32)), .val (.int (0 : Int32)), .val (.int (1 : Int32)), .val (.int (2 : Int32)), .val (.int (q0_1 x0 x1 x2 x3 x4)), .val (.int (q0_2 x0 x1 x2 x3 x4)), .val (.int (q0_3 x0 x1 x2 x3 x4)), .val (.int (q0_4 x0 x1 x2 x3 x4)), .val (.ref a124), .val (.ref a129), .unset, .unset, .unset, .unset, .unset, .unset, .unset, .unset, .unset]) (rest := [])
        have A133 : AI Z h133 a129 .int 3 (w0_39 x0 x1 x2 x3 x4) := Q133
        refine c133 ?_
        refine o_aload B133 135 137 (v := (.ref a124)) at_135 rfl rfl rfl ?_
        refine o_iload B133 137 139 (v := (0 : Int32)) at_137 rfl rfl ?_
        have F135 := ((((A128.ext E129).other W131 ne130).other W132 ne130).other W133 ne130)
        refine o_iaload B133 139 140 F135 0 (q0_1 x0 x1 x2 x3 x4) at_139 rfl (by decide) (by decide) (by decide) rfl ?_
        refine o_istore B133 140 142 (l' := #[.val (.int x0), .val (.int x1), .val (.int x2), .val (.int x3), .val (.int x4), .val (.int (3 : Int32)), .val (.int (0 : Int32)), .val (.int (1 : Int32)), .val (.int (2 : Int32)), .val (.int (q0_1 x0 x1 x2 x3 x4)), .val (.int (q0_2 x0 x1 x2 x3 x4)), .val (.int (q0_3 x0 x1 x2 x3 x4)), .val (.int (q0_4 x0 x1 x2 x3 x4)), .val (.ref a124), .val (.ref a129), .val (.int (q0_1 x0 x1 x2 x3 x4)), .unset, .unset, .unset, .unset, .unset, .unset, .unset, .unset]) at_140 rfl rfl ?_
        refine o_aload B133 142 144 (v := (.ref a124)) at_142 rfl rfl rfl ?_
        refine o_iload B133 144 146 (v := (1 : Int32)) at_144 rfl rfl ?_
        refine o_iaload B133 146 147 F135 1 (q0_2 x0 x1 x2 x3 x4) at_146 rfl (by decide) (by decide) (by decide) rfl ?_
        refine o_istore B133 147 149 (l' := #[.val (.int x0), .val (.int x1), .val (.int x2), .val (.int x3), .val (.int x4), .val (.int (3 : Int32)), .val (.int (0 : Int32)), .val (.int (1 : Int32)), .val (.int (2 : Int32)), .val (.int (q0_1 x0 x1 x2 x3 x4)), .val (.int (q0_2 x0 x1 x2 x3 x4)), .val (.int (q0_3 x0 x1 x2 x3 x4)), .val (.int (q0_4 x0 x1 x2 x3 x4)), .val (.ref a124), .val (.ref a129), .val (.int (q0_1 x0 x1 x2 x3 x4)), .val (.int (q0_2 x0 x1 x2 x3 x4)), .unset, .unset, .unset, .unset, .unset, .unset, .unset]) at_147 rfl rfl ?_
        refine o_aload B133 149 151 (v := (.ref a124)) at_149 rfl rfl rfl ?_
        refine o_iload B133 151 153 (v := (2 : Int32)) at_151 rfl rfl ?_
        refine o_iaload B133 153 154 F135 2 (q0_3 x0 x1 x2 x3 x4) at_153 rfl (by decide) (by decide) (by decide) rfl ?_
        refine o_istore B133 154 156 (l' := #[.val (.int x0), .val (.int x1), .val (.int x2), .val (.int x3), .val (.int x4), .val (.int (3 : Int32)), .val (.int (0 : Int32)), .val (.int (1 : Int32)), .val (.int (2 : Int32)), .val (.int (q0_1 x0 x1 x2 x3 x4)), .val (.int (q0_2 x0 x1 x2 x3 x4)), .val (.int (q0_3 x0 x1 x2 x3 x4)), .val (.int (q0_4 x0 x1 x2 x3 x4)), .val (.ref a124), .val (.ref a129), .val (.int (q0_1 x0 x1 x2 x3 x4)), .val (.int (q0_2 x0 x1 x2 x3 x4)), .val (.int (q0_3 x0 x1 x2 x3 x4)), .unset, .unset, .unset, .unset, .unset, .unset]) at_154 rfl rfl ?_
        refine o_iconst B133 156 157 (3 : Int32) at_156 rfl (by decide) ?_
        obtain ⟨a138, T138, h138, z138, B138, E138, A138, c138⟩ := o_newI B133 157 159 (ty := .int) (z := (3 : Int32)) 3 3 (hw _ (List.mem_of_getElem? (i := 0) rfl)) at_157 rfl rfl rfl (by decide) (by decide) (by decide) (by decide) (by decide) (by decide) (Ls := #[.val (.int x0), .val (.int x1), .val (.int x2), .val (.int x3), .val (.int x4), .val (.int (3 : Int32)), .val (.int (0 : Int32)), .val (.int (1 : Int32)), .val (.int (2 : Int32)), .val (.int (q0_1 x0 x1 x2 x3 x4)), .val (.int (q0_2 x0 x1 x2 x3 x4)), .val (.int (q0_3 x0 x1 x2 x3 x4)), .val (.int (q0_4 x0 x1 x2 x3 x4)), .val (.ref a124), .val (.ref a129), .val (.int (q0_1 x0 x1 x2 x3 x4)), .val (.int (q0_2 x0 x1 x2 x3 x4)), .val (.int (q0_3 x0 x1 x2 x3 x4)), .unset, .unset, .unset, .unset, .unset, .unset]) (rest := [])
        have ne139 : a124 ≠ a138 := by rw [z138]; exact Nat.ne_of_lt F135.lt
        have ne140 : a129 ≠ a138 := by rw [z138]; exact Nat.ne_of_lt A133.lt
        have g138 : n0 ≤ a138 := by rw [z138]; exact (W133.size ▸ (W132.size ▸ (W131.size ▸ s129)))
        have s138 : n0 ≤ h138.size := Nat.le_trans (W133.size ▸ (W132.size ▸ (W131.size ▸ s129))) E138.1
        refine c138 ?_
        refine o_astore B138 159 161 (l' := #[.val (.int x0), .val (.int x1), .val (.int x2), .val (.int x3), .val (.int x4), .val (.int (3 : Int32)), .val (.int (0 : Int32)), .val (.int (1 : Int32)), .val (.int (2 : Int32)), .val (.int (q0_1 x0 x1 x2 x3 x4)), .val (.int (q0_2 x0 x1 x2 x3 x4)), .val (.int (q0_3 x0 x1 x2 x3 x4)), .val (.int (q0_4 x0 x1 x2 x3 x4)), .val (.ref a124), .val (.ref a129), .val (.int (q0_1 x0 x1 x2 x3 x4)), .val (.int (q0_2 x0 x1 x2 x3 x4)), .val (.int (q0_3 x0 x1 x2 x3 x4)), .val (.ref a138), .unset, .unset, .unset, .unset, .unset]) at_159 rfl rfl rfl ?_
        refine o_aload B138 161 163 (v := (.ref a138)) at_161 rfl rfl rfl ?_
        refine o_iconst B138 163 164 (0 : Int32) at_163 rfl (by decide) ?_
        refine o_iloadN B138 164 165 (v := x2) at_164 rfl rfl ?_
        refine o_ldc B138 165 167 at_165 rfl (hw _ (List.mem_of_getElem? (i := 1) rfl)) ?_
        refine o_iand B138 167 168 at_167 rfl ?_
        refine o_iload B138 168 170 (v := (q0_1 x0 x1 x2 x3 x4)) at_168 rfl rfl ?_
        refine o_irem B138 170 171 at_170 rfl (own_nz (own_w1 x0 x1 x2 x3 x4)) ?_
        obtain ⟨T141, h141, L141, B141, N141, W141, Q141, c141⟩ := o_iastore B138 N133 g138 171 172 A138 (j := (0 : Int32)) (x := ((x2 &&& (2147483647 : Int32)) % (q0_1 x0 x1 x2 x3 x4))) 0 (q0_24 x0 x1 x2 x3 x4) at_171 rfl (by decide) (by decide) (by decide) rfl (Ls := #[.val (.int x0), .val (.int x1), .val (.int x2), .val (.int x3), .val (.int x4), .val (.int (3 : Int32)), .val (.int (0 : Int32)), .val (.int (1 : Int32)), .val (.int (2 : Int32)), .val (.int (q0_1 x0 x1 x2 x3 x4)), .val (.int (q0_2 x0 x1 x2 x3 x4)), .val (.int (q0_3 x0 x1 x2 x3 x4)), .val (.int (q0_4 x0 x1 x2 x3 x4)), .val (.ref a124), .val (.ref a129), .val (.int (q0_1 x0 x1 x2 x3 x4)), .val (.int (q0_2 x0 x1 x2 x3 x4)), .val (.int (q0_3 x0 x1 x2 x3 x4)), .val (.ref a138), .unset, .unset, .unset, .unset, .unset]) (rest := [])
        have A141 : AI Z h141 a138 .int 3 (w0_25 x0 x1 x2 x3 x4) := Q141
        refine c141 ?_
        refine o_aload B141 172 174 (v := (.ref a138)) at_172 rfl rfl rfl ?_
        refine o_iconst B141 174 175 (1 : Int32) at_174 rfl (by decide) ?_
        refine o_iloadN B141 175 176 (v := x3) at_175 rfl rfl ?_
        refine o_ldc B141 176 178 at_176 rfl (hw _ (List.mem_of_getElem? (i := 1) rfl)) ?_
        refine o_iand B141 178 179 at_178 rfl ?_
        refine o_iload B141 179 181 (v := (q0_2 x0 x1 x2 x3 x4)) at_179 rfl rfl ?_
        refine o_irem B141 181 182 at_181 rfl (own_nz (own_w2 x0 x1 x2 x3 x4)) ?_
        obtain ⟨T142, h142, L142, B142, N142, W142, Q142, c142⟩ := o_iastore B141 N141 g138 182 183 A141 (j := (1 : Int32)) (x := ((x3 &&& (2147483647 : Int32)) % (q0_2 x0 x1 x2 x3 x4))) 1 (q0_33 x0 x1 x2 x3 x4) at_182 rfl (by decide) (by decide) (by decide) rfl (Ls := #[.val (.int x0), .val (.int x1), .val (.int x2), .val (.int x3), .val (.int x4), .val (.int (3 : Int32)), .val (.int (0 : Int32)), .val (.int (1 : Int32)), .val (.int (2 : Int32)), .val (.int (q0_1 x0 x1 x2 x3 x4)), .val (.int (q0_2 x0 x1 x2 x3 x4)), .val (.int (q0_3 x0 x1 x2 x3 x4)), .val (.int (q0_4 x0 x1 x2 x3 x4)), .val (.ref a124), .val (.ref a129), .val (.int (q0_1 x0 x1 x2 x3 x4)), .val (.int (q0_2 x0 x1 x2 x3 x4)), .val (.int (q0_3 x0 x1 x2 x3 x4)), .val (.ref a138), .unset, .unset, .unset, .unset, .unset]) (rest := [])
        have A142 : AI Z h142 a138 .int 3 (w0_34 x0 x1 x2 x3 x4) := Q142
        refine c142 ?_
        refine o_aload B142 183 185 (v := (.ref a138)) at_183 rfl rfl rfl ?_
        refine o_iconst B142 185 186 (2 : Int32) at_185 rfl (by decide) ?_
        refine o_iload B142 186 188 (v := x4) at_186 rfl rfl ?_
        refine o_ldc B142 188 190 at_188 rfl (hw _ (List.mem_of_getElem? (i := 1) rfl)) ?_
        refine o_iand B142 190 191 at_190 rfl ?_
        refine o_iload B142 191 193 (v := (q0_3 x0 x1 x2 x3 x4)) at_191 rfl rfl ?_
        refine o_irem B142 193 194 at_193 rfl (own_nz (own_w3 x0 x1 x2 x3 x4)) ?_
        obtain ⟨T143, h143, L143, B143, N143, W143, Q143, c143⟩ := o_iastore B142 N142 g138 194 195 A142 (j := (2 : Int32)) (x := ((x4 &&& (2147483647 : Int32)) % (q0_3 x0 x1 x2 x3 x4))) 2 (q0_40 x0 x1 x2 x3 x4) at_194 rfl (by decide) (by decide) (by decide) rfl (Ls := #[.val (.int x0), .val (.int x1), .val (.int x2), .val (.int x3), .val (.int x4), .val (.int (3 : Int32)), .val (.int (0 : Int32)), .val (.int (1 : Int32)), .val (.int (2 : Int32)), .val (.int (q0_1 x0 x1 x2 x3 x4)), .val (.int (q0_2 x0 x1 x2 x3 x4)), .val (.int (q0_3 x0 x1 x2 x3 x4)), .val (.int (q0_4 x0 x1 x2 x3 x4)), .val (.ref a124), .val (.ref a129), .val (.int (q0_1 x0 x1 x2 x3 x4)), .val (.int (q0_2 x0 x1 x2 x3 x4)), .val (.int (q0_3 x0 x1 x2 x3 x4)), .val (.ref a138), .unset, .unset, .unset, .unset, .unset]) (rest := [])
        have A143 : AI Z h143 a138 .int 3 (w0_41 x0 x1 x2 x3 x4) := Q143
        refine c143 ?_
        refine o_aload B143 195 197 (v := (.ref a138)) at_195 rfl rfl rfl ?_
        refine o_iconst B143 197 198 (0 : Int32) at_197 rfl (by decide) ?_
        refine o_iaload B143 198 199 A143 0 (q0_24 x0 x1 x2 x3 x4) at_198 rfl (by decide) (by decide) (by decide) rfl ?_
        refine o_iload B143 199 201 (v := (q0_2 x0 x1 x2 x3 x4)) at_199 rfl rfl ?_
        refine o_imul B143 201 202 at_201 rfl ?_
        refine o_aload B143 202 204 (v := (.ref a138)) at_202 rfl rfl rfl ?_
        refine o_iconst B143 204 205 (1 : Int32) at_204 rfl (by decide) ?_
        refine o_iaload B143 205 206 A143 1 (q0_33 x0 x1 x2 x3 x4) at_205 rfl (by decide) (by decide) (by decide) rfl ?_
        refine o_iadd B143 206 207 at_206 rfl ?_
        refine o_iload B143 207 209 (v := (q0_3 x0 x1 x2 x3 x4)) at_207 rfl rfl ?_
        refine o_imul B143 209 210 at_209 rfl ?_
        refine o_aload B143 210 212 (v := (.ref a138)) at_210 rfl rfl rfl ?_
        refine o_iconst B143 212 213 (2 : Int32) at_212 rfl (by decide) ?_
        refine o_iaload B143 213 214 A143 2 (q0_40 x0 x1 x2 x3 x4) at_213 rfl (by decide) (by decide) (by decide) rfl ?_
        refine o_iadd B143 214 215 at_214 rfl ?_
        refine o_istore B143 215 217 (l' := #[.val (.int x0), .val (.int x1), .val (.int x2), .val (.int x3), .val (.int x4), .val (.int (3 : Int32)), .val (.int (0 : Int32)), .val (.int (1 : Int32)), .val (.int (2 : Int32)), .val (.int (q0_1 x0 x1 x2 x3 x4)), .val (.int (q0_2 x0 x1 x2 x3 x4)), .val (.int (q0_3 x0 x1 x2 x3 x4)), .val (.int (q0_4 x0 x1 x2 x3 x4)), .val (.ref a124), .val (.ref a129), .val (.int (q0_1 x0 x1 x2 x3 x4)), .val (.int (q0_2 x0 x1 x2 x3 x4)), .val (.int (q0_3 x0 x1 x2 x3 x4)), .val (.ref a138), .val (.int (q0_42 x0 x1 x2 x3 x4)), .unset, .unset, .unset, .unset]) at_215 rfl rfl ?_
        refine o_iload B143 217 219 (v := (q0_1 x0 x1 x2 x3 x4)) at_217 rfl rfl ?_
        refine o_iload B143 219 221 (v := (q0_2 x0 x1 x2 x3 x4)) at_219 rfl rfl ?_
        refine o_imul B143 221 222 at_221 rfl ?_
        refine o_iload B143 222 224 (v := (q0_3 x0 x1 x2 x3 x4)) at_222 rfl rfl ?_
        refine o_imul B143 224 225 at_224 rfl ?_
        refine o_istore B143 225 227 (l' := #[.val (.int x0), .val (.int x1), .val (.int x2), .val (.int x3), .val (.int x4), .val (.int (3 : Int32)), .val (.int (0 : Int32)), .val (.int (1 : Int32)), .val (.int (2 : Int32)), .val (.int (q0_1 x0 x1 x2 x3 x4)), .val (.int (q0_2 x0 x1 x2 x3 x4)), .val (.int (q0_3 x0 x1 x2 x3 x4)), .val (.int (q0_4 x0 x1 x2 x3 x4)), .val (.ref a124), .val (.ref a129), .val (.int (q0_1 x0 x1 x2 x3 x4)), .val (.int (q0_2 x0 x1 x2 x3 x4)), .val (.int (q0_3 x0 x1 x2 x3 x4)), .val (.ref a138), .val (.int (q0_42 x0 x1 x2 x3 x4)), .val (.int (q0_43 x0 x1 x2 x3 x4)), .unset, .unset, .unset]) at_225 rfl rfl ?_
        refine o_aload B143 227 229 (v := (.ref a129)) at_227 rfl rfl rfl ?_
        refine o_aload B143 229 231 (v := (.ref a138)) at_229 rfl rfl rfl ?_
        refine o_aload B143 231 233 (v := (.ref a124)) at_231 rfl rfl rfl ?_
        have F147 := ((((A133.ext E138).other W141 ne140).other W142 ne140).other W143 ne140)
        have F148 := ((((F135.ext E138).other W141 ne139).other W142 ne139).other W143 ne139)
        obtain ⟨v149, T149, L149, B149, Q149, c149⟩ := o_callS B143 233 236 at_233 rfl (hw _ (List.mem_of_getElem? (i := 2) rfl)) (hw _ (List.mem_of_getElem? (i := 3) rfl)) (hw _ (List.mem_of_getElem? (i := 4) rfl)) (hw _ (List.mem_of_getElem? (i := 5) rfl)) (by decide) (rm1 l Z a0 hw (w0_39 x0 x1 x2 x3 x4) (w0_41 x0 x1 x2 x3 x4) (w0_8 x0 x1 x2 x3 x4) a129 a138 a124 h143 n0 (W143.size ▸ (W142.size ▸ (W141.size ▸ s138))) F147 A143 F148 g138 ne140 ne139 (own_3 (show 0 ≤ (0 : Int32).toInt ∧ (0 : Int32).toInt < 4 by decide) (show 0 ≤ (1 : Int32).toInt ∧ (1 : Int32).toInt < 4 by decide) (show 0 ≤ (2 : Int32).toInt ∧ (2 : Int32).toInt < 4 by decide))) 0 [(.ref a129), (.ref a138), (.ref a124)] [] pd___I_I_I_Z rfl rfl (st := [(.ref a124), (.ref a138), (.ref a129)]) rfl (Ls := #[.val (.int x0), .val (.int x1), .val (.int x2), .val (.int x3), .val (.int x4), .val (.int (3 : Int32)), .val (.int (0 : Int32)), .val (.int (1 : Int32)), .val (.int (2 : Int32)), .val (.int (q0_1 x0 x1 x2 x3 x4)), .val (.int (q0_2 x0 x1 x2 x3 x4)), .val (.int (q0_3 x0 x1 x2 x3 x4)), .val (.int (q0_4 x0 x1 x2 x3 x4)), .val (.ref a124), .val (.ref a129), .val (.int (q0_1 x0 x1 x2 x3 x4)), .val (.int (q0_2 x0 x1 x2 x3 x4)), .val (.int (q0_3 x0 x1 x2 x3 x4)), .val (.ref a138), .val (.int (q0_42 x0 x1 x2 x3 x4)), .val (.int (q0_43 x0 x1 x2 x3 x4)), .unset, .unset, .unset]) rfl (Nat.le_of_eq rfl) (by decide) (by decide) (by decide) (by decide)
        obtain ⟨rfl, M149, K149, O149_0⟩ := Q149
        have N149 := Fr.app N143 M149
        have s149 : n0 ≤ T149.heap.size := Nat.le_trans (W143.size ▸ (W142.size ▸ (W141.size ▸ s138))) K149.1
        refine c149 ?_
        show OG p.tables e below _ (T149.setTop (mkF m 236 #[.val (.int x0), .val (.int x1), .val (.int x2), .val (.int x3), .val (.int x4), .val (.int (3 : Int32)), .val (.int (0 : Int32)), .val (.int (1 : Int32)), .val (.int (2 : Int32)), .val (.int (q0_1 x0 x1 x2 x3 x4)), .val (.int (q0_2 x0 x1 x2 x3 x4)), .val (.int (q0_3 x0 x1 x2 x3 x4)), .val (.int (q0_4 x0 x1 x2 x3 x4)), .val (.ref a124), .val (.ref a129), .val (.int (q0_1 x0 x1 x2 x3 x4)), .val (.int (q0_2 x0 x1 x2 x3 x4)), .val (.int (q0_3 x0 x1 x2 x3 x4)), .val (.ref a138), .val (.int (q0_42 x0 x1 x2 x3 x4)), .val (.int (q0_43 x0 x1 x2 x3 x4)), .unset, .unset, .unset] [(.int (q0_44 x0 x1 x2 x3 x4))]))
        refine o_istore B149 236 238 (l' := #[.val (.int x0), .val (.int x1), .val (.int x2), .val (.int x3), .val (.int x4), .val (.int (3 : Int32)), .val (.int (0 : Int32)), .val (.int (1 : Int32)), .val (.int (2 : Int32)), .val (.int (q0_1 x0 x1 x2 x3 x4)), .val (.int (q0_2 x0 x1 x2 x3 x4)), .val (.int (q0_3 x0 x1 x2 x3 x4)), .val (.int (q0_4 x0 x1 x2 x3 x4)), .val (.ref a124), .val (.ref a129), .val (.int (q0_1 x0 x1 x2 x3 x4)), .val (.int (q0_2 x0 x1 x2 x3 x4)), .val (.int (q0_3 x0 x1 x2 x3 x4)), .val (.ref a138), .val (.int (q0_42 x0 x1 x2 x3 x4)), .val (.int (q0_43 x0 x1 x2 x3 x4)), .val (.int (q0_44 x0 x1 x2 x3 x4)), .unset, .unset]) at_236 rfl rfl ?_
        refine o_aload B149 238 240 (v := (.ref a129)) at_238 rfl rfl rfl ?_
        refine o_iconst B149 240 241 (0 : Int32) at_240 rfl (by decide) ?_
        have F151 := (F147.keep K149 (ninS ne140 nin0))
        refine o_iaload B149 241 242 F151 0 (0 : Int32) at_241 rfl (by decide) (by decide) (by decide) rfl ?_
        refine o_iload B149 242 244 (v := (0 : Int32)) at_242 rfl rfl ?_
        refine o_icN B149 244 247 at_244 rfl (XT.ii_ne_f (by decide)) ?_
        refine o_aload B149 247 249 (v := (.ref a129)) at_247 rfl rfl rfl ?_
        refine o_iconst B149 249 250 (1 : Int32) at_249 rfl (by decide) ?_
        refine o_iaload B149 250 251 F151 1 (1 : Int32) at_250 rfl (by decide) (by decide) (by decide) rfl ?_
        refine o_iload B149 251 253 (v := (1 : Int32)) at_251 rfl rfl ?_
        refine o_icN B149 253 256 at_253 rfl (XT.ii_ne_f (by decide)) ?_
        refine o_aload B149 256 258 (v := (.ref a129)) at_256 rfl rfl rfl ?_
        refine o_iconst B149 258 259 (2 : Int32) at_258 rfl (by decide) ?_
        refine o_iaload B149 259 260 F151 2 (2 : Int32) at_259 rfl (by decide) (by decide) (by decide) rfl ?_
        refine o_iload B149 260 262 (v := (2 : Int32)) at_260 rfl rfl ?_
        refine o_icN B149 262 265 at_262 rfl (XT.ii_ne_f (by decide)) ?_
        refine o_aload B149 265 267 (v := (.ref a124)) at_265 rfl rfl rfl ?_
        refine o_iconst B149 267 268 (0 : Int32) at_267 rfl (by decide) ?_
        have F155 := (F148.keep K149 (ninS ne139 nin0))
        refine o_iaload B149 268 269 F155 0 (q0_1 x0 x1 x2 x3 x4) at_268 rfl (by decide) (by decide) (by decide) rfl ?_
        refine o_iload B149 269 271 (v := (q0_1 x0 x1 x2 x3 x4)) at_269 rfl rfl ?_
        refine o_icN B149 271 274 at_271 rfl (XT.ii_ne_f rfl) ?_
        refine o_aload B149 274 276 (v := (.ref a124)) at_274 rfl rfl rfl ?_
        refine o_iconst B149 276 277 (1 : Int32) at_276 rfl (by decide) ?_
        refine o_iaload B149 277 278 F155 1 (q0_2 x0 x1 x2 x3 x4) at_277 rfl (by decide) (by decide) (by decide) rfl ?_
        refine o_iload B149 278 280 (v := (q0_2 x0 x1 x2 x3 x4)) at_278 rfl rfl ?_
        refine o_icN B149 280 283 at_280 rfl (XT.ii_ne_f rfl) ?_
        refine o_aload B149 283 285 (v := (.ref a124)) at_283 rfl rfl rfl ?_
        refine o_iconst B149 285 286 (2 : Int32) at_285 rfl (by decide) ?_
        refine o_iaload B149 286 287 F155 2 (q0_3 x0 x1 x2 x3 x4) at_286 rfl (by decide) (by decide) (by decide) rfl ?_
        refine o_iload B149 287 289 (v := (q0_3 x0 x1 x2 x3 x4)) at_287 rfl rfl ?_
        refine o_icN B149 289 292 at_289 rfl (XT.ii_ne_f rfl) ?_
        refine o_aload B149 292 294 (v := (.ref a124)) at_292 rfl rfl rfl ?_
        refine o_iconst B149 294 295 (3 : Int32) at_294 rfl (by decide) ?_
        refine o_iaload B149 295 296 F155 3 (q0_4 x0 x1 x2 x3 x4) at_295 rfl (by decide) (by decide) (by decide) rfl ?_
        refine o_iload B149 296 298 (v := (q0_4 x0 x1 x2 x3 x4)) at_296 rfl rfl ?_
        refine o_icN B149 298 301 at_298 rfl (XT.ii_ne_f rfl) ?_
        refine o_iconst B149 301 302 (1 : Int32) at_301 rfl (by decide) ?_
        refine o_goto B149 302 306 at_302 (by decide) (by decide) ?_
        refine o_istore B149 306 308 (l' := #[.val (.int x0), .val (.int x1), .val (.int x2), .val (.int x3), .val (.int x4), .val (.int (3 : Int32)), .val (.int (0 : Int32)), .val (.int (1 : Int32)), .val (.int (2 : Int32)), .val (.int (q0_1 x0 x1 x2 x3 x4)), .val (.int (q0_2 x0 x1 x2 x3 x4)), .val (.int (q0_3 x0 x1 x2 x3 x4)), .val (.int (q0_4 x0 x1 x2 x3 x4)), .val (.ref a124), .val (.ref a129), .val (.int (q0_1 x0 x1 x2 x3 x4)), .val (.int (q0_2 x0 x1 x2 x3 x4)), .val (.int (q0_3 x0 x1 x2 x3 x4)), .val (.ref a138), .val (.int (q0_42 x0 x1 x2 x3 x4)), .val (.int (q0_43 x0 x1 x2 x3 x4)), .val (.int (q0_44 x0 x1 x2 x3 x4)), .val (.int (1 : Int32)), .unset]) at_306 rfl rfl ?_
        refine o_iload B149 308 310 (v := (q0_42 x0 x1 x2 x3 x4)) at_308 rfl rfl ?_
        refine o_iload B149 310 312 (v := (q0_43 x0 x1 x2 x3 x4)) at_310 rfl rfl ?_
        refine o_iconst B149 312 313 (1 : Int32) at_312 rfl (by decide) ?_
        refine o_isub B149 313 314 at_313 rfl ?_
        by_cases k32 : (q0_42 x0 x1 x2 x3 x4) = ((q0_43 x0 x1 x2 x3 x4) - (1 : Int32))
        · refine o_icN B149 314 317 at_314 rfl (XT.ii_ne_f k32) ?_
          refine o_iload B149 317 319 (v := (q0_44 x0 x1 x2 x3 x4)) at_317 rfl rfl ?_
          by_cases k33 : (q0_44 x0 x1 x2 x3 x4) = 0
          · refine o_ifN B149 319 322 at_319 rfl (XT.i0_ne_f k33) ?_
            refine o_aload B149 322 324 (v := (.ref a138)) at_322 rfl rfl rfl ?_
            refine o_iconst B149 324 325 (0 : Int32) at_324 rfl (by decide) ?_
            refine o_iaload B149 325 326 O149_0 0 ((o1_0 (w0_39 x0 x1 x2 x3 x4) (w0_41 x0 x1 x2 x3 x4) (w0_8 x0 x1 x2 x3 x4)) 0) at_325 rfl (by decide) (by decide) (by decide) rfl ?_
            by_cases k34 : ((o1_0 (w0_39 x0 x1 x2 x3 x4) (w0_41 x0 x1 x2 x3 x4) (w0_8 x0 x1 x2 x3 x4)) 0) = 0
            · refine o_ifN B149 326 329 at_326 rfl (XT.i0_ne_f k34) ?_
              refine o_aload B149 329 331 (v := (.ref a138)) at_329 rfl rfl rfl ?_
              refine o_iconst B149 331 332 (1 : Int32) at_331 rfl (by decide) ?_
              refine o_iaload B149 332 333 O149_0 1 ((o1_0 (w0_39 x0 x1 x2 x3 x4) (w0_41 x0 x1 x2 x3 x4) (w0_8 x0 x1 x2 x3 x4)) 1) at_332 rfl (by decide) (by decide) (by decide) rfl ?_
              by_cases k35 : ((o1_0 (w0_39 x0 x1 x2 x3 x4) (w0_41 x0 x1 x2 x3 x4) (w0_8 x0 x1 x2 x3 x4)) 1) = 0
              · refine o_ifN B149 333 336 at_333 rfl (XT.i0_ne_f k35) ?_
                refine o_aload B149 336 338 (v := (.ref a138)) at_336 rfl rfl rfl ?_
                refine o_iconst B149 338 339 (2 : Int32) at_338 rfl (by decide) ?_
                refine o_iaload B149 339 340 O149_0 2 ((o1_0 (w0_39 x0 x1 x2 x3 x4) (w0_41 x0 x1 x2 x3 x4) (w0_8 x0 x1 x2 x3 x4)) 2) at_339 rfl (by decide) (by decide) (by decide) rfl ?_
                by_cases k36 : ((o1_0 (w0_39 x0 x1 x2 x3 x4) (w0_41 x0 x1 x2 x3 x4) (w0_8 x0 x1 x2 x3 x4)) 2) = 0
                · refine o_ifN B149 340 343 at_340 rfl (XT.i0_ne_f k36) ?_
                  refine o_iload B149 343 345 (v := (1 : Int32)) at_343 rfl rfl ?_
                  refine o_ifN B149 345 348 at_345 rfl (XT.i0_eq_f (by decide)) ?_
                  refine o_iconst B149 348 349 (1 : Int32) at_348 rfl (by decide) ?_
                  refine o_goto B149 349 353 at_349 (by decide) (by decide) ?_
                  refine o_retZ (t := .boolean) B149 353 at_353 hret hlk (by simp) (by decide) (by decide) ⟨(congrArg (fun z => some (Value.int z)) ((show nar .boolean (1 : Int32) = (1 : Int32) from rfl).trans (show f0 x0 x1 x2 x3 x4 = (1 : Int32) from (if_neg k1).trans ((if_neg k11).trans ((if_neg k21).trans ((if_pos k32).trans ((if_pos k33).trans ((if_pos k34).trans ((if_pos k35).trans ((if_pos k36).trans (rfl))))))))).symm)), N149⟩
                · refine o_ifY B149 340 352 at_340 (XT.i0_ne_t k36) (by decide) (by decide) ?_
                  refine o_iconst B149 352 353 (0 : Int32) at_352 rfl (by decide) ?_
                  refine o_retZ (t := .boolean) B149 353 at_353 hret hlk (by simp) (by decide) (by decide) ⟨(congrArg (fun z => some (Value.int z)) ((show nar .boolean (0 : Int32) = (0 : Int32) from rfl).trans (show f0 x0 x1 x2 x3 x4 = (0 : Int32) from (if_neg k1).trans ((if_neg k11).trans ((if_neg k21).trans ((if_pos k32).trans ((if_pos k33).trans ((if_pos k34).trans ((if_pos k35).trans ((if_neg k36).trans (rfl))))))))).symm)), N149⟩
              · refine o_ifY B149 333 352 at_333 (XT.i0_ne_t k35) (by decide) (by decide) ?_
                refine o_iconst B149 352 353 (0 : Int32) at_352 rfl (by decide) ?_
                refine o_retZ (t := .boolean) B149 353 at_353 hret hlk (by simp) (by decide) (by decide) ⟨(congrArg (fun z => some (Value.int z)) ((show nar .boolean (0 : Int32) = (0 : Int32) from rfl).trans (show f0 x0 x1 x2 x3 x4 = (0 : Int32) from (if_neg k1).trans ((if_neg k11).trans ((if_neg k21).trans ((if_pos k32).trans ((if_pos k33).trans ((if_pos k34).trans ((if_neg k35).trans (rfl)))))))).symm)), N149⟩
            · refine o_ifY B149 326 352 at_326 (XT.i0_ne_t k34) (by decide) (by decide) ?_
              refine o_iconst B149 352 353 (0 : Int32) at_352 rfl (by decide) ?_
              refine o_retZ (t := .boolean) B149 353 at_353 hret hlk (by simp) (by decide) (by decide) ⟨(congrArg (fun z => some (Value.int z)) ((show nar .boolean (0 : Int32) = (0 : Int32) from rfl).trans (show f0 x0 x1 x2 x3 x4 = (0 : Int32) from (if_neg k1).trans ((if_neg k11).trans ((if_neg k21).trans ((if_pos k32).trans ((if_pos k33).trans ((if_neg k34).trans (rfl))))))).symm)), N149⟩
          · refine o_ifY B149 319 352 at_319 (XT.i0_ne_t k33) (by decide) (by decide) ?_
            refine o_iconst B149 352 353 (0 : Int32) at_352 rfl (by decide) ?_
            refine o_retZ (t := .boolean) B149 353 at_353 hret hlk (by simp) (by decide) (by decide) ⟨(congrArg (fun z => some (Value.int z)) ((show nar .boolean (0 : Int32) = (0 : Int32) from rfl).trans (show f0 x0 x1 x2 x3 x4 = (0 : Int32) from (if_neg k1).trans ((if_neg k11).trans ((if_neg k21).trans ((if_pos k32).trans ((if_neg k33).trans (rfl)))))).symm)), N149⟩
        · refine o_icY B149 314 354 at_314 (XT.ii_ne_t k32) (by decide) (by decide) ?_
          refine o_iload B149 354 356 (v := (q0_42 x0 x1 x2 x3 x4)) at_354 rfl rfl ?_
          refine o_iconst B149 356 357 (1 : Int32) at_356 rfl (by decide) ?_
          refine o_iadd B149 357 358 at_357 rfl ?_
          refine o_istore B149 358 360 (l' := #[.val (.int x0), .val (.int x1), .val (.int x2), .val (.int x3), .val (.int x4), .val (.int (3 : Int32)), .val (.int (0 : Int32)), .val (.int (1 : Int32)), .val (.int (2 : Int32)), .val (.int (q0_1 x0 x1 x2 x3 x4)), .val (.int (q0_2 x0 x1 x2 x3 x4)), .val (.int (q0_3 x0 x1 x2 x3 x4)), .val (.int (q0_4 x0 x1 x2 x3 x4)), .val (.ref a124), .val (.ref a129), .val (.int (q0_1 x0 x1 x2 x3 x4)), .val (.int (q0_2 x0 x1 x2 x3 x4)), .val (.int (q0_3 x0 x1 x2 x3 x4)), .val (.ref a138), .val (.int (q0_42 x0 x1 x2 x3 x4)), .val (.int (q0_43 x0 x1 x2 x3 x4)), .val (.int (q0_44 x0 x1 x2 x3 x4)), .val (.int (1 : Int32)), .val (.int ((q0_42 x0 x1 x2 x3 x4) + (1 : Int32)))]) at_358 rfl rfl ?_
          refine o_iload B149 360 362 (v := (q0_44 x0 x1 x2 x3 x4)) at_360 rfl rfl ?_
          by_cases k37 : (q0_44 x0 x1 x2 x3 x4) = 0
          · refine o_ifY B149 362 416 at_362 (XT.i0_eq_t k37) (by decide) (by decide) ?_
            refine o_iconst B149 416 417 (0 : Int32) at_416 rfl (by decide) ?_
            refine o_retZ (t := .boolean) B149 417 at_417 hret hlk (by simp) (by decide) (by decide) ⟨(congrArg (fun z => some (Value.int z)) ((show nar .boolean (0 : Int32) = (0 : Int32) from rfl).trans (show f0 x0 x1 x2 x3 x4 = (0 : Int32) from (if_neg k1).trans ((if_neg k11).trans ((if_neg k21).trans ((if_neg k32).trans ((if_pos k37).trans (rfl)))))).symm)), N149⟩
          · refine o_ifN B149 362 365 at_362 rfl (XT.i0_eq_f k37) ?_
            refine o_aload B149 365 367 (v := (.ref a138)) at_365 rfl rfl rfl ?_
            refine o_iconst B149 367 368 (2 : Int32) at_367 rfl (by decide) ?_
            refine o_iaload B149 368 369 O149_0 2 ((o1_0 (w0_39 x0 x1 x2 x3 x4) (w0_41 x0 x1 x2 x3 x4) (w0_8 x0 x1 x2 x3 x4)) 2) at_368 rfl (by decide) (by decide) (by decide) rfl ?_
            refine o_iload B149 369 371 (v := ((q0_42 x0 x1 x2 x3 x4) + (1 : Int32))) at_369 rfl rfl ?_
            refine o_iload B149 371 373 (v := (q0_3 x0 x1 x2 x3 x4)) at_371 rfl rfl ?_
            refine o_irem B149 373 374 at_373 rfl (own_nz (own_w3 x0 x1 x2 x3 x4)) ?_
            by_cases k38 : ((o1_0 (w0_39 x0 x1 x2 x3 x4) (w0_41 x0 x1 x2 x3 x4) (w0_8 x0 x1 x2 x3 x4)) 2) = (((q0_42 x0 x1 x2 x3 x4) + (1 : Int32)) % (q0_3 x0 x1 x2 x3 x4))
            · refine o_icN B149 374 377 at_374 rfl (XT.ii_ne_f k38) ?_
              refine o_aload B149 377 379 (v := (.ref a138)) at_377 rfl rfl rfl ?_
              refine o_iconst B149 379 380 (1 : Int32) at_379 rfl (by decide) ?_
              refine o_iaload B149 380 381 O149_0 1 ((o1_0 (w0_39 x0 x1 x2 x3 x4) (w0_41 x0 x1 x2 x3 x4) (w0_8 x0 x1 x2 x3 x4)) 1) at_380 rfl (by decide) (by decide) (by decide) rfl ?_
              refine o_iload B149 381 383 (v := ((q0_42 x0 x1 x2 x3 x4) + (1 : Int32))) at_381 rfl rfl ?_
              refine o_iload B149 383 385 (v := (q0_3 x0 x1 x2 x3 x4)) at_383 rfl rfl ?_
              refine o_idiv B149 385 386 at_385 rfl (own_nz (own_w3 x0 x1 x2 x3 x4)) ?_
              refine o_iload B149 386 388 (v := (q0_2 x0 x1 x2 x3 x4)) at_386 rfl rfl ?_
              refine o_irem B149 388 389 at_388 rfl (own_nz (own_w2 x0 x1 x2 x3 x4)) ?_
              by_cases k39 : ((o1_0 (w0_39 x0 x1 x2 x3 x4) (w0_41 x0 x1 x2 x3 x4) (w0_8 x0 x1 x2 x3 x4)) 1) = ((((q0_42 x0 x1 x2 x3 x4) + (1 : Int32)) / (q0_3 x0 x1 x2 x3 x4)) % (q0_2 x0 x1 x2 x3 x4))
              · refine o_icN B149 389 392 at_389 rfl (XT.ii_ne_f k39) ?_
                refine o_aload B149 392 394 (v := (.ref a138)) at_392 rfl rfl rfl ?_
                refine o_iconst B149 394 395 (0 : Int32) at_394 rfl (by decide) ?_
                refine o_iaload B149 395 396 O149_0 0 ((o1_0 (w0_39 x0 x1 x2 x3 x4) (w0_41 x0 x1 x2 x3 x4) (w0_8 x0 x1 x2 x3 x4)) 0) at_395 rfl (by decide) (by decide) (by decide) rfl ?_
                refine o_iload B149 396 398 (v := ((q0_42 x0 x1 x2 x3 x4) + (1 : Int32))) at_396 rfl rfl ?_
                refine o_iload B149 398 400 (v := (q0_2 x0 x1 x2 x3 x4)) at_398 rfl rfl ?_
                refine o_iload B149 400 402 (v := (q0_3 x0 x1 x2 x3 x4)) at_400 rfl rfl ?_
                refine o_imul B149 402 403 at_402 rfl ?_
                refine o_idiv B149 403 404 at_403 rfl (own_nz2 (own_w2 x0 x1 x2 x3 x4) (own_w3 x0 x1 x2 x3 x4)) ?_
                by_cases k40 : ((o1_0 (w0_39 x0 x1 x2 x3 x4) (w0_41 x0 x1 x2 x3 x4) (w0_8 x0 x1 x2 x3 x4)) 0) = (((q0_42 x0 x1 x2 x3 x4) + (1 : Int32)) / ((q0_2 x0 x1 x2 x3 x4) * (q0_3 x0 x1 x2 x3 x4)))
                · refine o_icN B149 404 407 at_404 rfl (XT.ii_ne_f k40) ?_
                  refine o_iload B149 407 409 (v := (1 : Int32)) at_407 rfl rfl ?_
                  refine o_ifN B149 409 412 at_409 rfl (XT.i0_eq_f (by decide)) ?_
                  refine o_iconst B149 412 413 (1 : Int32) at_412 rfl (by decide) ?_
                  refine o_goto B149 413 417 at_413 (by decide) (by decide) ?_
                  refine o_retZ (t := .boolean) B149 417 at_417 hret hlk (by simp) (by decide) (by decide) ⟨(congrArg (fun z => some (Value.int z)) ((show nar .boolean (1 : Int32) = (1 : Int32) from rfl).trans (show f0 x0 x1 x2 x3 x4 = (1 : Int32) from (if_neg k1).trans ((if_neg k11).trans ((if_neg k21).trans ((if_neg k32).trans ((if_neg k37).trans ((if_pos k38).trans ((if_pos k39).trans ((if_pos k40).trans (rfl))))))))).symm)), N149⟩
                · refine o_icY B149 404 416 at_404 (XT.ii_ne_t k40) (by decide) (by decide) ?_
                  refine o_iconst B149 416 417 (0 : Int32) at_416 rfl (by decide) ?_
                  refine o_retZ (t := .boolean) B149 417 at_417 hret hlk (by simp) (by decide) (by decide) ⟨(congrArg (fun z => some (Value.int z)) ((show nar .boolean (0 : Int32) = (0 : Int32) from rfl).trans (show f0 x0 x1 x2 x3 x4 = (0 : Int32) from (if_neg k1).trans ((if_neg k11).trans ((if_neg k21).trans ((if_neg k32).trans ((if_neg k37).trans ((if_pos k38).trans ((if_pos k39).trans ((if_neg k40).trans (rfl))))))))).symm)), N149⟩
              · refine o_icY B149 389 416 at_389 (XT.ii_ne_t k39) (by decide) (by decide) ?_
                refine o_iconst B149 416 417 (0 : Int32) at_416 rfl (by decide) ?_
                refine o_retZ (t := .boolean) B149 417 at_417 hret hlk (by simp) (by decide) (by decide) ⟨(congrArg (fun z => some (Value.int z)) ((show nar .boolean (0 : Int32) = (0 : Int32) from rfl).trans (show f0 x0 x1 x2 x3 x4 = (0 : Int32) from (if_neg k1).trans ((if_neg k11).trans ((if_neg k21).trans ((if_neg k32).trans ((if_neg k37).trans ((if_pos k38).trans ((if_neg k39).trans (rfl)))))))).symm)), N149⟩
            · refine o_icY B149 374 416 at_374 (XT.ii_ne_t k38) (by decide) (by decide) ?_
              refine o_iconst B149 416 417 (0 : Int32) at_416 rfl (by decide) ?_
              refine o_retZ (t := .boolean) B149 417 at_417 hret hlk (by simp) (by decide) (by decide) ⟨(congrArg (fun z => some (Value.int z)) ((show nar .boolean (0 : Int32) = (0 : Int32) from rfl).trans (show f0 x0 x1 x2 x3 x4 = (0 : Int32) from (if_neg k1).trans ((if_neg k11).trans ((if_neg k21).trans ((if_neg k32).trans ((if_neg k37).trans ((if_neg k38).trans (rfl))))))).symm)), N149⟩
theorem own_dm (a c b : Int) (hb : 0 ≤ b) (hbc : b < c) : (a * c + b) / c = a ∧ (a * c + b) % c = b := by
  constructor
  · rw [Int.add_comm, Int.add_mul_ediv_right _ _ (by omega), Int.ediv_eq_zero_of_lt hb hbc, Int.zero_add]
  · rw [Int.add_comm, Int.add_mul_emod_self_right, Int.emod_eq_of_lt hb hbc]
theorem own_pb {a b m n : Int} (ha : 0 ≤ a) (ha' : a ≤ m) (hb : 0 ≤ b) (hb' : b ≤ n) : 0 ≤ a * b ∧ a * b ≤ m * n :=
  ⟨Int.mul_nonneg ha hb, Int.mul_le_mul ha' hb' hb (by omega)⟩
def Bd (v c : Int32) : Prop := W18 c ∧ 0 ≤ v.toInt ∧ v.toInt < c.toInt
theorem own_bd (y c : Int32) (h : W18 c) : Bd ((y &&& 2147483647) % c) c := by
  have m := c_mask y 2147483647 31 (by decide) (by decide)
  have r := c_iremV (y &&& 2147483647) c
  unfold Bd
  refine ⟨h, ?_⟩
  unfold W18 at h
  omega
theorem own_n {c0 c1 c2 v0 v1 v2 : Int32} (h0 : Bd v0 c0) (h1 : Bd v1 c1) (h2 : Bd v2 c2) :
    ((((v0 * c1) + v1) * c2) + v2).toInt = v0.toInt * (c1.toInt * c2.toInt) + v1.toInt * c2.toInt + v2.toInt ∧ (((c0 * c1) * c2) - 1).toInt = c0.toInt * (c1.toInt * c2.toInt) - 1 ∧ (c1 * c2).toInt = c1.toInt * c2.toInt ∧
    0 ≤ v0.toInt * (c1.toInt * c2.toInt) ∧ v0.toInt * (c1.toInt * c2.toInt) ≤ 512 ∧ 0 ≤ v1.toInt * c2.toInt ∧ v1.toInt * c2.toInt ≤ 64 := by
  unfold Bd W18 at h0 h1 h2
  have p1 := own_pb (a := v0.toInt) (b := c1.toInt) (m := 8) (n := 8) (by omega) (by omega) (by omega) (by omega)
  have p2 := own_pb (a := v1.toInt) (b := c2.toInt) (m := 8) (n := 8) (by omega) (by omega) (by omega) (by omega)
  have p3 := own_pb (a := c1.toInt) (b := c2.toInt) (m := 8) (n := 8) (by omega) (by omega) (by omega) (by omega)
  have p4 := own_pb (a := v0.toInt) (b := c1.toInt * c2.toInt) (m := 8) (n := 64) (by omega) (by omega) (by omega) (by omega)
  have p5 := own_pb (a := c0.toInt) (b := c1.toInt) (m := 8) (n := 8) (by omega) (by omega) (by omega) (by omega)
  have p6 := own_pb (a := c0.toInt) (b := c1.toInt * c2.toInt) (m := 8) (n := 64) (by omega) (by omega) (by omega) (by omega)
  have e1 : (v0 * c1).toInt = v0.toInt * c1.toInt := by have := c_imul v0 c1; have := rng32 (v0 * c1); omega
  have e2 : (v0 * c1 + v1).toInt = v0.toInt * c1.toInt + v1.toInt := by have := c_iadd (v0 * c1) v1; have := rng32 (v0 * c1 + v1); omega
  have e3 : ((v0 * c1 + v1) * c2).toInt = v0.toInt * (c1.toInt * c2.toInt) + v1.toInt * c2.toInt := by
    have a := c_imul (v0 * c1 + v1) c2
    have b := rng32 ((v0 * c1 + v1) * c2)
    rw [e2, Int.add_mul, Int.mul_assoc] at a
    omega
  have e4 : (c0 * c1).toInt = c0.toInt * c1.toInt := by have := c_imul c0 c1; have := rng32 (c0 * c1); omega
  have e5 : (c0 * c1 * c2).toInt = c0.toInt * (c1.toInt * c2.toInt) := by
    have a := c_imul (c0 * c1) c2
    have b := rng32 (c0 * c1 * c2)
    rw [e4, Int.mul_assoc] at a
    omega
  refine ⟨?_, ?_, ?_, by omega, by omega, by omega, by omega⟩
  · have a := c_iadd ((v0 * c1 + v1) * c2) v2
    have b := rng32 ((v0 * c1 + v1) * c2 + v2)
    omega
  · have a := c_isub (c0 * c1 * c2) 1
    have b := rng32 (c0 * c1 * c2 - 1)
    rw [show (1 : Int32).toInt = 1 by decide] at a
    omega
  · have a := c_imul c1 c2
    have b := rng32 (c1 * c2)
    omega
theorem own_m1 {v c : Int32} (h : Bd v c) : (v = c - 1) ↔ v.toInt = c.toInt - 1 := by
  unfold Bd W18 at h
  have a := c_isub c 1
  have b := rng32 (c - 1)
  rw [show (1 : Int32).toInt = 1 by decide] at a
  rw [← Int32.toInt_inj]
  omega
theorem own_p1 {v c : Int32} (h : Bd v c) : (v + 1).toInt = v.toInt + 1 := by
  unfold Bd W18 at h
  have a := c_iadd v 1
  have b := rng32 (v + 1)
  rw [show (1 : Int32).toInt = 1 by decide] at a
  omega
theorem own_core (gs gv gc : Nat → Int32) (c0 c1 c2 v0 v1 v2 : Int32) (h0 : Bd v0 c0) (h1 : Bd v1 c1) (h2 : Bd v2 c2) (g0 : gv 0 = v0) (g1 : gv 1 = v1) (g2 : gv 2 = v2) (k0 : gc (gs 0).toInt.toNat = c0) (k1 : gc (gs 1).toInt.toNat = c1) (k2 : gc (gs 2).toInt.toNat = c2) :
    (if ((((v0 * c1) + v1) * c2) + v2) = (((c0 * c1) * c2) - 1) then (if f1 gs gv gc = 0 then (if o1_0 gs gv gc 0 = 0 then (if o1_0 gs gv gc 1 = 0 then (if o1_0 gs gv gc 2 = 0 then (1 : Int32) else 0) else 0) else 0) else 0)
     else (if f1 gs gv gc = 0 then 0 else (if o1_0 gs gv gc 2 = (((((v0 * c1) + v1) * c2) + v2) + 1) % c2 then (if o1_0 gs gv gc 1 = ((((((v0 * c1) + v1) * c2) + v2) + 1) / c2) % c1 then (if o1_0 gs gv gc 0 = (((((v0 * c1) + v1) * c2) + v2) + 1) / (c1 * c2) then 1 else 0) else 0) else 0))) = 1 := by
  obtain ⟨n1, n2, n3, n4, n5, n6, n7⟩ := own_n h0 h1 h2
  have b0 := h0
  have b1 := h1
  have b2 := h2
  unfold Bd W18 at b0 b1 b2
  generalize hN : (((v0 * c1) + v1) * c2) + v2 = N at *
  have nn : (N + 1).toInt = N.toInt + 1 := by
    have a := c_iadd N 1
    have b := rng32 (N + 1)
    rw [show (1 : Int32).toInt = 1 by decide] at a
    omega
  have q := own_pb (a := c1.toInt) (b := c2.toInt) (m := 8) (n := 8) (by omega) (by omega) (by omega) (by omega)
  have q1 : 1 * 1 ≤ c1.toInt * c2.toInt := Int.mul_le_mul (by omega) (by omega) (by omega) (by omega)
  have d1 := (c_idiv (N + 1) c2 c2.toInt rfl (fun q => by rw [q] at b2; exact absurd b2.1.1 (by decide))).1 (by omega)
  have d2 := (c_irem (N + 1) c2 c2.toInt rfl).1 (by omega)
  have d3 := (c_idiv (N + 1) (c1 * c2) (c1 * c2).toInt rfl (fun q => by rw [q, show (-1 : Int32).toInt = -1 from (by decide)] at n3; omega)).1 (by omega)
  have d4 := (c_irem ((N + 1) / c2) c1 c1.toInt rfl).1 (by rw [d1]; exact Int.ediv_nonneg (by omega) (by omega))
  rw [n3] at d3
  rw [d1] at d4
  have hv1 : v1.toInt * c2.toInt ≤ (c1.toInt - 1) * c2.toInt := Int.mul_le_mul_of_nonneg_right (by omega) (by omega)
  rw [Int.sub_mul, Int.one_mul] at hv1
  have hv0 : v0.toInt * (c1.toInt * c2.toInt) ≤ (c0.toInt - 1) * (c1.toInt * c2.toInt) := Int.mul_le_mul_of_nonneg_right (by omega) (by omega)
  rw [Int.sub_mul, Int.one_mul] at hv0
  by_cases a2 : v2 = c2 - 1
  · have a2' := (own_m1 h2).mp a2
    by_cases a1 : v1 = c1 - 1
    · have a1' := (own_m1 h1).mp a1
      have f1' : v1.toInt * c2.toInt = c1.toInt * c2.toInt - c2.toInt := by rw [a1', Int.sub_mul, Int.one_mul]
      by_cases a0 : v0 = c0 - 1
      · have a0' := (own_m1 h0).mp a0
        have f0' : v0.toInt * (c1.toInt * c2.toInt) = c0.toInt * (c1.toInt * c2.toInt) - c1.toInt * c2.toInt := by rw [a0', Int.sub_mul, Int.one_mul]
        have eN : N = ((c0 * c1) * c2) - 1 := Int32.toInt_inj.mp (by omega)
        have ef : f1 gs gv gc = 0 := by
          unfold f1
          rw [if_pos (by rw [g2, k2]; exact a2), if_pos (by rw [k1]; exact (show gv 1 = c1 - 1 by rw [g1]; exact a1)), if_pos (by rw [k0]; exact (show gv 0 = c0 - 1 by rw [g0]; exact a0))]
        have eo : o1_0 gs gv gc = w1_3 gs gv gc := by
          unfold o1_0
          rw [if_pos (by rw [g2, k2]; exact a2), if_pos (by rw [k1]; exact (show gv 1 = c1 - 1 by rw [g1]; exact a1)), if_pos (by rw [k0]; exact (show gv 0 = c0 - 1 by rw [g0]; exact a0))]
        rw [if_pos eN, if_pos ef, eo, if_pos (show w1_3 gs gv gc 0 = 0 from rfl), if_pos (show w1_3 gs gv gc 1 = 0 from rfl), if_pos (show w1_3 gs gv gc 2 = 0 from rfl)]
      · have a0' : ¬ v0.toInt = c0.toInt - 1 := fun z => a0 ((own_m1 h0).mpr z)
        have hv0' : v0.toInt * (c1.toInt * c2.toInt) ≤ (c0.toInt - 2) * (c1.toInt * c2.toInt) := Int.mul_le_mul_of_nonneg_right (by omega) (by omega)
        rw [Int.sub_mul] at hv0'
        have eN : ¬ N = ((c0 * c1) * c2) - 1 := fun z => by rw [← Int32.toInt_inj] at z; omega
        have ef : ¬ f1 gs gv gc = 0 := by
          unfold f1
          rw [if_pos (by rw [g2, k2]; exact a2), if_pos (by rw [k1]; exact (show gv 1 = c1 - 1 by rw [g1]; exact a1)), if_neg (by rw [k0]; exact (show ¬ gv 0 = c0 - 1 by rw [g0]; exact a0))]
          decide
        have eo : o1_0 gs gv gc = w1_4 gs gv gc := by
          unfold o1_0
          rw [if_pos (by rw [g2, k2]; exact a2), if_pos (by rw [k1]; exact (show gv 1 = c1 - 1 by rw [g1]; exact a1)), if_neg (by rw [k0]; exact (show ¬ gv 0 = c0 - 1 by rw [g0]; exact a0))]
        have x1 : N.toInt + 1 = (v0.toInt + 1) * (c1.toInt * c2.toInt) + 0 := by rw [Int.add_mul, Int.one_mul]; omega
        have x2 : N.toInt + 1 = ((v0.toInt + 1) * c1.toInt) * c2.toInt + 0 := by rw [x1, Int.mul_assoc]
        have y1 := own_dm (v0.toInt + 1) (c1.toInt * c2.toInt) 0 (by omega) (by omega)
        have y2 := own_dm ((v0.toInt + 1) * c1.toInt) c2.toInt 0 (by omega) (by omega)
        have y3 := own_dm (v0.toInt + 1) c1.toInt 0 (by omega) (by omega)
        rw [Int.add_zero ((v0.toInt + 1) * c1.toInt)] at y3
        rw [if_neg eN, if_neg ef, eo]
        rw [if_pos (show w1_4 gs gv gc 2 = (N + 1) % c2 from Int32.toInt_inj.mp (by rw [d2, nn, x2, y2.2]; rfl))]
        rw [if_pos (show w1_4 gs gv gc 1 = ((N + 1) / c2) % c1 from Int32.toInt_inj.mp (by rw [d4, nn, x2, y2.1, y3.2]; rfl))]
        rw [if_pos (show w1_4 gs gv gc 0 = (N + 1) / (c1 * c2) from Int32.toInt_inj.mp (by rw [d3, nn, x1, y1.1]; rw [← own_p1 h0, ← g0]; rfl))]
    · have a1' : ¬ v1.toInt = c1.toInt - 1 := fun z => a1 ((own_m1 h1).mpr z)
      have hv1' : v1.toInt * c2.toInt ≤ (c1.toInt - 2) * c2.toInt := Int.mul_le_mul_of_nonneg_right (by omega) (by omega)
      rw [Int.sub_mul] at hv1'
      have eN : ¬ N = ((c0 * c1) * c2) - 1 := fun z => by rw [← Int32.toInt_inj] at z; omega
      have ef : ¬ f1 gs gv gc = 0 := by
        unfold f1
        rw [if_pos (by rw [g2, k2]; exact a2), if_neg (by rw [k1]; exact (show ¬ gv 1 = c1 - 1 by rw [g1]; exact a1))]
        decide
      have eo : o1_0 gs gv gc = w1_5 gs gv gc := by
        unfold o1_0
        rw [if_pos (by rw [g2, k2]; exact a2), if_neg (by rw [k1]; exact (show ¬ gv 1 = c1 - 1 by rw [g1]; exact a1))]
      have z1 : (v1.toInt + 1) * c2.toInt = v1.toInt * c2.toInt + c2.toInt := by rw [Int.add_mul, Int.one_mul]
      have x1 : N.toInt + 1 = v0.toInt * (c1.toInt * c2.toInt) + (v1.toInt + 1) * c2.toInt := by omega
      have x2 : N.toInt + 1 = (v0.toInt * c1.toInt + (v1.toInt + 1)) * c2.toInt + 0 := by rw [Int.add_mul, Int.mul_assoc]; omega
      have y1 := own_dm v0.toInt (c1.toInt * c2.toInt) ((v1.toInt + 1) * c2.toInt) (by omega) (by omega)
      have y2 := own_dm (v0.toInt * c1.toInt + (v1.toInt + 1)) c2.toInt 0 (by omega) (by omega)
      have y3 := own_dm v0.toInt c1.toInt (v1.toInt + 1) (by omega) (by omega)
      rw [if_neg eN, if_neg ef, eo]
      rw [if_pos (show w1_5 gs gv gc 2 = (N + 1) % c2 from Int32.toInt_inj.mp (by rw [d2, nn, x2, y2.2]; rfl))]
      rw [if_pos (show w1_5 gs gv gc 1 = ((N + 1) / c2) % c1 from Int32.toInt_inj.mp (by rw [d4, nn, x2, y2.1, y3.2, ← own_p1 h1, ← g1]; rfl))]
      rw [if_pos (show w1_5 gs gv gc 0 = (N + 1) / (c1 * c2) from Int32.toInt_inj.mp (by rw [d3, nn, x1, y1.1, ← g0]; rfl))]
  · have a2' : ¬ v2.toInt = c2.toInt - 1 := fun z => a2 ((own_m1 h2).mpr z)
    have eN : ¬ N = ((c0 * c1) * c2) - 1 := fun z => by rw [← Int32.toInt_inj] at z; omega
    have ef : ¬ f1 gs gv gc = 0 := by
      unfold f1
      rw [if_neg (by rw [g2, k2]; exact a2)]
      decide
    have eo : o1_0 gs gv gc = w1_6 gs gv gc := by
      unfold o1_0
      rw [if_neg (by rw [g2, k2]; exact a2)]
    have x1 : N.toInt + 1 = v0.toInt * (c1.toInt * c2.toInt) + (v1.toInt * c2.toInt + (v2.toInt + 1)) := by omega
    have x2 : N.toInt + 1 = (v0.toInt * c1.toInt + v1.toInt) * c2.toInt + (v2.toInt + 1) := by rw [Int.add_mul, Int.mul_assoc]; omega
    have y1 := own_dm v0.toInt (c1.toInt * c2.toInt) (v1.toInt * c2.toInt + (v2.toInt + 1)) (by omega) (by omega)
    have y2 := own_dm (v0.toInt * c1.toInt + v1.toInt) c2.toInt (v2.toInt + 1) (by omega) (by omega)
    have y3 := own_dm v0.toInt c1.toInt v1.toInt (by omega) (by omega)
    rw [if_neg eN, if_neg ef, eo]
    rw [if_pos (show w1_6 gs gv gc 2 = (N + 1) % c2 from Int32.toInt_inj.mp (by rw [d2, nn, x2, y2.2, ← own_p1 h2, ← g2]; rfl))]
    rw [if_pos (show w1_6 gs gv gc 1 = ((N + 1) / c2) % c1 from Int32.toInt_inj.mp (by rw [d4, nn, x2, y2.1, y3.2, ← g1]; rfl))]
    rw [if_pos (show w1_6 gs gv gc 0 = (N + 1) / (c1 * c2) from Int32.toInt_inj.mp (by rw [d3, nn, x1, y1.1, ← g0]; rfl))]
theorem law_true (x0 x1 x2 x3 x4 : Int32) : f0 x0 x1 x2 x3 x4 = 1 := by
  have w1 := own_w1 x0 x1 x2 x3 x4
  have w2 := own_w2 x0 x1 x2 x3 x4
  have w3 := own_w3 x0 x1 x2 x3 x4
  have w4 := own_w4 x0 x1 x2 x3 x4
  unfold f0
  by_cases a0 : x0 &&& 3 = 0
  · rw [if_pos a0]
    exact own_core _ _ _ _ _ _ _ _ _ (own_bd _ _ w2) (own_bd _ _ w3) (own_bd _ _ w4) rfl rfl rfl rfl rfl rfl
  · rw [if_neg a0]
    by_cases a1 : x0 &&& 3 = 1
    · rw [if_pos a1]
      exact own_core _ _ _ _ _ _ _ _ _ (own_bd _ _ w1) (own_bd _ _ w3) (own_bd _ _ w4) rfl rfl rfl rfl rfl rfl
    · rw [if_neg a1]
      by_cases a2 : x0 &&& 3 = 2
      · rw [if_pos a2]
        exact own_core _ _ _ _ _ _ _ _ _ (own_bd _ _ w1) (own_bd _ _ w2) (own_bd _ _ w4) rfl rfl rfl rfl rfl rfl
      · rw [if_neg a2]
        exact own_core _ _ _ _ _ _ _ _ _ (own_bd _ _ w1) (own_bd _ _ w2) (own_bd _ _ w3) rfl rfl rfl rfl rfl rfl
set_option maxRecDepth 65536 in
set_option maxHeartbeats 40000000 in
theorem comes_1 {Post : Tables → Env → Array Value → State → Outcome → State → Prop} (hpost : ∀ tb e args s v u, (limb_1_1.after args s (.returned v) u = true ∧ limb_1_2.after args s (.returned v) u = true ∧ True) → FrameEnd s (.returned v) u (Jvm.fieldLocs frame_1_writes args s ++ Jvm.arrayLocs frame_1_arrays args s ++ Jvm.staticLocs frame_1_statics s) 16 128 → Post tb e args s (.returned v) u) :
    ArmFor flags0 classFile x code maxLocals ret World_1 tables_1 room_1 Calls_1 rest_1 Pre_1 Post := by
  intro l hfl _ _ p e ha hc hk s m args below hf hA hF happ hP
  obtain ⟨hcalls, hrest, hpre⟩ := hP
  obtain ⟨-, -, -, hnamed, -, -, -, hat⟩ := (Spec.applies_iff hf).mp happ
  obtain ⟨hg, hn⟩ := and_e (Cond.before_iff.mp (show (Jvm.Cond.and given_1 narrow_1).before args s = true from hpre))
  obtain ⟨g0, hg⟩ := and_e hg
  obtain ⟨g1, hg⟩ := and_e hg
  obtain ⟨g2, hg⟩ := and_e hg
  obtain ⟨g3, hg⟩ := and_e hg
  obtain ⟨g4, hg⟩ := and_e hg
  obtain ⟨w0, w1, w2, w3, w4, rfl⟩ : ∃ w0 w1 w2 w3 w4 : Value, args = #[w0, w1, w2, w3, w4] := by
    have hs : args.size = 5 := by simpa [Cond.value, given_1] using g0
    obtain ⟨L⟩ := args
    match L, hs with
    | [w0, w1, w2, w3, w4], _ => exact ⟨w0, w1, w2, w3, w4, rfl⟩
  have hw := fun d (hd : d ∈ tables_1) => atoms_spec (ws := Jvm.Cond.code x code maxLocals ret :: tables_1) hat d (List.mem_cons_of_mem _ hd)
  obtain ⟨i0, e0⟩ := is_v g1
  obtain rfl : w0 = (.int i0) := Option.some.inj e0
  obtain ⟨i1, e1⟩ := is_v g2
  obtain rfl : w1 = (.int i1) := Option.some.inj e1
  obtain ⟨i2, e2⟩ := is_v g3
  obtain rfl : w2 = (.int i2) := Option.some.inj e2
  obtain ⟨i3, e3⟩ := is_v g4
  obtain rfl : w3 = (.int i3) := Option.some.inj e3
  obtain ⟨i4, e4⟩ := is_v hg
  obtain rfl : w4 = (.int i4) := Option.some.inj e4
  obtain ⟨n, o, h1, h2, h3, v, L, rfl, ⟨rfl, N⟩, hq⟩ := rm0 l s _ hw tables_1 i0 i1 i2 i3 i4 s.heap s.heap.size (Nat.le_refl _) p e ha hc hk s m _ below hf ((Spec.applies_iff_loose hf).mp happ).1 ⟨rfl, State.Warmed39.refl s, rfl⟩ trivial
  rw [law_true] at h3 hq
  refine ⟨n, _, h1, h2, h3, hpost _ _ _ _ _ _ ⟨Cond.after_iff.mpr rfl, Cond.after_iff.mpr (eq_i res_at (Term.int_eval (1)) rfl), trivial⟩ ⟨hq.1, hq.2.1, (hq.2.2.sift fun y hy => Or.inr (N y hy)).mono (by decide) (by decide)⟩⟩
theorem main_1_1 : Claimed_1_1 := comes_1 fun _ _ _ _ _ _ h hF => ⟨h.1, hF⟩
theorem main_1_2 : Claimed_1_2 := comes_1 fun _ _ _ _ _ _ h hF => ⟨h.2.1, hF⟩
end Jvm.Pilot.@@N@@
namespace Jvm.Pilot.@@N@@
open Jvm Jvm.ClassFile Sem Op Lib Jvm.Free Jvm.Stand Jvm.Pilot.@@N@@.Jvm.D
/-! MADE BY PROGRAM (witnessworld.py) out of the Statement's table words and the real class files: 9 classes; the members and pool entries that the words name. The judged class is class 1, her method 1. -/
namespace start1
open Jvm.ClassFile
def u (s : String) : CpInfo := .utf8 (stringToUtf16 s)
/-- a pool by its gaps: so many unusable entries, then the entry; so many at the end -/
def gap : Nat → List CpInfo → List CpInfo
  | 0, r => r
  | n + 1, r => .unusable :: gap n r
def poolList (es : List (Nat × CpInfo)) (last : Nat) : List CpInfo := es.foldr (fun e r => gap e.1 (e.2 :: r)) (gap last [])
def pool (es : List (Nat × CpInfo)) (last : Nat) : Array CpInfo := ⟨poolList es last⟩
def fileOf (pool : Array CpInfo) (this : Nat) (attrs : Array Attribute := #[]) (ms : Array MethodInfo := #[]) (fl : Nat := 33) (sup : Nat := 0) (ifs : Array Nat := #[]) (fds : Array FieldInfo := #[]) : ClassFile where
  minorVersion := 0
  majorVersion := 65
  constantPool := pool
  accessFlags := fl
  thisClass := this
  superClass := sup
  interfaces := ifs
  fields := fds
  methods := ms
  attributes := attrs
def plain (name : String) (sup : Option ClassId) : Class where
  name := name
  kind := .ordinary
  loader := none
  accessFlags := 33
  super := sup
  interfaces := #[]
  cf := none
  fields := #[]
  methods := #[]
  instanceTypes := #[]
  staticTypes := #[]
  resolved := #[]
  callSites := []
  init := .initialized
  statics := none
  mirror := none

def pool0 : Array CpInfo := pool [(5, u "<init>"), (0, u "()V"), (1, .class_ 10), (1, u "java/lang/Object")] 113

def k0m0 : Method := { name := "<init>", desc := "()V", sig := { parameters := [], returnType := none }, accessFlags := 1, code := none }
/-- java/lang/Object -/
def k0 : Class := { plain "java/lang/Object" none with
  accessFlags := 33
  interfaces := #[]
  cf := some (fileOf pool0 8 #[] #[{ accessFlags := 1, nameIndex := 5, descriptorIndex := 6, attributes := #[] }] 33 0 #[] #[])
  fields := #[]
  methods := #[k0m0]
  instanceTypes := #[]
  staticTypes := #[]
  resolved := Array.replicate 124 none
  statics := none }

def pool1 : Array CpInfo := pool [(2, .class_ 4), (1, u "java/lang/Object"), (0, u "<init>"), (0, u "()V"), (0, .integer 2147483647), (0, .methodref 9 10), (0, .class_ 11), (0, .nameAndType 12 13), (0, u "com/example/crosshatch/crosshatch/design/ParameterSets"), (0, u "nextValues"), (0, u "([I[I[I)Z"), (0, .class_ 15), (0, u "com/example/crosshatch/crosshatch/design/ParameterSetsNextValuesPinLaw"), (2, u "law"), (0, u "(IIIII)Z")] 5

def k1m0 : Method := { name := "<init>", desc := "()V", sig := { parameters := [], returnType := none }, accessFlags := 1, code := none }
def k1c1 : Code := { maxStack := 4, maxLocals := 24, code := code, exceptionTable := #[], attributes := #[] }
def k1m1 : Method := { name := "law", desc := "(IIIII)Z", sig := { parameters := [.int, .int, .int, .int, .int], returnType := some .boolean }, accessFlags := 9, code := some k1c1 }
/-- com/example/crosshatch/crosshatch/design/ParameterSetsNextValuesPinLaw -/
def k1 : Class := { plain "com/example/crosshatch/crosshatch/design/ParameterSetsNextValuesPinLaw" (some 0) with
  accessFlags := 49
  interfaces := #[]
  cf := some (fileOf pool1 14 #[] #[{ accessFlags := 1, nameIndex := 5, descriptorIndex := 6, attributes := #[] }, { accessFlags := 9, nameIndex := 18, descriptorIndex := 19, attributes := #[] }] 49 2 #[] #[])
  fields := #[]
  methods := #[k1m0, k1m1]
  instanceTypes := #[]
  staticTypes := #[]
  resolved := Array.replicate 25 none
  statics := none }

def pool2 : Array CpInfo := pool [(2, .class_ 4), (1, u "java/lang/Object"), (0, u "<init>"), (0, u "()V"), (24, .class_ 33), (1, u "com/example/crosshatch/crosshatch/design/ParameterSets"), (15, u "nextValues"), (0, u "([I[I[I)Z")] 17

def k2m0 : Method := { name := "<init>", desc := "()V", sig := { parameters := [], returnType := none }, accessFlags := 2, code := none }
def k2c1 : Code := { maxStack := 4, maxLocals := 4, code := prog_6_method_7_code, exceptionTable := #[], attributes := #[] }
def k2m1 : Method := { name := "nextValues", desc := "([I[I[I)Z", sig := { parameters := [(.array .int), (.array .int), (.array .int)], returnType := some .boolean }, accessFlags := 8, code := some k2c1 }
/-- com/example/crosshatch/crosshatch/design/ParameterSets -/
def k2 : Class := { plain "com/example/crosshatch/crosshatch/design/ParameterSets" (some 0) with
  accessFlags := 33
  interfaces := #[]
  cf := some (fileOf pool2 31 #[] #[{ accessFlags := 2, nameIndex := 5, descriptorIndex := 6, attributes := #[] }, { accessFlags := 8, nameIndex := 49, descriptorIndex := 50, attributes := #[] }] 33 2 #[] #[])
  fields := #[]
  methods := #[k2m0, k2m1]
  instanceTypes := #[]
  staticTypes := #[]
  resolved := Array.replicate 68 none
  statics := none }

def pool3 : Array CpInfo := pool [(1, u "java/lang/Cloneable"), (0, .class_ 1), (0, u "java/lang/Object"), (0, .class_ 3)] 3

/-- java/lang/Cloneable -/
def k3 : Class := { plain "java/lang/Cloneable" (some 0) with
  accessFlags := 1537
  interfaces := #[]
  cf := some (fileOf pool3 2 #[] #[] 1537 4 #[] #[])
  fields := #[]
  methods := #[]
  instanceTypes := #[]
  staticTypes := #[]
  resolved := Array.replicate 8 none
  statics := none }

def pool4 : Array CpInfo := pool [(1, u "java/io/Serializable"), (0, .class_ 1), (0, u "java/lang/Object"), (0, .class_ 3)] 3

/-- java/io/Serializable -/
def k4 : Class := { plain "java/io/Serializable" (some 0) with
  accessFlags := 1537
  interfaces := #[]
  cf := some (fileOf pool4 2 #[] #[] 1537 4 #[] #[])
  fields := #[]
  methods := #[]
  instanceTypes := #[]
  staticTypes := #[]
  resolved := Array.replicate 8 none
  statics := none }

/-- the primitive byte -/
def k5 : Class := { plain "byte" none with kind := .primitive 'B', accessFlags := 0x411 }
/-- [B -/
def k6 : Class := { plain "[B" (some 0) with kind := .array 5 .byte, interfaces := #[3, 4], accessFlags := 1041 }

/-- the primitive int -/
def k7 : Class := { plain "int" none with kind := .primitive 'I', accessFlags := 0x411 }
/-- [I -/
def k8 : Class := { plain "[I" (some 0) with kind := .array 7 .int, interfaces := #[3, 4], accessFlags := 1041 }

def heap : Heap := #[]
def classes : Array Class := #[k0, k1, k2, k3, k4, k5, k6, k7, k8]
def interned : List (Array UInt16 × Addr) := []
def slotsUsed : Nat := 0
def theMethod : MethodId := ⟨1, 1⟩
def args0 : Array Value := #[.int 1, .int 2, .int 3, .int 4, .int 5]
def aboutOver (below : List Frame) : State where
  vm := { classes := classes, interned := interned.toArray }
  heap := heap
  slotsUsed := slotsUsed
  threads := #[{ frames := .invoking theMethod args0 :: below }]
def below0 : List Frame := [.native { method := ⟨0, 0⟩, args := #[] }]
def about1 : State := aboutOver below0
def p0 : Program := .bare "" "" ""
def e0 : Env := launch0.env 0 0 0
theorem w_frames : about1.frames = Frame.invoking theMethod args0 :: below0 := rfl
set_option maxRecDepth 65536 in
theorem w_args : argsFit about1.vm theMethod args0 = true := by decide +kernel
set_option maxRecDepth 65536 in
theorem w_heap : heapFits about1 = true := by decide +kernel
set_option maxRecDepth 65536 in
theorem w_runnable : about1.curStatus? = some .runnable := by decide +kernel
set_option maxRecDepth 65536 in
theorem w_alone : about1.alone = true := by decide +kernel
set_option maxRecDepth 65536 in
theorem w_named : about1.methodNamed? x = some theMethod := by decide +kernel
set_option maxRecDepth 65536 in
theorem w_hears : about1.hears theMethod below0 = true := by decide +kernel
set_option maxRecDepth 65536 in
theorem w_ripe : about1.ripe theMethod args0 below0 = true := by decide +kernel
theorem w_running : about1.status = .running := rfl
set_option maxRecDepth 65536 in
theorem w_room : about1.hasRoom e0.platform room_1 = true :=
  launch0.hasRoom_least _ room_1 (by decide +kernel) (by decide +kernel) (by decide +kernel) (by decide +kernel) (by decide +kernel) (by decide +kernel)
theorem allAtoms_all (ts : List Jvm.Cond) (a : Array Jvm.Value) (st : Jvm.State) : (allAtoms ts).before a st = ts.all (fun c => c.before a st) := by
  induction ts with
  | nil => rfl
  | cons c t ih =>
    show (Jvm.Cond.and c (allAtoms t)).before a st = _
    rw [Jvm.Cond.before_and, ih, List.all_cons]
def words1 : List Jvm.Cond := Jvm.Cond.code x code maxLocals ret :: tables_1
/-- a 'code' word, met by the world's own term for the bytes: nothing is compared byte by byte -/
theorem code_word {y : MethodName} {bytes : ByteArray} {mx : Nat} {rt : Option FieldType} {a : Array Value} {s : State} {m : MethodId} {meth : Method} {c : Code} (h1 : s.methodNamed? y = some m) (h2 : s.vm.method? m = some meth) (h3 : meth.code = some c) (h4 : c.code = bytes)
    (h5 : (c.maxLocals == mx && c.exceptionTable.isEmpty && decide (c.maxStack ≤ mostOperands) && decide (meth.sig.returnType = rt) && !meth.locks && decide (parseMethodDescriptor y.desc = some meth.sig)) = true) : (Jvm.Cond.code y bytes mx rt).before a s = true := by
  simp only [Bool.and_eq_true, beq_iff_eq, Bool.not_eq_true', decide_eq_true_eq] at h5
  obtain ⟨⟨⟨⟨⟨g1, g2⟩, g3⟩, g4⟩, g5⟩, g6⟩ := h5
  simp [Cond.before, Cond.holds, Cond.value, h1, h2, h3, h4, g1, g2, g3, g4, g5, g6]
def isCode : Jvm.Cond → Bool
  | .code _ _ _ _ => true
  | _ => false
theorem all_split {L : List Jvm.Cond} {P : Jvm.Cond → Bool} (h1 : L.all (fun c => isCode c || P c) = true) (h2 : ∀ c ∈ L.filter isCode, P c = true) : L.all P = true := by
  refine List.all_eq_true.mpr fun c hc => ?_
  have h := List.all_eq_true.mp h1 c hc
  rcases Bool.eq_false_or_eq_true (isCode c) with hi | hi
  · exact h2 c (List.mem_filter.mpr ⟨hc, hi⟩)
  · simpa [hi] using h
set_option maxRecDepth 65536 in
theorem w_c0 : (Jvm.Cond.code x code maxLocals ret).before args0 about1 = true := code_word (m := ⟨1, 1⟩) (meth := k1m1) (c := k1c1) (by decide +kernel) rfl rfl rfl (by decide +kernel)
set_option maxRecDepth 65536 in
theorem w_c1 : (Jvm.Cond.code ({ cls := "com/example/crosshatch/crosshatch/design/ParameterSets", name := "nextValues", desc := "([I[I[I)Z" } : Jvm.MethodName) prog_6_method_7_code (4 : Nat) (Option.some Jvm.ClassFile.FieldType.boolean)).before args0 about1 = true := code_word (m := ⟨2, 1⟩) (meth := k2m1) (c := k2c1) (by decide +kernel) rfl rfl rfl (by decide +kernel)
def codes1 : List Jvm.Cond := [Jvm.Cond.code x code maxLocals ret, Jvm.Cond.code ({ cls := "com/example/crosshatch/crosshatch/design/ParameterSets", name := "nextValues", desc := "([I[I[I)Z" } : Jvm.MethodName) prog_6_method_7_code (4 : Nat) (Option.some Jvm.ClassFile.FieldType.boolean)]
set_option maxRecDepth 65536 in
theorem codes_eq : words1.filter isCode = codes1 := rfl
theorem w_codes : ∀ c ∈ words1.filter isCode, c.before args0 about1 = true := by
  rw [codes_eq]
  intro c hc
  simp only [codes1, List.mem_cons, List.not_mem_nil, or_false] at hc
  rcases hc with rfl | rfl
  · exact w_c0
  · exact w_c1
set_option maxRecDepth 65536 in
theorem w_t1 : words1.all (fun c => isCode c || c.before args0 about1) = true := by decide +kernel
theorem w_tables : (allAtoms (Jvm.Cond.code x code maxLocals ret :: tables_1)).before args0 about1 = true := by
  rw [allAtoms_all]
  show words1.all (fun c => c.before args0 about1) = true
  refine all_split ?_ w_codes
  rw [w_t1]
set_option maxRecDepth 65536 in
theorem w_case : (Jvm.Cond.and given_1 narrow_1).before args0 about1 = true := by decide +kernel
theorem w_applies : (headSpec (Jvm.Cond.code x code maxLocals ret :: tables_1) room_1).applies x e0.platform about1 = true :=
  (Spec.applies_iff w_frames).mpr ⟨w_running, w_runnable, w_alone, w_named, w_hears, w_ripe, w_room, w_tables⟩
theorem atStart : AtStart classFile x code maxLocals ret World_1 tables_1 room_1 Calls_1 rest_1 Pre_1 launch0 p0 e0 about1 theMethod args0 below0 :=
  ⟨lists_1, trivial, launch0.admits_env _ _ _, launch0.least_env, fairChoices_fair.cas, fairChoices_fair.clock, w_frames, w_args, w_heap, w_applies, trivial, trivial, w_case⟩
end start1
theorem witness_1 : WitnessClaimed_1 := ⟨start1.p0, start1.e0, start1.about1, start1.theMethod, start1.args0, start1.below0, start1.atStart⟩
end Jvm.Pilot.@@N@@
