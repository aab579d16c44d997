import JvmDerived
import JvmDerived.Pilot.@@N@@Statement
import JvmDerived.Pilot.@@N@@Code
set_option linter.unusedVariables false
set_option linter.unusedSimpArgs false
namespace Jvm.Pilot.@@N@@
open Jvm Jvm.ClassFile Sem Op Lib Jvm.Free Jvm.Stand Jvm.LawKit Jvm.RoadKit Bundle Jvm.Pilot.@@N@@.Jvm.D
/-! 1. the walk's own words -/
def OG (tb : Tables) (e : Env) (below : List Frame) (P : Outcome → State → Prop) (A : State) : Prop :=
  ∃ s₂ o, Steps tb e below A s₂ ∧ s₂.status = .running ∧ Ended s₂ below o ∧ P o s₂
theorem OG.of {tb : Tables} {e : Env} {below : List Frame} {P : Outcome → State → Prop} {A B : State} (h : OG tb e below P B) (k : ∀ t, Steps tb e below B t → Steps tb e below A t) : OG tb e below P A := by
  obtain ⟨t, o, st, r⟩ := h
  exact ⟨t, o, k t st, r⟩
def Bx (own : String) (bs : ByteArray) (ml : Nat) (Z : State) (p : Program) (l : Launch) (e : Env) (R : Room) (s : State) (m : MethodId) (args : Array Value) (below : List Frame) (meth : Method) (c : Code) (T : State) (h : Heap) (locs : List Loc) (cells slots : Nat) : Prop :=
  Stand p l e R s m args below meth c T locs cells slots ∧ p.tables.exec = Jvm.exec ∧ c.code = bs ∧ c.maxLocals = ml ∧ s.vm.findClass own = some m.cls ∧ Z.Warmed39 s.vm ∧ T.heap = h
section Walk
variable {own : String} {bs : ByteArray} {ml : Nat} {Z : State} {p : Program} {l : Launch} {e : Env} {R : Room} {s : State} {m : MethodId} {args : Array Value} {below : List Frame} {meth : Method} {c : Code} {T : State} {h : Heap} {locs : List Loc} {cells slots : Nat} {P : Outcome → State → Prop} {Ls : Array Slot} {rest : List Value} {a0 : Array Value}
theorem o_iadd (B : Bx own bs ml Z p l e R s m args below meth c T h locs cells slots) (pc pc' : Nat) {x y : Int32} (hd : decode bs pc = .ok (.iadd, 1)) (hp : pc + 1 = pc') 
    (hr : OG p.tables e below P (T.setTop (mkF m pc' Ls (.int (x + y) :: rest)))) : OG p.tables e below P (T.setTop (mkF m pc Ls (.int y :: .int x :: rest))) := by
  subst hp
  obtain ⟨X, hx, hby, hml, hown, hZ, eT⟩ := B
  exact hr.of fun t k => XS.iadd X.here hx rfl (hb hby hd) rfl k
theorem o_isub (B : Bx own bs ml Z p l e R s m args below meth c T h locs cells slots) (pc pc' : Nat) {x y : Int32} (hd : decode bs pc = .ok (.isub, 1)) (hp : pc + 1 = pc') 
    (hr : OG p.tables e below P (T.setTop (mkF m pc' Ls (.int (x - y) :: rest)))) : OG p.tables e below P (T.setTop (mkF m pc Ls (.int y :: .int x :: rest))) := by
  subst hp
  obtain ⟨X, hx, hby, hml, hown, hZ, eT⟩ := B
  exact hr.of fun t k => XS.isub X.here hx rfl (hb hby hd) rfl k
theorem o_imul (B : Bx own bs ml Z p l e R s m args below meth c T h locs cells slots) (pc pc' : Nat) {x y : Int32} (hd : decode bs pc = .ok (.imul, 1)) (hp : pc + 1 = pc') 
    (hr : OG p.tables e below P (T.setTop (mkF m pc' Ls (.int (x * y) :: rest)))) : OG p.tables e below P (T.setTop (mkF m pc Ls (.int y :: .int x :: rest))) := by
  subst hp
  obtain ⟨X, hx, hby, hml, hown, hZ, eT⟩ := B
  exact hr.of fun t k => XS.imul X.here hx rfl (hb hby hd) rfl k
theorem o_iand (B : Bx own bs ml Z p l e R s m args below meth c T h locs cells slots) (pc pc' : Nat) {x y : Int32} (hd : decode bs pc = .ok (.iand, 1)) (hp : pc + 1 = pc') 
    (hr : OG p.tables e below P (T.setTop (mkF m pc' Ls (.int (x &&& y) :: rest)))) : OG p.tables e below P (T.setTop (mkF m pc Ls (.int y :: .int x :: rest))) := by
  subst hp
  obtain ⟨X, hx, hby, hml, hown, hZ, eT⟩ := B
  exact hr.of fun t k => XS.iand X.here hx rfl (hb hby hd) rfl k
theorem o_ior (B : Bx own bs ml Z p l e R s m args below meth c T h locs cells slots) (pc pc' : Nat) {x y : Int32} (hd : decode bs pc = .ok (.ior, 1)) (hp : pc + 1 = pc') 
    (hr : OG p.tables e below P (T.setTop (mkF m pc' Ls (.int (x ||| y) :: rest)))) : OG p.tables e below P (T.setTop (mkF m pc Ls (.int y :: .int x :: rest))) := by
  subst hp
  obtain ⟨X, hx, hby, hml, hown, hZ, eT⟩ := B
  exact hr.of fun t k => XT.ior X.here hx rfl (hb hby hd) rfl k
theorem o_ixor (B : Bx own bs ml Z p l e R s m args below meth c T h locs cells slots) (pc pc' : Nat) {x y : Int32} (hd : decode bs pc = .ok (.ixor, 1)) (hp : pc + 1 = pc') 
    (hr : OG p.tables e below P (T.setTop (mkF m pc' Ls (.int (x ^^^ y) :: rest)))) : OG p.tables e below P (T.setTop (mkF m pc Ls (.int y :: .int x :: rest))) := by
  subst hp
  obtain ⟨X, hx, hby, hml, hown, hZ, eT⟩ := B
  exact hr.of fun t k => XT.ixor X.here hx rfl (hb hby hd) rfl k
theorem o_ishl (B : Bx own bs ml Z p l e R s m args below meth c T h locs cells slots) (pc pc' : Nat) {x y : Int32} (hd : decode bs pc = .ok (.ishl, 1)) (hp : pc + 1 = pc') 
    (hr : OG p.tables e below P (T.setTop (mkF m pc' Ls (.int (x <<< (y &&& 31)) :: rest)))) : OG p.tables e below P (T.setTop (mkF m pc Ls (.int y :: .int x :: rest))) := by
  subst hp
  obtain ⟨X, hx, hby, hml, hown, hZ, eT⟩ := B
  exact hr.of fun t k => XT.ishl X.here hx rfl (hb hby hd) rfl k
theorem o_ishr (B : Bx own bs ml Z p l e R s m args below meth c T h locs cells slots) (pc pc' : Nat) {x y : Int32} (hd : decode bs pc = .ok (.ishr, 1)) (hp : pc + 1 = pc') 
    (hr : OG p.tables e below P (T.setTop (mkF m pc' Ls (.int (x >>> (y &&& 31)) :: rest)))) : OG p.tables e below P (T.setTop (mkF m pc Ls (.int y :: .int x :: rest))) := by
  subst hp
  obtain ⟨X, hx, hby, hml, hown, hZ, eT⟩ := B
  exact hr.of fun t k => XT.ishr X.here hx rfl (hb hby hd) rfl k
theorem o_iushr (B : Bx own bs ml Z p l e R s m args below meth c T h locs cells slots) (pc pc' : Nat) {x y : Int32} (hd : decode bs pc = .ok (.iushr, 1)) (hp : pc + 1 = pc') 
    (hr : OG p.tables e below P (T.setTop (mkF m pc' Ls (.int (XT.ushr x y) :: rest)))) : OG p.tables e below P (T.setTop (mkF m pc Ls (.int y :: .int x :: rest))) := by
  subst hp
  obtain ⟨X, hx, hby, hml, hown, hZ, eT⟩ := B
  exact hr.of fun t k => XT.iushr X.here hx rfl (hb hby hd) rfl k
theorem o_idiv (B : Bx own bs ml Z p l e R s m args below meth c T h locs cells slots) (pc pc' : Nat) {x y : Int32} (hd : decode bs pc = .ok (.idiv, 1)) (hp : pc + 1 = pc') (hy : y ≠ 0)
    (hr : OG p.tables e below P (T.setTop (mkF m pc' Ls (.int (x / y) :: rest)))) : OG p.tables e below P (T.setTop (mkF m pc Ls (.int y :: .int x :: rest))) := by
  subst hp
  obtain ⟨X, hx, hby, hml, hown, hZ, eT⟩ := B
  exact hr.of fun t k => XS.idiv X.here hx rfl (hb hby hd) rfl hy k
theorem o_irem (B : Bx own bs ml Z p l e R s m args below meth c T h locs cells slots) (pc pc' : Nat) {x y : Int32} (hd : decode bs pc = .ok (.irem, 1)) (hp : pc + 1 = pc') (hy : y ≠ 0)
    (hr : OG p.tables e below P (T.setTop (mkF m pc' Ls (.int (x % y) :: rest)))) : OG p.tables e below P (T.setTop (mkF m pc Ls (.int y :: .int x :: rest))) := by
  subst hp
  obtain ⟨X, hx, hby, hml, hown, hZ, eT⟩ := B
  exact hr.of fun t k => XS.irem X.here hx rfl (hb hby hd) rfl hy (by rw [irem_eq_mod]; exact k)
theorem o_ladd (B : Bx own bs ml Z p l e R s m args below meth c T h locs cells slots) (pc pc' : Nat) {x y : Int64} (hd : decode bs pc = .ok (.ladd, 1)) (hp : pc + 1 = pc') 
    (hr : OG p.tables e below P (T.setTop (mkF m pc' Ls (.long (x + y) :: rest)))) : OG p.tables e below P (T.setTop (mkF m pc Ls (.long y :: .long x :: rest))) := by
  subst hp
  obtain ⟨X, hx, hby, hml, hown, hZ, eT⟩ := B
  exact hr.of fun t k => XT.ladd X.here hx rfl (hb hby hd) rfl k
theorem o_lsub (B : Bx own bs ml Z p l e R s m args below meth c T h locs cells slots) (pc pc' : Nat) {x y : Int64} (hd : decode bs pc = .ok (.lsub, 1)) (hp : pc + 1 = pc') 
    (hr : OG p.tables e below P (T.setTop (mkF m pc' Ls (.long (x - y) :: rest)))) : OG p.tables e below P (T.setTop (mkF m pc Ls (.long y :: .long x :: rest))) := by
  subst hp
  obtain ⟨X, hx, hby, hml, hown, hZ, eT⟩ := B
  exact hr.of fun t k => XT.lsub X.here hx rfl (hb hby hd) rfl k
theorem o_lmul (B : Bx own bs ml Z p l e R s m args below meth c T h locs cells slots) (pc pc' : Nat) {x y : Int64} (hd : decode bs pc = .ok (.lmul, 1)) (hp : pc + 1 = pc') 
    (hr : OG p.tables e below P (T.setTop (mkF m pc' Ls (.long (x * y) :: rest)))) : OG p.tables e below P (T.setTop (mkF m pc Ls (.long y :: .long x :: rest))) := by
  subst hp
  obtain ⟨X, hx, hby, hml, hown, hZ, eT⟩ := B
  exact hr.of fun t k => XT.lmul X.here hx rfl (hb hby hd) rfl k
theorem o_land (B : Bx own bs ml Z p l e R s m args below meth c T h locs cells slots) (pc pc' : Nat) {x y : Int64} (hd : decode bs pc = .ok (.land, 1)) (hp : pc + 1 = pc') 
    (hr : OG p.tables e below P (T.setTop (mkF m pc' Ls (.long (x &&& y) :: rest)))) : OG p.tables e below P (T.setTop (mkF m pc Ls (.long y :: .long x :: rest))) := by
  subst hp
  obtain ⟨X, hx, hby, hml, hown, hZ, eT⟩ := B
  exact hr.of fun t k => XT.land X.here hx rfl (hb hby hd) rfl k
theorem o_lor (B : Bx own bs ml Z p l e R s m args below meth c T h locs cells slots) (pc pc' : Nat) {x y : Int64} (hd : decode bs pc = .ok (.lor, 1)) (hp : pc + 1 = pc') 
    (hr : OG p.tables e below P (T.setTop (mkF m pc' Ls (.long (x ||| y) :: rest)))) : OG p.tables e below P (T.setTop (mkF m pc Ls (.long y :: .long x :: rest))) := by
  subst hp
  obtain ⟨X, hx, hby, hml, hown, hZ, eT⟩ := B
  exact hr.of fun t k => XT.lor X.here hx rfl (hb hby hd) rfl k
theorem o_lxor (B : Bx own bs ml Z p l e R s m args below meth c T h locs cells slots) (pc pc' : Nat) {x y : Int64} (hd : decode bs pc = .ok (.lxor, 1)) (hp : pc + 1 = pc') 
    (hr : OG p.tables e below P (T.setTop (mkF m pc' Ls (.long (x ^^^ y) :: rest)))) : OG p.tables e below P (T.setTop (mkF m pc Ls (.long y :: .long x :: rest))) := by
  subst hp
  obtain ⟨X, hx, hby, hml, hown, hZ, eT⟩ := B
  exact hr.of fun t k => XT.lxor X.here hx rfl (hb hby hd) rfl k
theorem o_ldiv (B : Bx own bs ml Z p l e R s m args below meth c T h locs cells slots) (pc pc' : Nat) {x y : Int64} (hd : decode bs pc = .ok (.ldiv, 1)) (hp : pc + 1 = pc') (hy : y ≠ 0)
    (hr : OG p.tables e below P (T.setTop (mkF m pc' Ls (.long (x / y) :: rest)))) : OG p.tables e below P (T.setTop (mkF m pc Ls (.long y :: .long x :: rest))) := by
  subst hp
  obtain ⟨X, hx, hby, hml, hown, hZ, eT⟩ := B
  exact hr.of fun t k => XT.ldiv X.here hx rfl (hb hby hd) rfl hy k
theorem o_lrem (B : Bx own bs ml Z p l e R s m args below meth c T h locs cells slots) (pc pc' : Nat) {x y : Int64} (hd : decode bs pc = .ok (.lrem, 1)) (hp : pc + 1 = pc') (hy : y ≠ 0)
    (hr : OG p.tables e below P (T.setTop (mkF m pc' Ls (.long (x % y) :: rest)))) : OG p.tables e below P (T.setTop (mkF m pc Ls (.long y :: .long x :: rest))) := by
  subst hp
  obtain ⟨X, hx, hby, hml, hown, hZ, eT⟩ := B
  exact hr.of fun t k => XT.lrem X.here hx rfl (hb hby hd) rfl hy (by rw [lrem_mod]; exact k)
theorem o_lshl (B : Bx own bs ml Z p l e R s m args below meth c T h locs cells slots) (pc pc' : Nat) {x : Int64} {y : Int32} (hd : decode bs pc = .ok (.lshl, 1)) (hp : pc + 1 = pc') 
    (hr : OG p.tables e below P (T.setTop (mkF m pc' Ls (.long (x <<< (y.toInt64 &&& 63)) :: rest)))) : OG p.tables e below P (T.setTop (mkF m pc Ls (.int y :: .long x :: rest))) := by
  subst hp
  obtain ⟨X, hx, hby, hml, hown, hZ, eT⟩ := B
  exact hr.of fun t k => XT.lshl X.here hx rfl (hb hby hd) rfl k
theorem o_lshr (B : Bx own bs ml Z p l e R s m args below meth c T h locs cells slots) (pc pc' : Nat) {x : Int64} {y : Int32} (hd : decode bs pc = .ok (.lshr, 1)) (hp : pc + 1 = pc') 
    (hr : OG p.tables e below P (T.setTop (mkF m pc' Ls (.long (x >>> (y.toInt64 &&& 63)) :: rest)))) : OG p.tables e below P (T.setTop (mkF m pc Ls (.int y :: .long x :: rest))) := by
  subst hp
  obtain ⟨X, hx, hby, hml, hown, hZ, eT⟩ := B
  exact hr.of fun t k => XT.lshr X.here hx rfl (hb hby hd) rfl k
theorem o_lushr (B : Bx own bs ml Z p l e R s m args below meth c T h locs cells slots) (pc pc' : Nat) {x : Int64} {y : Int32} (hd : decode bs pc = .ok (.lushr, 1)) (hp : pc + 1 = pc') 
    (hr : OG p.tables e below P (T.setTop (mkF m pc' Ls (.long (XT.ushrL x y) :: rest)))) : OG p.tables e below P (T.setTop (mkF m pc Ls (.int y :: .long x :: rest))) := by
  subst hp
  obtain ⟨X, hx, hby, hml, hown, hZ, eT⟩ := B
  exact hr.of fun t k => XT.lushr X.here hx rfl (hb hby hd) rfl k
theorem o_lcmp (B : Bx own bs ml Z p l e R s m args below meth c T h locs cells slots) (pc pc' : Nat) {x y : Int64} (hd : decode bs pc = .ok (.lcmp, 1)) (hp : pc + 1 = pc') 
    (hr : OG p.tables e below P (T.setTop (mkF m pc' Ls (.int (XT.cmpL x y) :: rest)))) : OG p.tables e below P (T.setTop (mkF m pc Ls (.long y :: .long x :: rest))) := by
  subst hp
  obtain ⟨X, hx, hby, hml, hown, hZ, eT⟩ := B
  exact hr.of fun t k => XT.lcmp X.here hx rfl (hb hby hd) rfl k
theorem o_ineg (B : Bx own bs ml Z p l e R s m args below meth c T h locs cells slots) (pc pc' : Nat) {x : Int32} (hd : decode bs pc = .ok (.ineg, 1)) (hp : pc + 1 = pc') 
    (hr : OG p.tables e below P (T.setTop (mkF m pc' Ls (.int (-x) :: rest)))) : OG p.tables e below P (T.setTop (mkF m pc Ls (.int x :: rest))) := by
  subst hp
  obtain ⟨X, hx, hby, hml, hown, hZ, eT⟩ := B
  exact hr.of fun t k => XS.ineg X.here hx rfl (hb hby hd) rfl k
theorem o_lneg (B : Bx own bs ml Z p l e R s m args below meth c T h locs cells slots) (pc pc' : Nat) {x : Int64} (hd : decode bs pc = .ok (.lneg, 1)) (hp : pc + 1 = pc') 
    (hr : OG p.tables e below P (T.setTop (mkF m pc' Ls (.long (-x) :: rest)))) : OG p.tables e below P (T.setTop (mkF m pc Ls (.long x :: rest))) := by
  subst hp
  obtain ⟨X, hx, hby, hml, hown, hZ, eT⟩ := B
  exact hr.of fun t k => XT.lneg X.here hx rfl (hb hby hd) rfl k
theorem o_i2l (B : Bx own bs ml Z p l e R s m args below meth c T h locs cells slots) (pc pc' : Nat) {x : Int32} (hd : decode bs pc = .ok (.i2l, 1)) (hp : pc + 1 = pc') 
    (hr : OG p.tables e below P (T.setTop (mkF m pc' Ls (.long (x.toInt64) :: rest)))) : OG p.tables e below P (T.setTop (mkF m pc Ls (.int x :: rest))) := by
  subst hp
  obtain ⟨X, hx, hby, hml, hown, hZ, eT⟩ := B
  exact hr.of fun t k => XT.i2l X.here hx rfl (hb hby hd) rfl k
theorem o_l2i (B : Bx own bs ml Z p l e R s m args below meth c T h locs cells slots) (pc pc' : Nat) {x : Int64} (hd : decode bs pc = .ok (.l2i, 1)) (hp : pc + 1 = pc') 
    (hr : OG p.tables e below P (T.setTop (mkF m pc' Ls (.int (x.toInt32) :: rest)))) : OG p.tables e below P (T.setTop (mkF m pc Ls (.long x :: rest))) := by
  subst hp
  obtain ⟨X, hx, hby, hml, hown, hZ, eT⟩ := B
  exact hr.of fun t k => XT.l2i X.here hx rfl (hb hby hd) rfl k
theorem o_i2b (B : Bx own bs ml Z p l e R s m args below meth c T h locs cells slots) (pc pc' : Nat) {x : Int32} (hd : decode bs pc = .ok (.i2b, 1)) (hp : pc + 1 = pc') 
    (hr : OG p.tables e below P (T.setTop (mkF m pc' Ls (.int (x.toInt8.toInt32) :: rest)))) : OG p.tables e below P (T.setTop (mkF m pc Ls (.int x :: rest))) := by
  subst hp
  obtain ⟨X, hx, hby, hml, hown, hZ, eT⟩ := B
  exact hr.of fun t k => XT.i2b X.here hx rfl (hb hby hd) rfl k
theorem o_i2c (B : Bx own bs ml Z p l e R s m args below meth c T h locs cells slots) (pc pc' : Nat) {x : Int32} (hd : decode bs pc = .ok (.i2c, 1)) (hp : pc + 1 = pc') 
    (hr : OG p.tables e below P (T.setTop (mkF m pc' Ls (.int (x.toUInt32.toUInt16.toUInt32.toInt32) :: rest)))) : OG p.tables e below P (T.setTop (mkF m pc Ls (.int x :: rest))) := by
  subst hp
  obtain ⟨X, hx, hby, hml, hown, hZ, eT⟩ := B
  exact hr.of fun t k => XT.i2c X.here hx rfl (hb hby hd) rfl k
theorem o_i2s (B : Bx own bs ml Z p l e R s m args below meth c T h locs cells slots) (pc pc' : Nat) {x : Int32} (hd : decode bs pc = .ok (.i2s, 1)) (hp : pc + 1 = pc') 
    (hr : OG p.tables e below P (T.setTop (mkF m pc' Ls (.int (x.toInt16.toInt32) :: rest)))) : OG p.tables e below P (T.setTop (mkF m pc Ls (.int x :: rest))) := by
  subst hp
  obtain ⟨X, hx, hby, hml, hown, hZ, eT⟩ := B
  exact hr.of fun t k => XT.i2s X.here hx rfl (hb hby hd) rfl k
theorem o_iconst (B : Bx own bs ml Z p l e R s m args below meth c T h locs cells slots) (pc pc' : Nat) {i : Int} (v : Int32) (hd : decode bs pc = .ok (.iconst i, 1)) (hp : pc + 1 = pc') (hv : Int32.ofInt i = v)
    (hr : OG p.tables e below P (T.setTop (mkF m pc' Ls (.int v :: rest)))) : OG p.tables e below P (T.setTop (mkF m pc Ls rest)) := by
  subst hp
  obtain ⟨X, hx, hby, hml, hown, hZ, eT⟩ := B
  exact hr.of fun t k => XT.iconstV X.here hx rfl v (hb hby hd) hv k
theorem o_bipush (B : Bx own bs ml Z p l e R s m args below meth c T h locs cells slots) (pc pc' : Nat) {i : Int} (v : Int32) (hd : decode bs pc = .ok (.bipush i, 2)) (hp : pc + 2 = pc') (hv : (Int8.ofInt i).toInt32 = v)
    (hr : OG p.tables e below P (T.setTop (mkF m pc' Ls (.int v :: rest)))) : OG p.tables e below P (T.setTop (mkF m pc Ls rest)) := by
  subst hp
  obtain ⟨X, hx, hby, hml, hown, hZ, eT⟩ := B
  exact hr.of fun t k => XT.bipushV X.here hx rfl v (hb hby hd) hv k
theorem o_sipush (B : Bx own bs ml Z p l e R s m args below meth c T h locs cells slots) (pc pc' : Nat) {i : Int} (v : Int32) (hd : decode bs pc = .ok (.sipush i, 3)) (hp : pc + 3 = pc') (hv : (Int16.ofInt i).toInt32 = v)
    (hr : OG p.tables e below P (T.setTop (mkF m pc' Ls (.int v :: rest)))) : OG p.tables e below P (T.setTop (mkF m pc Ls rest)) := by
  subst hp
  obtain ⟨X, hx, hby, hml, hown, hZ, eT⟩ := B
  exact hr.of fun t k => XT.sipushV X.here hx rfl v (hb hby hd) hv k
theorem o_lconst (B : Bx own bs ml Z p l e R s m args below meth c T h locs cells slots) (pc pc' : Nat) {i : Fin 2} (v : Int64) (hd : decode bs pc = .ok (.lconst i, 1)) (hp : pc + 1 = pc') (hv : Int64.ofNat i = v)
    (hr : OG p.tables e below P (T.setTop (mkF m pc' Ls (.long v :: rest)))) : OG p.tables e below P (T.setTop (mkF m pc Ls rest)) := by
  subst hp
  obtain ⟨X, hx, hby, hml, hown, hZ, eT⟩ := B
  exact hr.of fun t k => XT.lconstV X.here hx rfl v (hb hby hd) hv k
theorem o_aconst_null (B : Bx own bs ml Z p l e R s m args below meth c T h locs cells slots) (pc pc' : Nat)  (hd : decode bs pc = .ok (.aconst_null, 1)) (hp : pc + 1 = pc') 
    (hr : OG p.tables e below P (T.setTop (mkF m pc' Ls (.null :: rest)))) : OG p.tables e below P (T.setTop (mkF m pc Ls rest)) := by
  subst hp
  obtain ⟨X, hx, hby, hml, hown, hZ, eT⟩ := B
  exact hr.of fun t k => XS.aconstNull X.here hx rfl (hb hby hd) k
theorem o_iloadN (B : Bx own bs ml Z p l e R s m args below meth c T h locs cells slots) (pc pc' : Nat) {k : Fin 4} {v : Int32} (hd : decode bs pc = .ok (.iload_n k, 1)) (hp : pc + 1 = pc') (hl : Ls[k.val]? = some (.val (.int v)))
    (hr : OG p.tables e below P (T.setTop (mkF m pc' Ls (.int v :: rest)))) : OG p.tables e below P (T.setTop (mkF m pc Ls rest)) := by
  subst hp
  obtain ⟨X, hx, hby, hml, hown, hZ, eT⟩ := B
  exact hr.of fun t k => XS.iloadN X.here hx rfl (hb hby hd) hl k
theorem o_iload (B : Bx own bs ml Z p l e R s m args below meth c T h locs cells slots) (pc pc' : Nat) {k : Nat} {v : Int32} (hd : decode bs pc = .ok (.iload k, 2)) (hp : pc + 2 = pc') (hl : Ls[k]? = some (.val (.int v)))
    (hr : OG p.tables e below P (T.setTop (mkF m pc' Ls (.int v :: rest)))) : OG p.tables e below P (T.setTop (mkF m pc Ls rest)) := by
  subst hp
  obtain ⟨X, hx, hby, hml, hown, hZ, eT⟩ := B
  exact hr.of fun t k => XS.iload X.here hx rfl (hb hby hd) hl k
theorem o_lloadN (B : Bx own bs ml Z p l e R s m args below meth c T h locs cells slots) (pc pc' : Nat) {k : Fin 4} {v : Int64} (hd : decode bs pc = .ok (.lload_n k, 1)) (hp : pc + 1 = pc') (hl : Ls[k.val]? = some (.val (.long v)))
    (hr : OG p.tables e below P (T.setTop (mkF m pc' Ls (.long v :: rest)))) : OG p.tables e below P (T.setTop (mkF m pc Ls rest)) := by
  subst hp
  obtain ⟨X, hx, hby, hml, hown, hZ, eT⟩ := B
  exact hr.of fun t k => XT.lloadN X.here hx rfl (hb hby hd) hl k
theorem o_lload (B : Bx own bs ml Z p l e R s m args below meth c T h locs cells slots) (pc pc' : Nat) {k : Nat} {v : Int64} (hd : decode bs pc = .ok (.lload k, 2)) (hp : pc + 2 = pc') (hl : Ls[k]? = some (.val (.long v)))
    (hr : OG p.tables e below P (T.setTop (mkF m pc' Ls (.long v :: rest)))) : OG p.tables e below P (T.setTop (mkF m pc Ls rest)) := by
  subst hp
  obtain ⟨X, hx, hby, hml, hown, hZ, eT⟩ := B
  exact hr.of fun t k => XT.lload X.here hx rfl (hb hby hd) hl k
theorem o_aloadN (B : Bx own bs ml Z p l e R s m args below meth c T h locs cells slots) (pc pc' : Nat) {k : Fin 4} {v : Value} (hd : decode bs pc = .ok (.aload_n k, 1)) (hp : pc + 1 = pc') (hl : Ls[k.val]? = some (.val v)) (hv : v.isRef = true)
    (hr : OG p.tables e below P (T.setTop (mkF m pc' Ls (v :: rest)))) : OG p.tables e below P (T.setTop (mkF m pc Ls rest)) := by
  subst hp
  obtain ⟨X, hx, hby, hml, hown, hZ, eT⟩ := B
  exact hr.of fun t k => XS.aloadN X.here hx rfl (hb hby hd) hl hv k
theorem o_aload (B : Bx own bs ml Z p l e R s m args below meth c T h locs cells slots) (pc pc' : Nat) {k : Nat} {v : Value} (hd : decode bs pc = .ok (.aload k, 2)) (hp : pc + 2 = pc') (hl : Ls[k]? = some (.val v)) (hv : v.isRef = true)
    (hr : OG p.tables e below P (T.setTop (mkF m pc' Ls (v :: rest)))) : OG p.tables e below P (T.setTop (mkF m pc Ls rest)) := by
  subst hp
  obtain ⟨X, hx, hby, hml, hown, hZ, eT⟩ := B
  exact hr.of fun t k => XS.aload X.here hx rfl (hb hby hd) hl hv k
theorem o_istoreN (B : Bx own bs ml Z p l e R s m args below meth c T h locs cells slots) (pc pc' : Nat) {k : Fin 4} {x : Int32} {l' : Array Slot} (hd : decode bs pc = .ok (.istore_n k, 1)) (hp : pc + 1 = pc') (hl : storeLocals Ls k.val (.int x) = some l')
    (hr : OG p.tables e below P (T.setTop (mkF m pc' l' rest))) : OG p.tables e below P (T.setTop (mkF m pc Ls (.int x :: rest))) := by
  subst hp
  obtain ⟨X, hx, hby, hml, hown, hZ, eT⟩ := B
  exact hr.of fun t k => XS.istoreN X.here hx rfl (hb hby hd) rfl hl k
theorem o_istore (B : Bx own bs ml Z p l e R s m args below meth c T h locs cells slots) (pc pc' : Nat) {k : Nat} {x : Int32} {l' : Array Slot} (hd : decode bs pc = .ok (.istore k, 2)) (hp : pc + 2 = pc') (hl : storeLocals Ls k (.int x) = some l')
    (hr : OG p.tables e below P (T.setTop (mkF m pc' l' rest))) : OG p.tables e below P (T.setTop (mkF m pc Ls (.int x :: rest))) := by
  subst hp
  obtain ⟨X, hx, hby, hml, hown, hZ, eT⟩ := B
  exact hr.of fun t k => XS.istore X.here hx rfl (hb hby hd) rfl hl k
theorem o_lstoreN (B : Bx own bs ml Z p l e R s m args below meth c T h locs cells slots) (pc pc' : Nat) {k : Fin 4} {x : Int64} {l' : Array Slot} (hd : decode bs pc = .ok (.lstore_n k, 1)) (hp : pc + 1 = pc') (hl : storeLocals Ls k.val (.long x) = some l')
    (hr : OG p.tables e below P (T.setTop (mkF m pc' l' rest))) : OG p.tables e below P (T.setTop (mkF m pc Ls (.long x :: rest))) := by
  subst hp
  obtain ⟨X, hx, hby, hml, hown, hZ, eT⟩ := B
  exact hr.of fun t k => XT.lstoreN X.here hx rfl (hb hby hd) rfl hl k
theorem o_lstore (B : Bx own bs ml Z p l e R s m args below meth c T h locs cells slots) (pc pc' : Nat) {k : Nat} {x : Int64} {l' : Array Slot} (hd : decode bs pc = .ok (.lstore k, 2)) (hp : pc + 2 = pc') (hl : storeLocals Ls k (.long x) = some l')
    (hr : OG p.tables e below P (T.setTop (mkF m pc' l' rest))) : OG p.tables e below P (T.setTop (mkF m pc Ls (.long x :: rest))) := by
  subst hp
  obtain ⟨X, hx, hby, hml, hown, hZ, eT⟩ := B
  exact hr.of fun t k => XT.lstore X.here hx rfl (hb hby hd) rfl hl k
theorem o_astoreN (B : Bx own bs ml Z p l e R s m args below meth c T h locs cells slots) (pc pc' : Nat) {k : Fin 4} {x : Value} {l' : Array Slot} (hd : decode bs pc = .ok (.astore_n k, 1)) (hp : pc + 1 = pc') (hv : x.isRef = true) (hl : storeLocals Ls k.val x = some l')
    (hr : OG p.tables e below P (T.setTop (mkF m pc' l' rest))) : OG p.tables e below P (T.setTop (mkF m pc Ls (x :: rest))) := by
  subst hp
  obtain ⟨X, hx, hby, hml, hown, hZ, eT⟩ := B
  exact hr.of fun t k => XS.astoreN X.here hx rfl (hb hby hd) rfl hv hl k
theorem o_astore (B : Bx own bs ml Z p l e R s m args below meth c T h locs cells slots) (pc pc' : Nat) {k : Nat} {x : Value} {l' : Array Slot} (hd : decode bs pc = .ok (.astore k, 2)) (hp : pc + 2 = pc') (hv : x.isRef = true) (hl : storeLocals Ls k x = some l')
    (hr : OG p.tables e below P (T.setTop (mkF m pc' l' rest))) : OG p.tables e below P (T.setTop (mkF m pc Ls (x :: rest))) := by
  subst hp
  obtain ⟨X, hx, hby, hml, hown, hZ, eT⟩ := B
  exact hr.of fun t k => XS.astore X.here hx rfl (hb hby hd) rfl hv hl k
theorem o_iinc (B : Bx own bs ml Z p l e R s m args below meth c T h locs cells slots) (pc pc' : Nat) {k : Nat} {cst : Int} {x : Int32} {l' : Array Slot} (v : Int32) (hd : decode bs pc = .ok (.iinc k cst, 3)) (hp : pc + 3 = pc') (hv : Int32.ofInt cst = v) (hl : Ls[k]? = some (.val (.int x))) (hl' : storeLocals Ls k (.int (x + v)) = some l')
    (hr : OG p.tables e below P (T.setTop (mkF m pc' l' rest))) : OG p.tables e below P (T.setTop (mkF m pc Ls rest)) := by
  subst hp
  obtain ⟨X, hx, hby, hml, hown, hZ, eT⟩ := B
  exact hr.of fun t k => XT.iincV X.here hx rfl v (hb hby hd) hv hl hl' k
theorem o_goto (B : Bx own bs ml Z p l e R s m args below meth c T h locs cells slots) (pc pc' : Nat) {o : Int} (hd : decode bs pc = .ok (.goto o, 3))  (ho : 0 ≤ (pc : Int) + o) (hp : ((pc : Int) + o).toNat = pc')
    (hr : OG p.tables e below P (T.setTop (mkF m pc' Ls rest))) : OG p.tables e below P (T.setTop (mkF m pc Ls rest)) := by
  obtain ⟨X, hx, hby, hml, hown, hZ, eT⟩ := B
  exact hr.of fun t k => XS.goto X.here hx rfl (pc0 := pc) (pc' := pc') rfl (hb hby hd) ho hp k
theorem o_ifY (B : Bx own bs ml Z p l e R s m args below meth c T h locs cells slots) (pc pc' : Nat) {cd : ClassFile.Cond} {o : Int} {x : Int32} (hd : decode bs pc = .ok (.ifCond cd o, 3))  (hc : ifCond.holds cd x = true) (ho : 0 ≤ (pc : Int) + o) (hp : ((pc : Int) + o).toNat = pc')
    (hr : OG p.tables e below P (T.setTop (mkF m pc' Ls rest))) : OG p.tables e below P (T.setTop (mkF m pc Ls (.int x :: rest))) := by
  obtain ⟨X, hx, hby, hml, hown, hZ, eT⟩ := B
  exact hr.of fun t k => XS.ifYes X.here hx rfl (pc0 := pc) (pc' := pc') rfl (hb hby hd) rfl hc ho hp k
theorem o_ifN (B : Bx own bs ml Z p l e R s m args below meth c T h locs cells slots) (pc pc' : Nat) {cd : ClassFile.Cond} {o : Int} {x : Int32} (hd : decode bs pc = .ok (.ifCond cd o, 3)) (hp : pc + 3 = pc') (hc : ifCond.holds cd x = false)
    (hr : OG p.tables e below P (T.setTop (mkF m pc' Ls rest))) : OG p.tables e below P (T.setTop (mkF m pc Ls (.int x :: rest))) := by
  subst hp
  obtain ⟨X, hx, hby, hml, hown, hZ, eT⟩ := B
  exact hr.of fun t k => XS.ifNo X.here hx rfl (hb hby hd) rfl hc k
theorem o_icY (B : Bx own bs ml Z p l e R s m args below meth c T h locs cells slots) (pc pc' : Nat) {cd : ClassFile.Cond} {o : Int} {x y : Int32} (hd : decode bs pc = .ok (.if_icmp cd o, 3))  (hc : if_icmp.holds cd x y = true) (ho : 0 ≤ (pc : Int) + o) (hp : ((pc : Int) + o).toNat = pc')
    (hr : OG p.tables e below P (T.setTop (mkF m pc' Ls rest))) : OG p.tables e below P (T.setTop (mkF m pc Ls (.int y :: .int x :: rest))) := by
  obtain ⟨X, hx, hby, hml, hown, hZ, eT⟩ := B
  exact hr.of fun t k => XS.icmpYes X.here hx rfl (pc0 := pc) (pc' := pc') rfl (hb hby hd) rfl hc ho hp k
theorem o_icN (B : Bx own bs ml Z p l e R s m args below meth c T h locs cells slots) (pc pc' : Nat) {cd : ClassFile.Cond} {o : Int} {x y : Int32} (hd : decode bs pc = .ok (.if_icmp cd o, 3)) (hp : pc + 3 = pc') (hc : if_icmp.holds cd x y = false)
    (hr : OG p.tables e below P (T.setTop (mkF m pc' Ls rest))) : OG p.tables e below P (T.setTop (mkF m pc Ls (.int y :: .int x :: rest))) := by
  subst hp
  obtain ⟨X, hx, hby, hml, hown, hZ, eT⟩ := B
  exact hr.of fun t k => XS.icmpNo X.here hx rfl (hb hby hd) rfl hc k
theorem o_dup (B : Bx own bs ml Z p l e R s m args below meth c T h locs cells slots) (pc pc' : Nat) {x : Value} (hd : decode bs pc = .ok (.dup, 1)) (hp : pc + 1 = pc') (hc : x.category = 1)
    (hr : OG p.tables e below P (T.setTop (mkF m pc' Ls (x :: x :: rest)))) : OG p.tables e below P (T.setTop (mkF m pc Ls (x :: rest))) := by
  subst hp
  obtain ⟨X, hx, hby, hml, hown, hZ, eT⟩ := B
  exact hr.of fun t k => XS.dup X.here hx rfl (hb hby hd) rfl hc k
theorem o_pop (B : Bx own bs ml Z p l e R s m args below meth c T h locs cells slots) (pc pc' : Nat) {x : Value} (hd : decode bs pc = .ok (.pop, 1)) (hp : pc + 1 = pc') (hc : x.category = 1)
    (hr : OG p.tables e below P (T.setTop (mkF m pc' Ls rest))) : OG p.tables e below P (T.setTop (mkF m pc Ls (x :: rest))) := by
  subst hp
  obtain ⟨X, hx, hby, hml, hown, hZ, eT⟩ := B
  exact hr.of fun t k => XT.pop X.here hx rfl (hb hby hd) rfl hc k
theorem o_dup_x1 (B : Bx own bs ml Z p l e R s m args below meth c T h locs cells slots) (pc pc' : Nat) {x y : Value} (hd : decode bs pc = .ok (.dup_x1, 1)) (hp : pc + 1 = pc') (hc : x.category = 1) (hc' : y.category = 1)
    (hr : OG p.tables e below P (T.setTop (mkF m pc' Ls (x :: y :: x :: rest)))) : OG p.tables e below P (T.setTop (mkF m pc Ls (x :: y :: rest))) := by
  subst hp
  obtain ⟨X, hx, hby, hml, hown, hZ, eT⟩ := B
  exact hr.of fun t k => XT.dupX1 X.here hx rfl (hb hby hd) rfl hc hc' k
theorem o_dup2 (B : Bx own bs ml Z p l e R s m args below meth c T h locs cells slots) (pc pc' : Nat) {x y : Value} (hd : decode bs pc = .ok (.dup2, 1)) (hp : pc + 1 = pc') (hc : x.category = 1) (hc' : y.category = 1)
    (hr : OG p.tables e below P (T.setTop (mkF m pc' Ls (x :: y :: x :: y :: rest)))) : OG p.tables e below P (T.setTop (mkF m pc Ls (x :: y :: rest))) := by
  subst hp
  obtain ⟨X, hx, hby, hml, hown, hZ, eT⟩ := B
  exact hr.of fun t k => XT.dup2 X.here hx rfl (hb hby hd) rfl hc hc' k
theorem o_dup2L (B : Bx own bs ml Z p l e R s m args below meth c T h locs cells slots) (pc pc' : Nat) {x : Int64} (hd : decode bs pc = .ok (.dup2, 1)) (hp : pc + 1 = pc') 
    (hr : OG p.tables e below P (T.setTop (mkF m pc' Ls (.long x :: .long x :: rest)))) : OG p.tables e below P (T.setTop (mkF m pc Ls (.long x :: rest))) := by
  subst hp
  obtain ⟨X, hx, hby, hml, hown, hZ, eT⟩ := B
  exact hr.of fun t k => XT.dup2L X.here hx rfl (hb hby hd) rfl k
theorem o_ldc (B : Bx own bs ml Z p l e R s m args below meth c T h locs cells slots) (pc pc' : Nat) {i : Nat} {v : Int32} (hd : decode bs pc = .ok (.ldc i, 2)) (hp : pc + 2 = pc') (w : (Cond.constant own i v).before a0 Z = true)
    (hr : OG p.tables e below P (T.setTop (mkF m pc' Ls (.int v :: rest)))) : OG p.tables e below P (T.setTop (mkF m pc Ls rest)) := by
  subst hp
  obtain ⟨X, hx, hby, hml, hown, hZ, eT⟩ := B
  exact hr.of fun t k => X.ldcI hx hown (mv hZ w) rfl (hb hby hd) k
theorem o_ldc_w (B : Bx own bs ml Z p l e R s m args below meth c T h locs cells slots) (pc pc' : Nat) {i : Nat} {v : Int32} (hd : decode bs pc = .ok (.ldc_w i, 3)) (hp : pc + 3 = pc') (w : (Cond.constant own i v).before a0 Z = true)
    (hr : OG p.tables e below P (T.setTop (mkF m pc' Ls (.int v :: rest)))) : OG p.tables e below P (T.setTop (mkF m pc Ls rest)) := by
  subst hp
  obtain ⟨X, hx, hby, hml, hown, hZ, eT⟩ := B
  exact hr.of fun t k => X.ldcWI hx hown (mv hZ w) rfl (hb hby hd) k
theorem o_ldc2 (B : Bx own bs ml Z p l e R s m args below meth c T h locs cells slots) (pc pc' : Nat) {i : Nat} {v : Int64} (hd : decode bs pc = .ok (.ldc2_w i, 3)) (hp : pc + 3 = pc') (w : (Cond.constantLong own i v).before a0 Z = true)
    (hr : OG p.tables e below P (T.setTop (mkF m pc' Ls (.long v :: rest)))) : OG p.tables e below P (T.setTop (mkF m pc Ls rest)) := by
  subst hp
  obtain ⟨X, hx, hby, hml, hown, hZ, eT⟩ := B
  exact hr.of fun t k => X.ldc2J hx hown (mv hZ w) rfl (hb hby hd) k
theorem o_topI {pc : Nat} {x y : Int32} (q : x = y) (hr : OG p.tables e below P (T.setTop (mkF m pc Ls (.int y :: rest)))) : OG p.tables e below P (T.setTop (mkF m pc Ls (.int x :: rest))) := q ▸ hr
theorem o_topJ {pc : Nat} {x y : Int64} (q : x = y) (hr : OG p.tables e below P (T.setTop (mkF m pc Ls (.long y :: rest)))) : OG p.tables e below P (T.setTop (mkF m pc Ls (.long x :: rest))) := q ▸ hr
theorem o_iincC (B : Bx own bs ml Z p l e R s m args below meth c T h locs cells slots) (pc pc' : Nat) {k : Nat} {cst : Int} {x : Int32} {l' : Array Slot} (v y : Int32) (hd : decode bs pc = .ok (.iinc k cst, 3)) (hp : pc + 3 = pc') (hv : Int32.ofInt cst = v) (hl : Ls[k]? = some (.val (.int x))) (hy : x + v = y) (hl' : storeLocals Ls k (.int y) = some l')
    (hr : OG p.tables e below P (T.setTop (mkF m pc' l' rest))) : OG p.tables e below P (T.setTop (mkF m pc Ls rest)) := by
  subst hp
  obtain ⟨X, hx, hby, hml, hown, hZ, eT⟩ := B
  exact hr.of fun t k => XT.iincV X.here hx rfl v (hb hby hd) hv hl (hy ▸ hl') k
theorem o_retZ {Q : Option Value → Heap → List Loc → Prop} {kc ks : Nat} (B : Bx own bs ml Z p l e R s m args below meth c T h locs cells slots) (pc : Nat) {z : Int32} {t : FieldType} (hd : decode bs pc = .ok (.ireturn, 1)) (hret : meth.sig.returnType = some t) (hlk : meth.locks = false) (ht : t = .boolean ∨ t = .byte ∨ t = .char ∨ t = .short) (hc : cells ≤ kc) (hs : slots ≤ ks) (hq : Q (some (.int (nar t z))) h locs) :
    OG p.tables e below (fun o s₂ => ∃ v L, o = .returned v ∧ Q v s₂.heap L ∧ FrameEnd s o s₂ L kc ks) (T.setTop (mkF m pc Ls (.int z :: rest))) := by
  obtain ⟨X, hx, hby, hml, hown, hZ, eT⟩ := B
  subst eT
  obtain ⟨fs, hr, hrun, hended, hW, hsame⟩ := X.leave (v := some (.int (nar t z))) (fun hn => by rw [hret] at hn; cases hn) hlk
  exact ⟨_, _, retN X hx hret ht (hb hby hd) hr, hrun, hended, _, _, rfl, hq, ⟨_, rfl⟩, hW, hsame.mono hc hs⟩
theorem o_retI0 (X : Stand p l e R s m args below meth c T locs cells slots) (hx : p.tables.exec = Jvm.exec) {pc : Nat} {z : Int32} (hret : meth.sig.returnType = some .int) (hd : decode c.code pc = .ok (.ireturn, 1)) {fs : List Frame}
    (hl : ∀ (f : JFrame) (acts : List Action), f.method = m → f.locked = none → f.entered = [] → (doReturn e (T.setTop f) acts (some (.int z))).1 = T.setFrames fs) : Steps p.tables e below (T.setTop (mkF m pc Ls (.int z :: rest))) (T.setFrames fs) :=
  retOut X hx hret rfl (Or.inl ⟨rfl, Or.inl rfl, _, rfl⟩) hd hl
theorem o_retI {Q : Option Value → Heap → List Loc → Prop} {kc ks : Nat} (B : Bx own bs ml Z p l e R s m args below meth c T h locs cells slots) (pc : Nat) {z : Int32} (hd : decode bs pc = .ok (.ireturn, 1)) (hret : meth.sig.returnType = some .int) (hlk : meth.locks = false)  (hc : cells ≤ kc) (hs : slots ≤ ks) (hq : Q (some (.int z)) h locs) :
    OG p.tables e below (fun o s₂ => ∃ v L, o = .returned v ∧ Q v s₂.heap L ∧ FrameEnd s o s₂ L kc ks) (T.setTop (mkF m pc Ls (.int z :: rest))) := by
  obtain ⟨X, hx, hby, hml, hown, hZ, eT⟩ := B
  subst eT
  obtain ⟨fs, hr, hrun, hended, hW, hsame⟩ := X.leave (v := some (.int z)) (fun hn => by rw [hret] at hn; cases hn) hlk
  exact ⟨_, _, o_retI0 X hx hret (hb hby hd) hr, hrun, hended, _, _, rfl, hq, ⟨_, rfl⟩, hW, hsame.mono hc hs⟩
theorem o_retL {Q : Option Value → Heap → List Loc → Prop} {kc ks : Nat} (B : Bx own bs ml Z p l e R s m args below meth c T h locs cells slots) (pc : Nat) {z : Int64} (hd : decode bs pc = .ok (.lreturn, 1)) (hret : meth.sig.returnType = some .long) (hlk : meth.locks = false)  (hc : cells ≤ kc) (hs : slots ≤ ks) (hq : Q (some (.long z)) h locs) :
    OG p.tables e below (fun o s₂ => ∃ v L, o = .returned v ∧ Q v s₂.heap L ∧ FrameEnd s o s₂ L kc ks) (T.setTop (mkF m pc Ls [.long z])) := by
  obtain ⟨X, hx, hby, hml, hown, hZ, eT⟩ := B
  subst eT
  obtain ⟨fs, hr, hrun, hended, hW, hsame⟩ := X.leave (v := some (.long z)) (fun hn => by rw [hret] at hn; cases hn) hlk
  exact ⟨_, _, X.lreturnOut hx hret (hb hby hd) hr, hrun, hended, _, _, rfl, hq, ⟨_, rfl⟩, hW, hsame.mono hc hs⟩
theorem o_retA {Q : Option Value → Heap → List Loc → Prop} {kc ks : Nat} (B : Bx own bs ml Z p l e R s m args below meth c T h locs cells slots) (pc : Nat) {z : Value} {t : FieldType} (hd : decode bs pc = .ok (.areturn, 1)) (hret : meth.sig.returnType = some t) (hlk : meth.locks = false) (ht : t.isReference = true) (hz : z.isRef = true) (hc : cells ≤ kc) (hs : slots ≤ ks) (hq : Q (some z) h locs) :
    OG p.tables e below (fun o s₂ => ∃ v L, o = .returned v ∧ Q v s₂.heap L ∧ FrameEnd s o s₂ L kc ks) (T.setTop (mkF m pc Ls [z])) := by
  obtain ⟨X, hx, hby, hml, hown, hZ, eT⟩ := B
  subst eT
  obtain ⟨fs, hr, hrun, hended, hW, hsame⟩ := X.leave (v := some z) (fun hn => by rw [hret] at hn; cases hn) hlk
  exact ⟨_, _, X.areturnOut hx hz hret ht (hb hby hd) hr, hrun, hended, _, _, rfl, hq, ⟨_, rfl⟩, hW, hsame.mono hc hs⟩
theorem o_retV {Q : Option Value → Heap → List Loc → Prop} {kc ks : Nat} (B : Bx own bs ml Z p l e R s m args below meth c T h locs cells slots) (pc : Nat)  (hd : decode bs pc = .ok (.return_, 1)) (hret : meth.sig.returnType = none) (hlk : meth.locks = false)  (hc : cells ≤ kc) (hs : slots ≤ ks) (hq : Q (none) h locs) :
    OG p.tables e below (fun o s₂ => ∃ v L, o = .returned v ∧ Q v s₂.heap L ∧ FrameEnd s o s₂ L kc ks) (T.setTop (mkF m pc Ls [])) := by
  obtain ⟨X, hx, hby, hml, hown, hZ, eT⟩ := B
  subst eT
  obtain ⟨fs, hr, hrun, hended, hW, hsame⟩ := X.leave (v := none) (fun _ => rfl) hlk
  exact ⟨_, _, X.returnOut hx hret (hb hby hd) hr, hrun, hended, _, _, rfl, hq, ⟨_, rfl⟩, hW, hsame.mono hc hs⟩
/-- a body's contract, out of its walk -/
theorem enter {y : MethodName} {ret : Option FieldType} {rm : Room} {ws : List Jvm.Cond} {as' : Array Value} {h0 : Heap} {Q : Option Value → Heap → List Loc → Prop} {kc ks : Nat} (hpl : plainFor y = true) (Ls : Array Slot)
    (hL : Jvm.Sym.laidSlots as'.toList ++ List.replicate (ml - (Jvm.Sym.laidSlots as'.toList).length) .unset = Ls.toList)
    (body : ∀ (p : Program) (e : Env) (s : State) (m : MethodId) (below : List Frame) (meth : Method) (c : Code) (T : State), Bx y.cls bs ml Z p l e rm s m as' below meth c T h0 [] 0 0 → meth.sig.returnType = ret → meth.locks = false → meth.name = y.name →
      OG p.tables e below (fun o s₂ => ∃ v L, o = .returned v ∧ Q v s₂.heap L ∧ FrameEnd s o s₂ L kc ks) (T.setTop (mkF m 0 Ls []))) :
    MetFree l y (head1 (Jvm.Cond.code y bs ml ret :: ws) rm) (fun a U => a = as' ∧ Z.Warmed39 U.vm ∧ U.heap = h0) (fun _ _ _ _ _ => True) (fun _ U o U' => ∃ v L, o = .returned v ∧ Q v U'.heap L ∧ FrameEnd U o U' L kc ks) := by
  refine MetFree.of_bodySF hpl hisR ?_
  intro p e s m args below meth c s₁ Bd hml0 hP hK
  obtain ⟨rfl, hZ, hh⟩ := hP
  have e0 : s₁.heap = h0 := by rw [← hh, Bd.state]; rfl
  have r := body p e s m below meth c s₁ ⟨Stand.of_body Bd, Bd.exec, Bd.bytes, hml0, findClass_of_methodNamed Bd.named, hZ, e0⟩ Bd.returns (BodyLoose.notSynchronized Bd) (name_of_methodNamed Bd.named Bd.method).1
  exact OG.of r fun t k => (XT.entry hL).trans k
/-- what a callee owes -/
abbrev Met (l : Launch) (Z : State) (y : MethodName) (bytes : ByteArray) (maxL : Nat) (ret : Option FieldType) (rm : Room) (as' : Array Value) (h : Heap) (Q : Option Value → Heap → List Loc → Prop) : Prop :=
  MetFree l y (head1 [Jvm.Cond.code y bytes maxL ret] rm) (fun a U => a = as' ∧ Z.Warmed39 U.vm ∧ U.heap = h) (fun _ _ _ _ _ => True) (fun _ U o U' => ∃ v L, o = .returned v ∧ Q v U'.heap L ∧ FrameEnd U o U' L rm.cells rm.slots)
theorem o_callS {index : Nat} {y : MethodName} {bytes : ByteArray} {maxL : Nat} {ret : Option FieldType} {rm : Room} {as' : Array Value} {Q : Option Value → Heap → List Loc → Prop} {ps : List FieldType} {rt : Option FieldType}
    (B : Bx own bs ml Z p l e R s m args below meth c T h locs cells slots) (pc pc' : Nat) (hd : decode bs pc = .ok (.invokestatic index, 3)) (hp : pc + 3 = pc')
    (w1 : (Cond.methodLink own index y).before a0 Z = true) (w2 : (Cond.static y).before a0 Z = true) (w3 : (Cond.initialized y.cls).before a0 Z = true) (w4 : (Cond.code y bytes maxL ret).before a0 Z = true) (hy : y.cls ≠ "java/lang/invoke/MethodHandle" ∧ y.cls ≠ "java/lang/invoke/VarHandle")
    (hM : Met l Z y bytes maxL ret rm as' h Q) (W : Nat) (argsL rest : List Value) (hpd : parseMethodDescriptor y.desc = some ⟨ps, rt⟩) (hlen : argsL.length = ps.length) (has : argsL.toArray = as') {st : List Value} (hst : st = argsL.reverse ++ rest) (hsz : Ls.size = ml)
    (hW : (rest.map fun v => v.category).sum ≤ W) (hf : rm.frames + 1 ≤ R.frames) (hl : W + (maxL + 11) + rm.locals ≤ R.locals) (hcl : cells + rm.cells ≤ R.cells) (hsl : slots + rm.slots ≤ R.slots) :
    ∃ v T' L, Bx own bs ml Z p l e R s m args below meth c T' T'.heap (locs ++ L) (cells + rm.cells) (slots + rm.slots) ∧ Q v T'.heap L ∧
      ∀ {P : Outcome → State → Prop}, OG p.tables e below P (T'.setTop (mkF m pc' Ls (v.toList ++ rest))) → OG p.tables e below P (T.setTop (mkF m pc Ls st)) := by
  subst hp hst
  obtain ⟨X, hx, hby, hml, hown, hZ, eT⟩ := B
  obtain ⟨v, vm1, ⟨T', L', k', n'⟩, -, X', ⟨Lc, hQ, l', y', z'⟩, st⟩ := Jvm.LawKit.callS X hx (y := y) hown (mvT hZ w1) (mvT hZ w2) (mvT hZ w3) (mvT hZ w4) hy (backOf (W := W) hM hZ w4 w3 hf hl) (g := mkF m pc Ls (argsL.reverse ++ rest)) rfl (by rw [hml]; exact hsz) (argsL := argsL) (rest := rest) (lenOf hpd hlen) rfl (by simpa using hW) (hb hby hd) (fun _ _ => ⟨has, eT, hcl, hsl⟩)
  dsimp only [Pt.U, Pt.locs, Pt.cells, Pt.slots] at X' l' y' z' st hQ
  subst l' y' z'
  exact ⟨v, T', Lc, ⟨X', hx, hby, hml, hown, hZ, rfl⟩, hQ, fun k => k.of st⟩
/-- a callee that writes and makes nothing -/
def Pu (r : Option Value) (h : Heap) (v : Option Value) (h' : Heap) (L : List Loc) : Prop := v = r ∧ L = [] ∧ h' = h
theorem o_callP {index : Nat} {y : MethodName} {bytes : ByteArray} {maxL : Nat} {ret : Option FieldType} {fr lo : Nat} {as' : Array Value} {r : Value} {ps : List FieldType} {rt : Option FieldType}
    (B : Bx own bs ml Z p l e R s m args below meth c T h locs cells slots) (pc pc' : Nat) (hd : decode bs pc = .ok (.invokestatic index, 3)) (hp : pc + 3 = pc')
    (w1 : (Cond.methodLink own index y).before a0 Z = true) (w2 : (Cond.static y).before a0 Z = true) (w3 : (Cond.initialized y.cls).before a0 Z = true) (w4 : (Cond.code y bytes maxL ret).before a0 Z = true) (hy : y.cls ≠ "java/lang/invoke/MethodHandle" ∧ y.cls ≠ "java/lang/invoke/VarHandle")
    (hM : Met l Z y bytes maxL ret ({ frames := fr, cells := 0, slots := 0, locals := lo } : Room) as' h (Pu (some r) h)) (W : Nat) (argsL rest : List Value) (hpd : parseMethodDescriptor y.desc = some ⟨ps, rt⟩) (hlen : argsL.length = ps.length) (has : argsL.toArray = as') {st : List Value} (hst : st = argsL.reverse ++ rest) (hsz : Ls.size = ml)
    (hW : (rest.map fun v => v.category).sum ≤ W) (hf : fr + 1 ≤ R.frames) (hl : W + (maxL + 11) + lo ≤ R.locals) (hcl : cells ≤ R.cells) (hsl : slots ≤ R.slots) :
    ∃ T', Bx own bs ml Z p l e R s m args below meth c T' h locs cells slots ∧
      ∀ {P : Outcome → State → Prop}, OG p.tables e below P (T'.setTop (mkF m pc' Ls (r :: rest))) → OG p.tables e below P (T.setTop (mkF m pc Ls st)) := by
  obtain ⟨v, T', L, B', ⟨rfl, rfl, hh⟩, st⟩ := o_callS B pc pc' hd hp w1 w2 w3 w4 hy hM W argsL rest hpd hlen has hst hsz hW hf hl hcl hsl
  rw [hh, List.append_nil] at B'
  exact ⟨T', B', st⟩
end Walk
theorem b_ne_t {c : Prop} [Decidable c] (h : c) : ifCond.holds .ne (if c then (1 : Int32) else 0) = true := by rw [if_pos h]; rfl
theorem b_ne_f {c : Prop} [Decidable c] (h : ¬ c) : ifCond.holds .ne (if c then (1 : Int32) else 0) = false := by rw [if_neg h]; rfl
theorem b_eq_t {c : Prop} [Decidable c] (h : ¬ c) : ifCond.holds .eq (if c then (1 : Int32) else 0) = true := by rw [if_neg h]; rfl
theorem b_eq_f {c : Prop} [Decidable c] (h : c) : ifCond.holds .eq (if c then (1 : Int32) else 0) = false := by rw [if_pos h]; rfl
/-! 2. arrays by a function of the place -/
def AI (Z : State) (h : Heap) (a : Addr) (ty : FieldType) (n : Nat) (g : Nat → Int32) : Prop := ∃ c : Cell, Arr Z h a c ty ∧ c.slots.size = n ∧ n < 2147483648 ∧ ∀ j, j < n → c.slots[j]? = some (.int (g j))
def AJ (Z : State) (h : Heap) (a : Addr) (n : Nat) (g : Nat → Int64) : Prop := ∃ c : Cell, Arr Z h a c .long ∧ c.slots.size = n ∧ n < 2147483648 ∧ ∀ j, j < n → c.slots[j]? = some (.long (g j))
section Arrays
variable {Z : State} {h h' : Heap} {a b : Addr} {ty : FieldType} {n i : Nat} {v : Value} {ws : List Addr}
theorem AI.ext {g : Nat → Int32} (A : AI Z h a ty n g) (E : Ext h h') : AI Z h' a ty n g := by obtain ⟨c, A, r⟩ := A; exact ⟨c, A.ext E, r⟩
theorem AI.other {g : Nat → Int32} (A : AI Z h a ty n g) (W : Wr h h' b i v) (q : a ≠ b) : AI Z h' a ty n g := by obtain ⟨c, A, r⟩ := A; exact ⟨c, A.other W q, r⟩
theorem AI.keep {g : Nat → Int32} (A : AI Z h a ty n g) (K : Keep h h' ws) (q : a ∉ ws) : AI Z h' a ty n g := by obtain ⟨c, A, r⟩ := A; exact ⟨c, ⟨K.2.1 a c A.1 q, A.2⟩, r⟩
theorem AI.lt {g : Nat → Int32} (A : AI Z h a ty n g) : a < h.size := by obtain ⟨c, A, r⟩ := A; exact A.lt
theorem AI.len {g : Nat → Int32} (A : AI Z h a ty n g) : n < 2147483648 := by obtain ⟨c, A, r, q, _⟩ := A; exact q
theorem AI.alt {g g' : Nat → Int32} (A : AI Z h a ty n g) (q : ∀ j, j < n → g' j = g j) : AI Z h a ty n g' := by obtain ⟨c, A, r, s, H⟩ := A; exact ⟨c, A, r, s, fun j hj => by rw [q j hj]; exact H j hj⟩
theorem AI.set {g : Nat → Int32} {x : Int32} (A : AI Z h a ty n g) (W : Wr h h' a i (.int x)) : AI Z h' a ty n (fun j => if j = i then x else g j) := by
  obtain ⟨c, A, S, hn, H⟩ := A
  refine ⟨c.setSlot i (.int x), Arr.same W A, by simp [Cell.setSlot, S], hn, fun j hj => ?_⟩
  show (c.slots.setIfInBounds i (.int x))[j]? = some (.int (if j = i then x else g j))
  by_cases e : j = i
  · subst e; rw [if_pos rfl]; simp [S, hj]
  · rw [if_neg e, Array.getElem?_setIfInBounds_ne (Ne.symm e)]; exact H j hj
theorem AJ.ext {g : Nat → Int64} (A : AJ Z h a n g) (E : Ext h h') : AJ Z h' a n g := by obtain ⟨c, A, r⟩ := A; exact ⟨c, A.ext E, r⟩
theorem AJ.other {g : Nat → Int64} (A : AJ Z h a n g) (W : Wr h h' b i v) (q : a ≠ b) : AJ Z h' a n g := by obtain ⟨c, A, r⟩ := A; exact ⟨c, A.other W q, r⟩
theorem AJ.keep {g : Nat → Int64} (A : AJ Z h a n g) (K : Keep h h' ws) (q : a ∉ ws) : AJ Z h' a n g := by obtain ⟨c, A, r⟩ := A; exact ⟨c, ⟨K.2.1 a c A.1 q, A.2⟩, r⟩
theorem AJ.lt {g : Nat → Int64} (A : AJ Z h a n g) : a < h.size := by obtain ⟨c, A, r⟩ := A; exact A.lt
theorem AJ.len {g : Nat → Int64} (A : AJ Z h a n g) : n < 2147483648 := by obtain ⟨c, A, r, q, _⟩ := A; exact q
theorem AJ.alt {g g' : Nat → Int64} (A : AJ Z h a n g) (q : ∀ j, j < n → g' j = g j) : AJ Z h a n g' := by obtain ⟨c, A, r, s, H⟩ := A; exact ⟨c, A, r, s, fun j hj => by rw [q j hj]; exact H j hj⟩
theorem AJ.set {g : Nat → Int64} {x : Int64} (A : AJ Z h a n g) (W : Wr h h' a i (.long x)) : AJ Z h' a n (fun j => if j = i then x else g j) := by
  obtain ⟨c, A, S, hn, H⟩ := A
  refine ⟨c.setSlot i (.long x), Arr.same W A, by simp [Cell.setSlot, S], hn, fun j hj => ?_⟩
  show (c.slots.setIfInBounds i (.long x))[j]? = some (.long (if j = i then x else g j))
  by_cases e : j = i
  · subst e; rw [if_pos rfl]; simp [S, hj]
  · rw [if_neg e, Array.getElem?_setIfInBounds_ne (Ne.symm e)]; exact H j hj
theorem in_of {c : Cell} {j : Int32} (S : c.slots.size = n) (h0 : ¬ j < 0) (hj : j.toNatClampNeg = i) (hi : i < n) : ¬ (j < 0 ∨ c.slots.size ≤ j.toNatClampNeg) := by rw [S, hj]; rintro (q | q); exact h0 q; omega
end Arrays
theorem ix_of {j : Int32} {k : Nat} (h : j.toInt = k) : ¬ j < 0 ∧ j.toNatClampNeg = k := by
  rw [Int32.lt_iff_toInt_lt, Int32.toInt_zero]
  simp only [Int32.toNatClampNeg, h]
  omega
theorem ix_add {j : Int32} {k : Nat} (c : Int32) (n : Nat) (h : j.toInt = k) (hc : c.toInt = n) (hk : k + n < 2147483648) : (j + c).toInt = (k + n : Nat) := by
  have a := c_iadd j c
  have r := rng32 (j + c)
  omega
theorem nar_bb (x : Int32) : nar .byte x.toInt8.toInt32 = x.toInt8.toInt32 := by simp [nar]
theorem nar_cc (x : Int32) : nar .char x.toUInt32.toUInt16.toUInt32.toInt32 = x.toUInt32.toUInt16.toUInt32.toInt32 := by simp only [nar, UInt32.toUInt32_toInt32, UInt16.toUInt16_toUInt32]
def Lw (n0 : Nat) (r : Option Value) (v : Option Value) (h : Heap) (L : List Loc) : Prop := v = r ∧ Fr n0 L
section Walk2
variable {own : String} {bs : ByteArray} {ml : Nat} {Z : State} {p : Program} {l : Launch} {e : Env} {R : Room} {s : State} {m : MethodId} {args : Array Value} {below : List Frame} {meth : Method} {c : Code} {T : State} {h : Heap} {locs : List Loc} {cells slots n0 : Nat} {P : Outcome → State → Prop} {Ls : Array Slot} {rest : List Value} {a0 : Array Value} {a : Addr} {n : Nat}
theorem o_iaload (B : Bx own bs ml Z p l e R s m args below meth c T h locs cells slots) (pc pc' : Nat) {g : Nat → Int32} (A : AI Z h a .int n g) {j : Int32} (i : Nat) (v : Int32) (hd : decode bs pc = .ok (.iaload, 1)) (hp : pc + 1 = pc') (h0 : ¬ j < 0) (hj : j.toNatClampNeg = i) (hi : i < n) (hv : g i = v)
    (hr : OG p.tables e below P (T.setTop (mkF m pc' Ls (.int v :: rest)))) : OG p.tables e below P (T.setTop (mkF m pc Ls (.int j :: .ref a :: rest))) := by
  subst hp hv
  obtain ⟨X, hx, hby, hml, hown, hZ, eT⟩ := B
  obtain ⟨cl, A, S, hn, H⟩ := A
  exact hr.of fun t k => X.iaload hx (by rw [eT]; exact A.1) (State.isArrayOf_alike hZ.alike A.2.1) A.2.2 (in_of S h0 hj hi) (by rw [hj]; exact H i hi) (g := mkF m pc Ls (.int j :: .ref a :: rest)) rfl rfl (hb hby hd) t k
theorem o_caload (B : Bx own bs ml Z p l e R s m args below meth c T h locs cells slots) (pc pc' : Nat) {g : Nat → Int32} (A : AI Z h a .char n g) {j : Int32} (i : Nat) (v : Int32) (hd : decode bs pc = .ok (.caload, 1)) (hp : pc + 1 = pc') (h0 : ¬ j < 0) (hj : j.toNatClampNeg = i) (hi : i < n) (hv : g i = v)
    (hr : OG p.tables e below P (T.setTop (mkF m pc' Ls (.int v :: rest)))) : OG p.tables e below P (T.setTop (mkF m pc Ls (.int j :: .ref a :: rest))) := by
  subst hp hv
  obtain ⟨X, hx, hby, hml, hown, hZ, eT⟩ := B
  obtain ⟨cl, A, S, hn, H⟩ := A
  exact hr.of fun t k => X.caload hx (by rw [eT]; exact A.1) (State.isArrayOf_alike hZ.alike A.2.1) A.2.2 (in_of S h0 hj hi) (by rw [hj]; exact H i hi) (g := mkF m pc Ls (.int j :: .ref a :: rest)) rfl rfl (hb hby hd) t k
theorem o_baload (B : Bx own bs ml Z p l e R s m args below meth c T h locs cells slots) (pc pc' : Nat) {g : Nat → Int32} (A : AI Z h a .byte n g) {j : Int32} (i : Nat) (v : Int32) (hd : decode bs pc = .ok (.baload, 1)) (hp : pc + 1 = pc') (h0 : ¬ j < 0) (hj : j.toNatClampNeg = i) (hi : i < n) (hv : g i = v)
    (hr : OG p.tables e below P (T.setTop (mkF m pc' Ls (.int v :: rest)))) : OG p.tables e below P (T.setTop (mkF m pc Ls (.int j :: .ref a :: rest))) := by
  subst hp hv
  obtain ⟨X, hx, hby, hml, hown, hZ, eT⟩ := B
  obtain ⟨cl, A, S, hn, H⟩ := A
  exact hr.of fun t k => X.baloadBytes hx (by rw [eT]; exact A.1) (State.isArrayOf_alike hZ.alike A.2.1) A.2.2 (in_of S h0 hj hi) (by rw [hj]; exact H i hi) (g := mkF m pc Ls (.int j :: .ref a :: rest)) rfl rfl (hb hby hd) t k
theorem o_zaload (B : Bx own bs ml Z p l e R s m args below meth c T h locs cells slots) (pc pc' : Nat) {g : Nat → Int32} (A : AI Z h a .boolean n g) {j : Int32} (i : Nat) (v : Int32) (hd : decode bs pc = .ok (.baload, 1)) (hp : pc + 1 = pc') (h0 : ¬ j < 0) (hj : j.toNatClampNeg = i) (hi : i < n) (hv : g i = v)
    (hr : OG p.tables e below P (T.setTop (mkF m pc' Ls (.int v :: rest)))) : OG p.tables e below P (T.setTop (mkF m pc Ls (.int j :: .ref a :: rest))) := by
  subst hp hv
  obtain ⟨X, hx, hby, hml, hown, hZ, eT⟩ := B
  obtain ⟨cl, A, S, hn, H⟩ := A
  exact hr.of fun t k => X.baloadBooleans hx (by rw [eT]; exact A.1) (State.isArrayOf_alike hZ.alike A.2.1) A.2.2 (in_of S h0 hj hi) (by rw [hj]; exact H i hi) (g := mkF m pc Ls (.int j :: .ref a :: rest)) rfl rfl (hb hby hd) t k
theorem o_laload (B : Bx own bs ml Z p l e R s m args below meth c T h locs cells slots) (pc pc' : Nat) {g : Nat → Int64} (A : AJ Z h a n g) {j : Int32} (i : Nat) (v : Int64) (hd : decode bs pc = .ok (.laload, 1)) (hp : pc + 1 = pc') (h0 : ¬ j < 0) (hj : j.toNatClampNeg = i) (hi : i < n) (hv : g i = v)
    (hr : OG p.tables e below P (T.setTop (mkF m pc' Ls (.long v :: rest)))) : OG p.tables e below P (T.setTop (mkF m pc Ls (.int j :: .ref a :: rest))) := by
  subst hp hv
  obtain ⟨X, hx, hby, hml, hown, hZ, eT⟩ := B
  obtain ⟨cl, A, S, hn, H⟩ := A
  exact hr.of fun t k => X.laload hx (by rw [eT]; exact A.1) (State.isArrayOf_alike hZ.alike A.2.1) A.2.2 (in_of S h0 hj hi) (by rw [hj]; exact H i hi) (g := mkF m pc Ls (.int j :: .ref a :: rest)) rfl rfl (hb hby hd) t k
theorem o_alenI (B : Bx own bs ml Z p l e R s m args below meth c T h locs cells slots) (pc pc' : Nat) {ty : FieldType} {g : Nat → Int32} (A : AI Z h a ty n g) (v : Int32) (hd : decode bs pc = .ok (.arraylength, 1)) (hp : pc + 1 = pc') (hv : n.toInt32 = v)
    (hr : OG p.tables e below P (T.setTop (mkF m pc' Ls (.int v :: rest)))) : OG p.tables e below P (T.setTop (mkF m pc Ls (.ref a :: rest))) := by
  subst hp hv
  obtain ⟨X, hx, hby, hml, hown, hZ, eT⟩ := B
  obtain ⟨cl, A, S, hn, H⟩ := A
  exact hr.of fun t k => X.arraylength hx (by rw [eT]; exact A.1) (State.isArrayOf_alike hZ.alike A.2.1) (g := mkF m pc Ls (.ref a :: rest)) rfl rfl (hb hby hd) t (by rw [S]; exact k)
theorem o_alenJ (B : Bx own bs ml Z p l e R s m args below meth c T h locs cells slots) (pc pc' : Nat) {g : Nat → Int64} (A : AJ Z h a n g) (v : Int32) (hd : decode bs pc = .ok (.arraylength, 1)) (hp : pc + 1 = pc') (hv : n.toInt32 = v)
    (hr : OG p.tables e below P (T.setTop (mkF m pc' Ls (.int v :: rest)))) : OG p.tables e below P (T.setTop (mkF m pc Ls (.ref a :: rest))) := by
  subst hp hv
  obtain ⟨X, hx, hby, hml, hown, hZ, eT⟩ := B
  obtain ⟨cl, A, S, hn, H⟩ := A
  exact hr.of fun t k => X.arraylength hx (by rw [eT]; exact A.1) (State.isArrayOf_alike hZ.alike A.2.1) (g := mkF m pc Ls (.ref a :: rest)) rfl rfl (hb hby hd) t (by rw [S]; exact k)
theorem o_iastore (B : Bx own bs ml Z p l e R s m args below meth c T h locs cells slots) (N : Fr n0 locs) (ge : n0 ≤ a) (pc pc' : Nat) {g : Nat → Int32} (A : AI Z h a .int n g) {j : Int32} {x : Int32} (i : Nat) (y : Int32) (hd : decode bs pc = .ok (.iastore, 1)) (hp : pc + 1 = pc') (h0 : ¬ j < 0) (hj : j.toNatClampNeg = i) (hi : i < n) (hy : x = y) :
    ∃ T' h' L', Bx own bs ml Z p l e R s m args below meth c T' h' L' cells slots ∧ Fr n0 L' ∧ Wr h h' a i (.int y) ∧ AI Z h' a .int n (fun j => if j = i then y else g j) ∧ ∀ {P : Outcome → State → Prop}, OG p.tables e below P (T'.setTop (mkF m pc' Ls rest)) → OG p.tables e below P (T.setTop (mkF m pc Ls (.int x :: .int j :: .ref a :: rest))) := by
  subst hp hj hy
  obtain ⟨X, hx, hby, hml, hown, hZ, eT⟩ := B
  have A' := A
  obtain ⟨cl, A, S, hn, H⟩ := A
  obtain ⟨T', h', X', e', W, st⟩ := stI X hx hZ eT A (in_of S h0 rfl hi) (g := mkF m pc Ls (.int x :: .int j :: .ref a :: rest)) rfl rfl (hb hby hd)
  exact ⟨T', h', _, ⟨X', hx, hby, hml, hown, hZ, e'⟩, Fr.snoc X' N ge, W, A'.set W, fun k => k.of st⟩
theorem o_castore (B : Bx own bs ml Z p l e R s m args below meth c T h locs cells slots) (N : Fr n0 locs) (ge : n0 ≤ a) (pc pc' : Nat) {g : Nat → Int32} (A : AI Z h a .char n g) {j : Int32} {x : Int32} (i : Nat) (y : Int32) (hd : decode bs pc = .ok (.castore, 1)) (hp : pc + 1 = pc') (h0 : ¬ j < 0) (hj : j.toNatClampNeg = i) (hi : i < n) (hy : nar .char x = y) :
    ∃ T' h' L', Bx own bs ml Z p l e R s m args below meth c T' h' L' cells slots ∧ Fr n0 L' ∧ Wr h h' a i (.int y) ∧ AI Z h' a .char n (fun j => if j = i then y else g j) ∧ ∀ {P : Outcome → State → Prop}, OG p.tables e below P (T'.setTop (mkF m pc' Ls rest)) → OG p.tables e below P (T.setTop (mkF m pc Ls (.int x :: .int j :: .ref a :: rest))) := by
  subst hp hj hy
  obtain ⟨X, hx, hby, hml, hown, hZ, eT⟩ := B
  have A' := A
  obtain ⟨cl, A, S, hn, H⟩ := A
  obtain ⟨T', h', X', e', W, st⟩ := stC X hx hZ eT A (in_of S h0 rfl hi) (g := mkF m pc Ls (.int x :: .int j :: .ref a :: rest)) rfl rfl (hb hby hd)
  exact ⟨T', h', _, ⟨X', hx, hby, hml, hown, hZ, e'⟩, Fr.snoc X' N ge, W, A'.set W, fun k => k.of st⟩
theorem o_bastore (B : Bx own bs ml Z p l e R s m args below meth c T h locs cells slots) (N : Fr n0 locs) (ge : n0 ≤ a) (pc pc' : Nat) {g : Nat → Int32} (A : AI Z h a .byte n g) {j : Int32} {x : Int32} (i : Nat) (y : Int32) (hd : decode bs pc = .ok (.bastore, 1)) (hp : pc + 1 = pc') (h0 : ¬ j < 0) (hj : j.toNatClampNeg = i) (hi : i < n) (hy : nar .byte x = y) :
    ∃ T' h' L', Bx own bs ml Z p l e R s m args below meth c T' h' L' cells slots ∧ Fr n0 L' ∧ Wr h h' a i (.int y) ∧ AI Z h' a .byte n (fun j => if j = i then y else g j) ∧ ∀ {P : Outcome → State → Prop}, OG p.tables e below P (T'.setTop (mkF m pc' Ls rest)) → OG p.tables e below P (T.setTop (mkF m pc Ls (.int x :: .int j :: .ref a :: rest))) := by
  subst hp hj hy
  obtain ⟨X, hx, hby, hml, hown, hZ, eT⟩ := B
  have A' := A
  obtain ⟨cl, A, S, hn, H⟩ := A
  obtain ⟨T', h', X', e', W, st⟩ := stB X hx hZ eT A (in_of S h0 rfl hi) (g := mkF m pc Ls (.int x :: .int j :: .ref a :: rest)) rfl rfl (hb hby hd)
  exact ⟨T', h', _, ⟨X', hx, hby, hml, hown, hZ, e'⟩, Fr.snoc X' N ge, W, A'.set W, fun k => k.of st⟩
theorem o_zastore (B : Bx own bs ml Z p l e R s m args below meth c T h locs cells slots) (N : Fr n0 locs) (ge : n0 ≤ a) (pc pc' : Nat) {g : Nat → Int32} (A : AI Z h a .boolean n g) {j : Int32} {x : Int32} (i : Nat) (y : Int32) (hd : decode bs pc = .ok (.bastore, 1)) (hp : pc + 1 = pc') (h0 : ¬ j < 0) (hj : j.toNatClampNeg = i) (hi : i < n) (hy : nar .boolean x = y) :
    ∃ T' h' L', Bx own bs ml Z p l e R s m args below meth c T' h' L' cells slots ∧ Fr n0 L' ∧ Wr h h' a i (.int y) ∧ AI Z h' a .boolean n (fun j => if j = i then y else g j) ∧ ∀ {P : Outcome → State → Prop}, OG p.tables e below P (T'.setTop (mkF m pc' Ls rest)) → OG p.tables e below P (T.setTop (mkF m pc Ls (.int x :: .int j :: .ref a :: rest))) := by
  subst hp hj hy
  obtain ⟨X, hx, hby, hml, hown, hZ, eT⟩ := B
  have A' := A
  obtain ⟨cl, A, S, hn, H⟩ := A
  obtain ⟨T', h', X', e', W, st⟩ := stZ X hx hZ eT A (in_of S h0 rfl hi) (g := mkF m pc Ls (.int x :: .int j :: .ref a :: rest)) rfl rfl (hb hby hd)
  exact ⟨T', h', _, ⟨X', hx, hby, hml, hown, hZ, e'⟩, Fr.snoc X' N ge, W, A'.set W, fun k => k.of st⟩
theorem o_lastore (B : Bx own bs ml Z p l e R s m args below meth c T h locs cells slots) (N : Fr n0 locs) (ge : n0 ≤ a) (pc pc' : Nat) {g : Nat → Int64} (A : AJ Z h a n g) {j : Int32} {x : Int64} (i : Nat) (y : Int64) (hd : decode bs pc = .ok (.lastore, 1)) (hp : pc + 1 = pc') (h0 : ¬ j < 0) (hj : j.toNatClampNeg = i) (hi : i < n) (hy : x = y) :
    ∃ T' h' L', Bx own bs ml Z p l e R s m args below meth c T' h' L' cells slots ∧ Fr n0 L' ∧ Wr h h' a i (.long y) ∧ AJ Z h' a n (fun j => if j = i then y else g j) ∧ ∀ {P : Outcome → State → Prop}, OG p.tables e below P (T'.setTop (mkF m pc' Ls rest)) → OG p.tables e below P (T.setTop (mkF m pc Ls (.long x :: .int j :: .ref a :: rest))) := by
  subst hp hj hy
  obtain ⟨X, hx, hby, hml, hown, hZ, eT⟩ := B
  have A' := A
  obtain ⟨cl, A, S, hn, H⟩ := A
  obtain ⟨T', h', X', e', W, st⟩ := stJ X hx hZ eT A (in_of S h0 rfl hi) (g := mkF m pc Ls (.long x :: .int j :: .ref a :: rest)) rfl rfl (hb hby hd)
  exact ⟨T', h', _, ⟨X', hx, hby, hml, hown, hZ, e'⟩, Fr.snoc X' N ge, W, A'.set W, fun k => k.of st⟩
theorem o_newI (B : Bx own bs ml Z p l e R s m args below meth c T h locs cells slots) (pc pc' : Nat) {aty : ArrayType} {ty : FieldType} {z : Int32} (k cap : Nat) (w : (Cond.arrayClass (newarray.typeOf aty)).before a0 Z = true) (hd : decode bs pc = .ok (.newarray aty, 2)) (hp : pc + 2 = pc') (hty : newarray.typeOf aty = ty) (hdv : defaultValue ty = .int 0) (hz : ¬ z < 0) (hk : z.toNatClampNeg = k) (hcap : k ≤ cap) (hb8 : cap * 8 ≤ 536870912) (hc : cells + 1 ≤ R.cells) (hl : slots + cap ≤ R.slots) :
    ∃ a T' h', a = h.size ∧ Bx own bs ml Z p l e R s m args below meth c T' h' locs (cells + 1) (slots + cap) ∧ Ext h h' ∧ AI Z h' a ty k (fun _ => 0) ∧ ∀ {P : Outcome → State → Prop}, OG p.tables e below P (T'.setTop (mkF m pc' Ls (.ref a :: rest))) → OG p.tables e below P (T.setTop (mkF m pc Ls (.int z :: rest))) := by
  subst hp hk
  obtain ⟨X, hx, hby, hml, hown, hZ, eT⟩ := B
  obtain ⟨T', h', cA, X', e', E, A, st⟩ := newP X hx hZ w eT (g := mkF m pc Ls (.int z :: rest)) rfl (hb hby hd) rfl hz (cap := cap) hcap hb8 hc hl
  rw [hty] at A
  refine ⟨h.size, T', h', rfl, ⟨X', hx, hby, hml, hown, hZ, e'⟩, E, ⟨_, A, sz_new _ _ _, (back32 hz).2, fun j hj => ?_⟩, fun k => k.of st⟩
  simp [newA, hj, hdv]
theorem o_newJ (B : Bx own bs ml Z p l e R s m args below meth c T h locs cells slots) (pc pc' : Nat) {aty : ArrayType} {z : Int32} (k cap : Nat) (w : (Cond.arrayClass (newarray.typeOf aty)).before a0 Z = true) (hd : decode bs pc = .ok (.newarray aty, 2)) (hp : pc + 2 = pc') (hty : newarray.typeOf aty = .long) (hz : ¬ z < 0) (hk : z.toNatClampNeg = k) (hcap : k ≤ cap) (hb8 : cap * 8 ≤ 536870912) (hc : cells + 1 ≤ R.cells) (hl : slots + cap ≤ R.slots) :
    ∃ a T' h', a = h.size ∧ Bx own bs ml Z p l e R s m args below meth c T' h' locs (cells + 1) (slots + cap) ∧ Ext h h' ∧ AJ Z h' a k (fun _ => 0) ∧ ∀ {P : Outcome → State → Prop}, OG p.tables e below P (T'.setTop (mkF m pc' Ls (.ref a :: rest))) → OG p.tables e below P (T.setTop (mkF m pc Ls (.int z :: rest))) := by
  subst hp hk
  obtain ⟨X, hx, hby, hml, hown, hZ, eT⟩ := B
  obtain ⟨T', h', cA, X', e', E, A, st⟩ := newP X hx hZ w eT (g := mkF m pc Ls (.int z :: rest)) rfl (hb hby hd) rfl hz (cap := cap) hcap hb8 hc hl
  rw [hty] at A
  refine ⟨h.size, T', h', rfl, ⟨X', hx, hby, hml, hown, hZ, e'⟩, E, ⟨_, A, sz_new _ _ _, (back32 hz).2, fun j hj => ?_⟩, fun k => k.of st⟩
  simp [newA, hj, defaultValue]
theorem o_getfield (B : Bx own bs ml Z p l e R s m args below meth c T h locs cells slots) {R0 O f d host : String} {index : Nat} {v : Value} (pc pc' : Nat) (hd : decode bs pc = .ok (.getfield index, 3)) (hp : pc + 3 = pc') (w : (Cond.fieldLink own index R0 f d).before a0 Z = true ∨ (Cond.fieldLinkNest own index R0 f d host).before a0 Z = true) (via : Via Z R0 O f d) (F : Fld Z h a O f d v) :
    ∃ T', Bx own bs ml Z p l e R s m args below meth c T' h locs cells slots ∧ ∀ {P : Outcome → State → Prop}, OG p.tables e below P (T'.setTop (mkF m pc' Ls (v :: rest))) → OG p.tables e below P (T.setTop (mkF m pc Ls (.ref a :: rest))) := by
  subst hp
  obtain ⟨X, hx, hby, hml, hown, hZ, eT⟩ := B
  obtain ⟨T', X', e', st⟩ := getF X hx hZ hown w via eT F (g := mkF m pc Ls (.ref a :: rest)) rfl rfl (hb hby hd)
  exact ⟨T', ⟨X', hx, hby, hml, hown, hZ, e'⟩, fun k => k.of st⟩
theorem o_putfield (B : Bx own bs ml Z p l e R s m args below meth c T h locs cells slots) (N : Fr n0 locs) (ge : n0 ≤ a) {R0 O f d host C : String} {index kk : Nat} {v old : Value} {ty : FieldType} (pc pc' : Nat) (hd : decode bs pc = .ok (.putfield index, 3)) (hp : pc + 3 = pc') (w : (Cond.fieldLink own index R0 f d).before a0 Z = true ∨ (Cond.fieldLinkNest own index R0 f d host).before a0 Z = true) (via : Via Z R0 O f d) (F : Fld Z h a O f d old) (E : Exa Z h a C) (L : (Cond.lays C O f d).before a0 Z = true ∨ ((Cond.laysFinal C O f d).before a0 Z = true ∧ own = O ∧ meth.name = "<init>")) (wi : (Cond.instantiable C kk).before a0 Z = true) (hty : parseFieldDescriptor d = some ty) (hn : narrow ty v = v) (hf : fits ty v = true) :
    ∃ T' h' L', Bx own bs ml Z p l e R s m args below meth c T' h' L' cells slots ∧ Fr n0 L' ∧ Wr h h' a (Jvm.RoadKit.slotOf Z O f d) v ∧ ∀ {P : Outcome → State → Prop}, OG p.tables e below P (T'.setTop (mkF m pc' Ls rest)) → OG p.tables e below P (T.setTop (mkF m pc Ls (v :: .ref a :: rest))) := by
  subst hp
  obtain ⟨X, hx, hby, hml, hown, hZ, eT⟩ := B
  obtain ⟨T', h', X', e', W, st⟩ := putF X hx hZ hown w via eT F E L wi hty hn hf (g := mkF m pc Ls (v :: .ref a :: rest)) rfl rfl (hb hby hd)
  exact ⟨T', h', _, ⟨X', hx, hby, hml, hown, hZ, e'⟩, Fr.snoc X' N ge, W, fun k => k.of st⟩
theorem o_new (B : Bx own bs ml Z p l e R s m args below meth c T h locs cells slots) {C : String} {index : Nat} (pc pc' : Nat) (hd : decode bs pc = .ok (.new index, 3)) (hp : pc + 3 = pc') (w : (Cond.classLink own index C).before a0 Z = true) (wi : (Cond.instantiable C n).before a0 Z = true) (wz : (Cond.initialized C).before a0 Z = true) (hc : cells + 1 ≤ R.cells) (hl : slots + n ≤ R.slots) :
    ∃ a T' h', a = h.size ∧ Bx own bs ml Z p l e R s m args below meth c T' h' locs (cells + 1) (slots + n) ∧ Ext h h' ∧ Exa Z h' a C ∧ (∀ {O nm d : String} {ty : FieldType}, Laid Z a0 C O nm d → parseFieldDescriptor d = some ty → Fld Z h' a O nm d (defaultValue ty)) ∧ ∀ {P : Outcome → State → Prop}, OG p.tables e below P (T'.setTop (mkF m pc' Ls (.ref a :: rest))) → OG p.tables e below P (T.setTop (mkF m pc Ls rest)) := by
  subst hp
  obtain ⟨X, hx, hby, hml, hown, hZ, eT⟩ := B
  obtain ⟨T', h', X', e', E, A, D, -, st⟩ := newO X hx hZ hown w wi wz eT (g := mkF m pc Ls rest) rfl (hb hby hd) hc hl
  exact ⟨h.size, T', h', rfl, ⟨X', hx, hby, hml, hown, hZ, e'⟩, E, A, D, fun k => k.of st⟩
theorem o_initO (B : Bx own bs ml Z p l e R s m args below meth c T h locs cells slots) {index : Nat} (pc pc' : Nat) (hd : decode bs pc = .ok (.invokespecial index, 3)) (hp : pc + 3 = pc') (w1 : (Cond.methodLink own index Lib.objectInit).before a0 Z = true) (w2 : (Cond.instanceMethod Lib.objectInit).before a0 Z = true) (w3 : (Cond.code Lib.objectInit ⟨#[0xb1]⟩ 1 none).before a0 Z = true) (hsz : Ls.size = ml) (W : Nat) (hW : (rest.map fun v => v.category).sum ≤ W) (hf : 1 ≤ R.frames) (hl : W + 12 ≤ R.locals) :
    ∃ T', Bx own bs ml Z p l e R s m args below meth c T' h locs cells slots ∧ ∀ {P : Outcome → State → Prop}, OG p.tables e below P (T'.setTop (mkF m pc' Ls rest)) → OG p.tables e below P (T.setTop (mkF m pc Ls (.ref a :: rest))) := by
  subst hp
  obtain ⟨X, hx, hby, hml, hown, hZ, eT⟩ := B
  obtain ⟨T', X', e', st⟩ := initO X hx hZ hown w1 w2 w3 eT (g := mkF m pc Ls (.ref a :: rest)) rfl (by rw [hml]; exact hsz) rfl (hb hby hd) hf (W := W) (by simpa using hW) hl
  exact ⟨T', ⟨X', hx, hby, hml, hown, hZ, e'⟩, fun k => k.of st⟩
theorem o_callN {index : Nat} {y : MethodName} {bytes : ByteArray} {maxL : Nat} {rm : Room} {as' : Array Value} {Q : Option Value → Heap → List Loc → Prop} {ps : List FieldType} {rt : Option FieldType}
    (B : Bx own bs ml Z p l e R s m args below meth c T h locs cells slots) (pc pc' : Nat) (hd : decode bs pc = .ok (.invokespecial index, 3)) (hp : pc + 3 = pc') (hy1 : y.name = "<init>")
    (w1 : (Cond.methodLink own index y).before a0 Z = true) (w2 : (Cond.instanceMethod y).before a0 Z = true) (w3 : (Cond.initialized y.cls).before a0 Z = true) (w4 : (Cond.code y bytes maxL none).before a0 Z = true) (hy : y.cls ≠ "java/lang/invoke/MethodHandle" ∧ y.cls ≠ "java/lang/invoke/VarHandle")
    (hM : Met l Z y bytes maxL none rm as' h Q) (W : Nat) (argsL rest : List Value) (hpd : parseMethodDescriptor y.desc = some ⟨ps, rt⟩) (hlen : argsL.length = ps.length) (has : (.ref a :: argsL).toArray = as') {st : List Value} (hst : st = argsL.reverse ++ .ref a :: rest) (hsz : Ls.size = ml)
    (hW : (rest.map fun v => v.category).sum ≤ W) (hf : rm.frames + 1 ≤ R.frames) (hl : W + (maxL + 11) + rm.locals ≤ R.locals) (hcl : cells + rm.cells ≤ R.cells) (hsl : slots + rm.slots ≤ R.slots) :
    ∃ v T' L, Bx own bs ml Z p l e R s m args below meth c T' T'.heap (locs ++ L) (cells + rm.cells) (slots + rm.slots) ∧ Q v T'.heap L ∧
      ∀ {P : Outcome → State → Prop}, OG p.tables e below P (T'.setTop (mkF m pc' Ls (v.toList ++ rest))) → OG p.tables e below P (T.setTop (mkF m pc Ls st)) := by
  subst hp hst
  obtain ⟨X, hx, hby, hml, hown, hZ, eT⟩ := B
  obtain ⟨v, vm1, ⟨T', L', k', n'⟩, -, X', ⟨Lc, hQ, l', y', z'⟩, st⟩ := X.specialBack hx (y := y) hy1 hown (mvT hZ w1) (mvT hZ w2) (mvT hZ w4) hy (backOf (W := W) hM hZ w4 w3 hf hl) (g := mkF m pc Ls (argsL.reverse ++ .ref a :: rest)) rfl (by rw [hml]; exact hsz) (Steps.refl _) (a := a) (argsL := argsL) (rest := rest) (lenOf hpd hlen) rfl (by simpa using hW) (hb hby hd) (fun _ _ => ⟨has, eT, hcl, hsl⟩)
  dsimp only [Pt.U, Pt.locs, Pt.cells, Pt.slots] at X' l' y' z' st hQ
  subst l' y' z'
  exact ⟨v, T', Lc, ⟨X', hx, hby, hml, hown, hZ, rfl⟩, hQ, fun k => k.of fun t q => st.trans q⟩
theorem o_callV {index : Nat} {y : MethodName} {C : String} {bytes : ByteArray} {maxL : Nat} {ret : Option FieldType} {rm : Room} {as' : Array Value} {Q : Option Value → Heap → List Loc → Prop} {ps : List FieldType} {rt : Option FieldType}
    (B : Bx own bs ml Z p l e R s m args below meth c T h locs cells slots) (pc pc' : Nat) (hd : decode bs pc = .ok (.invokevirtual index, 3)) (hp : pc + 3 = pc')
    (w1 : (Cond.methodLink own index y).before a0 Z = true) (w2 : (Cond.declares y).before a0 Z = true) (w5 : (Cond.selects C y y).before a0 Z = true) (w6 : (Cond.instanceMethod y).before a0 Z = true) (w3 : (Cond.initialized y.cls).before a0 Z = true) (w4 : (Cond.code y bytes maxL ret).before a0 Z = true) (hy : y.cls ≠ "java/lang/invoke/MethodHandle" ∧ y.cls ≠ "java/lang/invoke/VarHandle") (E : Exa Z h a C)
    (hM : Met l Z y bytes maxL ret rm as' h Q) (W : Nat) (argsL rest : List Value) (hpd : parseMethodDescriptor y.desc = some ⟨ps, rt⟩) (hlen : argsL.length = ps.length) (has : (.ref a :: argsL).toArray = as') {st : List Value} (hst : st = argsL.reverse ++ .ref a :: rest) (hsz : Ls.size = ml)
    (hW : (rest.map fun v => v.category).sum ≤ W) (hf : rm.frames + 1 ≤ R.frames) (hl : W + (maxL + 11) + rm.locals ≤ R.locals) (hcl : cells + rm.cells ≤ R.cells) (hsl : slots + rm.slots ≤ R.slots) :
    ∃ v T' L, Bx own bs ml Z p l e R s m args below meth c T' T'.heap (locs ++ L) (cells + rm.cells) (slots + rm.slots) ∧ Q v T'.heap L ∧
      ∀ {P : Outcome → State → Prop}, OG p.tables e below P (T'.setTop (mkF m pc' Ls (v.toList ++ rest))) → OG p.tables e below P (T.setTop (mkF m pc Ls st)) := by
  subst hp hst
  obtain ⟨X, hx, hby, hml, hown, hZ, eT⟩ := B
  obtain ⟨cq, kq, qa, qb, qc⟩ := isOf hZ eT E
  obtain ⟨v, vm1, ⟨T', L', k', n'⟩, -, X', ⟨Lc, hQ, l', y', z'⟩, st⟩ := X.virtualBack hx (y := y) (z := y) hown (mvT hZ w1) (mvT hZ w2) (notFace_of_selects (args := #[]) (mvT hZ w5)) (mvT hZ w5) (mvT hZ w6) hy (backOf (W := W) hM hZ w4 w3 hf hl) qa qc (g := mkF m pc Ls (argsL.reverse ++ .ref a :: rest)) rfl (by rw [hml]; exact hsz) (Steps.refl _) (argsL := argsL) (rest := rest) (lenOf hpd hlen) rfl (by simpa using hW) (hb hby hd) (fun _ _ => ⟨has, eT, hcl, hsl⟩)
  dsimp only [Pt.U, Pt.locs, Pt.cells, Pt.slots] at X' l' y' z' st hQ
  subst l' y' z'
  exact ⟨v, T', Lc, ⟨X', hx, hby, hml, hown, hZ, rfl⟩, hQ, fun k => k.of fun t q => st.trans q⟩
theorem o_callVP {index : Nat} {y : MethodName} {C : String} {bytes : ByteArray} {maxL : Nat} {ret : Option FieldType} {fr lo : Nat} {as' : Array Value} {r : Value} {ps : List FieldType} {rt : Option FieldType}
    (B : Bx own bs ml Z p l e R s m args below meth c T h locs cells slots) (pc pc' : Nat) (hd : decode bs pc = .ok (.invokevirtual index, 3)) (hp : pc + 3 = pc')
    (w1 : (Cond.methodLink own index y).before a0 Z = true) (w2 : (Cond.declares y).before a0 Z = true) (w5 : (Cond.selects C y y).before a0 Z = true) (w6 : (Cond.instanceMethod y).before a0 Z = true) (w3 : (Cond.initialized y.cls).before a0 Z = true) (w4 : (Cond.code y bytes maxL ret).before a0 Z = true) (hy : y.cls ≠ "java/lang/invoke/MethodHandle" ∧ y.cls ≠ "java/lang/invoke/VarHandle") (E : Exa Z h a C)
    (hM : Met l Z y bytes maxL ret ({ frames := fr, cells := 0, slots := 0, locals := lo } : Room) as' h (Pu (some r) h)) (W : Nat) (argsL rest : List Value) (hpd : parseMethodDescriptor y.desc = some ⟨ps, rt⟩) (hlen : argsL.length = ps.length) (has : (.ref a :: argsL).toArray = as') {st : List Value} (hst : st = argsL.reverse ++ .ref a :: rest) (hsz : Ls.size = ml)
    (hW : (rest.map fun v => v.category).sum ≤ W) (hf : fr + 1 ≤ R.frames) (hl : W + (maxL + 11) + lo ≤ R.locals) (hcl : cells ≤ R.cells) (hsl : slots ≤ R.slots) :
    ∃ T', Bx own bs ml Z p l e R s m args below meth c T' h locs cells slots ∧
      ∀ {P : Outcome → State → Prop}, OG p.tables e below P (T'.setTop (mkF m pc' Ls (r :: rest))) → OG p.tables e below P (T.setTop (mkF m pc Ls st)) := by
  obtain ⟨v, T', L, B', ⟨rfl, rfl, hh⟩, st⟩ := o_callV B pc pc' hd hp w1 w2 w5 w6 w3 w4 hy E hM W argsL rest hpd hlen has hst hsz hW hf hl hcl hsl
  rw [hh, List.append_nil] at B'
  exact ⟨T', B', st⟩
theorem o_callNP {index : Nat} {y : MethodName} {bytes : ByteArray} {maxL : Nat} {fr lo : Nat} {as' : Array Value} {ps : List FieldType} {rt : Option FieldType}
    (B : Bx own bs ml Z p l e R s m args below meth c T h locs cells slots) (pc pc' : Nat) (hd : decode bs pc = .ok (.invokespecial index, 3)) (hp : pc + 3 = pc') (hy1 : y.name = "<init>")
    (w1 : (Cond.methodLink own index y).before a0 Z = true) (w2 : (Cond.instanceMethod y).before a0 Z = true) (w3 : (Cond.initialized y.cls).before a0 Z = true) (w4 : (Cond.code y bytes maxL none).before a0 Z = true) (hy : y.cls ≠ "java/lang/invoke/MethodHandle" ∧ y.cls ≠ "java/lang/invoke/VarHandle")
    (hM : Met l Z y bytes maxL none ({ frames := fr, cells := 0, slots := 0, locals := lo } : Room) as' h (Pu none h)) (W : Nat) (argsL rest : List Value) (hpd : parseMethodDescriptor y.desc = some ⟨ps, rt⟩) (hlen : argsL.length = ps.length) (has : (.ref a :: argsL).toArray = as') {st : List Value} (hst : st = argsL.reverse ++ .ref a :: rest) (hsz : Ls.size = ml)
    (hW : (rest.map fun v => v.category).sum ≤ W) (hf : fr + 1 ≤ R.frames) (hl : W + (maxL + 11) + lo ≤ R.locals) (hcl : cells ≤ R.cells) (hsl : slots ≤ R.slots) :
    ∃ T', Bx own bs ml Z p l e R s m args below meth c T' h locs cells slots ∧
      ∀ {P : Outcome → State → Prop}, OG p.tables e below P (T'.setTop (mkF m pc' Ls rest)) → OG p.tables e below P (T.setTop (mkF m pc Ls st)) := by
  obtain ⟨v, T', L, B', ⟨rfl, rfl, hh⟩, st⟩ := o_callN B pc pc' hd hp hy1 w1 w2 w3 w4 hy hM W argsL rest hpd hlen has hst hsz hW hf hl hcl hsl
  rw [hh, List.append_nil] at B'
  exact ⟨T', B', st⟩
end Walk2
theorem d1_0 : decode prog_12_method_6_code 0 = .ok (.aload_n 0, 1) := by decide +kernel
theorem d1_1 : decode prog_12_method_6_code 1 = .ok (.iload_n 1, 1) := by decide +kernel
theorem d1_2 : decode prog_12_method_6_code 2 = .ok (.baload, 1) := by decide +kernel
theorem d1_3 : decode prog_12_method_6_code 3 = .ok (.sipush 255, 3) := by decide +kernel
theorem d1_6 : decode prog_12_method_6_code 6 = .ok (.iand, 1) := by decide +kernel
theorem d1_7 : decode prog_12_method_6_code 7 = .ok (.istore_n 2, 1) := by decide +kernel
theorem d1_8 : decode prog_12_method_6_code 8 = .ok (.iload_n 2, 1) := by decide +kernel
theorem d1_9 : decode prog_12_method_6_code 9 = .ok (.sipush 128, 3) := by decide +kernel
theorem d1_12 : decode prog_12_method_6_code 12 = .ok (.if_icmp .ge 8, 3) := by decide +kernel
theorem d1_15 : decode prog_12_method_6_code 15 = .ok (.iload_n 2, 1) := by decide +kernel
theorem d1_16 : decode prog_12_method_6_code 16 = .ok (.istore_n 3, 1) := by decide +kernel
theorem d1_17 : decode prog_12_method_6_code 17 = .ok (.goto 110, 3) := by decide +kernel
theorem d1_20 : decode prog_12_method_6_code 20 = .ok (.iload_n 2, 1) := by decide +kernel
theorem d1_21 : decode prog_12_method_6_code 21 = .ok (.sipush 224, 3) := by decide +kernel
theorem d1_24 : decode prog_12_method_6_code 24 = .ok (.if_icmp .ge 23, 3) := by decide +kernel
theorem d1_27 : decode prog_12_method_6_code 27 = .ok (.iload_n 2, 1) := by decide +kernel
theorem d1_28 : decode prog_12_method_6_code 28 = .ok (.bipush 31, 2) := by decide +kernel
theorem d1_30 : decode prog_12_method_6_code 30 = .ok (.iand, 1) := by decide +kernel
theorem d1_31 : decode prog_12_method_6_code 31 = .ok (.bipush 6, 2) := by decide +kernel
theorem d1_33 : decode prog_12_method_6_code 33 = .ok (.ishl, 1) := by decide +kernel
theorem d1_34 : decode prog_12_method_6_code 34 = .ok (.aload_n 0, 1) := by decide +kernel
theorem d1_35 : decode prog_12_method_6_code 35 = .ok (.iload_n 1, 1) := by decide +kernel
theorem d1_36 : decode prog_12_method_6_code 36 = .ok (.iconst 1, 1) := by decide +kernel
theorem d1_37 : decode prog_12_method_6_code 37 = .ok (.iadd, 1) := by decide +kernel
theorem d1_38 : decode prog_12_method_6_code 38 = .ok (.baload, 1) := by decide +kernel
theorem d1_39 : decode prog_12_method_6_code 39 = .ok (.bipush 63, 2) := by decide +kernel
theorem d1_41 : decode prog_12_method_6_code 41 = .ok (.iand, 1) := by decide +kernel
theorem d1_42 : decode prog_12_method_6_code 42 = .ok (.ior, 1) := by decide +kernel
theorem d1_43 : decode prog_12_method_6_code 43 = .ok (.istore_n 3, 1) := by decide +kernel
theorem d1_44 : decode prog_12_method_6_code 44 = .ok (.goto 83, 3) := by decide +kernel
theorem d1_47 : decode prog_12_method_6_code 47 = .ok (.iload_n 2, 1) := by decide +kernel
theorem d1_48 : decode prog_12_method_6_code 48 = .ok (.sipush 240, 3) := by decide +kernel
theorem d1_51 : decode prog_12_method_6_code 51 = .ok (.if_icmp .ge 35, 3) := by decide +kernel
theorem d1_54 : decode prog_12_method_6_code 54 = .ok (.iload_n 2, 1) := by decide +kernel
theorem d1_55 : decode prog_12_method_6_code 55 = .ok (.bipush 15, 2) := by decide +kernel
theorem d1_57 : decode prog_12_method_6_code 57 = .ok (.iand, 1) := by decide +kernel
theorem d1_58 : decode prog_12_method_6_code 58 = .ok (.bipush 12, 2) := by decide +kernel
theorem d1_60 : decode prog_12_method_6_code 60 = .ok (.ishl, 1) := by decide +kernel
theorem d1_61 : decode prog_12_method_6_code 61 = .ok (.aload_n 0, 1) := by decide +kernel
theorem d1_62 : decode prog_12_method_6_code 62 = .ok (.iload_n 1, 1) := by decide +kernel
theorem d1_63 : decode prog_12_method_6_code 63 = .ok (.iconst 1, 1) := by decide +kernel
theorem d1_64 : decode prog_12_method_6_code 64 = .ok (.iadd, 1) := by decide +kernel
theorem d1_65 : decode prog_12_method_6_code 65 = .ok (.baload, 1) := by decide +kernel
theorem d1_66 : decode prog_12_method_6_code 66 = .ok (.bipush 63, 2) := by decide +kernel
theorem d1_68 : decode prog_12_method_6_code 68 = .ok (.iand, 1) := by decide +kernel
theorem d1_69 : decode prog_12_method_6_code 69 = .ok (.bipush 6, 2) := by decide +kernel
theorem d1_71 : decode prog_12_method_6_code 71 = .ok (.ishl, 1) := by decide +kernel
theorem d1_72 : decode prog_12_method_6_code 72 = .ok (.ior, 1) := by decide +kernel
theorem d1_73 : decode prog_12_method_6_code 73 = .ok (.aload_n 0, 1) := by decide +kernel
theorem d1_74 : decode prog_12_method_6_code 74 = .ok (.iload_n 1, 1) := by decide +kernel
theorem d1_75 : decode prog_12_method_6_code 75 = .ok (.iconst 2, 1) := by decide +kernel
theorem d1_76 : decode prog_12_method_6_code 76 = .ok (.iadd, 1) := by decide +kernel
theorem d1_77 : decode prog_12_method_6_code 77 = .ok (.baload, 1) := by decide +kernel
theorem d1_78 : decode prog_12_method_6_code 78 = .ok (.bipush 63, 2) := by decide +kernel
theorem d1_80 : decode prog_12_method_6_code 80 = .ok (.iand, 1) := by decide +kernel
theorem d1_81 : decode prog_12_method_6_code 81 = .ok (.ior, 1) := by decide +kernel
theorem d1_82 : decode prog_12_method_6_code 82 = .ok (.istore_n 3, 1) := by decide +kernel
theorem d1_83 : decode prog_12_method_6_code 83 = .ok (.goto 44, 3) := by decide +kernel
theorem d1_86 : decode prog_12_method_6_code 86 = .ok (.iload_n 2, 1) := by decide +kernel
theorem d1_87 : decode prog_12_method_6_code 87 = .ok (.bipush 7, 2) := by decide +kernel
theorem d1_89 : decode prog_12_method_6_code 89 = .ok (.iand, 1) := by decide +kernel
theorem d1_90 : decode prog_12_method_6_code 90 = .ok (.bipush 18, 2) := by decide +kernel
theorem d1_92 : decode prog_12_method_6_code 92 = .ok (.ishl, 1) := by decide +kernel
theorem d1_93 : decode prog_12_method_6_code 93 = .ok (.aload_n 0, 1) := by decide +kernel
theorem d1_94 : decode prog_12_method_6_code 94 = .ok (.iload_n 1, 1) := by decide +kernel
theorem d1_95 : decode prog_12_method_6_code 95 = .ok (.iconst 1, 1) := by decide +kernel
theorem d1_96 : decode prog_12_method_6_code 96 = .ok (.iadd, 1) := by decide +kernel
theorem d1_97 : decode prog_12_method_6_code 97 = .ok (.baload, 1) := by decide +kernel
theorem d1_98 : decode prog_12_method_6_code 98 = .ok (.bipush 63, 2) := by decide +kernel
theorem d1_100 : decode prog_12_method_6_code 100 = .ok (.iand, 1) := by decide +kernel
theorem d1_101 : decode prog_12_method_6_code 101 = .ok (.bipush 12, 2) := by decide +kernel
theorem d1_103 : decode prog_12_method_6_code 103 = .ok (.ishl, 1) := by decide +kernel
theorem d1_104 : decode prog_12_method_6_code 104 = .ok (.ior, 1) := by decide +kernel
theorem d1_105 : decode prog_12_method_6_code 105 = .ok (.aload_n 0, 1) := by decide +kernel
theorem d1_106 : decode prog_12_method_6_code 106 = .ok (.iload_n 1, 1) := by decide +kernel
theorem d1_107 : decode prog_12_method_6_code 107 = .ok (.iconst 2, 1) := by decide +kernel
theorem d1_108 : decode prog_12_method_6_code 108 = .ok (.iadd, 1) := by decide +kernel
theorem d1_109 : decode prog_12_method_6_code 109 = .ok (.baload, 1) := by decide +kernel
theorem d1_110 : decode prog_12_method_6_code 110 = .ok (.bipush 63, 2) := by decide +kernel
theorem d1_112 : decode prog_12_method_6_code 112 = .ok (.iand, 1) := by decide +kernel
theorem d1_113 : decode prog_12_method_6_code 113 = .ok (.bipush 6, 2) := by decide +kernel
theorem d1_115 : decode prog_12_method_6_code 115 = .ok (.ishl, 1) := by decide +kernel
theorem d1_116 : decode prog_12_method_6_code 116 = .ok (.ior, 1) := by decide +kernel
theorem d1_117 : decode prog_12_method_6_code 117 = .ok (.aload_n 0, 1) := by decide +kernel
theorem d1_118 : decode prog_12_method_6_code 118 = .ok (.iload_n 1, 1) := by decide +kernel
theorem d1_119 : decode prog_12_method_6_code 119 = .ok (.iconst 3, 1) := by decide +kernel
theorem d1_120 : decode prog_12_method_6_code 120 = .ok (.iadd, 1) := by decide +kernel
theorem d1_121 : decode prog_12_method_6_code 121 = .ok (.baload, 1) := by decide +kernel
theorem d1_122 : decode prog_12_method_6_code 122 = .ok (.bipush 63, 2) := by decide +kernel
theorem d1_124 : decode prog_12_method_6_code 124 = .ok (.iand, 1) := by decide +kernel
theorem d1_125 : decode prog_12_method_6_code 125 = .ok (.ior, 1) := by decide +kernel
theorem d1_126 : decode prog_12_method_6_code 126 = .ok (.istore_n 3, 1) := by decide +kernel
theorem d1_127 : decode prog_12_method_6_code 127 = .ok (.iload_n 3, 1) := by decide +kernel
theorem d1_128 : decode prog_12_method_6_code 128 = .ok (.ireturn, 1) := by decide +kernel
theorem pl1 : plainFor (⟨"com/example/bitsieve/bitsieve/io/Bytes", "codePointAt", "([BI)I"⟩ : MethodName) = true := by first | exact plainFor_of_name (by first | (simp [plainName, overriddenIn]; done) | decide +kernel) | decide +kernel
def q1_1 (g : Nat → Int32) (x1 : Int32) : Int32 := (((((g x1.toInt.toNat) &&& (255 : Int32)) &&& (31 : Int32)) <<< ((6 : Int32) &&& 31)) ||| ((g (x1.toInt.toNat + 1)) &&& (63 : Int32)))
def q1_2 (g : Nat → Int32) (x1 : Int32) : Int32 := ((((((g x1.toInt.toNat) &&& (255 : Int32)) &&& (15 : Int32)) <<< ((12 : Int32) &&& 31)) ||| (((g (x1.toInt.toNat + 1)) &&& (63 : Int32)) <<< ((6 : Int32) &&& 31))) ||| ((g (x1.toInt.toNat + 2)) &&& (63 : Int32)))
def q1_3 (g : Nat → Int32) (x1 : Int32) : Int32 := (((((((g x1.toInt.toNat) &&& (255 : Int32)) &&& (7 : Int32)) <<< ((18 : Int32) &&& 31)) ||| (((g (x1.toInt.toNat + 1)) &&& (63 : Int32)) <<< ((12 : Int32) &&& 31))) ||| (((g (x1.toInt.toNat + 2)) &&& (63 : Int32)) <<< ((6 : Int32) &&& 31))) ||| ((g (x1.toInt.toNat + 3)) &&& (63 : Int32)))
def f1 (g : Nat → Int32) (x1 : Int32) : Int32 := (if ((g x1.toInt.toNat) &&& (255 : Int32)) < (128 : Int32) then ((g x1.toInt.toNat) &&& (255 : Int32)) else (if ((g x1.toInt.toNat) &&& (255 : Int32)) < (224 : Int32) then (q1_1 g x1) else (if ((g x1.toInt.toNat) &&& (255 : Int32)) < (240 : Int32) then (q1_2 g x1) else (q1_3 g x1))))
set_option maxRecDepth 65536 in
set_option maxHeartbeats 40000000 in
theorem rm1 (l : Launch) (Z : State) (a0 : Array Value) (hw : ∀ d ∈ tables_1, d.before a0 Z = true) (g : Nat → Int32) (x0 : Addr) (x1 : Int32) (h0 : Heap) (A0 : AI Z h0 x0 .byte 8 g) (hk : 0 ≤ x1.toInt ∧ x1.toInt ≤ 4) :
    Met l Z (⟨"com/example/bitsieve/bitsieve/io/Bytes", "codePointAt", "([BI)I"⟩ : MethodName) prog_12_method_6_code 4 (some .int) ({ frames := 0, cells := 0, slots := 0, locals := 0 } : Room) #[(.ref x0), (.int x1)] h0 (Pu (some (.int (f1 g x1))) h0) := by
  refine enter pl1 #[.val (.ref x0), .val (.int x1), .unset, .unset] rfl ?_
  intro p e s m below meth c T B hret hlk hnm
  · have j0 := ix_of (j := x1) (k := x1.toInt.toNat) (by omega)
    have j1 := ix_of (ix_add (j := x1) (k := x1.toInt.toNat) (1 : Int32) 1 (by omega) (by decide) (by omega))
    have j2 := ix_of (ix_add (j := x1) (k := x1.toInt.toNat) (2 : Int32) 2 (by omega) (by decide) (by omega))
    have j3 := ix_of (ix_add (j := x1) (k := x1.toInt.toNat) (3 : Int32) 3 (by omega) (by decide) (by omega))
    refine o_aloadN B 0 1 (v := (.ref x0)) d1_0 rfl rfl rfl ?_
    refine o_iloadN B 1 2 (v := x1) d1_1 rfl rfl ?_
    refine o_baload B 2 3 A0 x1.toInt.toNat (g x1.toInt.toNat) d1_2 rfl j0.1 j0.2 (by omega) rfl ?_
    refine o_sipush B 3 6 (255 : Int32) d1_3 rfl (by decide) ?_
    refine o_iand B 6 7 d1_6 rfl ?_
    refine o_istoreN B 7 8 (l' := #[.val (.ref x0), .val (.int x1), .val (.int ((g x1.toInt.toNat) &&& (255 : Int32))), .unset]) d1_7 rfl rfl ?_
    refine o_iloadN B 8 9 (v := ((g x1.toInt.toNat) &&& (255 : Int32))) d1_8 rfl rfl ?_
    refine o_sipush B 9 12 (128 : Int32) d1_9 rfl (by decide) ?_
    by_cases k1 : ((g x1.toInt.toNat) &&& (255 : Int32)) < (128 : Int32)
    · refine o_icN B 12 15 d1_12 rfl (XT.ii_ge_f k1) ?_
      refine o_iloadN B 15 16 (v := ((g x1.toInt.toNat) &&& (255 : Int32))) d1_15 rfl rfl ?_
      refine o_istoreN B 16 17 (l' := #[.val (.ref x0), .val (.int x1), .val (.int ((g x1.toInt.toNat) &&& (255 : Int32))), .val (.int ((g x1.toInt.toNat) &&& (255 : Int32)))]) d1_16 rfl rfl ?_
      refine o_goto B 17 127 d1_17 (by decide) (by decide) ?_
      refine o_iloadN B 127 128 (v := ((g x1.toInt.toNat) &&& (255 : Int32))) d1_127 rfl rfl ?_
      refine o_retI B 128 d1_128 hret hlk (by decide) (by decide) ⟨(congrArg (fun z => some (Value.int z)) (show f1 g x1 = ((g x1.toInt.toNat) &&& (255 : Int32)) from (if_pos k1).trans (rfl))).symm, rfl, rfl⟩
    · refine o_icY B 12 20 d1_12 (XT.ii_ge_t k1) (by decide) (by decide) ?_
      refine o_iloadN B 20 21 (v := ((g x1.toInt.toNat) &&& (255 : Int32))) d1_20 rfl rfl ?_
      refine o_sipush B 21 24 (224 : Int32) d1_21 rfl (by decide) ?_
      by_cases k2 : ((g x1.toInt.toNat) &&& (255 : Int32)) < (224 : Int32)
      · refine o_icN B 24 27 d1_24 rfl (XT.ii_ge_f k2) ?_
        refine o_iloadN B 27 28 (v := ((g x1.toInt.toNat) &&& (255 : Int32))) d1_27 rfl rfl ?_
        refine o_bipush B 28 30 (31 : Int32) d1_28 rfl (by decide) ?_
        refine o_iand B 30 31 d1_30 rfl ?_
        refine o_bipush B 31 33 (6 : Int32) d1_31 rfl (by decide) ?_
        refine o_ishl B 33 34 d1_33 rfl ?_
        refine o_aloadN B 34 35 (v := (.ref x0)) d1_34 rfl rfl rfl ?_
        refine o_iloadN B 35 36 (v := x1) d1_35 rfl rfl ?_
        refine o_iconst B 36 37 (1 : Int32) d1_36 rfl (by decide) ?_
        refine o_iadd B 37 38 d1_37 rfl ?_
        refine o_baload B 38 39 A0 (x1.toInt.toNat + 1) (g (x1.toInt.toNat + 1)) d1_38 rfl j1.1 j1.2 (by omega) rfl ?_
        refine o_bipush B 39 41 (63 : Int32) d1_39 rfl (by decide) ?_
        refine o_iand B 41 42 d1_41 rfl ?_
        refine o_ior B 42 43 d1_42 rfl ?_
        refine o_istoreN B 43 44 (l' := #[.val (.ref x0), .val (.int x1), .val (.int ((g x1.toInt.toNat) &&& (255 : Int32))), .val (.int (q1_1 g x1))]) d1_43 rfl rfl ?_
        refine o_goto B 44 127 d1_44 (by decide) (by decide) ?_
        refine o_iloadN B 127 128 (v := (q1_1 g x1)) d1_127 rfl rfl ?_
        refine o_retI B 128 d1_128 hret hlk (by decide) (by decide) ⟨(congrArg (fun z => some (Value.int z)) (show f1 g x1 = (q1_1 g x1) from (if_neg k1).trans ((if_pos k2).trans (rfl)))).symm, rfl, rfl⟩
      · refine o_icY B 24 47 d1_24 (XT.ii_ge_t k2) (by decide) (by decide) ?_
        refine o_iloadN B 47 48 (v := ((g x1.toInt.toNat) &&& (255 : Int32))) d1_47 rfl rfl ?_
        refine o_sipush B 48 51 (240 : Int32) d1_48 rfl (by decide) ?_
        by_cases k3 : ((g x1.toInt.toNat) &&& (255 : Int32)) < (240 : Int32)
        · refine o_icN B 51 54 d1_51 rfl (XT.ii_ge_f k3) ?_
          refine o_iloadN B 54 55 (v := ((g x1.toInt.toNat) &&& (255 : Int32))) d1_54 rfl rfl ?_
          refine o_bipush B 55 57 (15 : Int32) d1_55 rfl (by decide) ?_
          refine o_iand B 57 58 d1_57 rfl ?_
          refine o_bipush B 58 60 (12 : Int32) d1_58 rfl (by decide) ?_
          refine o_ishl B 60 61 d1_60 rfl ?_
          refine o_aloadN B 61 62 (v := (.ref x0)) d1_61 rfl rfl rfl ?_
          refine o_iloadN B 62 63 (v := x1) d1_62 rfl rfl ?_
          refine o_iconst B 63 64 (1 : Int32) d1_63 rfl (by decide) ?_
          refine o_iadd B 64 65 d1_64 rfl ?_
          refine o_baload B 65 66 A0 (x1.toInt.toNat + 1) (g (x1.toInt.toNat + 1)) d1_65 rfl j1.1 j1.2 (by omega) rfl ?_
          refine o_bipush B 66 68 (63 : Int32) d1_66 rfl (by decide) ?_
          refine o_iand B 68 69 d1_68 rfl ?_
          refine o_bipush B 69 71 (6 : Int32) d1_69 rfl (by decide) ?_
          refine o_ishl B 71 72 d1_71 rfl ?_
          refine o_ior B 72 73 d1_72 rfl ?_
          refine o_aloadN B 73 74 (v := (.ref x0)) d1_73 rfl rfl rfl ?_
          refine o_iloadN B 74 75 (v := x1) d1_74 rfl rfl ?_
          refine o_iconst B 75 76 (2 : Int32) d1_75 rfl (by decide) ?_
          refine o_iadd B 76 77 d1_76 rfl ?_
          refine o_baload B 77 78 A0 (x1.toInt.toNat + 2) (g (x1.toInt.toNat + 2)) d1_77 rfl j2.1 j2.2 (by omega) rfl ?_
          refine o_bipush B 78 80 (63 : Int32) d1_78 rfl (by decide) ?_
          refine o_iand B 80 81 d1_80 rfl ?_
          refine o_ior B 81 82 d1_81 rfl ?_
          refine o_istoreN B 82 83 (l' := #[.val (.ref x0), .val (.int x1), .val (.int ((g x1.toInt.toNat) &&& (255 : Int32))), .val (.int (q1_2 g x1))]) d1_82 rfl rfl ?_
          refine o_goto B 83 127 d1_83 (by decide) (by decide) ?_
          refine o_iloadN B 127 128 (v := (q1_2 g x1)) d1_127 rfl rfl ?_
          refine o_retI B 128 d1_128 hret hlk (by decide) (by decide) ⟨(congrArg (fun z => some (Value.int z)) (show f1 g x1 = (q1_2 g x1) from (if_neg k1).trans ((if_neg k2).trans ((if_pos k3).trans (rfl))))).symm, rfl, rfl⟩
        · refine o_icY B 51 86 d1_51 (XT.ii_ge_t k3) (by decide) (by decide) ?_
          refine o_iloadN B 86 87 (v := ((g x1.toInt.toNat) &&& (255 : Int32))) d1_86 rfl rfl ?_
          refine o_bipush B 87 89 (7 : Int32) d1_87 rfl (by decide) ?_
          refine o_iand B 89 90 d1_89 rfl ?_
          refine o_bipush B 90 92 (18 : Int32) d1_90 rfl (by decide) ?_
          refine o_ishl B 92 93 d1_92 rfl ?_
          refine o_aloadN B 93 94 (v := (.ref x0)) d1_93 rfl rfl rfl ?_
          refine o_iloadN B 94 95 (v := x1) d1_94 rfl rfl ?_
          refine o_iconst B 95 96 (1 : Int32) d1_95 rfl (by decide) ?_
          refine o_iadd B 96 97 d1_96 rfl ?_
          refine o_baload B 97 98 A0 (x1.toInt.toNat + 1) (g (x1.toInt.toNat + 1)) d1_97 rfl j1.1 j1.2 (by omega) rfl ?_
          refine o_bipush B 98 100 (63 : Int32) d1_98 rfl (by decide) ?_
          refine o_iand B 100 101 d1_100 rfl ?_
          refine o_bipush B 101 103 (12 : Int32) d1_101 rfl (by decide) ?_
          refine o_ishl B 103 104 d1_103 rfl ?_
          refine o_ior B 104 105 d1_104 rfl ?_
          refine o_aloadN B 105 106 (v := (.ref x0)) d1_105 rfl rfl rfl ?_
          refine o_iloadN B 106 107 (v := x1) d1_106 rfl rfl ?_
          refine o_iconst B 107 108 (2 : Int32) d1_107 rfl (by decide) ?_
          refine o_iadd B 108 109 d1_108 rfl ?_
          refine o_baload B 109 110 A0 (x1.toInt.toNat + 2) (g (x1.toInt.toNat + 2)) d1_109 rfl j2.1 j2.2 (by omega) rfl ?_
          refine o_bipush B 110 112 (63 : Int32) d1_110 rfl (by decide) ?_
          refine o_iand B 112 113 d1_112 rfl ?_
          refine o_bipush B 113 115 (6 : Int32) d1_113 rfl (by decide) ?_
          refine o_ishl B 115 116 d1_115 rfl ?_
          refine o_ior B 116 117 d1_116 rfl ?_
          refine o_aloadN B 117 118 (v := (.ref x0)) d1_117 rfl rfl rfl ?_
          refine o_iloadN B 118 119 (v := x1) d1_118 rfl rfl ?_
          refine o_iconst B 119 120 (3 : Int32) d1_119 rfl (by decide) ?_
          refine o_iadd B 120 121 d1_120 rfl ?_
          refine o_baload B 121 122 A0 (x1.toInt.toNat + 3) (g (x1.toInt.toNat + 3)) d1_121 rfl j3.1 j3.2 (by omega) rfl ?_
          refine o_bipush B 122 124 (63 : Int32) d1_122 rfl (by decide) ?_
          refine o_iand B 124 125 d1_124 rfl ?_
          refine o_ior B 125 126 d1_125 rfl ?_
          refine o_istoreN B 126 127 (l' := #[.val (.ref x0), .val (.int x1), .val (.int ((g x1.toInt.toNat) &&& (255 : Int32))), .val (.int (q1_3 g x1))]) d1_126 rfl rfl ?_
          refine o_iloadN B 127 128 (v := (q1_3 g x1)) d1_127 rfl rfl ?_
          refine o_retI B 128 d1_128 hret hlk (by decide) (by decide) ⟨(congrArg (fun z => some (Value.int z)) (show f1 g x1 = (q1_3 g x1) from (if_neg k1).trans ((if_neg k2).trans ((if_neg k3).trans (rfl))))).symm, rfl, rfl⟩
theorem pl0 : plainFor x = true := by first | exact plainFor_of_name (by first | (simp [plainName, overriddenIn]; done) | decide +kernel) | decide +kernel
theorem pd___BI_I : parseMethodDescriptor "([BI)I" = some ⟨[(.array .byte), .int], some .int⟩ := by decide +kernel
def q0_1 (x0 : Int32) (x1 : Int32) (x2 : Int64) : Int32 := ((x0 &&& (2147483647 : Int32)) % (1114112 : Int32))
def q0_2 (x0 : Int32) (x1 : Int32) (x2 : Int64) : Int32 := (if (57343 : Int32) < (q0_1 x0 x1 x2) then (q0_1 x0 x1 x2) else ((q0_1 x0 x1 x2) - (2048 : Int32)))
def q0_3 (x0 : Int32) (x1 : Int32) (x2 : Int64) : Int32 := (if (q0_1 x0 x1 x2) < (55296 : Int32) then (q0_1 x0 x1 x2) else (q0_2 x0 x1 x2))
def q0_4 (x0 : Int32) (x1 : Int32) (x2 : Int64) : Int32 := ((x1 &&& (2147483647 : Int32)) % (5 : Int32))
def w0_5 (x0 : Int32) (x1 : Int32) (x2 : Int64) : Nat → Int32 := fun j => if j = 0 then x2.toInt32.toInt8.toInt32 else (fun _ => 0) j
def w0_6 (x0 : Int32) (x1 : Int32) (x2 : Int64) : Nat → Int32 := fun j => if j = 1 then (XT.ushrL x2 (8 : Int32)).toInt32.toInt8.toInt32 else (w0_5 x0 x1 x2) j
def w0_7 (x0 : Int32) (x1 : Int32) (x2 : Int64) : Nat → Int32 := fun j => if j = 2 then (XT.ushrL x2 (16 : Int32)).toInt32.toInt8.toInt32 else (w0_6 x0 x1 x2) j
def w0_8 (x0 : Int32) (x1 : Int32) (x2 : Int64) : Nat → Int32 := fun j => if j = 3 then (XT.ushrL x2 (24 : Int32)).toInt32.toInt8.toInt32 else (w0_7 x0 x1 x2) j
def w0_9 (x0 : Int32) (x1 : Int32) (x2 : Int64) : Nat → Int32 := fun j => if j = 4 then (XT.ushrL x2 (32 : Int32)).toInt32.toInt8.toInt32 else (w0_8 x0 x1 x2) j
def w0_10 (x0 : Int32) (x1 : Int32) (x2 : Int64) : Nat → Int32 := fun j => if j = 5 then (XT.ushrL x2 (40 : Int32)).toInt32.toInt8.toInt32 else (w0_9 x0 x1 x2) j
def w0_11 (x0 : Int32) (x1 : Int32) (x2 : Int64) : Nat → Int32 := fun j => if j = 6 then (XT.ushrL x2 (48 : Int32)).toInt32.toInt8.toInt32 else (w0_10 x0 x1 x2) j
def w0_12 (x0 : Int32) (x1 : Int32) (x2 : Int64) : Nat → Int32 := fun j => if j = 7 then (XT.ushrL x2 (56 : Int32)).toInt32.toInt8.toInt32 else (w0_11 x0 x1 x2) j
def w0_13 (x0 : Int32) (x1 : Int32) (x2 : Int64) : Nat → Int32 := fun j => if j = (q0_4 x0 x1 x2).toInt.toNat then (q0_3 x0 x1 x2).toInt8.toInt32 else (w0_12 x0 x1 x2) j
def w0_14 (x0 : Int32) (x1 : Int32) (x2 : Int64) : Nat → Int32 := fun j => if j = (q0_4 x0 x1 x2).toInt.toNat then ((192 : Int32) ||| ((q0_3 x0 x1 x2) >>> ((6 : Int32) &&& 31))).toInt8.toInt32 else (w0_12 x0 x1 x2) j
def w0_15 (x0 : Int32) (x1 : Int32) (x2 : Int64) : Nat → Int32 := fun j => if j = ((q0_4 x0 x1 x2).toInt.toNat + 1) then ((128 : Int32) ||| ((q0_3 x0 x1 x2) &&& (63 : Int32))).toInt8.toInt32 else (w0_14 x0 x1 x2) j
def w0_16 (x0 : Int32) (x1 : Int32) (x2 : Int64) : Nat → Int32 := fun j => if j = (q0_4 x0 x1 x2).toInt.toNat then ((224 : Int32) ||| ((q0_3 x0 x1 x2) >>> ((12 : Int32) &&& 31))).toInt8.toInt32 else (w0_12 x0 x1 x2) j
def w0_17 (x0 : Int32) (x1 : Int32) (x2 : Int64) : Nat → Int32 := fun j => if j = ((q0_4 x0 x1 x2).toInt.toNat + 1) then ((128 : Int32) ||| (((q0_3 x0 x1 x2) >>> ((6 : Int32) &&& 31)) &&& (63 : Int32))).toInt8.toInt32 else (w0_16 x0 x1 x2) j
def w0_18 (x0 : Int32) (x1 : Int32) (x2 : Int64) : Nat → Int32 := fun j => if j = ((q0_4 x0 x1 x2).toInt.toNat + 2) then ((128 : Int32) ||| ((q0_3 x0 x1 x2) &&& (63 : Int32))).toInt8.toInt32 else (w0_17 x0 x1 x2) j
def w0_19 (x0 : Int32) (x1 : Int32) (x2 : Int64) : Nat → Int32 := fun j => if j = (q0_4 x0 x1 x2).toInt.toNat then ((240 : Int32) ||| ((q0_3 x0 x1 x2) >>> ((18 : Int32) &&& 31))).toInt8.toInt32 else (w0_12 x0 x1 x2) j
def w0_20 (x0 : Int32) (x1 : Int32) (x2 : Int64) : Nat → Int32 := fun j => if j = ((q0_4 x0 x1 x2).toInt.toNat + 1) then ((128 : Int32) ||| (((q0_3 x0 x1 x2) >>> ((12 : Int32) &&& 31)) &&& (63 : Int32))).toInt8.toInt32 else (w0_19 x0 x1 x2) j
def w0_21 (x0 : Int32) (x1 : Int32) (x2 : Int64) : Nat → Int32 := fun j => if j = ((q0_4 x0 x1 x2).toInt.toNat + 2) then ((128 : Int32) ||| (((q0_3 x0 x1 x2) >>> ((6 : Int32) &&& 31)) &&& (63 : Int32))).toInt8.toInt32 else (w0_20 x0 x1 x2) j
def w0_22 (x0 : Int32) (x1 : Int32) (x2 : Int64) : Nat → Int32 := fun j => if j = ((q0_4 x0 x1 x2).toInt.toNat + 3) then ((128 : Int32) ||| ((q0_3 x0 x1 x2) &&& (63 : Int32))).toInt8.toInt32 else (w0_21 x0 x1 x2) j
def f0 (x0 : Int32) (x1 : Int32) (x2 : Int64) : Int32 := (if (q0_3 x0 x1 x2) < (128 : Int32) then (if (f1 (w0_13 x0 x1 x2) (q0_4 x0 x1 x2)) = (q0_3 x0 x1 x2) then (1 : Int32) else (0 : Int32)) else (if (q0_3 x0 x1 x2) < (2048 : Int32) then (if (f1 (w0_15 x0 x1 x2) (q0_4 x0 x1 x2)) = (q0_3 x0 x1 x2) then (1 : Int32) else (0 : Int32)) else (if (q0_3 x0 x1 x2) < (65536 : Int32) then (if (f1 (w0_18 x0 x1 x2) (q0_4 x0 x1 x2)) = (q0_3 x0 x1 x2) then (1 : Int32) else (0 : Int32)) else (if (f1 (w0_22 x0 x1 x2) (q0_4 x0 x1 x2)) = (q0_3 x0 x1 x2) then (1 : Int32) else (0 : Int32)))))
theorem own_at (x0 x1 : Int32) (x2 : Int64) : 0 ≤ (q0_4 x0 x1 x2).toInt ∧ (q0_4 x0 x1 x2).toInt ≤ 4 := by
  have m := c_mask x1 2147483647 31 (by decide) (by decide)
  have r := c_irem (x1 &&& 2147483647) 5 5 (by decide)
  unfold q0_4
  omega
set_option maxRecDepth 65536 in
set_option maxHeartbeats 40000000 in
theorem rm0 (l : Launch) (Z : State) (a0 : Array Value) (hw : ∀ d ∈ tables_1, d.before a0 Z = true) (ws : List Jvm.Cond) (x0 : Int32) (x1 : Int32) (x2 : Int64) (h0 : Heap) (n0 : Nat) (hz : n0 ≤ h0.size) :
    MetFree l x (head1 (Jvm.Cond.code x code maxLocals ret :: ws) room_1) (fun a U => a = #[(.int x0), (.int x1), (.long x2)] ∧ Z.Warmed39 U.vm ∧ U.heap = h0) (fun _ _ _ _ _ => True) (fun _ U o U' => ∃ v L, o = .returned v ∧ Lw n0 (some (.int (f0 x0 x1 x2))) v U'.heap L ∧ FrameEnd U o U' L room_1.cells room_1.slots) := by
  refine enter (y := x) (bs := code) (ml := maxLocals) (ret := ret) (Q := Lw n0 (some (.int (f0 x0 x1 x2)))) pl0 #[.val (.int x0), .val (.int x1), .val (.long x2), .second, .unset, .unset, .unset] rfl ?_
  intro p e s m below meth c T B hret hlk hnm
  have N0 := Fr.nil n0
  refine o_iloadN B 0 1 (v := x0) at_0 rfl rfl ?_
  refine o_ldc B 1 3 at_1 rfl (hw _ (List.mem_of_getElem? (i := 0) rfl)) ?_
  refine o_iand B 3 4 at_3 rfl ?_
  refine o_ldc B 4 6 at_4 rfl (hw _ (List.mem_of_getElem? (i := 1) rfl)) ?_
  refine o_irem B 6 7 at_6 rfl (by decide) ?_
  refine o_istore B 7 9 (l' := #[.val (.int x0), .val (.int x1), .val (.long x2), .second, .val (.int (q0_1 x0 x1 x2)), .unset, .unset]) at_7 rfl rfl ?_
  refine o_iload B 9 11 (v := (q0_1 x0 x1 x2)) at_9 rfl rfl ?_
  refine o_ldc B 11 13 at_11 rfl (hw _ (List.mem_of_getElem? (i := 2) rfl)) ?_
  have dm1 : ∀ {P : Outcome → State → Prop}, OG p.tables e below P (T.setTop (mkF m 31 #[.val (.int x0), .val (.int x1), .val (.long x2), .second, .val (.int (q0_3 x0 x1 x2)), .unset, .unset] [])) → OG p.tables e below P (T.setTop (mkF m 13 #[.val (.int x0), .val (.int x1), .val (.long x2), .second, .val (.int (q0_1 x0 x1 x2)), .unset, .unset] [(.int (55296 : Int32)), (.int (q0_1 x0 x1 x2))])) := by
    intro P k
    by_cases k2 : (q0_1 x0 x1 x2) < (55296 : Int32)
    · refine o_icY B 13 31 at_13 (XT.ii_lt_t k2) (by decide) (by decide) ?_
      have y0 : (q0_3 x0 x1 x2) = (q0_1 x0 x1 x2) := by simp only [q0_2, q0_3, if_pos k2]
      rw [y0] at k
      exact k
    · refine o_icN B 13 16 at_13 rfl (XT.ii_lt_f k2) ?_
      refine o_iload B 16 18 (v := (q0_1 x0 x1 x2)) at_16 rfl rfl ?_
      refine o_ldc B 18 20 at_18 rfl (hw _ (List.mem_of_getElem? (i := 8) rfl)) ?_
      by_cases k3 : (57343 : Int32) < (q0_1 x0 x1 x2)
      · refine o_icY B 20 31 at_20 (XT.ii_gt_t k3) (by decide) (by decide) ?_
        have y0 : (q0_3 x0 x1 x2) = (q0_1 x0 x1 x2) := by simp only [q0_2, q0_3, if_neg k2, if_pos k3]
        rw [y0] at k
        exact k
      · refine o_icN B 20 23 at_20 rfl (XT.ii_gt_f k3) ?_
        refine o_iload B 23 25 (v := (q0_1 x0 x1 x2)) at_23 rfl rfl ?_
        refine o_sipush B 25 28 (2048 : Int32) at_25 rfl (by decide) ?_
        refine o_isub B 28 29 at_28 rfl ?_
        refine o_istore B 29 31 (l' := #[.val (.int x0), .val (.int x1), .val (.long x2), .second, .val (.int ((q0_1 x0 x1 x2) - (2048 : Int32))), .unset, .unset]) at_29 rfl rfl ?_
        have y0 : (q0_3 x0 x1 x2) = ((q0_1 x0 x1 x2) - (2048 : Int32)) := by simp only [q0_2, q0_3, if_neg k2, if_neg k3]
        rw [y0] at k
        exact k
  refine dm1 ?_
  refine o_iloadN B 31 32 (v := x1) at_31 rfl rfl ?_
  refine o_ldc B 32 34 at_32 rfl (hw _ (List.mem_of_getElem? (i := 0) rfl)) ?_
  refine o_iand B 34 35 at_34 rfl ?_
  refine o_iconst B 35 36 (5 : Int32) at_35 rfl (by decide) ?_
  refine o_irem B 36 37 at_36 rfl (by decide) ?_
  refine o_istore B 37 39 (l' := #[.val (.int x0), .val (.int x1), .val (.long x2), .second, .val (.int (q0_3 x0 x1 x2)), .val (.int (q0_4 x0 x1 x2)), .unset]) at_37 rfl rfl ?_
  have ha := own_at x0 x1 x2
  have j0 := ix_of (j := (q0_4 x0 x1 x2)) (k := (q0_4 x0 x1 x2).toInt.toNat) (by omega)
  have j1 := ix_of (ix_add (j := (q0_4 x0 x1 x2)) (k := (q0_4 x0 x1 x2).toInt.toNat) (1 : Int32) 1 (by omega) (by decide) (by omega))
  have j2 := ix_of (ix_add (j := (q0_4 x0 x1 x2)) (k := (q0_4 x0 x1 x2).toInt.toNat) (2 : Int32) 2 (by omega) (by decide) (by omega))
  have j3 := ix_of (ix_add (j := (q0_4 x0 x1 x2)) (k := (q0_4 x0 x1 x2).toInt.toNat) (3 : Int32) 3 (by omega) (by decide) (by omega))
  refine o_bipush B 39 41 (8 : Int32) at_39 rfl (by decide) ?_
  obtain ⟨a4, T4, h4, z4, B4, E4, A4, c4⟩ := o_newI B 41 43 (ty := .byte) (z := (8 : Int32)) 8 8 (hw _ (List.mem_of_getElem? (i := 3) rfl)) at_41 rfl rfl rfl (by decide) (by decide) (by decide) (by decide) (by decide) (by decide) (Ls := #[.val (.int x0), .val (.int x1), .val (.long x2), .second, .val (.int (q0_3 x0 x1 x2)), .val (.int (q0_4 x0 x1 x2)), .unset]) (rest := [])
  have g4 : n0 ≤ a4 := by rw [z4]; exact hz
  have s4 : n0 ≤ h4.size := Nat.le_trans hz E4.1
  refine c4 ?_
  refine o_astore B4 43 45 (l' := #[.val (.int x0), .val (.int x1), .val (.long x2), .second, .val (.int (q0_3 x0 x1 x2)), .val (.int (q0_4 x0 x1 x2)), .val (.ref a4)]) at_43 rfl rfl rfl ?_
  refine o_aload B4 45 47 (v := (.ref a4)) at_45 rfl rfl rfl ?_
  refine o_iconst B4 47 48 (0 : Int32) at_47 rfl (by decide) ?_
  refine o_lloadN B4 48 49 (v := x2) at_48 rfl rfl ?_
  refine o_l2i B4 49 50 at_49 rfl ?_
  refine o_i2b B4 50 51 at_50 rfl ?_
  obtain ⟨T5, h5, L5, B5, N5, W5, Q5, c5⟩ := o_bastore B4 N0 g4 51 52 A4 (j := (0 : Int32)) (x := x2.toInt32.toInt8.toInt32) 0 x2.toInt32.toInt8.toInt32 at_51 rfl (by decide) (by decide) (by decide) (nar_bb _) (Ls := #[.val (.int x0), .val (.int x1), .val (.long x2), .second, .val (.int (q0_3 x0 x1 x2)), .val (.int (q0_4 x0 x1 x2)), .val (.ref a4)]) (rest := [])
  have A5 : AI Z h5 a4 .byte 8 (w0_5 x0 x1 x2) := Q5
  refine c5 ?_
  refine o_aload B5 52 54 (v := (.ref a4)) at_52 rfl rfl rfl ?_
  refine o_iconst B5 54 55 (1 : Int32) at_54 rfl (by decide) ?_
  refine o_lloadN B5 55 56 (v := x2) at_55 rfl rfl ?_
  refine o_bipush B5 56 58 (8 : Int32) at_56 rfl (by decide) ?_
  refine o_lushr B5 58 59 at_58 rfl ?_
  refine o_l2i B5 59 60 at_59 rfl ?_
  refine o_i2b B5 60 61 at_60 rfl ?_
  obtain ⟨T6, h6, L6, B6, N6, W6, Q6, c6⟩ := o_bastore B5 N5 g4 61 62 A5 (j := (1 : Int32)) (x := (XT.ushrL x2 (8 : Int32)).toInt32.toInt8.toInt32) 1 (XT.ushrL x2 (8 : Int32)).toInt32.toInt8.toInt32 at_61 rfl (by decide) (by decide) (by decide) (nar_bb _) (Ls := #[.val (.int x0), .val (.int x1), .val (.long x2), .second, .val (.int (q0_3 x0 x1 x2)), .val (.int (q0_4 x0 x1 x2)), .val (.ref a4)]) (rest := [])
  have A6 : AI Z h6 a4 .byte 8 (w0_6 x0 x1 x2) := Q6
  refine c6 ?_
  refine o_aload B6 62 64 (v := (.ref a4)) at_62 rfl rfl rfl ?_
  refine o_iconst B6 64 65 (2 : Int32) at_64 rfl (by decide) ?_
  refine o_lloadN B6 65 66 (v := x2) at_65 rfl rfl ?_
  refine o_bipush B6 66 68 (16 : Int32) at_66 rfl (by decide) ?_
  refine o_lushr B6 68 69 at_68 rfl ?_
  refine o_l2i B6 69 70 at_69 rfl ?_
  refine o_i2b B6 70 71 at_70 rfl ?_
  obtain ⟨T7, h7, L7, B7, N7, W7, Q7, c7⟩ := o_bastore B6 N6 g4 71 72 A6 (j := (2 : Int32)) (x := (XT.ushrL x2 (16 : Int32)).toInt32.toInt8.toInt32) 2 (XT.ushrL x2 (16 : Int32)).toInt32.toInt8.toInt32 at_71 rfl (by decide) (by decide) (by decide) (nar_bb _) (Ls := #[.val (.int x0), .val (.int x1), .val (.long x2), .second, .val (.int (q0_3 x0 x1 x2)), .val (.int (q0_4 x0 x1 x2)), .val (.ref a4)]) (rest := [])
  have A7 : AI Z h7 a4 .byte 8 (w0_7 x0 x1 x2) := Q7
  refine c7 ?_
  refine o_aload B7 72 74 (v := (.ref a4)) at_72 rfl rfl rfl ?_
  refine o_iconst B7 74 75 (3 : Int32) at_74 rfl (by decide) ?_
  refine o_lloadN B7 75 76 (v := x2) at_75 rfl rfl ?_
  refine o_bipush B7 76 78 (24 : Int32) at_76 rfl (by decide) ?_
  refine o_lushr B7 78 79 at_78 rfl ?_
  refine o_l2i B7 79 80 at_79 rfl ?_
  refine o_i2b B7 80 81 at_80 rfl ?_
  obtain ⟨T8, h8, L8, B8, N8, W8, Q8, c8⟩ := o_bastore B7 N7 g4 81 82 A7 (j := (3 : Int32)) (x := (XT.ushrL x2 (24 : Int32)).toInt32.toInt8.toInt32) 3 (XT.ushrL x2 (24 : Int32)).toInt32.toInt8.toInt32 at_81 rfl (by decide) (by decide) (by decide) (nar_bb _) (Ls := #[.val (.int x0), .val (.int x1), .val (.long x2), .second, .val (.int (q0_3 x0 x1 x2)), .val (.int (q0_4 x0 x1 x2)), .val (.ref a4)]) (rest := [])
  have A8 : AI Z h8 a4 .byte 8 (w0_8 x0 x1 x2) := Q8
  refine c8 ?_
  refine o_aload B8 82 84 (v := (.ref a4)) at_82 rfl rfl rfl ?_
  refine o_iconst B8 84 85 (4 : Int32) at_84 rfl (by decide) ?_
  refine o_lloadN B8 85 86 (v := x2) at_85 rfl rfl ?_
  refine o_bipush B8 86 88 (32 : Int32) at_86 rfl (by decide) ?_
  refine o_lushr B8 88 89 at_88 rfl ?_
  refine o_l2i B8 89 90 at_89 rfl ?_
  refine o_i2b B8 90 91 at_90 rfl ?_
  obtain ⟨T9, h9, L9, B9, N9, W9, Q9, c9⟩ := o_bastore B8 N8 g4 91 92 A8 (j := (4 : Int32)) (x := (XT.ushrL x2 (32 : Int32)).toInt32.toInt8.toInt32) 4 (XT.ushrL x2 (32 : Int32)).toInt32.toInt8.toInt32 at_91 rfl (by decide) (by decide) (by decide) (nar_bb _) (Ls := #[.val (.int x0), .val (.int x1), .val (.long x2), .second, .val (.int (q0_3 x0 x1 x2)), .val (.int (q0_4 x0 x1 x2)), .val (.ref a4)]) (rest := [])
  have A9 : AI Z h9 a4 .byte 8 (w0_9 x0 x1 x2) := Q9
  refine c9 ?_
  refine o_aload B9 92 94 (v := (.ref a4)) at_92 rfl rfl rfl ?_
  refine o_iconst B9 94 95 (5 : Int32) at_94 rfl (by decide) ?_
  refine o_lloadN B9 95 96 (v := x2) at_95 rfl rfl ?_
  refine o_bipush B9 96 98 (40 : Int32) at_96 rfl (by decide) ?_
  refine o_lushr B9 98 99 at_98 rfl ?_
  refine o_l2i B9 99 100 at_99 rfl ?_
  refine o_i2b B9 100 101 at_100 rfl ?_
  obtain ⟨T10, h10, L10, B10, N10, W10, Q10, c10⟩ := o_bastore B9 N9 g4 101 102 A9 (j := (5 : Int32)) (x := (XT.ushrL x2 (40 : Int32)).toInt32.toInt8.toInt32) 5 (XT.ushrL x2 (40 : Int32)).toInt32.toInt8.toInt32 at_101 rfl (by decide) (by decide) (by decide) (nar_bb _) (Ls := #[.val (.int x0), .val (.int x1), .val (.long x2), .second, .val (.int (q0_3 x0 x1 x2)), .val (.int (q0_4 x0 x1 x2)), .val (.ref a4)]) (rest := [])
  have A10 : AI Z h10 a4 .byte 8 (w0_10 x0 x1 x2) := Q10
  refine c10 ?_
  refine o_aload B10 102 104 (v := (.ref a4)) at_102 rfl rfl rfl ?_
  refine o_bipush B10 104 106 (6 : Int32) at_104 rfl (by decide) ?_
  refine o_lloadN B10 106 107 (v := x2) at_106 rfl rfl ?_
  refine o_bipush B10 107 109 (48 : Int32) at_107 rfl (by decide) ?_
  refine o_lushr B10 109 110 at_109 rfl ?_
  refine o_l2i B10 110 111 at_110 rfl ?_
  refine o_i2b B10 111 112 at_111 rfl ?_
  obtain ⟨T11, h11, L11, B11, N11, W11, Q11, c11⟩ := o_bastore B10 N10 g4 112 113 A10 (j := (6 : Int32)) (x := (XT.ushrL x2 (48 : Int32)).toInt32.toInt8.toInt32) 6 (XT.ushrL x2 (48 : Int32)).toInt32.toInt8.toInt32 at_112 rfl (by decide) (by decide) (by decide) (nar_bb _) (Ls := #[.val (.int x0), .val (.int x1), .val (.long x2), .second, .val (.int (q0_3 x0 x1 x2)), .val (.int (q0_4 x0 x1 x2)), .val (.ref a4)]) (rest := [])
  have A11 : AI Z h11 a4 .byte 8 (w0_11 x0 x1 x2) := Q11
  refine c11 ?_
  refine o_aload B11 113 115 (v := (.ref a4)) at_113 rfl rfl rfl ?_
  refine o_bipush B11 115 117 (7 : Int32) at_115 rfl (by decide) ?_
  refine o_lloadN B11 117 118 (v := x2) at_117 rfl rfl ?_
  refine o_bipush B11 118 120 (56 : Int32) at_118 rfl (by decide) ?_
  refine o_lushr B11 120 121 at_120 rfl ?_
  refine o_l2i B11 121 122 at_121 rfl ?_
  refine o_i2b B11 122 123 at_122 rfl ?_
  obtain ⟨T12, h12, L12, B12, N12, W12, Q12, c12⟩ := o_bastore B11 N11 g4 123 124 A11 (j := (7 : Int32)) (x := (XT.ushrL x2 (56 : Int32)).toInt32.toInt8.toInt32) 7 (XT.ushrL x2 (56 : Int32)).toInt32.toInt8.toInt32 at_123 rfl (by decide) (by decide) (by decide) (nar_bb _) (Ls := #[.val (.int x0), .val (.int x1), .val (.long x2), .second, .val (.int (q0_3 x0 x1 x2)), .val (.int (q0_4 x0 x1 x2)), .val (.ref a4)]) (rest := [])
  have A12 : AI Z h12 a4 .byte 8 (w0_12 x0 x1 x2) := Q12
  refine c12 ?_
  refine o_iload B12 124 126 (v := (q0_3 x0 x1 x2)) at_124 rfl rfl ?_
  refine o_sipush B12 126 129 (128 : Int32) at_126 rfl (by decide) ?_
  by_cases k4 : (q0_3 x0 x1 x2) < (128 : Int32)
  · refine o_icN B12 129 132 at_129 rfl (XT.ii_ge_f k4) ?_
    refine o_aload B12 132 134 (v := (.ref a4)) at_132 rfl rfl rfl ?_
    refine o_iload B12 134 136 (v := (q0_4 x0 x1 x2)) at_134 rfl rfl ?_
    refine o_iload B12 136 138 (v := (q0_3 x0 x1 x2)) at_136 rfl rfl ?_
    refine o_i2b B12 138 139 at_138 rfl ?_
    obtain ⟨T13, h13, L13, B13, N13, W13, Q13, c13⟩ := o_bastore B12 N12 g4 139 140 A12 (j := (q0_4 x0 x1 x2)) (x := (q0_3 x0 x1 x2).toInt8.toInt32) (q0_4 x0 x1 x2).toInt.toNat (q0_3 x0 x1 x2).toInt8.toInt32 at_139 rfl j0.1 j0.2 (by omega) (nar_bb _) (Ls := #[.val (.int x0), .val (.int x1), .val (.long x2), .second, .val (.int (q0_3 x0 x1 x2)), .val (.int (q0_4 x0 x1 x2)), .val (.ref a4)]) (rest := [])
    have A13 : AI Z h13 a4 .byte 8 (w0_13 x0 x1 x2) := Q13
    refine c13 ?_
    refine o_goto B13 140 320 at_140 (by decide) (by decide) ?_
    refine o_aload B13 320 322 (v := (.ref a4)) at_320 rfl rfl rfl ?_
    refine o_iload B13 322 324 (v := (q0_4 x0 x1 x2)) at_322 rfl rfl ?_
    obtain ⟨T14, B14, c14⟩ := o_callP B13 324 327 at_324 rfl (hw _ (List.mem_of_getElem? (i := 4) rfl)) (hw _ (List.mem_of_getElem? (i := 5) rfl)) (hw _ (List.mem_of_getElem? (i := 6) rfl)) (hw _ (List.mem_of_getElem? (i := 7) rfl)) (by decide) (rm1 l Z a0 hw (w0_13 x0 x1 x2) a4 (q0_4 x0 x1 x2) h13 A13 ha) 0 [(.ref a4), (.int (q0_4 x0 x1 x2))] [] pd___BI_I rfl rfl (st := [(.int (q0_4 x0 x1 x2)), (.ref a4)]) rfl (Ls := #[.val (.int x0), .val (.int x1), .val (.long x2), .second, .val (.int (q0_3 x0 x1 x2)), .val (.int (q0_4 x0 x1 x2)), .val (.ref a4)]) rfl (Nat.le_of_eq rfl) (by decide) (by decide) (by decide) (by decide)
    refine c14 ?_
    refine o_iload B14 327 329 (v := (q0_3 x0 x1 x2)) at_327 rfl rfl ?_
    by_cases k5 : (f1 (w0_13 x0 x1 x2) (q0_4 x0 x1 x2)) = (q0_3 x0 x1 x2)
    · refine o_icN B14 329 332 at_329 rfl (XT.ii_ne_f k5) ?_
      refine o_iconst B14 332 333 (1 : Int32) at_332 rfl (by decide) ?_
      refine o_goto B14 333 337 at_333 (by decide) (by decide) ?_
      refine o_retZ (t := .boolean) B14 337 at_337 hret hlk (by simp) (by decide) (by decide) ⟨(congrArg (fun z => some (Value.int z)) ((show nar .boolean (1 : Int32) = (1 : Int32) from rfl).trans (show f0 x0 x1 x2 = (1 : Int32) from (if_pos k4).trans ((if_pos k5).trans (rfl))).symm)), N13⟩
    · refine o_icY B14 329 336 at_329 (XT.ii_ne_t k5) (by decide) (by decide) ?_
      refine o_iconst B14 336 337 (0 : Int32) at_336 rfl (by decide) ?_
      refine o_retZ (t := .boolean) B14 337 at_337 hret hlk (by simp) (by decide) (by decide) ⟨(congrArg (fun z => some (Value.int z)) ((show nar .boolean (0 : Int32) = (0 : Int32) from rfl).trans (show f0 x0 x1 x2 = (0 : Int32) from (if_pos k4).trans ((if_neg k5).trans (rfl))).symm)), N13⟩
  · refine o_icY B12 129 143 at_129 (XT.ii_ge_t k4) (by decide) (by decide) ?_
    refine o_iload B12 143 145 (v := (q0_3 x0 x1 x2)) at_143 rfl rfl ?_
    refine o_sipush B12 145 148 (2048 : Int32) at_145 rfl (by decide) ?_
    by_cases k6 : (q0_3 x0 x1 x2) < (2048 : Int32)
    · refine o_icN B12 148 151 at_148 rfl (XT.ii_ge_f k6) ?_
      refine o_aload B12 151 153 (v := (.ref a4)) at_151 rfl rfl rfl ?_
      refine o_iload B12 153 155 (v := (q0_4 x0 x1 x2)) at_153 rfl rfl ?_
      refine o_sipush B12 155 158 (192 : Int32) at_155 rfl (by decide) ?_
      refine o_iload B12 158 160 (v := (q0_3 x0 x1 x2)) at_158 rfl rfl ?_
      refine o_bipush B12 160 162 (6 : Int32) at_160 rfl (by decide) ?_
      refine o_ishr B12 162 163 at_162 rfl ?_
      refine o_ior B12 163 164 at_163 rfl ?_
      refine o_i2b B12 164 165 at_164 rfl ?_
      obtain ⟨T15, h15, L15, B15, N15, W15, Q15, c15⟩ := o_bastore B12 N12 g4 165 166 A12 (j := (q0_4 x0 x1 x2)) (x := ((192 : Int32) ||| ((q0_3 x0 x1 x2) >>> ((6 : Int32) &&& 31))).toInt8.toInt32) (q0_4 x0 x1 x2).toInt.toNat ((192 : Int32) ||| ((q0_3 x0 x1 x2) >>> ((6 : Int32) &&& 31))).toInt8.toInt32 at_165 rfl j0.1 j0.2 (by omega) (nar_bb _) (Ls := #[.val (.int x0), .val (.int x1), .val (.long x2), .second, .val (.int (q0_3 x0 x1 x2)), .val (.int (q0_4 x0 x1 x2)), .val (.ref a4)]) (rest := [])
      have A15 : AI Z h15 a4 .byte 8 (w0_14 x0 x1 x2) := Q15
      refine c15 ?_
      refine o_aload B15 166 168 (v := (.ref a4)) at_166 rfl rfl rfl ?_
      refine o_iload B15 168 170 (v := (q0_4 x0 x1 x2)) at_168 rfl rfl ?_
      refine o_iconst B15 170 171 (1 : Int32) at_170 rfl (by decide) ?_
      refine o_iadd B15 171 172 at_171 rfl ?_
      refine o_sipush B15 172 175 (128 : Int32) at_172 rfl (by decide) ?_
      refine o_iload B15 175 177 (v := (q0_3 x0 x1 x2)) at_175 rfl rfl ?_
      refine o_bipush B15 177 179 (63 : Int32) at_177 rfl (by decide) ?_
      refine o_iand B15 179 180 at_179 rfl ?_
      refine o_ior B15 180 181 at_180 rfl ?_
      refine o_i2b B15 181 182 at_181 rfl ?_
      obtain ⟨T16, h16, L16, B16, N16, W16, Q16, c16⟩ := o_bastore B15 N15 g4 182 183 A15 (j := ((q0_4 x0 x1 x2) + (1 : Int32))) (x := ((128 : Int32) ||| ((q0_3 x0 x1 x2) &&& (63 : Int32))).toInt8.toInt32) ((q0_4 x0 x1 x2).toInt.toNat + 1) ((128 : Int32) ||| ((q0_3 x0 x1 x2) &&& (63 : Int32))).toInt8.toInt32 at_182 rfl j1.1 j1.2 (by omega) (nar_bb _) (Ls := #[.val (.int x0), .val (.int x1), .val (.long x2), .second, .val (.int (q0_3 x0 x1 x2)), .val (.int (q0_4 x0 x1 x2)), .val (.ref a4)]) (rest := [])
      have A16 : AI Z h16 a4 .byte 8 (w0_15 x0 x1 x2) := Q16
      refine c16 ?_
      refine o_goto B16 183 320 at_183 (by decide) (by decide) ?_
      refine o_aload B16 320 322 (v := (.ref a4)) at_320 rfl rfl rfl ?_
      refine o_iload B16 322 324 (v := (q0_4 x0 x1 x2)) at_322 rfl rfl ?_
      obtain ⟨T17, B17, c17⟩ := o_callP B16 324 327 at_324 rfl (hw _ (List.mem_of_getElem? (i := 4) rfl)) (hw _ (List.mem_of_getElem? (i := 5) rfl)) (hw _ (List.mem_of_getElem? (i := 6) rfl)) (hw _ (List.mem_of_getElem? (i := 7) rfl)) (by decide) (rm1 l Z a0 hw (w0_15 x0 x1 x2) a4 (q0_4 x0 x1 x2) h16 A16 ha) 0 [(.ref a4), (.int (q0_4 x0 x1 x2))] [] pd___BI_I rfl rfl (st := [(.int (q0_4 x0 x1 x2)), (.ref a4)]) rfl (Ls := #[.val (.int x0), .val (.int x1), .val (.long x2), .second, .val (.int (q0_3 x0 x1 x2)), .val (.int (q0_4 x0 x1 x2)), .val (.ref a4)]) rfl (Nat.le_of_eq rfl) (by decide) (by decide) (by decide) (by decide)
      refine c17 ?_
      refine o_iload B17 327 329 (v := (q0_3 x0 x1 x2)) at_327 rfl rfl ?_
      by_cases k7 : (f1 (w0_15 x0 x1 x2) (q0_4 x0 x1 x2)) = (q0_3 x0 x1 x2)
      · refine o_icN B17 329 332 at_329 rfl (XT.ii_ne_f k7) ?_
        refine o_iconst B17 332 333 (1 : Int32) at_332 rfl (by decide) ?_
        refine o_goto B17 333 337 at_333 (by decide) (by decide) ?_
        refine o_retZ (t := .boolean) B17 337 at_337 hret hlk (by simp) (by decide) (by decide) ⟨(congrArg (fun z => some (Value.int z)) ((show nar .boolean (1 : Int32) = (1 : Int32) from rfl).trans (show f0 x0 x1 x2 = (1 : Int32) from (if_neg k4).trans ((if_pos k6).trans ((if_pos k7).trans (rfl)))).symm)), N16⟩
      · refine o_icY B17 329 336 at_329 (XT.ii_ne_t k7) (by decide) (by decide) ?_
        refine o_iconst B17 336 337 (0 : Int32) at_336 rfl (by decide) ?_
        refine o_retZ (t := .boolean) B17 337 at_337 hret hlk (by simp) (by decide) (by decide) ⟨(congrArg (fun z => some (Value.int z)) ((show nar .boolean (0 : Int32) = (0 : Int32) from rfl).trans (show f0 x0 x1 x2 = (0 : Int32) from (if_neg k4).trans ((if_pos k6).trans ((if_neg k7).trans (rfl)))).symm)), N16⟩
    · refine o_icY B12 148 186 at_148 (XT.ii_ge_t k6) (by decide) (by decide) ?_
      refine o_iload B12 186 188 (v := (q0_3 x0 x1 x2)) at_186 rfl rfl ?_
      refine o_ldc B12 188 190 at_188 rfl (hw _ (List.mem_of_getElem? (i := 9) rfl)) ?_
      by_cases k8 : (q0_3 x0 x1 x2) < (65536 : Int32)
      · refine o_icN B12 190 193 at_190 rfl (XT.ii_ge_f k8) ?_
        refine o_aload B12 193 195 (v := (.ref a4)) at_193 rfl rfl rfl ?_
        refine o_iload B12 195 197 (v := (q0_4 x0 x1 x2)) at_195 rfl rfl ?_
        refine o_sipush B12 197 200 (224 : Int32) at_197 rfl (by decide) ?_
        refine o_iload B12 200 202 (v := (q0_3 x0 x1 x2)) at_200 rfl rfl ?_
        refine o_bipush B12 202 204 (12 : Int32) at_202 rfl (by decide) ?_
        refine o_ishr B12 204 205 at_204 rfl ?_
        refine o_ior B12 205 206 at_205 rfl ?_
        refine o_i2b B12 206 207 at_206 rfl ?_
        obtain ⟨T18, h18, L18, B18, N18, W18, Q18, c18⟩ := o_bastore B12 N12 g4 207 208 A12 (j := (q0_4 x0 x1 x2)) (x := ((224 : Int32) ||| ((q0_3 x0 x1 x2) >>> ((12 : Int32) &&& 31))).toInt8.toInt32) (q0_4 x0 x1 x2).toInt.toNat ((224 : Int32) ||| ((q0_3 x0 x1 x2) >>> ((12 : Int32) &&& 31))).toInt8.toInt32 at_207 rfl j0.1 j0.2 (by omega) (nar_bb _) (Ls := #[.val (.int x0), .val (.int x1), .val (.long x2), .second, .val (.int (q0_3 x0 x1 x2)), .val (.int (q0_4 x0 x1 x2)), .val (.ref a4)]) (rest := [])
        have A18 : AI Z h18 a4 .byte 8 (w0_16 x0 x1 x2) := Q18
        refine c18 ?_
        refine o_aload B18 208 210 (v := (.ref a4)) at_208 rfl rfl rfl ?_
        refine o_iload B18 210 212 (v := (q0_4 x0 x1 x2)) at_210 rfl rfl ?_
        refine o_iconst B18 212 213 (1 : Int32) at_212 rfl (by decide) ?_
        refine o_iadd B18 213 214 at_213 rfl ?_
        refine o_sipush B18 214 217 (128 : Int32) at_214 rfl (by decide) ?_
        refine o_iload B18 217 219 (v := (q0_3 x0 x1 x2)) at_217 rfl rfl ?_
        refine o_bipush B18 219 221 (6 : Int32) at_219 rfl (by decide) ?_
        refine o_ishr B18 221 222 at_221 rfl ?_
        refine o_bipush B18 222 224 (63 : Int32) at_222 rfl (by decide) ?_
        refine o_iand B18 224 225 at_224 rfl ?_
        refine o_ior B18 225 226 at_225 rfl ?_
        refine o_i2b B18 226 227 at_226 rfl ?_
        obtain ⟨T19, h19, L19, B19, N19, W19, Q19, c19⟩ := o_bastore B18 N18 g4 227 228 A18 (j := ((q0_4 x0 x1 x2) + (1 : Int32))) (x := ((128 : Int32) ||| (((q0_3 x0 x1 x2) >>> ((6 : Int32) &&& 31)) &&& (63 : Int32))).toInt8.toInt32) ((q0_4 x0 x1 x2).toInt.toNat + 1) ((128 : Int32) ||| (((q0_3 x0 x1 x2) >>> ((6 : Int32) &&& 31)) &&& (63 : Int32))).toInt8.toInt32 at_227 rfl j1.1 j1.2 (by omega) (nar_bb _) (Ls := #[.val (.int x0), .val (.int x1), .val (.long x2), .second, .val (.int (q0_3 x0 x1 x2)), .val (.int (q0_4 x0 x1 x2)), .val (.ref a4)]) (rest := [])
        have A19 : AI Z h19 a4 .byte 8 (w0_17 x0 x1 x2) := Q19
        refine c19 ?_
        refine o_aload B19 228 230 (v := (.ref a4)) at_228 rfl rfl rfl ?_
        refine o_iload B19 230 232 (v := (q0_4 x0 x1 x2)) at_230 rfl rfl ?_
        refine o_iconst B19 232 233 (2 : Int32) at_232 rfl (by decide) ?_
        refine o_iadd B19 233 234 at_233 rfl ?_
        refine o_sipush B19 234 237 (128 : Int32) at_234 rfl (by decide) ?_
        refine o_iload B19 237 239 (v := (q0_3 x0 x1 x2)) at_237 rfl rfl ?_
        refine o_bipush B19 239 241 (63 : Int32) at_239 rfl (by decide) ?_
        refine o_iand B19 241 242 at_241 rfl ?_
        refine o_ior B19 242 243 at_242 rfl ?_
        refine o_i2b B19 243 244 at_243 rfl ?_
        obtain ⟨T20, h20, L20, B20, N20, W20, Q20, c20⟩ := o_bastore B19 N19 g4 244 245 A19 (j := ((q0_4 x0 x1 x2) + (2 : Int32))) (x := ((128 : Int32) ||| ((q0_3 x0 x1 x2) &&& (63 : Int32))).toInt8.toInt32) ((q0_4 x0 x1 x2).toInt.toNat + 2) ((128 : Int32) ||| ((q0_3 x0 x1 x2) &&& (63 : Int32))).toInt8.toInt32 at_244 rfl j2.1 j2.2 (by omega) (nar_bb _) (Ls := #[.val (.int x0), .val (.int x1), .val (.long x2), .second, .val (.int (q0_3 x0 x1 x2)), .val (.int (q0_4 x0 x1 x2)), .val (.ref a4)]) (rest := [])
        have A20 : AI Z h20 a4 .byte 8 (w0_18 x0 x1 x2) := Q20
        refine c20 ?_
        refine o_goto B20 245 320 at_245 (by decide) (by decide) ?_
        refine o_aload B20 320 322 (v := (.ref a4)) at_320 rfl rfl rfl ?_
        refine o_iload B20 322 324 (v := (q0_4 x0 x1 x2)) at_322 rfl rfl ?_
        obtain ⟨T21, B21, c21⟩ := o_callP B20 324 327 at_324 rfl (hw _ (List.mem_of_getElem? (i := 4) rfl)) (hw _ (List.mem_of_getElem? (i := 5) rfl)) (hw _ (List.mem_of_getElem? (i := 6) rfl)) (hw _ (List.mem_of_getElem? (i := 7) rfl)) (by decide) (rm1 l Z a0 hw (w0_18 x0 x1 x2) a4 (q0_4 x0 x1 x2) h20 A20 ha) 0 [(.ref a4), (.int (q0_4 x0 x1 x2))] [] pd___BI_I rfl rfl (st := [(.int (q0_4 x0 x1 x2)), (.ref a4)]) rfl (Ls := #[.val (.int x0), .val (.int x1), .val (.long x2), .second, .val (.int (q0_3 x0 x1 x2)), .val (.int (q0_4 x0 x1 x2)), .val (.ref a4)]) rfl (Nat.le_of_eq rfl) (by decide) (by decide) (by decide) (by decide)
        refine c21 ?_
        refine o_iload B21 327 329 (v := (q0_3 x0 x1 x2)) at_327 rfl rfl ?_
        by_cases k9 : (f1 (w0_18 x0 x1 x2) (q0_4 x0 x1 x2)) = (q0_3 x0 x1 x2)
        · refine o_icN B21 329 332 at_329 rfl (XT.ii_ne_f k9) ?_
          refine o_iconst B21 332 333 (1 : Int32) at_332 rfl (by decide) ?_
          refine o_goto B21 333 337 at_333 (by decide) (by decide) ?_
          refine o_retZ (t := .boolean) B21 337 at_337 hret hlk (by simp) (by decide) (by decide) ⟨(congrArg (fun z => some (Value.int z)) ((show nar .boolean (1 : Int32) = (1 : Int32) from rfl).trans (show f0 x0 x1 x2 = (1 : Int32) from (if_neg k4).trans ((if_neg k6).trans ((if_pos k8).trans ((if_pos k9).trans (rfl))))).symm)), N20⟩
        · refine o_icY B21 329 336 at_329 (XT.ii_ne_t k9) (by decide) (by decide) ?_
          refine o_iconst B21 336 337 (0 : Int32) at_336 rfl (by decide) ?_
          refine o_retZ (t := .boolean) B21 337 at_337 hret hlk (by simp) (by decide) (by decide) ⟨(congrArg (fun z => some (Value.int z)) ((show nar .boolean (0 : Int32) = (0 : Int32) from rfl).trans (show f0 x0 x1 x2 = (0 : Int32) from (if_neg k4).trans ((if_neg k6).trans ((if_pos k8).trans ((if_neg k9).trans (rfl))))).symm)), N20⟩
      · refine o_icY B12 190 248 at_190 (XT.ii_ge_t k8) (by decide) (by decide) ?_
        refine o_aload B12 248 250 (v := (.ref a4)) at_248 rfl rfl rfl ?_
        refine o_iload B12 250 252 (v := (q0_4 x0 x1 x2)) at_250 rfl rfl ?_
        refine o_sipush B12 252 255 (240 : Int32) at_252 rfl (by decide) ?_
        refine o_iload B12 255 257 (v := (q0_3 x0 x1 x2)) at_255 rfl rfl ?_
        refine o_bipush B12 257 259 (18 : Int32) at_257 rfl (by decide) ?_
        refine o_ishr B12 259 260 at_259 rfl ?_
        refine o_ior B12 260 261 at_260 rfl ?_
        refine o_i2b B12 261 262 at_261 rfl ?_
        obtain ⟨T22, h22, L22, B22, N22, W22, Q22, c22⟩ := o_bastore B12 N12 g4 262 263 A12 (j := (q0_4 x0 x1 x2)) (x := ((240 : Int32) ||| ((q0_3 x0 x1 x2) >>> ((18 : Int32) &&& 31))).toInt8.toInt32) (q0_4 x0 x1 x2).toInt.toNat ((240 : Int32) ||| ((q0_3 x0 x1 x2) >>> ((18 : Int32) &&& 31))).toInt8.toInt32 at_262 rfl j0.1 j0.2 (by omega) (nar_bb _) (Ls := #[.val (.int x0), .val (.int x1), .val (.long x2), .second, .val (.int (q0_3 x0 x1 x2)), .val (.int (q0_4 x0 x1 x2)), .val (.ref a4)]) (rest := [])
        have A22 : AI Z h22 a4 .byte 8 (w0_19 x0 x1 x2) := Q22
        refine c22 ?_
        refine o_aload B22 263 265 (v := (.ref a4)) at_263 rfl rfl rfl ?_
        refine o_iload B22 265 267 (v := (q0_4 x0 x1 x2)) at_265 rfl rfl ?_
        refine o_iconst B22 267 268 (1 : Int32) at_267 rfl (by decide) ?_
        refine o_iadd B22 268 269 at_268 rfl ?_
        refine o_sipush B22 269 272 (128 : Int32) at_269 rfl (by decide) ?_
        refine o_iload B22 272 274 (v := (q0_3 x0 x1 x2)) at_272 rfl rfl ?_
        refine o_bipush B22 274 276 (12 : Int32) at_274 rfl (by decide) ?_
        refine o_ishr B22 276 277 at_276 rfl ?_
        refine o_bipush B22 277 279 (63 : Int32) at_277 rfl (by decide) ?_
        refine o_iand B22 279 280 at_279 rfl ?_
        refine o_ior B22 280 281 at_280 rfl ?_
        refine o_i2b B22 281 282 at_281 rfl ?_
        obtain ⟨T23, h23, L23, B23, N23, W23, Q23, c23⟩ := o_bastore B22 N22 g4 282 283 A22 (j := ((q0_4 x0 x1 x2) + (1 : Int32))) (x := ((128 : Int32) ||| (((q0_3 x0 x1 x2) >>> ((12 : Int32) &&& 31)) &&& (63 : Int32))).toInt8.toInt32) ((q0_4 x0 x1 x2).toInt.toNat + 1) ((128 : Int32) ||| (((q0_3 x0 x1 x2) >>> ((12 : Int32) &&& 31)) &&& (63 : Int32))).toInt8.toInt32 at_282 rfl j1.1 j1.2 (by omega) (nar_bb _) (Ls := #[.val (.int x0), .val (.int x1), .val (.long x2), .second, .val (.int (q0_3 x0 x1 x2)), .val (.int (q0_4 x0 x1 x2)), .val (.ref a4)]) (rest := [])
        have A23 : AI Z h23 a4 .byte 8 (w0_20 x0 x1 x2) := Q23
        refine c23 ?_
        refine o_aload B23 283 285 (v := (.ref a4)) at_283 rfl rfl rfl ?_
        refine o_iload B23 285 287 (v := (q0_4 x0 x1 x2)) at_285 rfl rfl ?_
        refine o_iconst B23 287 288 (2 : Int32) at_287 rfl (by decide) ?_
        refine o_iadd B23 288 289 at_288 rfl ?_
        refine o_sipush B23 289 292 (128 : Int32) at_289 rfl (by decide) ?_
        refine o_iload B23 292 294 (v := (q0_3 x0 x1 x2)) at_292 rfl rfl ?_
        refine o_bipush B23 294 296 (6 : Int32) at_294 rfl (by decide) ?_
        refine o_ishr B23 296 297 at_296 rfl ?_
        refine o_bipush B23 297 299 (63 : Int32) at_297 rfl (by decide) ?_
        refine o_iand B23 299 300 at_299 rfl ?_
        refine o_ior B23 300 301 at_300 rfl ?_
        refine o_i2b B23 301 302 at_301 rfl ?_
        obtain ⟨T24, h24, L24, B24, N24, W24, Q24, c24⟩ := o_bastore B23 N23 g4 302 303 A23 (j := ((q0_4 x0 x1 x2) + (2 : Int32))) (x := ((128 : Int32) ||| (((q0_3 x0 x1 x2) >>> ((6 : Int32) &&& 31)) &&& (63 : Int32))).toInt8.toInt32) ((q0_4 x0 x1 x2).toInt.toNat + 2) ((128 : Int32) ||| (((q0_3 x0 x1 x2) >>> ((6 : Int32) &&& 31)) &&& (63 : Int32))).toInt8.toInt32 at_302 rfl j2.1 j2.2 (by omega) (nar_bb _) (Ls := #[.val (.int x0), .val (.int x1), .val (.long x2), .second, .val (.int (q0_3 x0 x1 x2)), .val (.int (q0_4 x0 x1 x2)), .val (.ref a4)]) (rest := [])
        have A24 : AI Z h24 a4 .byte 8 (w0_21 x0 x1 x2) := Q24
        refine c24 ?_
        refine o_aload B24 303 305 (v := (.ref a4)) at_303 rfl rfl rfl ?_
        refine o_iload B24 305 307 (v := (q0_4 x0 x1 x2)) at_305 rfl rfl ?_
        refine o_iconst B24 307 308 (3 : Int32) at_307 rfl (by decide) ?_
        refine o_iadd B24 308 309 at_308 rfl ?_
        refine o_sipush B24 309 312 (128 : Int32) at_309 rfl (by decide) ?_
        refine o_iload B24 312 314 (v := (q0_3 x0 x1 x2)) at_312 rfl rfl ?_
        refine o_bipush B24 314 316 (63 : Int32) at_314 rfl (by decide) ?_
        refine o_iand B24 316 317 at_316 rfl ?_
        refine o_ior B24 317 318 at_317 rfl ?_
        refine o_i2b B24 318 319 at_318 rfl ?_
        obtain ⟨T25, h25, L25, B25, N25, W25, Q25, c25⟩ := o_bastore B24 N24 g4 319 320 A24 (j := ((q0_4 x0 x1 x2) + (3 : Int32))) (x := ((128 : Int32) ||| ((q0_3 x0 x1 x2) &&& (63 : Int32))).toInt8.toInt32) ((q0_4 x0 x1 x2).toInt.toNat + 3) ((128 : Int32) ||| ((q0_3 x0 x1 x2) &&& (63 : Int32))).toInt8.toInt32 at_319 rfl j3.1 j3.2 (by omega) (nar_bb _) (Ls := #[.val (.int x0), .val (.int x1), .val (.long x2), .second, .val (.int (q0_3 x0 x1 x2)), .val (.int (q0_4 x0 x1 x2)), .val (.ref a4)]) (rest := [])
        have A25 : AI Z h25 a4 .byte 8 (w0_22 x0 x1 x2) := Q25
        refine c25 ?_
        refine o_aload B25 320 322 (v := (.ref a4)) at_320 rfl rfl rfl ?_
        refine o_iload B25 322 324 (v := (q0_4 x0 x1 x2)) at_322 rfl rfl ?_
        obtain ⟨T26, B26, c26⟩ := o_callP B25 324 327 at_324 rfl (hw _ (List.mem_of_getElem? (i := 4) rfl)) (hw _ (List.mem_of_getElem? (i := 5) rfl)) (hw _ (List.mem_of_getElem? (i := 6) rfl)) (hw _ (List.mem_of_getElem? (i := 7) rfl)) (by decide) (rm1 l Z a0 hw (w0_22 x0 x1 x2) a4 (q0_4 x0 x1 x2) h25 A25 ha) 0 [(.ref a4), (.int (q0_4 x0 x1 x2))] [] pd___BI_I rfl rfl (st := [(.int (q0_4 x0 x1 x2)), (.ref a4)]) rfl (Ls := #[.val (.int x0), .val (.int x1), .val (.long x2), .second, .val (.int (q0_3 x0 x1 x2)), .val (.int (q0_4 x0 x1 x2)), .val (.ref a4)]) rfl (Nat.le_of_eq rfl) (by decide) (by decide) (by decide) (by decide)
        refine c26 ?_
        refine o_iload B26 327 329 (v := (q0_3 x0 x1 x2)) at_327 rfl rfl ?_
        by_cases k10 : (f1 (w0_22 x0 x1 x2) (q0_4 x0 x1 x2)) = (q0_3 x0 x1 x2)
        · refine o_icN B26 329 332 at_329 rfl (XT.ii_ne_f k10) ?_
          refine o_iconst B26 332 333 (1 : Int32) at_332 rfl (by decide) ?_
          refine o_goto B26 333 337 at_333 (by decide) (by decide) ?_
          refine o_retZ (t := .boolean) B26 337 at_337 hret hlk (by simp) (by decide) (by decide) ⟨(congrArg (fun z => some (Value.int z)) ((show nar .boolean (1 : Int32) = (1 : Int32) from rfl).trans (show f0 x0 x1 x2 = (1 : Int32) from (if_neg k4).trans ((if_neg k6).trans ((if_neg k8).trans ((if_pos k10).trans (rfl))))).symm)), N25⟩
        · refine o_icY B26 329 336 at_329 (XT.ii_ne_t k10) (by decide) (by decide) ?_
          refine o_iconst B26 336 337 (0 : Int32) at_336 rfl (by decide) ?_
          refine o_retZ (t := .boolean) B26 337 at_337 hret hlk (by simp) (by decide) (by decide) ⟨(congrArg (fun z => some (Value.int z)) ((show nar .boolean (0 : Int32) = (0 : Int32) from rfl).trans (show f0 x0 x1 x2 = (0 : Int32) from (if_neg k4).trans ((if_neg k6).trans ((if_neg k8).trans ((if_neg k10).trans (rfl))))).symm)), N25⟩
theorem own_lead (a s : Int32) (k : Nat) (hk : k ≤ 31) (P : Int) (hP : P = (2 ^ k : Nat)) (ha : a.toInt % P = 0) (h0 : 0 ≤ s.toInt) (h1 : s.toInt < P) (ha0 : 0 ≤ a.toInt) (hb : a.toInt + s.toInt < 256) : ((a ||| s).toInt8.toInt32 &&& 255).toInt = a.toInt + s.toInt := by
  have o := c_or a s k hk P hP ha h0 h1
  have r := rng32 (a ||| s)
  have b := c_i2b (a ||| s)
  have m := c_mask (a ||| s).toInt8.toInt32 255 8 (by decide) (by decide)
  omega
theorem own_tail (s : Int32) (h0 : 0 ≤ s.toInt) (h1 : s.toInt < 64) : ((128 ||| s).toInt8.toInt32 &&& 63).toInt = s.toInt := by
  have o := c_or 128 s 7 (by decide) 128 (by decide) (by decide) h0 (by omega)
  have r := rng32 (128 ||| s)
  have b := c_i2b (128 ||| s)
  have m := c_mask (128 ||| s).toInt8.toInt32 63 6 (by decide) (by decide)
  have e : (128 : Int32).toInt = 128 := by decide
  omega
theorem own_sh (x q : Int32) (k : Nat) (P : Int) (hk : q.toBitVec.toNat % 32 = k) (hP : P = (2 ^ k : Nat)) (h0 : 0 ≤ x.toInt) (h1 : x.toInt * P < 2147483648) (hP0 : 0 < P) : (x <<< (q &&& 31)).toInt = x.toInt * P := by
  have h := c_ishl x q k hk
  have r := rng32 (x <<< (q &&& 31))
  rw [← hP] at h
  have := Int.mul_nonneg h0 (Int.le_of_lt hP0)
  omega
theorem own_or (a s : Int32) (k : Nat) (hk : k ≤ 31) (P : Int) (hP : P = (2 ^ k : Nat)) (ha : a.toInt % P = 0) (ha0 : 0 ≤ a.toInt) (h0 : 0 ≤ s.toInt) (h1 : s.toInt < P) (hb : a.toInt + s.toInt < 2147483648) : (a ||| s).toInt = a.toInt + s.toInt := by
  have o := c_or a s k hk P hP ha h0 h1
  have r := rng32 (a ||| s)
  omega
theorem own_c1 (g : Nat → Int32) (x1 cp : Int32) (h0 : 0 ≤ cp.toInt) (h1 : cp.toInt < 128) (e0 : g x1.toInt.toNat = cp.toInt8.toInt32) : f1 g x1 = cp := by
  have b := c_i2b cp
  have m := c_mask cp.toInt8.toInt32 255 8 (by decide) (by decide)
  have e : cp.toInt8.toInt32 &&& 255 = cp := Int32.toInt_inj.mp (by omega)
  unfold f1
  rw [e0, e, if_pos (by rw [Int32.lt_iff_toInt_lt]; exact h1)]
theorem own_c2 (g : Nat → Int32) (x1 cp : Int32) (h0 : 128 ≤ cp.toInt) (h1 : cp.toInt < 2048) (e0 : g x1.toInt.toNat = ((192 : Int32) ||| (cp >>> ((6 : Int32) &&& 31))).toInt8.toInt32) (e1 : g (x1.toInt.toNat + 1) = ((128 : Int32) ||| (cp &&& 63)).toInt8.toInt32) : f1 g x1 = cp := by
  have s6 := c_ishr cp 6 6 (by decide)
  have m6 := c_mask cp 63 6 (by decide) (by decide)
  have l := own_lead 192 (cp >>> (6 &&& 31)) 6 (by decide) 64 (by decide) (by decide) (by omega) (by omega) (by decide) (by rw [show (192 : Int32).toInt = 192 by decide]; omega)
  rw [show (192 : Int32).toInt = 192 by decide] at l
  have t := own_tail (cp &&& 63) (by omega) (by omega)
  unfold f1 q1_1
  rw [e0, e1]
  generalize ((192 : Int32) ||| (cp >>> ((6 : Int32) &&& 31))).toInt8.toInt32 &&& 255 = L at *
  generalize ((128 : Int32) ||| (cp &&& 63)).toInt8.toInt32 &&& 63 = R at *
  have a := c_mask L 31 5 (by decide) (by decide)
  have b := own_sh (L &&& 31) 6 6 64 (by decide) (by decide) (by omega) (by omega) (by decide)
  have c := own_or ((L &&& 31) <<< (6 &&& 31)) R 6 (by decide) 64 (by decide) (by omega) (by omega) (by omega) (by omega) (by omega)
  rw [if_neg (by rw [Int32.lt_iff_toInt_lt, show (128 : Int32).toInt = 128 by decide]; omega), if_pos (by rw [Int32.lt_iff_toInt_lt, show (224 : Int32).toInt = 224 by decide]; omega)]
  apply Int32.toInt_inj.mp
  omega
theorem own_c3 (g : Nat → Int32) (x1 cp : Int32) (h0 : 2048 ≤ cp.toInt) (h1 : cp.toInt < 65536) (e0 : g x1.toInt.toNat = ((224 : Int32) ||| (cp >>> ((12 : Int32) &&& 31))).toInt8.toInt32) (e1 : g (x1.toInt.toNat + 1) = ((128 : Int32) ||| ((cp >>> ((6 : Int32) &&& 31)) &&& 63)).toInt8.toInt32) (e2 : g (x1.toInt.toNat + 2) = ((128 : Int32) ||| (cp &&& 63)).toInt8.toInt32) : f1 g x1 = cp := by
  have s12 := c_ishr cp 12 12 (by decide)
  have s6 := c_ishr cp 6 6 (by decide)
  have m6 := c_mask (cp >>> (6 &&& 31)) 63 6 (by decide) (by decide)
  have m0 := c_mask cp 63 6 (by decide) (by decide)
  have l := own_lead 224 (cp >>> (12 &&& 31)) 5 (by decide) 32 (by decide) (by decide) (by omega) (by omega) (by decide) (by rw [show (224 : Int32).toInt = 224 by decide]; omega)
  rw [show (224 : Int32).toInt = 224 by decide] at l
  have t1 := own_tail ((cp >>> (6 &&& 31)) &&& 63) (by omega) (by omega)
  have t := own_tail (cp &&& 63) (by omega) (by omega)
  unfold f1 q1_2
  rw [e0, e1, e2]
  generalize ((224 : Int32) ||| (cp >>> ((12 : Int32) &&& 31))).toInt8.toInt32 &&& 255 = L at *
  generalize ((128 : Int32) ||| ((cp >>> ((6 : Int32) &&& 31)) &&& 63)).toInt8.toInt32 &&& 63 = R1 at *
  generalize ((128 : Int32) ||| (cp &&& 63)).toInt8.toInt32 &&& 63 = R at *
  have a := c_mask L 15 4 (by decide) (by decide)
  have b := own_sh (L &&& 15) 12 12 4096 (by decide) (by decide) (by omega) (by omega) (by decide)
  have b1 := own_sh R1 6 6 64 (by decide) (by decide) (by omega) (by omega) (by decide)
  have c1 := own_or ((L &&& 15) <<< (12 &&& 31)) (R1 <<< (6 &&& 31)) 12 (by decide) 4096 (by decide) (by omega) (by omega) (by omega) (by omega) (by omega)
  have c := own_or (((L &&& 15) <<< (12 &&& 31)) ||| (R1 <<< (6 &&& 31))) R 6 (by decide) 64 (by decide) (by omega) (by omega) (by omega) (by omega) (by omega)
  rw [if_neg (by rw [Int32.lt_iff_toInt_lt, show (128 : Int32).toInt = 128 by decide]; omega), if_neg (by rw [Int32.lt_iff_toInt_lt, show (224 : Int32).toInt = 224 by decide]; omega), if_pos (by rw [Int32.lt_iff_toInt_lt, show (240 : Int32).toInt = 240 by decide]; omega)]
  apply Int32.toInt_inj.mp
  omega
theorem own_c4 (g : Nat → Int32) (x1 cp : Int32) (h0 : 65536 ≤ cp.toInt) (h1 : cp.toInt < 1114112) (e0 : g x1.toInt.toNat = ((240 : Int32) ||| (cp >>> ((18 : Int32) &&& 31))).toInt8.toInt32) (e1 : g (x1.toInt.toNat + 1) = ((128 : Int32) ||| ((cp >>> ((12 : Int32) &&& 31)) &&& 63)).toInt8.toInt32) (e2 : g (x1.toInt.toNat + 2) = ((128 : Int32) ||| ((cp >>> ((6 : Int32) &&& 31)) &&& 63)).toInt8.toInt32) (e3 : g (x1.toInt.toNat + 3) = ((128 : Int32) ||| (cp &&& 63)).toInt8.toInt32) : f1 g x1 = cp := by
  have s18 := c_ishr cp 18 18 (by decide)
  have s12 := c_ishr cp 12 12 (by decide)
  have s6 := c_ishr cp 6 6 (by decide)
  have m12 := c_mask (cp >>> (12 &&& 31)) 63 6 (by decide) (by decide)
  have m6 := c_mask (cp >>> (6 &&& 31)) 63 6 (by decide) (by decide)
  have m0 := c_mask cp 63 6 (by decide) (by decide)
  have l := own_lead 240 (cp >>> (18 &&& 31)) 4 (by decide) 16 (by decide) (by decide) (by omega) (by omega) (by decide) (by rw [show (240 : Int32).toInt = 240 by decide]; omega)
  rw [show (240 : Int32).toInt = 240 by decide] at l
  have t2 := own_tail ((cp >>> (12 &&& 31)) &&& 63) (by omega) (by omega)
  have t1 := own_tail ((cp >>> (6 &&& 31)) &&& 63) (by omega) (by omega)
  have t := own_tail (cp &&& 63) (by omega) (by omega)
  unfold f1 q1_3
  rw [e0, e1, e2, e3]
  generalize ((240 : Int32) ||| (cp >>> ((18 : Int32) &&& 31))).toInt8.toInt32 &&& 255 = L at *
  generalize ((128 : Int32) ||| ((cp >>> ((12 : Int32) &&& 31)) &&& 63)).toInt8.toInt32 &&& 63 = R2 at *
  generalize ((128 : Int32) ||| ((cp >>> ((6 : Int32) &&& 31)) &&& 63)).toInt8.toInt32 &&& 63 = R1 at *
  generalize ((128 : Int32) ||| (cp &&& 63)).toInt8.toInt32 &&& 63 = R at *
  have a := c_mask L 7 3 (by decide) (by decide)
  have b := own_sh (L &&& 7) 18 18 262144 (by decide) (by decide) (by omega) (by omega) (by decide)
  have b2 := own_sh R2 12 12 4096 (by decide) (by decide) (by omega) (by omega) (by decide)
  have b1 := own_sh R1 6 6 64 (by decide) (by decide) (by omega) (by omega) (by decide)
  have d2 := own_or ((L &&& 7) <<< (18 &&& 31)) (R2 <<< (12 &&& 31)) 18 (by decide) 262144 (by decide) (by omega) (by omega) (by omega) (by omega) (by omega)
  have d1 := own_or (((L &&& 7) <<< (18 &&& 31)) ||| (R2 <<< (12 &&& 31))) (R1 <<< (6 &&& 31)) 12 (by decide) 4096 (by decide) (by omega) (by omega) (by omega) (by omega) (by omega)
  have d0 := own_or ((((L &&& 7) <<< (18 &&& 31)) ||| (R2 <<< (12 &&& 31))) ||| (R1 <<< (6 &&& 31))) R 6 (by decide) 64 (by decide) (by omega) (by omega) (by omega) (by omega) (by omega)
  rw [if_neg (by rw [Int32.lt_iff_toInt_lt, show (128 : Int32).toInt = 128 by decide]; omega), if_neg (by rw [Int32.lt_iff_toInt_lt, show (224 : Int32).toInt = 224 by decide]; omega), if_neg (by rw [Int32.lt_iff_toInt_lt, show (240 : Int32).toInt = 240 by decide]; omega)]
  apply Int32.toInt_inj.mp
  omega
theorem own_cp (x0 x1 : Int32) (x2 : Int64) : 0 ≤ (q0_3 x0 x1 x2).toInt ∧ (q0_3 x0 x1 x2).toInt < 1114112 := by
  have m := c_mask x0 2147483647 31 (by decide) (by decide)
  have r := c_irem (x0 &&& 2147483647) 1114112 1114112 (by decide)
  have hb : 0 ≤ (q0_1 x0 x1 x2).toInt ∧ (q0_1 x0 x1 x2).toInt < 1114112 := by unfold q0_1; omega
  unfold q0_3 q0_2
  generalize q0_1 x0 x1 x2 = k at *
  clear m r
  have s := c_isub k 2048
  have rr := rng32 (k - 2048)
  rw [show (2048 : Int32).toInt = 2048 by decide] at s
  split
  · exact hb
  · rename_i h
    rw [Int32.lt_iff_toInt_lt, show (55296 : Int32).toInt = 55296 by decide] at h
    split
    · exact hb
    · omega
theorem law_true (x0 x1 : Int32) (x2 : Int64) : f0 x0 x1 x2 = 1 := by
  have hc := own_cp x0 x1 x2
  unfold f0
  by_cases a1 : q0_3 x0 x1 x2 < 128
  · rw [if_pos a1]
    rw [Int32.lt_iff_toInt_lt, show (128 : Int32).toInt = 128 by decide] at a1
    rw [own_c1 (w0_13 x0 x1 x2) (q0_4 x0 x1 x2) (q0_3 x0 x1 x2) hc.1 a1 (if_pos rfl), if_pos rfl]
  · rw [if_neg a1]
    rw [Int32.lt_iff_toInt_lt, show (128 : Int32).toInt = 128 by decide] at a1
    by_cases a2 : q0_3 x0 x1 x2 < 2048
    · rw [if_pos a2]
      rw [Int32.lt_iff_toInt_lt, show (2048 : Int32).toInt = 2048 by decide] at a2
      rw [own_c2 (w0_15 x0 x1 x2) (q0_4 x0 x1 x2) (q0_3 x0 x1 x2) (by omega) a2 ((if_neg (by omega)).trans (if_pos rfl)) (if_pos rfl), if_pos rfl]
    · rw [if_neg a2]
      rw [Int32.lt_iff_toInt_lt, show (2048 : Int32).toInt = 2048 by decide] at a2
      by_cases a3 : q0_3 x0 x1 x2 < 65536
      · rw [if_pos a3]
        rw [Int32.lt_iff_toInt_lt, show (65536 : Int32).toInt = 65536 by decide] at a3
        rw [own_c3 (w0_18 x0 x1 x2) (q0_4 x0 x1 x2) (q0_3 x0 x1 x2) (by omega) a3 ((if_neg (by omega)).trans ((if_neg (by omega)).trans (if_pos rfl))) ((if_neg (by omega)).trans (if_pos rfl)) (if_pos rfl), if_pos rfl]
      · rw [if_neg a3]
        rw [Int32.lt_iff_toInt_lt, show (65536 : Int32).toInt = 65536 by decide] at a3
        rw [own_c4 (w0_22 x0 x1 x2) (q0_4 x0 x1 x2) (q0_3 x0 x1 x2) (by omega) hc.2 ((if_neg (by omega)).trans ((if_neg (by omega)).trans ((if_neg (by omega)).trans (if_pos rfl)))) ((if_neg (by omega)).trans ((if_neg (by omega)).trans (if_pos rfl))) ((if_neg (by omega)).trans (if_pos rfl)) (if_pos rfl), if_pos rfl]
set_option maxRecDepth 65536 in
set_option maxHeartbeats 40000000 in
theorem comes_1 {Post : Tables → Env → Array Value → State → Outcome → State → Prop} (hpost : ∀ tb e args s v u, (limb_1_1.after args s (.returned v) u = true ∧ limb_1_2.after args s (.returned v) u = true ∧ True) → FrameEnd s (.returned v) u (Jvm.fieldLocs frame_1_writes args s ++ Jvm.arrayLocs frame_1_arrays args s ++ Jvm.staticLocs frame_1_statics s) 16 128 → Post tb e args s (.returned v) u) :
    ArmFor flags0 classFile x code maxLocals ret World_1 tables_1 room_1 Calls_1 rest_1 Pre_1 Post := by
  intro l hfl _ _ p e ha hc hk s m args below hf hA hF happ hP
  obtain ⟨hcalls, hrest, hpre⟩ := hP
  obtain ⟨-, -, -, hnamed, -, -, -, hat⟩ := (Spec.applies_iff hf).mp happ
  obtain ⟨hg, hn⟩ := and_e (Cond.before_iff.mp (show (Jvm.Cond.and given_1 narrow_1).before args s = true from hpre))
  obtain ⟨g0, hg⟩ := and_e hg
  obtain ⟨g1, hg⟩ := and_e hg
  obtain ⟨g2, hg⟩ := and_e hg
  obtain ⟨w0, w1, w2, rfl⟩ : ∃ w0 w1 w2 : Value, args = #[w0, w1, w2] := by
    have hs : args.size = 3 := by simpa [Cond.value, given_1] using g0
    obtain ⟨L⟩ := args
    match L, hs with
    | [w0, w1, w2], _ => exact ⟨w0, w1, w2, rfl⟩
  have hw := fun d (hd : d ∈ tables_1) => atoms_spec (ws := Jvm.Cond.code x code maxLocals ret :: tables_1) hat d (List.mem_cons_of_mem _ hd)
  obtain ⟨i0, e0⟩ := is_v g1
  obtain rfl : w0 = (.int i0) := Option.some.inj e0
  obtain ⟨i1, e1⟩ := is_v g2
  obtain rfl : w1 = (.int i1) := Option.some.inj e1
  obtain ⟨i2, e2⟩ := isL_v hg
  obtain rfl : w2 = (.long i2) := Option.some.inj e2
  obtain ⟨n, o, h1, h2, h3, v, L, rfl, ⟨rfl, N⟩, hq⟩ := rm0 l s _ hw tables_1 i0 i1 i2 s.heap s.heap.size (Nat.le_refl _) p e ha hc hk s m _ below hf ((Spec.applies_iff_loose hf).mp happ).1 ⟨rfl, State.Warmed39.refl s, rfl⟩ trivial
  rw [law_true] at h3 hq
  refine ⟨n, _, h1, h2, h3, hpost _ _ _ _ _ _ ⟨Cond.after_iff.mpr rfl, Cond.after_iff.mpr (eq_i res_at (Term.int_eval (1)) rfl), trivial⟩ ⟨hq.1, hq.2.1, (hq.2.2.sift fun y hy => Or.inr (N y hy)).mono (by decide) (by decide)⟩⟩
theorem main_1_1 : Claimed_1_1 := comes_1 fun _ _ _ _ _ _ h hF => ⟨h.1, hF⟩
theorem main_1_2 : Claimed_1_2 := comes_1 fun _ _ _ _ _ _ h hF => ⟨h.2.1, hF⟩
end Jvm.Pilot.@@N@@
namespace Jvm.Pilot.@@N@@
open Jvm Jvm.ClassFile Sem Op Lib Jvm.Free Jvm.Stand Jvm.Pilot.@@N@@.Jvm.D
/-! MADE BY PROGRAM (witnessworld.py) out of the Statement's table words and the real class files: 9 classes; the members and pool entries that the words name. The judged class is class 1, her method 1. -/
namespace start1
open Jvm.ClassFile
def u (s : String) : CpInfo := .utf8 (stringToUtf16 s)
/-- a pool by its gaps: so many unusable entries, then the entry; so many at the end -/
def gap : Nat → List CpInfo → List CpInfo
  | 0, r => r
  | n + 1, r => .unusable :: gap n r
def poolList (es : List (Nat × CpInfo)) (last : Nat) : List CpInfo := es.foldr (fun e r => gap e.1 (e.2 :: r)) (gap last [])
def pool (es : List (Nat × CpInfo)) (last : Nat) : Array CpInfo := ⟨poolList es last⟩
def fileOf (pool : Array CpInfo) (this : Nat) (attrs : Array Attribute := #[]) (ms : Array MethodInfo := #[]) (fl : Nat := 33) (sup : Nat := 0) (ifs : Array Nat := #[]) (fds : Array FieldInfo := #[]) : ClassFile where
  minorVersion := 0
  majorVersion := 65
  constantPool := pool
  accessFlags := fl
  thisClass := this
  superClass := sup
  interfaces := ifs
  fields := fds
  methods := ms
  attributes := attrs
def plain (name : String) (sup : Option ClassId) : Class where
  name := name
  kind := .ordinary
  loader := none
  accessFlags := 33
  super := sup
  interfaces := #[]
  cf := none
  fields := #[]
  methods := #[]
  instanceTypes := #[]
  staticTypes := #[]
  resolved := #[]
  callSites := []
  init := .initialized
  statics := none
  mirror := none

def pool0 : Array CpInfo := pool [(5, u "<init>"), (0, u "()V"), (1, .class_ 10), (1, u "java/lang/Object")] 113

def k0m0 : Method := { name := "<init>", desc := "()V", sig := { parameters := [], returnType := none }, accessFlags := 1, code := none }
/-- java/lang/Object -/
def k0 : Class := { plain "java/lang/Object" none with
  accessFlags := 33
  interfaces := #[]
  cf := some (fileOf pool0 8 #[] #[{ accessFlags := 1, nameIndex := 5, descriptorIndex := 6, attributes := #[] }] 33 0 #[] #[])
  fields := #[]
  methods := #[k0m0]
  instanceTypes := #[]
  staticTypes := #[]
  resolved := Array.replicate 124 none
  statics := none }

def pool1 : Array CpInfo := pool [(2, .class_ 4), (1, u "java/lang/Object"), (0, u "<init>"), (0, u "()V"), (0, .integer 2147483647), (0, .integer 1114112), (0, .integer 55296), (0, .integer 57343), (0, .integer 65536), (0, .methodref 13 14), (0, .class_ 15), (0, .nameAndType 16 17), (0, u "com/example/bitsieve/bitsieve/io/Bytes"), (0, u "codePointAt"), (0, u "([BI)I"), (0, .class_ 19), (0, u "com/example/bitsieve/bitsieve/io/BytesCodePointAtPinLaw"), (2, u "law"), (0, u "(IIJ)Z")] 5

def k1m0 : Method := { name := "<init>", desc := "()V", sig := { parameters := [], returnType := none }, accessFlags := 2, code := none }
def k1c1 : Code := { maxStack := 5, maxLocals := 7, code := code, exceptionTable := #[], attributes := #[] }
def k1m1 : Method := { name := "law", desc := "(IIJ)Z", sig := { parameters := [.int, .int, .long], returnType := some .boolean }, accessFlags := 9, code := some k1c1 }
/-- com/example/bitsieve/bitsieve/io/BytesCodePointAtPinLaw -/
def k1 : Class := { plain "com/example/bitsieve/bitsieve/io/BytesCodePointAtPinLaw" (some 0) with
  accessFlags := 49
  interfaces := #[]
  cf := some (fileOf pool1 18 #[] #[{ accessFlags := 2, nameIndex := 5, descriptorIndex := 6, attributes := #[] }, { accessFlags := 9, nameIndex := 22, descriptorIndex := 23, attributes := #[] }] 49 2 #[] #[])
  fields := #[]
  methods := #[k1m0, k1m1]
  instanceTypes := #[]
  staticTypes := #[]
  resolved := Array.replicate 29 none
  statics := none }

def pool2 : Array CpInfo := pool [(2, .class_ 4), (1, u "java/lang/Object"), (0, u "<init>"), (0, u "()V"), (1, .class_ 10), (1, u "com/example/bitsieve/bitsieve/io/Bytes"), (0, u "INT32"), (0, u "Ljava/lang/invoke/VarHandle;"), (5, u "([BI)I"), (2, u "INT64"), (56, u "LOW_BITS"), (0, u "J"), (1, u "HIGH_BITS"), (6, u "codePointAt")] 6

def k2m0 : Method := { name := "<init>", desc := "()V", sig := { parameters := [], returnType := none }, accessFlags := 2, code := none }
def k2c1 : Code := { maxStack := 4, maxLocals := 4, code := prog_12_method_6_code, exceptionTable := #[], attributes := #[] }
def k2m1 : Method := { name := "codePointAt", desc := "([BI)I", sig := { parameters := [(.array .byte), .int], returnType := some .int }, accessFlags := 8, code := some k2c1 }
/-- com/example/bitsieve/bitsieve/io/Bytes -/
def k2 : Class := { plain "com/example/bitsieve/bitsieve/io/Bytes" (some 0) with
  accessFlags := 48
  interfaces := #[]
  cf := some (fileOf pool2 8 #[] #[{ accessFlags := 2, nameIndex := 5, descriptorIndex := 6, attributes := #[] }, { accessFlags := 8, nameIndex := 88, descriptorIndex := 18, attributes := #[] }] 48 2 #[] #[{ accessFlags := 26, nameIndex := 11, descriptorIndex := 12, attributes := #[] }, { accessFlags := 26, nameIndex := 21, descriptorIndex := 12, attributes := #[] }, { accessFlags := 26, nameIndex := 78, descriptorIndex := 79, attributes := #[] }, { accessFlags := 26, nameIndex := 81, descriptorIndex := 79, attributes := #[] }])
  fields := #[{ name := "INT32", type := (.object "java/lang/invoke/VarHandle"), accessFlags := 26, slot := 0, constantValue := 0 }, { name := "INT64", type := (.object "java/lang/invoke/VarHandle"), accessFlags := 26, slot := 1, constantValue := 0 }, { name := "LOW_BITS", type := .long, accessFlags := 26, slot := 2, constantValue := 0 }, { name := "HIGH_BITS", type := .long, accessFlags := 26, slot := 3, constantValue := 0 }]
  methods := #[k2m0, k2m1]
  instanceTypes := #[]
  staticTypes := #[(.object "java/lang/invoke/VarHandle"), (.object "java/lang/invoke/VarHandle"), .long, .long]
  resolved := Array.replicate 95 none
  statics := none }

def pool3 : Array CpInfo := pool [(1, u "java/lang/Cloneable"), (0, .class_ 1), (0, u "java/lang/Object"), (0, .class_ 3)] 3

/-- java/lang/Cloneable -/
def k3 : Class := { plain "java/lang/Cloneable" (some 0) with
  accessFlags := 1537
  interfaces := #[]
  cf := some (fileOf pool3 2 #[] #[] 1537 4 #[] #[])
  fields := #[]
  methods := #[]
  instanceTypes := #[]
  staticTypes := #[]
  resolved := Array.replicate 8 none
  statics := none }

def pool4 : Array CpInfo := pool [(1, u "java/io/Serializable"), (0, .class_ 1), (0, u "java/lang/Object"), (0, .class_ 3)] 3

/-- java/io/Serializable -/
def k4 : Class := { plain "java/io/Serializable" (some 0) with
  accessFlags := 1537
  interfaces := #[]
  cf := some (fileOf pool4 2 #[] #[] 1537 4 #[] #[])
  fields := #[]
  methods := #[]
  instanceTypes := #[]
  staticTypes := #[]
  resolved := Array.replicate 8 none
  statics := none }

/-- the primitive byte -/
def k5 : Class := { plain "byte" none with kind := .primitive 'B', accessFlags := 0x411 }
/-- [B -/
def k6 : Class := { plain "[B" (some 0) with kind := .array 5 .byte, interfaces := #[3, 4], accessFlags := 1041 }

/-- the primitive int -/
def k7 : Class := { plain "int" none with kind := .primitive 'I', accessFlags := 0x411 }
/-- [I -/
def k8 : Class := { plain "[I" (some 0) with kind := .array 7 .int, interfaces := #[3, 4], accessFlags := 1041 }

def heap : Heap := #[]
def classes : Array Class := #[k0, k1, k2, k3, k4, k5, k6, k7, k8]
def interned : List (Array UInt16 × Addr) := []
def slotsUsed : Nat := 0
def theMethod : MethodId := ⟨1, 1⟩
def args0 : Array Value := #[.int 5, .int 3, .long 4]
def aboutOver (below : List Frame) : State where
  vm := { classes := classes, interned := interned.toArray }
  heap := heap
  slotsUsed := slotsUsed
  threads := #[{ frames := .invoking theMethod args0 :: below }]
def below0 : List Frame := [.native { method := ⟨0, 0⟩, args := #[] }]
def about1 : State := aboutOver below0
def p0 : Program := .bare "" "" ""
def e0 : Env := launch0.env 0 0 0
theorem w_frames : about1.frames = Frame.invoking theMethod args0 :: below0 := rfl
set_option maxRecDepth 65536 in
theorem w_args : argsFit about1.vm theMethod args0 = true := by decide +kernel
set_option maxRecDepth 65536 in
theorem w_heap : heapFits about1 = true := by decide +kernel
set_option maxRecDepth 65536 in
theorem w_runnable : about1.curStatus? = some .runnable := by decide +kernel
set_option maxRecDepth 65536 in
theorem w_alone : about1.alone = true := by decide +kernel
set_option maxRecDepth 65536 in
theorem w_named : about1.methodNamed? x = some theMethod := by decide +kernel
set_option maxRecDepth 65536 in
theorem w_hears : about1.hears theMethod below0 = true := by decide +kernel
set_option maxRecDepth 65536 in
theorem w_ripe : about1.ripe theMethod args0 below0 = true := by decide +kernel
theorem w_running : about1.status = .running := rfl
set_option maxRecDepth 65536 in
theorem w_room : about1.hasRoom e0.platform room_1 = true :=
  launch0.hasRoom_least _ room_1 (by decide +kernel) (by decide +kernel) (by decide +kernel) (by decide +kernel) (by decide +kernel) (by decide +kernel)
theorem allAtoms_all (ts : List Jvm.Cond) (a : Array Jvm.Value) (st : Jvm.State) : (allAtoms ts).before a st = ts.all (fun c => c.before a st) := by
  induction ts with
  | nil => rfl
  | cons c t ih =>
    show (Jvm.Cond.and c (allAtoms t)).before a st = _
    rw [Jvm.Cond.before_and, ih, List.all_cons]
def words1 : List Jvm.Cond := Jvm.Cond.code x code maxLocals ret :: tables_1
/-- a 'code' word, met by the world's own term for the bytes: nothing is compared byte by byte -/
theorem code_word {y : MethodName} {bytes : ByteArray} {mx : Nat} {rt : Option FieldType} {a : Array Value} {s : State} {m : MethodId} {meth : Method} {c : Code} (h1 : s.methodNamed? y = some m) (h2 : s.vm.method? m = some meth) (h3 : meth.code = some c) (h4 : c.code = bytes)
    (h5 : (c.maxLocals == mx && c.exceptionTable.isEmpty && decide (c.maxStack ≤ mostOperands) && decide (meth.sig.returnType = rt) && !meth.locks && decide (parseMethodDescriptor y.desc = some meth.sig)) = true) : (Jvm.Cond.code y bytes mx rt).before a s = true := by
  simp only [Bool.and_eq_true, beq_iff_eq, Bool.not_eq_true', decide_eq_true_eq] at h5
  obtain ⟨⟨⟨⟨⟨g1, g2⟩, g3⟩, g4⟩, g5⟩, g6⟩ := h5
  simp [Cond.before, Cond.holds, Cond.value, h1, h2, h3, h4, g1, g2, g3, g4, g5, g6]
def isCode : Jvm.Cond → Bool
  | .code _ _ _ _ => true
  | _ => false
theorem all_split {L : List Jvm.Cond} {P : Jvm.Cond → Bool} (h1 : L.all (fun c => isCode c || P c) = true) (h2 : ∀ c ∈ L.filter isCode, P c = true) : L.all P = true := by
  refine List.all_eq_true.mpr fun c hc => ?_
  have h := List.all_eq_true.mp h1 c hc
  rcases Bool.eq_false_or_eq_true (isCode c) with hi | hi
  · exact h2 c (List.mem_filter.mpr ⟨hc, hi⟩)
  · simpa [hi] using h
set_option maxRecDepth 65536 in
theorem w_c0 : (Jvm.Cond.code x code maxLocals ret).before args0 about1 = true := code_word (m := ⟨1, 1⟩) (meth := k1m1) (c := k1c1) (by decide +kernel) rfl rfl rfl (by decide +kernel)
set_option maxRecDepth 65536 in
theorem w_c1 : (Jvm.Cond.code ({ cls := "com/example/bitsieve/bitsieve/io/Bytes", name := "codePointAt", desc := "([BI)I" } : Jvm.MethodName) prog_12_method_6_code (4 : Nat) (Option.some Jvm.ClassFile.FieldType.int)).before args0 about1 = true := code_word (m := ⟨2, 1⟩) (meth := k2m1) (c := k2c1) (by decide +kernel) rfl rfl rfl (by decide +kernel)
def codes1 : List Jvm.Cond := [Jvm.Cond.code x code maxLocals ret, Jvm.Cond.code ({ cls := "com/example/bitsieve/bitsieve/io/Bytes", name := "codePointAt", desc := "([BI)I" } : Jvm.MethodName) prog_12_method_6_code (4 : Nat) (Option.some Jvm.ClassFile.FieldType.int)]
set_option maxRecDepth 65536 in
theorem codes_eq : words1.filter isCode = codes1 := rfl
theorem w_codes : ∀ c ∈ words1.filter isCode, c.before args0 about1 = true := by
  rw [codes_eq]
  intro c hc
  simp only [codes1, List.mem_cons, List.not_mem_nil, or_false] at hc
  rcases hc with rfl | rfl
  · exact w_c0
  · exact w_c1
set_option maxRecDepth 65536 in
theorem w_t1 : words1.all (fun c => isCode c || c.before args0 about1) = true := by decide +kernel
theorem w_tables : (allAtoms (Jvm.Cond.code x code maxLocals ret :: tables_1)).before args0 about1 = true := by
  rw [allAtoms_all]
  show words1.all (fun c => c.before args0 about1) = true
  refine all_split ?_ w_codes
  rw [w_t1]
set_option maxRecDepth 65536 in
theorem w_case : (Jvm.Cond.and given_1 narrow_1).before args0 about1 = true := by decide +kernel
theorem w_applies : (headSpec (Jvm.Cond.code x code maxLocals ret :: tables_1) room_1).applies x e0.platform about1 = true :=
  (Spec.applies_iff w_frames).mpr ⟨w_running, w_runnable, w_alone, w_named, w_hears, w_ripe, w_room, w_tables⟩
theorem atStart : AtStart classFile x code maxLocals ret World_1 tables_1 room_1 Calls_1 rest_1 Pre_1 launch0 p0 e0 about1 theMethod args0 below0 :=
  ⟨lists_1, trivial, launch0.admits_env _ _ _, launch0.least_env, fairChoices_fair.cas, fairChoices_fair.clock, w_frames, w_args, w_heap, w_applies, trivial, trivial, w_case⟩
end start1
theorem witness_1 : WitnessClaimed_1 := ⟨start1.p0, start1.e0, start1.about1, start1.theMethod, start1.args0, start1.below0, start1.atStart⟩
end Jvm.Pilot.@@N@@
