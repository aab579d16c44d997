import JvmDerived
import JvmDerived.Pilot.@@N@@Statement
import JvmDerived.Pilot.@@N@@Code
set_option linter.unusedVariables false
set_option linter.unusedSimpArgs false
namespace Jvm.Pilot.@@N@@
open Jvm Jvm.ClassFile Sem Op Lib Jvm.Free Jvm.Stand Jvm.LawKit Jvm.RoadKit Bundle Jvm.Pilot.@@N@@.Jvm.D
/-! 1. the walk's own words -/
def OG (tb : Tables) (e : Env) (below : List Frame) (P : Outcome → State → Prop) (A : State) : Prop :=
  ∃ s₂ o, Steps tb e below A s₂ ∧ s₂.status = .running ∧ Ended s₂ below o ∧ P o s₂
theorem OG.of {tb : Tables} {e : Env} {below : List Frame} {P : Outcome → State → Prop} {A B : State} (h : OG tb e below P B) (k : ∀ t, Steps tb e below B t → Steps tb e below A t) : OG tb e below P A := by
  obtain ⟨t, o, st, r⟩ := h
  exact ⟨t, o, k t st, r⟩
def Bx (own : String) (bs : ByteArray) (ml : Nat) (Z : State) (p : Program) (l : Launch) (e : Env) (R : Room) (s : State) (m : MethodId) (args : Array Value) (below : List Frame) (meth : Method) (c : Code) (T : State) (h : Heap) (locs : List Loc) (cells slots : Nat) : Prop :=
  Stand p l e R s m args below meth c T locs cells slots ∧ p.tables.exec = Jvm.exec ∧ c.code = bs ∧ c.maxLocals = ml ∧ s.vm.findClass own = some m.cls ∧ Z.Warmed39 s.vm ∧ T.heap = h
section Walk
variable {own : String} {bs : ByteArray} {ml : Nat} {Z : State} {p : Program} {l : Launch} {e : Env} {R : Room} {s : State} {m : MethodId} {args : Array Value} {below : List Frame} {meth : Method} {c : Code} {T : State} {h : Heap} {locs : List Loc} {cells slots : Nat} {P : Outcome → State → Prop} {Ls : Array Slot} {rest : List Value} {a0 : Array Value}
theorem o_iadd (B : Bx own bs ml Z p l e R s m args below meth c T h locs cells slots) (pc pc' : Nat) {x y : Int32} (hd : decode bs pc = .ok (.iadd, 1)) (hp : pc + 1 = pc') 
    (hr : OG p.tables e below P (T.setTop (mkF m pc' Ls (.int (x + y) :: rest)))) : OG p.tables e below P (T.setTop (mkF m pc Ls (.int y :: .int x :: rest))) := by
  subst hp
  obtain ⟨X, hx, hby, hml, hown, hZ, eT⟩ := B
  exact hr.of fun t k => XS.iadd X.here hx rfl (hb hby hd) rfl k
theorem o_isub (B : Bx own bs ml Z p l e R s m args below meth c T h locs cells slots) (pc pc' : Nat) {x y : Int32} (hd : decode bs pc = .ok (.isub, 1)) (hp : pc + 1 = pc') 
    (hr : OG p.tables e below P (T.setTop (mkF m pc' Ls (.int (x - y) :: rest)))) : OG p.tables e below P (T.setTop (mkF m pc Ls (.int y :: .int x :: rest))) := by
  subst hp
  obtain ⟨X, hx, hby, hml, hown, hZ, eT⟩ := B
  exact hr.of fun t k => XS.isub X.here hx rfl (hb hby hd) rfl k
theorem o_imul (B : Bx own bs ml Z p l e R s m args below meth c T h locs cells slots) (pc pc' : Nat) {x y : Int32} (hd : decode bs pc = .ok (.imul, 1)) (hp : pc + 1 = pc') 
    (hr : OG p.tables e below P (T.setTop (mkF m pc' Ls (.int (x * y) :: rest)))) : OG p.tables e below P (T.setTop (mkF m pc Ls (.int y :: .int x :: rest))) := by
  subst hp
  obtain ⟨X, hx, hby, hml, hown, hZ, eT⟩ := B
  exact hr.of fun t k => XS.imul X.here hx rfl (hb hby hd) rfl k
theorem o_iand (B : Bx own bs ml Z p l e R s m args below meth c T h locs cells slots) (pc pc' : Nat) {x y : Int32} (hd : decode bs pc = .ok (.iand, 1)) (hp : pc + 1 = pc') 
    (hr : OG p.tables e below P (T.setTop (mkF m pc' Ls (.int (x &&& y) :: rest)))) : OG p.tables e below P (T.setTop (mkF m pc Ls (.int y :: .int x :: rest))) := by
  subst hp
  obtain ⟨X, hx, hby, hml, hown, hZ, eT⟩ := B
  exact hr.of fun t k => XS.iand X.here hx rfl (hb hby hd) rfl k
theorem o_ior (B : Bx own bs ml Z p l e R s m args below meth c T h locs cells slots) (pc pc' : Nat) {x y : Int32} (hd : decode bs pc = .ok (.ior, 1)) (hp : pc + 1 = pc') 
    (hr : OG p.tables e below P (T.setTop (mkF m pc' Ls (.int (x ||| y) :: rest)))) : OG p.tables e below P (T.setTop (mkF m pc Ls (.int y :: .int x :: rest))) := by
  subst hp
  obtain ⟨X, hx, hby, hml, hown, hZ, eT⟩ := B
  exact hr.of fun t k => XT.ior X.here hx rfl (hb hby hd) rfl k
theorem o_ixor (B : Bx own bs ml Z p l e R s m args below meth c T h locs cells slots) (pc pc' : Nat) {x y : Int32} (hd : decode bs pc = .ok (.ixor, 1)) (hp : pc + 1 = pc') 
    (hr : OG p.tables e below P (T.setTop (mkF m pc' Ls (.int (x ^^^ y) :: rest)))) : OG p.tables e below P (T.setTop (mkF m pc Ls (.int y :: .int x :: rest))) := by
  subst hp
  obtain ⟨X, hx, hby, hml, hown, hZ, eT⟩ := B
  exact hr.of fun t k => XT.ixor X.here hx rfl (hb hby hd) rfl k
theorem o_ishl (B : Bx own bs ml Z p l e R s m args below meth c T h locs cells slots) (pc pc' : Nat) {x y : Int32} (hd : decode bs pc = .ok (.ishl, 1)) (hp : pc + 1 = pc') 
    (hr : OG p.tables e below P (T.setTop (mkF m pc' Ls (.int (x <<< (y &&& 31)) :: rest)))) : OG p.tables e below P (T.setTop (mkF m pc Ls (.int y :: .int x :: rest))) := by
  subst hp
  obtain ⟨X, hx, hby, hml, hown, hZ, eT⟩ := B
  exact hr.of fun t k => XT.ishl X.here hx rfl (hb hby hd) rfl k
theorem o_ishr (B : Bx own bs ml Z p l e R s m args below meth c T h locs cells slots) (pc pc' : Nat) {x y : Int32} (hd : decode bs pc = .ok (.ishr, 1)) (hp : pc + 1 = pc') 
    (hr : OG p.tables e below P (T.setTop (mkF m pc' Ls (.int (x >>> (y &&& 31)) :: rest)))) : OG p.tables e below P (T.setTop (mkF m pc Ls (.int y :: .int x :: rest))) := by
  subst hp
  obtain ⟨X, hx, hby, hml, hown, hZ, eT⟩ := B
  exact hr.of fun t k => XT.ishr X.here hx rfl (hb hby hd) rfl k
theorem o_iushr (B : Bx own bs ml Z p l e R s m args below meth c T h locs cells slots) (pc pc' : Nat) {x y : Int32} (hd : decode bs pc = .ok (.iushr, 1)) (hp : pc + 1 = pc') 
    (hr : OG p.tables e below P (T.setTop (mkF m pc' Ls (.int (XT.ushr x y) :: rest)))) : OG p.tables e below P (T.setTop (mkF m pc Ls (.int y :: .int x :: rest))) := by
  subst hp
  obtain ⟨X, hx, hby, hml, hown, hZ, eT⟩ := B
  exact hr.of fun t k => XT.iushr X.here hx rfl (hb hby hd) rfl k
theorem o_idiv (B : Bx own bs ml Z p l e R s m args below meth c T h locs cells slots) (pc pc' : Nat) {x y : Int32} (hd : decode bs pc = .ok (.idiv, 1)) (hp : pc + 1 = pc') (hy : y ≠ 0)
    (hr : OG p.tables e below P (T.setTop (mkF m pc' Ls (.int (x / y) :: rest)))) : OG p.tables e below P (T.setTop (mkF m pc Ls (.int y :: .int x :: rest))) := by
  subst hp
  obtain ⟨X, hx, hby, hml, hown, hZ, eT⟩ := B
  exact hr.of fun t k => XS.idiv X.here hx rfl (hb hby hd) rfl hy k
theorem o_irem (B : Bx own bs ml Z p l e R s m args below meth c T h locs cells slots) (pc pc' : Nat) {x y : Int32} (hd : decode bs pc = .ok (.irem, 1)) (hp : pc + 1 = pc') (hy : y ≠ 0)
    (hr : OG p.tables e below P (T.setTop (mkF m pc' Ls (.int (x % y) :: rest)))) : OG p.tables e below P (T.setTop (mkF m pc Ls (.int y :: .int x :: rest))) := by
  subst hp
  obtain ⟨X, hx, hby, hml, hown, hZ, eT⟩ := B
  exact hr.of fun t k => XS.irem X.here hx rfl (hb hby hd) rfl hy (by rw [irem_eq_mod]; exact k)
theorem o_ladd (B : Bx own bs ml Z p l e R s m args below meth c T h locs cells slots) (pc pc' : Nat) {x y : Int64} (hd : decode bs pc = .ok (.ladd, 1)) (hp : pc + 1 = pc') 
    (hr : OG p.tables e below P (T.setTop (mkF m pc' Ls (.long (x + y) :: rest)))) : OG p.tables e below P (T.setTop (mkF m pc Ls (.long y :: .long x :: rest))) := by
  subst hp
  obtain ⟨X, hx, hby, hml, hown, hZ, eT⟩ := B
  exact hr.of fun t k => XT.ladd X.here hx rfl (hb hby hd) rfl k
theorem o_lsub (B : Bx own bs ml Z p l e R s m args below meth c T h locs cells slots) (pc pc' : Nat) {x y : Int64} (hd : decode bs pc = .ok (.lsub, 1)) (hp : pc + 1 = pc') 
    (hr : OG p.tables e below P (T.setTop (mkF m pc' Ls (.long (x - y) :: rest)))) : OG p.tables e below P (T.setTop (mkF m pc Ls (.long y :: .long x :: rest))) := by
  subst hp
  obtain ⟨X, hx, hby, hml, hown, hZ, eT⟩ := B
  exact hr.of fun t k => XT.lsub X.here hx rfl (hb hby hd) rfl k
theorem o_lmul (B : Bx own bs ml Z p l e R s m args below meth c T h locs cells slots) (pc pc' : Nat) {x y : Int64} (hd : decode bs pc = .ok (.lmul, 1)) (hp : pc + 1 = pc') 
    (hr : OG p.tables e below P (T.setTop (mkF m pc' Ls (.long (x * y) :: rest)))) : OG p.tables e below P (T.setTop (mkF m pc Ls (.long y :: .long x :: rest))) := by
  subst hp
  obtain ⟨X, hx, hby, hml, hown, hZ, eT⟩ := B
  exact hr.of fun t k => XT.lmul X.here hx rfl (hb hby hd) rfl k
theorem o_land (B : Bx own bs ml Z p l e R s m args below meth c T h locs cells slots) (pc pc' : Nat) {x y : Int64} (hd : decode bs pc = .ok (.land, 1)) (hp : pc + 1 = pc') 
    (hr : OG p.tables e below P (T.setTop (mkF m pc' Ls (.long (x &&& y) :: rest)))) : OG p.tables e below P (T.setTop (mkF m pc Ls (.long y :: .long x :: rest))) := by
  subst hp
  obtain ⟨X, hx, hby, hml, hown, hZ, eT⟩ := B
  exact hr.of fun t k => XT.land X.here hx rfl (hb hby hd) rfl k
theorem o_lor (B : Bx own bs ml Z p l e R s m args below meth c T h locs cells slots) (pc pc' : Nat) {x y : Int64} (hd : decode bs pc = .ok (.lor, 1)) (hp : pc + 1 = pc') 
    (hr : OG p.tables e below P (T.setTop (mkF m pc' Ls (.long (x ||| y) :: rest)))) : OG p.tables e below P (T.setTop (mkF m pc Ls (.long y :: .long x :: rest))) := by
  subst hp
  obtain ⟨X, hx, hby, hml, hown, hZ, eT⟩ := B
  exact hr.of fun t k => XT.lor X.here hx rfl (hb hby hd) rfl k
theorem o_lxor (B : Bx own bs ml Z p l e R s m args below meth c T h locs cells slots) (pc pc' : Nat) {x y : Int64} (hd : decode bs pc = .ok (.lxor, 1)) (hp : pc + 1 = pc') 
    (hr : OG p.tables e below P (T.setTop (mkF m pc' Ls (.long (x ^^^ y) :: rest)))) : OG p.tables e below P (T.setTop (mkF m pc Ls (.long y :: .long x :: rest))) := by
  subst hp
  obtain ⟨X, hx, hby, hml, hown, hZ, eT⟩ := B
  exact hr.of fun t k => XT.lxor X.here hx rfl (hb hby hd) rfl k
theorem o_ldiv (B : Bx own bs ml Z p l e R s m args below meth c T h locs cells slots) (pc pc' : Nat) {x y : Int64} (hd : decode bs pc = .ok (.ldiv, 1)) (hp : pc + 1 = pc') (hy : y ≠ 0)
    (hr : OG p.tables e below P (T.setTop (mkF m pc' Ls (.long (x / y) :: rest)))) : OG p.tables e below P (T.setTop (mkF m pc Ls (.long y :: .long x :: rest))) := by
  subst hp
  obtain ⟨X, hx, hby, hml, hown, hZ, eT⟩ := B
  exact hr.of fun t k => XT.ldiv X.here hx rfl (hb hby hd) rfl hy k
theorem o_lrem (B : Bx own bs ml Z p l e R s m args below meth c T h locs cells slots) (pc pc' : Nat) {x y : Int64} (hd : decode bs pc = .ok (.lrem, 1)) (hp : pc + 1 = pc') (hy : y ≠ 0)
    (hr : OG p.tables e below P (T.setTop (mkF m pc' Ls (.long (x % y) :: rest)))) : OG p.tables e below P (T.setTop (mkF m pc Ls (.long y :: .long x :: rest))) := by
  subst hp
  obtain ⟨X, hx, hby, hml, hown, hZ, eT⟩ := B
  exact hr.of fun t k => XT.lrem X.here hx rfl (hb hby hd) rfl hy (by rw [lrem_mod]; exact k)
theorem o_lshl (B : Bx own bs ml Z p l e R s m args below meth c T h locs cells slots) (pc pc' : Nat) {x : Int64} {y : Int32} (hd : decode bs pc = .ok (.lshl, 1)) (hp : pc + 1 = pc') 
    (hr : OG p.tables e below P (T.setTop (mkF m pc' Ls (.long (x <<< (y.toInt64 &&& 63)) :: rest)))) : OG p.tables e below P (T.setTop (mkF m pc Ls (.int y :: .long x :: rest))) := by
  subst hp
  obtain ⟨X, hx, hby, hml, hown, hZ, eT⟩ := B
  exact hr.of fun t k => XT.lshl X.here hx rfl (hb hby hd) rfl k
theorem o_lshr (B : Bx own bs ml Z p l e R s m args below meth c T h locs cells slots) (pc pc' : Nat) {x : Int64} {y : Int32} (hd : decode bs pc = .ok (.lshr, 1)) (hp : pc + 1 = pc') 
    (hr : OG p.tables e below P (T.setTop (mkF m pc' Ls (.long (x >>> (y.toInt64 &&& 63)) :: rest)))) : OG p.tables e below P (T.setTop (mkF m pc Ls (.int y :: .long x :: rest))) := by
  subst hp
  obtain ⟨X, hx, hby, hml, hown, hZ, eT⟩ := B
  exact hr.of fun t k => XT.lshr X.here hx rfl (hb hby hd) rfl k
theorem o_lushr (B : Bx own bs ml Z p l e R s m args below meth c T h locs cells slots) (pc pc' : Nat) {x : Int64} {y : Int32} (hd : decode bs pc = .ok (.lushr, 1)) (hp : pc + 1 = pc') 
    (hr : OG p.tables e below P (T.setTop (mkF m pc' Ls (.long (XT.ushrL x y) :: rest)))) : OG p.tables e below P (T.setTop (mkF m pc Ls (.int y :: .long x :: rest))) := by
  subst hp
  obtain ⟨X, hx, hby, hml, hown, hZ, eT⟩ := B
  exact hr.of fun t k => XT.lushr X.here hx rfl (hb hby hd) rfl k
theorem o_lcmp (B : Bx own bs ml Z p l e R s m args below meth c T h locs cells slots) (pc pc' : Nat) {x y : Int64} (hd : decode bs pc = .ok (.lcmp, 1)) (hp : pc + 1 = pc') 
    (hr : OG p.tables e below P (T.setTop (mkF m pc' Ls (.int (XT.cmpL x y) :: rest)))) : OG p.tables e below P (T.setTop (mkF m pc Ls (.long y :: .long x :: rest))) := by
  subst hp
  obtain ⟨X, hx, hby, hml, hown, hZ, eT⟩ := B
  exact hr.of fun t k => XT.lcmp X.here hx rfl (hb hby hd) rfl k
theorem o_ineg (B : Bx own bs ml Z p l e R s m args below meth c T h locs cells slots) (pc pc' : Nat) {x : Int32} (hd : decode bs pc = .ok (.ineg, 1)) (hp : pc + 1 = pc') 
    (hr : OG p.tables e below P (T.setTop (mkF m pc' Ls (.int (-x) :: rest)))) : OG p.tables e below P (T.setTop (mkF m pc Ls (.int x :: rest))) := by
  subst hp
  obtain ⟨X, hx, hby, hml, hown, hZ, eT⟩ := B
  exact hr.of fun t k => XS.ineg X.here hx rfl (hb hby hd) rfl k
theorem o_lneg (B : Bx own bs ml Z p l e R s m args below meth c T h locs cells slots) (pc pc' : Nat) {x : Int64} (hd : decode bs pc = .ok (.lneg, 1)) (hp : pc + 1 = pc') 
    (hr : OG p.tables e below P (T.setTop (mkF m pc' Ls (.long (-x) :: rest)))) : OG p.tables e below P (T.setTop (mkF m pc Ls (.long x :: rest))) := by
  subst hp
  obtain ⟨X, hx, hby, hml, hown, hZ, eT⟩ := B
  exact hr.of fun t k => XT.lneg X.here hx rfl (hb hby hd) rfl k
theorem o_i2l (B : Bx own bs ml Z p l e R s m args below meth c T h locs cells slots) (pc pc' : Nat) {x : Int32} (hd : decode bs pc = .ok (.i2l, 1)) (hp : pc + 1 = pc') 
    (hr : OG p.tables e below P (T.setTop (mkF m pc' Ls (.long (x.toInt64) :: rest)))) : OG p.tables e below P (T.setTop (mkF m pc Ls (.int x :: rest))) := by
  subst hp
  obtain ⟨X, hx, hby, hml, hown, hZ, eT⟩ := B
  exact hr.of fun t k => XT.i2l X.here hx rfl (hb hby hd) rfl k
theorem o_l2i (B : Bx own bs ml Z p l e R s m args below meth c T h locs cells slots) (pc pc' : Nat) {x : Int64} (hd : decode bs pc = .ok (.l2i, 1)) (hp : pc + 1 = pc') 
    (hr : OG p.tables e below P (T.setTop (mkF m pc' Ls (.int (x.toInt32) :: rest)))) : OG p.tables e below P (T.setTop (mkF m pc Ls (.long x :: rest))) := by
  subst hp
  obtain ⟨X, hx, hby, hml, hown, hZ, eT⟩ := B
  exact hr.of fun t k => XT.l2i X.here hx rfl (hb hby hd) rfl k
theorem o_i2b (B : Bx own bs ml Z p l e R s m args below meth c T h locs cells slots) (pc pc' : Nat) {x : Int32} (hd : decode bs pc = .ok (.i2b, 1)) (hp : pc + 1 = pc') 
    (hr : OG p.tables e below P (T.setTop (mkF m pc' Ls (.int (x.toInt8.toInt32) :: rest)))) : OG p.tables e below P (T.setTop (mkF m pc Ls (.int x :: rest))) := by
  subst hp
  obtain ⟨X, hx, hby, hml, hown, hZ, eT⟩ := B
  exact hr.of fun t k => XT.i2b X.here hx rfl (hb hby hd) rfl k
theorem o_i2c (B : Bx own bs ml Z p l e R s m args below meth c T h locs cells slots) (pc pc' : Nat) {x : Int32} (hd : decode bs pc = .ok (.i2c, 1)) (hp : pc + 1 = pc') 
    (hr : OG p.tables e below P (T.setTop (mkF m pc' Ls (.int (x.toUInt32.toUInt16.toUInt32.toInt32) :: rest)))) : OG p.tables e below P (T.setTop (mkF m pc Ls (.int x :: rest))) := by
  subst hp
  obtain ⟨X, hx, hby, hml, hown, hZ, eT⟩ := B
  exact hr.of fun t k => XT.i2c X.here hx rfl (hb hby hd) rfl k
theorem o_i2s (B : Bx own bs ml Z p l e R s m args below meth c T h locs cells slots) (pc pc' : Nat) {x : Int32} (hd : decode bs pc = .ok (.i2s, 1)) (hp : pc + 1 = pc') 
    (hr : OG p.tables e below P (T.setTop (mkF m pc' Ls (.int (x.toInt16.toInt32) :: rest)))) : OG p.tables e below P (T.setTop (mkF m pc Ls (.int x :: rest))) := by
  subst hp
  obtain ⟨X, hx, hby, hml, hown, hZ, eT⟩ := B
  exact hr.of fun t k => XT.i2s X.here hx rfl (hb hby hd) rfl k
theorem o_iconst (B : Bx own bs ml Z p l e R s m args below meth c T h locs cells slots) (pc pc' : Nat) {i : Int} (v : Int32) (hd : decode bs pc = .ok (.iconst i, 1)) (hp : pc + 1 = pc') (hv : Int32.ofInt i = v)
    (hr : OG p.tables e below P (T.setTop (mkF m pc' Ls (.int v :: rest)))) : OG p.tables e below P (T.setTop (mkF m pc Ls rest)) := by
  subst hp
  obtain ⟨X, hx, hby, hml, hown, hZ, eT⟩ := B
  exact hr.of fun t k => XT.iconstV X.here hx rfl v (hb hby hd) hv k
theorem o_bipush (B : Bx own bs ml Z p l e R s m args below meth c T h locs cells slots) (pc pc' : Nat) {i : Int} (v : Int32) (hd : decode bs pc = .ok (.bipush i, 2)) (hp : pc + 2 = pc') (hv : (Int8.ofInt i).toInt32 = v)
    (hr : OG p.tables e below P (T.setTop (mkF m pc' Ls (.int v :: rest)))) : OG p.tables e below P (T.setTop (mkF m pc Ls rest)) := by
  subst hp
  obtain ⟨X, hx, hby, hml, hown, hZ, eT⟩ := B
  exact hr.of fun t k => XT.bipushV X.here hx rfl v (hb hby hd) hv k
theorem o_sipush (B : Bx own bs ml Z p l e R s m args below meth c T h locs cells slots) (pc pc' : Nat) {i : Int} (v : Int32) (hd : decode bs pc = .ok (.sipush i, 3)) (hp : pc + 3 = pc') (hv : (Int16.ofInt i).toInt32 = v)
    (hr : OG p.tables e below P (T.setTop (mkF m pc' Ls (.int v :: rest)))) : OG p.tables e below P (T.setTop (mkF m pc Ls rest)) := by
  subst hp
  obtain ⟨X, hx, hby, hml, hown, hZ, eT⟩ := B
  exact hr.of fun t k => XT.sipushV X.here hx rfl v (hb hby hd) hv k
theorem o_lconst (B : Bx own bs ml Z p l e R s m args below meth c T h locs cells slots) (pc pc' : Nat) {i : Fin 2} (v : Int64) (hd : decode bs pc = .ok (.lconst i, 1)) (hp : pc + 1 = pc') (hv : Int64.ofNat i = v)
    (hr : OG p.tables e below P (T.setTop (mkF m pc' Ls (.long v :: rest)))) : OG p.tables e below P (T.setTop (mkF m pc Ls rest)) := by
  subst hp
  obtain ⟨X, hx, hby, hml, hown, hZ, eT⟩ := B
  exact hr.of fun t k => XT.lconstV X.here hx rfl v (hb hby hd) hv k
theorem o_aconst_null (B : Bx own bs ml Z p l e R s m args below meth c T h locs cells slots) (pc pc' : Nat)  (hd : decode bs pc = .ok (.aconst_null, 1)) (hp : pc + 1 = pc') 
    (hr : OG p.tables e below P (T.setTop (mkF m pc' Ls (.null :: rest)))) : OG p.tables e below P (T.setTop (mkF m pc Ls rest)) := by
  subst hp
  obtain ⟨X, hx, hby, hml, hown, hZ, eT⟩ := B
  exact hr.of fun t k => XS.aconstNull X.here hx rfl (hb hby hd) k
theorem o_iloadN (B : Bx own bs ml Z p l e R s m args below meth c T h locs cells slots) (pc pc' : Nat) {k : Fin 4} {v : Int32} (hd : decode bs pc = .ok (.iload_n k, 1)) (hp : pc + 1 = pc') (hl : Ls[k.val]? = some (.val (.int v)))
    (hr : OG p.tables e below P (T.setTop (mkF m pc' Ls (.int v :: rest)))) : OG p.tables e below P (T.setTop (mkF m pc Ls rest)) := by
  subst hp
  obtain ⟨X, hx, hby, hml, hown, hZ, eT⟩ := B
  exact hr.of fun t k => XS.iloadN X.here hx rfl (hb hby hd) hl k
theorem o_iload (B : Bx own bs ml Z p l e R s m args below meth c T h locs cells slots) (pc pc' : Nat) {k : Nat} {v : Int32} (hd : decode bs pc = .ok (.iload k, 2)) (hp : pc + 2 = pc') (hl : Ls[k]? = some (.val (.int v)))
    (hr : OG p.tables e below P (T.setTop (mkF m pc' Ls (.int v :: rest)))) : OG p.tables e below P (T.setTop (mkF m pc Ls rest)) := by
  subst hp
  obtain ⟨X, hx, hby, hml, hown, hZ, eT⟩ := B
  exact hr.of fun t k => XS.iload X.here hx rfl (hb hby hd) hl k
theorem o_lloadN (B : Bx own bs ml Z p l e R s m args below meth c T h locs cells slots) (pc pc' : Nat) {k : Fin 4} {v : Int64} (hd : decode bs pc = .ok (.lload_n k, 1)) (hp : pc + 1 = pc') (hl : Ls[k.val]? = some (.val (.long v)))
    (hr : OG p.tables e below P (T.setTop (mkF m pc' Ls (.long v :: rest)))) : OG p.tables e below P (T.setTop (mkF m pc Ls rest)) := by
  subst hp
  obtain ⟨X, hx, hby, hml, hown, hZ, eT⟩ := B
  exact hr.of fun t k => XT.lloadN X.here hx rfl (hb hby hd) hl k
theorem o_lload (B : Bx own bs ml Z p l e R s m args below meth c T h locs cells slots) (pc pc' : Nat) {k : Nat} {v : Int64} (hd : decode bs pc = .ok (.lload k, 2)) (hp : pc + 2 = pc') (hl : Ls[k]? = some (.val (.long v)))
    (hr : OG p.tables e below P (T.setTop (mkF m pc' Ls (.long v :: rest)))) : OG p.tables e below P (T.setTop (mkF m pc Ls rest)) := by
  subst hp
  obtain ⟨X, hx, hby, hml, hown, hZ, eT⟩ := B
  exact hr.of fun t k => XT.lload X.here hx rfl (hb hby hd) hl k
theorem o_aloadN (B : Bx own bs ml Z p l e R s m args below meth c T h locs cells slots) (pc pc' : Nat) {k : Fin 4} {v : Value} (hd : decode bs pc = .ok (.aload_n k, 1)) (hp : pc + 1 = pc') (hl : Ls[k.val]? = some (.val v)) (hv : v.isRef = true)
    (hr : OG p.tables e below P (T.setTop (mkF m pc' Ls (v :: rest)))) : OG p.tables e below P (T.setTop (mkF m pc Ls rest)) := by
  subst hp
  obtain ⟨X, hx, hby, hml, hown, hZ, eT⟩ := B
  exact hr.of fun t k => XS.aloadN X.here hx rfl (hb hby hd) hl hv k
theorem o_aload (B : Bx own bs ml Z p l e R s m args below meth c T h locs cells slots) (pc pc' : Nat) {k : Nat} {v : Value} (hd : decode bs pc = .ok (.aload k, 2)) (hp : pc + 2 = pc') (hl : Ls[k]? = some (.val v)) (hv : v.isRef = true)
    (hr : OG p.tables e below P (T.setTop (mkF m pc' Ls (v :: rest)))) : OG p.tables e below P (T.setTop (mkF m pc Ls rest)) := by
  subst hp
  obtain ⟨X, hx, hby, hml, hown, hZ, eT⟩ := B
  exact hr.of fun t k => XS.aload X.here hx rfl (hb hby hd) hl hv k
theorem o_istoreN (B : Bx own bs ml Z p l e R s m args below meth c T h locs cells slots) (pc pc' : Nat) {k : Fin 4} {x : Int32} {l' : Array Slot} (hd : decode bs pc = .ok (.istore_n k, 1)) (hp : pc + 1 = pc') (hl : storeLocals Ls k.val (.int x) = some l')
    (hr : OG p.tables e below P (T.setTop (mkF m pc' l' rest))) : OG p.tables e below P (T.setTop (mkF m pc Ls (.int x :: rest))) := by
  subst hp
  obtain ⟨X, hx, hby, hml, hown, hZ, eT⟩ := B
  exact hr.of fun t k => XS.istoreN X.here hx rfl (hb hby hd) rfl hl k
theorem o_istore (B : Bx own bs ml Z p l e R s m args below meth c T h locs cells slots) (pc pc' : Nat) {k : Nat} {x : Int32} {l' : Array Slot} (hd : decode bs pc = .ok (.istore k, 2)) (hp : pc + 2 = pc') (hl : storeLocals Ls k (.int x) = some l')
    (hr : OG p.tables e below P (T.setTop (mkF m pc' l' rest))) : OG p.tables e below P (T.setTop (mkF m pc Ls (.int x :: rest))) := by
  subst hp
  obtain ⟨X, hx, hby, hml, hown, hZ, eT⟩ := B
  exact hr.of fun t k => XS.istore X.here hx rfl (hb hby hd) rfl hl k
theorem o_lstoreN (B : Bx own bs ml Z p l e R s m args below meth c T h locs cells slots) (pc pc' : Nat) {k : Fin 4} {x : Int64} {l' : Array Slot} (hd : decode bs pc = .ok (.lstore_n k, 1)) (hp : pc + 1 = pc') (hl : storeLocals Ls k.val (.long x) = some l')
    (hr : OG p.tables e below P (T.setTop (mkF m pc' l' rest))) : OG p.tables e below P (T.setTop (mkF m pc Ls (.long x :: rest))) := by
  subst hp
  obtain ⟨X, hx, hby, hml, hown, hZ, eT⟩ := B
  exact hr.of fun t k => XT.lstoreN X.here hx rfl (hb hby hd) rfl hl k
theorem o_lstore (B : Bx own bs ml Z p l e R s m args below meth c T h locs cells slots) (pc pc' : Nat) {k : Nat} {x : Int64} {l' : Array Slot} (hd : decode bs pc = .ok (.lstore k, 2)) (hp : pc + 2 = pc') (hl : storeLocals Ls k (.long x) = some l')
    (hr : OG p.tables e below P (T.setTop (mkF m pc' l' rest))) : OG p.tables e below P (T.setTop (mkF m pc Ls (.long x :: rest))) := by
  subst hp
  obtain ⟨X, hx, hby, hml, hown, hZ, eT⟩ := B
  exact hr.of fun t k => XT.lstore X.here hx rfl (hb hby hd) rfl hl k
theorem o_astoreN (B : Bx own bs ml Z p l e R s m args below meth c T h locs cells slots) (pc pc' : Nat) {k : Fin 4} {x : Value} {l' : Array Slot} (hd : decode bs pc = .ok (.astore_n k, 1)) (hp : pc + 1 = pc') (hv : x.isRef = true) (hl : storeLocals Ls k.val x = some l')
    (hr : OG p.tables e below P (T.setTop (mkF m pc' l' rest))) : OG p.tables e below P (T.setTop (mkF m pc Ls (x :: rest))) := by
  subst hp
  obtain ⟨X, hx, hby, hml, hown, hZ, eT⟩ := B
  exact hr.of fun t k => XS.astoreN X.here hx rfl (hb hby hd) rfl hv hl k
theorem o_astore (B : Bx own bs ml Z p l e R s m args below meth c T h locs cells slots) (pc pc' : Nat) {k : Nat} {x : Value} {l' : Array Slot} (hd : decode bs pc = .ok (.astore k, 2)) (hp : pc + 2 = pc') (hv : x.isRef = true) (hl : storeLocals Ls k x = some l')
    (hr : OG p.tables e below P (T.setTop (mkF m pc' l' rest))) : OG p.tables e below P (T.setTop (mkF m pc Ls (x :: rest))) := by
  subst hp
  obtain ⟨X, hx, hby, hml, hown, hZ, eT⟩ := B
  exact hr.of fun t k => XS.astore X.here hx rfl (hb hby hd) rfl hv hl k
theorem o_iinc (B : Bx own bs ml Z p l e R s m args below meth c T h locs cells slots) (pc pc' : Nat) {k : Nat} {cst : Int} {x : Int32} {l' : Array Slot} (v : Int32) (hd : decode bs pc = .ok (.iinc k cst, 3)) (hp : pc + 3 = pc') (hv : Int32.ofInt cst = v) (hl : Ls[k]? = some (.val (.int x))) (hl' : storeLocals Ls k (.int (x + v)) = some l')
    (hr : OG p.tables e below P (T.setTop (mkF m pc' l' rest))) : OG p.tables e below P (T.setTop (mkF m pc Ls rest)) := by
  subst hp
  obtain ⟨X, hx, hby, hml, hown, hZ, eT⟩ := B
  exact hr.of fun t k => XT.iincV X.here hx rfl v (hb hby hd) hv hl hl' k
theorem o_goto (B : Bx own bs ml Z p l e R s m args below meth c T h locs cells slots) (pc pc' : Nat) {o : Int} (hd : decode bs pc = .ok (.goto o, 3))  (ho : 0 ≤ (pc : Int) + o) (hp : ((pc : Int) + o).toNat = pc')
    (hr : OG p.tables e below P (T.setTop (mkF m pc' Ls rest))) : OG p.tables e below P (T.setTop (mkF m pc Ls rest)) := by
  obtain ⟨X, hx, hby, hml, hown, hZ, eT⟩ := B
  exact hr.of fun t k => XS.goto X.here hx rfl (pc0 := pc) (pc' := pc') rfl (hb hby hd) ho hp k
theorem o_ifY (B : Bx own bs ml Z p l e R s m args below meth c T h locs cells slots) (pc pc' : Nat) {cd : ClassFile.Cond} {o : Int} {x : Int32} (hd : decode bs pc = .ok (.ifCond cd o, 3))  (hc : ifCond.holds cd x = true) (ho : 0 ≤ (pc : Int) + o) (hp : ((pc : Int) + o).toNat = pc')
    (hr : OG p.tables e below P (T.setTop (mkF m pc' Ls rest))) : OG p.tables e below P (T.setTop (mkF m pc Ls (.int x :: rest))) := by
  obtain ⟨X, hx, hby, hml, hown, hZ, eT⟩ := B
  exact hr.of fun t k => XS.ifYes X.here hx rfl (pc0 := pc) (pc' := pc') rfl (hb hby hd) rfl hc ho hp k
theorem o_ifN (B : Bx own bs ml Z p l e R s m args below meth c T h locs cells slots) (pc pc' : Nat) {cd : ClassFile.Cond} {o : Int} {x : Int32} (hd : decode bs pc = .ok (.ifCond cd o, 3)) (hp : pc + 3 = pc') (hc : ifCond.holds cd x = false)
    (hr : OG p.tables e below P (T.setTop (mkF m pc' Ls rest))) : OG p.tables e below P (T.setTop (mkF m pc Ls (.int x :: rest))) := by
  subst hp
  obtain ⟨X, hx, hby, hml, hown, hZ, eT⟩ := B
  exact hr.of fun t k => XS.ifNo X.here hx rfl (hb hby hd) rfl hc k
theorem o_icY (B : Bx own bs ml Z p l e R s m args below meth c T h locs cells slots) (pc pc' : Nat) {cd : ClassFile.Cond} {o : Int} {x y : Int32} (hd : decode bs pc = .ok (.if_icmp cd o, 3))  (hc : if_icmp.holds cd x y = true) (ho : 0 ≤ (pc : Int) + o) (hp : ((pc : Int) + o).toNat = pc')
    (hr : OG p.tables e below P (T.setTop (mkF m pc' Ls rest))) : OG p.tables e below P (T.setTop (mkF m pc Ls (.int y :: .int x :: rest))) := by
  obtain ⟨X, hx, hby, hml, hown, hZ, eT⟩ := B
  exact hr.of fun t k => XS.icmpYes X.here hx rfl (pc0 := pc) (pc' := pc') rfl (hb hby hd) rfl hc ho hp k
theorem o_icN (B : Bx own bs ml Z p l e R s m args below meth c T h locs cells slots) (pc pc' : Nat) {cd : ClassFile.Cond} {o : Int} {x y : Int32} (hd : decode bs pc = .ok (.if_icmp cd o, 3)) (hp : pc + 3 = pc') (hc : if_icmp.holds cd x y = false)
    (hr : OG p.tables e below P (T.setTop (mkF m pc' Ls rest))) : OG p.tables e below P (T.setTop (mkF m pc Ls (.int y :: .int x :: rest))) := by
  subst hp
  obtain ⟨X, hx, hby, hml, hown, hZ, eT⟩ := B
  exact hr.of fun t k => XS.icmpNo X.here hx rfl (hb hby hd) rfl hc k
theorem o_dup (B : Bx own bs ml Z p l e R s m args below meth c T h locs cells slots) (pc pc' : Nat) {x : Value} (hd : decode bs pc = .ok (.dup, 1)) (hp : pc + 1 = pc') (hc : x.category = 1)
    (hr : OG p.tables e below P (T.setTop (mkF m pc' Ls (x :: x :: rest)))) : OG p.tables e below P (T.setTop (mkF m pc Ls (x :: rest))) := by
  subst hp
  obtain ⟨X, hx, hby, hml, hown, hZ, eT⟩ := B
  exact hr.of fun t k => XS.dup X.here hx rfl (hb hby hd) rfl hc k
theorem o_pop (B : Bx own bs ml Z p l e R s m args below meth c T h locs cells slots) (pc pc' : Nat) {x : Value} (hd : decode bs pc = .ok (.pop, 1)) (hp : pc + 1 = pc') (hc : x.category = 1)
    (hr : OG p.tables e below P (T.setTop (mkF m pc' Ls rest))) : OG p.tables e below P (T.setTop (mkF m pc Ls (x :: rest))) := by
  subst hp
  obtain ⟨X, hx, hby, hml, hown, hZ, eT⟩ := B
  exact hr.of fun t k => XT.pop X.here hx rfl (hb hby hd) rfl hc k
theorem o_dup_x1 (B : Bx own bs ml Z p l e R s m args below meth c T h locs cells slots) (pc pc' : Nat) {x y : Value} (hd : decode bs pc = .ok (.dup_x1, 1)) (hp : pc + 1 = pc') (hc : x.category = 1) (hc' : y.category = 1)
    (hr : OG p.tables e below P (T.setTop (mkF m pc' Ls (x :: y :: x :: rest)))) : OG p.tables e below P (T.setTop (mkF m pc Ls (x :: y :: rest))) := by
  subst hp
  obtain ⟨X, hx, hby, hml, hown, hZ, eT⟩ := B
  exact hr.of fun t k => XT.dupX1 X.here hx rfl (hb hby hd) rfl hc hc' k
theorem o_dup2 (B : Bx own bs ml Z p l e R s m args below meth c T h locs cells slots) (pc pc' : Nat) {x y : Value} (hd : decode bs pc = .ok (.dup2, 1)) (hp : pc + 1 = pc') (hc : x.category = 1) (hc' : y.category = 1)
    (hr : OG p.tables e below P (T.setTop (mkF m pc' Ls (x :: y :: x :: y :: rest)))) : OG p.tables e below P (T.setTop (mkF m pc Ls (x :: y :: rest))) := by
  subst hp
  obtain ⟨X, hx, hby, hml, hown, hZ, eT⟩ := B
  exact hr.of fun t k => XT.dup2 X.here hx rfl (hb hby hd) rfl hc hc' k
theorem o_dup2L (B : Bx own bs ml Z p l e R s m args below meth c T h locs cells slots) (pc pc' : Nat) {x : Int64} (hd : decode bs pc = .ok (.dup2, 1)) (hp : pc + 1 = pc') 
    (hr : OG p.tables e below P (T.setTop (mkF m pc' Ls (.long x :: .long x :: rest)))) : OG p.tables e below P (T.setTop (mkF m pc Ls (.long x :: rest))) := by
  subst hp
  obtain ⟨X, hx, hby, hml, hown, hZ, eT⟩ := B
  exact hr.of fun t k => XT.dup2L X.here hx rfl (hb hby hd) rfl k
theorem o_ldc (B : Bx own bs ml Z p l e R s m args below meth c T h locs cells slots) (pc pc' : Nat) {i : Nat} {v : Int32} (hd : decode bs pc = .ok (.ldc i, 2)) (hp : pc + 2 = pc') (w : (Cond.constant own i v).before a0 Z = true)
    (hr : OG p.tables e below P (T.setTop (mkF m pc' Ls (.int v :: rest)))) : OG p.tables e below P (T.setTop (mkF m pc Ls rest)) := by
  subst hp
  obtain ⟨X, hx, hby, hml, hown, hZ, eT⟩ := B
  exact hr.of fun t k => X.ldcI hx hown (mv hZ w) rfl (hb hby hd) k
theorem o_ldc_w (B : Bx own bs ml Z p l e R s m args below meth c T h locs cells slots) (pc pc' : Nat) {i : Nat} {v : Int32} (hd : decode bs pc = .ok (.ldc_w i, 3)) (hp : pc + 3 = pc') (w : (Cond.constant own i v).before a0 Z = true)
    (hr : OG p.tables e below P (T.setTop (mkF m pc' Ls (.int v :: rest)))) : OG p.tables e below P (T.setTop (mkF m pc Ls rest)) := by
  subst hp
  obtain ⟨X, hx, hby, hml, hown, hZ, eT⟩ := B
  exact hr.of fun t k => X.ldcWI hx hown (mv hZ w) rfl (hb hby hd) k
theorem o_ldc2 (B : Bx own bs ml Z p l e R s m args below meth c T h locs cells slots) (pc pc' : Nat) {i : Nat} {v : Int64} (hd : decode bs pc = .ok (.ldc2_w i, 3)) (hp : pc + 3 = pc') (w : (Cond.constantLong own i v).before a0 Z = true)
    (hr : OG p.tables e below P (T.setTop (mkF m pc' Ls (.long v :: rest)))) : OG p.tables e below P (T.setTop (mkF m pc Ls rest)) := by
  subst hp
  obtain ⟨X, hx, hby, hml, hown, hZ, eT⟩ := B
  exact hr.of fun t k => X.ldc2J hx hown (mv hZ w) rfl (hb hby hd) k
theorem o_topI {pc : Nat} {x y : Int32} (q : x = y) (hr : OG p.tables e below P (T.setTop (mkF m pc Ls (.int y :: rest)))) : OG p.tables e below P (T.setTop (mkF m pc Ls (.int x :: rest))) := q ▸ hr
theorem o_topJ {pc : Nat} {x y : Int64} (q : x = y) (hr : OG p.tables e below P (T.setTop (mkF m pc Ls (.long y :: rest)))) : OG p.tables e below P (T.setTop (mkF m pc Ls (.long x :: rest))) := q ▸ hr
theorem o_iincC (B : Bx own bs ml Z p l e R s m args below meth c T h locs cells slots) (pc pc' : Nat) {k : Nat} {cst : Int} {x : Int32} {l' : Array Slot} (v y : Int32) (hd : decode bs pc = .ok (.iinc k cst, 3)) (hp : pc + 3 = pc') (hv : Int32.ofInt cst = v) (hl : Ls[k]? = some (.val (.int x))) (hy : x + v = y) (hl' : storeLocals Ls k (.int y) = some l')
    (hr : OG p.tables e below P (T.setTop (mkF m pc' l' rest))) : OG p.tables e below P (T.setTop (mkF m pc Ls rest)) := by
  subst hp
  obtain ⟨X, hx, hby, hml, hown, hZ, eT⟩ := B
  exact hr.of fun t k => XT.iincV X.here hx rfl v (hb hby hd) hv hl (hy ▸ hl') k
theorem o_retZ {Q : Option Value → Heap → List Loc → Prop} {kc ks : Nat} (B : Bx own bs ml Z p l e R s m args below meth c T h locs cells slots) (pc : Nat) {z : Int32} {t : FieldType} (hd : decode bs pc = .ok (.ireturn, 1)) (hret : meth.sig.returnType = some t) (hlk : meth.locks = false) (ht : t = .boolean ∨ t = .byte ∨ t = .char ∨ t = .short) (hc : cells ≤ kc) (hs : slots ≤ ks) (hq : Q (some (.int (nar t z))) h locs) :
    OG p.tables e below (fun o s₂ => ∃ v L, o = .returned v ∧ Q v s₂.heap L ∧ FrameEnd s o s₂ L kc ks) (T.setTop (mkF m pc Ls (.int z :: rest))) := by
  obtain ⟨X, hx, hby, hml, hown, hZ, eT⟩ := B
  subst eT
  obtain ⟨fs, hr, hrun, hended, hW, hsame⟩ := X.leave (v := some (.int (nar t z))) (fun hn => by rw [hret] at hn; cases hn) hlk
  exact ⟨_, _, retN X hx hret ht (hb hby hd) hr, hrun, hended, _, _, rfl, hq, ⟨_, rfl⟩, hW, hsame.mono hc hs⟩
theorem o_retI0 (X : Stand p l e R s m args below meth c T locs cells slots) (hx : p.tables.exec = Jvm.exec) {pc : Nat} {z : Int32} (hret : meth.sig.returnType = some .int) (hd : decode c.code pc = .ok (.ireturn, 1)) {fs : List Frame}
    (hl : ∀ (f : JFrame) (acts : List Action), f.method = m → f.locked = none → f.entered = [] → (doReturn e (T.setTop f) acts (some (.int z))).1 = T.setFrames fs) : Steps p.tables e below (T.setTop (mkF m pc Ls (.int z :: rest))) (T.setFrames fs) :=
  retOut X hx hret rfl (Or.inl ⟨rfl, Or.inl rfl, _, rfl⟩) hd hl
theorem o_retI {Q : Option Value → Heap → List Loc → Prop} {kc ks : Nat} (B : Bx own bs ml Z p l e R s m args below meth c T h locs cells slots) (pc : Nat) {z : Int32} (hd : decode bs pc = .ok (.ireturn, 1)) (hret : meth.sig.returnType = some .int) (hlk : meth.locks = false)  (hc : cells ≤ kc) (hs : slots ≤ ks) (hq : Q (some (.int z)) h locs) :
    OG p.tables e below (fun o s₂ => ∃ v L, o = .returned v ∧ Q v s₂.heap L ∧ FrameEnd s o s₂ L kc ks) (T.setTop (mkF m pc Ls (.int z :: rest))) := by
  obtain ⟨X, hx, hby, hml, hown, hZ, eT⟩ := B
  subst eT
  obtain ⟨fs, hr, hrun, hended, hW, hsame⟩ := X.leave (v := some (.int z)) (fun hn => by rw [hret] at hn; cases hn) hlk
  exact ⟨_, _, o_retI0 X hx hret (hb hby hd) hr, hrun, hended, _, _, rfl, hq, ⟨_, rfl⟩, hW, hsame.mono hc hs⟩
theorem o_retL {Q : Option Value → Heap → List Loc → Prop} {kc ks : Nat} (B : Bx own bs ml Z p l e R s m args below meth c T h locs cells slots) (pc : Nat) {z : Int64} (hd : decode bs pc = .ok (.lreturn, 1)) (hret : meth.sig.returnType = some .long) (hlk : meth.locks = false)  (hc : cells ≤ kc) (hs : slots ≤ ks) (hq : Q (some (.long z)) h locs) :
    OG p.tables e below (fun o s₂ => ∃ v L, o = .returned v ∧ Q v s₂.heap L ∧ FrameEnd s o s₂ L kc ks) (T.setTop (mkF m pc Ls [.long z])) := by
  obtain ⟨X, hx, hby, hml, hown, hZ, eT⟩ := B
  subst eT
  obtain ⟨fs, hr, hrun, hended, hW, hsame⟩ := X.leave (v := some (.long z)) (fun hn => by rw [hret] at hn; cases hn) hlk
  exact ⟨_, _, X.lreturnOut hx hret (hb hby hd) hr, hrun, hended, _, _, rfl, hq, ⟨_, rfl⟩, hW, hsame.mono hc hs⟩
theorem o_retA {Q : Option Value → Heap → List Loc → Prop} {kc ks : Nat} (B : Bx own bs ml Z p l e R s m args below meth c T h locs cells slots) (pc : Nat) {z : Value} {t : FieldType} (hd : decode bs pc = .ok (.areturn, 1)) (hret : meth.sig.returnType = some t) (hlk : meth.locks = false) (ht : t.isReference = true) (hz : z.isRef = true) (hc : cells ≤ kc) (hs : slots ≤ ks) (hq : Q (some z) h locs) :
    OG p.tables e below (fun o s₂ => ∃ v L, o = .returned v ∧ Q v s₂.heap L ∧ FrameEnd s o s₂ L kc ks) (T.setTop (mkF m pc Ls [z])) := by
  obtain ⟨X, hx, hby, hml, hown, hZ, eT⟩ := B
  subst eT
  obtain ⟨fs, hr, hrun, hended, hW, hsame⟩ := X.leave (v := some z) (fun hn => by rw [hret] at hn; cases hn) hlk
  exact ⟨_, _, X.areturnOut hx hz hret ht (hb hby hd) hr, hrun, hended, _, _, rfl, hq, ⟨_, rfl⟩, hW, hsame.mono hc hs⟩
theorem o_retV {Q : Option Value → Heap → List Loc → Prop} {kc ks : Nat} (B : Bx own bs ml Z p l e R s m args below meth c T h locs cells slots) (pc : Nat)  (hd : decode bs pc = .ok (.return_, 1)) (hret : meth.sig.returnType = none) (hlk : meth.locks = false)  (hc : cells ≤ kc) (hs : slots ≤ ks) (hq : Q (none) h locs) :
    OG p.tables e below (fun o s₂ => ∃ v L, o = .returned v ∧ Q v s₂.heap L ∧ FrameEnd s o s₂ L kc ks) (T.setTop (mkF m pc Ls [])) := by
  obtain ⟨X, hx, hby, hml, hown, hZ, eT⟩ := B
  subst eT
  obtain ⟨fs, hr, hrun, hended, hW, hsame⟩ := X.leave (v := none) (fun _ => rfl) hlk
  exact ⟨_, _, X.returnOut hx hret (hb hby hd) hr, hrun, hended, _, _, rfl, hq, ⟨_, rfl⟩, hW, hsame.mono hc hs⟩
/-- a body's contract, out of its walk -/
theorem enter {y : MethodName} {ret : Option FieldType} {rm : Room} {ws : List Jvm.Cond} {as' : Array Value} {h0 : Heap} {Q : Option Value → Heap → List Loc → Prop} {kc ks : Nat} (hpl : plainFor y = true) (Ls : Array Slot)
    (hL : Jvm.Sym.laidSlots as'.toList ++ List.replicate (ml - (Jvm.Sym.laidSlots as'.toList).length) .unset = Ls.toList)
    (body : ∀ (p : Program) (e : Env) (s : State) (m : MethodId) (below : List Frame) (meth : Method) (c : Code) (T : State), Bx y.cls bs ml Z p l e rm s m as' below meth c T h0 [] 0 0 → meth.sig.returnType = ret → meth.locks = false → meth.name = y.name →
      OG p.tables e below (fun o s₂ => ∃ v L, o = .returned v ∧ Q v s₂.heap L ∧ FrameEnd s o s₂ L kc ks) (T.setTop (mkF m 0 Ls []))) :
    MetFree l y (head1 (Jvm.Cond.code y bs ml ret :: ws) rm) (fun a U => a = as' ∧ Z.Warmed39 U.vm ∧ U.heap = h0) (fun _ _ _ _ _ => True) (fun _ U o U' => ∃ v L, o = .returned v ∧ Q v U'.heap L ∧ FrameEnd U o U' L kc ks) := by
  refine MetFree.of_bodySF hpl hisR ?_
  intro p e s m args below meth c s₁ Bd hml0 hP hK
  obtain ⟨rfl, hZ, hh⟩ := hP
  have e0 : s₁.heap = h0 := by rw [← hh, Bd.state]; rfl
  have r := body p e s m below meth c s₁ ⟨Stand.of_body Bd, Bd.exec, Bd.bytes, hml0, findClass_of_methodNamed Bd.named, hZ, e0⟩ Bd.returns (BodyLoose.notSynchronized Bd) (name_of_methodNamed Bd.named Bd.method).1
  exact OG.of r fun t k => (XT.entry hL).trans k
/-- what a callee owes -/
abbrev Met (l : Launch) (Z : State) (y : MethodName) (bytes : ByteArray) (maxL : Nat) (ret : Option FieldType) (rm : Room) (as' : Array Value) (h : Heap) (Q : Option Value → Heap → List Loc → Prop) : Prop :=
  MetFree l y (head1 [Jvm.Cond.code y bytes maxL ret] rm) (fun a U => a = as' ∧ Z.Warmed39 U.vm ∧ U.heap = h) (fun _ _ _ _ _ => True) (fun _ U o U' => ∃ v L, o = .returned v ∧ Q v U'.heap L ∧ FrameEnd U o U' L rm.cells rm.slots)
theorem o_callS {index : Nat} {y : MethodName} {bytes : ByteArray} {maxL : Nat} {ret : Option FieldType} {rm : Room} {as' : Array Value} {Q : Option Value → Heap → List Loc → Prop} {ps : List FieldType} {rt : Option FieldType}
    (B : Bx own bs ml Z p l e R s m args below meth c T h locs cells slots) (pc pc' : Nat) (hd : decode bs pc = .ok (.invokestatic index, 3)) (hp : pc + 3 = pc')
    (w1 : (Cond.methodLink own index y).before a0 Z = true) (w2 : (Cond.static y).before a0 Z = true) (w3 : (Cond.initialized y.cls).before a0 Z = true) (w4 : (Cond.code y bytes maxL ret).before a0 Z = true) (hy : y.cls ≠ "java/lang/invoke/MethodHandle" ∧ y.cls ≠ "java/lang/invoke/VarHandle")
    (hM : Met l Z y bytes maxL ret rm as' h Q) (W : Nat) (argsL rest : List Value) (hpd : parseMethodDescriptor y.desc = some ⟨ps, rt⟩) (hlen : argsL.length = ps.length) (has : argsL.toArray = as') {st : List Value} (hst : st = argsL.reverse ++ rest) (hsz : Ls.size = ml)
    (hW : (rest.map fun v => v.category).sum ≤ W) (hf : rm.frames + 1 ≤ R.frames) (hl : W + (maxL + 11) + rm.locals ≤ R.locals) (hcl : cells + rm.cells ≤ R.cells) (hsl : slots + rm.slots ≤ R.slots) :
    ∃ v T' L, Bx own bs ml Z p l e R s m args below meth c T' T'.heap (locs ++ L) (cells + rm.cells) (slots + rm.slots) ∧ Q v T'.heap L ∧
      ∀ {P : Outcome → State → Prop}, OG p.tables e below P (T'.setTop (mkF m pc' Ls (v.toList ++ rest))) → OG p.tables e below P (T.setTop (mkF m pc Ls st)) := by
  subst hp hst
  obtain ⟨X, hx, hby, hml, hown, hZ, eT⟩ := B
  obtain ⟨v, vm1, ⟨T', L', k', n'⟩, -, X', ⟨Lc, hQ, l', y', z'⟩, st⟩ := Jvm.LawKit.callS X hx (y := y) hown (mvT hZ w1) (mvT hZ w2) (mvT hZ w3) (mvT hZ w4) hy (backOf (W := W) hM hZ w4 w3 hf hl) (g := mkF m pc Ls (argsL.reverse ++ rest)) rfl (by rw [hml]; exact hsz) (argsL := argsL) (rest := rest) (lenOf hpd hlen) rfl (by simpa using hW) (hb hby hd) (fun _ _ => ⟨has, eT, hcl, hsl⟩)
  dsimp only [Pt.U, Pt.locs, Pt.cells, Pt.slots] at X' l' y' z' st hQ
  subst l' y' z'
  exact ⟨v, T', Lc, ⟨X', hx, hby, hml, hown, hZ, rfl⟩, hQ, fun k => k.of st⟩
/-- a callee that writes and makes nothing -/
def Pu (r : Option Value) (h : Heap) (v : Option Value) (h' : Heap) (L : List Loc) : Prop := v = r ∧ L = [] ∧ h' = h
theorem o_callP {index : Nat} {y : MethodName} {bytes : ByteArray} {maxL : Nat} {ret : Option FieldType} {fr lo : Nat} {as' : Array Value} {r : Value} {ps : List FieldType} {rt : Option FieldType}
    (B : Bx own bs ml Z p l e R s m args below meth c T h locs cells slots) (pc pc' : Nat) (hd : decode bs pc = .ok (.invokestatic index, 3)) (hp : pc + 3 = pc')
    (w1 : (Cond.methodLink own index y).before a0 Z = true) (w2 : (Cond.static y).before a0 Z = true) (w3 : (Cond.initialized y.cls).before a0 Z = true) (w4 : (Cond.code y bytes maxL ret).before a0 Z = true) (hy : y.cls ≠ "java/lang/invoke/MethodHandle" ∧ y.cls ≠ "java/lang/invoke/VarHandle")
    (hM : Met l Z y bytes maxL ret ({ frames := fr, cells := 0, slots := 0, locals := lo } : Room) as' h (Pu (some r) h)) (W : Nat) (argsL rest : List Value) (hpd : parseMethodDescriptor y.desc = some ⟨ps, rt⟩) (hlen : argsL.length = ps.length) (has : argsL.toArray = as') {st : List Value} (hst : st = argsL.reverse ++ rest) (hsz : Ls.size = ml)
    (hW : (rest.map fun v => v.category).sum ≤ W) (hf : fr + 1 ≤ R.frames) (hl : W + (maxL + 11) + lo ≤ R.locals) (hcl : cells ≤ R.cells) (hsl : slots ≤ R.slots) :
    ∃ T', Bx own bs ml Z p l e R s m args below meth c T' h locs cells slots ∧
      ∀ {P : Outcome → State → Prop}, OG p.tables e below P (T'.setTop (mkF m pc' Ls (r :: rest))) → OG p.tables e below P (T.setTop (mkF m pc Ls st)) := by
  obtain ⟨v, T', L, B', ⟨rfl, rfl, hh⟩, st⟩ := o_callS B pc pc' hd hp w1 w2 w3 w4 hy hM W argsL rest hpd hlen has hst hsz hW hf hl hcl hsl
  rw [hh, List.append_nil] at B'
  exact ⟨T', B', st⟩
end Walk
theorem b_ne_t {c : Prop} [Decidable c] (h : c) : ifCond.holds .ne (if c then (1 : Int32) else 0) = true := by rw [if_pos h]; rfl
theorem b_ne_f {c : Prop} [Decidable c] (h : ¬ c) : ifCond.holds .ne (if c then (1 : Int32) else 0) = false := by rw [if_neg h]; rfl
theorem b_eq_t {c : Prop} [Decidable c] (h : ¬ c) : ifCond.holds .eq (if c then (1 : Int32) else 0) = true := by rw [if_neg h]; rfl
theorem b_eq_f {c : Prop} [Decidable c] (h : c) : ifCond.holds .eq (if c then (1 : Int32) else 0) = false := by rw [if_pos h]; rfl
/-! 2. arrays by a function of the place -/
def AI (Z : State) (h : Heap) (a : Addr) (ty : FieldType) (n : Nat) (g : Nat → Int32) : Prop := ∃ c : Cell, Arr Z h a c ty ∧ c.slots.size = n ∧ n < 2147483648 ∧ ∀ j, j < n → c.slots[j]? = some (.int (g j))
def AJ (Z : State) (h : Heap) (a : Addr) (n : Nat) (g : Nat → Int64) : Prop := ∃ c : Cell, Arr Z h a c .long ∧ c.slots.size = n ∧ n < 2147483648 ∧ ∀ j, j < n → c.slots[j]? = some (.long (g j))
section Arrays
variable {Z : State} {h h' : Heap} {a b : Addr} {ty : FieldType} {n i : Nat} {v : Value} {ws : List Addr}
theorem AI.ext {g : Nat → Int32} (A : AI Z h a ty n g) (E : Ext h h') : AI Z h' a ty n g := by obtain ⟨c, A, r⟩ := A; exact ⟨c, A.ext E, r⟩
theorem AI.other {g : Nat → Int32} (A : AI Z h a ty n g) (W : Wr h h' b i v) (q : a ≠ b) : AI Z h' a ty n g := by obtain ⟨c, A, r⟩ := A; exact ⟨c, A.other W q, r⟩
theorem AI.keep {g : Nat → Int32} (A : AI Z h a ty n g) (K : Keep h h' ws) (q : a ∉ ws) : AI Z h' a ty n g := by obtain ⟨c, A, r⟩ := A; exact ⟨c, ⟨K.2.1 a c A.1 q, A.2⟩, r⟩
theorem AI.lt {g : Nat → Int32} (A : AI Z h a ty n g) : a < h.size := by obtain ⟨c, A, r⟩ := A; exact A.lt
theorem AI.len {g : Nat → Int32} (A : AI Z h a ty n g) : n < 2147483648 := by obtain ⟨c, A, r, q, _⟩ := A; exact q
theorem AI.alt {g g' : Nat → Int32} (A : AI Z h a ty n g) (q : ∀ j, j < n → g' j = g j) : AI Z h a ty n g' := by obtain ⟨c, A, r, s, H⟩ := A; exact ⟨c, A, r, s, fun j hj => by rw [q j hj]; exact H j hj⟩
theorem AI.set {g : Nat → Int32} {x : Int32} (A : AI Z h a ty n g) (W : Wr h h' a i (.int x)) : AI Z h' a ty n (fun j => if j = i then x else g j) := by
  obtain ⟨c, A, S, hn, H⟩ := A
  refine ⟨c.setSlot i (.int x), Arr.same W A, by simp [Cell.setSlot, S], hn, fun j hj => ?_⟩
  show (c.slots.setIfInBounds i (.int x))[j]? = some (.int (if j = i then x else g j))
  by_cases e : j = i
  · subst e; rw [if_pos rfl]; simp [S, hj]
  · rw [if_neg e, Array.getElem?_setIfInBounds_ne (Ne.symm e)]; exact H j hj
theorem AJ.ext {g : Nat → Int64} (A : AJ Z h a n g) (E : Ext h h') : AJ Z h' a n g := by obtain ⟨c, A, r⟩ := A; exact ⟨c, A.ext E, r⟩
theorem AJ.other {g : Nat → Int64} (A : AJ Z h a n g) (W : Wr h h' b i v) (q : a ≠ b) : AJ Z h' a n g := by obtain ⟨c, A, r⟩ := A; exact ⟨c, A.other W q, r⟩
theorem AJ.keep {g : Nat → Int64} (A : AJ Z h a n g) (K : Keep h h' ws) (q : a ∉ ws) : AJ Z h' a n g := by obtain ⟨c, A, r⟩ := A; exact ⟨c, ⟨K.2.1 a c A.1 q, A.2⟩, r⟩
theorem AJ.lt {g : Nat → Int64} (A : AJ Z h a n g) : a < h.size := by obtain ⟨c, A, r⟩ := A; exact A.lt
theorem AJ.len {g : Nat → Int64} (A : AJ Z h a n g) : n < 2147483648 := by obtain ⟨c, A, r, q, _⟩ := A; exact q
theorem AJ.alt {g g' : Nat → Int64} (A : AJ Z h a n g) (q : ∀ j, j < n → g' j = g j) : AJ Z h a n g' := by obtain ⟨c, A, r, s, H⟩ := A; exact ⟨c, A, r, s, fun j hj => by rw [q j hj]; exact H j hj⟩
theorem AJ.set {g : Nat → Int64} {x : Int64} (A : AJ Z h a n g) (W : Wr h h' a i (.long x)) : AJ Z h' a n (fun j => if j = i then x else g j) := by
  obtain ⟨c, A, S, hn, H⟩ := A
  refine ⟨c.setSlot i (.long x), Arr.same W A, by simp [Cell.setSlot, S], hn, fun j hj => ?_⟩
  show (c.slots.setIfInBounds i (.long x))[j]? = some (.long (if j = i then x else g j))
  by_cases e : j = i
  · subst e; rw [if_pos rfl]; simp [S, hj]
  · rw [if_neg e, Array.getElem?_setIfInBounds_ne (Ne.symm e)]; exact H j hj
theorem in_of {c : Cell} {j : Int32} (S : c.slots.size = n) (h0 : ¬ j < 0) (hj : j.toNatClampNeg = i) (hi : i < n) : ¬ (j < 0 ∨ c.slots.size ≤ j.toNatClampNeg) := by rw [S, hj]; rintro (q | q); exact h0 q; omega
end Arrays
theorem ix_of {j : Int32} {k : Nat} (h : j.toInt = k) : ¬ j < 0 ∧ j.toNatClampNeg = k := by
  rw [Int32.lt_iff_toInt_lt, Int32.toInt_zero]
  simp only [Int32.toNatClampNeg, h]
  omega
theorem ix_add {j : Int32} {k : Nat} (c : Int32) (n : Nat) (h : j.toInt = k) (hc : c.toInt = n) (hk : k + n < 2147483648) : (j + c).toInt = (k + n : Nat) := by
  have a := c_iadd j c
  have r := rng32 (j + c)
  omega
theorem nar_bb (x : Int32) : nar .byte x.toInt8.toInt32 = x.toInt8.toInt32 := by simp [nar]
theorem nar_cc (x : Int32) : nar .char x.toUInt32.toUInt16.toUInt32.toInt32 = x.toUInt32.toUInt16.toUInt32.toInt32 := by simp only [nar, UInt32.toUInt32_toInt32, UInt16.toUInt16_toUInt32]
def Lw (n0 : Nat) (r : Option Value) (v : Option Value) (h : Heap) (L : List Loc) : Prop := v = r ∧ Fr n0 L
section Walk2
variable {own : String} {bs : ByteArray} {ml : Nat} {Z : State} {p : Program} {l : Launch} {e : Env} {R : Room} {s : State} {m : MethodId} {args : Array Value} {below : List Frame} {meth : Method} {c : Code} {T : State} {h : Heap} {locs : List Loc} {cells slots n0 : Nat} {P : Outcome → State → Prop} {Ls : Array Slot} {rest : List Value} {a0 : Array Value} {a : Addr} {n : Nat}
theorem o_iaload (B : Bx own bs ml Z p l e R s m args below meth c T h locs cells slots) (pc pc' : Nat) {g : Nat → Int32} (A : AI Z h a .int n g) {j : Int32} (i : Nat) (v : Int32) (hd : decode bs pc = .ok (.iaload, 1)) (hp : pc + 1 = pc') (h0 : ¬ j < 0) (hj : j.toNatClampNeg = i) (hi : i < n) (hv : g i = v)
    (hr : OG p.tables e below P (T.setTop (mkF m pc' Ls (.int v :: rest)))) : OG p.tables e below P (T.setTop (mkF m pc Ls (.int j :: .ref a :: rest))) := by
  subst hp hv
  obtain ⟨X, hx, hby, hml, hown, hZ, eT⟩ := B
  obtain ⟨cl, A, S, hn, H⟩ := A
  exact hr.of fun t k => X.iaload hx (by rw [eT]; exact A.1) (State.isArrayOf_alike hZ.alike A.2.1) A.2.2 (in_of S h0 hj hi) (by rw [hj]; exact H i hi) (g := mkF m pc Ls (.int j :: .ref a :: rest)) rfl rfl (hb hby hd) t k
theorem o_caload (B : Bx own bs ml Z p l e R s m args below meth c T h locs cells slots) (pc pc' : Nat) {g : Nat → Int32} (A : AI Z h a .char n g) {j : Int32} (i : Nat) (v : Int32) (hd : decode bs pc = .ok (.caload, 1)) (hp : pc + 1 = pc') (h0 : ¬ j < 0) (hj : j.toNatClampNeg = i) (hi : i < n) (hv : g i = v)
    (hr : OG p.tables e below P (T.setTop (mkF m pc' Ls (.int v :: rest)))) : OG p.tables e below P (T.setTop (mkF m pc Ls (.int j :: .ref a :: rest))) := by
  subst hp hv
  obtain ⟨X, hx, hby, hml, hown, hZ, eT⟩ := B
  obtain ⟨cl, A, S, hn, H⟩ := A
  exact hr.of fun t k => X.caload hx (by rw [eT]; exact A.1) (State.isArrayOf_alike hZ.alike A.2.1) A.2.2 (in_of S h0 hj hi) (by rw [hj]; exact H i hi) (g := mkF m pc Ls (.int j :: .ref a :: rest)) rfl rfl (hb hby hd) t k
theorem o_baload (B : Bx own bs ml Z p l e R s m args below meth c T h locs cells slots) (pc pc' : Nat) {g : Nat → Int32} (A : AI Z h a .byte n g) {j : Int32} (i : Nat) (v : Int32) (hd : decode bs pc = .ok (.baload, 1)) (hp : pc + 1 = pc') (h0 : ¬ j < 0) (hj : j.toNatClampNeg = i) (hi : i < n) (hv : g i = v)
    (hr : OG p.tables e below P (T.setTop (mkF m pc' Ls (.int v :: rest)))) : OG p.tables e below P (T.setTop (mkF m pc Ls (.int j :: .ref a :: rest))) := by
  subst hp hv
  obtain ⟨X, hx, hby, hml, hown, hZ, eT⟩ := B
  obtain ⟨cl, A, S, hn, H⟩ := A
  exact hr.of fun t k => X.baloadBytes hx (by rw [eT]; exact A.1) (State.isArrayOf_alike hZ.alike A.2.1) A.2.2 (in_of S h0 hj hi) (by rw [hj]; exact H i hi) (g := mkF m pc Ls (.int j :: .ref a :: rest)) rfl rfl (hb hby hd) t k
theorem o_zaload (B : Bx own bs ml Z p l e R s m args below meth c T h locs cells slots) (pc pc' : Nat) {g : Nat → Int32} (A : AI Z h a .boolean n g) {j : Int32} (i : Nat) (v : Int32) (hd : decode bs pc = .ok (.baload, 1)) (hp : pc + 1 = pc') (h0 : ¬ j < 0) (hj : j.toNatClampNeg = i) (hi : i < n) (hv : g i = v)
    (hr : OG p.tables e below P (T.setTop (mkF m pc' Ls (.int v :: rest)))) : OG p.tables e below P (T.setTop (mkF m pc Ls (.int j :: .ref a :: rest))) := by
  subst hp hv
  obtain ⟨X, hx, hby, hml, hown, hZ, eT⟩ := B
  obtain ⟨cl, A, S, hn, H⟩ := A
  exact hr.of fun t k => X.baloadBooleans hx (by rw [eT]; exact A.1) (State.isArrayOf_alike hZ.alike A.2.1) A.2.2 (in_of S h0 hj hi) (by rw [hj]; exact H i hi) (g := mkF m pc Ls (.int j :: .ref a :: rest)) rfl rfl (hb hby hd) t k
theorem o_laload (B : Bx own bs ml Z p l e R s m args below meth c T h locs cells slots) (pc pc' : Nat) {g : Nat → Int64} (A : AJ Z h a n g) {j : Int32} (i : Nat) (v : Int64) (hd : decode bs pc = .ok (.laload, 1)) (hp : pc + 1 = pc') (h0 : ¬ j < 0) (hj : j.toNatClampNeg = i) (hi : i < n) (hv : g i = v)
    (hr : OG p.tables e below P (T.setTop (mkF m pc' Ls (.long v :: rest)))) : OG p.tables e below P (T.setTop (mkF m pc Ls (.int j :: .ref a :: rest))) := by
  subst hp hv
  obtain ⟨X, hx, hby, hml, hown, hZ, eT⟩ := B
  obtain ⟨cl, A, S, hn, H⟩ := A
  exact hr.of fun t k => X.laload hx (by rw [eT]; exact A.1) (State.isArrayOf_alike hZ.alike A.2.1) A.2.2 (in_of S h0 hj hi) (by rw [hj]; exact H i hi) (g := mkF m pc Ls (.int j :: .ref a :: rest)) rfl rfl (hb hby hd) t k
theorem o_alenI (B : Bx own bs ml Z p l e R s m args below meth c T h locs cells slots) (pc pc' : Nat) {ty : FieldType} {g : Nat → Int32} (A : AI Z h a ty n g) (v : Int32) (hd : decode bs pc = .ok (.arraylength, 1)) (hp : pc + 1 = pc') (hv : n.toInt32 = v)
    (hr : OG p.tables e below P (T.setTop (mkF m pc' Ls (.int v :: rest)))) : OG p.tables e below P (T.setTop (mkF m pc Ls (.ref a :: rest))) := by
  subst hp hv
  obtain ⟨X, hx, hby, hml, hown, hZ, eT⟩ := B
  obtain ⟨cl, A, S, hn, H⟩ := A
  exact hr.of fun t k => X.arraylength hx (by rw [eT]; exact A.1) (State.isArrayOf_alike hZ.alike A.2.1) (g := mkF m pc Ls (.ref a :: rest)) rfl rfl (hb hby hd) t (by rw [S]; exact k)
theorem o_alenJ (B : Bx own bs ml Z p l e R s m args below meth c T h locs cells slots) (pc pc' : Nat) {g : Nat → Int64} (A : AJ Z h a n g) (v : Int32) (hd : decode bs pc = .ok (.arraylength, 1)) (hp : pc + 1 = pc') (hv : n.toInt32 = v)
    (hr : OG p.tables e below P (T.setTop (mkF m pc' Ls (.int v :: rest)))) : OG p.tables e below P (T.setTop (mkF m pc Ls (.ref a :: rest))) := by
  subst hp hv
  obtain ⟨X, hx, hby, hml, hown, hZ, eT⟩ := B
  obtain ⟨cl, A, S, hn, H⟩ := A
  exact hr.of fun t k => X.arraylength hx (by rw [eT]; exact A.1) (State.isArrayOf_alike hZ.alike A.2.1) (g := mkF m pc Ls (.ref a :: rest)) rfl rfl (hb hby hd) t (by rw [S]; exact k)
theorem o_iastore (B : Bx own bs ml Z p l e R s m args below meth c T h locs cells slots) (N : Fr n0 locs) (ge : n0 ≤ a) (pc pc' : Nat) {g : Nat → Int32} (A : AI Z h a .int n g) {j : Int32} {x : Int32} (i : Nat) (y : Int32) (hd : decode bs pc = .ok (.iastore, 1)) (hp : pc + 1 = pc') (h0 : ¬ j < 0) (hj : j.toNatClampNeg = i) (hi : i < n) (hy : x = y) :
    ∃ T' h' L', Bx own bs ml Z p l e R s m args below meth c T' h' L' cells slots ∧ Fr n0 L' ∧ Wr h h' a i (.int y) ∧ AI Z h' a .int n (fun j => if j = i then y else g j) ∧ ∀ {P : Outcome → State → Prop}, OG p.tables e below P (T'.setTop (mkF m pc' Ls rest)) → OG p.tables e below P (T.setTop (mkF m pc Ls (.int x :: .int j :: .ref a :: rest))) := by
  subst hp hj hy
  obtain ⟨X, hx, hby, hml, hown, hZ, eT⟩ := B
  have A' := A
  obtain ⟨cl, A, S, hn, H⟩ := A
  obtain ⟨T', h', X', e', W, st⟩ := stI X hx hZ eT A (in_of S h0 rfl hi) (g := mkF m pc Ls (.int x :: .int j :: .ref a :: rest)) rfl rfl (hb hby hd)
  exact ⟨T', h', _, ⟨X', hx, hby, hml, hown, hZ, e'⟩, Fr.snoc X' N ge, W, A'.set W, fun k => k.of st⟩
theorem o_castore (B : Bx own bs ml Z p l e R s m args below meth c T h locs cells slots) (N : Fr n0 locs) (ge : n0 ≤ a) (pc pc' : Nat) {g : Nat → Int32} (A : AI Z h a .char n g) {j : Int32} {x : Int32} (i : Nat) (y : Int32) (hd : decode bs pc = .ok (.castore, 1)) (hp : pc + 1 = pc') (h0 : ¬ j < 0) (hj : j.toNatClampNeg = i) (hi : i < n) (hy : nar .char x = y) :
    ∃ T' h' L', Bx own bs ml Z p l e R s m args below meth c T' h' L' cells slots ∧ Fr n0 L' ∧ Wr h h' a i (.int y) ∧ AI Z h' a .char n (fun j => if j = i then y else g j) ∧ ∀ {P : Outcome → State → Prop}, OG p.tables e below P (T'.setTop (mkF m pc' Ls rest)) → OG p.tables e below P (T.setTop (mkF m pc Ls (.int x :: .int j :: .ref a :: rest))) := by
  subst hp hj hy
  obtain ⟨X, hx, hby, hml, hown, hZ, eT⟩ := B
  have A' := A
  obtain ⟨cl, A, S, hn, H⟩ := A
  obtain ⟨T', h', X', e', W, st⟩ := stC X hx hZ eT A (in_of S h0 rfl hi) (g := mkF m pc Ls (.int x :: .int j :: .ref a :: rest)) rfl rfl (hb hby hd)
  exact ⟨T', h', _, ⟨X', hx, hby, hml, hown, hZ, e'⟩, Fr.snoc X' N ge, W, A'.set W, fun k => k.of st⟩
theorem o_bastore (B : Bx own bs ml Z p l e R s m args below meth c T h locs cells slots) (N : Fr n0 locs) (ge : n0 ≤ a) (pc pc' : Nat) {g : Nat → Int32} (A : AI Z h a .byte n g) {j : Int32} {x : Int32} (i : Nat) (y : Int32) (hd : decode bs pc = .ok (.bastore, 1)) (hp : pc + 1 = pc') (h0 : ¬ j < 0) (hj : j.toNatClampNeg = i) (hi : i < n) (hy : nar .byte x = y) :
    ∃ T' h' L', Bx own bs ml Z p l e R s m args below meth c T' h' L' cells slots ∧ Fr n0 L' ∧ Wr h h' a i (.int y) ∧ AI Z h' a .byte n (fun j => if j = i then y else g j) ∧ ∀ {P : Outcome → State → Prop}, OG p.tables e below P (T'.setTop (mkF m pc' Ls rest)) → OG p.tables e below P (T.setTop (mkF m pc Ls (.int x :: .int j :: .ref a :: rest))) := by
  subst hp hj hy
  obtain ⟨X, hx, hby, hml, hown, hZ, eT⟩ := B
  have A' := A
  obtain ⟨cl, A, S, hn, H⟩ := A
  obtain ⟨T', h', X', e', W, st⟩ := stB X hx hZ eT A (in_of S h0 rfl hi) (g := mkF m pc Ls (.int x :: .int j :: .ref a :: rest)) rfl rfl (hb hby hd)
  exact ⟨T', h', _, ⟨X', hx, hby, hml, hown, hZ, e'⟩, Fr.snoc X' N ge, W, A'.set W, fun k => k.of st⟩
theorem o_zastore (B : Bx own bs ml Z p l e R s m args below meth c T h locs cells slots) (N : Fr n0 locs) (ge : n0 ≤ a) (pc pc' : Nat) {g : Nat → Int32} (A : AI Z h a .boolean n g) {j : Int32} {x : Int32} (i : Nat) (y : Int32) (hd : decode bs pc = .ok (.bastore, 1)) (hp : pc + 1 = pc') (h0 : ¬ j < 0) (hj : j.toNatClampNeg = i) (hi : i < n) (hy : nar .boolean x = y) :
    ∃ T' h' L', Bx own bs ml Z p l e R s m args below meth c T' h' L' cells slots ∧ Fr n0 L' ∧ Wr h h' a i (.int y) ∧ AI Z h' a .boolean n (fun j => if j = i then y else g j) ∧ ∀ {P : Outcome → State → Prop}, OG p.tables e below P (T'.setTop (mkF m pc' Ls rest)) → OG p.tables e below P (T.setTop (mkF m pc Ls (.int x :: .int j :: .ref a :: rest))) := by
  subst hp hj hy
  obtain ⟨X, hx, hby, hml, hown, hZ, eT⟩ := B
  have A' := A
  obtain ⟨cl, A, S, hn, H⟩ := A
  obtain ⟨T', h', X', e', W, st⟩ := stZ X hx hZ eT A (in_of S h0 rfl hi) (g := mkF m pc Ls (.int x :: .int j :: .ref a :: rest)) rfl rfl (hb hby hd)
  exact ⟨T', h', _, ⟨X', hx, hby, hml, hown, hZ, e'⟩, Fr.snoc X' N ge, W, A'.set W, fun k => k.of st⟩
theorem o_lastore (B : Bx own bs ml Z p l e R s m args below meth c T h locs cells slots) (N : Fr n0 locs) (ge : n0 ≤ a) (pc pc' : Nat) {g : Nat → Int64} (A : AJ Z h a n g) {j : Int32} {x : Int64} (i : Nat) (y : Int64) (hd : decode bs pc = .ok (.lastore, 1)) (hp : pc + 1 = pc') (h0 : ¬ j < 0) (hj : j.toNatClampNeg = i) (hi : i < n) (hy : x = y) :
    ∃ T' h' L', Bx own bs ml Z p l e R s m args below meth c T' h' L' cells slots ∧ Fr n0 L' ∧ Wr h h' a i (.long y) ∧ AJ Z h' a n (fun j => if j = i then y else g j) ∧ ∀ {P : Outcome → State → Prop}, OG p.tables e below P (T'.setTop (mkF m pc' Ls rest)) → OG p.tables e below P (T.setTop (mkF m pc Ls (.long x :: .int j :: .ref a :: rest))) := by
  subst hp hj hy
  obtain ⟨X, hx, hby, hml, hown, hZ, eT⟩ := B
  have A' := A
  obtain ⟨cl, A, S, hn, H⟩ := A
  obtain ⟨T', h', X', e', W, st⟩ := stJ X hx hZ eT A (in_of S h0 rfl hi) (g := mkF m pc Ls (.long x :: .int j :: .ref a :: rest)) rfl rfl (hb hby hd)
  exact ⟨T', h', _, ⟨X', hx, hby, hml, hown, hZ, e'⟩, Fr.snoc X' N ge, W, A'.set W, fun k => k.of st⟩
theorem o_newI (B : Bx own bs ml Z p l e R s m args below meth c T h locs cells slots) (pc pc' : Nat) {aty : ArrayType} {ty : FieldType} {z : Int32} (k cap : Nat) (w : (Cond.arrayClass (newarray.typeOf aty)).before a0 Z = true) (hd : decode bs pc = .ok (.newarray aty, 2)) (hp : pc + 2 = pc') (hty : newarray.typeOf aty = ty) (hdv : defaultValue ty = .int 0) (hz : ¬ z < 0) (hk : z.toNatClampNeg = k) (hcap : k ≤ cap) (hb8 : cap * 8 ≤ 536870912) (hc : cells + 1 ≤ R.cells) (hl : slots + cap ≤ R.slots) :
    ∃ a T' h', a = h.size ∧ Bx own bs ml Z p l e R s m args below meth c T' h' locs (cells + 1) (slots + cap) ∧ Ext h h' ∧ AI Z h' a ty k (fun _ => 0) ∧ ∀ {P : Outcome → State → Prop}, OG p.tables e below P (T'.setTop (mkF m pc' Ls (.ref a :: rest))) → OG p.tables e below P (T.setTop (mkF m pc Ls (.int z :: rest))) := by
  subst hp hk
  obtain ⟨X, hx, hby, hml, hown, hZ, eT⟩ := B
  obtain ⟨T', h', cA, X', e', E, A, st⟩ := newP X hx hZ w eT (g := mkF m pc Ls (.int z :: rest)) rfl (hb hby hd) rfl hz (cap := cap) hcap hb8 hc hl
  rw [hty] at A
  refine ⟨h.size, T', h', rfl, ⟨X', hx, hby, hml, hown, hZ, e'⟩, E, ⟨_, A, sz_new _ _ _, (back32 hz).2, fun j hj => ?_⟩, fun k => k.of st⟩
  simp [newA, hj, hdv]
theorem o_newJ (B : Bx own bs ml Z p l e R s m args below meth c T h locs cells slots) (pc pc' : Nat) {aty : ArrayType} {z : Int32} (k cap : Nat) (w : (Cond.arrayClass (newarray.typeOf aty)).before a0 Z = true) (hd : decode bs pc = .ok (.newarray aty, 2)) (hp : pc + 2 = pc') (hty : newarray.typeOf aty = .long) (hz : ¬ z < 0) (hk : z.toNatClampNeg = k) (hcap : k ≤ cap) (hb8 : cap * 8 ≤ 536870912) (hc : cells + 1 ≤ R.cells) (hl : slots + cap ≤ R.slots) :
    ∃ a T' h', a = h.size ∧ Bx own bs ml Z p l e R s m args below meth c T' h' locs (cells + 1) (slots + cap) ∧ Ext h h' ∧ AJ Z h' a k (fun _ => 0) ∧ ∀ {P : Outcome → State → Prop}, OG p.tables e below P (T'.setTop (mkF m pc' Ls (.ref a :: rest))) → OG p.tables e below P (T.setTop (mkF m pc Ls (.int z :: rest))) := by
  subst hp hk
  obtain ⟨X, hx, hby, hml, hown, hZ, eT⟩ := B
  obtain ⟨T', h', cA, X', e', E, A, st⟩ := newP X hx hZ w eT (g := mkF m pc Ls (.int z :: rest)) rfl (hb hby hd) rfl hz (cap := cap) hcap hb8 hc hl
  rw [hty] at A
  refine ⟨h.size, T', h', rfl, ⟨X', hx, hby, hml, hown, hZ, e'⟩, E, ⟨_, A, sz_new _ _ _, (back32 hz).2, fun j hj => ?_⟩, fun k => k.of st⟩
  simp [newA, hj, defaultValue]
theorem o_getfield (B : Bx own bs ml Z p l e R s m args below meth c T h locs cells slots) {R0 O f d host : String} {index : Nat} {v : Value} (pc pc' : Nat) (hd : decode bs pc = .ok (.getfield index, 3)) (hp : pc + 3 = pc') (w : (Cond.fieldLink own index R0 f d).before a0 Z = true ∨ (Cond.fieldLinkNest own index R0 f d host).before a0 Z = true) (via : Via Z R0 O f d) (F : Fld Z h a O f d v) :
    ∃ T', Bx own bs ml Z p l e R s m args below meth c T' h locs cells slots ∧ ∀ {P : Outcome → State → Prop}, OG p.tables e below P (T'.setTop (mkF m pc' Ls (v :: rest))) → OG p.tables e below P (T.setTop (mkF m pc Ls (.ref a :: rest))) := by
  subst hp
  obtain ⟨X, hx, hby, hml, hown, hZ, eT⟩ := B
  obtain ⟨T', X', e', st⟩ := getF X hx hZ hown w via eT F (g := mkF m pc Ls (.ref a :: rest)) rfl rfl (hb hby hd)
  exact ⟨T', ⟨X', hx, hby, hml, hown, hZ, e'⟩, fun k => k.of st⟩
theorem o_putfield (B : Bx own bs ml Z p l e R s m args below meth c T h locs cells slots) (N : Fr n0 locs) (ge : n0 ≤ a) {R0 O f d host C : String} {index kk : Nat} {v old : Value} {ty : FieldType} (pc pc' : Nat) (hd : decode bs pc = .ok (.putfield index, 3)) (hp : pc + 3 = pc') (w : (Cond.fieldLink own index R0 f d).before a0 Z = true ∨ (Cond.fieldLinkNest own index R0 f d host).before a0 Z = true) (via : Via Z R0 O f d) (F : Fld Z h a O f d old) (E : Exa Z h a C) (L : (Cond.lays C O f d).before a0 Z = true ∨ ((Cond.laysFinal C O f d).before a0 Z = true ∧ own = O ∧ meth.name = "<init>")) (wi : (Cond.instantiable C kk).before a0 Z = true) (hty : parseFieldDescriptor d = some ty) (hn : narrow ty v = v) (hf : fits ty v = true) :
    ∃ T' h' L', Bx own bs ml Z p l e R s m args below meth c T' h' L' cells slots ∧ Fr n0 L' ∧ Wr h h' a (Jvm.RoadKit.slotOf Z O f d) v ∧ ∀ {P : Outcome → State → Prop}, OG p.tables e below P (T'.setTop (mkF m pc' Ls rest)) → OG p.tables e below P (T.setTop (mkF m pc Ls (v :: .ref a :: rest))) := by
  subst hp
  obtain ⟨X, hx, hby, hml, hown, hZ, eT⟩ := B
  obtain ⟨T', h', X', e', W, st⟩ := putF X hx hZ hown w via eT F E L wi hty hn hf (g := mkF m pc Ls (v :: .ref a :: rest)) rfl rfl (hb hby hd)
  exact ⟨T', h', _, ⟨X', hx, hby, hml, hown, hZ, e'⟩, Fr.snoc X' N ge, W, fun k => k.of st⟩
theorem o_new (B : Bx own bs ml Z p l e R s m args below meth c T h locs cells slots) {C : String} {index : Nat} (pc pc' : Nat) (hd : decode bs pc = .ok (.new index, 3)) (hp : pc + 3 = pc') (w : (Cond.classLink own index C).before a0 Z = true) (wi : (Cond.instantiable C n).before a0 Z = true) (wz : (Cond.initialized C).before a0 Z = true) (hc : cells + 1 ≤ R.cells) (hl : slots + n ≤ R.slots) :
    ∃ a T' h', a = h.size ∧ Bx own bs ml Z p l e R s m args below meth c T' h' locs (cells + 1) (slots + n) ∧ Ext h h' ∧ Exa Z h' a C ∧ (∀ {O nm d : String} {ty : FieldType}, Laid Z a0 C O nm d → parseFieldDescriptor d = some ty → Fld Z h' a O nm d (defaultValue ty)) ∧ ∀ {P : Outcome → State → Prop}, OG p.tables e below P (T'.setTop (mkF m pc' Ls (.ref a :: rest))) → OG p.tables e below P (T.setTop (mkF m pc Ls rest)) := by
  subst hp
  obtain ⟨X, hx, hby, hml, hown, hZ, eT⟩ := B
  obtain ⟨T', h', X', e', E, A, D, -, st⟩ := newO X hx hZ hown w wi wz eT (g := mkF m pc Ls rest) rfl (hb hby hd) hc hl
  exact ⟨h.size, T', h', rfl, ⟨X', hx, hby, hml, hown, hZ, e'⟩, E, A, D, fun k => k.of st⟩
theorem o_initO (B : Bx own bs ml Z p l e R s m args below meth c T h locs cells slots) {index : Nat} (pc pc' : Nat) (hd : decode bs pc = .ok (.invokespecial index, 3)) (hp : pc + 3 = pc') (w1 : (Cond.methodLink own index Lib.objectInit).before a0 Z = true) (w2 : (Cond.instanceMethod Lib.objectInit).before a0 Z = true) (w3 : (Cond.code Lib.objectInit ⟨#[0xb1]⟩ 1 none).before a0 Z = true) (hsz : Ls.size = ml) (W : Nat) (hW : (rest.map fun v => v.category).sum ≤ W) (hf : 1 ≤ R.frames) (hl : W + 12 ≤ R.locals) :
    ∃ T', Bx own bs ml Z p l e R s m args below meth c T' h locs cells slots ∧ ∀ {P : Outcome → State → Prop}, OG p.tables e below P (T'.setTop (mkF m pc' Ls rest)) → OG p.tables e below P (T.setTop (mkF m pc Ls (.ref a :: rest))) := by
  subst hp
  obtain ⟨X, hx, hby, hml, hown, hZ, eT⟩ := B
  obtain ⟨T', X', e', st⟩ := initO X hx hZ hown w1 w2 w3 eT (g := mkF m pc Ls (.ref a :: rest)) rfl (by rw [hml]; exact hsz) rfl (hb hby hd) hf (W := W) (by simpa using hW) hl
  exact ⟨T', ⟨X', hx, hby, hml, hown, hZ, e'⟩, fun k => k.of st⟩
theorem o_callN {index : Nat} {y : MethodName} {bytes : ByteArray} {maxL : Nat} {rm : Room} {as' : Array Value} {Q : Option Value → Heap → List Loc → Prop} {ps : List FieldType} {rt : Option FieldType}
    (B : Bx own bs ml Z p l e R s m args below meth c T h locs cells slots) (pc pc' : Nat) (hd : decode bs pc = .ok (.invokespecial index, 3)) (hp : pc + 3 = pc') (hy1 : y.name = "<init>")
    (w1 : (Cond.methodLink own index y).before a0 Z = true) (w2 : (Cond.instanceMethod y).before a0 Z = true) (w3 : (Cond.initialized y.cls).before a0 Z = true) (w4 : (Cond.code y bytes maxL none).before a0 Z = true) (hy : y.cls ≠ "java/lang/invoke/MethodHandle" ∧ y.cls ≠ "java/lang/invoke/VarHandle")
    (hM : Met l Z y bytes maxL none rm as' h Q) (W : Nat) (argsL rest : List Value) (hpd : parseMethodDescriptor y.desc = some ⟨ps, rt⟩) (hlen : argsL.length = ps.length) (has : (.ref a :: argsL).toArray = as') {st : List Value} (hst : st = argsL.reverse ++ .ref a :: rest) (hsz : Ls.size = ml)
    (hW : (rest.map fun v => v.category).sum ≤ W) (hf : rm.frames + 1 ≤ R.frames) (hl : W + (maxL + 11) + rm.locals ≤ R.locals) (hcl : cells + rm.cells ≤ R.cells) (hsl : slots + rm.slots ≤ R.slots) :
    ∃ v T' L, Bx own bs ml Z p l e R s m args below meth c T' T'.heap (locs ++ L) (cells + rm.cells) (slots + rm.slots) ∧ Q v T'.heap L ∧
      ∀ {P : Outcome → State → Prop}, OG p.tables e below P (T'.setTop (mkF m pc' Ls (v.toList ++ rest))) → OG p.tables e below P (T.setTop (mkF m pc Ls st)) := by
  subst hp hst
  obtain ⟨X, hx, hby, hml, hown, hZ, eT⟩ := B
  obtain ⟨v, vm1, ⟨T', L', k', n'⟩, -, X', ⟨Lc, hQ, l', y', z'⟩, st⟩ := X.specialBack hx (y := y) hy1 hown (mvT hZ w1) (mvT hZ w2) (mvT hZ w4) hy (backOf (W := W) hM hZ w4 w3 hf hl) (g := mkF m pc Ls (argsL.reverse ++ .ref a :: rest)) rfl (by rw [hml]; exact hsz) (Steps.refl _) (a := a) (argsL := argsL) (rest := rest) (lenOf hpd hlen) rfl (by simpa using hW) (hb hby hd) (fun _ _ => ⟨has, eT, hcl, hsl⟩)
  dsimp only [Pt.U, Pt.locs, Pt.cells, Pt.slots] at X' l' y' z' st hQ
  subst l' y' z'
  exact ⟨v, T', Lc, ⟨X', hx, hby, hml, hown, hZ, rfl⟩, hQ, fun k => k.of fun t q => st.trans q⟩
theorem o_callV {index : Nat} {y : MethodName} {C : String} {bytes : ByteArray} {maxL : Nat} {ret : Option FieldType} {rm : Room} {as' : Array Value} {Q : Option Value → Heap → List Loc → Prop} {ps : List FieldType} {rt : Option FieldType}
    (B : Bx own bs ml Z p l e R s m args below meth c T h locs cells slots) (pc pc' : Nat) (hd : decode bs pc = .ok (.invokevirtual index, 3)) (hp : pc + 3 = pc')
    (w1 : (Cond.methodLink own index y).before a0 Z = true) (w2 : (Cond.declares y).before a0 Z = true) (w5 : (Cond.selects C y y).before a0 Z = true) (w6 : (Cond.instanceMethod y).before a0 Z = true) (w3 : (Cond.initialized y.cls).before a0 Z = true) (w4 : (Cond.code y bytes maxL ret).before a0 Z = true) (hy : y.cls ≠ "java/lang/invoke/MethodHandle" ∧ y.cls ≠ "java/lang/invoke/VarHandle") (E : Exa Z h a C)
    (hM : Met l Z y bytes maxL ret rm as' h Q) (W : Nat) (argsL rest : List Value) (hpd : parseMethodDescriptor y.desc = some ⟨ps, rt⟩) (hlen : argsL.length = ps.length) (has : (.ref a :: argsL).toArray = as') {st : List Value} (hst : st = argsL.reverse ++ .ref a :: rest) (hsz : Ls.size = ml)
    (hW : (rest.map fun v => v.category).sum ≤ W) (hf : rm.frames + 1 ≤ R.frames) (hl : W + (maxL + 11) + rm.locals ≤ R.locals) (hcl : cells + rm.cells ≤ R.cells) (hsl : slots + rm.slots ≤ R.slots) :
    ∃ v T' L, Bx own bs ml Z p l e R s m args below meth c T' T'.heap (locs ++ L) (cells + rm.cells) (slots + rm.slots) ∧ Q v T'.heap L ∧
      ∀ {P : Outcome → State → Prop}, OG p.tables e below P (T'.setTop (mkF m pc' Ls (v.toList ++ rest))) → OG p.tables e below P (T.setTop (mkF m pc Ls st)) := by
  subst hp hst
  obtain ⟨X, hx, hby, hml, hown, hZ, eT⟩ := B
  obtain ⟨cq, kq, qa, qb, qc⟩ := isOf hZ eT E
  obtain ⟨v, vm1, ⟨T', L', k', n'⟩, -, X', ⟨Lc, hQ, l', y', z'⟩, st⟩ := X.virtualBack hx (y := y) (z := y) hown (mvT hZ w1) (mvT hZ w2) (notFace_of_selects (args := #[]) (mvT hZ w5)) (mvT hZ w5) (mvT hZ w6) hy (backOf (W := W) hM hZ w4 w3 hf hl) qa qc (g := mkF m pc Ls (argsL.reverse ++ .ref a :: rest)) rfl (by rw [hml]; exact hsz) (Steps.refl _) (argsL := argsL) (rest := rest) (lenOf hpd hlen) rfl (by simpa using hW) (hb hby hd) (fun _ _ => ⟨has, eT, hcl, hsl⟩)
  dsimp only [Pt.U, Pt.locs, Pt.cells, Pt.slots] at X' l' y' z' st hQ
  subst l' y' z'
  exact ⟨v, T', Lc, ⟨X', hx, hby, hml, hown, hZ, rfl⟩, hQ, fun k => k.of fun t q => st.trans q⟩
theorem o_callVP {index : Nat} {y : MethodName} {C : String} {bytes : ByteArray} {maxL : Nat} {ret : Option FieldType} {fr lo : Nat} {as' : Array Value} {r : Value} {ps : List FieldType} {rt : Option FieldType}
    (B : Bx own bs ml Z p l e R s m args below meth c T h locs cells slots) (pc pc' : Nat) (hd : decode bs pc = .ok (.invokevirtual index, 3)) (hp : pc + 3 = pc')
    (w1 : (Cond.methodLink own index y).before a0 Z = true) (w2 : (Cond.declares y).before a0 Z = true) (w5 : (Cond.selects C y y).before a0 Z = true) (w6 : (Cond.instanceMethod y).before a0 Z = true) (w3 : (Cond.initialized y.cls).before a0 Z = true) (w4 : (Cond.code y bytes maxL ret).before a0 Z = true) (hy : y.cls ≠ "java/lang/invoke/MethodHandle" ∧ y.cls ≠ "java/lang/invoke/VarHandle") (E : Exa Z h a C)
    (hM : Met l Z y bytes maxL ret ({ frames := fr, cells := 0, slots := 0, locals := lo } : Room) as' h (Pu (some r) h)) (W : Nat) (argsL rest : List Value) (hpd : parseMethodDescriptor y.desc = some ⟨ps, rt⟩) (hlen : argsL.length = ps.length) (has : (.ref a :: argsL).toArray = as') {st : List Value} (hst : st = argsL.reverse ++ .ref a :: rest) (hsz : Ls.size = ml)
    (hW : (rest.map fun v => v.category).sum ≤ W) (hf : fr + 1 ≤ R.frames) (hl : W + (maxL + 11) + lo ≤ R.locals) (hcl : cells ≤ R.cells) (hsl : slots ≤ R.slots) :
    ∃ T', Bx own bs ml Z p l e R s m args below meth c T' h locs cells slots ∧
      ∀ {P : Outcome → State → Prop}, OG p.tables e below P (T'.setTop (mkF m pc' Ls (r :: rest))) → OG p.tables e below P (T.setTop (mkF m pc Ls st)) := by
  obtain ⟨v, T', L, B', ⟨rfl, rfl, hh⟩, st⟩ := o_callV B pc pc' hd hp w1 w2 w5 w6 w3 w4 hy E hM W argsL rest hpd hlen has hst hsz hW hf hl hcl hsl
  rw [hh, List.append_nil] at B'
  exact ⟨T', B', st⟩
theorem o_callNP {index : Nat} {y : MethodName} {bytes : ByteArray} {maxL : Nat} {fr lo : Nat} {as' : Array Value} {ps : List FieldType} {rt : Option FieldType}
    (B : Bx own bs ml Z p l e R s m args below meth c T h locs cells slots) (pc pc' : Nat) (hd : decode bs pc = .ok (.invokespecial index, 3)) (hp : pc + 3 = pc') (hy1 : y.name = "<init>")
    (w1 : (Cond.methodLink own index y).before a0 Z = true) (w2 : (Cond.instanceMethod y).before a0 Z = true) (w3 : (Cond.initialized y.cls).before a0 Z = true) (w4 : (Cond.code y bytes maxL none).before a0 Z = true) (hy : y.cls ≠ "java/lang/invoke/MethodHandle" ∧ y.cls ≠ "java/lang/invoke/VarHandle")
    (hM : Met l Z y bytes maxL none ({ frames := fr, cells := 0, slots := 0, locals := lo } : Room) as' h (Pu none h)) (W : Nat) (argsL rest : List Value) (hpd : parseMethodDescriptor y.desc = some ⟨ps, rt⟩) (hlen : argsL.length = ps.length) (has : (.ref a :: argsL).toArray = as') {st : List Value} (hst : st = argsL.reverse ++ .ref a :: rest) (hsz : Ls.size = ml)
    (hW : (rest.map fun v => v.category).sum ≤ W) (hf : fr + 1 ≤ R.frames) (hl : W + (maxL + 11) + lo ≤ R.locals) (hcl : cells ≤ R.cells) (hsl : slots ≤ R.slots) :
    ∃ T', Bx own bs ml Z p l e R s m args below meth c T' h locs cells slots ∧
      ∀ {P : Outcome → State → Prop}, OG p.tables e below P (T'.setTop (mkF m pc' Ls rest)) → OG p.tables e below P (T.setTop (mkF m pc Ls st)) := by
  obtain ⟨v, T', L, B', ⟨rfl, rfl, hh⟩, st⟩ := o_callN B pc pc' hd hp hy1 w1 w2 w3 w4 hy hM W argsL rest hpd hlen has hst hsz hW hf hl hcl hsl
  rw [hh, List.append_nil] at B'
  exact ⟨T', B', st⟩
end Walk2
theorem d1_0 : decode prog_39_method_3_code 0 = .ok (.lload_n 0, 1) := by decide +kernel
theorem d1_1 : decode prog_39_method_3_code 1 = .ok (.lstore 5, 2) := by decide +kernel
theorem d1_3 : decode prog_39_method_3_code 3 = .ok (.iload 4, 2) := by decide +kernel
theorem d1_5 : decode prog_39_method_3_code 5 = .ok (.iload_n 2, 1) := by decide +kernel
theorem d1_6 : decode prog_39_method_3_code 6 = .ok (.iadd, 1) := by decide +kernel
theorem d1_7 : decode prog_39_method_3_code 7 = .ok (.iconst 1, 1) := by decide +kernel
theorem d1_8 : decode prog_39_method_3_code 8 = .ok (.isub, 1) := by decide +kernel
theorem d1_9 : decode prog_39_method_3_code 9 = .ok (.istore 7, 2) := by decide +kernel
theorem d1_11 : decode prog_39_method_3_code 11 = .ok (.iload 7, 2) := by decide +kernel
theorem d1_13 : decode prog_39_method_3_code 13 = .ok (.iload 4, 2) := by decide +kernel
theorem d1_15 : decode prog_39_method_3_code 15 = .ok (.if_icmp .lt 33, 3) := by decide +kernel
theorem d1_18 : decode prog_39_method_3_code 18 = .ok (.aload_n 3, 1) := by decide +kernel
theorem d1_19 : decode prog_39_method_3_code 19 = .ok (.iload 7, 2) := by decide +kernel
theorem d1_21 : decode prog_39_method_3_code 21 = .ok (.ldc2_w 9, 3) := by decide +kernel
theorem d1_24 : decode prog_39_method_3_code 24 = .ok (.lload 5, 2) := by decide +kernel
theorem d1_26 : decode prog_39_method_3_code 26 = .ok (.ldc2_w 7, 3) := by decide +kernel
theorem d1_29 : decode prog_39_method_3_code 29 = .ok (.lrem, 1) := by decide +kernel
theorem d1_30 : decode prog_39_method_3_code 30 = .ok (.ladd, 1) := by decide +kernel
theorem d1_31 : decode prog_39_method_3_code 31 = .ok (.l2i, 1) := by decide +kernel
theorem d1_32 : decode prog_39_method_3_code 32 = .ok (.i2b, 1) := by decide +kernel
theorem d1_33 : decode prog_39_method_3_code 33 = .ok (.bastore, 1) := by decide +kernel
theorem d1_34 : decode prog_39_method_3_code 34 = .ok (.lload 5, 2) := by decide +kernel
theorem d1_36 : decode prog_39_method_3_code 36 = .ok (.ldc2_w 7, 3) := by decide +kernel
theorem d1_39 : decode prog_39_method_3_code 39 = .ok (.ldiv, 1) := by decide +kernel
theorem d1_40 : decode prog_39_method_3_code 40 = .ok (.lstore 5, 2) := by decide +kernel
theorem d1_42 : decode prog_39_method_3_code 42 = .ok (.iinc 7 (-1), 3) := by decide +kernel
theorem d1_45 : decode prog_39_method_3_code 45 = .ok (.goto (-34), 3) := by decide +kernel
theorem d1_48 : decode prog_39_method_3_code 48 = .ok (.return_, 1) := by decide +kernel
def own_dg (d : Int64) : Int32 := ((48 : Int64) + d % 10).toInt32.toInt8.toInt32
def own_G (at_ : Nat) : Nat → Int64 → (Nat → Int32) → Nat → Int32
  | 0, _, g => g
  | k + 1, d, g => own_G at_ k (d / 10) (fun j => if j = at_ + k then own_dg d else g j)
def w1_1 (x3 : Int32) (k : Nat) (d : Int64) (i : Int32) (g : Nat → Int32) : Nat → Int32 := fun j => if j = (x3.toInt.toNat + k) then ((48 : Int64) + (d % (10 : Int64))).toInt32.toInt8.toInt32 else g j
set_option maxRecDepth 65536 in
set_option maxHeartbeats 40000000 in
theorem lp {p : Program} {l : Launch} {e : Env} {R : Room} {s : State} {m : MethodId} {args : Array Value} {below : List Frame} {meth : Method} {c : Code} {Z : State} {cells slots n0 : Nat} {P : Outcome → State → Prop} (a0 : Array Value) (hw : ∀ d ∈ tables_1, d.before a0 Z = true) (x0 : Int64) (x1 : Int32) (x2 : Addr) (x3 : Int32) (ga : n0 ≤ x2) (h3 : 0 ≤ x3.toInt ∧ x3.toInt ≤ 3) : ∀ (k : Nat) (T : State) (h : Heap) (locs : List Loc) (d : Int64) (i : Int32) (g : Nat → Int32),
    Bx "com/example/bitsieve/bitsieve/model/DecimalDigits" prog_39_method_3_code 8 Z p l e R s m args below meth c T h locs cells slots → Fr n0 locs → n0 ≤ h.size → AI Z h x2 .byte 24 g → i.toInt = x3.toInt + k - 1 → k ≤ 20 →
    (∀ (T' : State) (h' : Heap) (locs' : List Loc) (i' : Int32) (d' : Int64), Bx "com/example/bitsieve/bitsieve/model/DecimalDigits" prog_39_method_3_code 8 Z p l e R s m args below meth c T' h' locs' cells slots → Fr n0 locs' → Keep h h' [x2] → AI Z h' x2 .byte 24 (own_G x3.toInt.toNat k d g) → OG p.tables e below P (T'.setTop (mkF m 48 #[.val (.long x0), .second, .val (.int x1), .val (.ref x2), .val (.int x3), .val (.long d'), .second, .val (.int i')] []))) →
    OG p.tables e below P (T.setTop (mkF m 11 #[.val (.long x0), .second, .val (.int x1), .val (.ref x2), .val (.int x3), .val (.long d), .second, .val (.int i)] [])) := by
  intro k
  induction k with
  | zero =>
    intro T h locs d i g B N hz A hi hk cont
    refine o_iload B 11 13 (v := i) d1_11 rfl rfl ?_
    refine o_iload B 13 15 (v := x3) d1_13 rfl rfl ?_
    refine o_icY B 15 48 d1_15 (XT.ii_lt_t (by rw [Int32.lt_iff_toInt_lt]; omega)) (by decide) (by decide) ?_
    exact cont T h locs i d B N (Keep.refl _ _) A
  | succ k ih =>
    intro T h locs d i g B N hz A hi hk cont
    have hx := ix_of (j := i) (k := x3.toInt.toNat + k) (by omega)
    refine o_iload B 11 13 (v := i) d1_11 rfl rfl ?_
    refine o_iload B 13 15 (v := x3) d1_13 rfl rfl ?_
    refine o_icN B 15 18 d1_15 rfl (XT.ii_lt_f (by rw [Int32.lt_iff_toInt_lt]; omega)) ?_
    refine o_aloadN B 18 19 (v := (.ref x2)) d1_18 rfl rfl rfl ?_
    refine o_iload B 19 21 (v := i) d1_19 rfl rfl ?_
    refine o_ldc2 B 21 24 d1_21 rfl (hw _ (List.mem_of_getElem? (i := 7) rfl)) ?_
    refine o_lload B 24 26 (v := d) d1_24 rfl rfl ?_
    refine o_ldc2 B 26 29 d1_26 rfl (hw _ (List.mem_of_getElem? (i := 8) rfl)) ?_
    refine o_lrem B 29 30 d1_29 rfl (by decide) ?_
    refine o_ladd B 30 31 d1_30 rfl ?_
    refine o_l2i B 31 32 d1_31 rfl ?_
    refine o_i2b B 32 33 d1_32 rfl ?_
    obtain ⟨T1, h1, L1, B1, N1, W1, Q1, c1⟩ := o_bastore B N ga 33 34 A (j := i) (x := ((48 : Int64) + (d % (10 : Int64))).toInt32.toInt8.toInt32) (x3.toInt.toNat + k) ((48 : Int64) + (d % (10 : Int64))).toInt32.toInt8.toInt32 d1_33 rfl hx.1 hx.2 (by omega) (nar_bb _) (Ls := #[.val (.long x0), .second, .val (.int x1), .val (.ref x2), .val (.int x3), .val (.long d), .second, .val (.int i)]) (rest := [])
    have A1 : AI Z h1 x2 .byte 24 (w1_1 x3 k d i g) := Q1
    refine c1 ?_
    refine o_lload B1 34 36 (v := d) d1_34 rfl rfl ?_
    refine o_ldc2 B1 36 39 d1_36 rfl (hw _ (List.mem_of_getElem? (i := 8) rfl)) ?_
    refine o_ldiv B1 39 40 d1_39 rfl (by decide) ?_
    refine o_lstore B1 40 42 (l' := #[.val (.long x0), .second, .val (.int x1), .val (.ref x2), .val (.int x3), .val (.long (d / (10 : Int64))), .second, .val (.int i)]) d1_40 rfl rfl ?_
    refine o_iinc B1 42 45 (l' := #[.val (.long x0), .second, .val (.int x1), .val (.ref x2), .val (.int x3), .val (.long (d / (10 : Int64))), .second, .val (.int (i + (-1 : Int32)))]) (-1 : Int32) d1_42 rfl (by decide) rfl rfl ?_
    refine o_goto B1 45 11 d1_45 (by decide) (by decide) ?_
    have e1 := c_iadd i (-1)
    have e2 := rng32 (i + (-1))
    rw [show (-1 : Int32).toInt = -1 by decide] at e1
    exact ih _ _ _ _ _ _ B1 N1 (Nat.le_trans (W1.size ▸ hz) (Nat.le_refl _)) A1 (by omega) (by omega) (fun T2 h2 L2 i2 d2 B2 N2 K2 A2 => cont T2 h2 L2 i2 d2 B2 N2 (Keep.trans ((Keep.refl h [x2]).wr W1 (Or.inl (List.mem_of_getElem? (i := 0) rfl))) K2 (allS (Or.inl (List.mem_of_getElem? (i := 0) rfl)) all0)) A2)
theorem own_i {x1 x3 : Int32} (h : (0 ≤ x1.toInt ∧ x1.toInt ≤ 20) ∧ 0 ≤ x3.toInt ∧ x3.toInt ≤ 3) : ((x3 + x1) - 1).toInt = x3.toInt + (x1.toInt.toNat : Nat) - 1 := by
  have a := c_iadd x3 x1
  have b := rng32 (x3 + x1)
  have c := c_isub (x3 + x1) 1
  have d := rng32 (x3 + x1 - 1)
  rw [show (1 : Int32).toInt = 1 by decide] at c
  omega
theorem pl1 : plainFor (⟨"com/example/bitsieve/bitsieve/model/DecimalDigits", "put", "(JI[BI)V"⟩ : MethodName) = true := by first | exact plainFor_of_name (by first | (simp [plainName, overriddenIn]; done) | decide +kernel) | decide +kernel
def o1_0 (g : Nat → Int32) (x0 : Int64) (x1 : Int32) (x3 : Int32) : Nat → Int32 := (own_G x3.toInt.toNat x1.toInt.toNat x0 g)
def Q1 (Z : State) (g : Nat → Int32) (x0 : Int64) (x1 : Int32) (x2 : Addr) (x3 : Int32) (h0 : Heap) (n0 : Nat) (v : Option Value) (h : Heap) (L : List Loc) : Prop := v = none ∧ Fr n0 L ∧ Keep h0 h [x2] ∧ AI Z h x2 .byte 24 (o1_0 g x0 x1 x3)
set_option maxRecDepth 65536 in
set_option maxHeartbeats 40000000 in
theorem rm1 (l : Launch) (Z : State) (a0 : Array Value) (hw : ∀ d ∈ tables_1, d.before a0 Z = true) (g : Nat → Int32) (x0 : Int64) (x1 : Int32) (x2 : Addr) (x3 : Int32) (h0 : Heap) (n0 : Nat) (hz : n0 ≤ h0.size) (A0 : AI Z h0 x2 .byte 24 g) (gw_x2 : n0 ≤ x2) (hp : (0 ≤ x1.toInt ∧ x1.toInt ≤ 20) ∧ 0 ≤ x3.toInt ∧ x3.toInt ≤ 3) :
    Met l Z (⟨"com/example/bitsieve/bitsieve/model/DecimalDigits", "put", "(JI[BI)V"⟩ : MethodName) prog_39_method_3_code 8 (none) ({ frames := 0, cells := 0, slots := 0, locals := 0 } : Room) #[(.long x0), (.int x1), (.ref x2), (.int x3)] h0 (Q1 Z g x0 x1 x2 x3 h0 n0) := by
  refine enter pl1 #[.val (.long x0), .second, .val (.int x1), .val (.ref x2), .val (.int x3), .unset, .unset, .unset] rfl ?_
  intro p e s m below meth c T B hret hlk hnm
  have N0 := Fr.nil n0
  refine o_lloadN B 0 1 (v := x0) d1_0 rfl rfl ?_
  refine o_lstore B 1 3 (l' := #[.val (.long x0), .second, .val (.int x1), .val (.ref x2), .val (.int x3), .val (.long x0), .second, .unset]) d1_1 rfl rfl ?_
  refine o_iload B 3 5 (v := x3) d1_3 rfl rfl ?_
  refine o_iloadN B 5 6 (v := x1) d1_5 rfl rfl ?_
  refine o_iadd B 6 7 d1_6 rfl ?_
  refine o_iconst B 7 8 (1 : Int32) d1_7 rfl (by decide) ?_
  refine o_isub B 8 9 d1_8 rfl ?_
  refine o_istore B 9 11 (l' := #[.val (.long x0), .second, .val (.int x1), .val (.ref x2), .val (.int x3), .val (.long x0), .second, .val (.int ((x3 + x1) - (1 : Int32)))]) d1_9 rfl rfl ?_
  refine lp a0 hw x0 x1 x2 x3 gw_x2 hp.2 x1.toInt.toNat _ _ _ _ _ _ B N0 hz A0 (own_i hp) (by omega) (fun T9 h9 L9 i9 d9 B9 N9 K9 A9 => ?_)
  refine o_retV B9 48 d1_48 hret hlk (by decide) (by decide) ⟨rfl, N9, ((Keep.refl h0 [x2]).trans K9 (allS (Or.inl (List.mem_of_getElem? (i := 0) rfl)) all0)), (by rw [show (o1_0 g x0 x1 x3) = (own_G x3.toInt.toNat x1.toInt.toNat x0 g) from rfl]; exact A9)⟩
theorem own_n {x0 : Int32} {b : Int} (h : 0 ≤ x0.toInt ∧ x0.toInt ≤ b) : x0.toInt = (x0.toInt.toNat : Nat) := by omega
theorem d4_0 : decode method_5_code 0 = .ok (.bipush 19, 2) := by decide +kernel
theorem d4_2 : decode method_5_code 2 = .ok (.newarray .long, 2) := by decide +kernel
theorem d4_4 : decode method_5_code 4 = .ok (.dup, 1) := by decide +kernel
theorem d4_5 : decode method_5_code 5 = .ok (.iconst 0, 1) := by decide +kernel
theorem d4_6 : decode method_5_code 6 = .ok (.lconst 1, 1) := by decide +kernel
theorem d4_7 : decode method_5_code 7 = .ok (.lastore, 1) := by decide +kernel
theorem d4_8 : decode method_5_code 8 = .ok (.dup, 1) := by decide +kernel
theorem d4_9 : decode method_5_code 9 = .ok (.iconst 1, 1) := by decide +kernel
theorem d4_10 : decode method_5_code 10 = .ok (.ldc2_w 32, 3) := by decide +kernel
theorem d4_13 : decode method_5_code 13 = .ok (.lastore, 1) := by decide +kernel
theorem d4_14 : decode method_5_code 14 = .ok (.dup, 1) := by decide +kernel
theorem d4_15 : decode method_5_code 15 = .ok (.iconst 2, 1) := by decide +kernel
theorem d4_16 : decode method_5_code 16 = .ok (.ldc2_w 36, 3) := by decide +kernel
theorem d4_19 : decode method_5_code 19 = .ok (.lastore, 1) := by decide +kernel
theorem d4_20 : decode method_5_code 20 = .ok (.dup, 1) := by decide +kernel
theorem d4_21 : decode method_5_code 21 = .ok (.iconst 3, 1) := by decide +kernel
theorem d4_22 : decode method_5_code 22 = .ok (.ldc2_w 38, 3) := by decide +kernel
theorem d4_25 : decode method_5_code 25 = .ok (.lastore, 1) := by decide +kernel
theorem d4_26 : decode method_5_code 26 = .ok (.dup, 1) := by decide +kernel
theorem d4_27 : decode method_5_code 27 = .ok (.iconst 4, 1) := by decide +kernel
theorem d4_28 : decode method_5_code 28 = .ok (.ldc2_w 40, 3) := by decide +kernel
theorem d4_31 : decode method_5_code 31 = .ok (.lastore, 1) := by decide +kernel
theorem d4_32 : decode method_5_code 32 = .ok (.dup, 1) := by decide +kernel
theorem d4_33 : decode method_5_code 33 = .ok (.iconst 5, 1) := by decide +kernel
theorem d4_34 : decode method_5_code 34 = .ok (.ldc2_w 42, 3) := by decide +kernel
theorem d4_37 : decode method_5_code 37 = .ok (.lastore, 1) := by decide +kernel
theorem d4_38 : decode method_5_code 38 = .ok (.dup, 1) := by decide +kernel
theorem d4_39 : decode method_5_code 39 = .ok (.bipush 6, 2) := by decide +kernel
theorem d4_41 : decode method_5_code 41 = .ok (.ldc2_w 44, 3) := by decide +kernel
theorem d4_44 : decode method_5_code 44 = .ok (.lastore, 1) := by decide +kernel
theorem d4_45 : decode method_5_code 45 = .ok (.dup, 1) := by decide +kernel
theorem d4_46 : decode method_5_code 46 = .ok (.bipush 7, 2) := by decide +kernel
theorem d4_48 : decode method_5_code 48 = .ok (.ldc2_w 46, 3) := by decide +kernel
theorem d4_51 : decode method_5_code 51 = .ok (.lastore, 1) := by decide +kernel
theorem d4_52 : decode method_5_code 52 = .ok (.dup, 1) := by decide +kernel
theorem d4_53 : decode method_5_code 53 = .ok (.bipush 8, 2) := by decide +kernel
theorem d4_55 : decode method_5_code 55 = .ok (.ldc2_w 48, 3) := by decide +kernel
theorem d4_58 : decode method_5_code 58 = .ok (.lastore, 1) := by decide +kernel
theorem d4_59 : decode method_5_code 59 = .ok (.dup, 1) := by decide +kernel
theorem d4_60 : decode method_5_code 60 = .ok (.bipush 9, 2) := by decide +kernel
theorem d4_62 : decode method_5_code 62 = .ok (.ldc2_w 50, 3) := by decide +kernel
theorem d4_65 : decode method_5_code 65 = .ok (.lastore, 1) := by decide +kernel
theorem d4_66 : decode method_5_code 66 = .ok (.dup, 1) := by decide +kernel
theorem d4_67 : decode method_5_code 67 = .ok (.bipush 10, 2) := by decide +kernel
theorem d4_69 : decode method_5_code 69 = .ok (.ldc2_w 52, 3) := by decide +kernel
theorem d4_72 : decode method_5_code 72 = .ok (.lastore, 1) := by decide +kernel
theorem d4_73 : decode method_5_code 73 = .ok (.dup, 1) := by decide +kernel
theorem d4_74 : decode method_5_code 74 = .ok (.bipush 11, 2) := by decide +kernel
theorem d4_76 : decode method_5_code 76 = .ok (.ldc2_w 54, 3) := by decide +kernel
theorem d4_79 : decode method_5_code 79 = .ok (.lastore, 1) := by decide +kernel
theorem d4_80 : decode method_5_code 80 = .ok (.dup, 1) := by decide +kernel
theorem d4_81 : decode method_5_code 81 = .ok (.bipush 12, 2) := by decide +kernel
theorem d4_83 : decode method_5_code 83 = .ok (.ldc2_w 56, 3) := by decide +kernel
theorem d4_86 : decode method_5_code 86 = .ok (.lastore, 1) := by decide +kernel
theorem d4_87 : decode method_5_code 87 = .ok (.dup, 1) := by decide +kernel
theorem d4_88 : decode method_5_code 88 = .ok (.bipush 13, 2) := by decide +kernel
theorem d4_90 : decode method_5_code 90 = .ok (.ldc2_w 58, 3) := by decide +kernel
theorem d4_93 : decode method_5_code 93 = .ok (.lastore, 1) := by decide +kernel
theorem d4_94 : decode method_5_code 94 = .ok (.dup, 1) := by decide +kernel
theorem d4_95 : decode method_5_code 95 = .ok (.bipush 14, 2) := by decide +kernel
theorem d4_97 : decode method_5_code 97 = .ok (.ldc2_w 60, 3) := by decide +kernel
theorem d4_100 : decode method_5_code 100 = .ok (.lastore, 1) := by decide +kernel
theorem d4_101 : decode method_5_code 101 = .ok (.dup, 1) := by decide +kernel
theorem d4_102 : decode method_5_code 102 = .ok (.bipush 15, 2) := by decide +kernel
theorem d4_104 : decode method_5_code 104 = .ok (.ldc2_w 62, 3) := by decide +kernel
theorem d4_107 : decode method_5_code 107 = .ok (.lastore, 1) := by decide +kernel
theorem d4_108 : decode method_5_code 108 = .ok (.dup, 1) := by decide +kernel
theorem d4_109 : decode method_5_code 109 = .ok (.bipush 16, 2) := by decide +kernel
theorem d4_111 : decode method_5_code 111 = .ok (.ldc2_w 64, 3) := by decide +kernel
theorem d4_114 : decode method_5_code 114 = .ok (.lastore, 1) := by decide +kernel
theorem d4_115 : decode method_5_code 115 = .ok (.dup, 1) := by decide +kernel
theorem d4_116 : decode method_5_code 116 = .ok (.bipush 17, 2) := by decide +kernel
theorem d4_118 : decode method_5_code 118 = .ok (.ldc2_w 66, 3) := by decide +kernel
theorem d4_121 : decode method_5_code 121 = .ok (.lastore, 1) := by decide +kernel
theorem d4_122 : decode method_5_code 122 = .ok (.dup, 1) := by decide +kernel
theorem d4_123 : decode method_5_code 123 = .ok (.bipush 18, 2) := by decide +kernel
theorem d4_125 : decode method_5_code 125 = .ok (.ldc2_w 68, 3) := by decide +kernel
theorem d4_128 : decode method_5_code 128 = .ok (.lastore, 1) := by decide +kernel
theorem d4_129 : decode method_5_code 129 = .ok (.astore_n 1, 1) := by decide +kernel
theorem d4_130 : decode method_5_code 130 = .ok (.aload_n 1, 1) := by decide +kernel
theorem d4_131 : decode method_5_code 131 = .ok (.iload_n 0, 1) := by decide +kernel
theorem d4_132 : decode method_5_code 132 = .ok (.laload, 1) := by decide +kernel
theorem d4_133 : decode method_5_code 133 = .ok (.lreturn, 1) := by decide +kernel
theorem pl4 : plainFor (⟨"com/example/bitsieve/bitsieve/model/DecimalDigitsPutPinLaw", "pow10", "(I)J"⟩ : MethodName) = true := by first | exact plainFor_of_name (by first | (simp [plainName, overriddenIn]; done) | decide +kernel) | decide +kernel
def w4_1 (x0 : Int32) : Nat → Int64 := fun j => if j = 0 then (1 : Int64) else (fun _ => 0) j
def w4_2 (x0 : Int32) : Nat → Int64 := fun j => if j = 1 then (10 : Int64) else (w4_1 x0) j
def w4_3 (x0 : Int32) : Nat → Int64 := fun j => if j = 2 then (100 : Int64) else (w4_2 x0) j
def w4_4 (x0 : Int32) : Nat → Int64 := fun j => if j = 3 then (1000 : Int64) else (w4_3 x0) j
def w4_5 (x0 : Int32) : Nat → Int64 := fun j => if j = 4 then (10000 : Int64) else (w4_4 x0) j
def w4_6 (x0 : Int32) : Nat → Int64 := fun j => if j = 5 then (100000 : Int64) else (w4_5 x0) j
def w4_7 (x0 : Int32) : Nat → Int64 := fun j => if j = 6 then (1000000 : Int64) else (w4_6 x0) j
def w4_8 (x0 : Int32) : Nat → Int64 := fun j => if j = 7 then (10000000 : Int64) else (w4_7 x0) j
def w4_9 (x0 : Int32) : Nat → Int64 := fun j => if j = 8 then (100000000 : Int64) else (w4_8 x0) j
def w4_10 (x0 : Int32) : Nat → Int64 := fun j => if j = 9 then (1000000000 : Int64) else (w4_9 x0) j
def w4_11 (x0 : Int32) : Nat → Int64 := fun j => if j = 10 then (10000000000 : Int64) else (w4_10 x0) j
def w4_12 (x0 : Int32) : Nat → Int64 := fun j => if j = 11 then (100000000000 : Int64) else (w4_11 x0) j
def w4_13 (x0 : Int32) : Nat → Int64 := fun j => if j = 12 then (1000000000000 : Int64) else (w4_12 x0) j
def w4_14 (x0 : Int32) : Nat → Int64 := fun j => if j = 13 then (10000000000000 : Int64) else (w4_13 x0) j
def w4_15 (x0 : Int32) : Nat → Int64 := fun j => if j = 14 then (100000000000000 : Int64) else (w4_14 x0) j
def w4_16 (x0 : Int32) : Nat → Int64 := fun j => if j = 15 then (1000000000000000 : Int64) else (w4_15 x0) j
def w4_17 (x0 : Int32) : Nat → Int64 := fun j => if j = 16 then (10000000000000000 : Int64) else (w4_16 x0) j
def w4_18 (x0 : Int32) : Nat → Int64 := fun j => if j = 17 then (100000000000000000 : Int64) else (w4_17 x0) j
def w4_19 (x0 : Int32) : Nat → Int64 := fun j => if j = 18 then (1000000000000000000 : Int64) else (w4_18 x0) j
def f4 (x0 : Int32) : Int64 := ((w4_19 x0) x0.toInt.toNat)
def Q4 (Z : State) (x0 : Int32) (h0 : Heap) (n0 : Nat) (v : Option Value) (h : Heap) (L : List Loc) : Prop := v = some (.long (f4 x0)) ∧ Fr n0 L ∧ Keep h0 h []
set_option maxRecDepth 65536 in
set_option maxHeartbeats 40000000 in
theorem rm4 (l : Launch) (Z : State) (a0 : Array Value) (hw : ∀ d ∈ tables_1, d.before a0 Z = true) (x0 : Int32) (h0 : Heap) (n0 : Nat) (hz : n0 ≤ h0.size) (hk : 0 ≤ x0.toInt ∧ x0.toInt ≤ 18) :
    Met l Z (⟨"com/example/bitsieve/bitsieve/model/DecimalDigitsPutPinLaw", "pow10", "(I)J"⟩ : MethodName) method_5_code 2 (some .long) ({ frames := 0, cells := 1, slots := 19, locals := 0 } : Room) #[(.int x0)] h0 (Q4 Z x0 h0 n0) := by
  refine enter pl4 #[.val (.int x0), .unset] rfl ?_
  intro p e s m below meth c T B hret hlk hnm
  have N0 := Fr.nil n0
  refine o_bipush B 0 2 (19 : Int32) d4_0 rfl (by decide) ?_
  obtain ⟨a1, T1, h1, z1, B1, E1, A1, c1⟩ := o_newJ B 2 4 (z := (19 : Int32)) 19 19 (hw _ (List.mem_of_getElem? (i := 19) rfl)) d4_2 rfl rfl (by decide) (by decide) (by decide) (by decide) (by decide) (by decide) (Ls := #[.val (.int x0), .unset]) (rest := [])
  have g1 : n0 ≤ a1 := by rw [z1]; exact hz
  have s1 : n0 ≤ h1.size := Nat.le_trans hz E1.1
  have y1 : h0.size ≤ a1 := by rw [z1]; exact (Keep.refl h0 []).1
  refine c1 ?_
  refine o_dup B1 4 5 d4_4 rfl rfl ?_
  refine o_iconst B1 5 6 (0 : Int32) d4_5 rfl (by decide) ?_
  refine o_lconst B1 6 7 (1 : Int64) d4_6 rfl (by decide) ?_
  obtain ⟨T2, h2, L2, B2, N2, W2, Q2, c2⟩ := o_lastore B1 N0 g1 7 8 A1 (j := (0 : Int32)) (x := (1 : Int64)) 0 (1 : Int64) d4_7 rfl (by decide) (by decide) (by decide) rfl (Ls := #[.val (.int x0), .unset]) (rest := [(.ref a1)])
  have A2 : AJ Z h2 a1 19 (w4_1 x0) := Q2
  refine c2 ?_
  refine o_dup B2 8 9 d4_8 rfl rfl ?_
  refine o_iconst B2 9 10 (1 : Int32) d4_9 rfl (by decide) ?_
  refine o_ldc2 B2 10 13 d4_10 rfl (hw _ (List.mem_of_getElem? (i := 20) rfl)) ?_
  obtain ⟨T3, h3, L3, B3, N3, W3, Q3, c3⟩ := o_lastore B2 N2 g1 13 14 A2 (j := (1 : Int32)) (x := (10 : Int64)) 1 (10 : Int64) d4_13 rfl (by decide) (by decide) (by decide) rfl (Ls := #[.val (.int x0), .unset]) (rest := [(.ref a1)])
  have A3 : AJ Z h3 a1 19 (w4_2 x0) := Q3
  refine c3 ?_
  refine o_dup B3 14 15 d4_14 rfl rfl ?_
  refine o_iconst B3 15 16 (2 : Int32) d4_15 rfl (by decide) ?_
  refine o_ldc2 B3 16 19 d4_16 rfl (hw _ (List.mem_of_getElem? (i := 21) rfl)) ?_
  obtain ⟨T4, h4, L4, B4, N4, W4, Q4, c4⟩ := o_lastore B3 N3 g1 19 20 A3 (j := (2 : Int32)) (x := (100 : Int64)) 2 (100 : Int64) d4_19 rfl (by decide) (by decide) (by decide) rfl (Ls := #[.val (.int x0), .unset]) (rest := [(.ref a1)])
  have A4 : AJ Z h4 a1 19 (w4_3 x0) := Q4
  refine c4 ?_
  refine o_dup B4 20 21 d4_20 rfl rfl ?_
  refine o_iconst B4 21 22 (3 : Int32) d4_21 rfl (by decide) ?_
  refine o_ldc2 B4 22 25 d4_22 rfl (hw _ (List.mem_of_getElem? (i := 22) rfl)) ?_
  obtain ⟨T5, h5, L5, B5, N5, W5, Q5, c5⟩ := o_lastore B4 N4 g1 25 26 A4 (j := (3 : Int32)) (x := (1000 : Int64)) 3 (1000 : Int64) d4_25 rfl (by decide) (by decide) (by decide) rfl (Ls := #[.val (.int x0), .unset]) (rest := [(.ref a1)])
  have A5 : AJ Z h5 a1 19 (w4_4 x0) := Q5
  refine c5 ?_
  refine o_dup B5 26 27 d4_26 rfl rfl ?_
  refine o_iconst B5 27 28 (4 : Int32) d4_27 rfl (by decide) ?_
  refine o_ldc2 B5 28 31 d4_28 rfl (hw _ (List.mem_of_getElem? (i := 23) rfl)) ?_
  obtain ⟨T6, h6, L6, B6, N6, W6, Q6, c6⟩ := o_lastore B5 N5 g1 31 32 A5 (j := (4 : Int32)) (x := (10000 : Int64)) 4 (10000 : Int64) d4_31 rfl (by decide) (by decide) (by decide) rfl (Ls := #[.val (.int x0), .unset]) (rest := [(.ref a1)])
  have A6 : AJ Z h6 a1 19 (w4_5 x0) := Q6
  refine c6 ?_
  refine o_dup B6 32 33 d4_32 rfl rfl ?_
  refine o_iconst B6 33 34 (5 : Int32) d4_33 rfl (by decide) ?_
  refine o_ldc2 B6 34 37 d4_34 rfl (hw _ (List.mem_of_getElem? (i := 24) rfl)) ?_
  obtain ⟨T7, h7, L7, B7, N7, W7, Q7, c7⟩ := o_lastore B6 N6 g1 37 38 A6 (j := (5 : Int32)) (x := (100000 : Int64)) 5 (100000 : Int64) d4_37 rfl (by decide) (by decide) (by decide) rfl (Ls := #[.val (.int x0), .unset]) (rest := [(.ref a1)])
  have A7 : AJ Z h7 a1 19 (w4_6 x0) := Q7
  refine c7 ?_
  refine o_dup B7 38 39 d4_38 rfl rfl ?_
  refine o_bipush B7 39 41 (6 : Int32) d4_39 rfl (by decide) ?_
  refine o_ldc2 B7 41 44 d4_41 rfl (hw _ (List.mem_of_getElem? (i := 25) rfl)) ?_
  obtain ⟨T8, h8, L8, B8, N8, W8, Q8, c8⟩ := o_lastore B7 N7 g1 44 45 A7 (j := (6 : Int32)) (x := (1000000 : Int64)) 6 (1000000 : Int64) d4_44 rfl (by decide) (by decide) (by decide) rfl (Ls := #[.val (.int x0), .unset]) (rest := [(.ref a1)])
  have A8 : AJ Z h8 a1 19 (w4_7 x0) := Q8
  refine c8 ?_
  refine o_dup B8 45 46 d4_45 rfl rfl ?_
  refine o_bipush B8 46 48 (7 : Int32) d4_46 rfl (by decide) ?_
  refine o_ldc2 B8 48 51 d4_48 rfl (hw _ (List.mem_of_getElem? (i := 26) rfl)) ?_
  obtain ⟨T9, h9, L9, B9, N9, W9, Q9, c9⟩ := o_lastore B8 N8 g1 51 52 A8 (j := (7 : Int32)) (x := (10000000 : Int64)) 7 (10000000 : Int64) d4_51 rfl (by decide) (by decide) (by decide) rfl (Ls := #[.val (.int x0), .unset]) (rest := [(.ref a1)])
  have A9 : AJ Z h9 a1 19 (w4_8 x0) := Q9
  refine c9 ?_
  refine o_dup B9 52 53 d4_52 rfl rfl ?_
  refine o_bipush B9 53 55 (8 : Int32) d4_53 rfl (by decide) ?_
  refine o_ldc2 B9 55 58 d4_55 rfl (hw _ (List.mem_of_getElem? (i := 27) rfl)) ?_
  obtain ⟨T10, h10, L10, B10, N10, W10, Q10, c10⟩ := o_lastore B9 N9 g1 58 59 A9 (j := (8 : Int32)) (x := (100000000 : Int64)) 8 (100000000 : Int64) d4_58 rfl (by decide) (by decide) (by decide) rfl (Ls := #[.val (.int x0), .unset]) (rest := [(.ref a1)])
  have A10 : AJ Z h10 a1 19 (w4_9 x0) := Q10
  refine c10 ?_
  refine o_dup B10 59 60 d4_59 rfl rfl ?_
  refine o_bipush B10 60 62 (9 : Int32) d4_60 rfl (by decide) ?_
  refine o_ldc2 B10 62 65 d4_62 rfl (hw _ (List.mem_of_getElem? (i := 28) rfl)) ?_
  obtain ⟨T11, h11, L11, B11, N11, W11, Q11, c11⟩ := o_lastore B10 N10 g1 65 66 A10 (j := (9 : Int32)) (x := (1000000000 : Int64)) 9 (1000000000 : Int64) d4_65 rfl (by decide) (by decide) (by decide) rfl (Ls := #[.val (.int x0), .unset]) (rest := [(.ref a1)])
  have A11 : AJ Z h11 a1 19 (w4_10 x0) := Q11
  refine c11 ?_
  refine o_dup B11 66 67 d4_66 rfl rfl ?_
  refine o_bipush B11 67 69 (10 : Int32) d4_67 rfl (by decide) ?_
  refine o_ldc2 B11 69 72 d4_69 rfl (hw _ (List.mem_of_getElem? (i := 29) rfl)) ?_
  obtain ⟨T12, h12, L12, B12, N12, W12, Q12, c12⟩ := o_lastore B11 N11 g1 72 73 A11 (j := (10 : Int32)) (x := (10000000000 : Int64)) 10 (10000000000 : Int64) d4_72 rfl (by decide) (by decide) (by decide) rfl (Ls := #[.val (.int x0), .unset]) (rest := [(.ref a1)])
  have A12 : AJ Z h12 a1 19 (w4_11 x0) := Q12
  refine c12 ?_
  refine o_dup B12 73 74 d4_73 rfl rfl ?_
  refine o_bipush B12 74 76 (11 : Int32) d4_74 rfl (by decide) ?_
  refine o_ldc2 B12 76 79 d4_76 rfl (hw _ (List.mem_of_getElem? (i := 30) rfl)) ?_
  obtain ⟨T13, h13, L13, B13, N13, W13, Q13, c13⟩ := o_lastore B12 N12 g1 79 80 A12 (j := (11 : Int32)) (x := (100000000000 : Int64)) 11 (100000000000 : Int64) d4_79 rfl (by decide) (by decide) (by decide) rfl (Ls := #[.val (.int x0), .unset]) (rest := [(.ref a1)])
  have A13 : AJ Z h13 a1 19 (w4_12 x0) := Q13
  refine c13 ?_
  refine o_dup B13 80 81 d4_80 rfl rfl ?_
  refine o_bipush B13 81 83 (12 : Int32) d4_81 rfl (by decide) ?_
  refine o_ldc2 B13 83 86 d4_83 rfl (hw _ (List.mem_of_getElem? (i := 31) rfl)) ?_
  obtain ⟨T14, h14, L14, B14, N14, W14, Q14, c14⟩ := o_lastore B13 N13 g1 86 87 A13 (j := (12 : Int32)) (x := (1000000000000 : Int64)) 12 (1000000000000 : Int64) d4_86 rfl (by decide) (by decide) (by decide) rfl (Ls := #[.val (.int x0), .unset]) (rest := [(.ref a1)])
  have A14 : AJ Z h14 a1 19 (w4_13 x0) := Q14
  refine c14 ?_
  refine o_dup B14 87 88 d4_87 rfl rfl ?_
  refine o_bipush B14 88 90 (13 : Int32) d4_88 rfl (by decide) ?_
  refine o_ldc2 B14 90 93 d4_90 rfl (hw _ (List.mem_of_getElem? (i := 32) rfl)) ?_
  obtain ⟨T15, h15, L15, B15, N15, W15, Q15, c15⟩ := o_lastore B14 N14 g1 93 94 A14 (j := (13 : Int32)) (x := (10000000000000 : Int64)) 13 (10000000000000 : Int64) d4_93 rfl (by decide) (by decide) (by decide) rfl (Ls := #[.val (.int x0), .unset]) (rest := [(.ref a1)])
  have A15 : AJ Z h15 a1 19 (w4_14 x0) := Q15
  refine c15 ?_
  refine o_dup B15 94 95 d4_94 rfl rfl ?_
  refine o_bipush B15 95 97 (14 : Int32) d4_95 rfl (by decide) ?_
  refine o_ldc2 B15 97 100 d4_97 rfl (hw _ (List.mem_of_getElem? (i := 33) rfl)) ?_
  obtain ⟨T16, h16, L16, B16, N16, W16, Q16, c16⟩ := o_lastore B15 N15 g1 100 101 A15 (j := (14 : Int32)) (x := (100000000000000 : Int64)) 14 (100000000000000 : Int64) d4_100 rfl (by decide) (by decide) (by decide) rfl (Ls := #[.val (.int x0), .unset]) (rest := [(.ref a1)])
  have A16 : AJ Z h16 a1 19 (w4_15 x0) := Q16
  refine c16 ?_
  refine o_dup B16 101 102 d4_101 rfl rfl ?_
  refine o_bipush B16 102 104 (15 : Int32) d4_102 rfl (by decide) ?_
  refine o_ldc2 B16 104 107 d4_104 rfl (hw _ (List.mem_of_getElem? (i := 34) rfl)) ?_
  obtain ⟨T17, h17, L17, B17, N17, W17, Q17, c17⟩ := o_lastore B16 N16 g1 107 108 A16 (j := (15 : Int32)) (x := (1000000000000000 : Int64)) 15 (1000000000000000 : Int64) d4_107 rfl (by decide) (by decide) (by decide) rfl (Ls := #[.val (.int x0), .unset]) (rest := [(.ref a1)])
  have A17 : AJ Z h17 a1 19 (w4_16 x0) := Q17
  refine c17 ?_
  refine o_dup B17 108 109 d4_108 rfl rfl ?_
  refine o_bipush B17 109 111 (16 : Int32) d4_109 rfl (by decide) ?_
  refine o_ldc2 B17 111 114 d4_111 rfl (hw _ (List.mem_of_getElem? (i := 35) rfl)) ?_
  obtain ⟨T18, h18, L18, B18, N18, W18, Q18, c18⟩ := o_lastore B17 N17 g1 114 115 A17 (j := (16 : Int32)) (x := (10000000000000000 : Int64)) 16 (10000000000000000 : Int64) d4_114 rfl (by decide) (by decide) (by decide) rfl (Ls := #[.val (.int x0), .unset]) (rest := [(.ref a1)])
  have A18 : AJ Z h18 a1 19 (w4_17 x0) := Q18
  refine c18 ?_
  refine o_dup B18 115 116 d4_115 rfl rfl ?_
  refine o_bipush B18 116 118 (17 : Int32) d4_116 rfl (by decide) ?_
  refine o_ldc2 B18 118 121 d4_118 rfl (hw _ (List.mem_of_getElem? (i := 36) rfl)) ?_
  obtain ⟨T19, h19, L19, B19, N19, W19, Q19, c19⟩ := o_lastore B18 N18 g1 121 122 A18 (j := (17 : Int32)) (x := (100000000000000000 : Int64)) 17 (100000000000000000 : Int64) d4_121 rfl (by decide) (by decide) (by decide) rfl (Ls := #[.val (.int x0), .unset]) (rest := [(.ref a1)])
  have A19 : AJ Z h19 a1 19 (w4_18 x0) := Q19
  refine c19 ?_
  refine o_dup B19 122 123 d4_122 rfl rfl ?_
  refine o_bipush B19 123 125 (18 : Int32) d4_123 rfl (by decide) ?_
  refine o_ldc2 B19 125 128 d4_125 rfl (hw _ (List.mem_of_getElem? (i := 37) rfl)) ?_
  obtain ⟨T20, h20, L20, B20, N20, W20, Q20, c20⟩ := o_lastore B19 N19 g1 128 129 A19 (j := (18 : Int32)) (x := (1000000000000000000 : Int64)) 18 (1000000000000000000 : Int64) d4_128 rfl (by decide) (by decide) (by decide) rfl (Ls := #[.val (.int x0), .unset]) (rest := [(.ref a1)])
  have A20 : AJ Z h20 a1 19 (w4_19 x0) := Q20
  refine c20 ?_
  refine o_astoreN B20 129 130 (l' := #[.val (.int x0), .val (.ref a1)]) d4_129 rfl rfl rfl ?_
  refine o_aloadN B20 130 131 (v := (.ref a1)) d4_130 rfl rfl rfl ?_
  refine o_iloadN B20 131 132 (v := x0) d4_131 rfl rfl ?_
  refine o_laload B20 132 133 A20 x0.toInt.toNat ((w4_19 x0) x0.toInt.toNat) d4_132 rfl (ix_of (own_n hk)).1 (ix_of (own_n hk)).2 (by omega) rfl ?_
  refine o_retL B20 133 d4_133 hret hlk (by decide) (by decide) ⟨(congrArg (fun z => some (Value.long z)) (show f4 x0 = ((w4_19 x0) x0.toInt.toNat) from rfl)).symm, N20, (((((((((((((((((((((Keep.refl h0 []).ext E1).wr W2 (Or.inr y1)).wr W3 (Or.inr y1)).wr W4 (Or.inr y1)).wr W5 (Or.inr y1)).wr W6 (Or.inr y1)).wr W7 (Or.inr y1)).wr W8 (Or.inr y1)).wr W9 (Or.inr y1)).wr W10 (Or.inr y1)).wr W11 (Or.inr y1)).wr W12 (Or.inr y1)).wr W13 (Or.inr y1)).wr W14 (Or.inr y1)).wr W15 (Or.inr y1)).wr W16 (Or.inr y1)).wr W17 (Or.inr y1)).wr W18 (Or.inr y1)).wr W19 (Or.inr y1)).wr W20 (Or.inr y1))⟩
theorem own_p10 : ∀ n : Fin 19, (w4_19 0 n.val).toInt = 10 ^ n.val := by decide +kernel
theorem own_pw (x0 : Int32) (h : 0 ≤ x0.toInt ∧ x0.toInt ≤ 18) : (f4 x0).toInt = 10 ^ x0.toInt.toNat := own_p10 ⟨x0.toInt.toNat, by omega⟩
theorem own_pnz {x0 : Int32} (h : 0 ≤ x0.toInt ∧ x0.toInt ≤ 18) : f4 x0 ≠ 0 := by
  intro e
  have q := own_pw x0 h
  rw [e] at q
  have : (0 : Int) < 10 ^ x0.toInt.toNat := Int.pow_pos (by decide)
  rw [Int64.toInt_zero] at q
  omega
def Eb (x0 x2 x3 : Int32) : Prop := (0 ≤ x0.toInt ∧ x0.toInt < 24) ∧ (0 ≤ x2.toInt ∧ x2.toInt ≤ 20) ∧ 0 ≤ x3.toInt ∧ x3.toInt ≤ 3
theorem own_kv {x0 x2 x3 : Int32} (hb : Eb x0 x2 x3) : ((x3 + x2 - 1) - x0).toInt = x3.toInt + x2.toInt - 1 - x0.toInt ∧ (x3 + x2).toInt = x3.toInt + x2.toInt := by
  unfold Eb at hb
  have a := c_iadd x3 x2
  have b := rng32 (x3 + x2)
  have c := c_isub (x3 + x2) 1
  have d := rng32 (x3 + x2 - 1)
  have e := c_isub (x3 + x2 - 1) x0
  have f := rng32 (x3 + x2 - 1 - x0)
  rw [show (1 : Int32).toInt = 1 by decide] at c
  omega
theorem own_kk {x0 x2 x3 : Int32} (hb : Eb x0 x2 x3) (k1 : ¬ x0 < x3) (k2 : x0 < x3 + x2) (k3 : ((x3 + x2) - 1) - x0 < 19) : 0 ≤ (((x3 + x2) - 1) - x0).toInt ∧ (((x3 + x2) - 1) - x0).toInt ≤ 18 := by
  have q := own_kv hb
  rw [Int32.lt_iff_toInt_lt] at k1 k2 k3
  rw [show (19 : Int32).toInt = 19 by decide] at k3
  omega
theorem d3_0 : decode method_4_code 0 = .ok (.iload_n 0, 1) := by decide +kernel
theorem d3_1 : decode method_4_code 1 = .ok (.iload 4, 2) := by decide +kernel
theorem d3_3 : decode method_4_code 3 = .ok (.if_icmp .lt 11, 3) := by decide +kernel
theorem d3_6 : decode method_4_code 6 = .ok (.iload_n 0, 1) := by decide +kernel
theorem d3_7 : decode method_4_code 7 = .ok (.iload 4, 2) := by decide +kernel
theorem d3_9 : decode method_4_code 9 = .ok (.iload_n 3, 1) := by decide +kernel
theorem d3_10 : decode method_4_code 10 = .ok (.iadd, 1) := by decide +kernel
theorem d3_11 : decode method_4_code 11 = .ok (.if_icmp .lt 5, 3) := by decide +kernel
theorem d3_14 : decode method_4_code 14 = .ok (.iconst 0, 1) := by decide +kernel
theorem d3_15 : decode method_4_code 15 = .ok (.ireturn, 1) := by decide +kernel
theorem d3_16 : decode method_4_code 16 = .ok (.iload 4, 2) := by decide +kernel
theorem d3_18 : decode method_4_code 18 = .ok (.iload_n 3, 1) := by decide +kernel
theorem d3_19 : decode method_4_code 19 = .ok (.iadd, 1) := by decide +kernel
theorem d3_20 : decode method_4_code 20 = .ok (.iconst 1, 1) := by decide +kernel
theorem d3_21 : decode method_4_code 21 = .ok (.isub, 1) := by decide +kernel
theorem d3_22 : decode method_4_code 22 = .ok (.iload_n 0, 1) := by decide +kernel
theorem d3_23 : decode method_4_code 23 = .ok (.isub, 1) := by decide +kernel
theorem d3_24 : decode method_4_code 24 = .ok (.istore 5, 2) := by decide +kernel
theorem d3_26 : decode method_4_code 26 = .ok (.iload 5, 2) := by decide +kernel
theorem d3_28 : decode method_4_code 28 = .ok (.bipush 19, 2) := by decide +kernel
theorem d3_30 : decode method_4_code 30 = .ok (.if_icmp .lt 7, 3) := by decide +kernel
theorem d3_33 : decode method_4_code 33 = .ok (.lconst 0, 1) := by decide +kernel
theorem d3_34 : decode method_4_code 34 = .ok (.goto 14, 3) := by decide +kernel
theorem d3_37 : decode method_4_code 37 = .ok (.lload_n 1, 1) := by decide +kernel
theorem d3_38 : decode method_4_code 38 = .ok (.iload 5, 2) := by decide +kernel
theorem d3_40 : decode method_4_code 40 = .ok (.invokestatic 28, 3) := by decide +kernel
theorem d3_43 : decode method_4_code 43 = .ok (.ldiv, 1) := by decide +kernel
theorem d3_44 : decode method_4_code 44 = .ok (.ldc2_w 32, 3) := by decide +kernel
theorem d3_47 : decode method_4_code 47 = .ok (.lrem, 1) := by decide +kernel
theorem d3_48 : decode method_4_code 48 = .ok (.lstore 6, 2) := by decide +kernel
theorem d3_50 : decode method_4_code 50 = .ok (.ldc2_w 34, 3) := by decide +kernel
theorem d3_53 : decode method_4_code 53 = .ok (.lload 6, 2) := by decide +kernel
theorem d3_55 : decode method_4_code 55 = .ok (.ladd, 1) := by decide +kernel
theorem d3_56 : decode method_4_code 56 = .ok (.l2i, 1) := by decide +kernel
theorem d3_57 : decode method_4_code 57 = .ok (.i2b, 1) := by decide +kernel
theorem d3_58 : decode method_4_code 58 = .ok (.ireturn, 1) := by decide +kernel
theorem pl3 : plainFor (⟨"com/example/bitsieve/bitsieve/model/DecimalDigitsPutPinLaw", "expect", "(IJII)B"⟩ : MethodName) = true := by first | exact plainFor_of_name (by first | (simp [plainName, overriddenIn]; done) | decide +kernel) | decide +kernel
theorem pd__I_J : parseMethodDescriptor "(I)J" = some ⟨[.int], some .long⟩ := by decide +kernel
def q3_1 (x0 : Int32) (x1 : Int64) (x2 : Int32) (x3 : Int32) : Int64 := ((x1 / (f4 (((x3 + x2) - (1 : Int32)) - x0))) % (10 : Int64))
def f3 (x0 : Int32) (x1 : Int64) (x2 : Int32) (x3 : Int32) : Int32 := (if x0 < x3 then (0 : Int32) else (if x0 < (x3 + x2) then (if (((x3 + x2) - (1 : Int32)) - x0) < (19 : Int32) then ((48 : Int64) + (q3_1 x0 x1 x2 x3)).toInt32.toInt8.toInt32 else (48 : Int32)) else (0 : Int32)))
def Q3 (Z : State) (x0 : Int32) (x1 : Int64) (x2 : Int32) (x3 : Int32) (h0 : Heap) (n0 : Nat) (v : Option Value) (h : Heap) (L : List Loc) : Prop := v = some (.int (f3 x0 x1 x2 x3)) ∧ Fr n0 L ∧ Keep h0 h []
set_option maxRecDepth 65536 in
set_option maxHeartbeats 40000000 in
theorem rm3 (l : Launch) (Z : State) (a0 : Array Value) (hw : ∀ d ∈ tables_1, d.before a0 Z = true) (x0 : Int32) (x1 : Int64) (x2 : Int32) (x3 : Int32) (h0 : Heap) (n0 : Nat) (hz : n0 ≤ h0.size) (hb : Eb x0 x2 x3) :
    Met l Z (⟨"com/example/bitsieve/bitsieve/model/DecimalDigitsPutPinLaw", "expect", "(IJII)B"⟩ : MethodName) method_4_code 8 (some .byte) ({ frames := 1, cells := 1, slots := 19, locals := 15 } : Room) #[(.int x0), (.long x1), (.int x2), (.int x3)] h0 (Q3 Z x0 x1 x2 x3 h0 n0) := by
  refine enter pl3 #[.val (.int x0), .val (.long x1), .second, .val (.int x2), .val (.int x3), .unset, .unset, .unset] rfl ?_
  intro p e s m below meth c T B hret hlk hnm
  have N0 := Fr.nil n0
  refine o_iloadN B 0 1 (v := x0) d3_0 rfl rfl ?_
  refine o_iload B 1 3 (v := x3) d3_1 rfl rfl ?_
  by_cases k1 : x0 < x3
  · refine o_icY B 3 14 d3_3 (XT.ii_lt_t k1) (by decide) (by decide) ?_
    refine o_iconst B 14 15 (0 : Int32) d3_14 rfl (by decide) ?_
    refine o_retZ (t := .byte) B 15 d3_15 hret hlk (by simp) (by decide) (by decide) ⟨(congrArg (fun z => some (Value.int z)) ((show nar .byte (0 : Int32) = (0 : Int32) from rfl).trans (show f3 x0 x1 x2 x3 = (0 : Int32) from (if_pos k1).trans (rfl)).symm)), N0, (Keep.refl h0 [])⟩
  · refine o_icN B 3 6 d3_3 rfl (XT.ii_lt_f k1) ?_
    refine o_iloadN B 6 7 (v := x0) d3_6 rfl rfl ?_
    refine o_iload B 7 9 (v := x3) d3_7 rfl rfl ?_
    refine o_iloadN B 9 10 (v := x2) d3_9 rfl rfl ?_
    refine o_iadd B 10 11 d3_10 rfl ?_
    by_cases k2 : x0 < (x3 + x2)
    · refine o_icY B 11 16 d3_11 (XT.ii_lt_t k2) (by decide) (by decide) ?_
      refine o_iload B 16 18 (v := x3) d3_16 rfl rfl ?_
      refine o_iloadN B 18 19 (v := x2) d3_18 rfl rfl ?_
      refine o_iadd B 19 20 d3_19 rfl ?_
      refine o_iconst B 20 21 (1 : Int32) d3_20 rfl (by decide) ?_
      refine o_isub B 21 22 d3_21 rfl ?_
      refine o_iloadN B 22 23 (v := x0) d3_22 rfl rfl ?_
      refine o_isub B 23 24 d3_23 rfl ?_
      refine o_istore B 24 26 (l' := #[.val (.int x0), .val (.long x1), .second, .val (.int x2), .val (.int x3), .val (.int (((x3 + x2) - (1 : Int32)) - x0)), .unset, .unset]) d3_24 rfl rfl ?_
      refine o_iload B 26 28 (v := (((x3 + x2) - (1 : Int32)) - x0)) d3_26 rfl rfl ?_
      refine o_bipush B 28 30 (19 : Int32) d3_28 rfl (by decide) ?_
      by_cases k3 : (((x3 + x2) - (1 : Int32)) - x0) < (19 : Int32)
      · refine o_icY B 30 37 d3_30 (XT.ii_lt_t k3) (by decide) (by decide) ?_
        refine o_lloadN B 37 38 (v := x1) d3_37 rfl rfl ?_
        refine o_iload B 38 40 (v := (((x3 + x2) - (1 : Int32)) - x0)) d3_38 rfl rfl ?_
        obtain ⟨v1, T1, L1, B1, Q1, c1⟩ := o_callS B 40 43 d3_40 rfl (hw _ (List.mem_of_getElem? (i := 16) rfl)) (hw _ (List.mem_of_getElem? (i := 17) rfl)) (hw _ (List.mem_of_getElem? (i := 11) rfl)) (hw _ (List.mem_of_getElem? (i := 18) rfl)) (by decide) (rm4 l Z a0 hw (((x3 + x2) - (1 : Int32)) - x0) h0 n0 hz (own_kk hb k1 k2 k3)) 2 [(.int (((x3 + x2) - (1 : Int32)) - x0))] [(.long x1)] pd__I_J rfl rfl (st := [(.int (((x3 + x2) - (1 : Int32)) - x0)), (.long x1)]) rfl (Ls := #[.val (.int x0), .val (.long x1), .second, .val (.int x2), .val (.int x3), .val (.int (((x3 + x2) - (1 : Int32)) - x0)), .unset, .unset]) rfl (Nat.le_of_eq rfl) (by decide) (by decide) (by decide) (by decide)
        obtain ⟨rfl, M1, K1⟩ := Q1
        have N1 := Fr.app N0 M1
        have s1 : n0 ≤ T1.heap.size := Nat.le_trans hz K1.1
        refine c1 ?_
        show OG p.tables e below _ (T1.setTop (mkF m 43 #[.val (.int x0), .val (.long x1), .second, .val (.int x2), .val (.int x3), .val (.int (((x3 + x2) - (1 : Int32)) - x0)), .unset, .unset] [(.long (f4 (((x3 + x2) - (1 : Int32)) - x0))), (.long x1)]))
        refine o_ldiv B1 43 44 d3_43 rfl (own_pnz (own_kk hb k1 k2 k3)) ?_
        refine o_ldc2 B1 44 47 d3_44 rfl (hw _ (List.mem_of_getElem? (i := 20) rfl)) ?_
        refine o_lrem B1 47 48 d3_47 rfl (by decide) ?_
        refine o_lstore B1 48 50 (l' := #[.val (.int x0), .val (.long x1), .second, .val (.int x2), .val (.int x3), .val (.int (((x3 + x2) - (1 : Int32)) - x0)), .val (.long (q3_1 x0 x1 x2 x3)), .second]) d3_48 rfl rfl ?_
        refine o_ldc2 B1 50 53 d3_50 rfl (hw _ (List.mem_of_getElem? (i := 38) rfl)) ?_
        refine o_lload B1 53 55 (v := (q3_1 x0 x1 x2 x3)) d3_53 rfl rfl ?_
        refine o_ladd B1 55 56 d3_55 rfl ?_
        refine o_l2i B1 56 57 d3_56 rfl ?_
        refine o_i2b B1 57 58 d3_57 rfl ?_
        refine o_retZ (t := .byte) B1 58 d3_58 hret hlk (by simp) (by decide) (by decide) ⟨(congrArg (fun z => some (Value.int z)) ((show nar .byte ((48 : Int64) + (q3_1 x0 x1 x2 x3)).toInt32.toInt8.toInt32 = ((48 : Int64) + (q3_1 x0 x1 x2 x3)).toInt32.toInt8.toInt32 from (nar_bb _)).trans (show f3 x0 x1 x2 x3 = ((48 : Int64) + (q3_1 x0 x1 x2 x3)).toInt32.toInt8.toInt32 from (if_neg k1).trans ((if_pos k2).trans ((if_pos k3).trans (rfl)))).symm)), N1, ((Keep.refl h0 []).trans K1 all0)⟩
      · refine o_icN B 30 33 d3_30 rfl (XT.ii_lt_f k3) ?_
        refine o_lconst B 33 34 (0 : Int64) d3_33 rfl (by decide) ?_
        refine o_goto B 34 48 d3_34 (by decide) (by decide) ?_
        refine o_lstore B 48 50 (l' := #[.val (.int x0), .val (.long x1), .second, .val (.int x2), .val (.int x3), .val (.int (((x3 + x2) - (1 : Int32)) - x0)), .val (.long (0 : Int64)), .second]) d3_48 rfl rfl ?_
        refine o_ldc2 B 50 53 d3_50 rfl (hw _ (List.mem_of_getElem? (i := 38) rfl)) ?_
        refine o_lload B 53 55 (v := (0 : Int64)) d3_53 rfl rfl ?_
        refine o_ladd B 55 56 d3_55 rfl ?_
        refine o_topJ (show ((48 : Int64) + (0 : Int64)) = (48 : Int64) by decide) ?_
        refine o_l2i B 56 57 d3_56 rfl ?_
        refine o_topI (show (48 : Int64).toInt32 = (48 : Int32) by decide) ?_
        refine o_i2b B 57 58 d3_57 rfl ?_
        refine o_topI (show (48 : Int32).toInt8.toInt32 = (48 : Int32) by decide) ?_
        refine o_retZ (t := .byte) B 58 d3_58 hret hlk (by simp) (by decide) (by decide) ⟨(congrArg (fun z => some (Value.int z)) ((show nar .byte (48 : Int32) = (48 : Int32) from rfl).trans (show f3 x0 x1 x2 x3 = (48 : Int32) from (if_neg k1).trans ((if_pos k2).trans ((if_neg k3).trans (rfl)))).symm)), N0, (Keep.refl h0 [])⟩
    · refine o_icN B 11 14 d3_11 rfl (XT.ii_lt_f k2) ?_
      refine o_iconst B 14 15 (0 : Int32) d3_14 rfl (by decide) ?_
      refine o_retZ (t := .byte) B 15 d3_15 hret hlk (by simp) (by decide) (by decide) ⟨(congrArg (fun z => some (Value.int z)) ((show nar .byte (0 : Int32) = (0 : Int32) from rfl).trans (show f3 x0 x1 x2 x3 = (0 : Int32) from (if_neg k1).trans ((if_neg k2).trans (rfl))).symm)), N0, (Keep.refl h0 [])⟩
theorem d2_0 : decode method_3_code 0 = .ok (.aload_n 0, 1) := by decide +kernel
theorem d2_1 : decode method_3_code 1 = .ok (.iload_n 1, 1) := by decide +kernel
theorem d2_2 : decode method_3_code 2 = .ok (.baload, 1) := by decide +kernel
theorem d2_3 : decode method_3_code 3 = .ok (.iload_n 1, 1) := by decide +kernel
theorem d2_4 : decode method_3_code 4 = .ok (.lload_n 2, 1) := by decide +kernel
theorem d2_5 : decode method_3_code 5 = .ok (.iload 4, 2) := by decide +kernel
theorem d2_7 : decode method_3_code 7 = .ok (.iload 5, 2) := by decide +kernel
theorem d2_9 : decode method_3_code 9 = .ok (.invokestatic 24, 3) := by decide +kernel
theorem d2_12 : decode method_3_code 12 = .ok (.if_icmp .ne 7, 3) := by decide +kernel
theorem d2_15 : decode method_3_code 15 = .ok (.iconst 1, 1) := by decide +kernel
theorem d2_16 : decode method_3_code 16 = .ok (.goto 4, 3) := by decide +kernel
theorem d2_19 : decode method_3_code 19 = .ok (.iconst 0, 1) := by decide +kernel
theorem d2_20 : decode method_3_code 20 = .ok (.ireturn, 1) := by decide +kernel
theorem pl2 : plainFor (⟨"com/example/bitsieve/bitsieve/model/DecimalDigitsPutPinLaw", "ck", "([BIJII)Z"⟩ : MethodName) = true := by first | exact plainFor_of_name (by first | (simp [plainName, overriddenIn]; done) | decide +kernel) | decide +kernel
theorem pd__IJII_B : parseMethodDescriptor "(IJII)B" = some ⟨[.int, .long, .int, .int], some .byte⟩ := by decide +kernel
def f2 (g : Nat → Int32) (x1 : Int32) (x2 : Int64) (x3 : Int32) (x4 : Int32) : Int32 := (if (g x1.toInt.toNat) = (f3 x1 x2 x3 x4) then (1 : Int32) else (0 : Int32))
def Q2 (Z : State) (g : Nat → Int32) (x0 : Addr) (x1 : Int32) (x2 : Int64) (x3 : Int32) (x4 : Int32) (h0 : Heap) (n0 : Nat) (v : Option Value) (h : Heap) (L : List Loc) : Prop := v = some (.int (f2 g x1 x2 x3 x4)) ∧ Fr n0 L ∧ Keep h0 h []
set_option maxRecDepth 65536 in
set_option maxHeartbeats 40000000 in
theorem rm2 (l : Launch) (Z : State) (a0 : Array Value) (hw : ∀ d ∈ tables_1, d.before a0 Z = true) (g : Nat → Int32) (x0 : Addr) (x1 : Int32) (x2 : Int64) (x3 : Int32) (x4 : Int32) (h0 : Heap) (n0 : Nat) (hz : n0 ≤ h0.size) (A0 : AI Z h0 x0 .byte 24 g) (hb : Eb x1 x3 x4) :
    Met l Z (⟨"com/example/bitsieve/bitsieve/model/DecimalDigitsPutPinLaw", "ck", "([BIJII)Z"⟩ : MethodName) method_3_code 6 (some .boolean) ({ frames := 2, cells := 1, slots := 19, locals := 35 } : Room) #[(.ref x0), (.int x1), (.long x2), (.int x3), (.int x4)] h0 (Q2 Z g x0 x1 x2 x3 x4 h0 n0) := by
  refine enter pl2 #[.val (.ref x0), .val (.int x1), .val (.long x2), .second, .val (.int x3), .val (.int x4)] rfl ?_
  intro p e s m below meth c T B hret hlk hnm
  have N0 := Fr.nil n0
  refine o_aloadN B 0 1 (v := (.ref x0)) d2_0 rfl rfl rfl ?_
  refine o_iloadN B 1 2 (v := x1) d2_1 rfl rfl ?_
  refine o_baload B 2 3 A0 x1.toInt.toNat (g x1.toInt.toNat) d2_2 rfl (ix_of (j := x1) (k := x1.toInt.toNat) (by unfold Eb at hb; omega)).1 (ix_of (j := x1) (k := x1.toInt.toNat) (by unfold Eb at hb; omega)).2 (by unfold Eb at hb; omega) rfl ?_
  refine o_iloadN B 3 4 (v := x1) d2_3 rfl rfl ?_
  refine o_lloadN B 4 5 (v := x2) d2_4 rfl rfl ?_
  refine o_iload B 5 7 (v := x3) d2_5 rfl rfl ?_
  refine o_iload B 7 9 (v := x4) d2_7 rfl rfl ?_
  obtain ⟨v2, T2, L2, B2, Q2, c2⟩ := o_callS B 9 12 d2_9 rfl (hw _ (List.mem_of_getElem? (i := 13) rfl)) (hw _ (List.mem_of_getElem? (i := 14) rfl)) (hw _ (List.mem_of_getElem? (i := 11) rfl)) (hw _ (List.mem_of_getElem? (i := 15) rfl)) (by decide) (rm3 l Z a0 hw x1 x2 x3 x4 h0 n0 hz hb) 1 [(.int x1), (.long x2), (.int x3), (.int x4)] [(.int (g x1.toInt.toNat))] pd__IJII_B rfl rfl (st := [(.int x4), (.int x3), (.long x2), (.int x1), (.int (g x1.toInt.toNat))]) rfl (Ls := #[.val (.ref x0), .val (.int x1), .val (.long x2), .second, .val (.int x3), .val (.int x4)]) rfl (Nat.le_of_eq rfl) (by decide) (by decide) (by decide) (by decide)
  obtain ⟨rfl, M2, K2⟩ := Q2
  have N2 := Fr.app N0 M2
  have s2 : n0 ≤ T2.heap.size := Nat.le_trans hz K2.1
  refine c2 ?_
  show OG p.tables e below _ (T2.setTop (mkF m 12 #[.val (.ref x0), .val (.int x1), .val (.long x2), .second, .val (.int x3), .val (.int x4)] [(.int (f3 x1 x2 x3 x4)), (.int (g x1.toInt.toNat))]))
  by_cases k1 : (g x1.toInt.toNat) = (f3 x1 x2 x3 x4)
  · refine o_icN B2 12 15 d2_12 rfl (XT.ii_ne_f k1) ?_
    refine o_iconst B2 15 16 (1 : Int32) d2_15 rfl (by decide) ?_
    refine o_goto B2 16 20 d2_16 (by decide) (by decide) ?_
    refine o_retZ (t := .boolean) B2 20 d2_20 hret hlk (by simp) (by decide) (by decide) ⟨(congrArg (fun z => some (Value.int z)) ((show nar .boolean (1 : Int32) = (1 : Int32) from rfl).trans (show f2 g x1 x2 x3 x4 = (1 : Int32) from (if_pos k1).trans (rfl)).symm)), N2, ((Keep.refl h0 []).trans K2 all0)⟩
  · refine o_icY B2 12 19 d2_12 (XT.ii_ne_t k1) (by decide) (by decide) ?_
    refine o_iconst B2 19 20 (0 : Int32) d2_19 rfl (by decide) ?_
    refine o_retZ (t := .boolean) B2 20 d2_20 hret hlk (by simp) (by decide) (by decide) ⟨(congrArg (fun z => some (Value.int z)) ((show nar .boolean (0 : Int32) = (0 : Int32) from rfl).trans (show f2 g x1 x2 x3 x4 = (0 : Int32) from (if_neg k1).trans (rfl)).symm)), N2, ((Keep.refl h0 []).trans K2 all0)⟩
theorem pl0 : plainFor x = true := by first | exact plainFor_of_name (by first | (simp [plainName, overriddenIn]; done) | decide +kernel) | decide +kernel
theorem pd__JI_BI_V : parseMethodDescriptor "(JI[BI)V" = some ⟨[.long, .int, (.array .byte), .int], none⟩ := by decide +kernel
theorem pd___BIJII_Z : parseMethodDescriptor "([BIJII)Z" = some ⟨[(.array .byte), .int, .long, .int, .int], some .boolean⟩ := by decide +kernel
def q0_1 (x0 : Int64) (x1 : Int32) (x2 : Int32) : Int32 := ((x1 &&& (2147483647 : Int32)) % (21 : Int32))
def q0_2 (x0 : Int64) (x1 : Int32) (x2 : Int32) : Int32 := (x2 &&& (3 : Int32))
def q0_3 (x0 : Int64) (x1 : Int32) (x2 : Int32) : Int32 := (f2 (o1_0 (fun _ => 0) (x0 &&& (9223372036854775807 : Int64)) (q0_1 x0 x1 x2) (q0_2 x0 x1 x2)) (0 : Int32) (x0 &&& (9223372036854775807 : Int64)) (q0_1 x0 x1 x2) (q0_2 x0 x1 x2))
def q0_4 (x0 : Int64) (x1 : Int32) (x2 : Int32) : Int32 := (f2 (o1_0 (fun _ => 0) (x0 &&& (9223372036854775807 : Int64)) (q0_1 x0 x1 x2) (q0_2 x0 x1 x2)) (1 : Int32) (x0 &&& (9223372036854775807 : Int64)) (q0_1 x0 x1 x2) (q0_2 x0 x1 x2))
def q0_5 (x0 : Int64) (x1 : Int32) (x2 : Int32) : Int32 := (f2 (o1_0 (fun _ => 0) (x0 &&& (9223372036854775807 : Int64)) (q0_1 x0 x1 x2) (q0_2 x0 x1 x2)) (2 : Int32) (x0 &&& (9223372036854775807 : Int64)) (q0_1 x0 x1 x2) (q0_2 x0 x1 x2))
def q0_6 (x0 : Int64) (x1 : Int32) (x2 : Int32) : Int32 := (f2 (o1_0 (fun _ => 0) (x0 &&& (9223372036854775807 : Int64)) (q0_1 x0 x1 x2) (q0_2 x0 x1 x2)) (3 : Int32) (x0 &&& (9223372036854775807 : Int64)) (q0_1 x0 x1 x2) (q0_2 x0 x1 x2))
def q0_7 (x0 : Int64) (x1 : Int32) (x2 : Int32) : Int32 := (f2 (o1_0 (fun _ => 0) (x0 &&& (9223372036854775807 : Int64)) (q0_1 x0 x1 x2) (q0_2 x0 x1 x2)) (4 : Int32) (x0 &&& (9223372036854775807 : Int64)) (q0_1 x0 x1 x2) (q0_2 x0 x1 x2))
def q0_8 (x0 : Int64) (x1 : Int32) (x2 : Int32) : Int32 := (f2 (o1_0 (fun _ => 0) (x0 &&& (9223372036854775807 : Int64)) (q0_1 x0 x1 x2) (q0_2 x0 x1 x2)) (5 : Int32) (x0 &&& (9223372036854775807 : Int64)) (q0_1 x0 x1 x2) (q0_2 x0 x1 x2))
def q0_9 (x0 : Int64) (x1 : Int32) (x2 : Int32) : Int32 := (f2 (o1_0 (fun _ => 0) (x0 &&& (9223372036854775807 : Int64)) (q0_1 x0 x1 x2) (q0_2 x0 x1 x2)) (6 : Int32) (x0 &&& (9223372036854775807 : Int64)) (q0_1 x0 x1 x2) (q0_2 x0 x1 x2))
def q0_10 (x0 : Int64) (x1 : Int32) (x2 : Int32) : Int32 := (f2 (o1_0 (fun _ => 0) (x0 &&& (9223372036854775807 : Int64)) (q0_1 x0 x1 x2) (q0_2 x0 x1 x2)) (7 : Int32) (x0 &&& (9223372036854775807 : Int64)) (q0_1 x0 x1 x2) (q0_2 x0 x1 x2))
def q0_11 (x0 : Int64) (x1 : Int32) (x2 : Int32) : Int32 := (f2 (o1_0 (fun _ => 0) (x0 &&& (9223372036854775807 : Int64)) (q0_1 x0 x1 x2) (q0_2 x0 x1 x2)) (8 : Int32) (x0 &&& (9223372036854775807 : Int64)) (q0_1 x0 x1 x2) (q0_2 x0 x1 x2))
def q0_12 (x0 : Int64) (x1 : Int32) (x2 : Int32) : Int32 := (f2 (o1_0 (fun _ => 0) (x0 &&& (9223372036854775807 : Int64)) (q0_1 x0 x1 x2) (q0_2 x0 x1 x2)) (9 : Int32) (x0 &&& (9223372036854775807 : Int64)) (q0_1 x0 x1 x2) (q0_2 x0 x1 x2))
def q0_13 (x0 : Int64) (x1 : Int32) (x2 : Int32) : Int32 := (f2 (o1_0 (fun _ => 0) (x0 &&& (9223372036854775807 : Int64)) (q0_1 x0 x1 x2) (q0_2 x0 x1 x2)) (10 : Int32) (x0 &&& (9223372036854775807 : Int64)) (q0_1 x0 x1 x2) (q0_2 x0 x1 x2))
def q0_14 (x0 : Int64) (x1 : Int32) (x2 : Int32) : Int32 := (f2 (o1_0 (fun _ => 0) (x0 &&& (9223372036854775807 : Int64)) (q0_1 x0 x1 x2) (q0_2 x0 x1 x2)) (11 : Int32) (x0 &&& (9223372036854775807 : Int64)) (q0_1 x0 x1 x2) (q0_2 x0 x1 x2))
def q0_15 (x0 : Int64) (x1 : Int32) (x2 : Int32) : Int32 := (f2 (o1_0 (fun _ => 0) (x0 &&& (9223372036854775807 : Int64)) (q0_1 x0 x1 x2) (q0_2 x0 x1 x2)) (12 : Int32) (x0 &&& (9223372036854775807 : Int64)) (q0_1 x0 x1 x2) (q0_2 x0 x1 x2))
def q0_16 (x0 : Int64) (x1 : Int32) (x2 : Int32) : Int32 := (f2 (o1_0 (fun _ => 0) (x0 &&& (9223372036854775807 : Int64)) (q0_1 x0 x1 x2) (q0_2 x0 x1 x2)) (13 : Int32) (x0 &&& (9223372036854775807 : Int64)) (q0_1 x0 x1 x2) (q0_2 x0 x1 x2))
def q0_17 (x0 : Int64) (x1 : Int32) (x2 : Int32) : Int32 := (f2 (o1_0 (fun _ => 0) (x0 &&& (9223372036854775807 : Int64)) (q0_1 x0 x1 x2) (q0_2 x0 x1 x2)) (14 : Int32) (x0 &&& (9223372036854775807 : Int64)) (q0_1 x0 x1 x2) (q0_2 x0 x1 x2))
def q0_18 (x0 : Int64) (x1 : Int32) (x2 : Int32) : Int32 := (f2 (o1_0 (fun _ => 0) (x0 &&& (9223372036854775807 : Int64)) (q0_1 x0 x1 x2) (q0_2 x0 x1 x2)) (15 : Int32) (x0 &&& (9223372036854775807 : Int64)) (q0_1 x0 x1 x2) (q0_2 x0 x1 x2))
def q0_19 (x0 : Int64) (x1 : Int32) (x2 : Int32) : Int32 := (f2 (o1_0 (fun _ => 0) (x0 &&& (9223372036854775807 : Int64)) (q0_1 x0 x1 x2) (q0_2 x0 x1 x2)) (16 : Int32) (x0 &&& (9223372036854775807 : Int64)) (q0_1 x0 x1 x2) (q0_2 x0 x1 x2))
def q0_20 (x0 : Int64) (x1 : Int32) (x2 : Int32) : Int32 := (f2 (o1_0 (fun _ => 0) (x0 &&& (9223372036854775807 : Int64)) (q0_1 x0 x1 x2) (q0_2 x0 x1 x2)) (17 : Int32) (x0 &&& (9223372036854775807 : Int64)) (q0_1 x0 x1 x2) (q0_2 x0 x1 x2))
def q0_21 (x0 : Int64) (x1 : Int32) (x2 : Int32) : Int32 := (f2 (o1_0 (fun _ => 0) (x0 &&& (9223372036854775807 : Int64)) (q0_1 x0 x1 x2) (q0_2 x0 x1 x2)) (18 : Int32) (x0 &&& (9223372036854775807 : Int64)) (q0_1 x0 x1 x2) (q0_2 x0 x1 x2))
def q0_22 (x0 : Int64) (x1 : Int32) (x2 : Int32) : Int32 := (f2 (o1_0 (fun _ => 0) (x0 &&& (9223372036854775807 : Int64)) (q0_1 x0 x1 x2) (q0_2 x0 x1 x2)) (19 : Int32) (x0 &&& (9223372036854775807 : Int64)) (q0_1 x0 x1 x2) (q0_2 x0 x1 x2))
def q0_23 (x0 : Int64) (x1 : Int32) (x2 : Int32) : Int32 := (f2 (o1_0 (fun _ => 0) (x0 &&& (9223372036854775807 : Int64)) (q0_1 x0 x1 x2) (q0_2 x0 x1 x2)) (20 : Int32) (x0 &&& (9223372036854775807 : Int64)) (q0_1 x0 x1 x2) (q0_2 x0 x1 x2))
def q0_24 (x0 : Int64) (x1 : Int32) (x2 : Int32) : Int32 := (f2 (o1_0 (fun _ => 0) (x0 &&& (9223372036854775807 : Int64)) (q0_1 x0 x1 x2) (q0_2 x0 x1 x2)) (21 : Int32) (x0 &&& (9223372036854775807 : Int64)) (q0_1 x0 x1 x2) (q0_2 x0 x1 x2))
def q0_25 (x0 : Int64) (x1 : Int32) (x2 : Int32) : Int32 := (f2 (o1_0 (fun _ => 0) (x0 &&& (9223372036854775807 : Int64)) (q0_1 x0 x1 x2) (q0_2 x0 x1 x2)) (22 : Int32) (x0 &&& (9223372036854775807 : Int64)) (q0_1 x0 x1 x2) (q0_2 x0 x1 x2))
def q0_26 (x0 : Int64) (x1 : Int32) (x2 : Int32) : Int32 := (f2 (o1_0 (fun _ => 0) (x0 &&& (9223372036854775807 : Int64)) (q0_1 x0 x1 x2) (q0_2 x0 x1 x2)) (23 : Int32) (x0 &&& (9223372036854775807 : Int64)) (q0_1 x0 x1 x2) (q0_2 x0 x1 x2))
def f0 (x0 : Int64) (x1 : Int32) (x2 : Int32) : Int32 := (if (q0_3 x0 x1 x2) = 0 then (0 : Int32) else (if (q0_4 x0 x1 x2) = 0 then (0 : Int32) else (if (q0_5 x0 x1 x2) = 0 then (0 : Int32) else (if (q0_6 x0 x1 x2) = 0 then (0 : Int32) else (if (q0_7 x0 x1 x2) = 0 then (0 : Int32) else (if (q0_8 x0 x1 x2) = 0 then (0 : Int32) else (if (q0_9 x0 x1 x2) = 0 then (0 : Int32) else (if (q0_10 x0 x1 x2) = 0 then (0 : Int32) else (if (q0_11 x0 x1 x2) = 0 then (0 : Int32) else (if (q0_12 x0 x1 x2) = 0 then (0 : Int32) else (if (q0_13 x0 x1 x2) = 0 then (0 : Int32) else (if (q0_14 x0 x1 x2) = 0 then (0 : Int32) else (if (q0_15 x0 x1 x2) = 0 then (0 : Int32) else (if (q0_16 x0 x1 x2) = 0 then (0 : Int32) else (if (q0_17 x0 x1 x2) = 0 then (0 : Int32) else (if (q0_18 x0 x1 x2) = 0 then (0 : Int32) else (if (q0_19 x0 x1 x2) = 0 then (0 : Int32) else (if (q0_20 x0 x1 x2) = 0 then (0 : Int32) else (if (q0_21 x0 x1 x2) = 0 then (0 : Int32) else (if (q0_22 x0 x1 x2) = 0 then (0 : Int32) else (if (q0_23 x0 x1 x2) = 0 then (0 : Int32) else (if (q0_24 x0 x1 x2) = 0 then (0 : Int32) else (if (q0_25 x0 x1 x2) = 0 then (0 : Int32) else (if (q0_26 x0 x1 x2) = 0 then (0 : Int32) else (1 : Int32)))))))))))))))))))))))))
theorem own_hp (x0 : Int64) (x1 x2 : Int32) : (0 ≤ (q0_1 x0 x1 x2).toInt ∧ (q0_1 x0 x1 x2).toInt ≤ 20) ∧ 0 ≤ (q0_2 x0 x1 x2).toInt ∧ (q0_2 x0 x1 x2).toInt ≤ 3 := by
  have m := c_mask x1 2147483647 31 (by decide) (by decide)
  have r := c_irem (x1 &&& 2147483647) 21 21 (by decide)
  have m2 := c_mask x2 3 2 (by decide) (by decide)
  have e1 : (q0_1 x0 x1 x2).toInt = ((x1 &&& 2147483647) % 21).toInt := rfl
  have e2 : (q0_2 x0 x1 x2).toInt = (x2 &&& 3).toInt := rfl
  omega
theorem own_eb (x0 : Int64) (x1 x2 : Int32) (i : Int32) (h : 0 ≤ i.toInt ∧ i.toInt < 24) : Eb i (q0_1 x0 x1 x2) (q0_2 x0 x1 x2) := ⟨h, own_hp x0 x1 x2⟩
set_option maxRecDepth 65536 in
set_option maxHeartbeats 40000000 in
theorem rm0 (l : Launch) (Z : State) (a0 : Array Value) (hw : ∀ d ∈ tables_1, d.before a0 Z = true) (ws : List Jvm.Cond) (x0 : Int64) (x1 : Int32) (x2 : Int32) (h0 : Heap) (n0 : Nat) (hz : n0 ≤ h0.size) :
    MetFree l x (head1 (Jvm.Cond.code x code maxLocals ret :: ws) room_1) (fun a U => a = #[(.long x0), (.int x1), (.int x2)] ∧ Z.Warmed39 U.vm ∧ U.heap = h0) (fun _ _ _ _ _ => True) (fun _ U o U' => ∃ v L, o = .returned v ∧ Lw n0 (some (.int (f0 x0 x1 x2))) v U'.heap L ∧ FrameEnd U o U' L room_1.cells room_1.slots) := by
  refine enter (y := x) (bs := code) (ml := maxLocals) (ret := ret) (Q := Lw n0 (some (.int (f0 x0 x1 x2)))) pl0 #[.val (.long x0), .second, .val (.int x1), .val (.int x2), .unset, .unset, .unset, .unset, .unset] rfl ?_
  intro p e s m below meth c T B hret hlk hnm
  have N0 := Fr.nil n0
  refine o_lloadN B 0 1 (v := x0) at_0 rfl rfl ?_
  refine o_ldc2 B 1 4 at_1 rfl (hw _ (List.mem_of_getElem? (i := 0) rfl)) ?_
  refine o_land B 4 5 at_4 rfl ?_
  refine o_lstore B 5 7 (l' := #[.val (.long x0), .second, .val (.int x1), .val (.int x2), .val (.long (x0 &&& (9223372036854775807 : Int64))), .second, .unset, .unset, .unset]) at_5 rfl rfl ?_
  refine o_iloadN B 7 8 (v := x1) at_7 rfl rfl ?_
  refine o_ldc B 8 10 at_8 rfl (hw _ (List.mem_of_getElem? (i := 1) rfl)) ?_
  refine o_iand B 10 11 at_10 rfl ?_
  refine o_bipush B 11 13 (21 : Int32) at_11 rfl (by decide) ?_
  refine o_irem B 13 14 at_13 rfl (by decide) ?_
  refine o_istore B 14 16 (l' := #[.val (.long x0), .second, .val (.int x1), .val (.int x2), .val (.long (x0 &&& (9223372036854775807 : Int64))), .second, .val (.int (q0_1 x0 x1 x2)), .unset, .unset]) at_14 rfl rfl ?_
  refine o_iloadN B 16 17 (v := x2) at_16 rfl rfl ?_
  refine o_iconst B 17 18 (3 : Int32) at_17 rfl (by decide) ?_
  refine o_iand B 18 19 at_18 rfl ?_
  refine o_istore B 19 21 (l' := #[.val (.long x0), .second, .val (.int x1), .val (.int x2), .val (.long (x0 &&& (9223372036854775807 : Int64))), .second, .val (.int (q0_1 x0 x1 x2)), .val (.int (q0_2 x0 x1 x2)), .unset]) at_19 rfl rfl ?_
  refine o_bipush B 21 23 (24 : Int32) at_21 rfl (by decide) ?_
  obtain ⟨a1, T1, h1, z1, B1, E1, A1, c1⟩ := o_newI B 23 25 (ty := .byte) (z := (24 : Int32)) 24 24 (hw _ (List.mem_of_getElem? (i := 2) rfl)) at_23 rfl rfl rfl (by decide) (by decide) (by decide) (by decide) (by decide) (by decide) (Ls := #[.val (.long x0), .second, .val (.int x1), .val (.int x2), .val (.long (x0 &&& (9223372036854775807 : Int64))), .second, .val (.int (q0_1 x0 x1 x2)), .val (.int (q0_2 x0 x1 x2)), .unset]) (rest := [])
  have g1 : n0 ≤ a1 := by rw [z1]; exact hz
  have s1 : n0 ≤ h1.size := Nat.le_trans hz E1.1
  refine c1 ?_
  refine o_astore B1 25 27 (l' := #[.val (.long x0), .second, .val (.int x1), .val (.int x2), .val (.long (x0 &&& (9223372036854775807 : Int64))), .second, .val (.int (q0_1 x0 x1 x2)), .val (.int (q0_2 x0 x1 x2)), .val (.ref a1)]) at_25 rfl rfl rfl ?_
  refine o_lload B1 27 29 (v := (x0 &&& (9223372036854775807 : Int64))) at_27 rfl rfl ?_
  refine o_iload B1 29 31 (v := (q0_1 x0 x1 x2)) at_29 rfl rfl ?_
  refine o_aload B1 31 33 (v := (.ref a1)) at_31 rfl rfl rfl ?_
  refine o_iload B1 33 35 (v := (q0_2 x0 x1 x2)) at_33 rfl rfl ?_
  obtain ⟨v2, T2, L2, B2, Q2, c2⟩ := o_callS B1 35 38 at_35 rfl (hw _ (List.mem_of_getElem? (i := 3) rfl)) (hw _ (List.mem_of_getElem? (i := 4) rfl)) (hw _ (List.mem_of_getElem? (i := 5) rfl)) (hw _ (List.mem_of_getElem? (i := 6) rfl)) (by decide) (rm1 l Z a0 hw (fun _ => 0) (x0 &&& (9223372036854775807 : Int64)) (q0_1 x0 x1 x2) a1 (q0_2 x0 x1 x2) h1 n0 s1 A1 g1 (own_hp x0 x1 x2)) 0 [(.long (x0 &&& (9223372036854775807 : Int64))), (.int (q0_1 x0 x1 x2)), (.ref a1), (.int (q0_2 x0 x1 x2))] [] pd__JI_BI_V rfl rfl (st := [(.int (q0_2 x0 x1 x2)), (.ref a1), (.int (q0_1 x0 x1 x2)), (.long (x0 &&& (9223372036854775807 : Int64)))]) rfl (Ls := #[.val (.long x0), .second, .val (.int x1), .val (.int x2), .val (.long (x0 &&& (9223372036854775807 : Int64))), .second, .val (.int (q0_1 x0 x1 x2)), .val (.int (q0_2 x0 x1 x2)), .val (.ref a1)]) rfl (Nat.le_of_eq rfl) (by decide) (by decide) (by decide) (by decide)
  obtain ⟨rfl, M2, K2, O2_0⟩ := Q2
  have N2 := Fr.app N0 M2
  have s2 : n0 ≤ T2.heap.size := Nat.le_trans s1 K2.1
  refine c2 ?_
  show OG p.tables e below _ (T2.setTop (mkF m 38 #[.val (.long x0), .second, .val (.int x1), .val (.int x2), .val (.long (x0 &&& (9223372036854775807 : Int64))), .second, .val (.int (q0_1 x0 x1 x2)), .val (.int (q0_2 x0 x1 x2)), .val (.ref a1)] []))
  refine o_aload B2 38 40 (v := (.ref a1)) at_38 rfl rfl rfl ?_
  refine o_iconst B2 40 41 (0 : Int32) at_40 rfl (by decide) ?_
  refine o_lload B2 41 43 (v := (x0 &&& (9223372036854775807 : Int64))) at_41 rfl rfl ?_
  refine o_iload B2 43 45 (v := (q0_1 x0 x1 x2)) at_43 rfl rfl ?_
  refine o_iload B2 45 47 (v := (q0_2 x0 x1 x2)) at_45 rfl rfl ?_
  obtain ⟨v3, T3, L3, B3, Q3, c3⟩ := o_callS B2 47 50 at_47 rfl (hw _ (List.mem_of_getElem? (i := 9) rfl)) (hw _ (List.mem_of_getElem? (i := 10) rfl)) (hw _ (List.mem_of_getElem? (i := 11) rfl)) (hw _ (List.mem_of_getElem? (i := 12) rfl)) (by decide) (rm2 l Z a0 hw (o1_0 (fun _ => 0) (x0 &&& (9223372036854775807 : Int64)) (q0_1 x0 x1 x2) (q0_2 x0 x1 x2)) a1 (0 : Int32) (x0 &&& (9223372036854775807 : Int64)) (q0_1 x0 x1 x2) (q0_2 x0 x1 x2) T2.heap n0 s2 O2_0 (own_eb x0 x1 x2 (0 : Int32) (by decide))) 0 [(.ref a1), (.int (0 : Int32)), (.long (x0 &&& (9223372036854775807 : Int64))), (.int (q0_1 x0 x1 x2)), (.int (q0_2 x0 x1 x2))] [] pd___BIJII_Z rfl rfl (st := [(.int (q0_2 x0 x1 x2)), (.int (q0_1 x0 x1 x2)), (.long (x0 &&& (9223372036854775807 : Int64))), (.int (0 : Int32)), (.ref a1)]) rfl (Ls := #[.val (.long x0), .second, .val (.int x1), .val (.int x2), .val (.long (x0 &&& (9223372036854775807 : Int64))), .second, .val (.int (q0_1 x0 x1 x2)), .val (.int (q0_2 x0 x1 x2)), .val (.ref a1)]) rfl (Nat.le_of_eq rfl) (by decide) (by decide) (by decide) (by decide)
  obtain ⟨rfl, M3, K3⟩ := Q3
  have N3 := Fr.app N2 M3
  have s3 : n0 ≤ T3.heap.size := Nat.le_trans s2 K3.1
  refine c3 ?_
  show OG p.tables e below _ (T3.setTop (mkF m 50 #[.val (.long x0), .second, .val (.int x1), .val (.int x2), .val (.long (x0 &&& (9223372036854775807 : Int64))), .second, .val (.int (q0_1 x0 x1 x2)), .val (.int (q0_2 x0 x1 x2)), .val (.ref a1)] [(.int (q0_3 x0 x1 x2))]))
  by_cases k1 : (q0_3 x0 x1 x2) = 0
  · refine o_ifY B3 50 420 at_50 (XT.i0_eq_t k1) (by decide) (by decide) ?_
    refine o_iconst B3 420 421 (0 : Int32) at_420 rfl (by decide) ?_
    refine o_retZ (t := .boolean) B3 421 at_421 hret hlk (by simp) (by decide) (by decide) ⟨(congrArg (fun z => some (Value.int z)) ((show nar .boolean (0 : Int32) = (0 : Int32) from rfl).trans (show f0 x0 x1 x2 = (0 : Int32) from (if_pos k1).trans (rfl)).symm)), N3⟩
  · refine o_ifN B3 50 53 at_50 rfl (XT.i0_eq_f k1) ?_
    refine o_aload B3 53 55 (v := (.ref a1)) at_53 rfl rfl rfl ?_
    refine o_iconst B3 55 56 (1 : Int32) at_55 rfl (by decide) ?_
    refine o_lload B3 56 58 (v := (x0 &&& (9223372036854775807 : Int64))) at_56 rfl rfl ?_
    refine o_iload B3 58 60 (v := (q0_1 x0 x1 x2)) at_58 rfl rfl ?_
    refine o_iload B3 60 62 (v := (q0_2 x0 x1 x2)) at_60 rfl rfl ?_
    have F4 := (O2_0.keep K3 nin0)
    obtain ⟨v5, T5, L5, B5, Q5, c5⟩ := o_callS B3 62 65 at_62 rfl (hw _ (List.mem_of_getElem? (i := 9) rfl)) (hw _ (List.mem_of_getElem? (i := 10) rfl)) (hw _ (List.mem_of_getElem? (i := 11) rfl)) (hw _ (List.mem_of_getElem? (i := 12) rfl)) (by decide) (rm2 l Z a0 hw (o1_0 (fun _ => 0) (x0 &&& (9223372036854775807 : Int64)) (q0_1 x0 x1 x2) (q0_2 x0 x1 x2)) a1 (1 : Int32) (x0 &&& (9223372036854775807 : Int64)) (q0_1 x0 x1 x2) (q0_2 x0 x1 x2) T3.heap n0 s3 F4 (own_eb x0 x1 x2 (1 : Int32) (by decide))) 0 [(.ref a1), (.int (1 : Int32)), (.long (x0 &&& (9223372036854775807 : Int64))), (.int (q0_1 x0 x1 x2)), (.int (q0_2 x0 x1 x2))] [] pd___BIJII_Z rfl rfl (st := [(.int (q0_2 x0 x1 x2)), (.int (q0_1 x0 x1 x2)), (.long (x0 &&& (9223372036854775807 : Int64))), (.int (1 : Int32)), (.ref a1)]) rfl (Ls := #[.val (.long x0), .second, .val (.int x1), .val (.int x2), .val (.long (x0 &&& (9223372036854775807 : Int64))), .second, .val (.int (q0_1 x0 x1 x2)), .val (.int (q0_2 x0 x1 x2)), .val (.ref a1)]) rfl (Nat.le_of_eq rfl) (by decide) (by decide) (by decide) (by decide)
    obtain ⟨rfl, M5, K5⟩ := Q5
    have N5 := Fr.app N3 M5
    have s5 : n0 ≤ T5.heap.size := Nat.le_trans s3 K5.1
    refine c5 ?_
    show OG p.tables e below _ (T5.setTop (mkF m 65 #[.val (.long x0), .second, .val (.int x1), .val (.int x2), .val (.long (x0 &&& (9223372036854775807 : Int64))), .second, .val (.int (q0_1 x0 x1 x2)), .val (.int (q0_2 x0 x1 x2)), .val (.ref a1)] [(.int (q0_4 x0 x1 x2))]))
    by_cases k2 : (q0_4 x0 x1 x2) = 0
    · refine o_ifY B5 65 420 at_65 (XT.i0_eq_t k2) (by decide) (by decide) ?_
      refine o_iconst B5 420 421 (0 : Int32) at_420 rfl (by decide) ?_
      refine o_retZ (t := .boolean) B5 421 at_421 hret hlk (by simp) (by decide) (by decide) ⟨(congrArg (fun z => some (Value.int z)) ((show nar .boolean (0 : Int32) = (0 : Int32) from rfl).trans (show f0 x0 x1 x2 = (0 : Int32) from (if_neg k1).trans ((if_pos k2).trans (rfl))).symm)), N5⟩
    · refine o_ifN B5 65 68 at_65 rfl (XT.i0_eq_f k2) ?_
      refine o_aload B5 68 70 (v := (.ref a1)) at_68 rfl rfl rfl ?_
      refine o_iconst B5 70 71 (2 : Int32) at_70 rfl (by decide) ?_
      refine o_lload B5 71 73 (v := (x0 &&& (9223372036854775807 : Int64))) at_71 rfl rfl ?_
      refine o_iload B5 73 75 (v := (q0_1 x0 x1 x2)) at_73 rfl rfl ?_
      refine o_iload B5 75 77 (v := (q0_2 x0 x1 x2)) at_75 rfl rfl ?_
      have F6 := (F4.keep K5 nin0)
      obtain ⟨v7, T7, L7, B7, Q7, c7⟩ := o_callS B5 77 80 at_77 rfl (hw _ (List.mem_of_getElem? (i := 9) rfl)) (hw _ (List.mem_of_getElem? (i := 10) rfl)) (hw _ (List.mem_of_getElem? (i := 11) rfl)) (hw _ (List.mem_of_getElem? (i := 12) rfl)) (by decide) (rm2 l Z a0 hw (o1_0 (fun _ => 0) (x0 &&& (9223372036854775807 : Int64)) (q0_1 x0 x1 x2) (q0_2 x0 x1 x2)) a1 (2 : Int32) (x0 &&& (9223372036854775807 : Int64)) (q0_1 x0 x1 x2) (q0_2 x0 x1 x2) T5.heap n0 s5 F6 (own_eb x0 x1 x2 (2 : Int32) (by decide))) 0 [(.ref a1), (.int (2 : Int32)), (.long (x0 &&& (9223372036854775807 : Int64))), (.int (q0_1 x0 x1 x2)), (.int (q0_2 x0 x1 x2))] [] pd___BIJII_Z rfl rfl (st := [(.int (q0_2 x0 x1 x2)), (.int (q0_1 x0 x1 x2)), (.long (x0 &&& (9223372036854775807 : Int64))), (.int (2 : Int32)), (.ref a1)]) rfl (Ls := #[.val (.long x0), .second, .val (.int x1), .val (.int x2), .val (.long (x0 &&& (9223372036854775807 : Int64))), .second, .val (.int (q0_1 x0 x1 x2)), .val (.int (q0_2 x0 x1 x2)), .val (.ref a1)]) rfl (Nat.le_of_eq rfl) (by decide) (by decide) (by decide) (by decide)
      obtain ⟨rfl, M7, K7⟩ := Q7
      have N7 := Fr.app N5 M7
      have s7 : n0 ≤ T7.heap.size := Nat.le_trans s5 K7.1
      refine c7 ?_
      show OG p.tables e below _ (T7.setTop (mkF m 80 #[.val (.long x0), .second, .val (.int x1), .val (.int x2), .val (.long (x0 &&& (9223372036854775807 : Int64))), .second, .val (.int (q0_1 x0 x1 x2)), .val (.int (q0_2 x0 x1 x2)), .val (.ref a1)] [(.int (q0_5 x0 x1 x2))]))
      by_cases k3 : (q0_5 x0 x1 x2) = 0
      · refine o_ifY B7 80 420 at_80 (XT.i0_eq_t k3) (by decide) (by decide) ?_
        refine o_iconst B7 420 421 (0 : Int32) at_420 rfl (by decide) ?_
        refine o_retZ (t := .boolean) B7 421 at_421 hret hlk (by simp) (by decide) (by decide) ⟨(congrArg (fun z => some (Value.int z)) ((show nar .boolean (0 : Int32) = (0 : Int32) from rfl).trans (show f0 x0 x1 x2 = (0 : Int32) from (if_neg k1).trans ((if_neg k2).trans ((if_pos k3).trans (rfl)))).symm)), N7⟩
      · refine o_ifN B7 80 83 at_80 rfl (XT.i0_eq_f k3) ?_
        refine o_aload B7 83 85 (v := (.ref a1)) at_83 rfl rfl rfl ?_
        refine o_iconst B7 85 86 (3 : Int32) at_85 rfl (by decide) ?_
        refine o_lload B7 86 88 (v := (x0 &&& (9223372036854775807 : Int64))) at_86 rfl rfl ?_
        refine o_iload B7 88 90 (v := (q0_1 x0 x1 x2)) at_88 rfl rfl ?_
        refine o_iload B7 90 92 (v := (q0_2 x0 x1 x2)) at_90 rfl rfl ?_
        have F8 := (F6.keep K7 nin0)
        obtain ⟨v9, T9, L9, B9, Q9, c9⟩ := o_callS B7 92 95 at_92 rfl (hw _ (List.mem_of_getElem? (i := 9) rfl)) (hw _ (List.mem_of_getElem? (i := 10) rfl)) (hw _ (List.mem_of_getElem? (i := 11) rfl)) (hw _ (List.mem_of_getElem? (i := 12) rfl)) (by decide) (rm2 l Z a0 hw (o1_0 (fun _ => 0) (x0 &&& (9223372036854775807 : Int64)) (q0_1 x0 x1 x2) (q0_2 x0 x1 x2)) a1 (3 : Int32) (x0 &&& (9223372036854775807 : Int64)) (q0_1 x0 x1 x2) (q0_2 x0 x1 x2) T7.heap n0 s7 F8 (own_eb x0 x1 x2 (3 : Int32) (by decide))) 0 [(.ref a1), (.int (3 : Int32)), (.long (x0 &&& (9223372036854775807 : Int64))), (.int (q0_1 x0 x1 x2)), (.int (q0_2 x0 x1 x2))] [] pd___BIJII_Z rfl rfl (st := [(.int (q0_2 x0 x1 x2)), (.int (q0_1 x0 x1 x2)), (.long (x0 &&& (9223372036854775807 : Int64))), (.int (3 : Int32)), (.ref a1)]) rfl (Ls := #[.val (.long x0), .second, .val (.int x1), .val (.int x2), .val (.long (x0 &&& (9223372036854775807 : Int64))), .second, .val (.int (q0_1 x0 x1 x2)), .val (.int (q0_2 x0 x1 x2)), .val (.ref a1)]) rfl (Nat.le_of_eq rfl) (by decide) (by decide) (by decide) (by decide)
        obtain ⟨rfl, M9, K9⟩ := Q9
        have N9 := Fr.app N7 M9
        have s9 : n0 ≤ T9.heap.size := Nat.le_trans s7 K9.1
        refine c9 ?_
        show OG p.tables e below _ (T9.setTop (mkF m 95 #[.val (.long x0), .second, .val (.int x1), .val (.int x2), .val (.long (x0 &&& (9223372036854775807 : Int64))), .second, .val (.int (q0_1 x0 x1 x2)), .val (.int (q0_2 x0 x1 x2)), .val (.ref a1)] [(.int (q0_6 x0 x1 x2))]))
        by_cases k4 : (q0_6 x0 x1 x2) = 0
        · refine o_ifY B9 95 420 at_95 (XT.i0_eq_t k4) (by decide) (by decide) ?_
          refine o_iconst B9 420 421 (0 : Int32) at_420 rfl (by decide) ?_
          refine o_retZ (t := .boolean) B9 421 at_421 hret hlk (by simp) (by decide) (by decide) ⟨(congrArg (fun z => some (Value.int z)) ((show nar .boolean (0 : Int32) = (0 : Int32) from rfl).trans (show f0 x0 x1 x2 = (0 : Int32) from (if_neg k1).trans ((if_neg k2).trans ((if_neg k3).trans ((if_pos k4).trans (rfl))))).symm)), N9⟩
        · refine o_ifN B9 95 98 at_95 rfl (XT.i0_eq_f k4) ?_
          refine o_aload B9 98 100 (v := (.ref a1)) at_98 rfl rfl rfl ?_
          refine o_iconst B9 100 101 (4 : Int32) at_100 rfl (by decide) ?_
          refine o_lload B9 101 103 (v := (x0 &&& (9223372036854775807 : Int64))) at_101 rfl rfl ?_
          refine o_iload B9 103 105 (v := (q0_1 x0 x1 x2)) at_103 rfl rfl ?_
          refine o_iload B9 105 107 (v := (q0_2 x0 x1 x2)) at_105 rfl rfl ?_
          have F10 := (F8.keep K9 nin0)
          obtain ⟨v11, T11, L11, B11, Q11, c11⟩ := o_callS B9 107 110 at_107 rfl (hw _ (List.mem_of_getElem? (i := 9) rfl)) (hw _ (List.mem_of_getElem? (i := 10) rfl)) (hw _ (List.mem_of_getElem? (i := 11) rfl)) (hw _ (List.mem_of_getElem? (i := 12) rfl)) (by decide) (rm2 l Z a0 hw (o1_0 (fun _ => 0) (x0 &&& (9223372036854775807 : Int64)) (q0_1 x0 x1 x2) (q0_2 x0 x1 x2)) a1 (4 : Int32) (x0 &&& (9223372036854775807 : Int64)) (q0_1 x0 x1 x2) (q0_2 x0 x1 x2) T9.heap n0 s9 F10 (own_eb x0 x1 x2 (4 : Int32) (by decide))) 0 [(.ref a1), (.int (4 : Int32)), (.long (x0 &&& (9223372036854775807 : Int64))), (.int (q0_1 x0 x1 x2)), (.int (q0_2 x0 x1 x2))] [] pd___BIJII_Z rfl rfl (st := [(.int (q0_2 x0 x1 x2)), (.int (q0_1 x0 x1 x2)), (.long (x0 &&& (9223372036854775807 : Int64))), (.int (4 : Int32)), (.ref a1)]) rfl (Ls := #[.val (.long x0), .second, .val (.int x1), .val (.int x2), .val (.long (x0 &&& (9223372036854775807 : Int64))), .second, .val (.int (q0_1 x0 x1 x2)), .val (.int (q0_2 x0 x1 x2)), .val (.ref a1)]) rfl (Nat.le_of_eq rfl) (by decide) (by decide) (by decide) (by decide)
          obtain ⟨rfl, M11, K11⟩ := Q11
          have N11 := Fr.app N9 M11
          have s11 : n0 ≤ T11.heap.size := Nat.le_trans s9 K11.1
          refine c11 ?_
          show OG p.tables e below _ (T11.setTop (mkF m 110 #[.val (.long x0), .second, .val (.int x1), .val (.int x2), .val (.long (x0 &&& (9223372036854775807 : Int64))), .second, .val (.int (q0_1 x0 x1 x2)), .val (.int (q0_2 x0 x1 x2)), .val (.ref a1)] [(.int (q0_7 x0 x1 x2))]))
          by_cases k5 : (q0_7 x0 x1 x2) = 0
          · refine o_ifY B11 110 420 at_110 (XT.i0_eq_t k5) (by decide) (by decide) ?_
            refine o_iconst B11 420 421 (0 : Int32) at_420 rfl (by decide) ?_
            refine o_retZ (t := .boolean) B11 421 at_421 hret hlk (by simp) (by decide) (by decide) ⟨(congrArg (fun z => some (Value.int z)) ((show nar .boolean (0 : Int32) = (0 : Int32) from rfl).trans (show f0 x0 x1 x2 = (0 : Int32) from (if_neg k1).trans ((if_neg k2).trans ((if_neg k3).trans ((if_neg k4).trans ((if_pos k5).trans (rfl)))))).symm)), N11⟩
          · refine o_ifN B11 110 113 at_110 rfl (XT.i0_eq_f k5) ?_
            refine o_aload B11 113 115 (v := (.ref a1)) at_113 rfl rfl rfl ?_
            refine o_iconst B11 115 116 (5 : Int32) at_115 rfl (by decide) ?_
            refine o_lload B11 116 118 (v := (x0 &&& (9223372036854775807 : Int64))) at_116 rfl rfl ?_
            refine o_iload B11 118 120 (v := (q0_1 x0 x1 x2)) at_118 rfl rfl ?_
            refine o_iload B11 120 122 (v := (q0_2 x0 x1 x2)) at_120 rfl rfl ?_
            have F12 := (F10.keep K11 nin0)
            obtain ⟨v13, T13, L13, B13, Q13, c13⟩ := o_callS B11 122 125 at_122 rfl (hw _ (List.mem_of_getElem? (i := 9) rfl)) (hw _ (List.mem_of_getElem? (i := 10) rfl)) (hw _ (List.mem_of_getElem? (i := 11) rfl)) (hw _ (List.mem_of_getElem? (i := 12) rfl)) (by decide) (rm2 l Z a0 hw (o1_0 (fun _ => 0) (x0 &&& (9223372036854775807 : Int64)) (q0_1 x0 x1 x2) (q0_2 x0 x1 x2)) a1 (5 : Int32) (x0 &&& (9223372036854775807 : Int64)) (q0_1 x0 x1 x2) (q0_2 x0 x1 x2) T11.heap n0 s11 F12 (own_eb x0 x1 x2 (5 : Int32) (by decide))) 0 [(.ref a1), (.int (5 : Int32)), (.long (x0 &&& (9223372036854775807 : Int64))), (.int (q0_1 x0 x1 x2)), (.int (q0_2 x0 x1 x2))] [] pd___BIJII_Z rfl rfl (st := [(.int (q0_2 x0 x1 x2)), (.int (q0_1 x0 x1 x2)), (.long (x0 &&& (9223372036854775807 : Int64))), (.int (5 : Int32)), (.ref a1)]) rfl (Ls := #[.val (.long x0), .second, .val (.int x1), .val (.int x2), .val (.long (x0 &&& (9223372036854775807 : Int64))), .second, .val (.int (q0_1 x0 x1 x2)), .val (.int (q0_2 x0 x1 x2)), .val (.ref a1)]) rfl (Nat.le_of_eq rfl) (by decide) (by decide) (by decide) (by decide)
            obtain ⟨rfl, M13, K13⟩ := Q13
            have N13 := Fr.app N11 M13
            have s13 : n0 ≤ T13.heap.size := Nat.le_trans s11 K13.1
            refine c13 ?_
            show OG p.tables e below _ (T13.setTop (mkF m 125 #[.val (.long x0), .second, .val (.int x1), .val (.int x2), .val (.long (x0 &&& (9223372036854775807 : Int64))), .second, .val (.int (q0_1 x0 x1 x2)), .val (.int (q0_2 x0 x1 x2)), .val (.ref a1)] [(.int (q0_8 x0 x1 x2))]))
            by_cases k6 : (q0_8 x0 x1 x2) = 0
            · refine o_ifY B13 125 420 at_125 (XT.i0_eq_t k6) (by decide) (by decide) ?_
              refine o_iconst B13 420 421 (0 : Int32) at_420 rfl (by decide) ?_
              refine o_retZ (t := .boolean) B13 421 at_421 hret hlk (by simp) (by decide) (by decide) ⟨(congrArg (fun z => some (Value.int z)) ((show nar .boolean (0 : Int32) = (0 : Int32) from rfl).trans (show f0 x0 x1 x2 = (0 : Int32) from (if_neg k1).trans ((if_neg k2).trans ((if_neg k3).trans ((if_neg k4).trans ((if_neg k5).trans ((if_pos k6).trans (rfl))))))).symm)), N13⟩
            · refine o_ifN B13 125 128 at_125 rfl (XT.i0_eq_f k6) ?_
              refine o_aload B13 128 130 (v := (.ref a1)) at_128 rfl rfl rfl ?_
              refine o_bipush B13 130 132 (6 : Int32) at_130 rfl (by decide) ?_
              refine o_lload B13 132 134 (v := (x0 &&& (9223372036854775807 : Int64))) at_132 rfl rfl ?_
              refine o_iload B13 134 136 (v := (q0_1 x0 x1 x2)) at_134 rfl rfl ?_
              refine o_iload B13 136 138 (v := (q0_2 x0 x1 x2)) at_136 rfl rfl ?_
              have F14 := (F12.keep K13 nin0)
              obtain ⟨v15, T15, L15, B15, Q15, c15⟩ := o_callS B13 138 141 at_138 rfl (hw _ (List.mem_of_getElem? (i := 9) rfl)) (hw _ (List.mem_of_getElem? (i := 10) rfl)) (hw _ (List.mem_of_getElem? (i := 11) rfl)) (hw _ (List.mem_of_getElem? (i := 12) rfl)) (by decide) (rm2 l Z a0 hw (o1_0 (fun _ => 0) (x0 &&& (9223372036854775807 : Int64)) (q0_1 x0 x1 x2) (q0_2 x0 x1 x2)) a1 (6 : Int32) (x0 &&& (9223372036854775807 : Int64)) (q0_1 x0 x1 x2) (q0_2 x0 x1 x2) T13.heap n0 s13 F14 (own_eb x0 x1 x2 (6 : Int32) (by decide))) 0 [(.ref a1), (.int (6 : Int32)), (.long (x0 &&& (9223372036854775807 : Int64))), (.int (q0_1 x0 x1 x2)), (.int (q0_2 x0 x1 x2))] [] pd___BIJII_Z rfl rfl (st := [(.int (q0_2 x0 x1 x2)), (.int (q0_1 x0 x1 x2)), (.long (x0 &&& (9223372036854775807 : Int64))), (.int (6 : Int32)), (.ref a1)]) rfl (Ls := #[.val (.long x0), .second, .val (.int x1), .val (.int x2), .val (.long (x0 &&& (9223372036854775807 : Int64))), .second, .val (.int (q0_1 x0 x1 x2)), .val (.int (q0_2 x0 x1 x2)), .val (.ref a1)]) rfl (Nat.le_of_eq rfl) (by decide) (by decide) (by decide) (by decide)
              obtain ⟨rfl, M15, K15⟩ := Q15
              have N15 := Fr.app N13 M15
              have s15 : n0 ≤ T15.heap.size := Nat.le_trans s13 K15.1
              refine c15 ?_
              show OG p.tables e below _ (T15.setTop (mkF m 141 #[.val (.long x0), .second, .val (.int x1), .val (.int x2), .val (.long (x0 &&& (9223372036854775807 : Int64))), .second, .val (.int (q0_1 x0 x1 x2)), .val (.int (q0_2 x0 x1 x2)), .val (.ref a1)] [(.int (q0_9 x0 x1 x2))]))
              by_cases k7 : (q0_9 x0 x1 x2) = 0
              · refine o_ifY B15 141 420 at_141 (XT.i0_eq_t k7) (by decide) (by decide) ?_
                refine o_iconst B15 420 421 (0 : Int32) at_420 rfl (by decide) ?_
                refine o_retZ (t := .boolean) B15 421 at_421 hret hlk (by simp) (by decide) (by decide) ⟨(congrArg (fun z => some (Value.int z)) ((show nar .boolean (0 : Int32) = (0 : Int32) from rfl).trans (show f0 x0 x1 x2 = (0 : Int32) from (if_neg k1).trans ((if_neg k2).trans ((if_neg k3).trans ((if_neg k4).trans ((if_neg k5).trans ((if_neg k6).trans ((if_pos k7).trans (rfl)))))))).symm)), N15⟩
              · refine o_ifN B15 141 144 at_141 rfl (XT.i0_eq_f k7) ?_
                refine o_aload B15 144 146 (v := (.ref a1)) at_144 rfl rfl rfl ?_
                refine o_bipush B15 146 148 (7 : Int32) at_146 rfl (by decide) ?_
                refine o_lload B15 148 150 (v := (x0 &&& (9223372036854775807 : Int64))) at_148 rfl rfl ?_
                refine o_iload B15 150 152 (v := (q0_1 x0 x1 x2)) at_150 rfl rfl ?_
                refine o_iload B15 152 154 (v := (q0_2 x0 x1 x2)) at_152 rfl rfl ?_
                have F16 := (F14.keep K15 nin0)
                obtain ⟨v17, T17, L17, B17, Q17, c17⟩ := o_callS B15 154 157 at_154 rfl (hw _ (List.mem_of_getElem? (i := 9) rfl)) (hw _ (List.mem_of_getElem? (i := 10) rfl)) (hw _ (List.mem_of_getElem? (i := 11) rfl)) (hw _ (List.mem_of_getElem? (i := 12) rfl)) (by decide) (rm2 l Z a0 hw (o1_0 (fun _ => 0) (x0 &&& (9223372036854775807 : Int64)) (q0_1 x0 x1 x2) (q0_2 x0 x1 x2)) a1 (7 : Int32) (x0 &&& (9223372036854775807 : Int64)) (q0_1 x0 x1 x2) (q0_2 x0 x1 x2) T15.heap n0 s15 F16 (own_eb x0 x1 x2 (7 : Int32) (by decide))) 0 [(.ref a1), (.int (7 : Int32)), (.long (x0 &&& (9223372036854775807 : Int64))), (.int (q0_1 x0 x1 x2)), (.int (q0_2 x0 x1 x2))] [] pd___BIJII_Z rfl rfl (st := [(.int (q0_2 x0 x1 x2)), (.int (q0_1 x0 x1 x2)), (.long (x0 &&& (9223372036854775807 : Int64))), (.int (7 : Int32)), (.ref a1)]) rfl (Ls := #[.val (.long x0), .second, .val (.int x1), .val (.int x2), .val (.long (x0 &&& (9223372036854775807 : Int64))), .second, .val (.int (q0_1 x0 x1 x2)), .val (.int (q0_2 x0 x1 x2)), .val (.ref a1)]) rfl (Nat.le_of_eq rfl) (by decide) (by decide) (by decide) (by decide)
                obtain ⟨rfl, M17, K17⟩ := Q17
                have N17 := Fr.app N15 M17
                have s17 : n0 ≤ T17.heap.size := Nat.le_trans s15 K17.1
                refine c17 ?_
                show OG p.tables e below _ (T17.setTop (mkF m 157 #[.val (.long x0), .second, .val (.int x1), .val (.int x2), .val (.long (x0 &&& (9223372036854775807 : Int64))), .second, .val (.int (q0_1 x0 x1 x2)), .val (.int (q0_2 x0 x1 x2)), .val (.ref a1)] [(.int (q0_10 x0 x1 x2))]))
                by_cases k8 : (q0_10 x0 x1 x2) = 0
                · refine o_ifY B17 157 420 at_157 (XT.i0_eq_t k8) (by decide) (by decide) ?_
                  refine o_iconst B17 420 421 (0 : Int32) at_420 rfl (by decide) ?_
                  refine o_retZ (t := .boolean) B17 421 at_421 hret hlk (by simp) (by decide) (by decide) ⟨(congrArg (fun z => some (Value.int z)) ((show nar .boolean (0 : Int32) = (0 : Int32) from rfl).trans (show f0 x0 x1 x2 = (0 : Int32) from (if_neg k1).trans ((if_neg k2).trans ((if_neg k3).trans ((if_neg k4).trans ((if_neg k5).trans ((if_neg k6).trans ((if_neg k7).trans ((if_pos k8).trans (rfl))))))))).symm)), N17⟩
                · refine o_ifN B17 157 160 at_157 rfl (XT.i0_eq_f k8) ?_
                  refine o_aload B17 160 162 (v := (.ref a1)) at_160 rfl rfl rfl ?_
                  refine o_bipush B17 162 164 (8 : Int32) at_162 rfl (by decide) ?_
                  refine o_lload B17 164 166 (v := (x0 &&& (9223372036854775807 : Int64))) at_164 rfl rfl ?_
                  refine o_iload B17 166 168 (v := (q0_1 x0 x1 x2)) at_166 rfl rfl ?_
                  refine o_iload B17 168 170 (v := (q0_2 x0 x1 x2)) at_168 rfl rfl ?_
                  have F18 := (F16.keep K17 nin0)
                  obtain ⟨v19, T19, L19, B19, Q19, c19⟩ := o_callS B17 170 173 at_170 rfl (hw _ (List.mem_of_getElem? (i := 9) rfl)) (hw _ (List.mem_of_getElem? (i := 10) rfl)) (hw _ (List.mem_of_getElem? (i := 11) rfl)) (hw _ (List.mem_of_getElem? (i := 12) rfl)) (by decide) (rm2 l Z a0 hw (o1_0 (fun _ => 0) (x0 &&& (9223372036854775807 : Int64)) (q0_1 x0 x1 x2) (q0_2 x0 x1 x2)) a1 (8 : Int32) (x0 &&& (9223372036854775807 : Int64)) (q0_1 x0 x1 x2) (q0_2 x0 x1 x2) T17.heap n0 s17 F18 (own_eb x0 x1 x2 (8 : Int32) (by decide))) 0 [(.ref a1), (.int (8 : Int32)), (.long (x0 &&& (9223372036854775807 : Int64))), (.int (q0_1 x0 x1 x2)), (.int (q0_2 x0 x1 x2))] [] pd___BIJII_Z rfl rfl (st := [(.int (q0_2 x0 x1 x2)), (.int (q0_1 x0 x1 x2)), (.long (x0 &&& (9223372036854775807 : Int64))), (.int (8 : Int32)), (.ref a1)]) rfl (Ls := #[.val (.long x0), .second, .val (.int x1), .val (.int x2), .val (.long (x0 &&& (9223372036854775807 : Int64))), .second, .val (.int (q0_1 x0 x1 x2)), .val (.int (q0_2 x0 x1 x2)), .val (.ref a1)]) rfl (Nat.le_of_eq rfl) (by decide) (by decide) (by decide) (by decide)
                  obtain ⟨rfl, M19, K19⟩ := Q19
                  have N19 := Fr.app N17 M19
                  have s19 : n0 ≤ T19.heap.size := Nat.le_trans s17 K19.1
                  refine c19 ?_
                  show OG p.tables e below _ (T19.setTop (mkF m 173 #[.val (.long x0), .second, .val (.int x1), .val (.int x2), .val (.long (x0 &&& (9223372036854775807 : Int64))), .second, .val (.int (q0_1 x0 x1 x2)), .val (.int (q0_2 x0 x1 x2)), .val (.ref a1)] [(.int (q0_11 x0 x1 x2))]))
                  by_cases k9 : (q0_11 x0 x1 x2) = 0
                  · refine o_ifY B19 173 420 at_173 (XT.i0_eq_t k9) (by decide) (by decide) ?_
                    refine o_iconst B19 420 421 (0 : Int32) at_420 rfl (by decide) ?_
                    refine o_retZ (t := .boolean) B19 421 at_421 hret hlk (by simp) (by decide) (by decide) ⟨(congrArg (fun z => some (Value.int z)) ((show nar .boolean (0 : Int32) = (0 : Int32) from rfl).trans (show f0 x0 x1 x2 = (0 : Int32) from (if_neg k1).trans ((if_neg k2).trans ((if_neg k3).trans ((if_neg k4).trans ((if_neg k5).trans ((if_neg k6).trans ((if_neg k7).trans ((if_neg k8).trans ((if_pos k9).trans (rfl)))))))))).symm)), N19⟩
                  · refine o_ifN B19 173 176 at_173 rfl (XT.i0_eq_f k9) ?_
                    refine o_aload B19 176 178 (v := (.ref a1)) at_176 rfl rfl rfl ?_
                    refine o_bipush B19 178 180 (9 : Int32) at_178 rfl (by decide) ?_
                    refine o_lload B19 180 182 (v := (x0 &&& (9223372036854775807 : Int64))) at_180 rfl rfl ?_
                    refine o_iload B19 182 184 (v := (q0_1 x0 x1 x2)) at_182 rfl rfl ?_
                    refine o_iload B19 184 186 (v := (q0_2 x0 x1 x2)) at_184 rfl rfl ?_
                    have F20 := (F18.keep K19 nin0)
                    obtain ⟨v21, T21, L21, B21, Q21, c21⟩ := o_callS B19 186 189 at_186 rfl (hw _ (List.mem_of_getElem? (i := 9) rfl)) (hw _ (List.mem_of_getElem? (i := 10) rfl)) (hw _ (List.mem_of_getElem? (i := 11) rfl)) (hw _ (List.mem_of_getElem? (i := 12) rfl)) (by decide) (rm2 l Z a0 hw (o1_0 (fun _ => 0) (x0 &&& (9223372036854775807 : Int64)) (q0_1 x0 x1 x2) (q0_2 x0 x1 x2)) a1 (9 : Int32) (x0 &&& (9223372036854775807 : Int64)) (q0_1 x0 x1 x2) (q0_2 x0 x1 x2) T19.heap n0 s19 F20 (own_eb x0 x1 x2 (9 : Int32) (by decide))) 0 [(.ref a1), (.int (9 : Int32)), (.long (x0 &&& (9223372036854775807 : Int64))), (.int (q0_1 x0 x1 x2)), (.int (q0_2 x0 x1 x2))] [] pd___BIJII_Z rfl rfl (st := [(.int (q0_2 x0 x1 x2)), (.int (q0_1 x0 x1 x2)), (.long (x0 &&& (9223372036854775807 : Int64))), (.int (9 : Int32)), (.ref a1)]) rfl (Ls := #[.val (.long x0), .second, .val (.int x1), .val (.int x2), .val (.long (x0 &&& (9223372036854775807 : Int64))), .second, .val (.int (q0_1 x0 x1 x2)), .val (.int (q0_2 x0 x1 x2)), .val (.ref a1)]) rfl (Nat.le_of_eq rfl) (by decide) (by decide) (by decide) (by decide)
                    obtain ⟨rfl, M21, K21⟩ := Q21
                    have N21 := Fr.app N19 M21
                    have s21 : n0 ≤ T21.heap.size := Nat.le_trans s19 K21.1
                    refine c21 ?_
                    show OG p.tables e below _ (T21.setTop (mkF m 189 #[.val (.long x0), .second, .val (.int x1), .val (.int x2), .val (.long (x0 &&& (9223372036854775807 : Int64))), .second, .val (.int (q0_1 x0 x1 x2)), .val (.int (q0_2 x0 x1 x2)), .val (.ref a1)] [(.int (q0_12 x0 x1 x2))]))
                    by_cases k10 : (q0_12 x0 x1 x2) = 0
                    · refine o_ifY B21 189 420 at_189 (XT.i0_eq_t k10) (by decide) (by decide) ?_
                      refine o_iconst B21 420 421 (0 : Int32) at_420 rfl (by decide) ?_
                      refine o_retZ (t := .boolean) B21 421 at_421 hret hlk (by simp) (by decide) (by decide) ⟨(congrArg (fun z => some (Value.int z)) ((show nar .boolean (0 : Int32) = (0 : Int32) from rfl).trans (show f0 x0 x1 x2 = (0 : Int32) from (if_neg k1).trans ((if_neg k2).trans ((if_neg k3).trans ((if_neg k4).trans ((if_neg k5).trans ((if_neg k6).trans ((if_neg k7).trans ((if_neg k8).trans ((if_neg k9).trans ((if_pos k10).trans (rfl))))))))))).symm)), N21⟩
                    · refine o_ifN B21 189 192 at_189 rfl (XT.i0_eq_f k10) ?_
                      refine o_aload B21 192 194 (v := (.ref a1)) at_192 rfl rfl rfl ?_
                      refine o_bipush B21 194 196 (10 : Int32) at_194 rfl (by decide) ?_
                      refine o_lload B21 196 198 (v := (x0 &&& (9223372036854775807 : Int64))) at_196 rfl rfl ?_
                      refine o_iload B21 198 200 (v := (q0_1 x0 x1 x2)) at_198 rfl rfl ?_
                      refine o_iload B21 200 202 (v := (q0_2 x0 x1 x2)) at_200 rfl rfl ?_
                      have F22 := (F20.keep K21 nin0)
                      obtain ⟨v23, T23, L23, B23, Q23, c23⟩ := o_callS B21 202 205 at_202 rfl (hw _ (List.mem_of_getElem? (i := 9) rfl)) (hw _ (List.mem_of_getElem? (i := 10) rfl)) (hw _ (List.mem_of_getElem? (i := 11) rfl)) (hw _ (List.mem_of_getElem? (i := 12) rfl)) (by decide) (rm2 l Z a0 hw (o1_0 (fun _ => 0) (x0 &&& (9223372036854775807 : Int64)) (q0_1 x0 x1 x2) (q0_2 x0 x1 x2)) a1 (10 : Int32) (x0 &&& (9223372036854775807 : Int64)) (q0_1 x0 x1 x2) (q0_2 x0 x1 x2) T21.heap n0 s21 F22 (own_eb x0 x1 x2 (10 : Int32) (by decide))) 0 [(.ref a1), (.int (10 : Int32)), (.long (x0 &&& (9223372036854775807 : Int64))), (.int (q0_1 x0 x1 x2)), (.int (q0_2 x0 x1 x2))] [] pd___BIJII_Z rfl rfl (st := [(.int (q0_2 x0 x1 x2)), (.int (q0_1 x0 x1 x2)), (.long (x0 &&& (9223372036854775807 : Int64))), (.int (10 : Int32)), (.ref a1)]) rfl (Ls := #[.val (.long x0), .second, .val (.int x1), .val (.int x2), .val (.long (x0 &&& (9223372036854775807 : Int64))), .second, .val (.int (q0_1 x0 x1 x2)), .val (.int (q0_2 x0 x1 x2)), .val (.ref a1)]) rfl (Nat.le_of_eq rfl) (by decide) (by decide) (by decide) (by decide)
                      obtain ⟨rfl, M23, K23⟩ := Q23
                      have N23 := Fr.app N21 M23
                      have s23 : n0 ≤ T23.heap.size := Nat.le_trans s21 K23.1
                      refine c23 ?_
                      show OG p.tables e below _ (T23.setTop (mkF m 205 #[.val (.long x0), .second, .val (.int x1), .val (.int x2), .val (.long (x0 &&& (9223372036854775807 : Int64))), .second, .val (.int (q0_1 x0 x1 x2)), .val (.int (q0_2 x0 x1 x2)), .val (.ref a1)] [(.int (q0_13 x0 x1 x2))]))
                      by_cases k11 : (q0_13 x0 x1 x2) = 0
                      · refine o_ifY B23 205 420 at_205 (XT.i0_eq_t k11) (by decide) (by decide) ?_
                        refine o_iconst B23 420 421 (0 : Int32) at_420 rfl (by decide) ?_
                        refine o_retZ (t := .boolean) B23 421 at_421 hret hlk (by simp) (by decide) (by decide) ⟨(congrArg (fun z => some (Value.int z)) ((show nar .boolean (0 : Int32) = (0 : Int32) from rfl).trans (show f0 x0 x1 x2 = (0 : Int32) from (if_neg k1).trans ((if_neg k2).trans ((if_neg k3).trans ((if_neg k4).trans ((if_neg k5).trans ((if_neg k6).trans ((if_neg k7).trans ((if_neg k8).trans ((if_neg k9).trans ((if_neg k10).trans ((if_pos k11).trans (rfl)))))))))))).symm)), N23⟩
                      · refine o_ifN B23 205 208 at_205 rfl (XT.i0_eq_f k11) ?_
                        refine o_aload B23 208 210 (v := (.ref a1)) at_208 rfl rfl rfl ?_
                        refine o_bipush B23 210 212 (11 : Int32) at_210 rfl (by decide) ?_
                        refine o_lload B23 212 214 (v := (x0 &&& (9223372036854775807 : Int64))) at_212 rfl rfl ?_
                        refine o_iload B23 214 216 (v := (q0_1 x0 x1 x2)) at_214 rfl rfl ?_
                        refine o_iload B23 216 218 (v := (q0_2 x0 x1 x2)) at_216 rfl rfl ?_
                        have F24 := (F22.keep K23 nin0)
                        obtain ⟨v25, T25, L25, B25, Q25, c25⟩ := o_callS B23 218 221 at_218 rfl (hw _ (List.mem_of_getElem? (i := 9) rfl)) (hw _ (List.mem_of_getElem? (i := 10) rfl)) (hw _ (List.mem_of_getElem? (i := 11) rfl)) (hw _ (List.mem_of_getElem? (i := 12) rfl)) (by decide) (rm2 l Z a0 hw (o1_0 (fun _ => 0) (x0 &&& (9223372036854775807 : Int64)) (q0_1 x0 x1 x2) (q0_2 x0 x1 x2)) a1 (11 : Int32) (x0 &&& (9223372036854775807 : Int64)) (q0_1 x0 x1 x2) (q0_2 x0 x1 x2) T23.heap n0 s23 F24 (own_eb x0 x1 x2 (11 : Int32) (by decide))) 0 [(.ref a1), (.int (11 : Int32)), (.long (x0 &&& (9223372036854775807 : Int64))), (.int (q0_1 x0 x1 x2)), (.int (q0_2 x0 x1 x2))] [] pd___BIJII_Z rfl rfl (st := [(.int (q0_2 x0 x1 x2)), (.int (q0_1 x0 x1 x2)), (.long (x0 &&& (9223372036854775807 : Int64))), (.int (11 : Int32)), (.ref a1)]) rfl (Ls := #[.val (.long x0), .second, .val (.int x1), .val (.int x2), .val (.long (x0 &&& (9223372036854775807 : Int64))), .second, .val (.int (q0_1 x0 x1 x2)), .val (.int (q0_2 x0 x1 x2)), .val (.ref a1)]) rfl (Nat.le_of_eq rfl) (by decide) (by decide) (by decide) (by decide)
                        obtain ⟨rfl, M25, K25⟩ := Q25
                        have N25 := Fr.app N23 M25
                        have s25 : n0 ≤ T25.heap.size := Nat.le_trans s23 K25.1
                        refine c25 ?_
                        show OG p.tables e below _ (T25.setTop (mkF m 221 #[.val (.long x0), .second, .val (.int x1), .val (.int x2), .val (.long (x0 &&& (9223372036854775807 : Int64))), .second, .val (.int (q0_1 x0 x1 x2)), .val (.int (q0_2 x0 x1 x2)), .val (.ref a1)] [(.int (q0_14 x0 x1 x2))]))
                        by_cases k12 : (q0_14 x0 x1 x2) = 0
                        · refine o_ifY B25 221 420 at_221 (XT.i0_eq_t k12) (by decide) (by decide) ?_
                          refine o_iconst B25 420 421 (0 : Int32) at_420 rfl (by decide) ?_
                          refine o_retZ (t := .boolean) B25 421 at_421 hret hlk (by simp) (by decide) (by decide) ⟨(congrArg (fun z => some (Value.int z)) ((show nar .boolean (0 : Int32) = (0 : Int32) from rfl).trans (show f0 x0 x1 x2 = (0 : Int32) from (if_neg k1).trans ((if_neg k2).trans ((if_neg k3).trans ((if_neg k4).trans ((if_neg k5).trans ((if_neg k6).trans ((if_neg k7).trans ((if_neg k8).trans ((if_neg k9).trans ((if_neg k10).trans ((if_neg k11).trans ((if_pos k12).trans (rfl))))))))))))).symm)), N25⟩
                        · refine o_ifN B25 221 224 at_221 rfl (XT.i0_eq_f k12) ?_
                          refine o_aload B25 224 226 (v := (.ref a1)) at_224 rfl rfl rfl ?_
                          refine o_bipush B25 226 228 (12 : Int32) at_226 rfl (by decide) ?_
                          refine o_lload B25 228 230 (v := (x0 &&& (9223372036854775807 : Int64))) at_228 rfl rfl ?_
                          refine o_iload B25 230 232 (v := (q0_1 x0 x1 x2)) at_230 rfl rfl ?_
                          refine o_iload B25 232 234 (v := (q0_2 x0 x1 x2)) at_232 rfl rfl ?_
                          have F26 := (F24.keep K25 nin0)
                          obtain ⟨v27, T27, L27, B27, Q27, c27⟩ := o_callS B25 234 237 at_234 rfl (hw _ (List.mem_of_getElem? (i := 9) rfl)) (hw _ (List.mem_of_getElem? (i := 10) rfl)) (hw _ (List.mem_of_getElem? (i := 11) rfl)) (hw _ (List.mem_of_getElem? (i := 12) rfl)) (by decide) (rm2 l Z a0 hw (o1_0 (fun _ => 0) (x0 &&& (9223372036854775807 : Int64)) (q0_1 x0 x1 x2) (q0_2 x0 x1 x2)) a1 (12 : Int32) (x0 &&& (9223372036854775807 : Int64)) (q0_1 x0 x1 x2) (q0_2 x0 x1 x2) T25.heap n0 s25 F26 (own_eb x0 x1 x2 (12 : Int32) (by decide))) 0 [(.ref a1), (.int (12 : Int32)), (.long (x0 &&& (9223372036854775807 : Int64))), (.int (q0_1 x0 x1 x2)), (.int (q0_2 x0 x1 x2))] [] pd___BIJII_Z rfl rfl (st := [(.int (q0_2 x0 x1 x2)), (.int (q0_1 x0 x1 x2)), (.long (x0 &&& (9223372036854775807 : Int64))), (.int (12 : Int32)), (.ref a1)]) rfl (Ls := #[.val (.long x0), .second, .val (.int x1), .val (.int x2), .val (.long (x0 &&& (9223372036854775807 : Int64))), .second, .val (.int (q0_1 x0 x1 x2)), .val (.int (q0_2 x0 x1 x2)), .val (.ref a1)]) rfl (Nat.le_of_eq rfl) (by decide) (by decide) (by decide) (by decide)
                          obtain ⟨rfl, M27, K27⟩ := Q27
                          have N27 := Fr.app N25 M27
                          have s27 : n0 ≤ T27.heap.size := Nat.le_trans s25 K27.1
                          refine c27 ?_
                          show OG p.tables e below _ (T27.setTop (mkF m 237 #[.val (.long x0), .second, .val (.int x1), .val (.int x2), .val (.long (x0 &&& (9223372036854775807 : Int64))), .second, .val (.int (q0_1 x0 x1 x2)), .val (.int (q0_2 x0 x1 x2)), .val (.ref a1)] [(.int (q0_15 x0 x1 x2))]))
                          by_cases k13 : (q0_15 x0 x1 x2) = 0
                          · refine o_ifY B27 237 420 at_237 (XT.i0_eq_t k13) (by decide) (by decide) ?_
                            refine o_iconst B27 420 421 (0 : Int32) at_420 rfl (by decide) ?_
                            refine o_retZ (t := .boolean) B27 421 at_421 hret hlk (by simp) (by decide) (by decide) ⟨(congrArg (fun z => some (Value.int z)) ((show nar .boolean (0 : Int32) = (0 : Int32) from rfl).trans (show f0 x0 x1 x2 = (0 : Int32) from (if_neg k1).trans ((if_neg k2).trans ((if_neg k3).trans ((if_neg k4).trans ((if_neg k5).trans ((if_neg k6).trans ((if_neg k7).trans ((if_neg k8).trans ((if_neg k9).trans ((if_neg k10).trans ((if_neg k11).trans ((if_neg k12).trans ((if_pos k13).trans (rfl)))))))))))))).symm)), N27⟩
                          · refine o_ifN B27 237 240 at_237 rfl (XT.i0_eq_f k13) ?_
                            refine o_aload B27 240 242 (v := (.ref a1)) at_240 rfl rfl rfl ?_
                            refine o_bipush B27 242 244 (13 : Int32) at_242 rfl (by decide) ?_
                            refine o_lload B27 244 246 (v := (x0 &&& (9223372036854775807 : Int64))) at_244 rfl rfl ?_
                            refine o_iload B27 246 248 (v := (q0_1 x0 x1 x2)) at_246 rfl rfl ?_
                            refine o_iload B27 248 250 (v := (q0_2 x0 x1 x2)) at_248 rfl rfl ?_
                            have F28 := (F26.keep K27 nin0)
                            obtain ⟨v29, T29, L29, B29, Q29, c29⟩ := o_callS B27 250 253 at_250 rfl (hw _ (List.mem_of_getElem? (i := 9) rfl)) (hw _ (List.mem_of_getElem? (i := 10) rfl)) (hw _ (List.mem_of_getElem? (i := 11) rfl)) (hw _ (List.mem_of_getElem? (i := 12) rfl)) (by decide) (rm2 l Z a0 hw (o1_0 (fun _ => 0) (x0 &&& (9223372036854775807 : Int64)) (q0_1 x0 x1 x2) (q0_2 x0 x1 x2)) a1 (13 : Int32) (x0 &&& (9223372036854775807 : Int64)) (q0_1 x0 x1 x2) (q0_2 x0 x1 x2) T27.heap n0 s27 F28 (own_eb x0 x1 x2 (13 : Int32) (by decide))) 0 [(.ref a1), (.int (13 : Int32)), (.long (x0 &&& (9223372036854775807 : Int64))), (.int (q0_1 x0 x1 x2)), (.int (q0_2 x0 x1 x2))] [] pd___BIJII_Z rfl rfl (st := [(.int (q0_2 x0 x1 x2)), (.int (q0_1 x0 x1 x2)), (.long (x0 &&& (9223372036854775807 : Int64))), (.int (13 : Int32)), (.ref a1)]) rfl (Ls := #[.val (.long x0), .second, .val (.int x1), .val (.int x2), .val (.long (x0 &&& (9223372036854775807 : Int64))), .second, .val (.int (q0_1 x0 x1 x2)), .val (.int (q0_2 x0 x1 x2)), .val (.ref a1)]) rfl (Nat.le_of_eq rfl) (by decide) (by decide) (by decide) (by decide)
                            obtain ⟨rfl, M29, K29⟩ := Q29
                            have N29 := Fr.app N27 M29
                            have s29 : n0 ≤ T29.heap.size := Nat.le_trans s27 K29.1
                            refine c29 ?_
                            show OG p.tables e below _ (T29.setTop (mkF m 253 #[.val (.long x0), .second, .val (.int x1), .val (.int x2), .val (.long (x0 &&& (9223372036854775807 : Int64))), .second, .val (.int (q0_1 x0 x1 x2)), .val (.int (q0_2 x0 x1 x2)), .val (.ref a1)] [(.int (q0_16 x0 x1 x2))]))
                            by_cases k14 : (q0_16 x0 x1 x2) = 0
                            · refine o_ifY B29 253 420 at_253 (XT.i0_eq_t k14) (by decide) (by decide) ?_
                              refine o_iconst B29 420 421 (0 : Int32) at_420 rfl (by decide) ?_
                              refine o_retZ (t := .boolean) B29 421 at_421 hret hlk (by simp) (by decide) (by decide) ⟨(congrArg (fun z => some (Value.int z)) ((show nar .boolean (0 : Int32) = (0 : Int32) from rfl).trans (show f0 x0 x1 x2 = (0 : Int32) from (if_neg k1).trans ((if_neg k2).trans ((if_neg k3).trans ((if_neg k4).trans ((if_neg k5).trans ((if_neg k6).trans ((if_neg k7).trans ((if_neg k8).trans ((if_neg k9).trans ((if_neg k10).trans ((if_neg k11).trans ((if_neg k12).trans ((if_neg k13).trans ((if_pos k14).trans (rfl))))))))))))))).symm)), N29⟩
                            · refine o_ifN B29 253 256 at_253 rfl (XT.i0_eq_f k14) ?_
                              refine o_aload B29 256 258 (v := (.ref a1)) at_256 rfl rfl rfl ?_
                              refine o_bipush B29 258 260 (14 : Int32) at_258 rfl (by decide) ?_
                              refine o_lload B29 260 262 (v := (x0 &&& (9223372036854775807 : Int64))) at_260 rfl rfl ?_
                              refine o_iload B29 262 264 (v := (q0_1 x0 x1 x2)) at_262 rfl rfl ?_
                              refine o_iload B29 264 266 (v := (q0_2 x0 x1 x2)) at_264 rfl rfl ?_
                              have F30 := (F28.keep K29 nin0)
                              obtain ⟨v31, T31, L31, B31, Q31, c31⟩ := o_callS B29 266 269 at_266 rfl (hw _ (List.mem_of_getElem? (i := 9) rfl)) (hw _ (List.mem_of_getElem? (i := 10) rfl)) (hw _ (List.mem_of_getElem? (i := 11) rfl)) (hw _ (List.mem_of_getElem? (i := 12) rfl)) (by decide) (rm2 l Z a0 hw (o1_0 (fun _ => 0) (x0 &&& (9223372036854775807 : Int64)) (q0_1 x0 x1 x2) (q0_2 x0 x1 x2)) a1 (14 : Int32) (x0 &&& (9223372036854775807 : Int64)) (q0_1 x0 x1 x2) (q0_2 x0 x1 x2) T29.heap n0 s29 F30 (own_eb x0 x1 x2 (14 : Int32) (by decide))) 0 [(.ref a1), (.int (14 : Int32)), (.long (x0 &&& (9223372036854775807 : Int64))), (.int (q0_1 x0 x1 x2)), (.int (q0_2 x0 x1 x2))] [] pd___BIJII_Z rfl rfl (st := [(.int (q0_2 x0 x1 x2)), (.int (q0_1 x0 x1 x2)), (.long (x0 &&& (9223372036854775807 : Int64))), (.int (14 : Int32)), (.ref a1)]) rfl (Ls := #[.val (.long x0), .second, .val (.int x1), .val (.int x2), .val (.long (x0 &&& (9223372036854775807 : Int64))), .second, .val (.int (q0_1 x0 x1 x2)), .val (.int (q0_2 x0 x1 x2)), .val (.ref a1)]) rfl (Nat.le_of_eq rfl) (by decide) (by decide) (by decide) (by decide)
                              obtain ⟨rfl, M31, K31⟩ := Q31
                              have N31 := Fr.app N29 M31
                              have s31 : n0 ≤ T31.heap.size := Nat.le_trans s29 K31.1
                              refine c31 ?_
                              show OG p.tables e below _ (T31.setTop (mkF m 269 #[.val (.long x0), .second, .val (.int x1), .val (.int x2), .val (.long (x0 &&& (9223372036854775807 : Int64))), .second, .val (.int (q0_1 x0 x1 x2)), .val (.int (q0_2 x0 x1 x2)), .val (.ref a1)] [(.int (q0_17 x0 x1 x2))]))
                              by_cases k15 : (q0_17 x0 x1 x2) = 0
                              · refine o_ifY B31 269 420 at_269 (XT.i0_eq_t k15) (by decide) (by decide) ?_
                                refine o_iconst B31 420 421 (0 : Int32) at_420 rfl (by decide) ?_
                                refine o_retZ (t := .boolean) B31 421 at_421 hret hlk (by simp) (by decide) (by decide) ⟨(congrArg (fun z => some (Value.int z)) ((show nar .boolean (0 : Int32) = (0 : Int32) from rfl).trans (show f0 x0 x1 x2 = (0 : Int32) from (if_neg k1).trans ((if_neg k2).trans ((if_neg k3).trans ((if_neg k4).trans ((if_neg k5).trans ((if_neg k6).trans ((if_neg k7).trans ((if_neg k8).trans ((if_neg k9).trans ((if_neg k10).trans ((if_neg k11).trans ((if_neg k12).trans ((if_neg k13).trans ((if_neg k14).trans ((if_pos k15).trans (rfl)))))))))))))))).symm)), N31⟩
                              · refine o_ifN B31 269 272 at_269 rfl (XT.i0_eq_f k15) ?_
                                refine o_aload B31 272 274 (v := (.ref a1)) at_272 rfl rfl rfl ?_
                                refine o_bipush B31 274 276 (15 : Int32) at_274 rfl (by decide) ?_
                                refine o_lload B31 276 278 (v := (x0 &&& (9223372036854775807 : Int64))) at_276 rfl rfl ?_
                                refine o_iload B31 278 280 (v := (q0_1 x0 x1 x2)) at_278 rfl rfl ?_
                                refine o_iload B31 280 282 (v := (q0_2 x0 x1 x2)) at_280 rfl rfl ?_
                                have F32 := (F30.keep K31 nin0)
                                obtain ⟨v33, T33, L33, B33, Q33, c33⟩ := o_callS B31 282 285 at_282 rfl (hw _ (List.mem_of_getElem? (i := 9) rfl)) (hw _ (List.mem_of_getElem? (i := 10) rfl)) (hw _ (List.mem_of_getElem? (i := 11) rfl)) (hw _ (List.mem_of_getElem? (i := 12) rfl)) (by decide) (rm2 l Z a0 hw (o1_0 (fun _ => 0) (x0 &&& (9223372036854775807 : Int64)) (q0_1 x0 x1 x2) (q0_2 x0 x1 x2)) a1 (15 : Int32) (x0 &&& (9223372036854775807 : Int64)) (q0_1 x0 x1 x2) (q0_2 x0 x1 x2) T31.heap n0 s31 F32 (own_eb x0 x1 x2 (15 : Int32) (by decide))) 0 [(.ref a1), (.int (15 : Int32)), (.long (x0 &&& (9223372036854775807 : Int64))), (.int (q0_1 x0 x1 x2)), (.int (q0_2 x0 x1 x2))] [] pd___BIJII_Z rfl rfl (st := [(.int (q0_2 x0 x1 x2)), (.int (q0_1 x0 x1 x2)), (.long (x0 &&& (9223372036854775807 : Int64))), (.int (15 : Int32)), (.ref a1)]) rfl (Ls := #[.val (.long x0), .second, .val (.int x1), .val (.int x2), .val (.long (x0 &&& (9223372036854775807 : Int64))), .second, .val (.int (q0_1 x0 x1 x2)), .val (.int (q0_2 x0 x1 x2)), .val (.ref a1)]) rfl (Nat.le_of_eq rfl) (by decide) (by decide) (by decide) (by decide)
                                obtain ⟨rfl, M33, K33⟩ := Q33
                                have N33 := Fr.app N31 M33
                                have s33 : n0 ≤ T33.heap.size := Nat.le_trans s31 K33.1
                                refine c33 ?_
                                show OG p.tables e below _ (T33.setTop (mkF m 285 #[.val (.long x0), .second, .val (.int x1), .val (.int x2), .val (.long (x0 &&& (9223372036854775807 : Int64))), .second, .val (.int (q0_1 x0 x1 x2)), .val (.int (q0_2 x0 x1 x2)), .val (.ref a1)] [(.int (q0_18 x0 x1 x2))]))
                                by_cases k16 : (q0_18 x0 x1 x2) = 0
                                · refine o_ifY B33 285 420 at_285 (XT.i0_eq_t k16) (by decide) (by decide) ?_
                                  refine o_iconst B33 420 421 (0 : Int32) at_420 rfl (by decide) ?_
                                  refine o_retZ (t := .boolean) B33 421 at_421 hret hlk (by simp) (by decide) (by decide) ⟨(congrArg (fun z => some (Value.int z)) ((show nar .boolean (0 : Int32) = (0 : Int32) from rfl).trans (show f0 x0 x1 x2 = (0 : Int32) from (if_neg k1).trans ((if_neg k2).trans ((if_neg k3).trans ((if_neg k4).trans ((if_neg k5).trans ((if_neg k6).trans ((if_neg k7).trans ((if_neg k8).trans ((if_neg k9).trans ((if_neg k10).trans ((if_neg k11).trans ((if_neg k12).trans ((if_neg k13).trans ((if_neg k14).trans ((if_neg k15).trans ((if_pos k16).trans (rfl))))))))))))))))).symm)), N33⟩
                                · refine o_ifN B33 285 288 at_285 rfl (XT.i0_eq_f k16) ?_
                                  refine o_aload B33 288 290 (v := (.ref a1)) at_288 rfl rfl rfl ?_
                                  refine o_bipush B33 290 292 (16 : Int32) at_290 rfl (by decide) ?_
                                  refine o_lload B33 292 294 (v := (x0 &&& (9223372036854775807 : Int64))) at_292 rfl rfl ?_
                                  refine o_iload B33 294 296 (v := (q0_1 x0 x1 x2)) at_294 rfl rfl ?_
                                  refine o_iload B33 296 298 (v := (q0_2 x0 x1 x2)) at_296 rfl rfl ?_
                                  have F34 := (F32.keep K33 nin0)
                                  obtain ⟨v35, T35, L35, B35, Q35, c35⟩ := o_callS B33 298 301 at_298 rfl (hw _ (List.mem_of_getElem? (i := 9) rfl)) (hw _ (List.mem_of_getElem? (i := 10) rfl)) (hw _ (List.mem_of_getElem? (i := 11) rfl)) (hw _ (List.mem_of_getElem? (i := 12) rfl)) (by decide) (rm2 l Z a0 hw (o1_0 (fun _ => 0) (x0 &&& (9223372036854775807 : Int64)) (q0_1 x0 x1 x2) (q0_2 x0 x1 x2)) a1 (16 : Int32) (x0 &&& (9223372036854775807 : Int64)) (q0_1 x0 x1 x2) (q0_2 x0 x1 x2) T33.heap n0 s33 F34 (own_eb x0 x1 x2 (16 : Int32) (by decide))) 0 [(.ref a1), (.int (16 : Int32)), (.long (x0 &&& (9223372036854775807 : Int64))), (.int (q0_1 x0 x1 x2)), (.int (q0_2 x0 x1 x2))] [] pd___BIJII_Z rfl rfl (st := [(.int (q0_2 x0 x1 x2)), (.int (q0_1 x0 x1 x2)), (.long (x0 &&& (9223372036854775807 : Int64))), (.int (16 : Int32)), (.ref a1)]) rfl (Ls := #[.val (.long x0), .second, .val (.int x1), .val (.int x2), .val (.long (x0 &&& (9223372036854775807 : Int64))), .second, .val (.int (q0_1 x0 x1 x2)), .val (.int (q0_2 x0 x1 x2)), .val (.ref a1)]) rfl (Nat.le_of_eq rfl) (by decide) (by decide) (by decide) (by decide)
                                  obtain ⟨rfl, M35, K35⟩ := Q35
                                  have N35 := Fr.app N33 M35
                                  have s35 : n0 ≤ T35.heap.size := Nat.le_trans s33 K35.1
                                  refine c35 ?_
                                  show OG p.tables e below _ (T35.setTop (mkF m 301 #[.val (.long x0), .second, .val (.int x1), .val (.int x2), .val (.long (x0 &&& (9223372036854775807 : Int64))), .second, .val (.int (q0_1 x0 x1 x2)), .val (.int (q0_2 x0 x1 x2)), .val (.ref a1)] [(.int (q0_19 x0 x1 x2))]))
                                  by_cases k17 : (q0_19 x0 x1 x2) = 0
                                  · refine o_ifY B35 301 420 at_301 (XT.i0_eq_t k17) (by decide) (by decide) ?_
                                    refine o_iconst B35 420 421 (0 : Int32) at_420 rfl (by decide) ?_
                                    refine o_retZ (t := .boolean) B35 421 at_421 hret hlk (by simp) (by decide) (by decide) ⟨(congrArg (fun z => some (Value.int z)) ((show nar .boolean (0 : Int32) = (0 : Int32) from rfl).trans (show f0 x0 x1 x2 = (0 : Int32) from (if_neg k1).trans ((if_neg k2).trans ((if_neg k3).trans ((if_neg k4).trans ((if_neg k5).trans ((if_neg k6).trans ((if_neg k7).trans ((if_neg k8).trans ((if_neg k9).trans ((if_neg k10).trans ((if_neg k11).trans ((if_neg k12).trans ((if_neg k13).trans ((if_neg k14).trans ((if_neg k15).trans ((if_neg k16).trans ((if_pos k17).trans (rfl)))))))))))))))))).symm)), N35⟩
                                  · refine o_ifN B35 301 304 at_301 rfl (XT.i0_eq_f k17) ?_
                                    refine o_aload B35 304 306 (v := (.ref a1)) at_304 rfl rfl rfl ?_
                                    refine o_bipush B35 306 308 (17 : Int32) at_306 rfl (by decide) ?_
                                    refine o_lload B35 308 310 (v := (x0 &&& (9223372036854775807 : Int64))) at_308 rfl rfl ?_
                                    refine o_iload B35 310 312 (v := (q0_1 x0 x1 x2)) at_310 rfl rfl ?_
                                    refine o_iload B35 312 314 (v := (q0_2 x0 x1 x2)) at_312 rfl rfl ?_
                                    have F36 := (F34.keep K35 nin0)
                                    obtain ⟨v37, T37, L37, B37, Q37, c37⟩ := o_callS B35 314 317 at_314 rfl (hw _ (List.mem_of_getElem? (i := 9) rfl)) (hw _ (List.mem_of_getElem? (i := 10) rfl)) (hw _ (List.mem_of_getElem? (i := 11) rfl)) (hw _ (List.mem_of_getElem? (i := 12) rfl)) (by decide) (rm2 l Z a0 hw (o1_0 (fun _ => 0) (x0 &&& (9223372036854775807 : Int64)) (q0_1 x0 x1 x2) (q0_2 x0 x1 x2)) a1 (17 : Int32) (x0 &&& (9223372036854775807 : Int64)) (q0_1 x0 x1 x2) (q0_2 x0 x1 x2) T35.heap n0 s35 F36 (own_eb x0 x1 x2 (17 : Int32) (by decide))) 0 [(.ref a1), (.int (17 : Int32)), (.long (x0 &&& (9223372036854775807 : Int64))), (.int (q0_1 x0 x1 x2)), (.int (q0_2 x0 x1 x2))] [] pd___BIJII_Z rfl rfl (st := [(.int (q0_2 x0 x1 x2)), (.int (q0_1 x0 x1 x2)), (.long (x0 &&& (9223372036854775807 : Int64))), (.int (17 : Int32)), (.ref a1)]) rfl (Ls := #[.val (.long x0), .second, .val (.int x1), .val (.int x2), .val (.long (x0 &&& (9223372036854775807 : Int64))), .second, .val (.int (q0_1 x0 x1 x2)), .val (.int (q0_2 x0 x1 x2)), .val (.ref a1)]) rfl (Nat.le_of_eq rfl) (by decide) (by decide) (by decide) (by decide)
                                    obtain ⟨rfl, M37, K37⟩ := Q37
                                    have N37 := Fr.app N35 M37
                                    have s37 : n0 ≤ T37.heap.size := Nat.le_trans s35 K37.1
                                    refine c37 ?_
                                    show OG p.tables e below _ (T37.setTop (mkF m 317 #[.val (.long x0), .second, .val (.int x1), .val (.int x2), .val (.long (x0 &&& (9223372036854775807 : Int64))), .second, .val (.int (q0_1 x0 x1 x2)), .val (.int (q0_2 x0 x1 x2)), .val (.ref a1)] [(.int (q0_20 x0 x1 x2))]))
                                    by_cases k18 : (q0_20 x0 x1 x2) = 0
                                    · refine o_ifY B37 317 420 at_317 (XT.i0_eq_t k18) (by decide) (by decide) ?_
                                      refine o_iconst B37 420 421 (0 : Int32) at_420 rfl (by decide) ?_
                                      refine o_retZ (t := .boolean) B37 421 at_421 hret hlk (by simp) (by decide) (by decide) ⟨(congrArg (fun z => some (Value.int z)) ((show nar .boolean (0 : Int32) = (0 : Int32) from rfl).trans (show f0 x0 x1 x2 = (0 : Int32) from (if_neg k1).trans ((if_neg k2).trans ((if_neg k3).trans ((if_neg k4).trans ((if_neg k5).trans ((if_neg k6).trans ((if_neg k7).trans ((if_neg k8).trans ((if_neg k9).trans ((if_neg k10).trans ((if_neg k11).trans ((if_neg k12).trans ((if_neg k13).trans ((if_neg k14).trans ((if_neg k15).trans ((if_neg k16).trans ((if_neg k17).trans ((if_pos k18).trans (rfl))))))))))))))))))).symm)), N37⟩
                                    · refine o_ifN B37 317 320 at_317 rfl (XT.i0_eq_f k18) ?_
                                      refine o_aload B37 320 322 (v := (.ref a1)) at_320 rfl rfl rfl ?_
                                      refine o_bipush B37 322 324 (18 : Int32) at_322 rfl (by decide) ?_
                                      refine o_lload B37 324 326 (v := (x0 &&& (9223372036854775807 : Int64))) at_324 rfl rfl ?_
                                      refine o_iload B37 326 328 (v := (q0_1 x0 x1 x2)) at_326 rfl rfl ?_
                                      refine o_iload B37 328 330 (v := (q0_2 x0 x1 x2)) at_328 rfl rfl ?_
                                      have F38 := (F36.keep K37 nin0)
                                      obtain ⟨v39, T39, L39, B39, Q39, c39⟩ := o_callS B37 330 333 at_330 rfl (hw _ (List.mem_of_getElem? (i := 9) rfl)) (hw _ (List.mem_of_getElem? (i := 10) rfl)) (hw _ (List.mem_of_getElem? (i := 11) rfl)) (hw _ (List.mem_of_getElem? (i := 12) rfl)) (by decide) (rm2 l Z a0 hw (o1_0 (fun _ => 0) (x0 &&& (9223372036854775807 : Int64)) (q0_1 x0 x1 x2) (q0_2 x0 x1 x2)) a1 (18 : Int32) (x0 &&& (9223372036854775807 : Int64)) (q0_1 x0 x1 x2) (q0_2 x0 x1 x2) T37.heap n0 s37 F38 (own_eb x0 x1 x2 (18 : Int32) (by decide))) 0 [(.ref a1), (.int (18 : Int32)), (.long (x0 &&& (9223372036854775807 : Int64))), (.int (q0_1 x0 x1 x2)), (.int (q0_2 x0 x1 x2))] [] pd___BIJII_Z rfl rfl (st := [(.int (q0_2 x0 x1 x2)), (.int (q0_1 x0 x1 x2)), (.long (x0 &&& (9223372036854775807 : Int64))), (.int (18 : Int32)), (.ref a1)]) rfl (Ls := #[.val (.long x0), .second, .val (.int x1), .val (.int x2), .val (.long (x0 &&& (9223372036854775807 : Int64))), .second, .val (.int (q0_1 x0 x1 x2)), .val (.int (q0_2 x0 x1 x2)), .val (.ref a1)]) rfl (Nat.le_of_eq rfl) (by decide) (by decide) (by decide) (by decide)
                                      obtain ⟨rfl, M39, K39⟩ := Q39
                                      have N39 := Fr.app N37 M39
                                      have s39 : n0 ≤ T39.heap.size := Nat.le_trans s37 K39.1
                                      refine c39 ?_
                                      show OG p.tables e below _ (T39.setTop (mkF m 333 #[.val (.long x0), .second, .val (.int x1), .val (.int x2), .val (.long (x0 &&& (9223372036854775807 : Int64))), .second, .val (.int (q0_1 x0 x1 x2)), .val (.int (q0_2 x0 x1 x2)), .val (.ref a1)] [(.int (q0_21 x0 x1 x2))]))
                                      by_cases k19 : (q0_21 x0 x1 x2) = 0
                                      · refine o_ifY B39 333 420 at_333 (XT.i0_eq_t k19) (by decide) (by decide) ?_
                                        refine o_iconst B39 420 421 (0 : Int32) at_420 rfl (by decide) ?_
                                        refine o_retZ (t := .boolean) B39 421 at_421 hret hlk (by simp) (by decide) (by decide) ⟨(congrArg (fun z => some (Value.int z)) ((show nar .boolean (0 : Int32) = (0 : Int32) from rfl).trans (show f0 x0 x1 x2 = (0 : Int32) from (if_neg k1).trans ((if_neg k2).trans ((if_neg k3).trans ((if_neg k4).trans ((if_neg k5).trans ((if_neg k6).trans ((if_neg k7).trans ((if_neg k8).trans ((if_neg k9).trans ((if_neg k10).trans ((if_neg k11).trans ((if_neg k12).trans ((if_neg k13).trans ((if_neg k14).trans ((if_neg k15).trans ((if_neg k16).trans ((if_neg k17).trans ((if_neg k18).trans ((if_pos k19).trans (rfl)))))))))))))))))))).symm)), N39⟩
                                      · refine o_ifN B39 333 336 at_333 rfl (XT.i0_eq_f k19) ?_
                                        refine o_aload B39 336 338 (v := (.ref a1)) at_336 rfl rfl rfl ?_
                                        refine o_bipush B39 338 340 (19 : Int32) at_338 rfl (by decide) ?_
                                        refine o_lload B39 340 342 (v := (x0 &&& (9223372036854775807 : Int64))) at_340 rfl rfl ?_
                                        refine o_iload B39 342 344 (v := (q0_1 x0 x1 x2)) at_342 rfl rfl ?_
                                        refine o_iload B39 344 346 (v := (q0_2 x0 x1 x2)) at_344 rfl rfl ?_
                                        have F40 := (F38.keep K39 nin0)
                                        obtain ⟨v41, T41, L41, B41, Q41, c41⟩ := o_callS B39 346 349 at_346 rfl (hw _ (List.mem_of_getElem? (i := 9) rfl)) (hw _ (List.mem_of_getElem? (i := 10) rfl)) (hw _ (List.mem_of_getElem? (i := 11) rfl)) (hw _ (List.mem_of_getElem? (i := 12) rfl)) (by decide) (rm2 l Z a0 hw (o1_0 (fun _ => 0) (x0 &&& (9223372036854775807 : Int64)) (q0_1 x0 x1 x2) (q0_2 x0 x1 x2)) a1 (19 : Int32) (x0 &&& (9223372036854775807 : Int64)) (q0_1 x0 x1 x2) (q0_2 x0 x1 x2) T39.heap n0 s39 F40 (own_eb x0 x1 x2 (19 : Int32) (by decide))) 0 [(.ref a1), (.int (19 : Int32)), (.long (x0 &&& (9223372036854775807 : Int64))), (.int (q0_1 x0 x1 x2)), (.int (q0_2 x0 x1 x2))] [] pd___BIJII_Z rfl rfl (st := [(.int (q0_2 x0 x1 x2)), (.int (q0_1 x0 x1 x2)), (.long (x0 &&& (9223372036854775807 : Int64))), (.int (19 : Int32)), (.ref a1)]) rfl (Ls := #[.val (.long x0), .second, .val (.int x1), .val (.int x2), .val (.long (x0 &&& (9223372036854775807 : Int64))), .second, .val (.int (q0_1 x0 x1 x2)), .val (.int (q0_2 x0 x1 x2)), .val (.ref a1)]) rfl (Nat.le_of_eq rfl) (by decide) (by decide) (by decide) (by decide)
                                        obtain ⟨rfl, M41, K41⟩ := Q41
                                        have N41 := Fr.app N39 M41
                                        have s41 : n0 ≤ T41.heap.size := Nat.le_trans s39 K41.1
                                        refine c41 ?_
                                        show OG p.tables e below _ (T41.setTop (mkF m 349 #[.val (.long x0), .second, .val (.int x1), .val (.int x2), .val (.long (x0 &&& (9223372036854775807 : Int64))), .second, .val (.int (q0_1 x0 x1 x2)), .val (.int (q0_2 x0 x1 x2)), .val (.ref a1)] [(.int (q0_22 x0 x1 x2))]))
                                        by_cases k20 : (q0_22 x0 x1 x2) = 0
                                        · refine o_ifY B41 349 420 at_349 (XT.i0_eq_t k20) (by decide) (by decide) ?_
                                          refine o_iconst B41 420 421 (0 : Int32) at_420 rfl (by decide) ?_
                                          refine o_retZ (t := .boolean) B41 421 at_421 hret hlk (by simp) (by decide) (by decide) ⟨(congrArg (fun z => some (Value.int z)) ((show nar .boolean (0 : Int32) = (0 : Int32) from rfl).trans (show f0 x0 x1 x2 = (0 : Int32) from (if_neg k1).trans ((if_neg k2).trans ((if_neg k3).trans ((if_neg k4).trans ((if_neg k5).trans ((if_neg k6).trans ((if_neg k7).trans ((if_neg k8).trans ((if_neg k9).trans ((if_neg k10).trans ((if_neg k11).trans ((if_neg k12).trans ((if_neg k13).trans ((if_neg k14).trans ((if_neg k15).trans ((if_neg k16).trans ((if_neg k17).trans ((if_neg k18).trans ((if_neg k19).trans ((if_pos k20).trans (rfl))))))))))))))))))))).symm)), N41⟩
                                        · refine o_ifN B41 349 352 at_349 rfl (XT.i0_eq_f k20) ?_
                                          refine o_aload B41 352 354 (v := (.ref a1)) at_352 rfl rfl rfl ?_
                                          refine o_bipush B41 354 356 (20 : Int32) at_354 rfl (by decide) ?_
                                          refine o_lload B41 356 358 (v := (x0 &&& (9223372036854775807 : Int64))) at_356 rfl rfl ?_
                                          refine o_iload B41 358 360 (v := (q0_1 x0 x1 x2)) at_358 rfl rfl ?_
                                          refine o_iload B41 360 362 (v := (q0_2 x0 x1 x2)) at_360 rfl rfl ?_
                                          have F42 := (F40.keep K41 nin0)
                                          obtain ⟨v43, T43, L43, B43, Q43, c43⟩ := o_callS B41 362 365 at_362 rfl (hw _ (List.mem_of_getElem? (i := 9) rfl)) (hw _ (List.mem_of_getElem? (i := 10) rfl)) (hw _ (List.mem_of_getElem? (i := 11) rfl)) (hw _ (List.mem_of_getElem? (i := 12) rfl)) (by decide) (rm2 l Z a0 hw (o1_0 (fun _ => 0) (x0 &&& (9223372036854775807 : Int64)) (q0_1 x0 x1 x2) (q0_2 x0 x1 x2)) a1 (20 : Int32) (x0 &&& (9223372036854775807 : Int64)) (q0_1 x0 x1 x2) (q0_2 x0 x1 x2) T41.heap n0 s41 F42 (own_eb x0 x1 x2 (20 : Int32) (by decide))) 0 [(.ref a1), (.int (20 : Int32)), (.long (x0 &&& (9223372036854775807 : Int64))), (.int (q0_1 x0 x1 x2)), (.int (q0_2 x0 x1 x2))] [] pd___BIJII_Z rfl rfl (st := [(.int (q0_2 x0 x1 x2)), (.int (q0_1 x0 x1 x2)), (.long (x0 &&& (9223372036854775807 : Int64))), (.int (20 : Int32)), (.ref a1)]) rfl (Ls := #[.val (.long x0), .second, .val (.int x1), .val (.int x2), .val (.long (x0 &&& (9223372036854775807 : Int64))), .second, .val (.int (q0_1 x0 x1 x2)), .val (.int (q0_2 x0 x1 x2)), .val (.ref a1)]) rfl (Nat.le_of_eq rfl) (by decide) (by decide) (by decide) (by decide)
                                          obtain ⟨rfl, M43, K43⟩ := Q43
                                          have N43 := Fr.app N41 M43
                                          have s43 : n0 ≤ T43.heap.size := Nat.le_trans s41 K43.1
                                          refine c43 ?_
                                          show OG p.tables e below _ (T43.setTop (mkF m 365 #[.val (.long x0), .second, .val (.int x1), .val (.int x2), .val (.long (x0 &&& (9223372036854775807 : Int64))), .second, .val (.int (q0_1 x0 x1 x2)), .val (.int (q0_2 x0 x1 x2)), .val (.ref a1)] [(.int (q0_23 x0 x1 x2))]))
                                          by_cases k21 : (q0_23 x0 x1 x2) = 0
                                          · refine o_ifY B43 365 420 at_365 (XT.i0_eq_t k21) (by decide) (by decide) ?_
                                            refine o_iconst B43 420 421 (0 : Int32) at_420 rfl (by decide) ?_
                                            refine o_retZ (t := .boolean) B43 421 at_421 hret hlk (by simp) (by decide) (by decide) ⟨(congrArg (fun z => some (Value.int z)) ((show nar .boolean (0 : Int32) = (0 : Int32) from rfl).trans (show f0 x0 x1 x2 = (0 : Int32) from (if_neg k1).trans ((if_neg k2).trans ((if_neg k3).trans ((if_neg k4).trans ((if_neg k5).trans ((if_neg k6).trans ((if_neg k7).trans ((if_neg k8).trans ((if_neg k9).trans ((if_neg k10).trans ((if_neg k11).trans ((if_neg k12).trans ((if_neg k13).trans ((if_neg k14).trans ((if_neg k15).trans ((if_neg k16).trans ((if_neg k17).trans ((if_neg k18).trans ((if_neg k19).trans ((if_neg k20).trans ((if_pos k21).trans (rfl)))))))))))))))))))))).symm)), N43⟩
                                          · refine o_ifN B43 365 368 at_365 rfl (XT.i0_eq_f k21) ?_
                                            refine o_aload B43 368 370 (v := (.ref a1)) at_368 rfl rfl rfl ?_
                                            refine o_bipush B43 370 372 (21 : Int32) at_370 rfl (by decide) ?_
                                            refine o_lload B43 372 374 (v := (x0 &&& (9223372036854775807 : Int64))) at_372 rfl rfl ?_
                                            refine o_iload B43 374 376 (v := (q0_1 x0 x1 x2)) at_374 rfl rfl ?_
                                            refine o_iload B43 376 378 (v := (q0_2 x0 x1 x2)) at_376 rfl rfl ?_
                                            have F44 := (F42.keep K43 nin0)
                                            obtain ⟨v45, T45, L45, B45, Q45, c45⟩ := o_callS B43 378 381 at_378 rfl (hw _ (List.mem_of_getElem? (i := 9) rfl)) (hw _ (List.mem_of_getElem? (i := 10) rfl)) (hw _ (List.mem_of_getElem? (i := 11) rfl)) (hw _ (List.mem_of_getElem? (i := 12) rfl)) (by decide) (rm2 l Z a0 hw (o1_0 (fun _ => 0) (x0 &&& (9223372036854775807 : Int64)) (q0_1 x0 x1 x2) (q0_2 x0 x1 x2)) a1 (21 : Int32) (x0 &&& (9223372036854775807 : Int64)) (q0_1 x0 x1 x2) (q0_2 x0 x1 x2) T43.heap n0 s43 F44 (own_eb x0 x1 x2 (21 : Int32) (by decide))) 0 [(.ref a1), (.int (21 : Int32)), (.long (x0 &&& (9223372036854775807 : Int64))), (.int (q0_1 x0 x1 x2)), (.int (q0_2 x0 x1 x2))] [] pd___BIJII_Z rfl rfl (st := [(.int (q0_2 x0 x1 x2)), (.int (q0_1 x0 x1 x2)), (.long (x0 &&& (9223372036854775807 : Int64))), (.int (21 : Int32)), (.ref a1)]) rfl (Ls := #[.val (.long x0), .second, .val (.int x1), .val (.int x2), .val (.long (x0 &&& (9223372036854775807 : Int64))), .second, .val (.int (q0_1 x0 x1 x2)), .val (.int (q0_2 x0 x1 x2)), .val (.ref a1)]) rfl (Nat.le_of_eq rfl) (by decide) (by decide) (by decide) (by decide)
                                            obtain ⟨rfl, M45, K45⟩ := Q45
                                            have N45 := Fr.app N43 M45
                                            have s45 : n0 ≤ T45.heap.size := Nat.le_trans s43 K45.1
                                            refine c45 ?_
                                            show OG p.tables e below _ (T45.setTop (mkF m 381 #[.val (.long x0), .second, .val (.int x1), .val (.int x2), .val (.long (x0 &&& (9223372036854775807 : Int64))), .second, .val (.int (q0_1 x0 x1 x2)), .val (.int (q0_2 x0 x1 x2)), .val (.ref a1)] [(.int (q0_24 x0 x1 x2))]))
                                            by_cases k22 : (q0_24 x0 x1 x2) = 0
                                            · refine o_ifY B45 381 420 at_381 (XT.i0_eq_t k22) (by decide) (by decide) ?_
                                              refine o_iconst B45 420 421 (0 : Int32) at_420 rfl (by decide) ?_
                                              refine o_retZ (t := .boolean) B45 421 at_421 hret hlk (by simp) (by decide) (by decide) ⟨(congrArg (fun z => some (Value.int z)) ((show nar .boolean (0 : Int32) = (0 : Int32) from rfl).trans (show f0 x0 x1 x2 = (0 : Int32) from (if_neg k1).trans ((if_neg k2).trans ((if_neg k3).trans ((if_neg k4).trans ((if_neg k5).trans ((if_neg k6).trans ((if_neg k7).trans ((if_neg k8).trans ((if_neg k9).trans ((if_neg k10).trans ((if_neg k11).trans ((if_neg k12).trans ((if_neg k13).trans ((if_neg k14).trans ((if_neg k15).trans ((if_neg k16).trans ((if_neg k17).trans ((if_neg k18).trans ((if_neg k19).trans ((if_neg k20).trans ((if_neg k21).trans ((if_pos k22).trans (rfl))))))))))))))))))))))).symm)), N45⟩
                                            · refine o_ifN B45 381 384 at_381 rfl (XT.i0_eq_f k22) ?_
                                              refine o_aload B45 384 386 (v := (.ref a1)) at_384 rfl rfl rfl ?_
                                              refine o_bipush B45 386 388 (22 : Int32) at_386 rfl (by decide) ?_
                                              refine o_lload B45 388 390 (v := (x0 &&& (9223372036854775807 : Int64))) at_388 rfl rfl ?_
                                              refine o_iload B45 390 392 (v := (q0_1 x0 x1 x2)) at_390 rfl rfl ?_
                                              refine o_iload B45 392 394 (v := (q0_2 x0 x1 x2)) at_392 rfl rfl ?_
                                              have F46 := (F44.keep K45 nin0)
                                              obtain ⟨v47, T47, L47, B47, Q47, c47⟩ := o_callS B45 394 397 at_394 rfl (hw _ (List.mem_of_getElem? (i := 9) rfl)) (hw _ (List.mem_of_getElem? (i := 10) rfl)) (hw _ (List.mem_of_getElem? (i := 11) rfl)) (hw _ (List.mem_of_getElem? (i := 12) rfl)) (by decide) (rm2 l Z a0 hw (o1_0 (fun _ => 0) (x0 &&& (9223372036854775807 : Int64)) (q0_1 x0 x1 x2) (q0_2 x0 x1 x2)) a1 (22 : Int32) (x0 &&& (9223372036854775807 : Int64)) (q0_1 x0 x1 x2) (q0_2 x0 x1 x2) T45.heap n0 s45 F46 (own_eb x0 x1 x2 (22 : Int32) (by decide))) 0 [(.ref a1), (.int (22 : Int32)), (.long (x0 &&& (9223372036854775807 : Int64))), (.int (q0_1 x0 x1 x2)), (.int (q0_2 x0 x1 x2))] [] pd___BIJII_Z rfl rfl (st := [(.int (q0_2 x0 x1 x2)), (.int (q0_1 x0 x1 x2)), (.long (x0 &&& (9223372036854775807 : Int64))), (.int (22 : Int32)), (.ref a1)]) rfl (Ls := #[.val (.long x0), .second, .val (.int x1), .val (.int x2), .val (.long (x0 &&& (9223372036854775807 : Int64))), .second, .val (.int (q0_1 x0 x1 x2)), .val (.int (q0_2 x0 x1 x2)), .val (.ref a1)]) rfl (Nat.le_of_eq rfl) (by decide) (by decide) (by decide) (by decide)
                                              obtain ⟨rfl, M47, K47⟩ := Q47
                                              have N47 := Fr.app N45 M47
                                              have s47 : n0 ≤ T47.heap.size := Nat.le_trans s45 K47.1
                                              refine c47 ?_
                                              show OG p.tables e below _ (T47.setTop (mkF m 397 #[.val (.long x0), .second, .val (.int x1), .val (.int x2), .val (.long (x0 &&& (9223372036854775807 : Int64))), .second, .val (.int (q0_1 x0 x1 x2)), .val (.int (q0_2 x0 x1 x2)), .val (.ref a1)] [(.int (q0_25 x0 x1 x2))]))
                                              by_cases k23 : (q0_25 x0 x1 x2) = 0
                                              · refine o_ifY B47 397 420 at_397 (XT.i0_eq_t k23) (by decide) (by decide) ?_
                                                refine o_iconst B47 420 421 (0 : Int32) at_420 rfl (by decide) ?_
                                                refine o_retZ (t := .boolean) B47 421 at_421 hret hlk (by simp) (by decide) (by decide) ⟨(congrArg (fun z => some (Value.int z)) ((show nar .boolean (0 : Int32) = (0 : Int32) from rfl).trans (show f0 x0 x1 x2 = (0 : Int32) from (if_neg k1).trans ((if_neg k2).trans ((if_neg k3).trans ((if_neg k4).trans ((if_neg k5).trans ((if_neg k6).trans ((if_neg k7).trans ((if_neg k8).trans ((if_neg k9).trans ((if_neg k10).trans ((if_neg k11).trans ((if_neg k12).trans ((if_neg k13).trans ((if_neg k14).trans ((if_neg k15).trans ((if_neg k16).trans ((if_neg k17).trans ((if_neg k18).trans ((if_neg k19).trans ((if_neg k20).trans ((if_neg k21).trans ((if_neg k22).trans ((if_pos k23).trans (rfl)))))))))))))))))))))))).symm)), N47⟩
                                              · refine o_ifN B47 397 400 at_397 rfl (XT.i0_eq_f k23) ?_
                                                refine o_aload B47 400 402 (v := (.ref a1)) at_400 rfl rfl rfl ?_
                                                refine o_bipush B47 402 404 (23 : Int32) at_402 rfl (by decide) ?_
                                                refine o_lload B47 404 406 (v := (x0 &&& (9223372036854775807 : Int64))) at_404 rfl rfl ?_
                                                refine o_iload B47 406 408 (v := (q0_1 x0 x1 x2)) at_406 rfl rfl ?_
                                                refine o_iload B47 408 410 (v := (q0_2 x0 x1 x2)) at_408 rfl rfl ?_
                                                have F48 := (F46.keep K47 nin0)
                                                obtain ⟨v49, T49, L49, B49, Q49, c49⟩ := o_callS B47 410 413 at_410 rfl (hw _ (List.mem_of_getElem? (i := 9) rfl)) (hw _ (List.mem_of_getElem? (i := 10) rfl)) (hw _ (List.mem_of_getElem? (i := 11) rfl)) (hw _ (List.mem_of_getElem? (i := 12) rfl)) (by decide) (rm2 l Z a0 hw (o1_0 (fun _ => 0) (x0 &&& (9223372036854775807 : Int64)) (q0_1 x0 x1 x2) (q0_2 x0 x1 x2)) a1 (23 : Int32) (x0 &&& (9223372036854775807 : Int64)) (q0_1 x0 x1 x2) (q0_2 x0 x1 x2) T47.heap n0 s47 F48 (own_eb x0 x1 x2 (23 : Int32) (by decide))) 0 [(.ref a1), (.int (23 : Int32)), (.long (x0 &&& (9223372036854775807 : Int64))), (.int (q0_1 x0 x1 x2)), (.int (q0_2 x0 x1 x2))] [] pd___BIJII_Z rfl rfl (st := [(.int (q0_2 x0 x1 x2)), (.int (q0_1 x0 x1 x2)), (.long (x0 &&& (9223372036854775807 : Int64))), (.int (23 : Int32)), (.ref a1)]) rfl (Ls := #[.val (.long x0), .second, .val (.int x1), .val (.int x2), .val (.long (x0 &&& (9223372036854775807 : Int64))), .second, .val (.int (q0_1 x0 x1 x2)), .val (.int (q0_2 x0 x1 x2)), .val (.ref a1)]) rfl (Nat.le_of_eq rfl) (by decide) (by decide) (by decide) (by decide)
                                                obtain ⟨rfl, M49, K49⟩ := Q49
                                                have N49 := Fr.app N47 M49
                                                have s49 : n0 ≤ T49.heap.size := Nat.le_trans s47 K49.1
                                                refine c49 ?_
                                                show OG p.tables e below _ (T49.setTop (mkF m 413 #[.val (.long x0), .second, .val (.int x1), .val (.int x2), .val (.long (x0 &&& (9223372036854775807 : Int64))), .second, .val (.int (q0_1 x0 x1 x2)), .val (.int (q0_2 x0 x1 x2)), .val (.ref a1)] [(.int (q0_26 x0 x1 x2))]))
                                                by_cases k24 : (q0_26 x0 x1 x2) = 0
                                                · refine o_ifY B49 413 420 at_413 (XT.i0_eq_t k24) (by decide) (by decide) ?_
                                                  refine o_iconst B49 420 421 (0 : Int32) at_420 rfl (by decide) ?_
                                                  refine o_retZ (t := .boolean) B49 421 at_421 hret hlk (by simp) (by decide) (by decide) ⟨(congrArg (fun z => some (Value.int z)) ((show nar .boolean (0 : Int32) = (0 : Int32) from rfl).trans (show f0 x0 x1 x2 = (0 : Int32) from (if_neg k1).trans ((if_neg k2).trans ((if_neg k3).trans ((if_neg k4).trans ((if_neg k5).trans ((if_neg k6).trans ((if_neg k7).trans ((if_neg k8).trans ((if_neg k9).trans ((if_neg k10).trans ((if_neg k11).trans ((if_neg k12).trans ((if_neg k13).trans ((if_neg k14).trans ((if_neg k15).trans ((if_neg k16).trans ((if_neg k17).trans ((if_neg k18).trans ((if_neg k19).trans ((if_neg k20).trans ((if_neg k21).trans ((if_neg k22).trans ((if_neg k23).trans ((if_pos k24).trans (rfl))))))))))))))))))))))))).symm)), N49⟩
                                                · refine o_ifN B49 413 416 at_413 rfl (XT.i0_eq_f k24) ?_
                                                  refine o_iconst B49 416 417 (1 : Int32) at_416 rfl (by decide) ?_
                                                  refine o_goto B49 417 421 at_417 (by decide) (by decide) ?_
                                                  refine o_retZ (t := .boolean) B49 421 at_421 hret hlk (by simp) (by decide) (by decide) ⟨(congrArg (fun z => some (Value.int z)) ((show nar .boolean (1 : Int32) = (1 : Int32) from rfl).trans (show f0 x0 x1 x2 = (1 : Int32) from (if_neg k1).trans ((if_neg k2).trans ((if_neg k3).trans ((if_neg k4).trans ((if_neg k5).trans ((if_neg k6).trans ((if_neg k7).trans ((if_neg k8).trans ((if_neg k9).trans ((if_neg k10).trans ((if_neg k11).trans ((if_neg k12).trans ((if_neg k13).trans ((if_neg k14).trans ((if_neg k15).trans ((if_neg k16).trans ((if_neg k17).trans ((if_neg k18).trans ((if_neg k19).trans ((if_neg k20).trans ((if_neg k21).trans ((if_neg k22).trans ((if_neg k23).trans ((if_neg k24).trans (rfl))))))))))))))))))))))))).symm)), N49⟩
def own_D : Nat → Int64 → Int64
  | 0, d => d
  | t + 1, d => own_D t (d / 10)
theorem own_Gc (a : Nat) : ∀ (k : Nat) (d : Int64) (g : Nat → Int32) (j : Nat), own_G a k d g j = if a ≤ j ∧ j < a + k then own_dg (own_D (a + k - 1 - j) d) else g j := by
  intro k
  induction k with
  | zero => intro d g j; rw [if_neg (by omega)]; rfl
  | succ k ih =>
    intro d g j
    show own_G a k (d / 10) (fun j => if j = a + k then own_dg d else g j) j = _
    rw [ih]
    by_cases h1 : a ≤ j ∧ j < a + k
    · rw [if_pos h1, if_pos (by omega), show a + (k + 1) - 1 - j = (a + k - 1 - j) + 1 by omega]
      rfl
    · rw [if_neg h1]
      by_cases h2 : j = a + k
      · rw [if_pos h2, if_pos (by omega), show a + (k + 1) - 1 - j = 0 by omega]
        rfl
      · rw [if_neg h2, if_neg (by omega)]
theorem own_Dv : ∀ (t : Nat) (d : Int64), 0 ≤ d.toInt → (own_D t d).toInt = d.toInt / 10 ^ t := by
  intro t
  induction t with
  | zero => intro d h; rw [Int.pow_zero, Int.ediv_one]; rfl
  | succ t ih =>
    intro d h
    have q := (c_ldiv d 10 10 (by decide) (by decide)).1 h
    show (own_D t (d / 10)).toInt = _
    rw [ih _ (by rw [q]; exact Int.ediv_nonneg h (by decide)), q, Int.ediv_ediv_of_nonneg (by decide), Int.pow_succ, Int.mul_comm]
theorem own_ck (v : Int64) (c at_ i : Int32) (hv : 0 ≤ v.toInt) (hb : Eb i c at_) : f2 (o1_0 (fun _ => 0) v c at_) i v c at_ = 1 := by
  have hk := own_kv hb
  have hb' := hb
  unfold Eb at hb'
  unfold f2
  rw [if_pos]
  show own_G at_.toInt.toNat c.toInt.toNat v (fun _ => 0) i.toInt.toNat = _
  rw [own_Gc]
  unfold f3
  by_cases a1 : i < at_
  · rw [if_pos a1]
    rw [Int32.lt_iff_toInt_lt] at a1
    rw [if_neg (by omega)]
  · rw [if_neg a1]
    by_cases a2 : i < at_ + c
    · rw [if_pos a2]
      by_cases a3 : ((at_ + c) - 1) - i < 19
      · have hq := own_kk hb a1 a2 a3
        rw [if_pos a3]
        rw [Int32.lt_iff_toInt_lt] at a1 a2
        rw [if_pos (by omega)]
        have ed := own_Dv (at_.toInt.toNat + c.toInt.toNat - 1 - i.toInt.toNat) v hv
        have ep := own_pw (((at_ + c) - 1) - i) hq
        rw [show (((at_ + c) - 1) - i).toInt.toNat = at_.toInt.toNat + c.toInt.toNat - 1 - i.toInt.toNat by omega] at ep
        have el := (c_ldiv v (f4 (((at_ + c) - 1) - i)) _ ep (fun e => by rw [e] at ep; have : (0 : Int) < 10 ^ (at_.toInt.toNat + c.toInt.toNat - 1 - i.toInt.toNat) := Int.pow_pos (by decide); rw [← ep] at this; exact absurd this (by decide))).1 hv
        have e : own_D (at_.toInt.toNat + c.toInt.toNat - 1 - i.toInt.toNat) v = v / f4 (((at_ + c) - 1) - i) := Int64.toInt_inj.mp (by rw [ed, el])
        rw [e]
        rfl
      · rw [if_neg a3]
        rw [Int32.lt_iff_toInt_lt] at a1 a2 a3
        rw [show (19 : Int32).toInt = 19 by decide] at a3
        rw [if_pos (by omega)]
        have ed := own_Dv (at_.toInt.toNat + c.toInt.toNat - 1 - i.toInt.toNat) v hv
        rw [show at_.toInt.toNat + c.toInt.toNat - 1 - i.toInt.toNat = 19 by omega] at ed ⊢
        have r := rng64 v
        rw [show (10 : Int) ^ 19 = 10000000000000000000 by decide, Int.ediv_eq_zero_of_lt hv (by omega)] at ed
        have e : own_D 19 v = 0 := Int64.toInt_inj.mp (by rw [ed]; rfl)
        rw [e]
        decide
    · rw [if_neg a2]
      rw [Int32.lt_iff_toInt_lt] at a2
      rw [if_neg (by omega)]
theorem law_true (x0 : Int64) (x1 x2 : Int32) : f0 x0 x1 x2 = 1 := by
  have hv : 0 ≤ (x0 &&& 9223372036854775807).toInt := by
    have m := c_maskL x0 9223372036854775807 63 (by decide) (by decide)
    omega
  have h : ∀ i : Int32, (0 ≤ i.toInt ∧ i.toInt < 24) → f2 (o1_0 (fun _ => 0) (x0 &&& 9223372036854775807) (q0_1 x0 x1 x2) (q0_2 x0 x1 x2)) i (x0 &&& 9223372036854775807) (q0_1 x0 x1 x2) (q0_2 x0 x1 x2) = 1 :=
    fun i hi => own_ck _ _ _ i hv (own_eb x0 x1 x2 i hi)
  unfold f0 q0_3 q0_4 q0_5 q0_6 q0_7 q0_8 q0_9 q0_10 q0_11 q0_12 q0_13 q0_14 q0_15 q0_16 q0_17 q0_18 q0_19 q0_20 q0_21 q0_22 q0_23 q0_24 q0_25 q0_26
  rw [h 0 (by decide), h 1 (by decide), h 2 (by decide), h 3 (by decide), h 4 (by decide), h 5 (by decide), h 6 (by decide), h 7 (by decide), h 8 (by decide), h 9 (by decide), h 10 (by decide), h 11 (by decide), h 12 (by decide), h 13 (by decide), h 14 (by decide), h 15 (by decide), h 16 (by decide), h 17 (by decide), h 18 (by decide), h 19 (by decide), h 20 (by decide), h 21 (by decide), h 22 (by decide), h 23 (by decide)]
  decide

set_option maxRecDepth 65536 in
set_option maxHeartbeats 40000000 in
theorem comes_1 {Post : Tables → Env → Array Value → State → Outcome → State → Prop} (hpost : ∀ tb e args s v u, (limb_1_1.after args s (.returned v) u = true ∧ limb_1_2.after args s (.returned v) u = true ∧ True) → FrameEnd s (.returned v) u (Jvm.fieldLocs frame_1_writes args s ++ Jvm.arrayLocs frame_1_arrays args s ++ Jvm.staticLocs frame_1_statics s) 48 896 → Post tb e args s (.returned v) u) :
    ArmFor flags0 classFile x code maxLocals ret World_1 tables_1 room_1 Calls_1 rest_1 Pre_1 Post := by
  intro l hfl _ _ p e ha hc hk s m args below hf hA hF happ hP
  obtain ⟨hcalls, hrest, hpre⟩ := hP
  obtain ⟨-, -, -, hnamed, -, -, -, hat⟩ := (Spec.applies_iff hf).mp happ
  obtain ⟨hg, hn⟩ := and_e (Cond.before_iff.mp (show (Jvm.Cond.and given_1 narrow_1).before args s = true from hpre))
  obtain ⟨g0, hg⟩ := and_e hg
  obtain ⟨g1, hg⟩ := and_e hg
  obtain ⟨g2, hg⟩ := and_e hg
  obtain ⟨w0, w1, w2, rfl⟩ : ∃ w0 w1 w2 : Value, args = #[w0, w1, w2] := by
    have hs : args.size = 3 := by simpa [Cond.value, given_1] using g0
    obtain ⟨L⟩ := args
    match L, hs with
    | [w0, w1, w2], _ => exact ⟨w0, w1, w2, rfl⟩
  have hw := fun d (hd : d ∈ tables_1) => atoms_spec (ws := Jvm.Cond.code x code maxLocals ret :: tables_1) hat d (List.mem_cons_of_mem _ hd)
  obtain ⟨i0, e0⟩ := isL_v g1
  obtain rfl : w0 = (.long i0) := Option.some.inj e0
  obtain ⟨i1, e1⟩ := is_v g2
  obtain rfl : w1 = (.int i1) := Option.some.inj e1
  obtain ⟨i2, e2⟩ := is_v hg
  obtain rfl : w2 = (.int i2) := Option.some.inj e2
  obtain ⟨n, o, h1, h2, h3, v, L, rfl, ⟨rfl, N⟩, hq⟩ := rm0 l s _ hw tables_1 i0 i1 i2 s.heap s.heap.size (Nat.le_refl _) p e ha hc hk s m _ below hf ((Spec.applies_iff_loose hf).mp happ).1 ⟨rfl, State.Warmed39.refl s, rfl⟩ trivial
  rw [law_true] at h3 hq
  refine ⟨n, _, h1, h2, h3, hpost _ _ _ _ _ _ ⟨Cond.after_iff.mpr rfl, Cond.after_iff.mpr (eq_i res_at (Term.int_eval (1)) rfl), trivial⟩ ⟨hq.1, hq.2.1, (hq.2.2.sift fun y hy => Or.inr (N y hy)).mono (by decide) (by decide)⟩⟩
theorem main_1_1 : Claimed_1_1 := comes_1 fun _ _ _ _ _ _ h hF => ⟨h.1, hF⟩
theorem main_1_2 : Claimed_1_2 := comes_1 fun _ _ _ _ _ _ h hF => ⟨h.2.1, hF⟩
end Jvm.Pilot.@@N@@
namespace Jvm.Pilot.@@N@@
open Jvm Jvm.ClassFile Sem Op Lib Jvm.Free Jvm.Stand Jvm.Pilot.@@N@@.Jvm.D
/-! MADE BY PROGRAM (witnessworld.py) out of the Statement's table words and the real class files: 11 classes; the members and pool entries that the words name. The judged class is class 1, her method 1. -/
namespace start1
open Jvm.ClassFile
def u (s : String) : CpInfo := .utf8 (stringToUtf16 s)
/-- a pool by its gaps: so many unusable entries, then the entry; so many at the end -/
def gap : Nat → List CpInfo → List CpInfo
  | 0, r => r
  | n + 1, r => .unusable :: gap n r
def poolList (es : List (Nat × CpInfo)) (last : Nat) : List CpInfo := es.foldr (fun e r => gap e.1 (e.2 :: r)) (gap last [])
def pool (es : List (Nat × CpInfo)) (last : Nat) : Array CpInfo := ⟨poolList es last⟩
def fileOf (pool : Array CpInfo) (this : Nat) (attrs : Array Attribute := #[]) (ms : Array MethodInfo := #[]) (fl : Nat := 33) (sup : Nat := 0) (ifs : Array Nat := #[]) (fds : Array FieldInfo := #[]) : ClassFile where
  minorVersion := 0
  majorVersion := 65
  constantPool := pool
  accessFlags := fl
  thisClass := this
  superClass := sup
  interfaces := ifs
  fields := fds
  methods := ms
  attributes := attrs
def plain (name : String) (sup : Option ClassId) : Class where
  name := name
  kind := .ordinary
  loader := none
  accessFlags := 33
  super := sup
  interfaces := #[]
  cf := none
  fields := #[]
  methods := #[]
  instanceTypes := #[]
  staticTypes := #[]
  resolved := #[]
  callSites := []
  init := .initialized
  statics := none
  mirror := none

def pool0 : Array CpInfo := pool [(5, u "<init>"), (0, u "()V"), (1, .class_ 10), (1, u "java/lang/Object")] 113

def k0m0 : Method := { name := "<init>", desc := "()V", sig := { parameters := [], returnType := none }, accessFlags := 1, code := none }
/-- java/lang/Object -/
def k0 : Class := { plain "java/lang/Object" none with
  accessFlags := 33
  interfaces := #[]
  cf := some (fileOf pool0 8 #[] #[{ accessFlags := 1, nameIndex := 5, descriptorIndex := 6, attributes := #[] }] 33 0 #[] #[])
  fields := #[]
  methods := #[k0m0]
  instanceTypes := #[]
  staticTypes := #[]
  resolved := Array.replicate 124 none
  statics := none }

def pool1 : Array CpInfo := pool [(2, .class_ 4), (1, u "java/lang/Object"), (0, u "<init>"), (0, u "()V"), (2, .long 9223372036854775807), (1, .integer 2147483647), (0, .methodref 13 14), (0, .class_ 15), (0, .nameAndType 16 17), (0, u "com/example/bitsieve/bitsieve/model/DecimalDigits"), (0, u "put"), (0, u "(JI[BI)V"), (0, .methodref 19 20), (0, .class_ 21), (0, .nameAndType 22 23), (0, u "com/example/bitsieve/bitsieve/model/DecimalDigitsPutPinLaw"), (0, u "ck"), (0, u "([BIJII)Z"), (0, .methodref 19 25), (0, .nameAndType 26 27), (0, u "expect"), (0, u "(IJII)B"), (0, .methodref 19 29), (0, .nameAndType 30 31), (0, u "pow10"), (0, u "(I)J"), (0, .long 10), (1, .long 48), (1, .long 100), (1, .long 1000), (1, .long 10000), (1, .long 100000), (1, .long 1000000), (1, .long 10000000), (1, .long 100000000), (1, .long 1000000000), (1, .long 10000000000), (1, .long 100000000000), (1, .long 1000000000000), (1, .long 10000000000000), (1, .long 100000000000000), (1, .long 1000000000000000), (1, .long 10000000000000000), (1, .long 100000000000000000), (1, .long 1000000000000000000), (3, u "law"), (0, u "(JII)Z")] 5

def k1m0 : Method := { name := "<init>", desc := "()V", sig := { parameters := [], returnType := none }, accessFlags := 2, code := none }
def k1c1 : Code := { maxStack := 6, maxLocals := 9, code := code, exceptionTable := #[], attributes := #[] }
def k1m1 : Method := { name := "law", desc := "(JII)Z", sig := { parameters := [.long, .int, .int], returnType := some .boolean }, accessFlags := 9, code := some k1c1 }
def k1c2 : Code := { maxStack := 6, maxLocals := 6, code := method_3_code, exceptionTable := #[], attributes := #[] }
def k1m2 : Method := { name := "ck", desc := "([BIJII)Z", sig := { parameters := [(.array .byte), .int, .long, .int, .int], returnType := some .boolean }, accessFlags := 10, code := some k1c2 }
def k1c3 : Code := { maxStack := 4, maxLocals := 8, code := method_4_code, exceptionTable := #[], attributes := #[] }
def k1m3 : Method := { name := "expect", desc := "(IJII)B", sig := { parameters := [.int, .long, .int, .int], returnType := some .byte }, accessFlags := 10, code := some k1c3 }
def k1c4 : Code := { maxStack := 5, maxLocals := 2, code := method_5_code, exceptionTable := #[], attributes := #[] }
def k1m4 : Method := { name := "pow10", desc := "(I)J", sig := { parameters := [.int], returnType := some .long }, accessFlags := 10, code := some k1c4 }
/-- com/example/bitsieve/bitsieve/model/DecimalDigitsPutPinLaw -/
def k1 : Class := { plain "com/example/bitsieve/bitsieve/model/DecimalDigitsPutPinLaw" (some 0) with
  accessFlags := 49
  interfaces := #[]
  cf := some (fileOf pool1 19 #[] #[{ accessFlags := 2, nameIndex := 5, descriptorIndex := 6, attributes := #[] }, { accessFlags := 9, nameIndex := 72, descriptorIndex := 73, attributes := #[] }, { accessFlags := 10, nameIndex := 22, descriptorIndex := 23, attributes := #[] }, { accessFlags := 10, nameIndex := 26, descriptorIndex := 27, attributes := #[] }, { accessFlags := 10, nameIndex := 30, descriptorIndex := 31, attributes := #[] }] 49 2 #[] #[])
  fields := #[]
  methods := #[k1m0, k1m1, k1m2, k1m3, k1m4]
  instanceTypes := #[]
  staticTypes := #[]
  resolved := Array.replicate 79 none
  statics := none }

def pool2 : Array CpInfo := pool [(2, .class_ 4), (1, u "java/lang/Object"), (0, u "<init>"), (0, u "()V"), (0, .long 10), (1, .long 48), (1, .class_ 12), (0, u "com/example/bitsieve/bitsieve/model/DecimalDigits"), (5, u "put"), (0, u "(JI[BI)V")] 2

def k2m0 : Method := { name := "<init>", desc := "()V", sig := { parameters := [], returnType := none }, accessFlags := 2, code := none }
def k2c1 : Code := { maxStack := 8, maxLocals := 8, code := prog_39_method_3_code, exceptionTable := #[], attributes := #[] }
def k2m1 : Method := { name := "put", desc := "(JI[BI)V", sig := { parameters := [.long, .int, (.array .byte), .int], returnType := none }, accessFlags := 9, code := some k2c1 }
/-- com/example/bitsieve/bitsieve/model/DecimalDigits -/
def k2 : Class := { plain "com/example/bitsieve/bitsieve/model/DecimalDigits" (some 0) with
  accessFlags := 49
  interfaces := #[]
  cf := some (fileOf pool2 11 #[] #[{ accessFlags := 2, nameIndex := 5, descriptorIndex := 6, attributes := #[] }, { accessFlags := 9, nameIndex := 18, descriptorIndex := 19, attributes := #[] }] 49 2 #[] #[])
  fields := #[]
  methods := #[k2m0, k2m1]
  instanceTypes := #[]
  staticTypes := #[]
  resolved := Array.replicate 22 none
  statics := none }

def pool3 : Array CpInfo := pool [(1, u "java/lang/Cloneable"), (0, .class_ 1), (0, u "java/lang/Object"), (0, .class_ 3)] 3

/-- java/lang/Cloneable -/
def k3 : Class := { plain "java/lang/Cloneable" (some 0) with
  accessFlags := 1537
  interfaces := #[]
  cf := some (fileOf pool3 2 #[] #[] 1537 4 #[] #[])
  fields := #[]
  methods := #[]
  instanceTypes := #[]
  staticTypes := #[]
  resolved := Array.replicate 8 none
  statics := none }

def pool4 : Array CpInfo := pool [(1, u "java/io/Serializable"), (0, .class_ 1), (0, u "java/lang/Object"), (0, .class_ 3)] 3

/-- java/io/Serializable -/
def k4 : Class := { plain "java/io/Serializable" (some 0) with
  accessFlags := 1537
  interfaces := #[]
  cf := some (fileOf pool4 2 #[] #[] 1537 4 #[] #[])
  fields := #[]
  methods := #[]
  instanceTypes := #[]
  staticTypes := #[]
  resolved := Array.replicate 8 none
  statics := none }

/-- the primitive byte -/
def k5 : Class := { plain "byte" none with kind := .primitive 'B', accessFlags := 0x411 }
/-- [B -/
def k6 : Class := { plain "[B" (some 0) with kind := .array 5 .byte, interfaces := #[3, 4], accessFlags := 1041 }

/-- the primitive int -/
def k7 : Class := { plain "int" none with kind := .primitive 'I', accessFlags := 0x411 }
/-- [I -/
def k8 : Class := { plain "[I" (some 0) with kind := .array 7 .int, interfaces := #[3, 4], accessFlags := 1041 }

/-- the primitive long -/
def k9 : Class := { plain "long" none with kind := .primitive 'J', accessFlags := 0x411 }
/-- [J -/
def k10 : Class := { plain "[J" (some 0) with kind := .array 9 .long, interfaces := #[3, 4], accessFlags := 1041 }

def heap : Heap := #[]
def classes : Array Class := #[k0, k1, k2, k3, k4, k5, k6, k7, k8, k9, k10]
def interned : List (Array UInt16 × Addr) := []
def slotsUsed : Nat := 0
def theMethod : MethodId := ⟨1, 1⟩
def args0 : Array Value := #[.long 1, .int 2, .int 3]
def aboutOver (below : List Frame) : State where
  vm := { classes := classes, interned := interned.toArray }
  heap := heap
  slotsUsed := slotsUsed
  threads := #[{ frames := .invoking theMethod args0 :: below }]
def below0 : List Frame := [.native { method := ⟨0, 0⟩, args := #[] }]
def about1 : State := aboutOver below0
def p0 : Program := .bare "" "" ""
def e0 : Env := launch0.env 0 0 0
theorem w_frames : about1.frames = Frame.invoking theMethod args0 :: below0 := rfl
set_option maxRecDepth 65536 in
theorem w_args : argsFit about1.vm theMethod args0 = true := by decide +kernel
set_option maxRecDepth 65536 in
theorem w_heap : heapFits about1 = true := by decide +kernel
set_option maxRecDepth 65536 in
theorem w_runnable : about1.curStatus? = some .runnable := by decide +kernel
set_option maxRecDepth 65536 in
theorem w_alone : about1.alone = true := by decide +kernel
set_option maxRecDepth 65536 in
theorem w_named : about1.methodNamed? x = some theMethod := by decide +kernel
set_option maxRecDepth 65536 in
theorem w_hears : about1.hears theMethod below0 = true := by decide +kernel
set_option maxRecDepth 65536 in
theorem w_ripe : about1.ripe theMethod args0 below0 = true := by decide +kernel
theorem w_running : about1.status = .running := rfl
set_option maxRecDepth 65536 in
theorem w_room : about1.hasRoom e0.platform room_1 = true :=
  launch0.hasRoom_least _ room_1 (by decide +kernel) (by decide +kernel) (by decide +kernel) (by decide +kernel) (by decide +kernel) (by decide +kernel)
theorem allAtoms_all (ts : List Jvm.Cond) (a : Array Jvm.Value) (st : Jvm.State) : (allAtoms ts).before a st = ts.all (fun c => c.before a st) := by
  induction ts with
  | nil => rfl
  | cons c t ih =>
    show (Jvm.Cond.and c (allAtoms t)).before a st = _
    rw [Jvm.Cond.before_and, ih, List.all_cons]
def words1 : List Jvm.Cond := Jvm.Cond.code x code maxLocals ret :: tables_1
/-- a 'code' word, met by the world's own term for the bytes: nothing is compared byte by byte -/
theorem code_word {y : MethodName} {bytes : ByteArray} {mx : Nat} {rt : Option FieldType} {a : Array Value} {s : State} {m : MethodId} {meth : Method} {c : Code} (h1 : s.methodNamed? y = some m) (h2 : s.vm.method? m = some meth) (h3 : meth.code = some c) (h4 : c.code = bytes)
    (h5 : (c.maxLocals == mx && c.exceptionTable.isEmpty && decide (c.maxStack ≤ mostOperands) && decide (meth.sig.returnType = rt) && !meth.locks && decide (parseMethodDescriptor y.desc = some meth.sig)) = true) : (Jvm.Cond.code y bytes mx rt).before a s = true := by
  simp only [Bool.and_eq_true, beq_iff_eq, Bool.not_eq_true', decide_eq_true_eq] at h5
  obtain ⟨⟨⟨⟨⟨g1, g2⟩, g3⟩, g4⟩, g5⟩, g6⟩ := h5
  simp [Cond.before, Cond.holds, Cond.value, h1, h2, h3, h4, g1, g2, g3, g4, g5, g6]
def isCode : Jvm.Cond → Bool
  | .code _ _ _ _ => true
  | _ => false
theorem all_split {L : List Jvm.Cond} {P : Jvm.Cond → Bool} (h1 : L.all (fun c => isCode c || P c) = true) (h2 : ∀ c ∈ L.filter isCode, P c = true) : L.all P = true := by
  refine List.all_eq_true.mpr fun c hc => ?_
  have h := List.all_eq_true.mp h1 c hc
  rcases Bool.eq_false_or_eq_true (isCode c) with hi | hi
  · exact h2 c (List.mem_filter.mpr ⟨hc, hi⟩)
  · simpa [hi] using h
set_option maxRecDepth 65536 in
theorem w_c0 : (Jvm.Cond.code x code maxLocals ret).before args0 about1 = true := code_word (m := ⟨1, 1⟩) (meth := k1m1) (c := k1c1) (by decide +kernel) rfl rfl rfl (by decide +kernel)
set_option maxRecDepth 65536 in
theorem w_c1 : (Jvm.Cond.code ({ cls := "com/example/bitsieve/bitsieve/model/DecimalDigits", name := "put", desc := "(JI[BI)V" } : Jvm.MethodName) prog_39_method_3_code (8 : Nat) (Option.none : Option Jvm.ClassFile.FieldType)).before args0 about1 = true := code_word (m := ⟨2, 1⟩) (meth := k2m1) (c := k2c1) (by decide +kernel) rfl rfl rfl (by decide +kernel)
set_option maxRecDepth 65536 in
theorem w_c2 : (Jvm.Cond.code ({ cls := "com/example/bitsieve/bitsieve/model/DecimalDigitsPutPinLaw", name := "ck", desc := "([BIJII)Z" } : Jvm.MethodName) method_3_code (6 : Nat) (Option.some Jvm.ClassFile.FieldType.boolean)).before args0 about1 = true := code_word (m := ⟨1, 2⟩) (meth := k1m2) (c := k1c2) (by decide +kernel) rfl rfl rfl (by decide +kernel)
set_option maxRecDepth 65536 in
theorem w_c3 : (Jvm.Cond.code ({ cls := "com/example/bitsieve/bitsieve/model/DecimalDigitsPutPinLaw", name := "expect", desc := "(IJII)B" } : Jvm.MethodName) method_4_code (8 : Nat) (Option.some Jvm.ClassFile.FieldType.byte)).before args0 about1 = true := code_word (m := ⟨1, 3⟩) (meth := k1m3) (c := k1c3) (by decide +kernel) rfl rfl rfl (by decide +kernel)
set_option maxRecDepth 65536 in
theorem w_c4 : (Jvm.Cond.code ({ cls := "com/example/bitsieve/bitsieve/model/DecimalDigitsPutPinLaw", name := "pow10", desc := "(I)J" } : Jvm.MethodName) method_5_code (2 : Nat) (Option.some Jvm.ClassFile.FieldType.long)).before args0 about1 = true := code_word (m := ⟨1, 4⟩) (meth := k1m4) (c := k1c4) (by decide +kernel) rfl rfl rfl (by decide +kernel)
def codes1 : List Jvm.Cond := [Jvm.Cond.code x code maxLocals ret, Jvm.Cond.code ({ cls := "com/example/bitsieve/bitsieve/model/DecimalDigits", name := "put", desc := "(JI[BI)V" } : Jvm.MethodName) prog_39_method_3_code (8 : Nat) (Option.none : Option Jvm.ClassFile.FieldType), Jvm.Cond.code ({ cls := "com/example/bitsieve/bitsieve/model/DecimalDigitsPutPinLaw", name := "ck", desc := "([BIJII)Z" } : Jvm.MethodName) method_3_code (6 : Nat) (Option.some Jvm.ClassFile.FieldType.boolean), Jvm.Cond.code ({ cls := "com/example/bitsieve/bitsieve/model/DecimalDigitsPutPinLaw", name := "expect", desc := "(IJII)B" } : Jvm.MethodName) method_4_code (8 : Nat) (Option.some Jvm.ClassFile.FieldType.byte), Jvm.Cond.code ({ cls := "com/example/bitsieve/bitsieve/model/DecimalDigitsPutPinLaw", name := "pow10", desc := "(I)J" } : Jvm.MethodName) method_5_code (2 : Nat) (Option.some Jvm.ClassFile.FieldType.long)]
set_option maxRecDepth 65536 in
theorem codes_eq : words1.filter isCode = codes1 := rfl
theorem w_codes : ∀ c ∈ words1.filter isCode, c.before args0 about1 = true := by
  rw [codes_eq]
  intro c hc
  simp only [codes1, List.mem_cons, List.not_mem_nil, or_false] at hc
  rcases hc with rfl | rfl | rfl | rfl | rfl
  · exact w_c0
  · exact w_c1
  · exact w_c2
  · exact w_c3
  · exact w_c4
set_option maxRecDepth 65536 in
theorem w_t1 : (words1.take 24).all (fun c => isCode c || c.before args0 about1) = true := by decide +kernel
set_option maxRecDepth 65536 in
theorem w_t2 : (words1.drop 24).all (fun c => isCode c || c.before args0 about1) = true := by decide +kernel
theorem w_tables : (allAtoms (Jvm.Cond.code x code maxLocals ret :: tables_1)).before args0 about1 = true := by
  rw [allAtoms_all]
  show words1.all (fun c => c.before args0 about1) = true
  refine all_split ?_ w_codes
  rw [← List.take_append_drop 24 words1, List.all_append, w_t1, w_t2]
  rfl
set_option maxRecDepth 65536 in
theorem w_case : (Jvm.Cond.and given_1 narrow_1).before args0 about1 = true := by decide +kernel
theorem w_applies : (headSpec (Jvm.Cond.code x code maxLocals ret :: tables_1) room_1).applies x e0.platform about1 = true :=
  (Spec.applies_iff w_frames).mpr ⟨w_running, w_runnable, w_alone, w_named, w_hears, w_ripe, w_room, w_tables⟩
theorem atStart : AtStart classFile x code maxLocals ret World_1 tables_1 room_1 Calls_1 rest_1 Pre_1 launch0 p0 e0 about1 theMethod args0 below0 :=
  ⟨lists_1, trivial, launch0.admits_env _ _ _, launch0.least_env, fairChoices_fair.cas, fairChoices_fair.clock, w_frames, w_args, w_heap, w_applies, trivial, trivial, w_case⟩
end start1
theorem witness_1 : WitnessClaimed_1 := ⟨start1.p0, start1.e0, start1.about1, start1.theMethod, start1.args0, start1.below0, start1.atStart⟩
end Jvm.Pilot.@@N@@
