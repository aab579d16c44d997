import JvmDerived
import JvmDerived.Pilot.@@N@@Statement
import JvmDerived.Pilot.@@N@@Code
set_option linter.unusedVariables false
set_option linter.unusedSimpArgs false
namespace Jvm.Pilot.@@N@@
open Jvm Jvm.ClassFile Sem Op Lib Jvm.Free Jvm.Stand Jvm.LawKit Jvm.RoadKit Bundle Jvm.Pilot.@@N@@.Jvm.D
/-! 1. the walk's own words -/
def OG (tb : Tables) (e : Env) (below : List Frame) (P : Outcome → State → Prop) (A : State) : Prop :=
  ∃ s₂ o, Steps tb e below A s₂ ∧ s₂.status = .running ∧ Ended s₂ below o ∧ P o s₂
theorem mi {α : Type} {L : List α} {x : α} (i : Nat) (h : L[i]? = some x) : x ∈ L := List.mem_of_getElem? h
abbrev vi (x : Int32) : Slot := .val (.int x)
abbrev vj (x : Int64) : Slot := .val (.long x)
abbrev vr (x : Addr) : Slot := .val (.ref x)
abbrev us : Slot := .unset
abbrev s2 : Slot := .second
theorem OG.of {tb : Tables} {e : Env} {below : List Frame} {P : Outcome → State → Prop} {A B : State} (h : OG tb e below P B) (k : ∀ t, Steps tb e below B t → Steps tb e below A t) : OG tb e below P A := by
  obtain ⟨t, o, st, r⟩ := h
  exact ⟨t, o, k t st, r⟩
def Bx (own : String) (bs : ByteArray) (ml : Nat) (Z : State) (p : Program) (l : Launch) (e : Env) (R : Room) (s : State) (m : MethodId) (args : Array Value) (below : List Frame) (meth : Method) (c : Code) (T : State) (h : Heap) (locs : List Loc) (cells slots : Nat) : Prop :=
  Stand p l e R s m args below meth c T locs cells slots ∧ p.tables.exec = Jvm.exec ∧ c.code = bs ∧ c.maxLocals = ml ∧ s.vm.findClass own = some m.cls ∧ Z.Warmed39 s.vm ∧ T.heap = h
section Walk
variable {own : String} {bs : ByteArray} {ml : Nat} {Z : State} {p : Program} {l : Launch} {e : Env} {R : Room} {s : State} {m : MethodId} {args : Array Value} {below : List Frame} {meth : Method} {c : Code} {T : State} {h : Heap} {locs : List Loc} {cells slots : Nat} {P : Outcome → State → Prop} {Ls : Array Slot} {rest : List Value} {a0 : Array Value}
theorem o_iadd (B : Bx own bs ml Z p l e R s m args below meth c T h locs cells slots) (pc pc' : Nat) {x y : Int32} (hd : decode bs pc = .ok (.iadd, 1)) (hp : pc + 1 = pc') 
    (hr : OG p.tables e below P (T.setTop (mkF m pc' Ls (.int (x + y) :: rest)))) : OG p.tables e below P (T.setTop (mkF m pc Ls (.int y :: .int x :: rest))) := by
  subst hp
  obtain ⟨X, hx, hby, hml, hown, hZ, eT⟩ := B
  exact hr.of fun t k => XS.iadd X.here hx rfl (hb hby hd) rfl k
theorem o_isub (B : Bx own bs ml Z p l e R s m args below meth c T h locs cells slots) (pc pc' : Nat) {x y : Int32} (hd : decode bs pc = .ok (.isub, 1)) (hp : pc + 1 = pc') 
    (hr : OG p.tables e below P (T.setTop (mkF m pc' Ls (.int (x - y) :: rest)))) : OG p.tables e below P (T.setTop (mkF m pc Ls (.int y :: .int x :: rest))) := by
  subst hp
  obtain ⟨X, hx, hby, hml, hown, hZ, eT⟩ := B
  exact hr.of fun t k => XS.isub X.here hx rfl (hb hby hd) rfl k
theorem o_imul (B : Bx own bs ml Z p l e R s m args below meth c T h locs cells slots) (pc pc' : Nat) {x y : Int32} (hd : decode bs pc = .ok (.imul, 1)) (hp : pc + 1 = pc') 
    (hr : OG p.tables e below P (T.setTop (mkF m pc' Ls (.int (x * y) :: rest)))) : OG p.tables e below P (T.setTop (mkF m pc Ls (.int y :: .int x :: rest))) := by
  subst hp
  obtain ⟨X, hx, hby, hml, hown, hZ, eT⟩ := B
  exact hr.of fun t k => XS.imul X.here hx rfl (hb hby hd) rfl k
theorem o_iand (B : Bx own bs ml Z p l e R s m args below meth c T h locs cells slots) (pc pc' : Nat) {x y : Int32} (hd : decode bs pc = .ok (.iand, 1)) (hp : pc + 1 = pc') 
    (hr : OG p.tables e below P (T.setTop (mkF m pc' Ls (.int (x &&& y) :: rest)))) : OG p.tables e below P (T.setTop (mkF m pc Ls (.int y :: .int x :: rest))) := by
  subst hp
  obtain ⟨X, hx, hby, hml, hown, hZ, eT⟩ := B
  exact hr.of fun t k => XS.iand X.here hx rfl (hb hby hd) rfl k
theorem o_ior (B : Bx own bs ml Z p l e R s m args below meth c T h locs cells slots) (pc pc' : Nat) {x y : Int32} (hd : decode bs pc = .ok (.ior, 1)) (hp : pc + 1 = pc') 
    (hr : OG p.tables e below P (T.setTop (mkF m pc' Ls (.int (x ||| y) :: rest)))) : OG p.tables e below P (T.setTop (mkF m pc Ls (.int y :: .int x :: rest))) := by
  subst hp
  obtain ⟨X, hx, hby, hml, hown, hZ, eT⟩ := B
  exact hr.of fun t k => XT.ior X.here hx rfl (hb hby hd) rfl k
theorem o_ixor (B : Bx own bs ml Z p l e R s m args below meth c T h locs cells slots) (pc pc' : Nat) {x y : Int32} (hd : decode bs pc = .ok (.ixor, 1)) (hp : pc + 1 = pc') 
    (hr : OG p.tables e below P (T.setTop (mkF m pc' Ls (.int (x ^^^ y) :: rest)))) : OG p.tables e below P (T.setTop (mkF m pc Ls (.int y :: .int x :: rest))) := by
  subst hp
  obtain ⟨X, hx, hby, hml, hown, hZ, eT⟩ := B
  exact hr.of fun t k => XT.ixor X.here hx rfl (hb hby hd) rfl k
theorem o_ishl (B : Bx own bs ml Z p l e R s m args below meth c T h locs cells slots) (pc pc' : Nat) {x y : Int32} (hd : decode bs pc = .ok (.ishl, 1)) (hp : pc + 1 = pc') 
    (hr : OG p.tables e below P (T.setTop (mkF m pc' Ls (.int (x <<< (y &&& 31)) :: rest)))) : OG p.tables e below P (T.setTop (mkF m pc Ls (.int y :: .int x :: rest))) := by
  subst hp
  obtain ⟨X, hx, hby, hml, hown, hZ, eT⟩ := B
  exact hr.of fun t k => XT.ishl X.here hx rfl (hb hby hd) rfl k
theorem o_ishr (B : Bx own bs ml Z p l e R s m args below meth c T h locs cells slots) (pc pc' : Nat) {x y : Int32} (hd : decode bs pc = .ok (.ishr, 1)) (hp : pc + 1 = pc') 
    (hr : OG p.tables e below P (T.setTop (mkF m pc' Ls (.int (x >>> (y &&& 31)) :: rest)))) : OG p.tables e below P (T.setTop (mkF m pc Ls (.int y :: .int x :: rest))) := by
  subst hp
  obtain ⟨X, hx, hby, hml, hown, hZ, eT⟩ := B
  exact hr.of fun t k => XT.ishr X.here hx rfl (hb hby hd) rfl k
theorem o_iushr (B : Bx own bs ml Z p l e R s m args below meth c T h locs cells slots) (pc pc' : Nat) {x y : Int32} (hd : decode bs pc = .ok (.iushr, 1)) (hp : pc + 1 = pc') 
    (hr : OG p.tables e below P (T.setTop (mkF m pc' Ls (.int (XT.ushr x y) :: rest)))) : OG p.tables e below P (T.setTop (mkF m pc Ls (.int y :: .int x :: rest))) := by
  subst hp
  obtain ⟨X, hx, hby, hml, hown, hZ, eT⟩ := B
  exact hr.of fun t k => XT.iushr X.here hx rfl (hb hby hd) rfl k
theorem o_idiv (B : Bx own bs ml Z p l e R s m args below meth c T h locs cells slots) (pc pc' : Nat) {x y : Int32} (hd : decode bs pc = .ok (.idiv, 1)) (hp : pc + 1 = pc') (hy : y ≠ 0)
    (hr : OG p.tables e below P (T.setTop (mkF m pc' Ls (.int (x / y) :: rest)))) : OG p.tables e below P (T.setTop (mkF m pc Ls (.int y :: .int x :: rest))) := by
  subst hp
  obtain ⟨X, hx, hby, hml, hown, hZ, eT⟩ := B
  exact hr.of fun t k => XS.idiv X.here hx rfl (hb hby hd) rfl hy k
theorem o_irem (B : Bx own bs ml Z p l e R s m args below meth c T h locs cells slots) (pc pc' : Nat) {x y : Int32} (hd : decode bs pc = .ok (.irem, 1)) (hp : pc + 1 = pc') (hy : y ≠ 0)
    (hr : OG p.tables e below P (T.setTop (mkF m pc' Ls (.int (x % y) :: rest)))) : OG p.tables e below P (T.setTop (mkF m pc Ls (.int y :: .int x :: rest))) := by
  subst hp
  obtain ⟨X, hx, hby, hml, hown, hZ, eT⟩ := B
  exact hr.of fun t k => XS.irem X.here hx rfl (hb hby hd) rfl hy (by rw [irem_eq_mod]; exact k)
theorem o_ladd (B : Bx own bs ml Z p l e R s m args below meth c T h locs cells slots) (pc pc' : Nat) {x y : Int64} (hd : decode bs pc = .ok (.ladd, 1)) (hp : pc + 1 = pc') 
    (hr : OG p.tables e below P (T.setTop (mkF m pc' Ls (.long (x + y) :: rest)))) : OG p.tables e below P (T.setTop (mkF m pc Ls (.long y :: .long x :: rest))) := by
  subst hp
  obtain ⟨X, hx, hby, hml, hown, hZ, eT⟩ := B
  exact hr.of fun t k => XT.ladd X.here hx rfl (hb hby hd) rfl k
theorem o_lsub (B : Bx own bs ml Z p l e R s m args below meth c T h locs cells slots) (pc pc' : Nat) {x y : Int64} (hd : decode bs pc = .ok (.lsub, 1)) (hp : pc + 1 = pc') 
    (hr : OG p.tables e below P (T.setTop (mkF m pc' Ls (.long (x - y) :: rest)))) : OG p.tables e below P (T.setTop (mkF m pc Ls (.long y :: .long x :: rest))) := by
  subst hp
  obtain ⟨X, hx, hby, hml, hown, hZ, eT⟩ := B
  exact hr.of fun t k => XT.lsub X.here hx rfl (hb hby hd) rfl k
theorem o_lmul (B : Bx own bs ml Z p l e R s m args below meth c T h locs cells slots) (pc pc' : Nat) {x y : Int64} (hd : decode bs pc = .ok (.lmul, 1)) (hp : pc + 1 = pc') 
    (hr : OG p.tables e below P (T.setTop (mkF m pc' Ls (.long (x * y) :: rest)))) : OG p.tables e below P (T.setTop (mkF m pc Ls (.long y :: .long x :: rest))) := by
  subst hp
  obtain ⟨X, hx, hby, hml, hown, hZ, eT⟩ := B
  exact hr.of fun t k => XT.lmul X.here hx rfl (hb hby hd) rfl k
theorem o_land (B : Bx own bs ml Z p l e R s m args below meth c T h locs cells slots) (pc pc' : Nat) {x y : Int64} (hd : decode bs pc = .ok (.land, 1)) (hp : pc + 1 = pc') 
    (hr : OG p.tables e below P (T.setTop (mkF m pc' Ls (.long (x &&& y) :: rest)))) : OG p.tables e below P (T.setTop (mkF m pc Ls (.long y :: .long x :: rest))) := by
  subst hp
  obtain ⟨X, hx, hby, hml, hown, hZ, eT⟩ := B
  exact hr.of fun t k => XT.land X.here hx rfl (hb hby hd) rfl k
theorem o_lor (B : Bx own bs ml Z p l e R s m args below meth c T h locs cells slots) (pc pc' : Nat) {x y : Int64} (hd : decode bs pc = .ok (.lor, 1)) (hp : pc + 1 = pc') 
    (hr : OG p.tables e below P (T.setTop (mkF m pc' Ls (.long (x ||| y) :: rest)))) : OG p.tables e below P (T.setTop (mkF m pc Ls (.long y :: .long x :: rest))) := by
  subst hp
  obtain ⟨X, hx, hby, hml, hown, hZ, eT⟩ := B
  exact hr.of fun t k => XT.lor X.here hx rfl (hb hby hd) rfl k
theorem o_lxor (B : Bx own bs ml Z p l e R s m args below meth c T h locs cells slots) (pc pc' : Nat) {x y : Int64} (hd : decode bs pc = .ok (.lxor, 1)) (hp : pc + 1 = pc') 
    (hr : OG p.tables e below P (T.setTop (mkF m pc' Ls (.long (x ^^^ y) :: rest)))) : OG p.tables e below P (T.setTop (mkF m pc Ls (.long y :: .long x :: rest))) := by
  subst hp
  obtain ⟨X, hx, hby, hml, hown, hZ, eT⟩ := B
  exact hr.of fun t k => XT.lxor X.here hx rfl (hb hby hd) rfl k
theorem o_ldiv (B : Bx own bs ml Z p l e R s m args below meth c T h locs cells slots) (pc pc' : Nat) {x y : Int64} (hd : decode bs pc = .ok (.ldiv, 1)) (hp : pc + 1 = pc') (hy : y ≠ 0)
    (hr : OG p.tables e below P (T.setTop (mkF m pc' Ls (.long (x / y) :: rest)))) : OG p.tables e below P (T.setTop (mkF m pc Ls (.long y :: .long x :: rest))) := by
  subst hp
  obtain ⟨X, hx, hby, hml, hown, hZ, eT⟩ := B
  exact hr.of fun t k => XT.ldiv X.here hx rfl (hb hby hd) rfl hy k
theorem o_lrem (B : Bx own bs ml Z p l e R s m args below meth c T h locs cells slots) (pc pc' : Nat) {x y : Int64} (hd : decode bs pc = .ok (.lrem, 1)) (hp : pc + 1 = pc') (hy : y ≠ 0)
    (hr : OG p.tables e below P (T.setTop (mkF m pc' Ls (.long (x % y) :: rest)))) : OG p.tables e below P (T.setTop (mkF m pc Ls (.long y :: .long x :: rest))) := by
  subst hp
  obtain ⟨X, hx, hby, hml, hown, hZ, eT⟩ := B
  exact hr.of fun t k => XT.lrem X.here hx rfl (hb hby hd) rfl hy (by rw [lrem_mod]; exact k)
theorem o_lshl (B : Bx own bs ml Z p l e R s m args below meth c T h locs cells slots) (pc pc' : Nat) {x : Int64} {y : Int32} (hd : decode bs pc = .ok (.lshl, 1)) (hp : pc + 1 = pc') 
    (hr : OG p.tables e below P (T.setTop (mkF m pc' Ls (.long (x <<< (y.toInt64 &&& 63)) :: rest)))) : OG p.tables e below P (T.setTop (mkF m pc Ls (.int y :: .long x :: rest))) := by
  subst hp
  obtain ⟨X, hx, hby, hml, hown, hZ, eT⟩ := B
  exact hr.of fun t k => XT.lshl X.here hx rfl (hb hby hd) rfl k
theorem o_lshr (B : Bx own bs ml Z p l e R s m args below meth c T h locs cells slots) (pc pc' : Nat) {x : Int64} {y : Int32} (hd : decode bs pc = .ok (.lshr, 1)) (hp : pc + 1 = pc') 
    (hr : OG p.tables e below P (T.setTop (mkF m pc' Ls (.long (x >>> (y.toInt64 &&& 63)) :: rest)))) : OG p.tables e below P (T.setTop (mkF m pc Ls (.int y :: .long x :: rest))) := by
  subst hp
  obtain ⟨X, hx, hby, hml, hown, hZ, eT⟩ := B
  exact hr.of fun t k => XT.lshr X.here hx rfl (hb hby hd) rfl k
theorem o_lushr (B : Bx own bs ml Z p l e R s m args below meth c T h locs cells slots) (pc pc' : Nat) {x : Int64} {y : Int32} (hd : decode bs pc = .ok (.lushr, 1)) (hp : pc + 1 = pc') 
    (hr : OG p.tables e below P (T.setTop (mkF m pc' Ls (.long (XT.ushrL x y) :: rest)))) : OG p.tables e below P (T.setTop (mkF m pc Ls (.int y :: .long x :: rest))) := by
  subst hp
  obtain ⟨X, hx, hby, hml, hown, hZ, eT⟩ := B
  exact hr.of fun t k => XT.lushr X.here hx rfl (hb hby hd) rfl k
theorem o_lcmp (B : Bx own bs ml Z p l e R s m args below meth c T h locs cells slots) (pc pc' : Nat) {x y : Int64} (hd : decode bs pc = .ok (.lcmp, 1)) (hp : pc + 1 = pc') 
    (hr : OG p.tables e below P (T.setTop (mkF m pc' Ls (.int (XT.cmpL x y) :: rest)))) : OG p.tables e below P (T.setTop (mkF m pc Ls (.long y :: .long x :: rest))) := by
  subst hp
  obtain ⟨X, hx, hby, hml, hown, hZ, eT⟩ := B
  exact hr.of fun t k => XT.lcmp X.here hx rfl (hb hby hd) rfl k
theorem o_ineg (B : Bx own bs ml Z p l e R s m args below meth c T h locs cells slots) (pc pc' : Nat) {x : Int32} (hd : decode bs pc = .ok (.ineg, 1)) (hp : pc + 1 = pc') 
    (hr : OG p.tables e below P (T.setTop (mkF m pc' Ls (.int (-x) :: rest)))) : OG p.tables e below P (T.setTop (mkF m pc Ls (.int x :: rest))) := by
  subst hp
  obtain ⟨X, hx, hby, hml, hown, hZ, eT⟩ := B
  exact hr.of fun t k => XS.ineg X.here hx rfl (hb hby hd) rfl k
theorem o_lneg (B : Bx own bs ml Z p l e R s m args below meth c T h locs cells slots) (pc pc' : Nat) {x : Int64} (hd : decode bs pc = .ok (.lneg, 1)) (hp : pc + 1 = pc') 
    (hr : OG p.tables e below P (T.setTop (mkF m pc' Ls (.long (-x) :: rest)))) : OG p.tables e below P (T.setTop (mkF m pc Ls (.long x :: rest))) := by
  subst hp
  obtain ⟨X, hx, hby, hml, hown, hZ, eT⟩ := B
  exact hr.of fun t k => XT.lneg X.here hx rfl (hb hby hd) rfl k
theorem o_i2l (B : Bx own bs ml Z p l e R s m args below meth c T h locs cells slots) (pc pc' : Nat) {x : Int32} (hd : decode bs pc = .ok (.i2l, 1)) (hp : pc + 1 = pc') 
    (hr : OG p.tables e below P (T.setTop (mkF m pc' Ls (.long (x.toInt64) :: rest)))) : OG p.tables e below P (T.setTop (mkF m pc Ls (.int x :: rest))) := by
  subst hp
  obtain ⟨X, hx, hby, hml, hown, hZ, eT⟩ := B
  exact hr.of fun t k => XT.i2l X.here hx rfl (hb hby hd) rfl k
theorem o_l2i (B : Bx own bs ml Z p l e R s m args below meth c T h locs cells slots) (pc pc' : Nat) {x : Int64} (hd : decode bs pc = .ok (.l2i, 1)) (hp : pc + 1 = pc') 
    (hr : OG p.tables e below P (T.setTop (mkF m pc' Ls (.int (x.toInt32) :: rest)))) : OG p.tables e below P (T.setTop (mkF m pc Ls (.long x :: rest))) := by
  subst hp
  obtain ⟨X, hx, hby, hml, hown, hZ, eT⟩ := B
  exact hr.of fun t k => XT.l2i X.here hx rfl (hb hby hd) rfl k
theorem o_i2b (B : Bx own bs ml Z p l e R s m args below meth c T h locs cells slots) (pc pc' : Nat) {x : Int32} (hd : decode bs pc = .ok (.i2b, 1)) (hp : pc + 1 = pc') 
    (hr : OG p.tables e below P (T.setTop (mkF m pc' Ls (.int (x.toInt8.toInt32) :: rest)))) : OG p.tables e below P (T.setTop (mkF m pc Ls (.int x :: rest))) := by
  subst hp
  obtain ⟨X, hx, hby, hml, hown, hZ, eT⟩ := B
  exact hr.of fun t k => XT.i2b X.here hx rfl (hb hby hd) rfl k
theorem o_i2c (B : Bx own bs ml Z p l e R s m args below meth c T h locs cells slots) (pc pc' : Nat) {x : Int32} (hd : decode bs pc = .ok (.i2c, 1)) (hp : pc + 1 = pc') 
    (hr : OG p.tables e below P (T.setTop (mkF m pc' Ls (.int (x.toUInt32.toUInt16.toUInt32.toInt32) :: rest)))) : OG p.tables e below P (T.setTop (mkF m pc Ls (.int x :: rest))) := by
  subst hp
  obtain ⟨X, hx, hby, hml, hown, hZ, eT⟩ := B
  exact hr.of fun t k => XT.i2c X.here hx rfl (hb hby hd) rfl k
theorem o_i2s (B : Bx own bs ml Z p l e R s m args below meth c T h locs cells slots) (pc pc' : Nat) {x : Int32} (hd : decode bs pc = .ok (.i2s, 1)) (hp : pc + 1 = pc') 
    (hr : OG p.tables e below P (T.setTop (mkF m pc' Ls (.int (x.toInt16.toInt32) :: rest)))) : OG p.tables e below P (T.setTop (mkF m pc Ls (.int x :: rest))) := by
  subst hp
  obtain ⟨X, hx, hby, hml, hown, hZ, eT⟩ := B
  exact hr.of fun t k => XT.i2s X.here hx rfl (hb hby hd) rfl k
theorem o_iconst (B : Bx own bs ml Z p l e R s m args below meth c T h locs cells slots) (pc pc' : Nat) {i : Int} (v : Int32) (hd : decode bs pc = .ok (.iconst i, 1)) (hp : pc + 1 = pc') (hv : Int32.ofInt i = v)
    (hr : OG p.tables e below P (T.setTop (mkF m pc' Ls (.int v :: rest)))) : OG p.tables e below P (T.setTop (mkF m pc Ls rest)) := by
  subst hp
  obtain ⟨X, hx, hby, hml, hown, hZ, eT⟩ := B
  exact hr.of fun t k => XT.iconstV X.here hx rfl v (hb hby hd) hv k
theorem o_bipush (B : Bx own bs ml Z p l e R s m args below meth c T h locs cells slots) (pc pc' : Nat) {i : Int} (v : Int32) (hd : decode bs pc = .ok (.bipush i, 2)) (hp : pc + 2 = pc') (hv : (Int8.ofInt i).toInt32 = v)
    (hr : OG p.tables e below P (T.setTop (mkF m pc' Ls (.int v :: rest)))) : OG p.tables e below P (T.setTop (mkF m pc Ls rest)) := by
  subst hp
  obtain ⟨X, hx, hby, hml, hown, hZ, eT⟩ := B
  exact hr.of fun t k => XT.bipushV X.here hx rfl v (hb hby hd) hv k
theorem o_sipush (B : Bx own bs ml Z p l e R s m args below meth c T h locs cells slots) (pc pc' : Nat) {i : Int} (v : Int32) (hd : decode bs pc = .ok (.sipush i, 3)) (hp : pc + 3 = pc') (hv : (Int16.ofInt i).toInt32 = v)
    (hr : OG p.tables e below P (T.setTop (mkF m pc' Ls (.int v :: rest)))) : OG p.tables e below P (T.setTop (mkF m pc Ls rest)) := by
  subst hp
  obtain ⟨X, hx, hby, hml, hown, hZ, eT⟩ := B
  exact hr.of fun t k => XT.sipushV X.here hx rfl v (hb hby hd) hv k
theorem o_lconst (B : Bx own bs ml Z p l e R s m args below meth c T h locs cells slots) (pc pc' : Nat) {i : Fin 2} (v : Int64) (hd : decode bs pc = .ok (.lconst i, 1)) (hp : pc + 1 = pc') (hv : Int64.ofNat i = v)
    (hr : OG p.tables e below P (T.setTop (mkF m pc' Ls (.long v :: rest)))) : OG p.tables e below P (T.setTop (mkF m pc Ls rest)) := by
  subst hp
  obtain ⟨X, hx, hby, hml, hown, hZ, eT⟩ := B
  exact hr.of fun t k => XT.lconstV X.here hx rfl v (hb hby hd) hv k
theorem o_aconst_null (B : Bx own bs ml Z p l e R s m args below meth c T h locs cells slots) (pc pc' : Nat)  (hd : decode bs pc = .ok (.aconst_null, 1)) (hp : pc + 1 = pc') 
    (hr : OG p.tables e below P (T.setTop (mkF m pc' Ls (.null :: rest)))) : OG p.tables e below P (T.setTop (mkF m pc Ls rest)) := by
  subst hp
  obtain ⟨X, hx, hby, hml, hown, hZ, eT⟩ := B
  exact hr.of fun t k => XS.aconstNull X.here hx rfl (hb hby hd) k
theorem o_iloadN (B : Bx own bs ml Z p l e R s m args below meth c T h locs cells slots) (pc pc' : Nat) {k : Fin 4} {v : Int32} (hd : decode bs pc = .ok (.iload_n k, 1)) (hp : pc + 1 = pc') (hl : Ls[k.val]? = some (.val (.int v)))
    (hr : OG p.tables e below P (T.setTop (mkF m pc' Ls (.int v :: rest)))) : OG p.tables e below P (T.setTop (mkF m pc Ls rest)) := by
  subst hp
  obtain ⟨X, hx, hby, hml, hown, hZ, eT⟩ := B
  exact hr.of fun t k => XS.iloadN X.here hx rfl (hb hby hd) hl k
theorem o_iload (B : Bx own bs ml Z p l e R s m args below meth c T h locs cells slots) (pc pc' : Nat) {k : Nat} {v : Int32} (hd : decode bs pc = .ok (.iload k, 2)) (hp : pc + 2 = pc') (hl : Ls[k]? = some (.val (.int v)))
    (hr : OG p.tables e below P (T.setTop (mkF m pc' Ls (.int v :: rest)))) : OG p.tables e below P (T.setTop (mkF m pc Ls rest)) := by
  subst hp
  obtain ⟨X, hx, hby, hml, hown, hZ, eT⟩ := B
  exact hr.of fun t k => XS.iload X.here hx rfl (hb hby hd) hl k
theorem o_lloadN (B : Bx own bs ml Z p l e R s m args below meth c T h locs cells slots) (pc pc' : Nat) {k : Fin 4} {v : Int64} (hd : decode bs pc = .ok (.lload_n k, 1)) (hp : pc + 1 = pc') (hl : Ls[k.val]? = some (.val (.long v)))
    (hr : OG p.tables e below P (T.setTop (mkF m pc' Ls (.long v :: rest)))) : OG p.tables e below P (T.setTop (mkF m pc Ls rest)) := by
  subst hp
  obtain ⟨X, hx, hby, hml, hown, hZ, eT⟩ := B
  exact hr.of fun t k => XT.lloadN X.here hx rfl (hb hby hd) hl k
theorem o_lload (B : Bx own bs ml Z p l e R s m args below meth c T h locs cells slots) (pc pc' : Nat) {k : Nat} {v : Int64} (hd : decode bs pc = .ok (.lload k, 2)) (hp : pc + 2 = pc') (hl : Ls[k]? = some (.val (.long v)))
    (hr : OG p.tables e below P (T.setTop (mkF m pc' Ls (.long v :: rest)))) : OG p.tables e below P (T.setTop (mkF m pc Ls rest)) := by
  subst hp
  obtain ⟨X, hx, hby, hml, hown, hZ, eT⟩ := B
  exact hr.of fun t k => XT.lload X.here hx rfl (hb hby hd) hl k
theorem o_aloadN (B : Bx own bs ml Z p l e R s m args below meth c T h locs cells slots) (pc pc' : Nat) {k : Fin 4} {v : Value} (hd : decode bs pc = .ok (.aload_n k, 1)) (hp : pc + 1 = pc') (hl : Ls[k.val]? = some (.val v)) (hv : v.isRef = true)
    (hr : OG p.tables e below P (T.setTop (mkF m pc' Ls (v :: rest)))) : OG p.tables e below P (T.setTop (mkF m pc Ls rest)) := by
  subst hp
  obtain ⟨X, hx, hby, hml, hown, hZ, eT⟩ := B
  exact hr.of fun t k => XS.aloadN X.here hx rfl (hb hby hd) hl hv k
theorem o_aload (B : Bx own bs ml Z p l e R s m args below meth c T h locs cells slots) (pc pc' : Nat) {k : Nat} {v : Value} (hd : decode bs pc = .ok (.aload k, 2)) (hp : pc + 2 = pc') (hl : Ls[k]? = some (.val v)) (hv : v.isRef = true)
    (hr : OG p.tables e below P (T.setTop (mkF m pc' Ls (v :: rest)))) : OG p.tables e below P (T.setTop (mkF m pc Ls rest)) := by
  subst hp
  obtain ⟨X, hx, hby, hml, hown, hZ, eT⟩ := B
  exact hr.of fun t k => XS.aload X.here hx rfl (hb hby hd) hl hv k
theorem o_istoreN (B : Bx own bs ml Z p l e R s m args below meth c T h locs cells slots) (pc pc' : Nat) {k : Fin 4} {x : Int32} {l' : Array Slot} (hd : decode bs pc = .ok (.istore_n k, 1)) (hp : pc + 1 = pc') (hl : storeLocals Ls k.val (.int x) = some l')
    (hr : OG p.tables e below P (T.setTop (mkF m pc' l' rest))) : OG p.tables e below P (T.setTop (mkF m pc Ls (.int x :: rest))) := by
  subst hp
  obtain ⟨X, hx, hby, hml, hown, hZ, eT⟩ := B
  exact hr.of fun t k => XS.istoreN X.here hx rfl (hb hby hd) rfl hl k
theorem o_istore (B : Bx own bs ml Z p l e R s m args below meth c T h locs cells slots) (pc pc' : Nat) {k : Nat} {x : Int32} {l' : Array Slot} (hd : decode bs pc = .ok (.istore k, 2)) (hp : pc + 2 = pc') (hl : storeLocals Ls k (.int x) = some l')
    (hr : OG p.tables e below P (T.setTop (mkF m pc' l' rest))) : OG p.tables e below P (T.setTop (mkF m pc Ls (.int x :: rest))) := by
  subst hp
  obtain ⟨X, hx, hby, hml, hown, hZ, eT⟩ := B
  exact hr.of fun t k => XS.istore X.here hx rfl (hb hby hd) rfl hl k
theorem o_lstoreN (B : Bx own bs ml Z p l e R s m args below meth c T h locs cells slots) (pc pc' : Nat) {k : Fin 4} {x : Int64} {l' : Array Slot} (hd : decode bs pc = .ok (.lstore_n k, 1)) (hp : pc + 1 = pc') (hl : storeLocals Ls k.val (.long x) = some l')
    (hr : OG p.tables e below P (T.setTop (mkF m pc' l' rest))) : OG p.tables e below P (T.setTop (mkF m pc Ls (.long x :: rest))) := by
  subst hp
  obtain ⟨X, hx, hby, hml, hown, hZ, eT⟩ := B
  exact hr.of fun t k => XT.lstoreN X.here hx rfl (hb hby hd) rfl hl k
theorem o_lstore (B : Bx own bs ml Z p l e R s m args below meth c T h locs cells slots) (pc pc' : Nat) {k : Nat} {x : Int64} {l' : Array Slot} (hd : decode bs pc = .ok (.lstore k, 2)) (hp : pc + 2 = pc') (hl : storeLocals Ls k (.long x) = some l')
    (hr : OG p.tables e below P (T.setTop (mkF m pc' l' rest))) : OG p.tables e below P (T.setTop (mkF m pc Ls (.long x :: rest))) := by
  subst hp
  obtain ⟨X, hx, hby, hml, hown, hZ, eT⟩ := B
  exact hr.of fun t k => XT.lstore X.here hx rfl (hb hby hd) rfl hl k
theorem o_astoreN (B : Bx own bs ml Z p l e R s m args below meth c T h locs cells slots) (pc pc' : Nat) {k : Fin 4} {x : Value} {l' : Array Slot} (hd : decode bs pc = .ok (.astore_n k, 1)) (hp : pc + 1 = pc') (hv : x.isRef = true) (hl : storeLocals Ls k.val x = some l')
    (hr : OG p.tables e below P (T.setTop (mkF m pc' l' rest))) : OG p.tables e below P (T.setTop (mkF m pc Ls (x :: rest))) := by
  subst hp
  obtain ⟨X, hx, hby, hml, hown, hZ, eT⟩ := B
  exact hr.of fun t k => XS.astoreN X.here hx rfl (hb hby hd) rfl hv hl k
theorem o_astore (B : Bx own bs ml Z p l e R s m args below meth c T h locs cells slots) (pc pc' : Nat) {k : Nat} {x : Value} {l' : Array Slot} (hd : decode bs pc = .ok (.astore k, 2)) (hp : pc + 2 = pc') (hv : x.isRef = true) (hl : storeLocals Ls k x = some l')
    (hr : OG p.tables e below P (T.setTop (mkF m pc' l' rest))) : OG p.tables e below P (T.setTop (mkF m pc Ls (x :: rest))) := by
  subst hp
  obtain ⟨X, hx, hby, hml, hown, hZ, eT⟩ := B
  exact hr.of fun t k => XS.astore X.here hx rfl (hb hby hd) rfl hv hl k
theorem o_iinc (B : Bx own bs ml Z p l e R s m args below meth c T h locs cells slots) (pc pc' : Nat) {k : Nat} {cst : Int} {x : Int32} {l' : Array Slot} (v : Int32) (hd : decode bs pc = .ok (.iinc k cst, 3)) (hp : pc + 3 = pc') (hv : Int32.ofInt cst = v) (hl : Ls[k]? = some (.val (.int x))) (hl' : storeLocals Ls k (.int (x + v)) = some l')
    (hr : OG p.tables e below P (T.setTop (mkF m pc' l' rest))) : OG p.tables e below P (T.setTop (mkF m pc Ls rest)) := by
  subst hp
  obtain ⟨X, hx, hby, hml, hown, hZ, eT⟩ := B
  exact hr.of fun t k => XT.iincV X.here hx rfl v (hb hby hd) hv hl hl' k
theorem o_goto (B : Bx own bs ml Z p l e R s m args below meth c T h locs cells slots) (pc pc' : Nat) {o : Int} (hd : decode bs pc = .ok (.goto o, 3))  (ho : 0 ≤ (pc : Int) + o) (hp : ((pc : Int) + o).toNat = pc')
    (hr : OG p.tables e below P (T.setTop (mkF m pc' Ls rest))) : OG p.tables e below P (T.setTop (mkF m pc Ls rest)) := by
  obtain ⟨X, hx, hby, hml, hown, hZ, eT⟩ := B
  exact hr.of fun t k => XS.goto X.here hx rfl (pc0 := pc) (pc' := pc') rfl (hb hby hd) ho hp k
theorem o_ifY (B : Bx own bs ml Z p l e R s m args below meth c T h locs cells slots) (pc pc' : Nat) {cd : ClassFile.Cond} {o : Int} {x : Int32} (hd : decode bs pc = .ok (.ifCond cd o, 3))  (hc : ifCond.holds cd x = true) (ho : 0 ≤ (pc : Int) + o) (hp : ((pc : Int) + o).toNat = pc')
    (hr : OG p.tables e below P (T.setTop (mkF m pc' Ls rest))) : OG p.tables e below P (T.setTop (mkF m pc Ls (.int x :: rest))) := by
  obtain ⟨X, hx, hby, hml, hown, hZ, eT⟩ := B
  exact hr.of fun t k => XS.ifYes X.here hx rfl (pc0 := pc) (pc' := pc') rfl (hb hby hd) rfl hc ho hp k
theorem o_ifN (B : Bx own bs ml Z p l e R s m args below meth c T h locs cells slots) (pc pc' : Nat) {cd : ClassFile.Cond} {o : Int} {x : Int32} (hd : decode bs pc = .ok (.ifCond cd o, 3)) (hp : pc + 3 = pc') (hc : ifCond.holds cd x = false)
    (hr : OG p.tables e below P (T.setTop (mkF m pc' Ls rest))) : OG p.tables e below P (T.setTop (mkF m pc Ls (.int x :: rest))) := by
  subst hp
  obtain ⟨X, hx, hby, hml, hown, hZ, eT⟩ := B
  exact hr.of fun t k => XS.ifNo X.here hx rfl (hb hby hd) rfl hc k
theorem o_nuY (B : Bx own bs ml Z p l e R s m args below meth c T h locs cells slots) (pc pc' : Nat) {o : Int} (hd : decode bs pc = .ok (.ifnull o, 3))  (ho : 0 ≤ (pc : Int) + o) (hp : ((pc : Int) + o).toNat = pc')
    (hr : OG p.tables e below P (T.setTop (mkF m pc' Ls rest))) : OG p.tables e below P (T.setTop (mkF m pc Ls (.null :: rest))) := by
  obtain ⟨X, hx, hby, hml, hown, hZ, eT⟩ := B
  exact hr.of fun t k => XS.ifnullYes X.here hx rfl (pc0 := pc) (pc' := pc') rfl (hb hby hd) rfl ho hp k
theorem o_nuN (B : Bx own bs ml Z p l e R s m args below meth c T h locs cells slots) (pc pc' : Nat) {o : Int} {b : Addr} (hd : decode bs pc = .ok (.ifnull o, 3)) (hp : pc + 3 = pc') 
    (hr : OG p.tables e below P (T.setTop (mkF m pc' Ls rest))) : OG p.tables e below P (T.setTop (mkF m pc Ls (.ref b :: rest))) := by
  subst hp
  obtain ⟨X, hx, hby, hml, hown, hZ, eT⟩ := B
  exact hr.of fun t k => XS.ifnullNo X.here hx rfl (hb hby hd) rfl k
theorem o_icY (B : Bx own bs ml Z p l e R s m args below meth c T h locs cells slots) (pc pc' : Nat) {cd : ClassFile.Cond} {o : Int} {x y : Int32} (hd : decode bs pc = .ok (.if_icmp cd o, 3))  (hc : if_icmp.holds cd x y = true) (ho : 0 ≤ (pc : Int) + o) (hp : ((pc : Int) + o).toNat = pc')
    (hr : OG p.tables e below P (T.setTop (mkF m pc' Ls rest))) : OG p.tables e below P (T.setTop (mkF m pc Ls (.int y :: .int x :: rest))) := by
  obtain ⟨X, hx, hby, hml, hown, hZ, eT⟩ := B
  exact hr.of fun t k => XS.icmpYes X.here hx rfl (pc0 := pc) (pc' := pc') rfl (hb hby hd) rfl hc ho hp k
theorem o_icN (B : Bx own bs ml Z p l e R s m args below meth c T h locs cells slots) (pc pc' : Nat) {cd : ClassFile.Cond} {o : Int} {x y : Int32} (hd : decode bs pc = .ok (.if_icmp cd o, 3)) (hp : pc + 3 = pc') (hc : if_icmp.holds cd x y = false)
    (hr : OG p.tables e below P (T.setTop (mkF m pc' Ls rest))) : OG p.tables e below P (T.setTop (mkF m pc Ls (.int y :: .int x :: rest))) := by
  subst hp
  obtain ⟨X, hx, hby, hml, hown, hZ, eT⟩ := B
  exact hr.of fun t k => XS.icmpNo X.here hx rfl (hb hby hd) rfl hc k
theorem o_dup (B : Bx own bs ml Z p l e R s m args below meth c T h locs cells slots) (pc pc' : Nat) {x : Value} (hd : decode bs pc = .ok (.dup, 1)) (hp : pc + 1 = pc') (hc : x.category = 1)
    (hr : OG p.tables e below P (T.setTop (mkF m pc' Ls (x :: x :: rest)))) : OG p.tables e below P (T.setTop (mkF m pc Ls (x :: rest))) := by
  subst hp
  obtain ⟨X, hx, hby, hml, hown, hZ, eT⟩ := B
  exact hr.of fun t k => XS.dup X.here hx rfl (hb hby hd) rfl hc k
theorem o_pop (B : Bx own bs ml Z p l e R s m args below meth c T h locs cells slots) (pc pc' : Nat) {x : Value} (hd : decode bs pc = .ok (.pop, 1)) (hp : pc + 1 = pc') (hc : x.category = 1)
    (hr : OG p.tables e below P (T.setTop (mkF m pc' Ls rest))) : OG p.tables e below P (T.setTop (mkF m pc Ls (x :: rest))) := by
  subst hp
  obtain ⟨X, hx, hby, hml, hown, hZ, eT⟩ := B
  exact hr.of fun t k => XT.pop X.here hx rfl (hb hby hd) rfl hc k
theorem o_dup_x1 (B : Bx own bs ml Z p l e R s m args below meth c T h locs cells slots) (pc pc' : Nat) {x y : Value} (hd : decode bs pc = .ok (.dup_x1, 1)) (hp : pc + 1 = pc') (hc : x.category = 1) (hc' : y.category = 1)
    (hr : OG p.tables e below P (T.setTop (mkF m pc' Ls (x :: y :: x :: rest)))) : OG p.tables e below P (T.setTop (mkF m pc Ls (x :: y :: rest))) := by
  subst hp
  obtain ⟨X, hx, hby, hml, hown, hZ, eT⟩ := B
  exact hr.of fun t k => XT.dupX1 X.here hx rfl (hb hby hd) rfl hc hc' k
theorem o_dup2 (B : Bx own bs ml Z p l e R s m args below meth c T h locs cells slots) (pc pc' : Nat) {x y : Value} (hd : decode bs pc = .ok (.dup2, 1)) (hp : pc + 1 = pc') (hc : x.category = 1) (hc' : y.category = 1)
    (hr : OG p.tables e below P (T.setTop (mkF m pc' Ls (x :: y :: x :: y :: rest)))) : OG p.tables e below P (T.setTop (mkF m pc Ls (x :: y :: rest))) := by
  subst hp
  obtain ⟨X, hx, hby, hml, hown, hZ, eT⟩ := B
  exact hr.of fun t k => XT.dup2 X.here hx rfl (hb hby hd) rfl hc hc' k
theorem o_dup2L (B : Bx own bs ml Z p l e R s m args below meth c T h locs cells slots) (pc pc' : Nat) {x : Int64} (hd : decode bs pc = .ok (.dup2, 1)) (hp : pc + 1 = pc') 
    (hr : OG p.tables e below P (T.setTop (mkF m pc' Ls (.long x :: .long x :: rest)))) : OG p.tables e below P (T.setTop (mkF m pc Ls (.long x :: rest))) := by
  subst hp
  obtain ⟨X, hx, hby, hml, hown, hZ, eT⟩ := B
  exact hr.of fun t k => XT.dup2L X.here hx rfl (hb hby hd) rfl k
theorem o_ldc (B : Bx own bs ml Z p l e R s m args below meth c T h locs cells slots) (pc pc' : Nat) {i : Nat} {v : Int32} (hd : decode bs pc = .ok (.ldc i, 2)) (hp : pc + 2 = pc') (w : (Cond.constant own i v).before a0 Z = true)
    (hr : OG p.tables e below P (T.setTop (mkF m pc' Ls (.int v :: rest)))) : OG p.tables e below P (T.setTop (mkF m pc Ls rest)) := by
  subst hp
  obtain ⟨X, hx, hby, hml, hown, hZ, eT⟩ := B
  exact hr.of fun t k => X.ldcI hx hown (mv hZ w) rfl (hb hby hd) k
theorem o_ldc_w (B : Bx own bs ml Z p l e R s m args below meth c T h locs cells slots) (pc pc' : Nat) {i : Nat} {v : Int32} (hd : decode bs pc = .ok (.ldc_w i, 3)) (hp : pc + 3 = pc') (w : (Cond.constant own i v).before a0 Z = true)
    (hr : OG p.tables e below P (T.setTop (mkF m pc' Ls (.int v :: rest)))) : OG p.tables e below P (T.setTop (mkF m pc Ls rest)) := by
  subst hp
  obtain ⟨X, hx, hby, hml, hown, hZ, eT⟩ := B
  exact hr.of fun t k => X.ldcWI hx hown (mv hZ w) rfl (hb hby hd) k
theorem o_ldc2 (B : Bx own bs ml Z p l e R s m args below meth c T h locs cells slots) (pc pc' : Nat) {i : Nat} {v : Int64} (hd : decode bs pc = .ok (.ldc2_w i, 3)) (hp : pc + 3 = pc') (w : (Cond.constantLong own i v).before a0 Z = true)
    (hr : OG p.tables e below P (T.setTop (mkF m pc' Ls (.long v :: rest)))) : OG p.tables e below P (T.setTop (mkF m pc Ls rest)) := by
  subst hp
  obtain ⟨X, hx, hby, hml, hown, hZ, eT⟩ := B
  exact hr.of fun t k => X.ldc2J hx hown (mv hZ w) rfl (hb hby hd) k
theorem o_topI {pc : Nat} {x y : Int32} (q : x = y) (hr : OG p.tables e below P (T.setTop (mkF m pc Ls (.int y :: rest)))) : OG p.tables e below P (T.setTop (mkF m pc Ls (.int x :: rest))) := q ▸ hr
theorem o_topJ {pc : Nat} {x y : Int64} (q : x = y) (hr : OG p.tables e below P (T.setTop (mkF m pc Ls (.long y :: rest)))) : OG p.tables e below P (T.setTop (mkF m pc Ls (.long x :: rest))) := q ▸ hr
theorem o_iincC (B : Bx own bs ml Z p l e R s m args below meth c T h locs cells slots) (pc pc' : Nat) {k : Nat} {cst : Int} {x : Int32} {l' : Array Slot} (v y : Int32) (hd : decode bs pc = .ok (.iinc k cst, 3)) (hp : pc + 3 = pc') (hv : Int32.ofInt cst = v) (hl : Ls[k]? = some (.val (.int x))) (hy : x + v = y) (hl' : storeLocals Ls k (.int y) = some l')
    (hr : OG p.tables e below P (T.setTop (mkF m pc' l' rest))) : OG p.tables e below P (T.setTop (mkF m pc Ls rest)) := by
  subst hp
  obtain ⟨X, hx, hby, hml, hown, hZ, eT⟩ := B
  exact hr.of fun t k => XT.iincV X.here hx rfl v (hb hby hd) hv hl (hy ▸ hl') k
theorem o_retZ {Q : Option Value → Heap → List Loc → Prop} {kc ks : Nat} (B : Bx own bs ml Z p l e R s m args below meth c T h locs cells slots) (pc : Nat) {z : Int32} {t : FieldType} (hd : decode bs pc = .ok (.ireturn, 1)) (hret : meth.sig.returnType = some t) (hlk : meth.locks = false) (ht : t = .boolean ∨ t = .byte ∨ t = .char ∨ t = .short) (hc : cells ≤ kc) (hs : slots ≤ ks) (hq : Q (some (.int (nar t z))) h locs) :
    OG p.tables e below (fun o s₂ => ∃ v L, o = .returned v ∧ Q v s₂.heap L ∧ FrameEnd s o s₂ L kc ks) (T.setTop (mkF m pc Ls (.int z :: rest))) := by
  obtain ⟨X, hx, hby, hml, hown, hZ, eT⟩ := B
  subst eT
  obtain ⟨fs, hr, hrun, hended, hW, hsame⟩ := X.leave (v := some (.int (nar t z))) (fun hn => by rw [hret] at hn; cases hn) hlk
  exact ⟨_, _, retN X hx hret ht (hb hby hd) hr, hrun, hended, _, _, rfl, hq, ⟨_, rfl⟩, hW, hsame.mono hc hs⟩
theorem o_retI0 (X : Stand p l e R s m args below meth c T locs cells slots) (hx : p.tables.exec = Jvm.exec) {pc : Nat} {z : Int32} (hret : meth.sig.returnType = some .int) (hd : decode c.code pc = .ok (.ireturn, 1)) {fs : List Frame}
    (hl : ∀ (f : JFrame) (acts : List Action), f.method = m → f.locked = none → f.entered = [] → (doReturn e (T.setTop f) acts (some (.int z))).1 = T.setFrames fs) : Steps p.tables e below (T.setTop (mkF m pc Ls (.int z :: rest))) (T.setFrames fs) :=
  retOut X hx hret rfl (Or.inl ⟨rfl, Or.inl rfl, _, rfl⟩) hd hl
theorem o_retI {Q : Option Value → Heap → List Loc → Prop} {kc ks : Nat} (B : Bx own bs ml Z p l e R s m args below meth c T h locs cells slots) (pc : Nat) {z : Int32} (hd : decode bs pc = .ok (.ireturn, 1)) (hret : meth.sig.returnType = some .int) (hlk : meth.locks = false)  (hc : cells ≤ kc) (hs : slots ≤ ks) (hq : Q (some (.int z)) h locs) :
    OG p.tables e below (fun o s₂ => ∃ v L, o = .returned v ∧ Q v s₂.heap L ∧ FrameEnd s o s₂ L kc ks) (T.setTop (mkF m pc Ls (.int z :: rest))) := by
  obtain ⟨X, hx, hby, hml, hown, hZ, eT⟩ := B
  subst eT
  obtain ⟨fs, hr, hrun, hended, hW, hsame⟩ := X.leave (v := some (.int z)) (fun hn => by rw [hret] at hn; cases hn) hlk
  exact ⟨_, _, o_retI0 X hx hret (hb hby hd) hr, hrun, hended, _, _, rfl, hq, ⟨_, rfl⟩, hW, hsame.mono hc hs⟩
theorem o_retL {Q : Option Value → Heap → List Loc → Prop} {kc ks : Nat} (B : Bx own bs ml Z p l e R s m args below meth c T h locs cells slots) (pc : Nat) {z : Int64} (hd : decode bs pc = .ok (.lreturn, 1)) (hret : meth.sig.returnType = some .long) (hlk : meth.locks = false)  (hc : cells ≤ kc) (hs : slots ≤ ks) (hq : Q (some (.long z)) h locs) :
    OG p.tables e below (fun o s₂ => ∃ v L, o = .returned v ∧ Q v s₂.heap L ∧ FrameEnd s o s₂ L kc ks) (T.setTop (mkF m pc Ls [.long z])) := by
  obtain ⟨X, hx, hby, hml, hown, hZ, eT⟩ := B
  subst eT
  obtain ⟨fs, hr, hrun, hended, hW, hsame⟩ := X.leave (v := some (.long z)) (fun hn => by rw [hret] at hn; cases hn) hlk
  exact ⟨_, _, X.lreturnOut hx hret (hb hby hd) hr, hrun, hended, _, _, rfl, hq, ⟨_, rfl⟩, hW, hsame.mono hc hs⟩
theorem o_retA {Q : Option Value → Heap → List Loc → Prop} {kc ks : Nat} (B : Bx own bs ml Z p l e R s m args below meth c T h locs cells slots) (pc : Nat) {z : Value} {t : FieldType} (hd : decode bs pc = .ok (.areturn, 1)) (hret : meth.sig.returnType = some t) (hlk : meth.locks = false) (ht : t.isReference = true) (hz : z.isRef = true) (hc : cells ≤ kc) (hs : slots ≤ ks) (hq : Q (some z) h locs) :
    OG p.tables e below (fun o s₂ => ∃ v L, o = .returned v ∧ Q v s₂.heap L ∧ FrameEnd s o s₂ L kc ks) (T.setTop (mkF m pc Ls [z])) := by
  obtain ⟨X, hx, hby, hml, hown, hZ, eT⟩ := B
  subst eT
  obtain ⟨fs, hr, hrun, hended, hW, hsame⟩ := X.leave (v := some z) (fun hn => by rw [hret] at hn; cases hn) hlk
  exact ⟨_, _, X.areturnOut hx hz hret ht (hb hby hd) hr, hrun, hended, _, _, rfl, hq, ⟨_, rfl⟩, hW, hsame.mono hc hs⟩
theorem o_retV {Q : Option Value → Heap → List Loc → Prop} {kc ks : Nat} (B : Bx own bs ml Z p l e R s m args below meth c T h locs cells slots) (pc : Nat)  (hd : decode bs pc = .ok (.return_, 1)) (hret : meth.sig.returnType = none) (hlk : meth.locks = false)  (hc : cells ≤ kc) (hs : slots ≤ ks) (hq : Q (none) h locs) :
    OG p.tables e below (fun o s₂ => ∃ v L, o = .returned v ∧ Q v s₂.heap L ∧ FrameEnd s o s₂ L kc ks) (T.setTop (mkF m pc Ls [])) := by
  obtain ⟨X, hx, hby, hml, hown, hZ, eT⟩ := B
  subst eT
  obtain ⟨fs, hr, hrun, hended, hW, hsame⟩ := X.leave (v := none) (fun _ => rfl) hlk
  exact ⟨_, _, X.returnOut hx hret (hb hby hd) hr, hrun, hended, _, _, rfl, hq, ⟨_, rfl⟩, hW, hsame.mono hc hs⟩
/-- a body's contract, out of its walk -/
theorem enter {y : MethodName} {ret : Option FieldType} {rm : Room} {ws : List Jvm.Cond} {as' : Array Value} {h0 : Heap} {Q : Option Value → Heap → List Loc → Prop} {kc ks : Nat} (hpl : plainFor y = true) (Ls : Array Slot)
    (hL : Jvm.Sym.laidSlots as'.toList ++ List.replicate (ml - (Jvm.Sym.laidSlots as'.toList).length) .unset = Ls.toList)
    (body : ∀ (p : Program) (e : Env) (s : State) (m : MethodId) (below : List Frame) (meth : Method) (c : Code) (T : State), Bx y.cls bs ml Z p l e rm s m as' below meth c T h0 [] 0 0 → meth.sig.returnType = ret → meth.locks = false → meth.name = y.name →
      OG p.tables e below (fun o s₂ => ∃ v L, o = .returned v ∧ Q v s₂.heap L ∧ FrameEnd s o s₂ L kc ks) (T.setTop (mkF m 0 Ls []))) :
    MetFree l y (head1 (Jvm.Cond.code y bs ml ret :: ws) rm) (fun a U => a = as' ∧ Z.Warmed39 U.vm ∧ U.heap = h0) (fun _ _ _ _ _ => True) (fun _ U o U' => ∃ v L, o = .returned v ∧ Q v U'.heap L ∧ FrameEnd U o U' L kc ks) := by
  refine MetFree.of_bodySF hpl hisR ?_
  intro p e s m args below meth c s₁ Bd hml0 hP hK
  obtain ⟨rfl, hZ, hh⟩ := hP
  have e0 : s₁.heap = h0 := by rw [← hh, Bd.state]; rfl
  have r := body p e s m below meth c s₁ ⟨Stand.of_body Bd, Bd.exec, Bd.bytes, hml0, findClass_of_methodNamed Bd.named, hZ, e0⟩ Bd.returns (BodyLoose.notSynchronized Bd) (name_of_methodNamed Bd.named Bd.method).1
  exact OG.of r fun t k => (XT.entry hL).trans k
/-- what a callee owes -/
abbrev Met (l : Launch) (Z : State) (y : MethodName) (bytes : ByteArray) (maxL : Nat) (ret : Option FieldType) (rm : Room) (as' : Array Value) (h : Heap) (Q : Option Value → Heap → List Loc → Prop) : Prop :=
  MetFree l y (head1 [Jvm.Cond.code y bytes maxL ret] rm) (fun a U => a = as' ∧ Z.Warmed39 U.vm ∧ U.heap = h) (fun _ _ _ _ _ => True) (fun _ U o U' => ∃ v L, o = .returned v ∧ Q v U'.heap L ∧ FrameEnd U o U' L rm.cells rm.slots)
theorem o_callS {index : Nat} {y : MethodName} {bytes : ByteArray} {maxL : Nat} {ret : Option FieldType} {rm : Room} {as' : Array Value} {Q : Option Value → Heap → List Loc → Prop} {ps : List FieldType} {rt : Option FieldType}
    (B : Bx own bs ml Z p l e R s m args below meth c T h locs cells slots) (pc pc' : Nat) (hd : decode bs pc = .ok (.invokestatic index, 3)) (hp : pc + 3 = pc')
    (w1 : (Cond.methodLink own index y).before a0 Z = true) (w2 : (Cond.static y).before a0 Z = true) (w3 : (Cond.initialized y.cls).before a0 Z = true) (w4 : (Cond.code y bytes maxL ret).before a0 Z = true) (hy : y.cls ≠ "java/lang/invoke/MethodHandle" ∧ y.cls ≠ "java/lang/invoke/VarHandle")
    (hM : Met l Z y bytes maxL ret rm as' h Q) (W : Nat) (argsL rest : List Value) (hpd : parseMethodDescriptor y.desc = some ⟨ps, rt⟩) (hlen : argsL.length = ps.length) (has : argsL.toArray = as') {st : List Value} (hst : st = argsL.reverse ++ rest) (hsz : Ls.size = ml)
    (hW : (rest.map fun v => v.category).sum ≤ W) (hf : rm.frames + 1 ≤ R.frames) (hl : W + (maxL + 11) + rm.locals ≤ R.locals) (hcl : cells + rm.cells ≤ R.cells) (hsl : slots + rm.slots ≤ R.slots) :
    ∃ v T' L, Bx own bs ml Z p l e R s m args below meth c T' T'.heap (locs ++ L) (cells + rm.cells) (slots + rm.slots) ∧ Q v T'.heap L ∧
      ∀ {P : Outcome → State → Prop}, OG p.tables e below P (T'.setTop (mkF m pc' Ls (v.toList ++ rest))) → OG p.tables e below P (T.setTop (mkF m pc Ls st)) := by
  subst hp hst
  obtain ⟨X, hx, hby, hml, hown, hZ, eT⟩ := B
  obtain ⟨v, vm1, ⟨T', L', k', n'⟩, -, X', ⟨Lc, hQ, l', y', z'⟩, st⟩ := Jvm.LawKit.callS X hx (y := y) hown (mvT hZ w1) (mvT hZ w2) (mvT hZ w3) (mvT hZ w4) hy (backOf (W := W) hM hZ w4 w3 hf hl) (g := mkF m pc Ls (argsL.reverse ++ rest)) rfl (by rw [hml]; exact hsz) (argsL := argsL) (rest := rest) (lenOf hpd hlen) rfl (by simpa using hW) (hb hby hd) (fun _ _ => ⟨has, eT, hcl, hsl⟩)
  dsimp only [Pt.U, Pt.locs, Pt.cells, Pt.slots] at X' l' y' z' st hQ
  subst l' y' z'
  exact ⟨v, T', Lc, ⟨X', hx, hby, hml, hown, hZ, rfl⟩, hQ, fun k => k.of st⟩
/-- a callee that writes and makes nothing -/
def Pu (r : Option Value) (h : Heap) (v : Option Value) (h' : Heap) (L : List Loc) : Prop := v = r ∧ L = [] ∧ h' = h
theorem o_callP {index : Nat} {y : MethodName} {bytes : ByteArray} {maxL : Nat} {ret : Option FieldType} {fr lo : Nat} {as' : Array Value} {r : Value} {ps : List FieldType} {rt : Option FieldType}
    (B : Bx own bs ml Z p l e R s m args below meth c T h locs cells slots) (pc pc' : Nat) (hd : decode bs pc = .ok (.invokestatic index, 3)) (hp : pc + 3 = pc')
    (w1 : (Cond.methodLink own index y).before a0 Z = true) (w2 : (Cond.static y).before a0 Z = true) (w3 : (Cond.initialized y.cls).before a0 Z = true) (w4 : (Cond.code y bytes maxL ret).before a0 Z = true) (hy : y.cls ≠ "java/lang/invoke/MethodHandle" ∧ y.cls ≠ "java/lang/invoke/VarHandle")
    (hM : Met l Z y bytes maxL ret ({ frames := fr, cells := 0, slots := 0, locals := lo } : Room) as' h (Pu (some r) h)) (W : Nat) (argsL rest : List Value) (hpd : parseMethodDescriptor y.desc = some ⟨ps, rt⟩) (hlen : argsL.length = ps.length) (has : argsL.toArray = as') {st : List Value} (hst : st = argsL.reverse ++ rest) (hsz : Ls.size = ml)
    (hW : (rest.map fun v => v.category).sum ≤ W) (hf : fr + 1 ≤ R.frames) (hl : W + (maxL + 11) + lo ≤ R.locals) (hcl : cells ≤ R.cells) (hsl : slots ≤ R.slots) :
    ∃ T', Bx own bs ml Z p l e R s m args below meth c T' h locs cells slots ∧
      ∀ {P : Outcome → State → Prop}, OG p.tables e below P (T'.setTop (mkF m pc' Ls (r :: rest))) → OG p.tables e below P (T.setTop (mkF m pc Ls st)) := by
  obtain ⟨v, T', L, B', ⟨rfl, rfl, hh⟩, st⟩ := o_callS B pc pc' hd hp w1 w2 w3 w4 hy hM W argsL rest hpd hlen has hst hsz hW hf hl hcl hsl
  rw [hh, List.append_nil] at B'
  exact ⟨T', B', st⟩
end Walk
theorem b_ne_t {c : Prop} [Decidable c] (h : c) : ifCond.holds .ne (if c then (1 : Int32) else 0) = true := by rw [if_pos h]; rfl
theorem b_ne_f {c : Prop} [Decidable c] (h : ¬ c) : ifCond.holds .ne (if c then (1 : Int32) else 0) = false := by rw [if_neg h]; rfl
theorem b_eq_t {c : Prop} [Decidable c] (h : ¬ c) : ifCond.holds .eq (if c then (1 : Int32) else 0) = true := by rw [if_neg h]; rfl
theorem b_eq_f {c : Prop} [Decidable c] (h : c) : ifCond.holds .eq (if c then (1 : Int32) else 0) = false := by rw [if_pos h]; rfl
/-! 2. arrays by a function of the place -/
def AI (Z : State) (h : Heap) (a : Addr) (ty : FieldType) (n : Nat) (g : Nat → Int32) : Prop := ∃ c : Cell, Arr Z h a c ty ∧ c.slots.size = n ∧ n < 2147483648 ∧ ∀ j, j < n → c.slots[j]? = some (.int (g j))
def AJ (Z : State) (h : Heap) (a : Addr) (n : Nat) (g : Nat → Int64) : Prop := ∃ c : Cell, Arr Z h a c .long ∧ c.slots.size = n ∧ n < 2147483648 ∧ ∀ j, j < n → c.slots[j]? = some (.long (g j))
section Arrays
variable {Z : State} {h h' : Heap} {a b : Addr} {ty : FieldType} {n i : Nat} {v : Value} {ws : List Addr}
theorem AI.ext {g : Nat → Int32} (A : AI Z h a ty n g) (E : Ext h h') : AI Z h' a ty n g := by obtain ⟨c, A, r⟩ := A; exact ⟨c, A.ext E, r⟩
theorem AI.other {g : Nat → Int32} (A : AI Z h a ty n g) (W : Wr h h' b i v) (q : a ≠ b) : AI Z h' a ty n g := by obtain ⟨c, A, r⟩ := A; exact ⟨c, A.other W q, r⟩
theorem AI.keep {g : Nat → Int32} (A : AI Z h a ty n g) (K : Keep h h' ws) (q : a ∉ ws) : AI Z h' a ty n g := by obtain ⟨c, A, r⟩ := A; exact ⟨c, ⟨K.2.1 a c A.1 q, A.2⟩, r⟩
theorem AI.lt {g : Nat → Int32} (A : AI Z h a ty n g) : a < h.size := by obtain ⟨c, A, r⟩ := A; exact A.lt
theorem AI.len {g : Nat → Int32} (A : AI Z h a ty n g) : n < 2147483648 := by obtain ⟨c, A, r, q, _⟩ := A; exact q
theorem AI.alt {g g' : Nat → Int32} (A : AI Z h a ty n g) (q : ∀ j, j < n → g' j = g j) : AI Z h a ty n g' := by obtain ⟨c, A, r, s, H⟩ := A; exact ⟨c, A, r, s, fun j hj => by rw [q j hj]; exact H j hj⟩
theorem AI.set {g : Nat → Int32} {x : Int32} (A : AI Z h a ty n g) (W : Wr h h' a i (.int x)) : AI Z h' a ty n (fun j => if j = i then x else g j) := by
  obtain ⟨c, A, S, hn, H⟩ := A
  refine ⟨c.setSlot i (.int x), Arr.same W A, by simp [Cell.setSlot, S], hn, fun j hj => ?_⟩
  show (c.slots.setIfInBounds i (.int x))[j]? = some (.int (if j = i then x else g j))
  by_cases e : j = i
  · subst e; rw [if_pos rfl]; simp [S, hj]
  · rw [if_neg e, Array.getElem?_setIfInBounds_ne (Ne.symm e)]; exact H j hj
theorem AJ.ext {g : Nat → Int64} (A : AJ Z h a n g) (E : Ext h h') : AJ Z h' a n g := by obtain ⟨c, A, r⟩ := A; exact ⟨c, A.ext E, r⟩
theorem AJ.other {g : Nat → Int64} (A : AJ Z h a n g) (W : Wr h h' b i v) (q : a ≠ b) : AJ Z h' a n g := by obtain ⟨c, A, r⟩ := A; exact ⟨c, A.other W q, r⟩
theorem AJ.keep {g : Nat → Int64} (A : AJ Z h a n g) (K : Keep h h' ws) (q : a ∉ ws) : AJ Z h' a n g := by obtain ⟨c, A, r⟩ := A; exact ⟨c, ⟨K.2.1 a c A.1 q, A.2⟩, r⟩
theorem AJ.lt {g : Nat → Int64} (A : AJ Z h a n g) : a < h.size := by obtain ⟨c, A, r⟩ := A; exact A.lt
theorem AJ.len {g : Nat → Int64} (A : AJ Z h a n g) : n < 2147483648 := by obtain ⟨c, A, r, q, _⟩ := A; exact q
theorem AJ.alt {g g' : Nat → Int64} (A : AJ Z h a n g) (q : ∀ j, j < n → g' j = g j) : AJ Z h a n g' := by obtain ⟨c, A, r, s, H⟩ := A; exact ⟨c, A, r, s, fun j hj => by rw [q j hj]; exact H j hj⟩
theorem AJ.set {g : Nat → Int64} {x : Int64} (A : AJ Z h a n g) (W : Wr h h' a i (.long x)) : AJ Z h' a n (fun j => if j = i then x else g j) := by
  obtain ⟨c, A, S, hn, H⟩ := A
  refine ⟨c.setSlot i (.long x), Arr.same W A, by simp [Cell.setSlot, S], hn, fun j hj => ?_⟩
  show (c.slots.setIfInBounds i (.long x))[j]? = some (.long (if j = i then x else g j))
  by_cases e : j = i
  · subst e; rw [if_pos rfl]; simp [S, hj]
  · rw [if_neg e, Array.getElem?_setIfInBounds_ne (Ne.symm e)]; exact H j hj
theorem in_of {c : Cell} {j : Int32} (S : c.slots.size = n) (h0 : ¬ j < 0) (hj : j.toNatClampNeg = i) (hi : i < n) : ¬ (j < 0 ∨ c.slots.size ≤ j.toNatClampNeg) := by rw [S, hj]; rintro (q | q); exact h0 q; omega
end Arrays
theorem ix_of {j : Int32} {k : Nat} (h : j.toInt = k) : ¬ j < 0 ∧ j.toNatClampNeg = k := by
  rw [Int32.lt_iff_toInt_lt, Int32.toInt_zero]
  simp only [Int32.toNatClampNeg, h]
  omega
theorem ix_add {j : Int32} {k : Nat} (c : Int32) (n : Nat) (h : j.toInt = k) (hc : c.toInt = n) (hk : k + n < 2147483648) : (j + c).toInt = (k + n : Nat) := by
  have a := c_iadd j c
  have r := rng32 (j + c)
  omega
theorem nar_bb (x : Int32) : nar .byte x.toInt8.toInt32 = x.toInt8.toInt32 := by simp [nar]
theorem nar_cc (x : Int32) : nar .char x.toUInt32.toUInt16.toUInt32.toInt32 = x.toUInt32.toUInt16.toUInt32.toInt32 := by simp only [nar, UInt32.toUInt32_toInt32, UInt16.toUInt16_toUInt32]
def Lw (n0 : Nat) (r : Option Value) (v : Option Value) (h : Heap) (L : List Loc) : Prop := v = r ∧ Fr n0 L
theorem st1 {l l' : Array Slot} {i : Nat} {v : Value} {o : Slot} (hold : l[i]? = some o) (ho : One o) (hv : v.category = 1) (hl : l.setIfInBounds i (.val v) = l') : storeLocals l i v = some l' := by
  rw [← hl]; exact XS.store1 hold ho hv
theorem st2 {l l' : Array Slot} {i : Nat} {x : Int64} {o o' : Slot} (hold : l[i]? = some o) (ho : One o) (hold' : l[i + 1]? = some o') (ho' : One o') (hl : (l.setIfInBounds i (.val (.long x))).setIfInBounds (i + 1) .second = l') : storeLocals l i (.long x) = some l' := by
  rw [← hl]
  have hi := (Array.getElem?_eq_some_iff.mp hold).1
  have hi' := (Array.getElem?_eq_some_iff.mp hold').1
  have e : (l.setIfInBounds i (.val (.long x)))[i + 1]? = some o' := by rw [Array.getElem?_setIfInBounds_ne (by omega)]; exact hold'
  rcases ho with rfl | ⟨w, rfl, hw⟩ <;> rcases ho' with rfl | ⟨w', rfl, hw'⟩ <;> simp [storeLocals, storeSelf, setAt, hold, hi, hi', *, Value.category] <;> simp_all [Value.category]
section Walk2
variable {own : String} {bs : ByteArray} {ml : Nat} {Z : State} {p : Program} {l : Launch} {e : Env} {R : Room} {s : State} {m : MethodId} {args : Array Value} {below : List Frame} {meth : Method} {c : Code} {T : State} {h : Heap} {locs : List Loc} {cells slots n0 : Nat} {P : Outcome → State → Prop} {Ls : Array Slot} {rest : List Value} {a0 : Array Value} {a : Addr} {n : Nat}
theorem o_iaload (B : Bx own bs ml Z p l e R s m args below meth c T h locs cells slots) (pc pc' : Nat) {g : Nat → Int32} (A : AI Z h a .int n g) {j : Int32} (i : Nat) (v : Int32) (hd : decode bs pc = .ok (.iaload, 1)) (hp : pc + 1 = pc') (h0 : ¬ j < 0) (hj : j.toNatClampNeg = i) (hi : i < n) (hv : g i = v)
    (hr : OG p.tables e below P (T.setTop (mkF m pc' Ls (.int v :: rest)))) : OG p.tables e below P (T.setTop (mkF m pc Ls (.int j :: .ref a :: rest))) := by
  subst hp hv
  obtain ⟨X, hx, hby, hml, hown, hZ, eT⟩ := B
  obtain ⟨cl, A, S, hn, H⟩ := A
  exact hr.of fun t k => X.iaload hx (by rw [eT]; exact A.1) (State.isArrayOf_alike hZ.alike A.2.1) A.2.2 (in_of S h0 hj hi) (by rw [hj]; exact H i hi) (g := mkF m pc Ls (.int j :: .ref a :: rest)) rfl rfl (hb hby hd) t k
theorem o_caload (B : Bx own bs ml Z p l e R s m args below meth c T h locs cells slots) (pc pc' : Nat) {g : Nat → Int32} (A : AI Z h a .char n g) {j : Int32} (i : Nat) (v : Int32) (hd : decode bs pc = .ok (.caload, 1)) (hp : pc + 1 = pc') (h0 : ¬ j < 0) (hj : j.toNatClampNeg = i) (hi : i < n) (hv : g i = v)
    (hr : OG p.tables e below P (T.setTop (mkF m pc' Ls (.int v :: rest)))) : OG p.tables e below P (T.setTop (mkF m pc Ls (.int j :: .ref a :: rest))) := by
  subst hp hv
  obtain ⟨X, hx, hby, hml, hown, hZ, eT⟩ := B
  obtain ⟨cl, A, S, hn, H⟩ := A
  exact hr.of fun t k => X.caload hx (by rw [eT]; exact A.1) (State.isArrayOf_alike hZ.alike A.2.1) A.2.2 (in_of S h0 hj hi) (by rw [hj]; exact H i hi) (g := mkF m pc Ls (.int j :: .ref a :: rest)) rfl rfl (hb hby hd) t k
theorem o_baload (B : Bx own bs ml Z p l e R s m args below meth c T h locs cells slots) (pc pc' : Nat) {g : Nat → Int32} (A : AI Z h a .byte n g) {j : Int32} (i : Nat) (v : Int32) (hd : decode bs pc = .ok (.baload, 1)) (hp : pc + 1 = pc') (h0 : ¬ j < 0) (hj : j.toNatClampNeg = i) (hi : i < n) (hv : g i = v)
    (hr : OG p.tables e below P (T.setTop (mkF m pc' Ls (.int v :: rest)))) : OG p.tables e below P (T.setTop (mkF m pc Ls (.int j :: .ref a :: rest))) := by
  subst hp hv
  obtain ⟨X, hx, hby, hml, hown, hZ, eT⟩ := B
  obtain ⟨cl, A, S, hn, H⟩ := A
  exact hr.of fun t k => X.baloadBytes hx (by rw [eT]; exact A.1) (State.isArrayOf_alike hZ.alike A.2.1) A.2.2 (in_of S h0 hj hi) (by rw [hj]; exact H i hi) (g := mkF m pc Ls (.int j :: .ref a :: rest)) rfl rfl (hb hby hd) t k
theorem o_zaload (B : Bx own bs ml Z p l e R s m args below meth c T h locs cells slots) (pc pc' : Nat) {g : Nat → Int32} (A : AI Z h a .boolean n g) {j : Int32} (i : Nat) (v : Int32) (hd : decode bs pc = .ok (.baload, 1)) (hp : pc + 1 = pc') (h0 : ¬ j < 0) (hj : j.toNatClampNeg = i) (hi : i < n) (hv : g i = v)
    (hr : OG p.tables e below P (T.setTop (mkF m pc' Ls (.int v :: rest)))) : OG p.tables e below P (T.setTop (mkF m pc Ls (.int j :: .ref a :: rest))) := by
  subst hp hv
  obtain ⟨X, hx, hby, hml, hown, hZ, eT⟩ := B
  obtain ⟨cl, A, S, hn, H⟩ := A
  exact hr.of fun t k => X.baloadBooleans hx (by rw [eT]; exact A.1) (State.isArrayOf_alike hZ.alike A.2.1) A.2.2 (in_of S h0 hj hi) (by rw [hj]; exact H i hi) (g := mkF m pc Ls (.int j :: .ref a :: rest)) rfl rfl (hb hby hd) t k
theorem o_laload (B : Bx own bs ml Z p l e R s m args below meth c T h locs cells slots) (pc pc' : Nat) {g : Nat → Int64} (A : AJ Z h a n g) {j : Int32} (i : Nat) (v : Int64) (hd : decode bs pc = .ok (.laload, 1)) (hp : pc + 1 = pc') (h0 : ¬ j < 0) (hj : j.toNatClampNeg = i) (hi : i < n) (hv : g i = v)
    (hr : OG p.tables e below P (T.setTop (mkF m pc' Ls (.long v :: rest)))) : OG p.tables e below P (T.setTop (mkF m pc Ls (.int j :: .ref a :: rest))) := by
  subst hp hv
  obtain ⟨X, hx, hby, hml, hown, hZ, eT⟩ := B
  obtain ⟨cl, A, S, hn, H⟩ := A
  exact hr.of fun t k => X.laload hx (by rw [eT]; exact A.1) (State.isArrayOf_alike hZ.alike A.2.1) A.2.2 (in_of S h0 hj hi) (by rw [hj]; exact H i hi) (g := mkF m pc Ls (.int j :: .ref a :: rest)) rfl rfl (hb hby hd) t k
theorem o_alenI (B : Bx own bs ml Z p l e R s m args below meth c T h locs cells slots) (pc pc' : Nat) {ty : FieldType} {g : Nat → Int32} (A : AI Z h a ty n g) (v : Int32) (hd : decode bs pc = .ok (.arraylength, 1)) (hp : pc + 1 = pc') (hv : n.toInt32 = v)
    (hr : OG p.tables e below P (T.setTop (mkF m pc' Ls (.int v :: rest)))) : OG p.tables e below P (T.setTop (mkF m pc Ls (.ref a :: rest))) := by
  subst hp hv
  obtain ⟨X, hx, hby, hml, hown, hZ, eT⟩ := B
  obtain ⟨cl, A, S, hn, H⟩ := A
  exact hr.of fun t k => X.arraylength hx (by rw [eT]; exact A.1) (State.isArrayOf_alike hZ.alike A.2.1) (g := mkF m pc Ls (.ref a :: rest)) rfl rfl (hb hby hd) t (by rw [S]; exact k)
theorem o_alenJ (B : Bx own bs ml Z p l e R s m args below meth c T h locs cells slots) (pc pc' : Nat) {g : Nat → Int64} (A : AJ Z h a n g) (v : Int32) (hd : decode bs pc = .ok (.arraylength, 1)) (hp : pc + 1 = pc') (hv : n.toInt32 = v)
    (hr : OG p.tables e below P (T.setTop (mkF m pc' Ls (.int v :: rest)))) : OG p.tables e below P (T.setTop (mkF m pc Ls (.ref a :: rest))) := by
  subst hp hv
  obtain ⟨X, hx, hby, hml, hown, hZ, eT⟩ := B
  obtain ⟨cl, A, S, hn, H⟩ := A
  exact hr.of fun t k => X.arraylength hx (by rw [eT]; exact A.1) (State.isArrayOf_alike hZ.alike A.2.1) (g := mkF m pc Ls (.ref a :: rest)) rfl rfl (hb hby hd) t (by rw [S]; exact k)
theorem o_iastore (B : Bx own bs ml Z p l e R s m args below meth c T h locs cells slots) (N : Fr n0 locs) (ge : n0 ≤ a) (pc pc' : Nat) {g : Nat → Int32} (A : AI Z h a .int n g) {j : Int32} {x : Int32} (i : Nat) (y : Int32) (hd : decode bs pc = .ok (.iastore, 1)) (hp : pc + 1 = pc') (h0 : ¬ j < 0) (hj : j.toNatClampNeg = i) (hi : i < n) (hy : x = y) :
    ∃ T' h' L', Bx own bs ml Z p l e R s m args below meth c T' h' L' cells slots ∧ Fr n0 L' ∧ Wr h h' a i (.int y) ∧ AI Z h' a .int n (fun j => if j = i then y else g j) ∧ ∀ {P : Outcome → State → Prop}, OG p.tables e below P (T'.setTop (mkF m pc' Ls rest)) → OG p.tables e below P (T.setTop (mkF m pc Ls (.int x :: .int j :: .ref a :: rest))) := by
  subst hp hj hy
  obtain ⟨X, hx, hby, hml, hown, hZ, eT⟩ := B
  have A' := A
  obtain ⟨cl, A, S, hn, H⟩ := A
  obtain ⟨T', h', X', e', W, st⟩ := stI X hx hZ eT A (in_of S h0 rfl hi) (g := mkF m pc Ls (.int x :: .int j :: .ref a :: rest)) rfl rfl (hb hby hd)
  exact ⟨T', h', _, ⟨X', hx, hby, hml, hown, hZ, e'⟩, Fr.snoc X' N ge, W, A'.set W, fun k => k.of st⟩
theorem o_castore (B : Bx own bs ml Z p l e R s m args below meth c T h locs cells slots) (N : Fr n0 locs) (ge : n0 ≤ a) (pc pc' : Nat) {g : Nat → Int32} (A : AI Z h a .char n g) {j : Int32} {x : Int32} (i : Nat) (y : Int32) (hd : decode bs pc = .ok (.castore, 1)) (hp : pc + 1 = pc') (h0 : ¬ j < 0) (hj : j.toNatClampNeg = i) (hi : i < n) (hy : nar .char x = y) :
    ∃ T' h' L', Bx own bs ml Z p l e R s m args below meth c T' h' L' cells slots ∧ Fr n0 L' ∧ Wr h h' a i (.int y) ∧ AI Z h' a .char n (fun j => if j = i then y else g j) ∧ ∀ {P : Outcome → State → Prop}, OG p.tables e below P (T'.setTop (mkF m pc' Ls rest)) → OG p.tables e below P (T.setTop (mkF m pc Ls (.int x :: .int j :: .ref a :: rest))) := by
  subst hp hj hy
  obtain ⟨X, hx, hby, hml, hown, hZ, eT⟩ := B
  have A' := A
  obtain ⟨cl, A, S, hn, H⟩ := A
  obtain ⟨T', h', X', e', W, st⟩ := stC X hx hZ eT A (in_of S h0 rfl hi) (g := mkF m pc Ls (.int x :: .int j :: .ref a :: rest)) rfl rfl (hb hby hd)
  exact ⟨T', h', _, ⟨X', hx, hby, hml, hown, hZ, e'⟩, Fr.snoc X' N ge, W, A'.set W, fun k => k.of st⟩
theorem o_bastore (B : Bx own bs ml Z p l e R s m args below meth c T h locs cells slots) (N : Fr n0 locs) (ge : n0 ≤ a) (pc pc' : Nat) {g : Nat → Int32} (A : AI Z h a .byte n g) {j : Int32} {x : Int32} (i : Nat) (y : Int32) (hd : decode bs pc = .ok (.bastore, 1)) (hp : pc + 1 = pc') (h0 : ¬ j < 0) (hj : j.toNatClampNeg = i) (hi : i < n) (hy : nar .byte x = y) :
    ∃ T' h' L', Bx own bs ml Z p l e R s m args below meth c T' h' L' cells slots ∧ Fr n0 L' ∧ Wr h h' a i (.int y) ∧ AI Z h' a .byte n (fun j => if j = i then y else g j) ∧ ∀ {P : Outcome → State → Prop}, OG p.tables e below P (T'.setTop (mkF m pc' Ls rest)) → OG p.tables e below P (T.setTop (mkF m pc Ls (.int x :: .int j :: .ref a :: rest))) := by
  subst hp hj hy
  obtain ⟨X, hx, hby, hml, hown, hZ, eT⟩ := B
  have A' := A
  obtain ⟨cl, A, S, hn, H⟩ := A
  obtain ⟨T', h', X', e', W, st⟩ := stB X hx hZ eT A (in_of S h0 rfl hi) (g := mkF m pc Ls (.int x :: .int j :: .ref a :: rest)) rfl rfl (hb hby hd)
  exact ⟨T', h', _, ⟨X', hx, hby, hml, hown, hZ, e'⟩, Fr.snoc X' N ge, W, A'.set W, fun k => k.of st⟩
theorem o_zastore (B : Bx own bs ml Z p l e R s m args below meth c T h locs cells slots) (N : Fr n0 locs) (ge : n0 ≤ a) (pc pc' : Nat) {g : Nat → Int32} (A : AI Z h a .boolean n g) {j : Int32} {x : Int32} (i : Nat) (y : Int32) (hd : decode bs pc = .ok (.bastore, 1)) (hp : pc + 1 = pc') (h0 : ¬ j < 0) (hj : j.toNatClampNeg = i) (hi : i < n) (hy : nar .boolean x = y) :
    ∃ T' h' L', Bx own bs ml Z p l e R s m args below meth c T' h' L' cells slots ∧ Fr n0 L' ∧ Wr h h' a i (.int y) ∧ AI Z h' a .boolean n (fun j => if j = i then y else g j) ∧ ∀ {P : Outcome → State → Prop}, OG p.tables e below P (T'.setTop (mkF m pc' Ls rest)) → OG p.tables e below P (T.setTop (mkF m pc Ls (.int x :: .int j :: .ref a :: rest))) := by
  subst hp hj hy
  obtain ⟨X, hx, hby, hml, hown, hZ, eT⟩ := B
  have A' := A
  obtain ⟨cl, A, S, hn, H⟩ := A
  obtain ⟨T', h', X', e', W, st⟩ := stZ X hx hZ eT A (in_of S h0 rfl hi) (g := mkF m pc Ls (.int x :: .int j :: .ref a :: rest)) rfl rfl (hb hby hd)
  exact ⟨T', h', _, ⟨X', hx, hby, hml, hown, hZ, e'⟩, Fr.snoc X' N ge, W, A'.set W, fun k => k.of st⟩
theorem o_lastore (B : Bx own bs ml Z p l e R s m args below meth c T h locs cells slots) (N : Fr n0 locs) (ge : n0 ≤ a) (pc pc' : Nat) {g : Nat → Int64} (A : AJ Z h a n g) {j : Int32} {x : Int64} (i : Nat) (y : Int64) (hd : decode bs pc = .ok (.lastore, 1)) (hp : pc + 1 = pc') (h0 : ¬ j < 0) (hj : j.toNatClampNeg = i) (hi : i < n) (hy : x = y) :
    ∃ T' h' L', Bx own bs ml Z p l e R s m args below meth c T' h' L' cells slots ∧ Fr n0 L' ∧ Wr h h' a i (.long y) ∧ AJ Z h' a n (fun j => if j = i then y else g j) ∧ ∀ {P : Outcome → State → Prop}, OG p.tables e below P (T'.setTop (mkF m pc' Ls rest)) → OG p.tables e below P (T.setTop (mkF m pc Ls (.long x :: .int j :: .ref a :: rest))) := by
  subst hp hj hy
  obtain ⟨X, hx, hby, hml, hown, hZ, eT⟩ := B
  have A' := A
  obtain ⟨cl, A, S, hn, H⟩ := A
  obtain ⟨T', h', X', e', W, st⟩ := stJ X hx hZ eT A (in_of S h0 rfl hi) (g := mkF m pc Ls (.long x :: .int j :: .ref a :: rest)) rfl rfl (hb hby hd)
  exact ⟨T', h', _, ⟨X', hx, hby, hml, hown, hZ, e'⟩, Fr.snoc X' N ge, W, A'.set W, fun k => k.of st⟩
theorem o_newI (B : Bx own bs ml Z p l e R s m args below meth c T h locs cells slots) (pc pc' : Nat) {aty : ArrayType} {ty : FieldType} {z : Int32} (k cap : Nat) (w : (Cond.arrayClass (newarray.typeOf aty)).before a0 Z = true) (hd : decode bs pc = .ok (.newarray aty, 2)) (hp : pc + 2 = pc') (hty : newarray.typeOf aty = ty) (hdv : defaultValue ty = .int 0) (hz : ¬ z < 0) (hk : z.toNatClampNeg = k) (hcap : k ≤ cap) (hb8 : cap * 8 ≤ 536870912) (hc : cells + 1 ≤ R.cells) (hl : slots + cap ≤ R.slots) :
    ∃ a T' h', a = h.size ∧ Bx own bs ml Z p l e R s m args below meth c T' h' locs (cells + 1) (slots + cap) ∧ Ext h h' ∧ AI Z h' a ty k (fun _ => 0) ∧ ∀ {P : Outcome → State → Prop}, OG p.tables e below P (T'.setTop (mkF m pc' Ls (.ref a :: rest))) → OG p.tables e below P (T.setTop (mkF m pc Ls (.int z :: rest))) := by
  subst hp hk
  obtain ⟨X, hx, hby, hml, hown, hZ, eT⟩ := B
  obtain ⟨T', h', cA, X', e', E, A, st⟩ := newP X hx hZ w eT (g := mkF m pc Ls (.int z :: rest)) rfl (hb hby hd) rfl hz (cap := cap) hcap hb8 hc hl
  rw [hty] at A
  refine ⟨h.size, T', h', rfl, ⟨X', hx, hby, hml, hown, hZ, e'⟩, E, ⟨_, A, sz_new _ _ _, (back32 hz).2, fun j hj => ?_⟩, fun k => k.of st⟩
  simp [newA, hj, hdv]
theorem o_newJ (B : Bx own bs ml Z p l e R s m args below meth c T h locs cells slots) (pc pc' : Nat) {aty : ArrayType} {z : Int32} (k cap : Nat) (w : (Cond.arrayClass (newarray.typeOf aty)).before a0 Z = true) (hd : decode bs pc = .ok (.newarray aty, 2)) (hp : pc + 2 = pc') (hty : newarray.typeOf aty = .long) (hz : ¬ z < 0) (hk : z.toNatClampNeg = k) (hcap : k ≤ cap) (hb8 : cap * 8 ≤ 536870912) (hc : cells + 1 ≤ R.cells) (hl : slots + cap ≤ R.slots) :
    ∃ a T' h', a = h.size ∧ Bx own bs ml Z p l e R s m args below meth c T' h' locs (cells + 1) (slots + cap) ∧ Ext h h' ∧ AJ Z h' a k (fun _ => 0) ∧ ∀ {P : Outcome → State → Prop}, OG p.tables e below P (T'.setTop (mkF m pc' Ls (.ref a :: rest))) → OG p.tables e below P (T.setTop (mkF m pc Ls (.int z :: rest))) := by
  subst hp hk
  obtain ⟨X, hx, hby, hml, hown, hZ, eT⟩ := B
  obtain ⟨T', h', cA, X', e', E, A, st⟩ := newP X hx hZ w eT (g := mkF m pc Ls (.int z :: rest)) rfl (hb hby hd) rfl hz (cap := cap) hcap hb8 hc hl
  rw [hty] at A
  refine ⟨h.size, T', h', rfl, ⟨X', hx, hby, hml, hown, hZ, e'⟩, E, ⟨_, A, sz_new _ _ _, (back32 hz).2, fun j hj => ?_⟩, fun k => k.of st⟩
  simp [newA, hj, defaultValue]
theorem o_getfield (B : Bx own bs ml Z p l e R s m args below meth c T h locs cells slots) {R0 O f d host : String} {index : Nat} {v : Value} (pc pc' : Nat) (hd : decode bs pc = .ok (.getfield index, 3)) (hp : pc + 3 = pc') (w : (Cond.fieldLink own index R0 f d).before a0 Z = true ∨ (Cond.fieldLinkNest own index R0 f d host).before a0 Z = true) (via : Via Z R0 O f d) (F : Fld Z h a O f d v) :
    ∃ T', Bx own bs ml Z p l e R s m args below meth c T' h locs cells slots ∧ ∀ {P : Outcome → State → Prop}, OG p.tables e below P (T'.setTop (mkF m pc' Ls (v :: rest))) → OG p.tables e below P (T.setTop (mkF m pc Ls (.ref a :: rest))) := by
  subst hp
  obtain ⟨X, hx, hby, hml, hown, hZ, eT⟩ := B
  obtain ⟨T', X', e', st⟩ := getF X hx hZ hown w via eT F (g := mkF m pc Ls (.ref a :: rest)) rfl rfl (hb hby hd)
  exact ⟨T', ⟨X', hx, hby, hml, hown, hZ, e'⟩, fun k => k.of st⟩
theorem o_putfield (B : Bx own bs ml Z p l e R s m args below meth c T h locs cells slots) (N : Fr n0 locs) (ge : n0 ≤ a) {R0 O f d host C : String} {index kk : Nat} {v old : Value} {ty : FieldType} (pc pc' : Nat) (hd : decode bs pc = .ok (.putfield index, 3)) (hp : pc + 3 = pc') (w : (Cond.fieldLink own index R0 f d).before a0 Z = true ∨ (Cond.fieldLinkNest own index R0 f d host).before a0 Z = true) (via : Via Z R0 O f d) (F : Fld Z h a O f d old) (E : Exa Z h a C) (L : (Cond.lays C O f d).before a0 Z = true ∨ ((Cond.laysFinal C O f d).before a0 Z = true ∧ own = O ∧ meth.name = "<init>")) (wi : (Cond.instantiable C kk).before a0 Z = true) (hty : parseFieldDescriptor d = some ty) (hn : narrow ty v = v) (hf : fits ty v = true) :
    ∃ T' h' L', Bx own bs ml Z p l e R s m args below meth c T' h' L' cells slots ∧ Fr n0 L' ∧ Wr h h' a (Jvm.RoadKit.slotOf Z O f d) v ∧ ∀ {P : Outcome → State → Prop}, OG p.tables e below P (T'.setTop (mkF m pc' Ls rest)) → OG p.tables e below P (T.setTop (mkF m pc Ls (v :: .ref a :: rest))) := by
  subst hp
  obtain ⟨X, hx, hby, hml, hown, hZ, eT⟩ := B
  obtain ⟨T', h', X', e', W, st⟩ := putF X hx hZ hown w via eT F E L wi hty hn hf (g := mkF m pc Ls (v :: .ref a :: rest)) rfl rfl (hb hby hd)
  exact ⟨T', h', _, ⟨X', hx, hby, hml, hown, hZ, e'⟩, Fr.snoc X' N ge, W, fun k => k.of st⟩
theorem o_new (B : Bx own bs ml Z p l e R s m args below meth c T h locs cells slots) {C : String} {index : Nat} (pc pc' : Nat) (hd : decode bs pc = .ok (.new index, 3)) (hp : pc + 3 = pc') (w : (Cond.classLink own index C).before a0 Z = true) (wi : (Cond.instantiable C n).before a0 Z = true) (wz : (Cond.initialized C).before a0 Z = true) (hc : cells + 1 ≤ R.cells) (hl : slots + n ≤ R.slots) :
    ∃ a T' h', a = h.size ∧ Bx own bs ml Z p l e R s m args below meth c T' h' locs (cells + 1) (slots + n) ∧ Ext h h' ∧ Exa Z h' a C ∧ (∀ {O nm d : String} {ty : FieldType}, Laid Z a0 C O nm d → parseFieldDescriptor d = some ty → Fld Z h' a O nm d (defaultValue ty)) ∧ ∀ {P : Outcome → State → Prop}, OG p.tables e below P (T'.setTop (mkF m pc' Ls (.ref a :: rest))) → OG p.tables e below P (T.setTop (mkF m pc Ls rest)) := by
  subst hp
  obtain ⟨X, hx, hby, hml, hown, hZ, eT⟩ := B
  obtain ⟨T', h', X', e', E, A, D, -, st⟩ := newO X hx hZ hown w wi wz eT (g := mkF m pc Ls rest) rfl (hb hby hd) hc hl
  exact ⟨h.size, T', h', rfl, ⟨X', hx, hby, hml, hown, hZ, e'⟩, E, A, D, fun k => k.of st⟩
theorem o_initO (B : Bx own bs ml Z p l e R s m args below meth c T h locs cells slots) {index : Nat} (pc pc' : Nat) (hd : decode bs pc = .ok (.invokespecial index, 3)) (hp : pc + 3 = pc') (w1 : (Cond.methodLink own index Lib.objectInit).before a0 Z = true) (w2 : (Cond.instanceMethod Lib.objectInit).before a0 Z = true) (w3 : (Cond.code Lib.objectInit ⟨#[0xb1]⟩ 1 none).before a0 Z = true) (hsz : Ls.size = ml) (W : Nat) (hW : (rest.map fun v => v.category).sum ≤ W) (hf : 1 ≤ R.frames) (hl : W + 12 ≤ R.locals) :
    ∃ T', Bx own bs ml Z p l e R s m args below meth c T' h locs cells slots ∧ ∀ {P : Outcome → State → Prop}, OG p.tables e below P (T'.setTop (mkF m pc' Ls rest)) → OG p.tables e below P (T.setTop (mkF m pc Ls (.ref a :: rest))) := by
  subst hp
  obtain ⟨X, hx, hby, hml, hown, hZ, eT⟩ := B
  obtain ⟨T', X', e', st⟩ := initO X hx hZ hown w1 w2 w3 eT (g := mkF m pc Ls (.ref a :: rest)) rfl (by rw [hml]; exact hsz) rfl (hb hby hd) hf (W := W) (by simpa using hW) hl
  exact ⟨T', ⟨X', hx, hby, hml, hown, hZ, e'⟩, fun k => k.of st⟩
theorem o_callN {index : Nat} {y : MethodName} {bytes : ByteArray} {maxL : Nat} {rm : Room} {as' : Array Value} {Q : Option Value → Heap → List Loc → Prop} {ps : List FieldType} {rt : Option FieldType}
    (B : Bx own bs ml Z p l e R s m args below meth c T h locs cells slots) (pc pc' : Nat) (hd : decode bs pc = .ok (.invokespecial index, 3)) (hp : pc + 3 = pc') (hy1 : y.name = "<init>")
    (w1 : (Cond.methodLink own index y).before a0 Z = true) (w2 : (Cond.instanceMethod y).before a0 Z = true) (w3 : (Cond.initialized y.cls).before a0 Z = true) (w4 : (Cond.code y bytes maxL none).before a0 Z = true) (hy : y.cls ≠ "java/lang/invoke/MethodHandle" ∧ y.cls ≠ "java/lang/invoke/VarHandle")
    (hM : Met l Z y bytes maxL none rm as' h Q) (W : Nat) (argsL rest : List Value) (hpd : parseMethodDescriptor y.desc = some ⟨ps, rt⟩) (hlen : argsL.length = ps.length) (has : (.ref a :: argsL).toArray = as') {st : List Value} (hst : st = argsL.reverse ++ .ref a :: rest) (hsz : Ls.size = ml)
    (hW : (rest.map fun v => v.category).sum ≤ W) (hf : rm.frames + 1 ≤ R.frames) (hl : W + (maxL + 11) + rm.locals ≤ R.locals) (hcl : cells + rm.cells ≤ R.cells) (hsl : slots + rm.slots ≤ R.slots) :
    ∃ v T' L, Bx own bs ml Z p l e R s m args below meth c T' T'.heap (locs ++ L) (cells + rm.cells) (slots + rm.slots) ∧ Q v T'.heap L ∧
      ∀ {P : Outcome → State → Prop}, OG p.tables e below P (T'.setTop (mkF m pc' Ls (v.toList ++ rest))) → OG p.tables e below P (T.setTop (mkF m pc Ls st)) := by
  subst hp hst
  obtain ⟨X, hx, hby, hml, hown, hZ, eT⟩ := B
  obtain ⟨v, vm1, ⟨T', L', k', n'⟩, -, X', ⟨Lc, hQ, l', y', z'⟩, st⟩ := X.specialBack hx (y := y) hy1 hown (mvT hZ w1) (mvT hZ w2) (mvT hZ w4) hy (backOf (W := W) hM hZ w4 w3 hf hl) (g := mkF m pc Ls (argsL.reverse ++ .ref a :: rest)) rfl (by rw [hml]; exact hsz) (Steps.refl _) (a := a) (argsL := argsL) (rest := rest) (lenOf hpd hlen) rfl (by simpa using hW) (hb hby hd) (fun _ _ => ⟨has, eT, hcl, hsl⟩)
  dsimp only [Pt.U, Pt.locs, Pt.cells, Pt.slots] at X' l' y' z' st hQ
  subst l' y' z'
  exact ⟨v, T', Lc, ⟨X', hx, hby, hml, hown, hZ, rfl⟩, hQ, fun k => k.of fun t q => st.trans q⟩
theorem o_callV {index : Nat} {y : MethodName} {C : String} {bytes : ByteArray} {maxL : Nat} {ret : Option FieldType} {rm : Room} {as' : Array Value} {Q : Option Value → Heap → List Loc → Prop} {ps : List FieldType} {rt : Option FieldType}
    (B : Bx own bs ml Z p l e R s m args below meth c T h locs cells slots) (pc pc' : Nat) (hd : decode bs pc = .ok (.invokevirtual index, 3)) (hp : pc + 3 = pc')
    (w1 : (Cond.methodLink own index y).before a0 Z = true) (w2 : (Cond.declares y).before a0 Z = true) (w5 : (Cond.selects C y y).before a0 Z = true) (w6 : (Cond.instanceMethod y).before a0 Z = true) (w3 : (Cond.initialized y.cls).before a0 Z = true) (w4 : (Cond.code y bytes maxL ret).before a0 Z = true) (hy : y.cls ≠ "java/lang/invoke/MethodHandle" ∧ y.cls ≠ "java/lang/invoke/VarHandle") (E : Exa Z h a C)
    (hM : Met l Z y bytes maxL ret rm as' h Q) (W : Nat) (argsL rest : List Value) (hpd : parseMethodDescriptor y.desc = some ⟨ps, rt⟩) (hlen : argsL.length = ps.length) (has : (.ref a :: argsL).toArray = as') {st : List Value} (hst : st = argsL.reverse ++ .ref a :: rest) (hsz : Ls.size = ml)
    (hW : (rest.map fun v => v.category).sum ≤ W) (hf : rm.frames + 1 ≤ R.frames) (hl : W + (maxL + 11) + rm.locals ≤ R.locals) (hcl : cells + rm.cells ≤ R.cells) (hsl : slots + rm.slots ≤ R.slots) :
    ∃ v T' L, Bx own bs ml Z p l e R s m args below meth c T' T'.heap (locs ++ L) (cells + rm.cells) (slots + rm.slots) ∧ Q v T'.heap L ∧
      ∀ {P : Outcome → State → Prop}, OG p.tables e below P (T'.setTop (mkF m pc' Ls (v.toList ++ rest))) → OG p.tables e below P (T.setTop (mkF m pc Ls st)) := by
  subst hp hst
  obtain ⟨X, hx, hby, hml, hown, hZ, eT⟩ := B
  obtain ⟨cq, kq, qa, qb, qc⟩ := isOf hZ eT E
  obtain ⟨v, vm1, ⟨T', L', k', n'⟩, -, X', ⟨Lc, hQ, l', y', z'⟩, st⟩ := X.virtualBack hx (y := y) (z := y) hown (mvT hZ w1) (mvT hZ w2) (notFace_of_selects (args := #[]) (mvT hZ w5)) (mvT hZ w5) (mvT hZ w6) hy (backOf (W := W) hM hZ w4 w3 hf hl) qa qc (g := mkF m pc Ls (argsL.reverse ++ .ref a :: rest)) rfl (by rw [hml]; exact hsz) (Steps.refl _) (argsL := argsL) (rest := rest) (lenOf hpd hlen) rfl (by simpa using hW) (hb hby hd) (fun _ _ => ⟨has, eT, hcl, hsl⟩)
  dsimp only [Pt.U, Pt.locs, Pt.cells, Pt.slots] at X' l' y' z' st hQ
  subst l' y' z'
  exact ⟨v, T', Lc, ⟨X', hx, hby, hml, hown, hZ, rfl⟩, hQ, fun k => k.of fun t q => st.trans q⟩
theorem o_callVP {index : Nat} {y : MethodName} {C : String} {bytes : ByteArray} {maxL : Nat} {ret : Option FieldType} {fr lo : Nat} {as' : Array Value} {r : Value} {ps : List FieldType} {rt : Option FieldType}
    (B : Bx own bs ml Z p l e R s m args below meth c T h locs cells slots) (pc pc' : Nat) (hd : decode bs pc = .ok (.invokevirtual index, 3)) (hp : pc + 3 = pc')
    (w1 : (Cond.methodLink own index y).before a0 Z = true) (w2 : (Cond.declares y).before a0 Z = true) (w5 : (Cond.selects C y y).before a0 Z = true) (w6 : (Cond.instanceMethod y).before a0 Z = true) (w3 : (Cond.initialized y.cls).before a0 Z = true) (w4 : (Cond.code y bytes maxL ret).before a0 Z = true) (hy : y.cls ≠ "java/lang/invoke/MethodHandle" ∧ y.cls ≠ "java/lang/invoke/VarHandle") (E : Exa Z h a C)
    (hM : Met l Z y bytes maxL ret ({ frames := fr, cells := 0, slots := 0, locals := lo } : Room) as' h (Pu (some r) h)) (W : Nat) (argsL rest : List Value) (hpd : parseMethodDescriptor y.desc = some ⟨ps, rt⟩) (hlen : argsL.length = ps.length) (has : (.ref a :: argsL).toArray = as') {st : List Value} (hst : st = argsL.reverse ++ .ref a :: rest) (hsz : Ls.size = ml)
    (hW : (rest.map fun v => v.category).sum ≤ W) (hf : fr + 1 ≤ R.frames) (hl : W + (maxL + 11) + lo ≤ R.locals) (hcl : cells ≤ R.cells) (hsl : slots ≤ R.slots) :
    ∃ T', Bx own bs ml Z p l e R s m args below meth c T' h locs cells slots ∧
      ∀ {P : Outcome → State → Prop}, OG p.tables e below P (T'.setTop (mkF m pc' Ls (r :: rest))) → OG p.tables e below P (T.setTop (mkF m pc Ls st)) := by
  obtain ⟨v, T', L, B', ⟨rfl, rfl, hh⟩, st⟩ := o_callV B pc pc' hd hp w1 w2 w5 w6 w3 w4 hy E hM W argsL rest hpd hlen has hst hsz hW hf hl hcl hsl
  rw [hh, List.append_nil] at B'
  exact ⟨T', B', st⟩
theorem o_callNP {index : Nat} {y : MethodName} {bytes : ByteArray} {maxL : Nat} {fr lo : Nat} {as' : Array Value} {ps : List FieldType} {rt : Option FieldType}
    (B : Bx own bs ml Z p l e R s m args below meth c T h locs cells slots) (pc pc' : Nat) (hd : decode bs pc = .ok (.invokespecial index, 3)) (hp : pc + 3 = pc') (hy1 : y.name = "<init>")
    (w1 : (Cond.methodLink own index y).before a0 Z = true) (w2 : (Cond.instanceMethod y).before a0 Z = true) (w3 : (Cond.initialized y.cls).before a0 Z = true) (w4 : (Cond.code y bytes maxL none).before a0 Z = true) (hy : y.cls ≠ "java/lang/invoke/MethodHandle" ∧ y.cls ≠ "java/lang/invoke/VarHandle")
    (hM : Met l Z y bytes maxL none ({ frames := fr, cells := 0, slots := 0, locals := lo } : Room) as' h (Pu none h)) (W : Nat) (argsL rest : List Value) (hpd : parseMethodDescriptor y.desc = some ⟨ps, rt⟩) (hlen : argsL.length = ps.length) (has : (.ref a :: argsL).toArray = as') {st : List Value} (hst : st = argsL.reverse ++ .ref a :: rest) (hsz : Ls.size = ml)
    (hW : (rest.map fun v => v.category).sum ≤ W) (hf : fr + 1 ≤ R.frames) (hl : W + (maxL + 11) + lo ≤ R.locals) (hcl : cells ≤ R.cells) (hsl : slots ≤ R.slots) :
    ∃ T', Bx own bs ml Z p l e R s m args below meth c T' h locs cells slots ∧
      ∀ {P : Outcome → State → Prop}, OG p.tables e below P (T'.setTop (mkF m pc' Ls rest)) → OG p.tables e below P (T.setTop (mkF m pc Ls st)) := by
  obtain ⟨v, T', L, B', ⟨rfl, rfl, hh⟩, st⟩ := o_callN B pc pc' hd hp hy1 w1 w2 w3 w4 hy hM W argsL rest hpd hlen has hst hsz hW hf hl hcl hsl
  rw [hh, List.append_nil] at B'
  exact ⟨T', B', st⟩
end Walk2
theorem o_callW {own : String} {bs : ByteArray} {ml : Nat} {Z : State} {p : Program} {l : Launch} {e : Env} {R : Room} {s : State} {m : MethodId} {args : Array Value} {below : List Frame} {meth : Method} {c : Code} {T : State} {h : Heap} {locs : List Loc} {cells slots : Nat} {Ls : Array Slot} {a0 : Array Value} {a : Addr} {index kk : Nat} {y : MethodName} {C : String} {bytes : ByteArray} {maxL : Nat} {ret : Option FieldType} {rm : Room} {as' : Array Value} {Q : Option Value → Heap → List Loc → Prop} {ps : List FieldType} {rt : Option FieldType}
    (B : Bx own bs ml Z p l e R s m args below meth c T h locs cells slots) (pc pc' : Nat) (hd : decode bs pc = .ok (.invokevirtual index, 3)) (hp : pc + 3 = pc')
    (w1 : (Cond.methodLink own index y).before a0 Z = true) (w2 : (Cond.privateMethod y).before a0 Z = true) (w5 : (Cond.instantiable y.cls kk).before a0 Z = true) (w6 : (Cond.instanceMethod y).before a0 Z = true) (w3 : (Cond.initialized y.cls).before a0 Z = true) (w4 : (Cond.code y bytes maxL ret).before a0 Z = true) (hy : y.cls ≠ "java/lang/invoke/MethodHandle" ∧ y.cls ≠ "java/lang/invoke/VarHandle") (E : Exa Z h a C)
    (hM : Met l Z y bytes maxL ret rm as' h Q) (W : Nat) (argsL rest : List Value) (hpd : parseMethodDescriptor y.desc = some ⟨ps, rt⟩) (hlen : argsL.length = ps.length) (has : (.ref a :: argsL).toArray = as') {st : List Value} (hst : st = argsL.reverse ++ .ref a :: rest) (hsz : Ls.size = ml)
    (hW : (rest.map fun v => v.category).sum ≤ W) (hf : rm.frames + 1 ≤ R.frames) (hl : W + (maxL + 11) + rm.locals ≤ R.locals) (hcl : cells + rm.cells ≤ R.cells) (hsl : slots + rm.slots ≤ R.slots) :
    ∃ v T' L, Bx own bs ml Z p l e R s m args below meth c T' T'.heap (locs ++ L) (cells + rm.cells) (slots + rm.slots) ∧ Q v T'.heap L ∧
      ∀ {P : Outcome → State → Prop}, OG p.tables e below P (T'.setTop (mkF m pc' Ls (v.toList ++ rest))) → OG p.tables e below P (T.setTop (mkF m pc Ls st)) := by
  subst hp hst
  obtain ⟨X, hx, hby, hml, hown, hZ, eT⟩ := B
  have hi : (Cond.instanceMethod y).before args s = true := mvT hZ w6
  have hk : (Cond.instantiable y.cls kk).before args s = true := mv hZ w5
  obtain ⟨c1, k1, q1, q2, -, q4, -⟩ := Cond.instantiable_spec hk
  have hni : k1.isInterface = false := by
    cases hh : k1.isInterface
    · rfl
    · rw [hh] at q4; cases q4
  have hpriv : s.PrivateAt y := Cond.privateMethod_at (mvP (args := args) hZ w2)
  have hsel := selects_self_of_private q1 q2 hni hpriv hi hy
  obtain ⟨cell, qa, qc⟩ := Exa.cell E
  obtain ⟨v, vm1, ⟨T', L', k', n'⟩, -, X', ⟨Lc, hQ, l', y', z'⟩, st⟩ := X.privateBack hx (y := y) hown (mvT hZ w1) hi hsel hpriv (mvT hZ w4) hy (backOf (W := W) hM hZ w4 w3 hf hl) (g := mkF m pc Ls (argsL.reverse ++ .ref a :: rest)) rfl (by rw [hml]; exact hsz) (Steps.refl _) (by rw [eT]; exact qa) qc (argsL := argsL) (rest := rest) (lenOf hpd hlen) rfl (by simpa using hW) (hb hby hd) (fun _ _ => ⟨has, eT, hcl, hsl⟩)
  dsimp only [Pt.U, Pt.locs, Pt.cells, Pt.slots] at X' l' y' z' st hQ
  subst l' y' z'
  exact ⟨v, T', Lc, ⟨X', hx, hby, hml, hown, hZ, rfl⟩, hQ, fun k => k.of fun t q => st.trans q⟩

theorem o_callWPV {own : String} {bs : ByteArray} {ml : Nat} {Z : State} {p : Program} {l : Launch} {e : Env} {R : Room} {s : State} {m : MethodId} {args : Array Value} {below : List Frame} {meth : Method} {c : Code} {T : State} {h : Heap} {locs : List Loc} {cells slots : Nat} {Ls : Array Slot} {a0 : Array Value} {a : Addr} {index kk : Nat} {y : MethodName} {C : String} {bytes : ByteArray} {maxL : Nat} {ret : Option FieldType} {fr lo : Nat} {as' : Array Value} {ps : List FieldType} {rt : Option FieldType}
    (B : Bx own bs ml Z p l e R s m args below meth c T h locs cells slots) (pc pc' : Nat) (hd : decode bs pc = .ok (.invokevirtual index, 3)) (hp : pc + 3 = pc')
    (w1 : (Cond.methodLink own index y).before a0 Z = true) (w2 : (Cond.privateMethod y).before a0 Z = true) (w5 : (Cond.instantiable y.cls kk).before a0 Z = true) (w6 : (Cond.instanceMethod y).before a0 Z = true) (w3 : (Cond.initialized y.cls).before a0 Z = true) (w4 : (Cond.code y bytes maxL ret).before a0 Z = true) (hy : y.cls ≠ "java/lang/invoke/MethodHandle" ∧ y.cls ≠ "java/lang/invoke/VarHandle") (E : Exa Z h a C)
    (hM : Met l Z y bytes maxL ret ({ frames := fr, cells := 0, slots := 0, locals := lo } : Room) as' h (Pu none h)) (W : Nat) (argsL rest : List Value) (hpd : parseMethodDescriptor y.desc = some ⟨ps, rt⟩) (hlen : argsL.length = ps.length) (has : (.ref a :: argsL).toArray = as') {st : List Value} (hst : st = argsL.reverse ++ .ref a :: rest) (hsz : Ls.size = ml)
    (hW : (rest.map fun v => v.category).sum ≤ W) (hf : fr + 1 ≤ R.frames) (hl : W + (maxL + 11) + lo ≤ R.locals) (hcl : cells ≤ R.cells) (hsl : slots ≤ R.slots) :
    ∃ T', Bx own bs ml Z p l e R s m args below meth c T' h locs cells slots ∧
      ∀ {P : Outcome → State → Prop}, OG p.tables e below P (T'.setTop (mkF m pc' Ls rest)) → OG p.tables e below P (T.setTop (mkF m pc Ls st)) := by
  obtain ⟨v, T', L, B', ⟨rfl, rfl, hh⟩, st⟩ := o_callW B pc pc' hd hp w1 w2 w5 w6 w3 w4 hy E hM W argsL rest hpd hlen has hst hsz hW hf hl hcl hsl
  rw [hh, List.append_nil] at B'
  exact ⟨T', B', st⟩

theorem own_am (s : Int32) (k : Nat) (hs : s.toInt = k) (hk : k < 64) : (s.toInt64 &&& 63).toBitVec = BitVec.ofNat 64 k := by
  have m := c_maskL s.toInt64 63 6 (by decide) (by decide)
  have e := c_i2l s
  have q : s.toInt64 &&& 63 = Int64.ofNat k := by
    apply Int64.toInt_inj.mp
    rw [Int64.toInt_ofNat_of_lt (by omega), m, e, hs]
    omega
  rw [q]
  rfl
theorem own_shl (x : Int64) (s : Int32) (k : Nat) (hs : s.toInt = k) (hk : k < 64) (i : Nat) (hi : i < 64) : (x <<< (s.toInt64 &&& 63)).toBitVec.getLsbD i = (!decide (i < k) && x.toBitVec.getLsbD (i - k)) := by
  rw [Int64.toBitVec_shiftLeft, own_am s k hs hk, BitVec.shiftLeft_eq', smod64 k hk, BitVec.getLsbD_shiftLeft, decide_eq_true hi, Bool.true_and]
theorem own_shr (x : Int64) (s : Int32) (k : Nat) (hs : s.toInt = k) (hk : k < 64) (i : Nat) : (XT.ushrL x s).toBitVec.getLsbD i = x.toBitVec.getLsbD (k + i) := by
  show (x.toBitVec >>> ((s.toInt64 &&& 63).toBitVec % 64#64)).getLsbD i = _
  rw [own_am s k hs hk, BitVec.ushiftRight_eq', BitVec.getLsbD_ushiftRight, BitVec.toNat_umod, BitVec.toNat_ofNat, BitVec.toNat_ofNat, Nat.mod_eq_of_lt (by omega), Nat.mod_eq_of_lt (by omega)]
theorem own_msk (w : Int32) (n : Nat) (hw : w.toInt = n) (h : n < 64) (i : Nat) : (((1 : Int64) <<< (w.toInt64 &&& 63)) - 1).toBitVec.getLsbD i = decide (i < n) := by
  have e : (((1 : Int64) <<< (w.toInt64 &&& 63)) - 1).toBitVec = BitVec.ofNat 64 (2 ^ n - 1) := by
    rw [Int64.toBitVec_sub, Int64.toBitVec_shiftLeft, own_am w n hw h, BitVec.shiftLeft_eq', smod64 n h]
    apply BitVec.eq_of_toNat_eq
    have p : 2 ^ n < 2 ^ 64 := Nat.pow_lt_pow_right (by decide) h
    have p0 : 0 < 2 ^ n := Nat.two_pow_pos n
    rw [BitVec.toNat_sub, BitVec.toNat_shiftLeft, BitVec.toNat_ofNat]
    show (2 ^ 64 - 1 + ((1 <<< n) % 2 ^ 64)) % 2 ^ 64 = _
    rw [Nat.one_shiftLeft]
    omega
  rw [e, BitVec.getLsbD_ofNat, Nat.testBit_two_pow_sub_one]
  by_cases hi : i < n
  · rw [decide_eq_true hi, decide_eq_true (show i < 64 by omega)]; rfl
  · rw [decide_eq_false hi, Bool.and_false]
theorem own_mk (w : Int32) (n : Nat) (hw : w.toInt = n) (h : n ≤ 64) (i : Nat) (hi : i < 64) : (if w = (64 : Int32) then (-1 : Int64) else ((1 : Int64) <<< (w.toInt64 &&& 63)) - 1).toBitVec.getLsbD i = decide (i < n) := by
  by_cases e : w = 64
  · rw [if_pos e]
    rw [e, show (64 : Int32).toInt = 64 by decide] at hw
    rw [decide_eq_true (show i < n by omega)]
    show (BitVec.allOnes 64).getLsbD i = true
    rw [BitVec.getLsbD_allOnes, decide_eq_true hi]
  · rw [if_neg e]
    refine own_msk w n hw ?_ i
    rcases Nat.lt_or_eq_of_le h with z | z
    · exact z
    · exact absurd (Int32.toInt_inj.mp (by rw [hw, z]; decide)) e
theorem own_ext (x y : Int64) (h : ∀ i, i < 64 → x.toBitVec.getLsbD i = y.toBitVec.getLsbD i) : x = y := Int64.toBitVec_inj.mp (BitVec.eq_of_getLsbD_eq h)
/-- the group's bits out of two words, as the code and as the law take them -/
theorem own_two (X Y : Int64) (B O : Int32) (b o : Nat) (hB : B.toInt = b) (hO : O.toInt = o) (h1 : b ≤ 64) (h2 : o < 64) (H : Int64) (hH : ∀ i, i < 64 → H.toBitVec.getLsbD i = decide (i < o + b - 64)) :
    ((XT.ushrL (X &&& ((if B = (64 : Int32) then (-1 : Int64) else ((1 : Int64) <<< (B.toInt64 &&& 63)) - 1) <<< (O.toInt64 &&& 63))) O) ||| ((Y &&& H) <<< (((64 : Int32) - O).toInt64 &&& 63))) = ((XT.ushrL X O) ||| (if o = 0 then 0 else Y <<< (((64 : Int32) - O).toInt64 &&& 63))) &&& (if B = (64 : Int32) then (-1 : Int64) else ((1 : Int64) <<< (B.toInt64 &&& 63)) - 1) := by
  apply own_ext
  intro i hi
  rw [Int64.toBitVec_or, Int64.toBitVec_and, Int64.toBitVec_or, BitVec.getLsbD_or, BitVec.getLsbD_and, BitVec.getLsbD_or, own_mk B b hB h1 i hi, own_shr _ O o hO h2, own_shr _ O o hO h2, Int64.toBitVec_and, BitVec.getLsbD_and]
  have s1 : o + i < 64 → ((if B = (64 : Int32) then (-1 : Int64) else ((1 : Int64) <<< (B.toInt64 &&& 63)) - 1) <<< (O.toInt64 &&& 63)).toBitVec.getLsbD (o + i) = decide (i < b) := by
    intro q
    rw [own_shl _ O o hO h2 _ q, decide_eq_false (show ¬ o + i < o by omega), show o + i - o = i by omega, own_mk B b hB h1 i hi]
    rfl
  have s2 : ¬ o + i < 64 → X.toBitVec.getLsbD (o + i) = false := fun q => BitVec.getLsbD_of_ge _ _ (by omega)
  by_cases z : o = 0
  · rw [if_pos z]
    have hz : H = 0 := by
      apply own_ext
      intro j hj
      rw [hH j hj, decide_eq_false (by omega)]
      exact (BitVec.getLsbD_zero).symm
    rw [hz, s1 (by omega), show Y &&& 0 = (0 : Int64) from Int64.and_zero, Int64.zero_shiftLeft]
    simp only [show (0 : Int64).toBitVec.getLsbD i = false from BitVec.getLsbD_zero, Bool.or_false]
  · rw [if_neg z]
    have hS : ((64 : Int32) - O).toInt = (64 - o : Nat) := by
      have a := c_isub 64 O
      have r := rng32 (64 - O)
      rw [show (64 : Int32).toInt = 64 by decide] at a
      omega
    rw [own_shl _ _ _ hS (by omega) i hi, own_shl _ _ _ hS (by omega) i hi, Int64.toBitVec_and, BitVec.getLsbD_and, hH _ (by omega)]
    by_cases q : o + i < 64
    · rw [s1 q, decide_eq_true (show i < 64 - o by omega)]
      simp
    · rw [s2 q, decide_eq_false (show ¬ i < 64 - o by omega)]
      simp only [Bool.false_and, Bool.false_or, Bool.not_false, Bool.true_and]
      congr 1
      exact decide_eq_decide.mpr (by omega)

theorem d2_0 : decode jdk_29_method_65_code 0 = .ok (.iload_n 0, 1) := by decide +kernel
theorem d2_1 : decode jdk_29_method_65_code 1 = .ok (.iload_n 1, 1) := by decide +kernel
theorem d2_2 : decode jdk_29_method_65_code 2 = .ok (.if_icmp .lt 7, 3) := by decide +kernel
theorem d2_5 : decode jdk_29_method_65_code 5 = .ok (.iload_n 0, 1) := by decide +kernel
theorem d2_6 : decode jdk_29_method_65_code 6 = .ok (.goto 4, 3) := by decide +kernel
theorem d2_9 : decode jdk_29_method_65_code 9 = .ok (.iload_n 1, 1) := by decide +kernel
theorem d2_10 : decode jdk_29_method_65_code 10 = .ok (.ireturn, 1) := by decide +kernel
theorem pl2 : plainFor (⟨"java/lang/Math", "max", "(II)I"⟩ : MethodName) = true := by first | exact plainFor_of_name (by first | (simp [plainName, overriddenIn]; done) | decide +kernel) | decide +kernel
def f2 (x0 x1 : Int32) : Int32 := (if x0 < x1 then x1 else x0)
set_option maxRecDepth 65536 in
set_option maxHeartbeats 40000000 in
theorem rm2 (l : Launch) (Z : State) (a0 : Array Value) (hw : ∀ d ∈ tables_1, d.before a0 Z = true) (x0 : Int32) (x1 : Int32) (h0 : Heap) :
    Met l Z (⟨"java/lang/Math", "max", "(II)I"⟩ : MethodName) jdk_29_method_65_code 2 (some .int) ({ frames := 0, cells := 0, slots := 0, locals := 0 } : Room) #[(.int x0), (.int x1)] h0 (Pu (some (.int (f2 x0 x1))) h0) := by
  refine enter pl2 #[vi x0, vi x1] rfl ?_
  intro p e s m below meth c T B hret hlk hnm
  · refine o_iloadN B 0 1 (v := x0) d2_0 rfl rfl ?_
    refine o_iloadN B 1 2 (v := x1) d2_1 rfl rfl ?_
    by_cases k1 : x0 < x1
    · refine o_icY B 2 9 d2_2 (XT.ii_lt_t k1) (by decide) (by decide) ?_
      refine o_iloadN B 9 10 (v := x1) d2_9 rfl rfl ?_
      refine o_retI B 10 d2_10 hret hlk (by decide) (by decide) ⟨(congrArg (fun z => some (Value.int z)) (show f2 x0 x1 = x1 from (if_pos k1).trans (rfl))).symm, rfl, rfl⟩
    · refine o_icN B 2 5 d2_2 rfl (XT.ii_lt_f k1) ?_
      refine o_iloadN B 5 6 (v := x0) d2_5 rfl rfl ?_
      refine o_goto B 6 10 d2_6 (by decide) (by decide) ?_
      refine o_retI B 10 d2_10 hret hlk (by decide) (by decide) ⟨(congrArg (fun z => some (Value.int z)) (show f2 x0 x1 = x0 from (if_neg k1).trans (rfl))).symm, rfl, rfl⟩
theorem d1_0 : decode method_3_code 0 = .ok (.iconst 1, 1) := by decide +kernel
theorem d1_1 : decode method_3_code 1 = .ok (.iload_n 0, 1) := by decide +kernel
theorem d1_2 : decode method_3_code 2 = .ok (.ldc 40, 2) := by decide +kernel
theorem d1_4 : decode method_3_code 4 = .ok (.iand, 1) := by decide +kernel
theorem d1_5 : decode method_3_code 5 = .ok (.iload_n 1, 1) := by decide +kernel
theorem d1_6 : decode method_3_code 6 = .ok (.iushr, 1) := by decide +kernel
theorem d1_7 : decode method_3_code 7 = .ok (.invokestatic 41, 3) := by decide +kernel
theorem d1_10 : decode method_3_code 10 = .ok (.ireturn, 1) := by decide +kernel
theorem pl1 : plainFor (⟨"com/example/micro_ranker/microranker/engine/BlockSizePinLaw", "freq", "(II)I"⟩ : MethodName) = true := by first | exact plainFor_of_name (by first | (simp [plainName, overriddenIn]; done) | decide +kernel) | decide +kernel
theorem pd__II_I : parseMethodDescriptor "(II)I" = some ⟨[.int, .int], some .int⟩ := by decide +kernel
def q1_1 (x0 x1 : Int32) : Int32 := (f2 (1 : Int32) (XT.ushr (x0 &&& (2147483647 : Int32)) x1))
def f1 (x0 x1 : Int32) : Int32 := (q1_1 x0 x1)
set_option maxRecDepth 65536 in
set_option maxHeartbeats 40000000 in
theorem rm1 (l : Launch) (Z : State) (a0 : Array Value) (hw : ∀ d ∈ tables_1, d.before a0 Z = true) (x0 : Int32) (x1 : Int32) (h0 : Heap) :
    Met l Z (⟨"com/example/micro_ranker/microranker/engine/BlockSizePinLaw", "freq", "(II)I"⟩ : MethodName) method_3_code 2 (some .int) ({ frames := 1, cells := 0, slots := 0, locals := 13 } : Room) #[(.int x0), (.int x1)] h0 (Pu (some (.int (f1 x0 x1))) h0) := by
  refine enter pl1 #[vi x0, vi x1] rfl ?_
  intro p e s m below meth c T B hret hlk hnm
  · refine o_iconst B 0 1 (1 : Int32) d1_0 rfl (by decide) ?_
    refine o_iloadN B 1 2 (v := x0) d1_1 rfl rfl ?_
    refine o_ldc B 2 4 d1_2 rfl (hw _ (mi 6 rfl)) ?_
    refine o_iand B 4 5 d1_4 rfl ?_
    refine o_iloadN B 5 6 (v := x1) d1_5 rfl rfl ?_
    refine o_iushr B 6 7 d1_6 rfl ?_
    obtain ⟨T1, B1, c1⟩ := o_callP B 7 10 d1_7 rfl (hw _ (mi 7 rfl)) (hw _ (mi 8 rfl)) (hw _ (mi 9 rfl)) (hw _ (mi 10 rfl)) (by decide) (rm2 l Z a0 hw (1 : Int32) (XT.ushr (x0 &&& (2147483647 : Int32)) x1) h0 ) 0 [(.int (1 : Int32)), (.int (XT.ushr (x0 &&& (2147483647 : Int32)) x1))] [] pd__II_I rfl rfl (st := [(.int (XT.ushr (x0 &&& (2147483647 : Int32)) x1)), (.int (1 : Int32))]) rfl (Ls := #[vi x0, vi x1]) rfl (Nat.le_of_eq rfl) (by decide) (by decide) (by decide) (by decide)
    refine c1 ?_
    refine o_retI B1 10 d1_10 hret hlk (by decide) (by decide) ⟨(congrArg (fun z => some (Value.int z)) (show f1 x0 x1 = (q1_1 x0 x1) from rfl)).symm, rfl, rfl⟩
theorem d10_0 : decode jdk_33_method_47_code 0 = .ok (.iload_n 0, 1) := by decide +kernel
theorem d10_1 : decode jdk_33_method_47_code 1 = .ok (.ifCond .gt 14, 3) := by decide +kernel
theorem d10_4 : decode jdk_33_method_47_code 4 = .ok (.iload_n 0, 1) := by decide +kernel
theorem d10_5 : decode jdk_33_method_47_code 5 = .ok (.ifCond .ne 8, 3) := by decide +kernel
theorem d10_8 : decode jdk_33_method_47_code 8 = .ok (.bipush 32, 2) := by decide +kernel
theorem d10_10 : decode jdk_33_method_47_code 10 = .ok (.goto 4, 3) := by decide +kernel
theorem d10_13 : decode jdk_33_method_47_code 13 = .ok (.iconst 0, 1) := by decide +kernel
theorem d10_14 : decode jdk_33_method_47_code 14 = .ok (.ireturn, 1) := by decide +kernel
theorem d10_15 : decode jdk_33_method_47_code 15 = .ok (.bipush 31, 2) := by decide +kernel
theorem d10_17 : decode jdk_33_method_47_code 17 = .ok (.istore_n 1, 1) := by decide +kernel
theorem d10_18 : decode jdk_33_method_47_code 18 = .ok (.iload_n 0, 1) := by decide +kernel
theorem d10_19 : decode jdk_33_method_47_code 19 = .ok (.ldc_w 264, 3) := by decide +kernel
theorem d10_22 : decode jdk_33_method_47_code 22 = .ok (.if_icmp .lt 11, 3) := by decide +kernel
theorem d10_25 : decode jdk_33_method_47_code 25 = .ok (.iinc 1 (-16), 3) := by decide +kernel
theorem d10_28 : decode jdk_33_method_47_code 28 = .ok (.iload_n 0, 1) := by decide +kernel
theorem d10_29 : decode jdk_33_method_47_code 29 = .ok (.bipush 16, 2) := by decide +kernel
theorem d10_31 : decode jdk_33_method_47_code 31 = .ok (.iushr, 1) := by decide +kernel
theorem d10_32 : decode jdk_33_method_47_code 32 = .ok (.istore_n 0, 1) := by decide +kernel
theorem d10_33 : decode jdk_33_method_47_code 33 = .ok (.iload_n 0, 1) := by decide +kernel
theorem d10_34 : decode jdk_33_method_47_code 34 = .ok (.sipush 256, 3) := by decide +kernel
theorem d10_37 : decode jdk_33_method_47_code 37 = .ok (.if_icmp .lt 11, 3) := by decide +kernel
theorem d10_40 : decode jdk_33_method_47_code 40 = .ok (.iinc 1 (-8), 3) := by decide +kernel
theorem d10_43 : decode jdk_33_method_47_code 43 = .ok (.iload_n 0, 1) := by decide +kernel
theorem d10_44 : decode jdk_33_method_47_code 44 = .ok (.bipush 8, 2) := by decide +kernel
theorem d10_46 : decode jdk_33_method_47_code 46 = .ok (.iushr, 1) := by decide +kernel
theorem d10_47 : decode jdk_33_method_47_code 47 = .ok (.istore_n 0, 1) := by decide +kernel
theorem d10_48 : decode jdk_33_method_47_code 48 = .ok (.iload_n 0, 1) := by decide +kernel
theorem d10_49 : decode jdk_33_method_47_code 49 = .ok (.bipush 16, 2) := by decide +kernel
theorem d10_51 : decode jdk_33_method_47_code 51 = .ok (.if_icmp .lt 10, 3) := by decide +kernel
theorem d10_54 : decode jdk_33_method_47_code 54 = .ok (.iinc 1 (-4), 3) := by decide +kernel
theorem d10_57 : decode jdk_33_method_47_code 57 = .ok (.iload_n 0, 1) := by decide +kernel
theorem d10_58 : decode jdk_33_method_47_code 58 = .ok (.iconst 4, 1) := by decide +kernel
theorem d10_59 : decode jdk_33_method_47_code 59 = .ok (.iushr, 1) := by decide +kernel
theorem d10_60 : decode jdk_33_method_47_code 60 = .ok (.istore_n 0, 1) := by decide +kernel
theorem d10_61 : decode jdk_33_method_47_code 61 = .ok (.iload_n 0, 1) := by decide +kernel
theorem d10_62 : decode jdk_33_method_47_code 62 = .ok (.iconst 4, 1) := by decide +kernel
theorem d10_63 : decode jdk_33_method_47_code 63 = .ok (.if_icmp .lt 10, 3) := by decide +kernel
theorem d10_66 : decode jdk_33_method_47_code 66 = .ok (.iinc 1 (-2), 3) := by decide +kernel
theorem d10_69 : decode jdk_33_method_47_code 69 = .ok (.iload_n 0, 1) := by decide +kernel
theorem d10_70 : decode jdk_33_method_47_code 70 = .ok (.iconst 2, 1) := by decide +kernel
theorem d10_71 : decode jdk_33_method_47_code 71 = .ok (.iushr, 1) := by decide +kernel
theorem d10_72 : decode jdk_33_method_47_code 72 = .ok (.istore_n 0, 1) := by decide +kernel
theorem d10_73 : decode jdk_33_method_47_code 73 = .ok (.iload_n 1, 1) := by decide +kernel
theorem d10_74 : decode jdk_33_method_47_code 74 = .ok (.iload_n 0, 1) := by decide +kernel
theorem d10_75 : decode jdk_33_method_47_code 75 = .ok (.iconst 1, 1) := by decide +kernel
theorem d10_76 : decode jdk_33_method_47_code 76 = .ok (.iushr, 1) := by decide +kernel
theorem d10_77 : decode jdk_33_method_47_code 77 = .ok (.isub, 1) := by decide +kernel
theorem d10_78 : decode jdk_33_method_47_code 78 = .ok (.ireturn, 1) := by decide +kernel
theorem pl10 : plainFor (⟨"java/lang/Integer", "numberOfLeadingZeros", "(I)I"⟩ : MethodName) = true := by first | exact plainFor_of_name (by first | (simp [plainName, overriddenIn]; done) | decide +kernel) | decide +kernel
def q10_1 (x0 : Int32) : Int32 := (if x0 < (65536 : Int32) then x0 else (XT.ushr x0 (16 : Int32)))
def q10_2 (x0 : Int32) : Int32 := (if x0 < (65536 : Int32) then (31 : Int32) else (15 : Int32))
def q10_3 (x0 : Int32) : Int32 := (if (q10_1 x0) < (256 : Int32) then (q10_1 x0) else (XT.ushr (q10_1 x0) (8 : Int32)))
def q10_4 (x0 : Int32) : Int32 := (if (q10_1 x0) < (256 : Int32) then (q10_2 x0) else ((q10_2 x0) + (-8 : Int32)))
def q10_5 (x0 : Int32) : Int32 := (if (q10_3 x0) < (16 : Int32) then (q10_3 x0) else (XT.ushr (q10_3 x0) (4 : Int32)))
def q10_6 (x0 : Int32) : Int32 := (if (q10_3 x0) < (16 : Int32) then (q10_4 x0) else ((q10_4 x0) + (-4 : Int32)))
def q10_7 (x0 : Int32) : Int32 := (if (q10_5 x0) < (4 : Int32) then (q10_5 x0) else (XT.ushr (q10_5 x0) (2 : Int32)))
def q10_8 (x0 : Int32) : Int32 := (if (q10_5 x0) < (4 : Int32) then (q10_6 x0) else ((q10_6 x0) + (-2 : Int32)))
def f10 (x0 : Int32) : Int32 := (if 0 < x0 then ((q10_8 x0) - (XT.ushr (q10_7 x0) (1 : Int32))) else (if x0 = 0 then (32 : Int32) else (0 : Int32)))
set_option maxRecDepth 65536 in
set_option maxHeartbeats 40000000 in
theorem rm10 (l : Launch) (Z : State) (a0 : Array Value) (hw : ∀ d ∈ tables_1, d.before a0 Z = true) (x0 : Int32) (h0 : Heap) :
    Met l Z (⟨"java/lang/Integer", "numberOfLeadingZeros", "(I)I"⟩ : MethodName) jdk_33_method_47_code 2 (some .int) ({ frames := 0, cells := 0, slots := 0, locals := 0 } : Room) #[(.int x0)] h0 (Pu (some (.int (f10 x0))) h0) := by
  refine enter pl10 #[vi x0, us] rfl ?_
  intro p e s m below meth c T B hret hlk hnm
  · refine o_iloadN B 0 1 (v := x0) d10_0 rfl rfl ?_
    by_cases k1 : 0 < x0
    · refine o_ifY B 1 15 d10_1 (XT.i0_gt_t k1) (by decide) (by decide) ?_
      refine o_bipush B 15 17 (31 : Int32) d10_15 rfl (by decide) ?_
      refine o_istoreN B 17 18 (l' := #[vi x0, vi 31]) d10_17 rfl rfl ?_
      refine o_iloadN B 18 19 (v := x0) d10_18 rfl rfl ?_
      refine o_ldc_w B 19 22 d10_19 rfl (hw _ (mi 51 rfl)) ?_
      have dm2 : ∀ {P : Outcome → State → Prop}, OG p.tables e below P (T.setTop (mkF m 33 #[vi (q10_1 x0), vi (q10_2 x0)] [])) → OG p.tables e below P (T.setTop (mkF m 22 #[vi x0, vi 31] [(.int (65536 : Int32)), (.int x0)])) := by
        intro P k
        by_cases k3 : x0 < (65536 : Int32)
        · refine o_icY B 22 33 d10_22 (XT.ii_lt_t k3) (by decide) (by decide) ?_
          have y0 : (q10_1 x0) = x0 := by simp only [q10_1, q10_2, if_pos k3]
          have y1 : (q10_2 x0) = (31 : Int32) := by simp only [q10_1, q10_2, if_pos k3]
          rw [y0, y1] at k
          exact k
        · refine o_icN B 22 25 d10_22 rfl (XT.ii_lt_f k3) ?_
          refine o_iincC B 25 28 (l' := #[vi x0, vi 15]) (-16 : Int32) (15 : Int32) d10_25 rfl (by decide) rfl (by decide) rfl ?_
          refine o_iloadN B 28 29 (v := x0) d10_28 rfl rfl ?_
          refine o_bipush B 29 31 (16 : Int32) d10_29 rfl (by decide) ?_
          refine o_iushr B 31 32 d10_31 rfl ?_
          refine o_istoreN B 32 33 (l' := #[vi (XT.ushr x0 (16 : Int32)), vi 15]) d10_32 rfl rfl ?_
          have y0 : (q10_1 x0) = (XT.ushr x0 (16 : Int32)) := by simp only [q10_1, q10_2, if_neg k3]
          have y1 : (q10_2 x0) = (15 : Int32) := by simp only [q10_1, q10_2, if_neg k3]
          rw [y0, y1] at k
          exact k
      refine dm2 ?_
      refine o_iloadN B 33 34 (v := (q10_1 x0)) d10_33 rfl rfl ?_
      refine o_sipush B 34 37 (256 : Int32) d10_34 rfl (by decide) ?_
      have dm4 : ∀ {P : Outcome → State → Prop}, OG p.tables e below P (T.setTop (mkF m 48 #[vi (q10_3 x0), vi (q10_4 x0)] [])) → OG p.tables e below P (T.setTop (mkF m 37 #[vi (q10_1 x0), vi (q10_2 x0)] [(.int (256 : Int32)), (.int (q10_1 x0))])) := by
        intro P k
        by_cases k5 : (q10_1 x0) < (256 : Int32)
        · refine o_icY B 37 48 d10_37 (XT.ii_lt_t k5) (by decide) (by decide) ?_
          have y0 : (q10_3 x0) = (q10_1 x0) := by simp only [q10_3, q10_4, if_pos k5]
          have y1 : (q10_4 x0) = (q10_2 x0) := by simp only [q10_3, q10_4, if_pos k5]
          rw [y0, y1] at k
          exact k
        · refine o_icN B 37 40 d10_37 rfl (XT.ii_lt_f k5) ?_
          refine o_iinc B 40 43 (l' := #[vi (q10_1 x0), vi ((q10_2 x0) + (-8 : Int32))]) (-8 : Int32) d10_40 rfl (by decide) rfl rfl ?_
          refine o_iloadN B 43 44 (v := (q10_1 x0)) d10_43 rfl rfl ?_
          refine o_bipush B 44 46 (8 : Int32) d10_44 rfl (by decide) ?_
          refine o_iushr B 46 47 d10_46 rfl ?_
          refine o_istoreN B 47 48 (l' := #[vi (XT.ushr (q10_1 x0) (8 : Int32)), vi ((q10_2 x0) + (-8 : Int32))]) d10_47 rfl rfl ?_
          have y0 : (q10_3 x0) = (XT.ushr (q10_1 x0) (8 : Int32)) := by simp only [q10_3, q10_4, if_neg k5]
          have y1 : (q10_4 x0) = ((q10_2 x0) + (-8 : Int32)) := by simp only [q10_3, q10_4, if_neg k5]
          rw [y0, y1] at k
          exact k
      refine dm4 ?_
      refine o_iloadN B 48 49 (v := (q10_3 x0)) d10_48 rfl rfl ?_
      refine o_bipush B 49 51 (16 : Int32) d10_49 rfl (by decide) ?_
      have dm6 : ∀ {P : Outcome → State → Prop}, OG p.tables e below P (T.setTop (mkF m 61 #[vi (q10_5 x0), vi (q10_6 x0)] [])) → OG p.tables e below P (T.setTop (mkF m 51 #[vi (q10_3 x0), vi (q10_4 x0)] [(.int (16 : Int32)), (.int (q10_3 x0))])) := by
        intro P k
        by_cases k7 : (q10_3 x0) < (16 : Int32)
        · refine o_icY B 51 61 d10_51 (XT.ii_lt_t k7) (by decide) (by decide) ?_
          have y0 : (q10_5 x0) = (q10_3 x0) := by simp only [q10_5, q10_6, if_pos k7]
          have y1 : (q10_6 x0) = (q10_4 x0) := by simp only [q10_5, q10_6, if_pos k7]
          rw [y0, y1] at k
          exact k
        · refine o_icN B 51 54 d10_51 rfl (XT.ii_lt_f k7) ?_
          refine o_iinc B 54 57 (l' := #[vi (q10_3 x0), vi ((q10_4 x0) + (-4 : Int32))]) (-4 : Int32) d10_54 rfl (by decide) rfl rfl ?_
          refine o_iloadN B 57 58 (v := (q10_3 x0)) d10_57 rfl rfl ?_
          refine o_iconst B 58 59 (4 : Int32) d10_58 rfl (by decide) ?_
          refine o_iushr B 59 60 d10_59 rfl ?_
          refine o_istoreN B 60 61 (l' := #[vi (XT.ushr (q10_3 x0) (4 : Int32)), vi ((q10_4 x0) + (-4 : Int32))]) d10_60 rfl rfl ?_
          have y0 : (q10_5 x0) = (XT.ushr (q10_3 x0) (4 : Int32)) := by simp only [q10_5, q10_6, if_neg k7]
          have y1 : (q10_6 x0) = ((q10_4 x0) + (-4 : Int32)) := by simp only [q10_5, q10_6, if_neg k7]
          rw [y0, y1] at k
          exact k
      refine dm6 ?_
      refine o_iloadN B 61 62 (v := (q10_5 x0)) d10_61 rfl rfl ?_
      refine o_iconst B 62 63 (4 : Int32) d10_62 rfl (by decide) ?_
      have dm8 : ∀ {P : Outcome → State → Prop}, OG p.tables e below P (T.setTop (mkF m 73 #[vi (q10_7 x0), vi (q10_8 x0)] [])) → OG p.tables e below P (T.setTop (mkF m 63 #[vi (q10_5 x0), vi (q10_6 x0)] [(.int (4 : Int32)), (.int (q10_5 x0))])) := by
        intro P k
        by_cases k9 : (q10_5 x0) < (4 : Int32)
        · refine o_icY B 63 73 d10_63 (XT.ii_lt_t k9) (by decide) (by decide) ?_
          have y0 : (q10_7 x0) = (q10_5 x0) := by simp only [q10_7, q10_8, if_pos k9]
          have y1 : (q10_8 x0) = (q10_6 x0) := by simp only [q10_7, q10_8, if_pos k9]
          rw [y0, y1] at k
          exact k
        · refine o_icN B 63 66 d10_63 rfl (XT.ii_lt_f k9) ?_
          refine o_iinc B 66 69 (l' := #[vi (q10_5 x0), vi ((q10_6 x0) + (-2 : Int32))]) (-2 : Int32) d10_66 rfl (by decide) rfl rfl ?_
          refine o_iloadN B 69 70 (v := (q10_5 x0)) d10_69 rfl rfl ?_
          refine o_iconst B 70 71 (2 : Int32) d10_70 rfl (by decide) ?_
          refine o_iushr B 71 72 d10_71 rfl ?_
          refine o_istoreN B 72 73 (l' := #[vi (XT.ushr (q10_5 x0) (2 : Int32)), vi ((q10_6 x0) + (-2 : Int32))]) d10_72 rfl rfl ?_
          have y0 : (q10_7 x0) = (XT.ushr (q10_5 x0) (2 : Int32)) := by simp only [q10_7, q10_8, if_neg k9]
          have y1 : (q10_8 x0) = ((q10_6 x0) + (-2 : Int32)) := by simp only [q10_7, q10_8, if_neg k9]
          rw [y0, y1] at k
          exact k
      refine dm8 ?_
      refine o_iloadN B 73 74 (v := (q10_8 x0)) d10_73 rfl rfl ?_
      refine o_iloadN B 74 75 (v := (q10_7 x0)) d10_74 rfl rfl ?_
      refine o_iconst B 75 76 (1 : Int32) d10_75 rfl (by decide) ?_
      refine o_iushr B 76 77 d10_76 rfl ?_
      refine o_isub B 77 78 d10_77 rfl ?_
      refine o_retI B 78 d10_78 hret hlk (by decide) (by decide) ⟨(congrArg (fun z => some (Value.int z)) (show f10 x0 = ((q10_8 x0) - (XT.ushr (q10_7 x0) (1 : Int32))) from (if_pos k1).trans (rfl))).symm, rfl, rfl⟩
    · refine o_ifN B 1 4 d10_1 rfl (XT.i0_gt_f k1) ?_
      refine o_iloadN B 4 5 (v := x0) d10_4 rfl rfl ?_
      by_cases k10 : x0 = 0
      · refine o_ifN B 5 8 d10_5 rfl (XT.i0_ne_f k10) ?_
        refine o_bipush B 8 10 (32 : Int32) d10_8 rfl (by decide) ?_
        refine o_goto B 10 14 d10_10 (by decide) (by decide) ?_
        refine o_retI B 14 d10_14 hret hlk (by decide) (by decide) ⟨(congrArg (fun z => some (Value.int z)) (show f10 x0 = (32 : Int32) from (if_neg k1).trans ((if_pos k10).trans (rfl)))).symm, rfl, rfl⟩
      · refine o_ifY B 5 13 d10_5 (XT.i0_ne_t k10) (by decide) (by decide) ?_
        refine o_iconst B 13 14 (0 : Int32) d10_13 rfl (by decide) ?_
        refine o_retI B 14 d10_14 hret hlk (by decide) (by decide) ⟨(congrArg (fun z => some (Value.int z)) (show f10 x0 = (0 : Int32) from (if_neg k1).trans ((if_neg k10).trans (rfl)))).symm, rfl, rfl⟩
theorem d9_0 : decode jdk_35_method_48_code 0 = .ok (.lload_n 0, 1) := by decide +kernel
theorem d9_1 : decode jdk_35_method_48_code 1 = .ok (.bipush 32, 2) := by decide +kernel
theorem d9_3 : decode jdk_35_method_48_code 3 = .ok (.lushr, 1) := by decide +kernel
theorem d9_4 : decode jdk_35_method_48_code 4 = .ok (.l2i, 1) := by decide +kernel
theorem d9_5 : decode jdk_35_method_48_code 5 = .ok (.istore_n 2, 1) := by decide +kernel
theorem d9_6 : decode jdk_35_method_48_code 6 = .ok (.iload_n 2, 1) := by decide +kernel
theorem d9_7 : decode jdk_35_method_48_code 7 = .ok (.ifCond .ne 14, 3) := by decide +kernel
theorem d9_10 : decode jdk_35_method_48_code 10 = .ok (.bipush 32, 2) := by decide +kernel
theorem d9_12 : decode jdk_35_method_48_code 12 = .ok (.lload_n 0, 1) := by decide +kernel
theorem d9_13 : decode jdk_35_method_48_code 13 = .ok (.l2i, 1) := by decide +kernel
theorem d9_14 : decode jdk_35_method_48_code 14 = .ok (.invokestatic 308, 3) := by decide +kernel
theorem d9_17 : decode jdk_35_method_48_code 17 = .ok (.iadd, 1) := by decide +kernel
theorem d9_18 : decode jdk_35_method_48_code 18 = .ok (.goto 7, 3) := by decide +kernel
theorem d9_21 : decode jdk_35_method_48_code 21 = .ok (.iload_n 2, 1) := by decide +kernel
theorem d9_22 : decode jdk_35_method_48_code 22 = .ok (.invokestatic 308, 3) := by decide +kernel
theorem d9_25 : decode jdk_35_method_48_code 25 = .ok (.ireturn, 1) := by decide +kernel
theorem pl9 : plainFor (⟨"java/lang/Long", "numberOfLeadingZeros", "(J)I"⟩ : MethodName) = true := by first | exact plainFor_of_name (by first | (simp [plainName, overriddenIn]; done) | decide +kernel) | decide +kernel
theorem pd__I_I : parseMethodDescriptor "(I)I" = some ⟨[.int], some .int⟩ := by decide +kernel
def f9 (x0 : Int64) : Int32 := (if (XT.ushrL x0 (32 : Int32)).toInt32 = 0 then ((32 : Int32) + (f10 x0.toInt32)) else (f10 (XT.ushrL x0 (32 : Int32)).toInt32))
set_option maxRecDepth 65536 in
set_option maxHeartbeats 40000000 in
theorem rm9 (l : Launch) (Z : State) (a0 : Array Value) (hw : ∀ d ∈ tables_1, d.before a0 Z = true) (x0 : Int64) (h0 : Heap) :
    Met l Z (⟨"java/lang/Long", "numberOfLeadingZeros", "(J)I"⟩ : MethodName) jdk_35_method_48_code 3 (some .int) ({ frames := 1, cells := 0, slots := 0, locals := 14 } : Room) #[(.long x0)] h0 (Pu (some (.int (f9 x0))) h0) := by
  refine enter pl9 #[vj x0, s2, us] rfl ?_
  intro p e s m below meth c T B hret hlk hnm
  · refine o_lloadN B 0 1 (v := x0) d9_0 rfl rfl ?_
    refine o_bipush B 1 3 (32 : Int32) d9_1 rfl (by decide) ?_
    refine o_lushr B 3 4 d9_3 rfl ?_
    refine o_l2i B 4 5 d9_4 rfl ?_
    refine o_istoreN B 5 6 (l' := #[vj x0, s2, vi (XT.ushrL x0 (32 : Int32)).toInt32]) d9_5 rfl rfl ?_
    refine o_iloadN B 6 7 (v := (XT.ushrL x0 (32 : Int32)).toInt32) d9_6 rfl rfl ?_
    by_cases k1 : (XT.ushrL x0 (32 : Int32)).toInt32 = 0
    · refine o_ifN B 7 10 d9_7 rfl (XT.i0_ne_f k1) ?_
      refine o_bipush B 10 12 (32 : Int32) d9_10 rfl (by decide) ?_
      refine o_lloadN B 12 13 (v := x0) d9_12 rfl rfl ?_
      refine o_l2i B 13 14 d9_13 rfl ?_
      obtain ⟨T1, B1, c1⟩ := o_callP B 14 17 d9_14 rfl (hw _ (mi 47 rfl)) (hw _ (mi 48 rfl)) (hw _ (mi 49 rfl)) (hw _ (mi 50 rfl)) (by decide) (rm10 l Z a0 hw x0.toInt32 h0 ) 1 [(.int x0.toInt32)] [(.int (32 : Int32))] pd__I_I rfl rfl (st := [(.int x0.toInt32), (.int (32 : Int32))]) rfl (Ls := #[vj x0, s2, vi (XT.ushrL x0 (32 : Int32)).toInt32]) rfl (Nat.le_of_eq rfl) (by decide) (by decide) (by decide) (by decide)
      refine c1 ?_
      refine o_iadd B1 17 18 d9_17 rfl ?_
      refine o_goto B1 18 25 d9_18 (by decide) (by decide) ?_
      refine o_retI B1 25 d9_25 hret hlk (by decide) (by decide) ⟨(congrArg (fun z => some (Value.int z)) (show f9 x0 = ((32 : Int32) + (f10 x0.toInt32)) from (if_pos k1).trans (rfl))).symm, rfl, rfl⟩
    · refine o_ifY B 7 21 d9_7 (XT.i0_ne_t k1) (by decide) (by decide) ?_
      refine o_iloadN B 21 22 (v := (XT.ushrL x0 (32 : Int32)).toInt32) d9_21 rfl rfl ?_
      obtain ⟨T2, B2, c2⟩ := o_callP B 22 25 d9_22 rfl (hw _ (mi 47 rfl)) (hw _ (mi 48 rfl)) (hw _ (mi 49 rfl)) (hw _ (mi 50 rfl)) (by decide) (rm10 l Z a0 hw (XT.ushrL x0 (32 : Int32)).toInt32 h0 ) 0 [(.int (XT.ushrL x0 (32 : Int32)).toInt32)] [] pd__I_I rfl rfl (st := [(.int (XT.ushrL x0 (32 : Int32)).toInt32)]) rfl (Ls := #[vj x0, s2, vi (XT.ushrL x0 (32 : Int32)).toInt32]) rfl (Nat.le_of_eq rfl) (by decide) (by decide) (by decide) (by decide)
      refine c2 ?_
      refine o_retI B2 25 d9_25 hret hlk (by decide) (by decide) ⟨(congrArg (fun z => some (Value.int z)) (show f9 x0 = (f10 (XT.ushrL x0 (32 : Int32)).toInt32) from (if_neg k1).trans (rfl))).symm, rfl, rfl⟩
theorem d8_0 : decode prog_17_method_2_code 0 = .ok (.bipush 64, 2) := by decide +kernel
theorem d8_2 : decode prog_17_method_2_code 2 = .ok (.lload_n 0, 1) := by decide +kernel
theorem d8_3 : decode prog_17_method_2_code 3 = .ok (.invokestatic 9, 3) := by decide +kernel
theorem d8_6 : decode prog_17_method_2_code 6 = .ok (.isub, 1) := by decide +kernel
theorem d8_7 : decode prog_17_method_2_code 7 = .ok (.ireturn, 1) := by decide +kernel
theorem pl8 : plainFor (⟨"com/example/micro_ranker/microranker/engine/Bits", "width", "(J)I"⟩ : MethodName) = true := by first | exact plainFor_of_name (by first | (simp [plainName, overriddenIn]; done) | decide +kernel) | decide +kernel
theorem pd__J_I : parseMethodDescriptor "(J)I" = some ⟨[.long], some .int⟩ := by decide +kernel
def f8 (x0 : Int64) : Int32 := ((64 : Int32) - (f9 x0))
set_option maxRecDepth 65536 in
set_option maxHeartbeats 40000000 in
theorem rm8 (l : Launch) (Z : State) (a0 : Array Value) (hw : ∀ d ∈ tables_1, d.before a0 Z = true) (x0 : Int64) (h0 : Heap) :
    Met l Z (⟨"com/example/micro_ranker/microranker/engine/Bits", "width", "(J)I"⟩ : MethodName) prog_17_method_2_code 2 (some .int) ({ frames := 2, cells := 0, slots := 0, locals := 29 } : Room) #[(.long x0)] h0 (Pu (some (.int (f8 x0))) h0) := by
  refine enter pl8 #[vj x0, s2] rfl ?_
  intro p e s m below meth c T B hret hlk hnm
  · refine o_bipush B 0 2 (64 : Int32) d8_0 rfl (by decide) ?_
    refine o_lloadN B 2 3 (v := x0) d8_2 rfl rfl ?_
    obtain ⟨T1, B1, c1⟩ := o_callP B 3 6 d8_3 rfl (hw _ (mi 43 rfl)) (hw _ (mi 44 rfl)) (hw _ (mi 45 rfl)) (hw _ (mi 46 rfl)) (by decide) (rm9 l Z a0 hw x0 h0 ) 1 [(.long x0)] [(.int (64 : Int32))] pd__J_I rfl rfl (st := [(.long x0), (.int (64 : Int32))]) rfl (Ls := #[vj x0, s2]) rfl (Nat.le_of_eq rfl) (by decide) (by decide) (by decide) (by decide)
    refine c1 ?_
    refine o_isub B1 6 7 d8_6 rfl ?_
    refine o_retI B1 7 d8_7 hret hlk (by decide) (by decide) ⟨(congrArg (fun z => some (Value.int z)) (show f8 x0 = ((64 : Int32) - (f9 x0)) from rfl)).symm, rfl, rfl⟩
theorem d18_0 : decode prog_18_method_18_code 0 = .ok (.iload_n 0, 1) := by decide +kernel
theorem d18_1 : decode prog_18_method_18_code 1 = .ok (.i2l, 1) := by decide +kernel
theorem d18_2 : decode prog_18_method_18_code 2 = .ok (.invokestatic 17, 3) := by decide +kernel
theorem d18_5 : decode prog_18_method_18_code 5 = .ok (.iload_n 1, 1) := by decide +kernel
theorem d18_6 : decode prog_18_method_18_code 6 = .ok (.i2l, 1) := by decide +kernel
theorem d18_7 : decode prog_18_method_18_code 7 = .ok (.invokestatic 17, 3) := by decide +kernel
theorem d18_10 : decode prog_18_method_18_code 10 = .ok (.isub, 1) := by decide +kernel
theorem d18_11 : decode prog_18_method_18_code 11 = .ok (.istore_n 2, 1) := by decide +kernel
theorem d18_12 : decode prog_18_method_18_code 12 = .ok (.iload_n 1, 1) := by decide +kernel
theorem d18_13 : decode prog_18_method_18_code 13 = .ok (.i2l, 1) := by decide +kernel
theorem d18_14 : decode prog_18_method_18_code 14 = .ok (.iload_n 2, 1) := by decide +kernel
theorem d18_15 : decode prog_18_method_18_code 15 = .ok (.lshl, 1) := by decide +kernel
theorem d18_16 : decode prog_18_method_18_code 16 = .ok (.iload_n 0, 1) := by decide +kernel
theorem d18_17 : decode prog_18_method_18_code 17 = .ok (.i2l, 1) := by decide +kernel
theorem d18_18 : decode prog_18_method_18_code 18 = .ok (.lcmp, 1) := by decide +kernel
theorem d18_19 : decode prog_18_method_18_code 19 = .ok (.ifCond .le 9, 3) := by decide +kernel
theorem d18_22 : decode prog_18_method_18_code 22 = .ok (.iload_n 2, 1) := by decide +kernel
theorem d18_23 : decode prog_18_method_18_code 23 = .ok (.iconst 1, 1) := by decide +kernel
theorem d18_24 : decode prog_18_method_18_code 24 = .ok (.isub, 1) := by decide +kernel
theorem d18_25 : decode prog_18_method_18_code 25 = .ok (.goto 4, 3) := by decide +kernel
theorem d18_28 : decode prog_18_method_18_code 28 = .ok (.iload_n 2, 1) := by decide +kernel
theorem d18_29 : decode prog_18_method_18_code 29 = .ok (.ireturn, 1) := by decide +kernel
theorem pl18 : plainFor (⟨"com/example/micro_ranker/microranker/engine/Block", "lowWidth", "(II)I"⟩ : MethodName) = true := by first | exact plainFor_of_name (by first | (simp [plainName, overriddenIn]; done) | decide +kernel) | decide +kernel
def f18 (x0 x1 : Int32) : Int32 := (if x0.toInt64 < (x1.toInt64 <<< (((f8 x0.toInt64) - (f8 x1.toInt64)).toInt64 &&& 63)) then (((f8 x0.toInt64) - (f8 x1.toInt64)) - (1 : Int32)) else ((f8 x0.toInt64) - (f8 x1.toInt64)))
set_option maxRecDepth 65536 in
set_option maxHeartbeats 40000000 in
theorem rm18 (l : Launch) (Z : State) (a0 : Array Value) (hw : ∀ d ∈ tables_1, d.before a0 Z = true) (x0 : Int32) (x1 : Int32) (h0 : Heap) :
    Met l Z (⟨"com/example/micro_ranker/microranker/engine/Block", "lowWidth", "(II)I"⟩ : MethodName) prog_18_method_18_code 3 (some .int) ({ frames := 3, cells := 0, slots := 0, locals := 43 } : Room) #[(.int x0), (.int x1)] h0 (Pu (some (.int (f18 x0 x1))) h0) := by
  refine enter pl18 #[vi x0, vi x1, us] rfl ?_
  intro p e s m below meth c T B hret hlk hnm
  · refine o_iloadN B 0 1 (v := x0) d18_0 rfl rfl ?_
    refine o_i2l B 1 2 d18_1 rfl ?_
    obtain ⟨T1, B1, c1⟩ := o_callP B 2 5 d18_2 rfl (hw _ (mi 39 rfl)) (hw _ (mi 40 rfl)) (hw _ (mi 41 rfl)) (hw _ (mi 42 rfl)) (by decide) (rm8 l Z a0 hw x0.toInt64 h0 ) 0 [(.long x0.toInt64)] [] pd__J_I rfl rfl (st := [(.long x0.toInt64)]) rfl (Ls := #[vi x0, vi x1, us]) rfl (Nat.le_of_eq rfl) (by decide) (by decide) (by decide) (by decide)
    refine c1 ?_
    refine o_iloadN B1 5 6 (v := x1) d18_5 rfl rfl ?_
    refine o_i2l B1 6 7 d18_6 rfl ?_
    obtain ⟨T2, B2, c2⟩ := o_callP B1 7 10 d18_7 rfl (hw _ (mi 39 rfl)) (hw _ (mi 40 rfl)) (hw _ (mi 41 rfl)) (hw _ (mi 42 rfl)) (by decide) (rm8 l Z a0 hw x1.toInt64 h0 ) 1 [(.long x1.toInt64)] [(.int (f8 x0.toInt64))] pd__J_I rfl rfl (st := [(.long x1.toInt64), (.int (f8 x0.toInt64))]) rfl (Ls := #[vi x0, vi x1, us]) rfl (Nat.le_of_eq rfl) (by decide) (by decide) (by decide) (by decide)
    refine c2 ?_
    refine o_isub B2 10 11 d18_10 rfl ?_
    refine o_istoreN B2 11 12 (l' := #[vi x0, vi x1, vi ((f8 x0.toInt64) - (f8 x1.toInt64))]) d18_11 rfl rfl ?_
    refine o_iloadN B2 12 13 (v := x1) d18_12 rfl rfl ?_
    refine o_i2l B2 13 14 d18_13 rfl ?_
    refine o_iloadN B2 14 15 (v := ((f8 x0.toInt64) - (f8 x1.toInt64))) d18_14 rfl rfl ?_
    refine o_lshl B2 15 16 d18_15 rfl ?_
    refine o_iloadN B2 16 17 (v := x0) d18_16 rfl rfl ?_
    refine o_i2l B2 17 18 d18_17 rfl ?_
    refine o_lcmp B2 18 19 d18_18 rfl ?_
    by_cases k1 : x0.toInt64 < (x1.toInt64 <<< (((f8 x0.toInt64) - (f8 x1.toInt64)).toInt64 &&& 63))
    · refine o_ifN B2 19 22 d18_19 rfl (XT.ll_le_f k1) ?_
      refine o_iloadN B2 22 23 (v := ((f8 x0.toInt64) - (f8 x1.toInt64))) d18_22 rfl rfl ?_
      refine o_iconst B2 23 24 (1 : Int32) d18_23 rfl (by decide) ?_
      refine o_isub B2 24 25 d18_24 rfl ?_
      refine o_goto B2 25 29 d18_25 (by decide) (by decide) ?_
      refine o_retI B2 29 d18_29 hret hlk (by decide) (by decide) ⟨(congrArg (fun z => some (Value.int z)) (show f18 x0 x1 = (((f8 x0.toInt64) - (f8 x1.toInt64)) - (1 : Int32)) from (if_pos k1).trans (rfl))).symm, rfl, rfl⟩
    · refine o_ifY B2 19 28 d18_19 (XT.ll_le_t k1) (by decide) (by decide) ?_
      refine o_iloadN B2 28 29 (v := ((f8 x0.toInt64) - (f8 x1.toInt64))) d18_28 rfl rfl ?_
      refine o_retI B2 29 d18_29 hret hlk (by decide) (by decide) ⟨(congrArg (fun z => some (Value.int z)) (show f18 x0 x1 = ((f8 x0.toInt64) - (f8 x1.toInt64)) from (if_neg k1).trans (rfl))).symm, rfl, rfl⟩
theorem own_ul (x : Int64) (q : Int32) (k : Nat) (hq : q.toInt = k) (hk : 0 < k ∧ k < 64) : (XT.ushrL x q).toInt = (x.toInt % 18446744073709551616) / (2 ^ k : Nat) := by
  have e : q.toBitVec.toNat % 64 = k := by
    have h : q.toBitVec.toInt = k := hq
    rw [BitVec.toInt_eq_toNat_cond] at h
    split at h <;> omega
  have c := c_lushr x q k e hk.1
  have s : XT.ushrL x q = (x.toUInt64 >>> (q &&& 0x3f).toInt64.toUInt64).toInt64 := by
    have : (q &&& 0x3f).toInt64 = q.toInt64 &&& 63 := by
      apply Int64.toInt_inj.mp
      rw [c_i2l, c_mask q 63 6 (by decide) (by decide), c_maskL q.toInt64 63 6 (by decide) (by decide), c_i2l]
    rw [this]
    rfl
  rw [s]
  exact c
theorem own_us (x : Int32) (q : Int32) (k : Nat) (hq : q.toBitVec.toNat % 32 = k) (hk : 0 < k) (h0 : 0 ≤ x.toInt) : (XT.ushr x q).toInt = x.toInt / (2 ^ k : Nat) := by
  have c := c_iushr x q k hq hk
  have r := rng32 x
  have e : x.toInt % 4294967296 = x.toInt := Int.emod_eq_of_lt h0 (by omega)
  rw [e] at c
  exact c
theorem own_lg (x : Int32) (h : 0 < x.toInt) : ∃ k : Nat, k ≤ 30 ∧ (2 ^ k : Nat) ≤ x.toInt ∧ x.toInt < (2 ^ (k + 1) : Nat) ∧ (f10 x).toInt = 31 - k := by
  have r := rng32 x
  have hx : 0 < x := by rw [Int32.lt_iff_toInt_lt, Int32.toInt_zero]; exact h
  by_cases c0 : x < 65536
  · have e0 : q10_1 x = x := if_pos c0
    have n0 : q10_2 x = 31 := if_pos c0
    rw [Int32.lt_iff_toInt_lt, show (65536 : Int32).toInt = 65536 by decide] at c0
    have t0 : (q10_1 x).toInt = (x).toInt := by rw [e0]
    have m0 : (q10_2 x).toInt = 31 := by rw [n0]; decide
    by_cases c1 : (q10_1 x) < 256
    · have e1 : q10_3 x = q10_1 x := if_pos c1
      have n1 : q10_4 x = q10_2 x := if_pos c1
      rw [Int32.lt_iff_toInt_lt, show (256 : Int32).toInt = 256 by decide] at c1
      have t1 : (q10_3 x).toInt = (q10_1 x).toInt := by rw [e1]
      have m1 : (q10_4 x).toInt = (q10_2 x).toInt := by rw [n1]
      by_cases c2 : (q10_3 x) < 16
      · have e2 : q10_5 x = q10_3 x := if_pos c2
        have n2 : q10_6 x = q10_4 x := if_pos c2
        rw [Int32.lt_iff_toInt_lt, show (16 : Int32).toInt = 16 by decide] at c2
        have t2 : (q10_5 x).toInt = (q10_3 x).toInt := by rw [e2]
        have m2 : (q10_6 x).toInt = (q10_4 x).toInt := by rw [n2]
        by_cases c3 : (q10_5 x) < 4
        · have e3 : q10_7 x = q10_5 x := if_pos c3
          have n3 : q10_8 x = q10_6 x := if_pos c3
          rw [Int32.lt_iff_toInt_lt, show (4 : Int32).toInt = 4 by decide] at c3
          have t3 : (q10_7 x).toInt = (q10_5 x).toInt := by rw [e3]
          have m3 : (q10_8 x).toInt = (q10_6 x).toInt := by rw [n3]
          have e := own_us (q10_7 x) 1 1 (by decide) (by decide) (by omega)
          have a := c_isub (q10_8 x) (XT.ushr (q10_7 x) 1)
          have ra := rng32 (q10_8 x - XT.ushr (q10_7 x) 1)
          have ef : f10 x = q10_8 x - XT.ushr (q10_7 x) 1 := if_pos hx
          rw [ef]
          by_cases z : (q10_7 x).toInt = 1
          · exact ⟨0, by decide, by omega, by omega, by omega⟩
          · exact ⟨1, by decide, by omega, by omega, by omega⟩
        · have e3 : q10_7 x = XT.ushr (q10_5 x) 2 := if_neg c3
          have n3 : q10_8 x = q10_6 x + (-2) := if_neg c3
          rw [Int32.lt_iff_toInt_lt, show (4 : Int32).toInt = 4 by decide] at c3
          have t3 := own_us (q10_5 x) 2 2 (by decide) (by decide) (by omega)
          rw [← e3] at t3
          have m3 := c_iadd (q10_6 x) (-2)
          have w3 := rng32 (q10_6 x + (-2))
          rw [show (-2 : Int32).toInt = -2 by decide, ← n3] at m3
          rw [← n3] at w3
          have e := own_us (q10_7 x) 1 1 (by decide) (by decide) (by omega)
          have a := c_isub (q10_8 x) (XT.ushr (q10_7 x) 1)
          have ra := rng32 (q10_8 x - XT.ushr (q10_7 x) 1)
          have ef : f10 x = q10_8 x - XT.ushr (q10_7 x) 1 := if_pos hx
          rw [ef]
          by_cases z : (q10_7 x).toInt = 1
          · exact ⟨2, by decide, by omega, by omega, by omega⟩
          · exact ⟨3, by decide, by omega, by omega, by omega⟩
      · have e2 : q10_5 x = XT.ushr (q10_3 x) 4 := if_neg c2
        have n2 : q10_6 x = q10_4 x + (-4) := if_neg c2
        rw [Int32.lt_iff_toInt_lt, show (16 : Int32).toInt = 16 by decide] at c2
        have t2 := own_us (q10_3 x) 4 4 (by decide) (by decide) (by omega)
        rw [← e2] at t2
        have m2 := c_iadd (q10_4 x) (-4)
        have w2 := rng32 (q10_4 x + (-4))
        rw [show (-4 : Int32).toInt = -4 by decide, ← n2] at m2
        rw [← n2] at w2
        by_cases c3 : (q10_5 x) < 4
        · have e3 : q10_7 x = q10_5 x := if_pos c3
          have n3 : q10_8 x = q10_6 x := if_pos c3
          rw [Int32.lt_iff_toInt_lt, show (4 : Int32).toInt = 4 by decide] at c3
          have t3 : (q10_7 x).toInt = (q10_5 x).toInt := by rw [e3]
          have m3 : (q10_8 x).toInt = (q10_6 x).toInt := by rw [n3]
          have e := own_us (q10_7 x) 1 1 (by decide) (by decide) (by omega)
          have a := c_isub (q10_8 x) (XT.ushr (q10_7 x) 1)
          have ra := rng32 (q10_8 x - XT.ushr (q10_7 x) 1)
          have ef : f10 x = q10_8 x - XT.ushr (q10_7 x) 1 := if_pos hx
          rw [ef]
          by_cases z : (q10_7 x).toInt = 1
          · exact ⟨4, by decide, by omega, by omega, by omega⟩
          · exact ⟨5, by decide, by omega, by omega, by omega⟩
        · have e3 : q10_7 x = XT.ushr (q10_5 x) 2 := if_neg c3
          have n3 : q10_8 x = q10_6 x + (-2) := if_neg c3
          rw [Int32.lt_iff_toInt_lt, show (4 : Int32).toInt = 4 by decide] at c3
          have t3 := own_us (q10_5 x) 2 2 (by decide) (by decide) (by omega)
          rw [← e3] at t3
          have m3 := c_iadd (q10_6 x) (-2)
          have w3 := rng32 (q10_6 x + (-2))
          rw [show (-2 : Int32).toInt = -2 by decide, ← n3] at m3
          rw [← n3] at w3
          have e := own_us (q10_7 x) 1 1 (by decide) (by decide) (by omega)
          have a := c_isub (q10_8 x) (XT.ushr (q10_7 x) 1)
          have ra := rng32 (q10_8 x - XT.ushr (q10_7 x) 1)
          have ef : f10 x = q10_8 x - XT.ushr (q10_7 x) 1 := if_pos hx
          rw [ef]
          by_cases z : (q10_7 x).toInt = 1
          · exact ⟨6, by decide, by omega, by omega, by omega⟩
          · exact ⟨7, by decide, by omega, by omega, by omega⟩
    · have e1 : q10_3 x = XT.ushr (q10_1 x) 8 := if_neg c1
      have n1 : q10_4 x = q10_2 x + (-8) := if_neg c1
      rw [Int32.lt_iff_toInt_lt, show (256 : Int32).toInt = 256 by decide] at c1
      have t1 := own_us (q10_1 x) 8 8 (by decide) (by decide) (by omega)
      rw [← e1] at t1
      have m1 := c_iadd (q10_2 x) (-8)
      have w1 := rng32 (q10_2 x + (-8))
      rw [show (-8 : Int32).toInt = -8 by decide, ← n1] at m1
      rw [← n1] at w1
      by_cases c2 : (q10_3 x) < 16
      · have e2 : q10_5 x = q10_3 x := if_pos c2
        have n2 : q10_6 x = q10_4 x := if_pos c2
        rw [Int32.lt_iff_toInt_lt, show (16 : Int32).toInt = 16 by decide] at c2
        have t2 : (q10_5 x).toInt = (q10_3 x).toInt := by rw [e2]
        have m2 : (q10_6 x).toInt = (q10_4 x).toInt := by rw [n2]
        by_cases c3 : (q10_5 x) < 4
        · have e3 : q10_7 x = q10_5 x := if_pos c3
          have n3 : q10_8 x = q10_6 x := if_pos c3
          rw [Int32.lt_iff_toInt_lt, show (4 : Int32).toInt = 4 by decide] at c3
          have t3 : (q10_7 x).toInt = (q10_5 x).toInt := by rw [e3]
          have m3 : (q10_8 x).toInt = (q10_6 x).toInt := by rw [n3]
          have e := own_us (q10_7 x) 1 1 (by decide) (by decide) (by omega)
          have a := c_isub (q10_8 x) (XT.ushr (q10_7 x) 1)
          have ra := rng32 (q10_8 x - XT.ushr (q10_7 x) 1)
          have ef : f10 x = q10_8 x - XT.ushr (q10_7 x) 1 := if_pos hx
          rw [ef]
          by_cases z : (q10_7 x).toInt = 1
          · exact ⟨8, by decide, by omega, by omega, by omega⟩
          · exact ⟨9, by decide, by omega, by omega, by omega⟩
        · have e3 : q10_7 x = XT.ushr (q10_5 x) 2 := if_neg c3
          have n3 : q10_8 x = q10_6 x + (-2) := if_neg c3
          rw [Int32.lt_iff_toInt_lt, show (4 : Int32).toInt = 4 by decide] at c3
          have t3 := own_us (q10_5 x) 2 2 (by decide) (by decide) (by omega)
          rw [← e3] at t3
          have m3 := c_iadd (q10_6 x) (-2)
          have w3 := rng32 (q10_6 x + (-2))
          rw [show (-2 : Int32).toInt = -2 by decide, ← n3] at m3
          rw [← n3] at w3
          have e := own_us (q10_7 x) 1 1 (by decide) (by decide) (by omega)
          have a := c_isub (q10_8 x) (XT.ushr (q10_7 x) 1)
          have ra := rng32 (q10_8 x - XT.ushr (q10_7 x) 1)
          have ef : f10 x = q10_8 x - XT.ushr (q10_7 x) 1 := if_pos hx
          rw [ef]
          by_cases z : (q10_7 x).toInt = 1
          · exact ⟨10, by decide, by omega, by omega, by omega⟩
          · exact ⟨11, by decide, by omega, by omega, by omega⟩
      · have e2 : q10_5 x = XT.ushr (q10_3 x) 4 := if_neg c2
        have n2 : q10_6 x = q10_4 x + (-4) := if_neg c2
        rw [Int32.lt_iff_toInt_lt, show (16 : Int32).toInt = 16 by decide] at c2
        have t2 := own_us (q10_3 x) 4 4 (by decide) (by decide) (by omega)
        rw [← e2] at t2
        have m2 := c_iadd (q10_4 x) (-4)
        have w2 := rng32 (q10_4 x + (-4))
        rw [show (-4 : Int32).toInt = -4 by decide, ← n2] at m2
        rw [← n2] at w2
        by_cases c3 : (q10_5 x) < 4
        · have e3 : q10_7 x = q10_5 x := if_pos c3
          have n3 : q10_8 x = q10_6 x := if_pos c3
          rw [Int32.lt_iff_toInt_lt, show (4 : Int32).toInt = 4 by decide] at c3
          have t3 : (q10_7 x).toInt = (q10_5 x).toInt := by rw [e3]
          have m3 : (q10_8 x).toInt = (q10_6 x).toInt := by rw [n3]
          have e := own_us (q10_7 x) 1 1 (by decide) (by decide) (by omega)
          have a := c_isub (q10_8 x) (XT.ushr (q10_7 x) 1)
          have ra := rng32 (q10_8 x - XT.ushr (q10_7 x) 1)
          have ef : f10 x = q10_8 x - XT.ushr (q10_7 x) 1 := if_pos hx
          rw [ef]
          by_cases z : (q10_7 x).toInt = 1
          · exact ⟨12, by decide, by omega, by omega, by omega⟩
          · exact ⟨13, by decide, by omega, by omega, by omega⟩
        · have e3 : q10_7 x = XT.ushr (q10_5 x) 2 := if_neg c3
          have n3 : q10_8 x = q10_6 x + (-2) := if_neg c3
          rw [Int32.lt_iff_toInt_lt, show (4 : Int32).toInt = 4 by decide] at c3
          have t3 := own_us (q10_5 x) 2 2 (by decide) (by decide) (by omega)
          rw [← e3] at t3
          have m3 := c_iadd (q10_6 x) (-2)
          have w3 := rng32 (q10_6 x + (-2))
          rw [show (-2 : Int32).toInt = -2 by decide, ← n3] at m3
          rw [← n3] at w3
          have e := own_us (q10_7 x) 1 1 (by decide) (by decide) (by omega)
          have a := c_isub (q10_8 x) (XT.ushr (q10_7 x) 1)
          have ra := rng32 (q10_8 x - XT.ushr (q10_7 x) 1)
          have ef : f10 x = q10_8 x - XT.ushr (q10_7 x) 1 := if_pos hx
          rw [ef]
          by_cases z : (q10_7 x).toInt = 1
          · exact ⟨14, by decide, by omega, by omega, by omega⟩
          · exact ⟨15, by decide, by omega, by omega, by omega⟩
  · have e0 : q10_1 x = XT.ushr (x) 16 := if_neg c0
    have n0 : q10_2 x = 15 := if_neg c0
    rw [Int32.lt_iff_toInt_lt, show (65536 : Int32).toInt = 65536 by decide] at c0
    have t0 := own_us (x) 16 16 (by decide) (by decide) (by omega)
    rw [← e0] at t0
    have m0 : (q10_2 x).toInt = 15 := by rw [n0]; decide
    by_cases c1 : (q10_1 x) < 256
    · have e1 : q10_3 x = q10_1 x := if_pos c1
      have n1 : q10_4 x = q10_2 x := if_pos c1
      rw [Int32.lt_iff_toInt_lt, show (256 : Int32).toInt = 256 by decide] at c1
      have t1 : (q10_3 x).toInt = (q10_1 x).toInt := by rw [e1]
      have m1 : (q10_4 x).toInt = (q10_2 x).toInt := by rw [n1]
      by_cases c2 : (q10_3 x) < 16
      · have e2 : q10_5 x = q10_3 x := if_pos c2
        have n2 : q10_6 x = q10_4 x := if_pos c2
        rw [Int32.lt_iff_toInt_lt, show (16 : Int32).toInt = 16 by decide] at c2
        have t2 : (q10_5 x).toInt = (q10_3 x).toInt := by rw [e2]
        have m2 : (q10_6 x).toInt = (q10_4 x).toInt := by rw [n2]
        by_cases c3 : (q10_5 x) < 4
        · have e3 : q10_7 x = q10_5 x := if_pos c3
          have n3 : q10_8 x = q10_6 x := if_pos c3
          rw [Int32.lt_iff_toInt_lt, show (4 : Int32).toInt = 4 by decide] at c3
          have t3 : (q10_7 x).toInt = (q10_5 x).toInt := by rw [e3]
          have m3 : (q10_8 x).toInt = (q10_6 x).toInt := by rw [n3]
          have e := own_us (q10_7 x) 1 1 (by decide) (by decide) (by omega)
          have a := c_isub (q10_8 x) (XT.ushr (q10_7 x) 1)
          have ra := rng32 (q10_8 x - XT.ushr (q10_7 x) 1)
          have ef : f10 x = q10_8 x - XT.ushr (q10_7 x) 1 := if_pos hx
          rw [ef]
          by_cases z : (q10_7 x).toInt = 1
          · exact ⟨16, by decide, by omega, by omega, by omega⟩
          · exact ⟨17, by decide, by omega, by omega, by omega⟩
        · have e3 : q10_7 x = XT.ushr (q10_5 x) 2 := if_neg c3
          have n3 : q10_8 x = q10_6 x + (-2) := if_neg c3
          rw [Int32.lt_iff_toInt_lt, show (4 : Int32).toInt = 4 by decide] at c3
          have t3 := own_us (q10_5 x) 2 2 (by decide) (by decide) (by omega)
          rw [← e3] at t3
          have m3 := c_iadd (q10_6 x) (-2)
          have w3 := rng32 (q10_6 x + (-2))
          rw [show (-2 : Int32).toInt = -2 by decide, ← n3] at m3
          rw [← n3] at w3
          have e := own_us (q10_7 x) 1 1 (by decide) (by decide) (by omega)
          have a := c_isub (q10_8 x) (XT.ushr (q10_7 x) 1)
          have ra := rng32 (q10_8 x - XT.ushr (q10_7 x) 1)
          have ef : f10 x = q10_8 x - XT.ushr (q10_7 x) 1 := if_pos hx
          rw [ef]
          by_cases z : (q10_7 x).toInt = 1
          · exact ⟨18, by decide, by omega, by omega, by omega⟩
          · exact ⟨19, by decide, by omega, by omega, by omega⟩
      · have e2 : q10_5 x = XT.ushr (q10_3 x) 4 := if_neg c2
        have n2 : q10_6 x = q10_4 x + (-4) := if_neg c2
        rw [Int32.lt_iff_toInt_lt, show (16 : Int32).toInt = 16 by decide] at c2
        have t2 := own_us (q10_3 x) 4 4 (by decide) (by decide) (by omega)
        rw [← e2] at t2
        have m2 := c_iadd (q10_4 x) (-4)
        have w2 := rng32 (q10_4 x + (-4))
        rw [show (-4 : Int32).toInt = -4 by decide, ← n2] at m2
        rw [← n2] at w2
        by_cases c3 : (q10_5 x) < 4
        · have e3 : q10_7 x = q10_5 x := if_pos c3
          have n3 : q10_8 x = q10_6 x := if_pos c3
          rw [Int32.lt_iff_toInt_lt, show (4 : Int32).toInt = 4 by decide] at c3
          have t3 : (q10_7 x).toInt = (q10_5 x).toInt := by rw [e3]
          have m3 : (q10_8 x).toInt = (q10_6 x).toInt := by rw [n3]
          have e := own_us (q10_7 x) 1 1 (by decide) (by decide) (by omega)
          have a := c_isub (q10_8 x) (XT.ushr (q10_7 x) 1)
          have ra := rng32 (q10_8 x - XT.ushr (q10_7 x) 1)
          have ef : f10 x = q10_8 x - XT.ushr (q10_7 x) 1 := if_pos hx
          rw [ef]
          by_cases z : (q10_7 x).toInt = 1
          · exact ⟨20, by decide, by omega, by omega, by omega⟩
          · exact ⟨21, by decide, by omega, by omega, by omega⟩
        · have e3 : q10_7 x = XT.ushr (q10_5 x) 2 := if_neg c3
          have n3 : q10_8 x = q10_6 x + (-2) := if_neg c3
          rw [Int32.lt_iff_toInt_lt, show (4 : Int32).toInt = 4 by decide] at c3
          have t3 := own_us (q10_5 x) 2 2 (by decide) (by decide) (by omega)
          rw [← e3] at t3
          have m3 := c_iadd (q10_6 x) (-2)
          have w3 := rng32 (q10_6 x + (-2))
          rw [show (-2 : Int32).toInt = -2 by decide, ← n3] at m3
          rw [← n3] at w3
          have e := own_us (q10_7 x) 1 1 (by decide) (by decide) (by omega)
          have a := c_isub (q10_8 x) (XT.ushr (q10_7 x) 1)
          have ra := rng32 (q10_8 x - XT.ushr (q10_7 x) 1)
          have ef : f10 x = q10_8 x - XT.ushr (q10_7 x) 1 := if_pos hx
          rw [ef]
          by_cases z : (q10_7 x).toInt = 1
          · exact ⟨22, by decide, by omega, by omega, by omega⟩
          · exact ⟨23, by decide, by omega, by omega, by omega⟩
    · have e1 : q10_3 x = XT.ushr (q10_1 x) 8 := if_neg c1
      have n1 : q10_4 x = q10_2 x + (-8) := if_neg c1
      rw [Int32.lt_iff_toInt_lt, show (256 : Int32).toInt = 256 by decide] at c1
      have t1 := own_us (q10_1 x) 8 8 (by decide) (by decide) (by omega)
      rw [← e1] at t1
      have m1 := c_iadd (q10_2 x) (-8)
      have w1 := rng32 (q10_2 x + (-8))
      rw [show (-8 : Int32).toInt = -8 by decide, ← n1] at m1
      rw [← n1] at w1
      by_cases c2 : (q10_3 x) < 16
      · have e2 : q10_5 x = q10_3 x := if_pos c2
        have n2 : q10_6 x = q10_4 x := if_pos c2
        rw [Int32.lt_iff_toInt_lt, show (16 : Int32).toInt = 16 by decide] at c2
        have t2 : (q10_5 x).toInt = (q10_3 x).toInt := by rw [e2]
        have m2 : (q10_6 x).toInt = (q10_4 x).toInt := by rw [n2]
        by_cases c3 : (q10_5 x) < 4
        · have e3 : q10_7 x = q10_5 x := if_pos c3
          have n3 : q10_8 x = q10_6 x := if_pos c3
          rw [Int32.lt_iff_toInt_lt, show (4 : Int32).toInt = 4 by decide] at c3
          have t3 : (q10_7 x).toInt = (q10_5 x).toInt := by rw [e3]
          have m3 : (q10_8 x).toInt = (q10_6 x).toInt := by rw [n3]
          have e := own_us (q10_7 x) 1 1 (by decide) (by decide) (by omega)
          have a := c_isub (q10_8 x) (XT.ushr (q10_7 x) 1)
          have ra := rng32 (q10_8 x - XT.ushr (q10_7 x) 1)
          have ef : f10 x = q10_8 x - XT.ushr (q10_7 x) 1 := if_pos hx
          rw [ef]
          by_cases z : (q10_7 x).toInt = 1
          · exact ⟨24, by decide, by omega, by omega, by omega⟩
          · exact ⟨25, by decide, by omega, by omega, by omega⟩
        · have e3 : q10_7 x = XT.ushr (q10_5 x) 2 := if_neg c3
          have n3 : q10_8 x = q10_6 x + (-2) := if_neg c3
          rw [Int32.lt_iff_toInt_lt, show (4 : Int32).toInt = 4 by decide] at c3
          have t3 := own_us (q10_5 x) 2 2 (by decide) (by decide) (by omega)
          rw [← e3] at t3
          have m3 := c_iadd (q10_6 x) (-2)
          have w3 := rng32 (q10_6 x + (-2))
          rw [show (-2 : Int32).toInt = -2 by decide, ← n3] at m3
          rw [← n3] at w3
          have e := own_us (q10_7 x) 1 1 (by decide) (by decide) (by omega)
          have a := c_isub (q10_8 x) (XT.ushr (q10_7 x) 1)
          have ra := rng32 (q10_8 x - XT.ushr (q10_7 x) 1)
          have ef : f10 x = q10_8 x - XT.ushr (q10_7 x) 1 := if_pos hx
          rw [ef]
          by_cases z : (q10_7 x).toInt = 1
          · exact ⟨26, by decide, by omega, by omega, by omega⟩
          · exact ⟨27, by decide, by omega, by omega, by omega⟩
      · have e2 : q10_5 x = XT.ushr (q10_3 x) 4 := if_neg c2
        have n2 : q10_6 x = q10_4 x + (-4) := if_neg c2
        rw [Int32.lt_iff_toInt_lt, show (16 : Int32).toInt = 16 by decide] at c2
        have t2 := own_us (q10_3 x) 4 4 (by decide) (by decide) (by omega)
        rw [← e2] at t2
        have m2 := c_iadd (q10_4 x) (-4)
        have w2 := rng32 (q10_4 x + (-4))
        rw [show (-4 : Int32).toInt = -4 by decide, ← n2] at m2
        rw [← n2] at w2
        by_cases c3 : (q10_5 x) < 4
        · have e3 : q10_7 x = q10_5 x := if_pos c3
          have n3 : q10_8 x = q10_6 x := if_pos c3
          rw [Int32.lt_iff_toInt_lt, show (4 : Int32).toInt = 4 by decide] at c3
          have t3 : (q10_7 x).toInt = (q10_5 x).toInt := by rw [e3]
          have m3 : (q10_8 x).toInt = (q10_6 x).toInt := by rw [n3]
          have e := own_us (q10_7 x) 1 1 (by decide) (by decide) (by omega)
          have a := c_isub (q10_8 x) (XT.ushr (q10_7 x) 1)
          have ra := rng32 (q10_8 x - XT.ushr (q10_7 x) 1)
          have ef : f10 x = q10_8 x - XT.ushr (q10_7 x) 1 := if_pos hx
          rw [ef]
          by_cases z : (q10_7 x).toInt = 1
          · exact ⟨28, by decide, by omega, by omega, by omega⟩
          · exact ⟨29, by decide, by omega, by omega, by omega⟩
        · have e3 : q10_7 x = XT.ushr (q10_5 x) 2 := if_neg c3
          have n3 : q10_8 x = q10_6 x + (-2) := if_neg c3
          rw [Int32.lt_iff_toInt_lt, show (4 : Int32).toInt = 4 by decide] at c3
          have t3 := own_us (q10_5 x) 2 2 (by decide) (by decide) (by omega)
          rw [← e3] at t3
          have m3 := c_iadd (q10_6 x) (-2)
          have w3 := rng32 (q10_6 x + (-2))
          rw [show (-2 : Int32).toInt = -2 by decide, ← n3] at m3
          rw [← n3] at w3
          have e := own_us (q10_7 x) 1 1 (by decide) (by decide) (by omega)
          have a := c_isub (q10_8 x) (XT.ushr (q10_7 x) 1)
          have ra := rng32 (q10_8 x - XT.ushr (q10_7 x) 1)
          have ef : f10 x = q10_8 x - XT.ushr (q10_7 x) 1 := if_pos hx
          rw [ef]
          by_cases z : (q10_7 x).toInt = 1
          · exact ⟨30, by decide, by omega, by omega, by omega⟩
          · exact False.elim (by omega)
theorem own_l0 (x : Int32) (h : 0 ≤ x.toInt) : XT.ushrL x.toInt64 32 = 0 := by
  have r := rng32 x
  have e := own_ul x.toInt64 32 32 (by decide) (by decide)
  rw [c_i2l] at e
  apply Int64.toInt_inj.mp
  rw [e, Int64.toInt_zero, Int.emod_eq_of_lt h (by omega)]
  omega
theorem own_li (x : Int32) : x.toInt64.toInt32 = x := by
  have c := c_l2i x.toInt64
  have r := rng32 x
  have r2 := rng32 x.toInt64.toInt32
  rw [c_i2l] at c
  apply Int32.toInt_inj.mp
  omega
theorem own_wd (x : Int32) (h : 0 ≤ x.toInt) : ∃ w : Nat, w ≤ 31 ∧ (f8 x.toInt64).toInt = w ∧ x.toInt < (2 ^ w : Nat) ∧ (0 < x.toInt → 1 ≤ w ∧ (2 ^ (w - 1) : Nat) ≤ x.toInt) := by
  have e9 : f9 x.toInt64 = 32 + f10 x := by
    unfold f9
    rw [own_l0 x h, if_pos (by decide), own_li]
  have a := c_iadd 32 (f10 x)
  have ra := rng32 (32 + f10 x)
  have b := c_isub 64 (32 + f10 x)
  have rb := rng32 (64 - (32 + f10 x))
  rw [show (32 : Int32).toInt = 32 by decide] at a
  rw [show (64 : Int32).toInt = 64 by decide] at b
  have e8 : f8 x.toInt64 = 64 - (32 + f10 x) := by unfold f8; rw [e9]
  rw [e8]
  by_cases z : 0 < x.toInt
  · obtain ⟨k, h1, h2, h3, h4⟩ := own_lg x z
    refine ⟨k + 1, by omega, by omega, h3, fun _ => ⟨by omega, ?_⟩⟩
    rw [Nat.add_sub_cancel]
    exact h2
  · obtain rfl : x = 0 := Int32.toInt_inj.mp (by rw [Int32.toInt_zero]; omega)
    exact ⟨0, by decide, by decide, by decide, fun q => absurd q z⟩
theorem own_low (s k : Int32) (hk : 1 ≤ k.toInt ∧ k.toInt ≤ 3) (hs : k.toInt ≤ s.toInt) : ∃ L : Nat, L ≤ 30 ∧ (f18 s k).toInt = L ∧ (s.toInt - 1) / (2 ^ L : Nat) < 8 := by
  obtain ⟨a, a1, a2, a3, a4⟩ := own_wd s (by omega)
  obtain ⟨b, b1, b2, b3, b4⟩ := own_wd k (by omega)
  have a5 := a4 (by omega)
  have b5 := b4 (by omega)
  have hb : b ≤ 2 := by
    rcases Nat.lt_or_ge 2 b with q | q
    · have : (2 ^ 2 : Nat) ≤ 2 ^ (b - 1) := Nat.pow_le_pow_right (by decide) (by omega)
      omega
    · exact q
  have hab : b ≤ a := by
    rcases Nat.lt_or_ge a b with q | q
    · have : (2 ^ a : Nat) ≤ 2 ^ (b - 1) := Nat.pow_le_pow_right (by decide) (by omega)
      omega
    · exact q
  have c := c_isub (f8 s.toInt64) (f8 k.toInt64)
  have rc := rng32 (f8 s.toInt64 - f8 k.toInt64)
  have hd : (f8 s.toInt64 - f8 k.toInt64).toInt = a - b := by omega
  have key : ∀ L : Nat, a ≤ L + 3 → (s.toInt - 1) / (2 ^ L : Nat) < 8 := by
    intro L hL
    have p : (2 ^ a : Nat) ≤ 2 ^ (L + 3) := Nat.pow_le_pow_right (by decide) hL
    have p2 : (2 ^ (L + 3) : Nat) = 2 ^ L * 8 := Nat.pow_add 2 L 3
    have p0 : (0 : Int) < (2 ^ L : Nat) := Int.natCast_pos.mpr (Nat.two_pow_pos L)
    apply Int.ediv_lt_of_lt_mul p0
    have : ((2 ^ L * 8 : Nat) : Int) = 8 * ((2 ^ L : Nat) : Int) := by rw [Int.natCast_mul, Int.mul_comm]; rfl
    omega
  unfold f18
  by_cases q : s.toInt64 < (k.toInt64 <<< ((f8 s.toInt64 - f8 k.toInt64).toInt64 &&& 63))
  · rw [if_pos q]
    have hne : a ≠ b := by
      intro e
      have z : f8 s.toInt64 - f8 k.toInt64 = 0 := Int32.toInt_inj.mp (by rw [hd, Int32.toInt_zero]; omega)
      rw [z, show ((0 : Int32).toInt64 &&& 63) = (0 : Int64) by decide, Int64.shiftLeft_zero, Int64.lt_iff_toInt_lt, c_i2l, c_i2l] at q
      omega
    have d := c_isub (f8 s.toInt64 - f8 k.toInt64) 1
    have rd := rng32 (f8 s.toInt64 - f8 k.toInt64 - 1)
    rw [show (1 : Int32).toInt = 1 by decide] at d
    exact ⟨a - b - 1, by omega, by omega, key _ (by omega)⟩
  · rw [if_neg q]
    exact ⟨a - b, by omega, by omega, key _ (by omega)⟩

def bitAt (g : Nat → Int64) (p : Nat) : Bool := (g (p / 64)).toBitVec.getLsbD (p % 64)
def Wo (g g' : Nat → Int64) (n m : Nat) (v : Int64) : Prop := ∀ p, bitAt g' p = (bitAt g p || (decide (n ≤ p) && (decide (p - n < m) && v.toBitVec.getLsbD (p - n))))
theorem own_wo0 (g : Nat → Int64) (n : Nat) (v : Int64) : Wo g g n 0 v := fun p => by
  rw [decide_eq_false (Nat.not_lt_zero (p - n)), Bool.false_and, Bool.and_false, Bool.or_false]
theorem own_wo1 (g : Nat → Int64) (n m : Nat) (v b : Int64) (sh : Int32) (hm : m ≤ 64) (hsh : sh.toInt = (n % 64 : Nat)) (hb : ∀ i, b.toBitVec.getLsbD i = (decide (i < m) && v.toBitVec.getLsbD i)) (hs : n % 64 + m ≤ 64) :
    Wo g (fun j => if j = n / 64 then g (n / 64) ||| (b <<< (sh.toInt64 &&& 63)) else g j) n m v := by
  intro p
  unfold bitAt
  dsimp only
  have hp : p % 64 < 64 := Nat.mod_lt _ (by decide)
  by_cases q : p / 64 = n / 64
  · rw [if_pos q, Int64.toBitVec_or, BitVec.getLsbD_or, own_shl _ _ _ hsh (Nat.mod_lt _ (by decide)) _ hp, hb, q]
    by_cases c : n ≤ p
    · rw [decide_eq_true c, decide_eq_false (show ¬ p % 64 < n % 64 by omega), show p % 64 - n % 64 = p - n by omega]
      rfl
    · rw [decide_eq_false c, decide_eq_true (show p % 64 < n % 64 by omega)]
      rfl
  · rw [if_neg q]
    by_cases c : n ≤ p
    · rw [decide_eq_false (show ¬ p - n < m by omega), Bool.false_and, Bool.and_false, Bool.or_false]
    · rw [decide_eq_false c, Bool.false_and, Bool.or_false]
theorem own_wo2 (g : Nat → Int64) (n m : Nat) (v b : Int64) (sh : Int32) (hm : m ≤ 64) (hsh : sh.toInt = (n % 64 : Nat)) (hb : ∀ i, b.toBitVec.getLsbD i = (decide (i < m) && v.toBitVec.getLsbD i)) (hs : 64 < n % 64 + m) :
    Wo g (fun j => if j = n / 64 + 1 then (if n / 64 + 1 = n / 64 then g (n / 64) ||| (b <<< (sh.toInt64 &&& 63)) else g (n / 64 + 1)) ||| XT.ushrL b (64 - sh) else (if j = n / 64 then g (n / 64) ||| (b <<< (sh.toInt64 &&& 63)) else g j)) n m v := by
  intro p
  unfold bitAt
  dsimp only
  have hp : p % 64 < 64 := Nat.mod_lt _ (by decide)
  have hS : ((64 : Int32) - sh).toInt = (64 - n % 64 : Nat) := by
    have a := c_isub 64 sh
    have r := rng32 (64 - sh)
    rw [show (64 : Int32).toInt = 64 by decide] at a
    omega
  by_cases q : p / 64 = n / 64 + 1
  · rw [if_pos q, if_neg (by omega), Int64.toBitVec_or, BitVec.getLsbD_or, own_shr _ _ _ hS (by omega), hb, q, decide_eq_true (show n ≤ p by omega), show 64 - n % 64 + p % 64 = p - n by omega, Bool.true_and]
  · rw [if_neg q]
    by_cases q2 : p / 64 = n / 64
    · rw [if_pos q2, Int64.toBitVec_or, BitVec.getLsbD_or, own_shl _ _ _ hsh (Nat.mod_lt _ (by decide)) _ hp, hb, q2]
      by_cases c : n ≤ p
      · rw [decide_eq_true c, decide_eq_false (show ¬ p % 64 < n % 64 by omega), show p % 64 - n % 64 = p - n by omega]
        rfl
      · rw [decide_eq_false c, decide_eq_true (show p % 64 < n % 64 by omega)]
        rfl
    · rw [if_neg q2]
      by_cases c : n ≤ p
      · rw [decide_eq_false (show ¬ p - n < m by omega), Bool.false_and, Bool.and_false, Bool.or_false]
      · rw [decide_eq_false c, Bool.false_and, Bool.or_false]
theorem own_mb (v : Int64) (w : Int32) (m : Nat) (hw : w.toInt = m) (hm : 1 ≤ m ∧ m ≤ 64) (i : Nat) : (if w = (64 : Int32) then v else (v &&& (((-1 : Int64) <<< (w.toInt64 &&& 63)) ^^^ (-1 : Int64)))).toBitVec.getLsbD i = (decide (i < m) && v.toBitVec.getLsbD i) := by
  by_cases hi : i < 64
  · by_cases e : w = 64
    · rw [if_pos e]
      rw [e, show (64 : Int32).toInt = 64 by decide] at hw
      rw [decide_eq_true (show i < m by omega), Bool.true_and]
    · rw [if_neg e]
      have hm2 : m < 64 := by
        rcases Nat.lt_or_eq_of_le hm.2 with z | z
        · exact z
        · exact absurd (Int32.toInt_inj.mp (by rw [hw, z]; decide)) e
      rw [Int64.toBitVec_and, BitVec.getLsbD_and, Int64.toBitVec_xor, BitVec.getLsbD_xor, own_shl _ _ _ hw hm2 _ hi]
      have o : ∀ k, k < 64 → (-1 : Int64).toBitVec.getLsbD k = true := fun k hk => by
        show (BitVec.allOnes 64).getLsbD k = true
        rw [BitVec.getLsbD_allOnes, decide_eq_true hk]
      rw [o i hi, o (i - m) (by omega), Bool.and_true, Bool.xor_true, Bool.not_not, Bool.and_comm]
  · rw [BitVec.getLsbD_of_ge _ _ (by omega), BitVec.getLsbD_of_ge _ _ (by omega), Bool.and_false]
def Wp (g g' : Nat → Int64) (z s : Int64) (v : Int64) (w : Int32) : Prop := s.toInt = z.toInt + w.toInt ∧ Wo g g' z.toInt.toNat w.toInt.toNat v
def Hw (z : Int64) (w : Int32) : Prop := 0 ≤ z.toInt ∧ (0 ≤ w.toInt ∧ w.toInt ≤ 64) ∧ z.toInt + w.toInt ≤ 447
theorem own_hws {z : Int64} {w : Int32} (h : Hw z w) : (z + w.toInt64).toInt = z.toInt + w.toInt := by
  unfold Hw at h
  have a := c_ladd z w.toInt64
  have r := rng64 (z + w.toInt64)
  rw [c_i2l] at a
  omega
theorem own_ix {z : Int64} (h : 0 ≤ z.toInt ∧ z.toInt ≤ 511) : (XT.ushrL z 6).toInt32.toInt = (z.toInt.toNat / 64 : Nat) ∧ (z.toInt32 &&& 63).toInt = (z.toInt.toNat % 64 : Nat) := by
  have e := own_ul z 6 6 (by decide) (by decide)
  have c := c_l2i (XT.ushrL z 6)
  have r := rng32 (XT.ushrL z 6).toInt32
  have d := c_l2i z
  have m := c_mask z.toInt32 63 6 (by decide) (by decide)
  have em : z.toInt % 18446744073709551616 = z.toInt := Int.emod_eq_of_lt h.1 (by omega)
  rw [em] at e
  omega

theorem own_res0 {x0 : Int64} (hx : 0 ≤ x0.toInt ∧ x0.toInt ≤ 447) : ¬ (8 : Int32).toInt64 < (((XT.ushrL x0 (6 : Int32)) + (1 : Int64)) + (1 : Int64)) := by
  have e := own_ul x0 6 6 (by decide) (by decide)
  have em : x0.toInt % 18446744073709551616 = x0.toInt := Int.emod_eq_of_lt hx.1 (by omega)
  rw [em] at e
  have a := c_ladd (XT.ushrL x0 6) 1
  have ra := rng64 (XT.ushrL x0 6 + 1)
  have b := c_ladd (XT.ushrL x0 6 + 1) 1
  have rb := rng64 (XT.ushrL x0 6 + 1 + 1)
  rw [show (1 : Int64).toInt = 1 by decide] at a b
  rw [Int64.lt_iff_toInt_lt, show ((8 : Int32).toInt64).toInt = 8 by decide]
  omega
theorem d6_0 : decode prog_16_method_11_code 0 = .ok (.lload_n 1, 1) := by decide +kernel
theorem d6_1 : decode prog_16_method_11_code 1 = .ok (.bipush 6, 2) := by decide +kernel
theorem d6_3 : decode prog_16_method_11_code 3 = .ok (.lushr, 1) := by decide +kernel
theorem d6_4 : decode prog_16_method_11_code 4 = .ok (.lconst 1, 1) := by decide +kernel
theorem d6_5 : decode prog_16_method_11_code 5 = .ok (.ladd, 1) := by decide +kernel
theorem d6_6 : decode prog_16_method_11_code 6 = .ok (.lconst 1, 1) := by decide +kernel
theorem d6_7 : decode prog_16_method_11_code 7 = .ok (.ladd, 1) := by decide +kernel
theorem d6_8 : decode prog_16_method_11_code 8 = .ok (.lstore_n 3, 1) := by decide +kernel
theorem d6_9 : decode prog_16_method_11_code 9 = .ok (.lload_n 3, 1) := by decide +kernel
theorem d6_10 : decode prog_16_method_11_code 10 = .ok (.aload_n 0, 1) := by decide +kernel
theorem d6_11 : decode prog_16_method_11_code 11 = .ok (.getfield 9, 3) := by decide +kernel
theorem d6_14 : decode prog_16_method_11_code 14 = .ok (.arraylength, 1) := by decide +kernel
theorem d6_15 : decode prog_16_method_11_code 15 = .ok (.i2l, 1) := by decide +kernel
theorem d6_16 : decode prog_16_method_11_code 16 = .ok (.lcmp, 1) := by decide +kernel
theorem d6_17 : decode prog_16_method_11_code 17 = .ok (.ifCond .le 53, 3) := by decide +kernel
theorem d6_20 : decode prog_16_method_11_code 20 = .ok (.lload_n 3, 1) := by decide +kernel
theorem d6_21 : decode prog_16_method_11_code 21 = .ok (.ldc2_w 59, 3) := by decide +kernel
theorem d6_24 : decode prog_16_method_11_code 24 = .ok (.lcmp, 1) := by decide +kernel
theorem d6_25 : decode prog_16_method_11_code 25 = .ok (.ifCond .le 13, 3) := by decide +kernel
theorem d6_28 : decode prog_16_method_11_code 28 = .ok (.new 61, 3) := by decide +kernel
theorem d6_31 : decode prog_16_method_11_code 31 = .ok (.dup, 1) := by decide +kernel
theorem d6_32 : decode prog_16_method_11_code 32 = .ok (.ldc 63, 2) := by decide +kernel
theorem d6_34 : decode prog_16_method_11_code 34 = .ok (.invokespecial 65, 3) := by decide +kernel
theorem d6_37 : decode prog_16_method_11_code 37 = .ok (.athrow, 1) := by decide +kernel
theorem d6_38 : decode prog_16_method_11_code 38 = .ok (.aload_n 0, 1) := by decide +kernel
theorem d6_39 : decode prog_16_method_11_code 39 = .ok (.aload_n 0, 1) := by decide +kernel
theorem d6_40 : decode prog_16_method_11_code 40 = .ok (.getfield 9, 3) := by decide +kernel
theorem d6_43 : decode prog_16_method_11_code 43 = .ok (.ldc2_w 59, 3) := by decide +kernel
theorem d6_46 : decode prog_16_method_11_code 46 = .ok (.lload_n 3, 1) := by decide +kernel
theorem d6_47 : decode prog_16_method_11_code 47 = .ok (.ldc2_w 68, 3) := by decide +kernel
theorem d6_50 : decode prog_16_method_11_code 50 = .ok (.aload_n 0, 1) := by decide +kernel
theorem d6_51 : decode prog_16_method_11_code 51 = .ok (.getfield 9, 3) := by decide +kernel
theorem d6_54 : decode prog_16_method_11_code 54 = .ok (.arraylength, 1) := by decide +kernel
theorem d6_55 : decode prog_16_method_11_code 55 = .ok (.i2l, 1) := by decide +kernel
theorem d6_56 : decode prog_16_method_11_code 56 = .ok (.lmul, 1) := by decide +kernel
theorem d6_57 : decode prog_16_method_11_code 57 = .ok (.invokestatic 70, 3) := by decide +kernel
theorem d6_60 : decode prog_16_method_11_code 60 = .ok (.invokestatic 45, 3) := by decide +kernel
theorem d6_63 : decode prog_16_method_11_code 63 = .ok (.l2i, 1) := by decide +kernel
theorem d6_64 : decode prog_16_method_11_code 64 = .ok (.invokestatic 73, 3) := by decide +kernel
theorem d6_67 : decode prog_16_method_11_code 67 = .ok (.putfield 9, 3) := by decide +kernel
theorem d6_70 : decode prog_16_method_11_code 70 = .ok (.return_, 1) := by decide +kernel
theorem pl6 : plainFor (⟨"com/example/micro_ranker/microranker/engine/BitWriter", "reserve", "(J)V"⟩ : MethodName) = true := by first | exact plainFor_of_name (by first | (simp [plainName, overriddenIn]; done) | decide +kernel) | decide +kernel
def q6_1 (g : Nat → Int64) (x0 : Int64) : Int64 := (((XT.ushrL x0 (6 : Int32)) + (1 : Int64)) + (1 : Int64))
set_option maxRecDepth 65536 in
set_option maxHeartbeats 40000000 in
theorem rm6 (l : Launch) (Z : State) (a0 : Array Value) (hw : ∀ d ∈ tables_1, d.before a0 Z = true) (a : Addr) (g : Nat → Int64) (yw : Addr) (x0 : Int64) (h0 : Heap) (G0 : Fld Z h0 a "com/example/micro_ranker/microranker/engine/BitWriter" "words" "[J" (.ref yw)) (A0 : AJ Z h0 yw 8 g) (hx : 0 ≤ x0.toInt ∧ x0.toInt ≤ 447) :
    Met l Z (⟨"com/example/micro_ranker/microranker/engine/BitWriter", "reserve", "(J)V"⟩ : MethodName) prog_16_method_11_code 5 (none) ({ frames := 0, cells := 0, slots := 0, locals := 0 } : Room) #[(.ref a), (.long x0)] h0 (Pu none h0) := by
  refine enter pl6 #[vr a, vj x0, s2, us, us] rfl ?_
  intro p e s m below meth c T B hret hlk hnm
  · refine o_lloadN B 0 1 (v := x0) d6_0 rfl rfl ?_
    refine o_bipush B 1 3 (6 : Int32) d6_1 rfl (by decide) ?_
    refine o_lushr B 3 4 d6_3 rfl ?_
    refine o_lconst B 4 5 (1 : Int64) d6_4 rfl (by decide) ?_
    refine o_ladd B 5 6 d6_5 rfl ?_
    refine o_lconst B 6 7 (1 : Int64) d6_6 rfl (by decide) ?_
    refine o_ladd B 7 8 d6_7 rfl ?_
    refine o_lstoreN B 8 9 (l' := #[vr a, vj x0, s2, vj (q6_1 g x0), s2]) d6_8 rfl rfl ?_
    refine o_lloadN B 9 10 (v := (q6_1 g x0)) d6_9 rfl rfl ?_
    refine o_aloadN B 10 11 (v := (.ref a)) d6_10 rfl rfl rfl ?_
    obtain ⟨T1, B1, c1⟩ := o_getfield B 11 14 d6_11 rfl (host := "") (Or.inl (hw _ (mi 21 rfl))) Via.refl G0 (Ls := #[vr a, vj x0, s2, vj (q6_1 g x0), s2]) (rest := [(.long (q6_1 g x0))])
    refine c1 ?_
    refine o_alenJ B1 14 15 A0 (8 : Int32) d6_14 rfl (by decide) ?_
    refine o_i2l B1 15 16 d6_15 rfl ?_
    refine o_topJ (show (8 : Int32).toInt64 = (8 : Int64) by decide) ?_
    refine o_lcmp B1 16 17 d6_16 rfl ?_
    refine o_ifY B1 17 70 d6_17 (XT.ll_le_t (own_res0 hx)) (by decide) (by decide) ?_
    refine o_retV B1 70 d6_70 hret hlk (by decide) (by decide) ⟨rfl, rfl, rfl⟩
theorem own_hz {z : Int64} {w : Int32} (h : Hw z w) : 0 ≤ z.toInt ∧ z.toInt ≤ 511 := by unfold Hw at h; omega
theorem own_rsv {z : Int64} {w : Int32} (h : Hw z w) : 0 ≤ (z + w.toInt64).toInt ∧ (z + w.toInt64).toInt ≤ 447 := by
  have e := own_hws h
  unfold Hw at h
  omega
theorem own_ix1 {z : Int64} {w : Int32} (h : Hw z w) : ((XT.ushrL z 6).toInt32 + 1).toInt = (z.toInt.toNat / 64 + 1 : Nat) := by
  have e := (own_ix (own_hz h)).1
  have a := c_iadd (XT.ushrL z 6).toInt32 1
  have r := rng32 ((XT.ushrL z 6).toInt32 + 1)
  rw [show (1 : Int32).toInt = 1 by decide] at a
  unfold Hw at h
  omega
theorem own_i8 {z : Int64} {w : Int32} (h : Hw z w) : z.toInt.toNat / 64 < 8 := by unfold Hw at h; omega
theorem own_i9 {z : Int64} {w : Int32} (h : Hw z w) : z.toInt.toNat / 64 + 1 < 8 := by unfold Hw at h; omega
theorem d5_0 : decode prog_16_method_4_code 0 = .ok (.aload_n 0, 1) := by decide +kernel
theorem d5_1 : decode prog_16_method_4_code 1 = .ok (.aload_n 0, 1) := by decide +kernel
theorem d5_2 : decode prog_16_method_4_code 2 = .ok (.getfield 15, 3) := by decide +kernel
theorem d5_5 : decode prog_16_method_4_code 5 = .ok (.iload_n 3, 1) := by decide +kernel
theorem d5_6 : decode prog_16_method_4_code 6 = .ok (.i2l, 1) := by decide +kernel
theorem d5_7 : decode prog_16_method_4_code 7 = .ok (.ladd, 1) := by decide +kernel
theorem d5_8 : decode prog_16_method_4_code 8 = .ok (.invokevirtual 19, 3) := by decide +kernel
theorem d5_11 : decode prog_16_method_4_code 11 = .ok (.iload_n 3, 1) := by decide +kernel
theorem d5_12 : decode prog_16_method_4_code 12 = .ok (.ifCond .ne 4, 3) := by decide +kernel
theorem d5_15 : decode prog_16_method_4_code 15 = .ok (.return_, 1) := by decide +kernel
theorem d5_16 : decode prog_16_method_4_code 16 = .ok (.iload_n 3, 1) := by decide +kernel
theorem d5_17 : decode prog_16_method_4_code 17 = .ok (.bipush 64, 2) := by decide +kernel
theorem d5_19 : decode prog_16_method_4_code 19 = .ok (.if_icmp .ne 7, 3) := by decide +kernel
theorem d5_22 : decode prog_16_method_4_code 22 = .ok (.lload_n 1, 1) := by decide +kernel
theorem d5_23 : decode prog_16_method_4_code 23 = .ok (.goto 14, 3) := by decide +kernel
theorem d5_26 : decode prog_16_method_4_code 26 = .ok (.lload_n 1, 1) := by decide +kernel
theorem d5_27 : decode prog_16_method_4_code 27 = .ok (.ldc2_w 25, 3) := by decide +kernel
theorem d5_30 : decode prog_16_method_4_code 30 = .ok (.iload_n 3, 1) := by decide +kernel
theorem d5_31 : decode prog_16_method_4_code 31 = .ok (.lshl, 1) := by decide +kernel
theorem d5_32 : decode prog_16_method_4_code 32 = .ok (.ldc2_w 25, 3) := by decide +kernel
theorem d5_35 : decode prog_16_method_4_code 35 = .ok (.lxor, 1) := by decide +kernel
theorem d5_36 : decode prog_16_method_4_code 36 = .ok (.land, 1) := by decide +kernel
theorem d5_37 : decode prog_16_method_4_code 37 = .ok (.lstore 4, 2) := by decide +kernel
theorem d5_39 : decode prog_16_method_4_code 39 = .ok (.aload_n 0, 1) := by decide +kernel
theorem d5_40 : decode prog_16_method_4_code 40 = .ok (.getfield 15, 3) := by decide +kernel
theorem d5_43 : decode prog_16_method_4_code 43 = .ok (.bipush 6, 2) := by decide +kernel
theorem d5_45 : decode prog_16_method_4_code 45 = .ok (.lushr, 1) := by decide +kernel
theorem d5_46 : decode prog_16_method_4_code 46 = .ok (.l2i, 1) := by decide +kernel
theorem d5_47 : decode prog_16_method_4_code 47 = .ok (.istore 6, 2) := by decide +kernel
theorem d5_49 : decode prog_16_method_4_code 49 = .ok (.aload_n 0, 1) := by decide +kernel
theorem d5_50 : decode prog_16_method_4_code 50 = .ok (.getfield 15, 3) := by decide +kernel
theorem d5_53 : decode prog_16_method_4_code 53 = .ok (.l2i, 1) := by decide +kernel
theorem d5_54 : decode prog_16_method_4_code 54 = .ok (.bipush 63, 2) := by decide +kernel
theorem d5_56 : decode prog_16_method_4_code 56 = .ok (.iand, 1) := by decide +kernel
theorem d5_57 : decode prog_16_method_4_code 57 = .ok (.istore 7, 2) := by decide +kernel
theorem d5_59 : decode prog_16_method_4_code 59 = .ok (.aload_n 0, 1) := by decide +kernel
theorem d5_60 : decode prog_16_method_4_code 60 = .ok (.getfield 9, 3) := by decide +kernel
theorem d5_63 : decode prog_16_method_4_code 63 = .ok (.iload 6, 2) := by decide +kernel
theorem d5_65 : decode prog_16_method_4_code 65 = .ok (.dup2, 1) := by decide +kernel
theorem d5_66 : decode prog_16_method_4_code 66 = .ok (.laload, 1) := by decide +kernel
theorem d5_67 : decode prog_16_method_4_code 67 = .ok (.lload 4, 2) := by decide +kernel
theorem d5_69 : decode prog_16_method_4_code 69 = .ok (.iload 7, 2) := by decide +kernel
theorem d5_71 : decode prog_16_method_4_code 71 = .ok (.lshl, 1) := by decide +kernel
theorem d5_72 : decode prog_16_method_4_code 72 = .ok (.lor, 1) := by decide +kernel
theorem d5_73 : decode prog_16_method_4_code 73 = .ok (.lastore, 1) := by decide +kernel
theorem d5_74 : decode prog_16_method_4_code 74 = .ok (.iload 7, 2) := by decide +kernel
theorem d5_76 : decode prog_16_method_4_code 76 = .ok (.iload_n 3, 1) := by decide +kernel
theorem d5_77 : decode prog_16_method_4_code 77 = .ok (.iadd, 1) := by decide +kernel
theorem d5_78 : decode prog_16_method_4_code 78 = .ok (.bipush 64, 2) := by decide +kernel
theorem d5_80 : decode prog_16_method_4_code 80 = .ok (.if_icmp .le 23, 3) := by decide +kernel
theorem d5_83 : decode prog_16_method_4_code 83 = .ok (.aload_n 0, 1) := by decide +kernel
theorem d5_84 : decode prog_16_method_4_code 84 = .ok (.getfield 9, 3) := by decide +kernel
theorem d5_87 : decode prog_16_method_4_code 87 = .ok (.iload 6, 2) := by decide +kernel
theorem d5_89 : decode prog_16_method_4_code 89 = .ok (.iconst 1, 1) := by decide +kernel
theorem d5_90 : decode prog_16_method_4_code 90 = .ok (.iadd, 1) := by decide +kernel
theorem d5_91 : decode prog_16_method_4_code 91 = .ok (.dup2, 1) := by decide +kernel
theorem d5_92 : decode prog_16_method_4_code 92 = .ok (.laload, 1) := by decide +kernel
theorem d5_93 : decode prog_16_method_4_code 93 = .ok (.lload 4, 2) := by decide +kernel
theorem d5_95 : decode prog_16_method_4_code 95 = .ok (.bipush 64, 2) := by decide +kernel
theorem d5_97 : decode prog_16_method_4_code 97 = .ok (.iload 7, 2) := by decide +kernel
theorem d5_99 : decode prog_16_method_4_code 99 = .ok (.isub, 1) := by decide +kernel
theorem d5_100 : decode prog_16_method_4_code 100 = .ok (.lushr, 1) := by decide +kernel
theorem d5_101 : decode prog_16_method_4_code 101 = .ok (.lor, 1) := by decide +kernel
theorem d5_102 : decode prog_16_method_4_code 102 = .ok (.lastore, 1) := by decide +kernel
theorem d5_103 : decode prog_16_method_4_code 103 = .ok (.aload_n 0, 1) := by decide +kernel
theorem d5_104 : decode prog_16_method_4_code 104 = .ok (.dup, 1) := by decide +kernel
theorem d5_105 : decode prog_16_method_4_code 105 = .ok (.getfield 15, 3) := by decide +kernel
theorem d5_108 : decode prog_16_method_4_code 108 = .ok (.iload_n 3, 1) := by decide +kernel
theorem d5_109 : decode prog_16_method_4_code 109 = .ok (.i2l, 1) := by decide +kernel
theorem d5_110 : decode prog_16_method_4_code 110 = .ok (.ladd, 1) := by decide +kernel
theorem d5_111 : decode prog_16_method_4_code 111 = .ok (.putfield 15, 3) := by decide +kernel
theorem d5_114 : decode prog_16_method_4_code 114 = .ok (.return_, 1) := by decide +kernel
theorem pl5 : plainFor (⟨"com/example/micro_ranker/microranker/engine/BitWriter", "write", "(JI)V"⟩ : MethodName) = true := by first | exact plainFor_of_name (by first | (simp [plainName, overriddenIn]; done) | decide +kernel) | decide +kernel
theorem pd__J_V : parseMethodDescriptor "(J)V" = some ⟨[.long], none⟩ := by decide +kernel
def HW (a0 : Array Value) (Z : State) : Prop := ∀ d ∈ tables_1, d.before a0 Z = true
def SN (Z : State) (C n d n' d' : String) : Prop := RoadKit.slotOf Z C n d ≠ RoadKit.slotOf Z C n' d'
theorem sn0 {a0 Z} (hw : HW a0 Z) : SN Z "com/example/micro_ranker/microranker/engine/BitWriter" "words" "[J" "size" "J" := (slot_ne (a0 := a0) (C := "com/example/micro_ranker/microranker/engine/BitWriter") (Or.inl (hw _ (mi 22 rfl))) (Or.inl (hw _ (mi 29 rfl))) (by decide) (t := (.array .long)) (t' := .long) rfl rfl)
def q5_1 (g : Nat → Int64) (z x0 : Int64) (x1 : Int32) : Int64 := (if x1 = (64 : Int32) then x0 else (x0 &&& (((-1 : Int64) <<< (x1.toInt64 &&& 63)) ^^^ (-1 : Int64))))
def q5_2 (g : Nat → Int64) (z x0 : Int64) (x1 : Int32) : Int64 := (q5_1 g z x0 x1)
def q5_3 (g : Nat → Int64) (z x0 : Int64) (x1 : Int32) : Int32 := (z.toInt32 &&& (63 : Int32))
def q5_4 (g : Nat → Int64) (z x0 : Int64) (x1 : Int32) : Int64 := ((g (z.toInt.toNat / 64)) ||| ((q5_2 g z x0 x1) <<< ((q5_3 g z x0 x1).toInt64 &&& 63)))
def w5_5 (g : Nat → Int64) (z x0 : Int64) (x1 : Int32) : Nat → Int64 := fun j => if j = (z.toInt.toNat / 64) then (q5_4 g z x0 x1) else g j
def q5_6 (g : Nat → Int64) (z x0 : Int64) (x1 : Int32) : Int64 := (((w5_5 g z x0 x1) (z.toInt.toNat / 64 + 1)) ||| (XT.ushrL (q5_2 g z x0 x1) ((64 : Int32) - (q5_3 g z x0 x1))))
def w5_7 (g : Nat → Int64) (z x0 : Int64) (x1 : Int32) : Nat → Int64 := fun j => if j = (z.toInt.toNat / 64 + 1) then (q5_6 g z x0 x1) else (w5_5 g z x0 x1) j
def Q5 (Z : State) (a : Addr) (yw : Addr) (g : Nat → Int64) (z : Int64) (x0 : Int64) (x1 : Int32) (h0 : Heap) (n0 : Nat) (v : Option Value) (h : Heap) (L : List Loc) : Prop := v = none ∧ Fr n0 L ∧ Keep h0 h [a, yw] ∧ ∃ (g' : Nat → Int64) (s : Int64), Fld Z h a "com/example/micro_ranker/microranker/engine/BitWriter" "words" "[J" (.ref yw) ∧ Fld Z h a "com/example/micro_ranker/microranker/engine/BitWriter" "size" "J" (.long s) ∧ AJ Z h yw 8 g' ∧ Wp g g' z s x0 x1
theorem own_wpz {g : Nat → Int64} {z x0 : Int64} {x1 : Int32} (k : x1 = 0) : Wp g g z z x0 x1 := by
  subst k
  exact ⟨by rw [Int32.toInt_zero]; omega, own_wo0 _ _ _⟩
theorem own_sh5 {g : Nat → Int64} {z x0 : Int64} {x1 : Int32} (h : Hw z x1) : (q5_3 g z x0 x1).toInt = (z.toInt.toNat % 64 : Nat) := (own_ix (own_hz h)).2
theorem own_wd5 {g : Nat → Int64} {z x0 : Int64} {x1 : Int32} (h : Hw z x1) : ((q5_3 g z x0 x1) + x1).toInt = (z.toInt.toNat % 64 : Nat) + x1.toInt := by
  have e := own_sh5 (g := g) (x0 := x0) h
  have a := c_iadd (q5_3 g z x0 x1) x1
  have r := rng32 (q5_3 g z x0 x1 + x1)
  unfold Hw at h
  omega
theorem own_wb5 {g : Nat → Int64} {z x0 : Int64} {x1 : Int32} (h : Hw z x1) (k : ¬ x1 = 0) : ∀ i, (q5_2 g z x0 x1).toBitVec.getLsbD i = (decide (i < x1.toInt.toNat) && x0.toBitVec.getLsbD i) := by
  rw [← Int32.toInt_inj, Int32.toInt_zero] at k
  unfold Hw at h
  exact own_mb x0 x1 x1.toInt.toNat (by omega) (by omega)
theorem own_wpn {g : Nat → Int64} {z x0 : Int64} {x1 : Int32} (h : Hw z x1) (k : ¬ x1 = 0) (q : ¬ (64 : Int32) < (q5_3 g z x0 x1) + x1) : Wp g (w5_5 g z x0 x1) z (z + x1.toInt64) x0 x1 := by
  have e := own_wd5 (g := g) (x0 := x0) h
  rw [Int32.lt_iff_toInt_lt, show (64 : Int32).toInt = 64 by decide] at q
  refine ⟨own_hws h, own_wo1 g _ _ x0 (q5_2 g z x0 x1) (q5_3 g z x0 x1) ?_ (own_sh5 h) (own_wb5 h k) ?_⟩
  · unfold Hw at h; omega
  · unfold Hw at h; omega
theorem own_wps {g : Nat → Int64} {z x0 : Int64} {x1 : Int32} (h : Hw z x1) (k : ¬ x1 = 0) (q : (64 : Int32) < (q5_3 g z x0 x1) + x1) : Wp g (w5_7 g z x0 x1) z (z + x1.toInt64) x0 x1 := by
  have e := own_wd5 (g := g) (x0 := x0) h
  rw [Int32.lt_iff_toInt_lt, show (64 : Int32).toInt = 64 by decide] at q
  refine ⟨own_hws h, own_wo2 g _ _ x0 (q5_2 g z x0 x1) (q5_3 g z x0 x1) ?_ (own_sh5 h) (own_wb5 h k) ?_⟩
  · unfold Hw at h; omega
  · unfold Hw at h; omega
set_option maxRecDepth 65536 in
set_option maxHeartbeats 400000000 in
theorem rm5 (l : Launch) (Z : State) (a0 : Array Value) (hw : ∀ d ∈ tables_1, d.before a0 Z = true) (a : Addr) (yw : Addr) (g : Nat → Int64) (z : Int64) (x0 : Int64) (x1 : Int32) (h0 : Heap) (n0 : Nat) (hz : n0 ≤ h0.size) (ge_a : n0 ≤ a) (ge_yw : n0 ≤ yw) (hE : Exa Z h0 a "com/example/micro_ranker/microranker/engine/BitWriter") (G_words : Fld Z h0 a "com/example/micro_ranker/microranker/engine/BitWriter" "words" "[J" (.ref yw)) (G_size : Fld Z h0 a "com/example/micro_ranker/microranker/engine/BitWriter" "size" "J" (.long z)) (A_yw : AJ Z h0 yw 8 g) (ne_a_yw : a ≠ yw) (hp : Hw z x1) :
    Met l Z (⟨"com/example/micro_ranker/microranker/engine/BitWriter", "write", "(JI)V"⟩ : MethodName) prog_16_method_4_code 8 none ({ frames := 1, cells := 0, slots := 0, locals := 16 } : Room) #[(.ref a), (.long x0), (.int x1)] h0 (Q5 Z a yw g z x0 x1 h0 n0) := by
  refine enter pl5 #[vr a, vj x0, s2, vi x1, us, us, us, us] rfl ?_
  intro p e s m below meth c T B hret hlk hnm
  have N0 := Fr.nil n0
  have hix := own_ix (own_hz hp)
  have hi1 := ix_of hix.1
  have hi2 := ix_of (own_ix1 hp)
  refine o_aloadN B 0 1 (v := (.ref a)) d5_0 rfl rfl rfl ?_
  refine o_aloadN B 1 2 (v := (.ref a)) d5_1 rfl rfl rfl ?_
  obtain ⟨T1, B1, c1⟩ := o_getfield B 2 5 d5_2 rfl (host := "") (Or.inl (hw _ (mi 28 rfl))) Via.refl G_size (Ls := #[vr a, vj x0, s2, vi x1, us, us, us, us]) (rest := [(.ref a)])
  refine c1 ?_
  refine o_iloadN B1 5 6 (v := x1) d5_5 rfl rfl ?_
  refine o_i2l B1 6 7 d5_6 rfl ?_
  refine o_ladd B1 7 8 d5_7 rfl ?_
  obtain ⟨T2, B2, c2⟩ := o_callWPV B1 8 11 d5_8 rfl (hw _ (mi 30 rfl)) (hw _ (mi 32 rfl)) (hw _ (mi 12 rfl)) (hw _ (mi 31 rfl)) (hw _ (mi 13 rfl)) (hw _ (mi 33 rfl)) (by decide) hE (rm6 l Z a0 hw a g yw (z + x1.toInt64) h0 G_words A_yw (own_rsv hp)) 0 [(.long (z + x1.toInt64))] [] pd__J_V rfl rfl (st := [(.long (z + x1.toInt64)), (.ref a)]) rfl (Ls := #[vr a, vj x0, s2, vi x1, us, us, us, us]) rfl (Nat.le_of_eq rfl) (by decide) (by decide) (by decide) (by decide)
  refine c2 ?_
  refine o_iloadN B2 11 12 (v := x1) d5_11 rfl rfl ?_
  by_cases k1 : x1 = 0
  · refine o_ifN B2 12 15 d5_12 rfl (XT.i0_ne_f k1) ?_
    exact o_retV B2 15 d5_15 hret hlk (by decide) (by decide) ⟨rfl, N0, (Keep.refl h0 [a, yw]), g, z, G_words, G_size, A_yw, (own_wpz k1)⟩
  · refine o_ifY B2 12 16 d5_12 (XT.i0_ne_t k1) (by decide) (by decide) ?_
    refine o_iloadN B2 16 17 (v := x1) d5_16 rfl rfl ?_
    refine o_bipush B2 17 19 (64 : Int32) d5_17 rfl (by decide) ?_
    have dm2 : ∀ {P : Outcome → State → Prop}, OG p.tables e below P (T2.setTop (mkF m 37 #[vr a, vj x0, s2, vi x1, us, us, us, us] [(.long (q5_1 g z x0 x1))])) → OG p.tables e below P (T2.setTop (mkF m 19 #[vr a, vj x0, s2, vi x1, us, us, us, us] [(.int (64 : Int32)), (.int x1)])) := by
      intro P k
      by_cases k3 : x1 = (64 : Int32)
      · refine o_icN B2 19 22 d5_19 rfl (XT.ii_ne_f k3) ?_
        refine o_lloadN B2 22 23 (v := x0) d5_22 rfl rfl ?_
        refine o_goto B2 23 37 d5_23 (by decide) (by decide) ?_
        have y0 : (q5_1 g z x0 x1) = x0 := by simp only [q5_1, if_pos k3]
        rw [y0] at k
        exact k
      · refine o_icY B2 19 26 d5_19 (XT.ii_ne_t k3) (by decide) (by decide) ?_
        refine o_lloadN B2 26 27 (v := x0) d5_26 rfl rfl ?_
        refine o_ldc2 B2 27 30 d5_27 rfl (hw _ (mi 53 rfl)) ?_
        refine o_iloadN B2 30 31 (v := x1) d5_30 rfl rfl ?_
        refine o_lshl B2 31 32 d5_31 rfl ?_
        refine o_ldc2 B2 32 35 d5_32 rfl (hw _ (mi 53 rfl)) ?_
        refine o_lxor B2 35 36 d5_35 rfl ?_
        refine o_land B2 36 37 d5_36 rfl ?_
        have y0 : (q5_1 g z x0 x1) = (x0 &&& (((-1 : Int64) <<< (x1.toInt64 &&& 63)) ^^^ (-1 : Int64))) := by simp only [q5_1, if_neg k3]
        rw [y0] at k
        exact k
    refine dm2 ?_
    refine o_lstore B2 37 39 (l' := #[vr a, vj x0, s2, vi x1, vj (q5_2 g z x0 x1), s2, us, us]) d5_37 rfl rfl ?_
    refine o_aloadN B2 39 40 (v := (.ref a)) d5_39 rfl rfl rfl ?_
    obtain ⟨T5, B5, c5⟩ := o_getfield B2 40 43 d5_40 rfl (host := "") (Or.inl (hw _ (mi 28 rfl))) Via.refl G_size (Ls := #[vr a, vj x0, s2, vi x1, vj (q5_2 g z x0 x1), s2, us, us]) (rest := [])
    refine c5 ?_
    refine o_bipush B5 43 45 (6 : Int32) d5_43 rfl (by decide) ?_
    refine o_lushr B5 45 46 d5_45 rfl ?_
    refine o_l2i B5 46 47 d5_46 rfl ?_
    refine o_istore B5 47 49 (l' := #[vr a, vj x0, s2, vi x1, vj (q5_2 g z x0 x1), s2, vi (XT.ushrL z (6 : Int32)).toInt32, us]) d5_47 rfl rfl ?_
    refine o_aloadN B5 49 50 (v := (.ref a)) d5_49 rfl rfl rfl ?_
    obtain ⟨T6, B6, c6⟩ := o_getfield B5 50 53 d5_50 rfl (host := "") (Or.inl (hw _ (mi 28 rfl))) Via.refl G_size (Ls := #[vr a, vj x0, s2, vi x1, vj (q5_2 g z x0 x1), s2, vi (XT.ushrL z (6 : Int32)).toInt32, us]) (rest := [])
    refine c6 ?_
    refine o_l2i B6 53 54 d5_53 rfl ?_
    refine o_bipush B6 54 56 (63 : Int32) d5_54 rfl (by decide) ?_
    refine o_iand B6 56 57 d5_56 rfl ?_
    refine o_istore B6 57 59 (l' := #[vr a, vj x0, s2, vi x1, vj (q5_2 g z x0 x1), s2, vi (XT.ushrL z (6 : Int32)).toInt32, vi (q5_3 g z x0 x1)]) d5_57 rfl rfl ?_
    refine o_aloadN B6 59 60 (v := (.ref a)) d5_59 rfl rfl rfl ?_
    obtain ⟨T7, B7, c7⟩ := o_getfield B6 60 63 d5_60 rfl (host := "") (Or.inl (hw _ (mi 21 rfl))) Via.refl G_words (Ls := #[vr a, vj x0, s2, vi x1, vj (q5_2 g z x0 x1), s2, vi (XT.ushrL z (6 : Int32)).toInt32, vi (q5_3 g z x0 x1)]) (rest := [])
    refine c7 ?_
    refine o_iload B7 63 65 (v := (XT.ushrL z (6 : Int32)).toInt32) d5_63 rfl rfl ?_
    refine o_dup2 B7 65 66 d5_65 rfl rfl rfl ?_
    refine o_laload B7 66 67 A_yw (z.toInt.toNat / 64) (g (z.toInt.toNat / 64)) d5_66 rfl hi1.1 hi1.2 (own_i8 hp) rfl ?_
    refine o_lload B7 67 69 (v := (q5_2 g z x0 x1)) d5_67 rfl rfl ?_
    refine o_iload B7 69 71 (v := (q5_3 g z x0 x1)) d5_69 rfl rfl ?_
    refine o_lshl B7 71 72 d5_71 rfl ?_
    refine o_lor B7 72 73 d5_72 rfl ?_
    obtain ⟨T9, h9, L9, B9, N9, W9, Q9, c9⟩ := o_lastore B7 N0 ge_yw 73 74 A_yw (j := (XT.ushrL z (6 : Int32)).toInt32) (x := ((g (z.toInt.toNat / 64)) ||| ((q5_2 g z x0 x1) <<< ((q5_3 g z x0 x1).toInt64 &&& 63)))) (z.toInt.toNat / 64) (q5_4 g z x0 x1) d5_73 rfl hi1.1 hi1.2 (own_i8 hp) rfl (Ls := #[vr a, vj x0, s2, vi x1, vj (q5_2 g z x0 x1), s2, vi (XT.ushrL z (6 : Int32)).toInt32, vi (q5_3 g z x0 x1)]) (rest := [])
    have A9 : AJ Z h9 yw 8 (w5_5 g z x0 x1) := Q9
    refine c9 ?_
    refine o_iload B9 74 76 (v := (q5_3 g z x0 x1)) d5_74 rfl rfl ?_
    refine o_iloadN B9 76 77 (v := x1) d5_76 rfl rfl ?_
    refine o_iadd B9 77 78 d5_77 rfl ?_
    refine o_bipush B9 78 80 (64 : Int32) d5_78 rfl (by decide) ?_
    by_cases k4 : (64 : Int32) < ((q5_3 g z x0 x1) + x1)
    · refine o_icN B9 80 83 d5_80 rfl (XT.ii_le_f k4) ?_
      refine o_aloadN B9 83 84 (v := (.ref a)) d5_83 rfl rfl rfl ?_
      have F11 := (Fld.other W9 G_words (Or.inl ne_a_yw))
      obtain ⟨T10, B10, c10⟩ := o_getfield B9 84 87 d5_84 rfl (host := "") (Or.inl (hw _ (mi 21 rfl))) Via.refl F11 (Ls := #[vr a, vj x0, s2, vi x1, vj (q5_2 g z x0 x1), s2, vi (XT.ushrL z (6 : Int32)).toInt32, vi (q5_3 g z x0 x1)]) (rest := [])
      refine c10 ?_
      refine o_iload B10 87 89 (v := (XT.ushrL z (6 : Int32)).toInt32) d5_87 rfl rfl ?_
      refine o_iconst B10 89 90 (1 : Int32) d5_89 rfl (by decide) ?_
      refine o_iadd B10 90 91 d5_90 rfl ?_
      refine o_dup2 B10 91 92 d5_91 rfl rfl rfl ?_
      refine o_laload B10 92 93 A9 (z.toInt.toNat / 64 + 1) ((w5_5 g z x0 x1) (z.toInt.toNat / 64 + 1)) d5_92 rfl hi2.1 hi2.2 (own_i9 hp) rfl ?_
      refine o_lload B10 93 95 (v := (q5_2 g z x0 x1)) d5_93 rfl rfl ?_
      refine o_bipush B10 95 97 (64 : Int32) d5_95 rfl (by decide) ?_
      refine o_iload B10 97 99 (v := (q5_3 g z x0 x1)) d5_97 rfl rfl ?_
      refine o_isub B10 99 100 d5_99 rfl ?_
      refine o_lushr B10 100 101 d5_100 rfl ?_
      refine o_lor B10 101 102 d5_101 rfl ?_
      obtain ⟨T13, h13, L13, B13, N13, W13, Q13, c13⟩ := o_lastore B10 N9 ge_yw 102 103 A9 (j := ((XT.ushrL z (6 : Int32)).toInt32 + (1 : Int32))) (x := (((w5_5 g z x0 x1) (z.toInt.toNat / 64 + 1)) ||| (XT.ushrL (q5_2 g z x0 x1) ((64 : Int32) - (q5_3 g z x0 x1))))) (z.toInt.toNat / 64 + 1) (q5_6 g z x0 x1) d5_102 rfl hi2.1 hi2.2 (own_i9 hp) rfl (Ls := #[vr a, vj x0, s2, vi x1, vj (q5_2 g z x0 x1), s2, vi (XT.ushrL z (6 : Int32)).toInt32, vi (q5_3 g z x0 x1)]) (rest := [])
      have A13 : AJ Z h13 yw 8 (w5_7 g z x0 x1) := Q13
      refine c13 ?_
      refine o_aloadN B13 103 104 (v := (.ref a)) d5_103 rfl rfl rfl ?_
      refine o_dup B13 104 105 d5_104 rfl rfl ?_
      have F15 := (Fld.other W13 (Fld.other W9 G_size (Or.inl ne_a_yw)) (Or.inl ne_a_yw))
      obtain ⟨T14, B14, c14⟩ := o_getfield B13 105 108 d5_105 rfl (host := "") (Or.inl (hw _ (mi 28 rfl))) Via.refl F15 (Ls := #[vr a, vj x0, s2, vi x1, vj (q5_2 g z x0 x1), s2, vi (XT.ushrL z (6 : Int32)).toInt32, vi (q5_3 g z x0 x1)]) (rest := [(.ref a)])
      refine c14 ?_
      refine o_iloadN B14 108 109 (v := x1) d5_108 rfl rfl ?_
      refine o_i2l B14 109 110 d5_109 rfl ?_
      refine o_ladd B14 110 111 d5_110 rfl ?_
      have F17 := (Exa.wr W13 (Exa.wr W9 hE))
      obtain ⟨T16, h16, L16, B16, N16, W16, c16⟩ := o_putfield B14 N13 ge_a 111 114 (v := (.long (z + x1.toInt64))) d5_111 rfl (host := "") (Or.inl (hw _ (mi 28 rfl))) Via.refl F15 F17 (Or.inl (hw _ (mi 29 rfl))) (hw _ (mi 12 rfl)) (ty := .long) (by decide) rfl rfl (Ls := #[vr a, vj x0, s2, vi x1, vj (q5_2 g z x0 x1), s2, vi (XT.ushrL z (6 : Int32)).toInt32, vi (q5_3 g z x0 x1)]) (rest := [])
      have F16 : Fld Z h16 a "com/example/micro_ranker/microranker/engine/BitWriter" "size" "J" (.long (z + x1.toInt64)) := Fld.same W16 F15
      refine c16 ?_
      have F18 := (Fld.other W16 (Fld.other W13 F11 (Or.inl ne_a_yw)) (Or.inr (sn0 hw)))
      have F19 := (A13.other W16 (Ne.symm ne_a_yw))
      have KT20 := ((((Keep.refl h0 [a, yw]).wr W9 (Or.inl (mi 1 rfl))).wr W13 (Or.inl (mi 1 rfl))).wr W16 (Or.inl (mi 0 rfl)))
      exact o_retV B16 114 d5_114 hret hlk (by decide) (by decide) ⟨rfl, N16, KT20, (w5_7 g z x0 x1), (z + x1.toInt64), F18, F16, F19, (own_wps hp k1 k4)⟩
    · refine o_icY B9 80 103 d5_80 (XT.ii_le_t k4) (by decide) (by decide) ?_
      refine o_aloadN B9 103 104 (v := (.ref a)) d5_103 rfl rfl rfl ?_
      refine o_dup B9 104 105 d5_104 rfl rfl ?_
      have F22 := (Fld.other W9 G_size (Or.inl ne_a_yw))
      obtain ⟨T21, B21, c21⟩ := o_getfield B9 105 108 d5_105 rfl (host := "") (Or.inl (hw _ (mi 28 rfl))) Via.refl F22 (Ls := #[vr a, vj x0, s2, vi x1, vj (q5_2 g z x0 x1), s2, vi (XT.ushrL z (6 : Int32)).toInt32, vi (q5_3 g z x0 x1)]) (rest := [(.ref a)])
      refine c21 ?_
      refine o_iloadN B21 108 109 (v := x1) d5_108 rfl rfl ?_
      refine o_i2l B21 109 110 d5_109 rfl ?_
      refine o_ladd B21 110 111 d5_110 rfl ?_
      have F24 := (Exa.wr W9 hE)
      obtain ⟨T23, h23, L23, B23, N23, W23, c23⟩ := o_putfield B21 N9 ge_a 111 114 (v := (.long (z + x1.toInt64))) d5_111 rfl (host := "") (Or.inl (hw _ (mi 28 rfl))) Via.refl F22 F24 (Or.inl (hw _ (mi 29 rfl))) (hw _ (mi 12 rfl)) (ty := .long) (by decide) rfl rfl (Ls := #[vr a, vj x0, s2, vi x1, vj (q5_2 g z x0 x1), s2, vi (XT.ushrL z (6 : Int32)).toInt32, vi (q5_3 g z x0 x1)]) (rest := [])
      have F23 : Fld Z h23 a "com/example/micro_ranker/microranker/engine/BitWriter" "size" "J" (.long (z + x1.toInt64)) := Fld.same W23 F22
      refine c23 ?_
      have F25 := (Fld.other W23 (Fld.other W9 G_words (Or.inl ne_a_yw)) (Or.inr (sn0 hw)))
      have F26 := (A9.other W23 (Ne.symm ne_a_yw))
      have KT27 := (((Keep.refl h0 [a, yw]).wr W9 (Or.inl (mi 1 rfl))).wr W23 (Or.inl (mi 0 rfl)))
      exact o_retV B23 114 d5_114 hret hlk (by decide) (by decide) ⟨rfl, N23, KT27, (w5_5 g z x0 x1), (z + x1.toInt64), F25, F23, F26, (own_wpn hp k1 k4)⟩
theorem own_am2 (s : Int32) (n : Nat) (hs : s.toInt = n) : (s.toInt64 &&& 63).toBitVec = BitVec.ofNat 64 (n % 64) := by
  have m := c_maskL s.toInt64 63 6 (by decide) (by decide)
  have e := c_i2l s
  have q : s.toInt64 &&& 63 = Int64.ofNat (n % 64) := by
    apply Int64.toInt_inj.mp
    rw [Int64.toInt_ofNat_of_lt (by omega), m, e, hs]
    omega
  rw [q]
  rfl
theorem own_sbs (g : Nat → Int64) (n : Nat) (s : Int32) (hs : s.toInt = n) (p : Nat) (hp : p < n) : bitAt (fun j => if j = n / 64 then g (n / 64) ||| ((1 : Int64) <<< (s.toInt64 &&& 63)) else g j) p = bitAt g p := by
  unfold bitAt
  dsimp only
  by_cases q : p / 64 = n / 64
  · rw [if_pos q, Int64.toBitVec_or, BitVec.getLsbD_or, Int64.toBitVec_shiftLeft, own_am2 s n hs, BitVec.shiftLeft_eq', smod64 (n % 64) (Nat.mod_lt _ (by decide)), BitVec.getLsbD_shiftLeft, decide_eq_true (show p % 64 < n % 64 by omega), q]
    simp
  · rw [if_neg q]
theorem d20_0 : decode prog_16_method_7_code 0 = .ok (.aload_n 0, 1) := by decide +kernel
theorem d20_1 : decode prog_16_method_7_code 1 = .ok (.getfield 9, 3) := by decide +kernel
theorem d20_4 : decode prog_16_method_7_code 4 = .ok (.lload_n 1, 1) := by decide +kernel
theorem d20_5 : decode prog_16_method_7_code 5 = .ok (.bipush 6, 2) := by decide +kernel
theorem d20_7 : decode prog_16_method_7_code 7 = .ok (.lushr, 1) := by decide +kernel
theorem d20_8 : decode prog_16_method_7_code 8 = .ok (.l2i, 1) := by decide +kernel
theorem d20_9 : decode prog_16_method_7_code 9 = .ok (.dup2, 1) := by decide +kernel
theorem d20_10 : decode prog_16_method_7_code 10 = .ok (.laload, 1) := by decide +kernel
theorem d20_11 : decode prog_16_method_7_code 11 = .ok (.lconst 1, 1) := by decide +kernel
theorem d20_12 : decode prog_16_method_7_code 12 = .ok (.lload_n 1, 1) := by decide +kernel
theorem d20_13 : decode prog_16_method_7_code 13 = .ok (.l2i, 1) := by decide +kernel
theorem d20_14 : decode prog_16_method_7_code 14 = .ok (.lshl, 1) := by decide +kernel
theorem d20_15 : decode prog_16_method_7_code 15 = .ok (.lor, 1) := by decide +kernel
theorem d20_16 : decode prog_16_method_7_code 16 = .ok (.lastore, 1) := by decide +kernel
theorem d20_17 : decode prog_16_method_7_code 17 = .ok (.return_, 1) := by decide +kernel
theorem pl20 : plainFor (⟨"com/example/micro_ranker/microranker/engine/BitWriter", "set", "(J)V"⟩ : MethodName) = true := by first | exact plainFor_of_name (by first | (simp [plainName, overriddenIn]; done) | decide +kernel) | decide +kernel
def q20_1 (g : Nat → Int64) (z x0 : Int64) : Int64 := ((g (x0.toInt.toNat / 64)) ||| ((1 : Int64) <<< (x0.toInt32.toInt64 &&& 63)))
def w20_2 (g : Nat → Int64) (z x0 : Int64) : Nat → Int64 := fun j => if j = (x0.toInt.toNat / 64) then (q20_1 g z x0) else g j
def Q20 (Z : State) (a : Addr) (yw : Addr) (g : Nat → Int64) (z : Int64) (x0 : Int64) (h0 : Heap) (n0 : Nat) (v : Option Value) (h : Heap) (L : List Loc) : Prop := v = none ∧ Fr n0 L ∧ Keep h0 h [a, yw] ∧ ∃ (g' : Nat → Int64) (s : Int64), Fld Z h a "com/example/micro_ranker/microranker/engine/BitWriter" "words" "[J" (.ref yw) ∧ Fld Z h a "com/example/micro_ranker/microranker/engine/BitWriter" "size" "J" (.long s) ∧ AJ Z h yw 8 g' ∧ s = z ∧ ∀ p, p < x0.toInt.toNat → bitAt g' p = bitAt g p
theorem own_sb {g : Nat → Int64} {z x0 : Int64} (h : 0 ≤ x0.toInt ∧ x0.toInt ≤ 511) : ∀ p, p < x0.toInt.toNat → bitAt ((w20_2 g z x0)) p = bitAt g p := by
  intro p hp
  have d := c_l2i x0
  have r := rng32 x0.toInt32
  exact own_sbs g x0.toInt.toNat x0.toInt32 (by omega) p hp
set_option maxRecDepth 65536 in
set_option maxHeartbeats 400000000 in
theorem rm20 (l : Launch) (Z : State) (a0 : Array Value) (hw : ∀ d ∈ tables_1, d.before a0 Z = true) (a : Addr) (yw : Addr) (g : Nat → Int64) (z : Int64) (x0 : Int64) (h0 : Heap) (n0 : Nat) (hz : n0 ≤ h0.size) (ge_a : n0 ≤ a) (ge_yw : n0 ≤ yw) (hE : Exa Z h0 a "com/example/micro_ranker/microranker/engine/BitWriter") (G_words : Fld Z h0 a "com/example/micro_ranker/microranker/engine/BitWriter" "words" "[J" (.ref yw)) (G_size : Fld Z h0 a "com/example/micro_ranker/microranker/engine/BitWriter" "size" "J" (.long z)) (A_yw : AJ Z h0 yw 8 g) (ne_a_yw : a ≠ yw) (hp : 0 ≤ x0.toInt ∧ x0.toInt ≤ 511) :
    Met l Z (⟨"com/example/micro_ranker/microranker/engine/BitWriter", "set", "(J)V"⟩ : MethodName) prog_16_method_7_code 3 none ({ frames := 0, cells := 0, slots := 0, locals := 0 } : Room) #[(.ref a), (.long x0)] h0 (Q20 Z a yw g z x0 h0 n0) := by
  refine enter pl20 #[vr a, vj x0, s2] rfl ?_
  intro p e s m below meth c T B hret hlk hnm
  have N0 := Fr.nil n0
  have hix := own_ix hp
  have hi1 := ix_of hix.1
  refine o_aloadN B 0 1 (v := (.ref a)) d20_0 rfl rfl rfl ?_
  obtain ⟨T1, B1, c1⟩ := o_getfield B 1 4 d20_1 rfl (host := "") (Or.inl (hw _ (mi 21 rfl))) Via.refl G_words (Ls := #[vr a, vj x0, s2]) (rest := [])
  refine c1 ?_
  refine o_lloadN B1 4 5 (v := x0) d20_4 rfl rfl ?_
  refine o_bipush B1 5 7 (6 : Int32) d20_5 rfl (by decide) ?_
  refine o_lushr B1 7 8 d20_7 rfl ?_
  refine o_l2i B1 8 9 d20_8 rfl ?_
  refine o_dup2 B1 9 10 d20_9 rfl rfl rfl ?_
  refine o_laload B1 10 11 A_yw (x0.toInt.toNat / 64) (g (x0.toInt.toNat / 64)) d20_10 rfl hi1.1 hi1.2 (by omega) rfl ?_
  refine o_lconst B1 11 12 (1 : Int64) d20_11 rfl (by decide) ?_
  refine o_lloadN B1 12 13 (v := x0) d20_12 rfl rfl ?_
  refine o_l2i B1 13 14 d20_13 rfl ?_
  refine o_lshl B1 14 15 d20_14 rfl ?_
  refine o_lor B1 15 16 d20_15 rfl ?_
  obtain ⟨T3, h3, L3, B3, N3, W3, Q3, c3⟩ := o_lastore B1 N0 ge_yw 16 17 A_yw (j := (XT.ushrL x0 (6 : Int32)).toInt32) (x := ((g (x0.toInt.toNat / 64)) ||| ((1 : Int64) <<< (x0.toInt32.toInt64 &&& 63)))) (x0.toInt.toNat / 64) (q20_1 g z x0) d20_16 rfl hi1.1 hi1.2 (by omega) rfl (Ls := #[vr a, vj x0, s2]) (rest := [])
  have A3 : AJ Z h3 yw 8 (w20_2 g z x0) := Q3
  refine c3 ?_
  have F4 := (Fld.other W3 G_words (Or.inl ne_a_yw))
  have F5 := (Fld.other W3 G_size (Or.inl ne_a_yw))
  exact o_retV B3 17 d20_17 hret hlk (by decide) (by decide) ⟨rfl, N3, ((Keep.refl h0 [a, yw]).wr W3 (Or.inl (mi 1 rfl))), (w20_2 g z x0), z, F4, F5, A3, rfl, (own_sb hp)⟩
theorem own_skp {z x0 : Int64} (h : 0 ≤ z.toInt ∧ 0 ≤ x0.toInt ∧ z.toInt + x0.toInt ≤ 447) : (0 ≤ (z + x0).toInt ∧ (z + x0).toInt ≤ 447) ∧ (z + x0).toInt = z.toInt + x0.toInt := by
  have a := c_ladd z x0
  have r := rng64 (z + x0)
  omega
theorem d19_0 : decode prog_16_method_6_code 0 = .ok (.aload_n 0, 1) := by decide +kernel
theorem d19_1 : decode prog_16_method_6_code 1 = .ok (.aload_n 0, 1) := by decide +kernel
theorem d19_2 : decode prog_16_method_6_code 2 = .ok (.getfield 15, 3) := by decide +kernel
theorem d19_5 : decode prog_16_method_6_code 5 = .ok (.lload_n 1, 1) := by decide +kernel
theorem d19_6 : decode prog_16_method_6_code 6 = .ok (.ladd, 1) := by decide +kernel
theorem d19_7 : decode prog_16_method_6_code 7 = .ok (.invokevirtual 19, 3) := by decide +kernel
theorem d19_10 : decode prog_16_method_6_code 10 = .ok (.aload_n 0, 1) := by decide +kernel
theorem d19_11 : decode prog_16_method_6_code 11 = .ok (.dup, 1) := by decide +kernel
theorem d19_12 : decode prog_16_method_6_code 12 = .ok (.getfield 15, 3) := by decide +kernel
theorem d19_15 : decode prog_16_method_6_code 15 = .ok (.lload_n 1, 1) := by decide +kernel
theorem d19_16 : decode prog_16_method_6_code 16 = .ok (.ladd, 1) := by decide +kernel
theorem d19_17 : decode prog_16_method_6_code 17 = .ok (.putfield 15, 3) := by decide +kernel
theorem d19_20 : decode prog_16_method_6_code 20 = .ok (.return_, 1) := by decide +kernel
theorem pl19 : plainFor (⟨"com/example/micro_ranker/microranker/engine/BitWriter", "skip", "(J)V"⟩ : MethodName) = true := by first | exact plainFor_of_name (by first | (simp [plainName, overriddenIn]; done) | decide +kernel) | decide +kernel
def Q19 (Z : State) (a : Addr) (yw : Addr) (g : Nat → Int64) (z : Int64) (x0 : Int64) (h0 : Heap) (n0 : Nat) (v : Option Value) (h : Heap) (L : List Loc) : Prop := v = none ∧ Fr n0 L ∧ Keep h0 h [a, yw] ∧ ∃ (g' : Nat → Int64) (s : Int64), Fld Z h a "com/example/micro_ranker/microranker/engine/BitWriter" "words" "[J" (.ref yw) ∧ Fld Z h a "com/example/micro_ranker/microranker/engine/BitWriter" "size" "J" (.long s) ∧ AJ Z h yw 8 g' ∧ g' = g ∧ s.toInt = z.toInt + x0.toInt
set_option maxRecDepth 65536 in
set_option maxHeartbeats 400000000 in
theorem rm19 (l : Launch) (Z : State) (a0 : Array Value) (hw : ∀ d ∈ tables_1, d.before a0 Z = true) (a : Addr) (yw : Addr) (g : Nat → Int64) (z : Int64) (x0 : Int64) (h0 : Heap) (n0 : Nat) (hz : n0 ≤ h0.size) (ge_a : n0 ≤ a) (ge_yw : n0 ≤ yw) (hE : Exa Z h0 a "com/example/micro_ranker/microranker/engine/BitWriter") (G_words : Fld Z h0 a "com/example/micro_ranker/microranker/engine/BitWriter" "words" "[J" (.ref yw)) (G_size : Fld Z h0 a "com/example/micro_ranker/microranker/engine/BitWriter" "size" "J" (.long z)) (A_yw : AJ Z h0 yw 8 g) (ne_a_yw : a ≠ yw) (hp : 0 ≤ z.toInt ∧ 0 ≤ x0.toInt ∧ z.toInt + x0.toInt ≤ 447) :
    Met l Z (⟨"com/example/micro_ranker/microranker/engine/BitWriter", "skip", "(J)V"⟩ : MethodName) prog_16_method_6_code 3 none ({ frames := 1, cells := 0, slots := 0, locals := 16 } : Room) #[(.ref a), (.long x0)] h0 (Q19 Z a yw g z x0 h0 n0) := by
  refine enter pl19 #[vr a, vj x0, s2] rfl ?_
  intro p e s m below meth c T B hret hlk hnm
  have N0 := Fr.nil n0
  refine o_aloadN B 0 1 (v := (.ref a)) d19_0 rfl rfl rfl ?_
  refine o_aloadN B 1 2 (v := (.ref a)) d19_1 rfl rfl rfl ?_
  obtain ⟨T1, B1, c1⟩ := o_getfield B 2 5 d19_2 rfl (host := "") (Or.inl (hw _ (mi 28 rfl))) Via.refl G_size (Ls := #[vr a, vj x0, s2]) (rest := [(.ref a)])
  refine c1 ?_
  refine o_lloadN B1 5 6 (v := x0) d19_5 rfl rfl ?_
  refine o_ladd B1 6 7 d19_6 rfl ?_
  obtain ⟨T2, B2, c2⟩ := o_callWPV B1 7 10 d19_7 rfl (hw _ (mi 30 rfl)) (hw _ (mi 32 rfl)) (hw _ (mi 12 rfl)) (hw _ (mi 31 rfl)) (hw _ (mi 13 rfl)) (hw _ (mi 33 rfl)) (by decide) hE (rm6 l Z a0 hw a g yw (z + x0) h0 G_words A_yw (own_skp hp).1) 0 [(.long (z + x0))] [] pd__J_V rfl rfl (st := [(.long (z + x0)), (.ref a)]) rfl (Ls := #[vr a, vj x0, s2]) rfl (Nat.le_of_eq rfl) (by decide) (by decide) (by decide) (by decide)
  refine c2 ?_
  refine o_aloadN B2 10 11 (v := (.ref a)) d19_10 rfl rfl rfl ?_
  refine o_dup B2 11 12 d19_11 rfl rfl ?_
  obtain ⟨T3, B3, c3⟩ := o_getfield B2 12 15 d19_12 rfl (host := "") (Or.inl (hw _ (mi 28 rfl))) Via.refl G_size (Ls := #[vr a, vj x0, s2]) (rest := [(.ref a)])
  refine c3 ?_
  refine o_lloadN B3 15 16 (v := x0) d19_15 rfl rfl ?_
  refine o_ladd B3 16 17 d19_16 rfl ?_
  obtain ⟨T4, h4, L4, B4, N4, W4, c4⟩ := o_putfield B3 N0 ge_a 17 20 (v := (.long (z + x0))) d19_17 rfl (host := "") (Or.inl (hw _ (mi 28 rfl))) Via.refl G_size hE (Or.inl (hw _ (mi 29 rfl))) (hw _ (mi 12 rfl)) (ty := .long) (by decide) rfl rfl (Ls := #[vr a, vj x0, s2]) (rest := [])
  have F4 : Fld Z h4 a "com/example/micro_ranker/microranker/engine/BitWriter" "size" "J" (.long (z + x0)) := Fld.same W4 G_size
  refine c4 ?_
  have F5 := (Fld.other W4 G_words (Or.inr (sn0 hw)))
  have F6 := (A_yw.other W4 (Ne.symm ne_a_yw))
  exact o_retV B4 20 d19_20 hret hlk (by decide) (by decide) ⟨rfl, N4, ((Keep.refl h0 [a, yw]).wr W4 (Or.inl (mi 0 rfl))), g, (z + x0), F5, F4, F6, rfl, (own_skp hp).2⟩
theorem d11_0 : decode prog_16_method_2_code 0 = .ok (.aload_n 0, 1) := by decide +kernel
theorem d11_1 : decode prog_16_method_2_code 1 = .ok (.getfield 15, 3) := by decide +kernel
theorem d11_4 : decode prog_16_method_2_code 4 = .ok (.lreturn, 1) := by decide +kernel
theorem pl11 : plainFor (⟨"com/example/micro_ranker/microranker/engine/BitWriter", "size", "()J"⟩ : MethodName) = true := by first | exact plainFor_of_name (by first | (simp [plainName, overriddenIn]; done) | decide +kernel) | decide +kernel
def f11 (z : Int64) : Int64 := z
set_option maxRecDepth 65536 in
set_option maxHeartbeats 40000000 in
theorem rm11 (l : Launch) (Z : State) (a0 : Array Value) (hw : ∀ d ∈ tables_1, d.before a0 Z = true) (a : Addr) (z : Int64) (h0 : Heap) (G0 : Fld Z h0 a "com/example/micro_ranker/microranker/engine/BitWriter" "size" "J" (.long z)) :
    Met l Z (⟨"com/example/micro_ranker/microranker/engine/BitWriter", "size", "()J"⟩ : MethodName) prog_16_method_2_code 1 (some .long) ({ frames := 0, cells := 0, slots := 0, locals := 0 } : Room) #[(.ref a)] h0 (Pu (some (.long (f11 z))) h0) := by
  refine enter pl11 #[vr a] rfl ?_
  intro p e s m below meth c T B hret hlk hnm
  · refine o_aloadN B 0 1 (v := (.ref a)) d11_0 rfl rfl rfl ?_
    obtain ⟨T1, B1, c1⟩ := o_getfield B 1 4 d11_1 rfl (host := "") (Or.inl (hw _ (mi 28 rfl))) Via.refl G0 (Ls := #[vr a]) (rest := [])
    refine c1 ?_
    refine o_retL B1 4 d11_4 hret hlk (by decide) (by decide) ⟨(congrArg (fun z => some (Value.long z)) (show f11 z = z from rfl)).symm, rfl, rfl⟩
theorem d13_0 : decode prog_16_method_3_code 0 = .ok (.aload_n 0, 1) := by decide +kernel
theorem d13_1 : decode prog_16_method_3_code 1 = .ok (.getfield 9, 3) := by decide +kernel
theorem d13_4 : decode prog_16_method_3_code 4 = .ok (.areturn, 1) := by decide +kernel
theorem pl13 : plainFor (⟨"com/example/micro_ranker/microranker/engine/BitWriter", "words", "()[J"⟩ : MethodName) = true := by first | exact plainFor_of_name (by first | (simp [plainName, overriddenIn]; done) | decide +kernel) | decide +kernel
def Q13 (Z : State) (a : Addr) (yw : Addr) (h0 : Heap) (n0 : Nat) (v : Option Value) (h : Heap) (L : List Loc) : Prop := v = some (.ref yw) ∧ Fr n0 L ∧ Keep h0 h [] ∧ Fld Z h a "com/example/micro_ranker/microranker/engine/BitWriter" "words" "[J" (.ref yw)
set_option maxRecDepth 65536 in
set_option maxHeartbeats 400000000 in
theorem rm13 (l : Launch) (Z : State) (a0 : Array Value) (hw : ∀ d ∈ tables_1, d.before a0 Z = true) (a : Addr) (yw : Addr) (h0 : Heap) (n0 : Nat) (hz : n0 ≤ h0.size) (hE : Exa Z h0 a "com/example/micro_ranker/microranker/engine/BitWriter") (G_words : Fld Z h0 a "com/example/micro_ranker/microranker/engine/BitWriter" "words" "[J" (.ref yw)) :
    Met l Z (⟨"com/example/micro_ranker/microranker/engine/BitWriter", "words", "()[J"⟩ : MethodName) prog_16_method_3_code 1 (some (.array .long)) ({ frames := 0, cells := 0, slots := 0, locals := 0 } : Room) #[(.ref a)] h0 (Q13 Z a yw h0 n0) := by
  refine enter pl13 #[vr a] rfl ?_
  intro p e s m below meth c T B hret hlk hnm
  have N0 := Fr.nil n0
  refine o_aloadN B 0 1 (v := (.ref a)) d13_0 rfl rfl rfl ?_
  obtain ⟨T1, B1, c1⟩ := o_getfield B 1 4 d13_1 rfl (host := "") (Or.inl (hw _ (mi 21 rfl))) Via.refl G_words (Ls := #[vr a]) (rest := [])
  refine c1 ?_
  exact o_retA B1 4 d13_4 hret hlk rfl rfl (by decide) (by decide) ⟨rfl, N0, (Keep.refl h0 []), G_words⟩
def own_zJ : Nat → Int64 := fun _ => 0
theorem d3_0 : decode prog_16_method_1_code 0 = .ok (.aload_n 0, 1) := by decide +kernel
theorem d3_1 : decode prog_16_method_1_code 1 = .ok (.invokespecial 3, 3) := by decide +kernel
theorem d3_4 : decode prog_16_method_1_code 4 = .ok (.aload_n 0, 1) := by decide +kernel
theorem d3_5 : decode prog_16_method_1_code 5 = .ok (.bipush 8, 2) := by decide +kernel
theorem d3_7 : decode prog_16_method_1_code 7 = .ok (.newarray .long, 2) := by decide +kernel
theorem d3_9 : decode prog_16_method_1_code 9 = .ok (.putfield 9, 3) := by decide +kernel
theorem d3_12 : decode prog_16_method_1_code 12 = .ok (.return_, 1) := by decide +kernel
theorem pl3 : plainFor (⟨"com/example/micro_ranker/microranker/engine/BitWriter", "<init>", "()V"⟩ : MethodName) = true := by first | exact plainFor_of_name (by first | (simp [plainName, overriddenIn]; done) | decide +kernel) | decide +kernel
theorem sn1 {a0 Z} (hw : HW a0 Z) : SN Z "com/example/micro_ranker/microranker/engine/BitWriter" "size" "J" "words" "[J" := (slot_ne (a0 := a0) (C := "com/example/micro_ranker/microranker/engine/BitWriter") (Or.inl (hw _ (mi 29 rfl))) (Or.inl (hw _ (mi 22 rfl))) (by decide) (t := .long) (t' := (.array .long)) rfl rfl)
def Q3 (Z : State) (a : Addr) (h0 : Heap) (n0 : Nat) (v : Option Value) (h : Heap) (L : List Loc) : Prop := v = none ∧ Fr n0 L ∧ Keep h0 h [a] ∧ ∃ yw : Addr, n0 ≤ yw ∧ h0.size ≤ yw ∧ Fld Z h a "com/example/micro_ranker/microranker/engine/BitWriter" "words" "[J" (.ref yw) ∧ Fld Z h a "com/example/micro_ranker/microranker/engine/BitWriter" "size" "J" (.long (0 : Int64)) ∧ AJ Z h yw 8 own_zJ
set_option maxRecDepth 65536 in
set_option maxHeartbeats 400000000 in
theorem rm3 (l : Launch) (Z : State) (a0 : Array Value) (hw : ∀ d ∈ tables_1, d.before a0 Z = true) (a : Addr) (h0 : Heap) (n0 : Nat) (hz : n0 ≤ h0.size) (ge_a : n0 ≤ a) (hE : Exa Z h0 a "com/example/micro_ranker/microranker/engine/BitWriter") (G_words : Fld Z h0 a "com/example/micro_ranker/microranker/engine/BitWriter" "words" "[J" .null) (G_size : Fld Z h0 a "com/example/micro_ranker/microranker/engine/BitWriter" "size" "J" (.long (0 : Int64))) :
    Met l Z (⟨"com/example/micro_ranker/microranker/engine/BitWriter", "<init>", "()V"⟩ : MethodName) prog_16_method_1_code 1 none ({ frames := 1, cells := 1, slots := 8, locals := 12 } : Room) #[(.ref a)] h0 (Q3 Z a h0 n0) := by
  refine enter pl3 #[vr a] rfl ?_
  intro p e s m below meth c T B hret hlk hnm
  have N0 := Fr.nil n0
  refine o_aloadN B 0 1 (v := (.ref a)) d3_0 rfl rfl rfl ?_
  obtain ⟨T1, B1, c1⟩ := o_initO B 1 4 d3_1 rfl (hw _ (mi 17 rfl)) (hw _ (mi 18 rfl)) (hw _ (mi 19 rfl)) (a := a) (Ls := #[vr a]) (rest := []) rfl 0 (Nat.le_of_eq rfl) (by decide) (by decide)
  refine c1 ?_
  refine o_aloadN B1 4 5 (v := (.ref a)) d3_4 rfl rfl rfl ?_
  refine o_bipush B1 5 7 (8 : Int32) d3_5 rfl (by decide) ?_
  obtain ⟨a2, T2, h2, z2, B2, E2, A2, c2⟩ := o_newJ B1 7 9 (z := (8 : Int32)) 8 8 (hw _ (mi 20 rfl)) d3_7 rfl rfl (by decide) (by decide) (by decide) (by decide) (by decide) (by decide) (Ls := #[vr a]) (rest := [(.ref a)])
  have lt3 : (a : Nat) < a2 := by rw [z2]; exact hE.lt
  have g2 : n0 ≤ a2 := by rw [z2]; exact hz
  have s2 : n0 ≤ h2.size := Nat.le_trans hz E2.1
  have y2 : h0.size ≤ a2 := by rw [z2]; exact (Keep.refl h0 [a]).1
  refine c2 ?_
  have F5 := (Fld.ext E2 G_words)
  have F6 := (Exa.ext E2 hE)
  obtain ⟨T4, h4, L4, B4, N4, W4, c4⟩ := o_putfield B2 N0 ge_a 9 12 (v := (.ref a2)) d3_9 rfl (host := "") (Or.inl (hw _ (mi 21 rfl))) Via.refl F5 F6 (Or.inl (hw _ (mi 22 rfl))) (hw _ (mi 12 rfl)) (ty := (.array .long)) (by decide) rfl rfl (Ls := #[vr a]) (rest := [])
  have F4 : Fld Z h4 a "com/example/micro_ranker/microranker/engine/BitWriter" "words" "[J" (.ref a2) := Fld.same W4 F5
  refine c4 ?_
  have F7 := (Fld.other W4 (Fld.ext E2 G_size) (Or.inr (sn1 hw)))
  have F8 := (A2.other W4 (Ne.symm (Nat.ne_of_lt lt3)))
  have KT9 := (((Keep.refl h0 [a]).ext E2).wr W4 (Or.inl (mi 0 rfl)))
  exact o_retV B4 12 d3_12 hret hlk (by decide) (by decide) ⟨rfl, N4, KT9, a2, g2, y2, F4, F7, F8⟩
theorem d12_0 : decode prog_18_method_1_code 0 = .ok (.aload_n 0, 1) := by decide +kernel
theorem d12_1 : decode prog_18_method_1_code 1 = .ok (.invokespecial 5, 3) := by decide +kernel
theorem d12_4 : decode prog_18_method_1_code 4 = .ok (.return_, 1) := by decide +kernel
theorem pl12 : plainFor (⟨"com/example/micro_ranker/microranker/engine/Block", "<init>", "()V"⟩ : MethodName) = true := by first | exact plainFor_of_name (by first | (simp [plainName, overriddenIn]; done) | decide +kernel) | decide +kernel
def Q12 (Z : State) (a : Addr)  (h0 : Heap) (n0 : Nat) (v : Option Value) (h : Heap) (L : List Loc) : Prop := v = none ∧ Fr n0 L ∧ Keep h0 h [a] ∧ Fld Z h a "com/example/micro_ranker/microranker/engine/Block" "words" "[J" .null ∧ Fld Z h a "com/example/micro_ranker/microranker/engine/Block" "count" "I" (.int (0 : Int32)) ∧ Fld Z h a "com/example/micro_ranker/microranker/engine/Block" "base" "I" (.int (0 : Int32)) ∧ Fld Z h a "com/example/micro_ranker/microranker/engine/Block" "last" "I" (.int (0 : Int32)) ∧ Fld Z h a "com/example/micro_ranker/microranker/engine/Block" "frequencyWidth" "I" (.int (0 : Int32)) ∧ Fld Z h a "com/example/micro_ranker/microranker/engine/Block" "lowWidth" "I" (.int (0 : Int32)) ∧ Fld Z h a "com/example/micro_ranker/microranker/engine/Block" "entries" "J" (.long (0 : Int64)) ∧ Fld Z h a "com/example/micro_ranker/microranker/engine/Block" "highs" "J" (.long (0 : Int64)) ∧ Fld Z h a "com/example/micro_ranker/microranker/engine/Block" "entry" "I" (.int (0 : Int32)) ∧ Fld Z h a "com/example/micro_ranker/microranker/engine/Block" "position" "J" (.long (0 : Int64)) ∧ Fld Z h a "com/example/micro_ranker/microranker/engine/Block" "document" "I" (.int (0 : Int32))
set_option maxRecDepth 65536 in
set_option maxHeartbeats 40000000 in
theorem rm12 (l : Launch) (Z : State) (a0 : Array Value) (hw : ∀ d ∈ tables_1, d.before a0 Z = true) (a : Addr)  (h0 : Heap) (n0 : Nat) (hz : n0 ≤ h0.size) (ga : n0 ≤ a) (hE : Exa Z h0 a "com/example/micro_ranker/microranker/engine/Block") (G0 : Fld Z h0 a "com/example/micro_ranker/microranker/engine/Block" "words" "[J" .null) (G1 : Fld Z h0 a "com/example/micro_ranker/microranker/engine/Block" "count" "I" (.int (0 : Int32))) (G2 : Fld Z h0 a "com/example/micro_ranker/microranker/engine/Block" "base" "I" (.int (0 : Int32))) (G3 : Fld Z h0 a "com/example/micro_ranker/microranker/engine/Block" "last" "I" (.int (0 : Int32))) (G4 : Fld Z h0 a "com/example/micro_ranker/microranker/engine/Block" "frequencyWidth" "I" (.int (0 : Int32))) (G5 : Fld Z h0 a "com/example/micro_ranker/microranker/engine/Block" "lowWidth" "I" (.int (0 : Int32))) (G6 : Fld Z h0 a "com/example/micro_ranker/microranker/engine/Block" "entries" "J" (.long (0 : Int64))) (G7 : Fld Z h0 a "com/example/micro_ranker/microranker/engine/Block" "highs" "J" (.long (0 : Int64))) (G8 : Fld Z h0 a "com/example/micro_ranker/microranker/engine/Block" "entry" "I" (.int (0 : Int32))) (G9 : Fld Z h0 a "com/example/micro_ranker/microranker/engine/Block" "position" "J" (.long (0 : Int64))) (G10 : Fld Z h0 a "com/example/micro_ranker/microranker/engine/Block" "document" "I" (.int (0 : Int32))) :
    Met l Z (⟨"com/example/micro_ranker/microranker/engine/Block", "<init>", "()V"⟩ : MethodName) prog_18_method_1_code 1 none ({ frames := 1, cells := 0, slots := 0, locals := 12 } : Room) #[(.ref a)] h0 (Q12 Z a  h0 n0) := by
  refine enter pl12 #[vr a] rfl ?_
  intro p e s m below meth c T B hret hlk hnm
  have N0 := Fr.nil n0
  refine o_aloadN B 0 1 (v := (.ref a)) d12_0 rfl rfl rfl ?_
  obtain ⟨T1, B1, c1⟩ := o_initO B 1 4 d12_1 rfl (hw _ (mi 65 rfl)) (hw _ (mi 18 rfl)) (hw _ (mi 19 rfl)) (a := a) (Ls := #[vr a]) (rest := []) rfl 0 (Nat.le_of_eq rfl) (by decide) (by decide)
  refine c1 ?_
  exact o_retV B1 4 d12_4 hret hlk (by decide) (by decide) ⟨rfl, N0, (Keep.refl h0 [a]), G0, G1, G2, G3, G4, G5, G6, G7, G8, G9, G10⟩
theorem d16_0 : decode prog_17_method_5_code 0 = .ok (.lload_n 1, 1) := by decide +kernel
theorem d16_1 : decode prog_17_method_5_code 1 = .ok (.bipush 6, 2) := by decide +kernel
theorem d16_3 : decode prog_17_method_5_code 3 = .ok (.lushr, 1) := by decide +kernel
theorem d16_4 : decode prog_17_method_5_code 4 = .ok (.l2i, 1) := by decide +kernel
theorem d16_5 : decode prog_17_method_5_code 5 = .ok (.istore_n 3, 1) := by decide +kernel
theorem d16_6 : decode prog_17_method_5_code 6 = .ok (.lload_n 1, 1) := by decide +kernel
theorem d16_7 : decode prog_17_method_5_code 7 = .ok (.l2i, 1) := by decide +kernel
theorem d16_8 : decode prog_17_method_5_code 8 = .ok (.bipush 63, 2) := by decide +kernel
theorem d16_10 : decode prog_17_method_5_code 10 = .ok (.iand, 1) := by decide +kernel
theorem d16_11 : decode prog_17_method_5_code 11 = .ok (.istore 4, 2) := by decide +kernel
theorem d16_13 : decode prog_17_method_5_code 13 = .ok (.aload_n 0, 1) := by decide +kernel
theorem d16_14 : decode prog_17_method_5_code 14 = .ok (.iload_n 3, 1) := by decide +kernel
theorem d16_15 : decode prog_17_method_5_code 15 = .ok (.laload, 1) := by decide +kernel
theorem d16_16 : decode prog_17_method_5_code 16 = .ok (.iload 4, 2) := by decide +kernel
theorem d16_18 : decode prog_17_method_5_code 18 = .ok (.lushr, 1) := by decide +kernel
theorem d16_19 : decode prog_17_method_5_code 19 = .ok (.aload_n 0, 1) := by decide +kernel
theorem d16_20 : decode prog_17_method_5_code 20 = .ok (.iload_n 3, 1) := by decide +kernel
theorem d16_21 : decode prog_17_method_5_code 21 = .ok (.iconst 1, 1) := by decide +kernel
theorem d16_22 : decode prog_17_method_5_code 22 = .ok (.iadd, 1) := by decide +kernel
theorem d16_23 : decode prog_17_method_5_code 23 = .ok (.laload, 1) := by decide +kernel
theorem d16_24 : decode prog_17_method_5_code 24 = .ok (.iconst 1, 1) := by decide +kernel
theorem d16_25 : decode prog_17_method_5_code 25 = .ok (.lshl, 1) := by decide +kernel
theorem d16_26 : decode prog_17_method_5_code 26 = .ok (.bipush 63, 2) := by decide +kernel
theorem d16_28 : decode prog_17_method_5_code 28 = .ok (.iload 4, 2) := by decide +kernel
theorem d16_30 : decode prog_17_method_5_code 30 = .ok (.isub, 1) := by decide +kernel
theorem d16_31 : decode prog_17_method_5_code 31 = .ok (.lshl, 1) := by decide +kernel
theorem d16_32 : decode prog_17_method_5_code 32 = .ok (.lor, 1) := by decide +kernel
theorem d16_33 : decode prog_17_method_5_code 33 = .ok (.lreturn, 1) := by decide +kernel
theorem pl16 : plainFor (⟨"com/example/micro_ranker/microranker/engine/Bits", "window", "([JJ)J"⟩ : MethodName) = true := by first | exact plainFor_of_name (by first | (simp [plainName, overriddenIn]; done) | decide +kernel) | decide +kernel
def f16 (g : Nat → Int64) (x1 : Int64) : Int64 := ((XT.ushrL (g (x1.toInt.toNat / 64)) (x1.toInt32 &&& (63 : Int32))) ||| (((g (x1.toInt.toNat / 64 + 1)) <<< ((1 : Int32).toInt64 &&& 63)) <<< (((63 : Int32) - (x1.toInt32 &&& (63 : Int32))).toInt64 &&& 63)))
set_option maxRecDepth 65536 in
set_option maxHeartbeats 40000000 in
theorem rm16 (l : Launch) (Z : State) (a0 : Array Value) (hw : ∀ d ∈ tables_1, d.before a0 Z = true) (g : Nat → Int64) (x0 : Addr) (x1 : Int64) (h0 : Heap) (A0 : AJ Z h0 x0 8 g) (hx : 0 ≤ x1.toInt ∧ x1.toInt ≤ 447) :
    Met l Z (⟨"com/example/micro_ranker/microranker/engine/Bits", "window", "([JJ)J"⟩ : MethodName) prog_17_method_5_code 5 (some .long) ({ frames := 0, cells := 0, slots := 0, locals := 0 } : Room) #[(.ref x0), (.long x1)] h0 (Pu (some (.long (f16 g x1))) h0) := by
  refine enter pl16 #[vr x0, vj x1, s2, us, us] rfl ?_
  intro p e s m below meth c T B hret hlk hnm
  · have hix := own_ix ⟨hx.1, by omega⟩
    have hi1 := ix_of hix.1
    have hi2 := ix_of (own_ix1 (z := x1) (w := 0) ⟨hx.1, by decide, by rw [Int32.toInt_zero]; omega⟩)
    refine o_lloadN B 0 1 (v := x1) d16_0 rfl rfl ?_
    refine o_bipush B 1 3 (6 : Int32) d16_1 rfl (by decide) ?_
    refine o_lushr B 3 4 d16_3 rfl ?_
    refine o_l2i B 4 5 d16_4 rfl ?_
    refine o_istoreN B 5 6 (l' := #[vr x0, vj x1, s2, vi (XT.ushrL x1 (6 : Int32)).toInt32, us]) d16_5 rfl rfl ?_
    refine o_lloadN B 6 7 (v := x1) d16_6 rfl rfl ?_
    refine o_l2i B 7 8 d16_7 rfl ?_
    refine o_bipush B 8 10 (63 : Int32) d16_8 rfl (by decide) ?_
    refine o_iand B 10 11 d16_10 rfl ?_
    refine o_istore B 11 13 (l' := #[vr x0, vj x1, s2, vi (XT.ushrL x1 (6 : Int32)).toInt32, vi (x1.toInt32 &&& (63 : Int32))]) d16_11 rfl rfl ?_
    refine o_aloadN B 13 14 (v := (.ref x0)) d16_13 rfl rfl rfl ?_
    refine o_iloadN B 14 15 (v := (XT.ushrL x1 (6 : Int32)).toInt32) d16_14 rfl rfl ?_
    refine o_laload B 15 16 A0 (x1.toInt.toNat / 64) (g (x1.toInt.toNat / 64)) d16_15 rfl hi1.1 hi1.2 (by omega) rfl ?_
    refine o_iload B 16 18 (v := (x1.toInt32 &&& (63 : Int32))) d16_16 rfl rfl ?_
    refine o_lushr B 18 19 d16_18 rfl ?_
    refine o_aloadN B 19 20 (v := (.ref x0)) d16_19 rfl rfl rfl ?_
    refine o_iloadN B 20 21 (v := (XT.ushrL x1 (6 : Int32)).toInt32) d16_20 rfl rfl ?_
    refine o_iconst B 21 22 (1 : Int32) d16_21 rfl (by decide) ?_
    refine o_iadd B 22 23 d16_22 rfl ?_
    refine o_laload B 23 24 A0 (x1.toInt.toNat / 64 + 1) (g (x1.toInt.toNat / 64 + 1)) d16_23 rfl hi2.1 hi2.2 (by omega) rfl ?_
    refine o_iconst B 24 25 (1 : Int32) d16_24 rfl (by decide) ?_
    refine o_lshl B 25 26 d16_25 rfl ?_
    refine o_bipush B 26 28 (63 : Int32) d16_26 rfl (by decide) ?_
    refine o_iload B 28 30 (v := (x1.toInt32 &&& (63 : Int32))) d16_28 rfl rfl ?_
    refine o_isub B 30 31 d16_30 rfl ?_
    refine o_lshl B 31 32 d16_31 rfl ?_
    refine o_lor B 32 33 d16_32 rfl ?_
    refine o_retL B 33 d16_33 hret hlk (by decide) (by decide) ⟨(congrArg (fun z => some (Value.long z)) (show f16 g x1 = ((XT.ushrL (g (x1.toInt.toNat / 64)) (x1.toInt32 &&& (63 : Int32))) ||| (((g (x1.toInt.toNat / 64 + 1)) <<< ((1 : Int32).toInt64 &&& 63)) <<< (((63 : Int32) - (x1.toInt32 &&& (63 : Int32))).toInt64 &&& 63))) from rfl)).symm, rfl, rfl⟩
theorem d15_0 : decode prog_17_method_3_code 0 = .ok (.aload_n 0, 1) := by decide +kernel
theorem d15_1 : decode prog_17_method_3_code 1 = .ok (.lload_n 1, 1) := by decide +kernel
theorem d15_2 : decode prog_17_method_3_code 2 = .ok (.invokestatic 13, 3) := by decide +kernel
theorem d15_5 : decode prog_17_method_3_code 5 = .ok (.ldc2_w 19, 3) := by decide +kernel
theorem d15_8 : decode prog_17_method_3_code 8 = .ok (.iload_n 3, 1) := by decide +kernel
theorem d15_9 : decode prog_17_method_3_code 9 = .ok (.lshl, 1) := by decide +kernel
theorem d15_10 : decode prog_17_method_3_code 10 = .ok (.ldc2_w 19, 3) := by decide +kernel
theorem d15_13 : decode prog_17_method_3_code 13 = .ok (.lxor, 1) := by decide +kernel
theorem d15_14 : decode prog_17_method_3_code 14 = .ok (.land, 1) := by decide +kernel
theorem d15_15 : decode prog_17_method_3_code 15 = .ok (.l2i, 1) := by decide +kernel
theorem d15_16 : decode prog_17_method_3_code 16 = .ok (.ireturn, 1) := by decide +kernel
theorem pl15 : plainFor (⟨"com/example/micro_ranker/microranker/engine/Bits", "read", "([JJI)I"⟩ : MethodName) = true := by first | exact plainFor_of_name (by first | (simp [plainName, overriddenIn]; done) | decide +kernel) | decide +kernel
theorem pd___JJ_J : parseMethodDescriptor "([JJ)J" = some ⟨[(.array .long), .long], some .long⟩ := by decide +kernel
def f15 (g : Nat → Int64) (x1 : Int64) (x2 : Int32) : Int32 := ((f16 g x1) &&& (((-1 : Int64) <<< (x2.toInt64 &&& 63)) ^^^ (-1 : Int64))).toInt32
set_option maxRecDepth 65536 in
set_option maxHeartbeats 40000000 in
theorem rm15 (l : Launch) (Z : State) (a0 : Array Value) (hw : ∀ d ∈ tables_1, d.before a0 Z = true) (g : Nat → Int64) (x0 : Addr) (x1 : Int64) (x2 : Int32) (h0 : Heap) (A0 : AJ Z h0 x0 8 g) (hx : 0 ≤ x1.toInt ∧ x1.toInt ≤ 447) :
    Met l Z (⟨"com/example/micro_ranker/microranker/engine/Bits", "read", "([JJI)I"⟩ : MethodName) prog_17_method_3_code 4 (some .int) ({ frames := 1, cells := 0, slots := 0, locals := 16 } : Room) #[(.ref x0), (.long x1), (.int x2)] h0 (Pu (some (.int (f15 g x1 x2))) h0) := by
  refine enter pl15 #[vr x0, vj x1, s2, vi x2] rfl ?_
  intro p e s m below meth c T B hret hlk hnm
  · refine o_aloadN B 0 1 (v := (.ref x0)) d15_0 rfl rfl rfl ?_
    refine o_lloadN B 1 2 (v := x1) d15_1 rfl rfl ?_
    obtain ⟨T1, B1, c1⟩ := o_callP B 2 5 d15_2 rfl (hw _ (mi 87 rfl)) (hw _ (mi 88 rfl)) (hw _ (mi 41 rfl)) (hw _ (mi 89 rfl)) (by decide) (rm16 l Z a0 hw g x0 x1 h0 A0 hx) 0 [(.ref x0), (.long x1)] [] pd___JJ_J rfl rfl (st := [(.long x1), (.ref x0)]) rfl (Ls := #[vr x0, vj x1, s2, vi x2]) rfl (Nat.le_of_eq rfl) (by decide) (by decide) (by decide) (by decide)
    refine c1 ?_
    refine o_ldc2 B1 5 8 d15_5 rfl (hw _ (mi 90 rfl)) ?_
    refine o_iloadN B1 8 9 (v := x2) d15_8 rfl rfl ?_
    refine o_lshl B1 9 10 d15_9 rfl ?_
    refine o_ldc2 B1 10 13 d15_10 rfl (hw _ (mi 90 rfl)) ?_
    refine o_lxor B1 13 14 d15_13 rfl ?_
    refine o_land B1 14 15 d15_14 rfl ?_
    refine o_l2i B1 15 16 d15_15 rfl ?_
    refine o_retI B1 16 d15_16 hret hlk (by decide) (by decide) ⟨(congrArg (fun z => some (Value.int z)) (show f15 g x1 x2 = ((f16 g x1) &&& (((-1 : Int64) <<< (x2.toInt64 &&& 63)) ^^^ (-1 : Int64))).toInt32 from rfl)).symm, rfl, rfl⟩
theorem d17_0 : decode prog_18_method_6_code 0 = .ok (.aload_n 0, 1) := by decide +kernel
theorem d17_1 : decode prog_18_method_6_code 1 = .ok (.getfield 49, 3) := by decide +kernel
theorem d17_4 : decode prog_18_method_6_code 4 = .ok (.iconst 1, 1) := by decide +kernel
theorem d17_5 : decode prog_18_method_6_code 5 = .ok (.if_icmp .le 29, 3) := by decide +kernel
theorem d17_8 : decode prog_18_method_6_code 8 = .ok (.aload_n 0, 1) := by decide +kernel
theorem d17_9 : decode prog_18_method_6_code 9 = .ok (.getfield 49, 3) := by decide +kernel
theorem d17_12 : decode prog_18_method_6_code 12 = .ok (.i2l, 1) := by decide +kernel
theorem d17_13 : decode prog_18_method_6_code 13 = .ok (.aload_n 0, 1) := by decide +kernel
theorem d17_14 : decode prog_18_method_6_code 14 = .ok (.getfield 56, 3) := by decide +kernel
theorem d17_17 : decode prog_18_method_6_code 17 = .ok (.aload_n 0, 1) := by decide +kernel
theorem d17_18 : decode prog_18_method_6_code 18 = .ok (.getfield 53, 3) := by decide +kernel
theorem d17_21 : decode prog_18_method_6_code 21 = .ok (.isub, 1) := by decide +kernel
theorem d17_22 : decode prog_18_method_6_code 22 = .ok (.i2l, 1) := by decide +kernel
theorem d17_23 : decode prog_18_method_6_code 23 = .ok (.lconst 1, 1) := by decide +kernel
theorem d17_24 : decode prog_18_method_6_code 24 = .ok (.lsub, 1) := by decide +kernel
theorem d17_25 : decode prog_18_method_6_code 25 = .ok (.aload_n 0, 1) := by decide +kernel
theorem d17_26 : decode prog_18_method_6_code 26 = .ok (.getfield 66, 3) := by decide +kernel
theorem d17_29 : decode prog_18_method_6_code 29 = .ok (.lushr, 1) := by decide +kernel
theorem d17_30 : decode prog_18_method_6_code 30 = .ok (.ladd, 1) := by decide +kernel
theorem d17_31 : decode prog_18_method_6_code 31 = .ok (.goto 4, 3) := by decide +kernel
theorem d17_34 : decode prog_18_method_6_code 34 = .ok (.lconst 0, 1) := by decide +kernel
theorem d17_35 : decode prog_18_method_6_code 35 = .ok (.lstore_n 1, 1) := by decide +kernel
theorem d17_36 : decode prog_18_method_6_code 36 = .ok (.aload_n 0, 1) := by decide +kernel
theorem d17_37 : decode prog_18_method_6_code 37 = .ok (.getfield 74, 3) := by decide +kernel
theorem d17_40 : decode prog_18_method_6_code 40 = .ok (.lload_n 1, 1) := by decide +kernel
theorem d17_41 : decode prog_18_method_6_code 41 = .ok (.ladd, 1) := by decide +kernel
theorem d17_42 : decode prog_18_method_6_code 42 = .ok (.aload_n 0, 1) := by decide +kernel
theorem d17_43 : decode prog_18_method_6_code 43 = .ok (.getfield 70, 3) := by decide +kernel
theorem d17_46 : decode prog_18_method_6_code 46 = .ok (.ldc2_w 68, 3) := by decide +kernel
theorem d17_49 : decode prog_18_method_6_code 49 = .ok (.lsub, 1) := by decide +kernel
theorem d17_50 : decode prog_18_method_6_code 50 = .ok (.lsub, 1) := by decide +kernel
theorem d17_51 : decode prog_18_method_6_code 51 = .ok (.lreturn, 1) := by decide +kernel
theorem pl17 : plainFor (⟨"com/example/micro_ranker/microranker/engine/Block", "size", "()J"⟩ : MethodName) = true := by first | exact plainFor_of_name (by first | (simp [plainName, overriddenIn]; done) | decide +kernel) | decide +kernel
def q17_1 (y_count y_last y_base y_lowWidth : Int32) (y_highs y_entries : Int64) : Int64 := (y_count.toInt64 + (XT.ushrL ((y_last - y_base).toInt64 - (1 : Int64)) y_lowWidth))
def f17 (y_count y_last y_base y_lowWidth : Int32) (y_highs y_entries : Int64) : Int64 := (if (1 : Int32) < y_count then ((y_highs + (q17_1 y_count y_last y_base y_lowWidth y_highs y_entries)) - (y_entries - (5 : Int64))) else ((y_highs + (0 : Int64)) - (y_entries - (5 : Int64))))
set_option maxRecDepth 65536 in
set_option maxHeartbeats 40000000 in
theorem rm17 (l : Launch) (Z : State) (a0 : Array Value) (hw : ∀ d ∈ tables_1, d.before a0 Z = true) (a : Addr) (y_count : Int32) (y_last : Int32) (y_base : Int32) (y_lowWidth : Int32) (y_highs : Int64) (y_entries : Int64) (h0 : Heap) (G0 : Fld Z h0 a "com/example/micro_ranker/microranker/engine/Block" "count" "I" (.int y_count)) (G1 : Fld Z h0 a "com/example/micro_ranker/microranker/engine/Block" "last" "I" (.int y_last)) (G2 : Fld Z h0 a "com/example/micro_ranker/microranker/engine/Block" "base" "I" (.int y_base)) (G3 : Fld Z h0 a "com/example/micro_ranker/microranker/engine/Block" "lowWidth" "I" (.int y_lowWidth)) (G4 : Fld Z h0 a "com/example/micro_ranker/microranker/engine/Block" "highs" "J" (.long y_highs)) (G5 : Fld Z h0 a "com/example/micro_ranker/microranker/engine/Block" "entries" "J" (.long y_entries)) :
    Met l Z (⟨"com/example/micro_ranker/microranker/engine/Block", "size", "()J"⟩ : MethodName) prog_18_method_6_code 3 (some .long) ({ frames := 0, cells := 0, slots := 0, locals := 0 } : Room) #[(.ref a)] h0 (Pu (some (.long (f17 y_count y_last y_base y_lowWidth y_highs y_entries))) h0) := by
  refine enter pl17 #[vr a, us, us] rfl ?_
  intro p e s m below meth c T B hret hlk hnm
  · refine o_aloadN B 0 1 (v := (.ref a)) d17_0 rfl rfl rfl ?_
    obtain ⟨T1, B1, c1⟩ := o_getfield B 1 4 d17_1 rfl (host := "") (Or.inl (hw _ (mi 78 rfl))) Via.refl G0 (Ls := #[vr a, us, us]) (rest := [])
    refine c1 ?_
    refine o_iconst B1 4 5 (1 : Int32) d17_4 rfl (by decide) ?_
    by_cases k1 : (1 : Int32) < y_count
    · refine o_icN B1 5 8 d17_5 rfl (XT.ii_le_f k1) ?_
      refine o_aloadN B1 8 9 (v := (.ref a)) d17_8 rfl rfl rfl ?_
      obtain ⟨T2, B2, c2⟩ := o_getfield B1 9 12 d17_9 rfl (host := "") (Or.inl (hw _ (mi 78 rfl))) Via.refl G0 (Ls := #[vr a, us, us]) (rest := [])
      refine c2 ?_
      refine o_i2l B2 12 13 d17_12 rfl ?_
      refine o_aloadN B2 13 14 (v := (.ref a)) d17_13 rfl rfl rfl ?_
      obtain ⟨T3, B3, c3⟩ := o_getfield B2 14 17 d17_14 rfl (host := "") (Or.inl (hw _ (mi 82 rfl))) Via.refl G1 (Ls := #[vr a, us, us]) (rest := [(.long y_count.toInt64)])
      refine c3 ?_
      refine o_aloadN B3 17 18 (v := (.ref a)) d17_17 rfl rfl rfl ?_
      obtain ⟨T4, B4, c4⟩ := o_getfield B3 18 21 d17_18 rfl (host := "") (Or.inl (hw _ (mi 80 rfl))) Via.refl G2 (Ls := #[vr a, us, us]) (rest := [(.int y_last), (.long y_count.toInt64)])
      refine c4 ?_
      refine o_isub B4 21 22 d17_21 rfl ?_
      refine o_i2l B4 22 23 d17_22 rfl ?_
      refine o_lconst B4 23 24 (1 : Int64) d17_23 rfl (by decide) ?_
      refine o_lsub B4 24 25 d17_24 rfl ?_
      refine o_aloadN B4 25 26 (v := (.ref a)) d17_25 rfl rfl rfl ?_
      obtain ⟨T5, B5, c5⟩ := o_getfield B4 26 29 d17_26 rfl (host := "") (Or.inl (hw _ (mi 93 rfl))) Via.refl G3 (Ls := #[vr a, us, us]) (rest := [(.long ((y_last - y_base).toInt64 - (1 : Int64))), (.long y_count.toInt64)])
      refine c5 ?_
      refine o_lushr B5 29 30 d17_29 rfl ?_
      refine o_ladd B5 30 31 d17_30 rfl ?_
      refine o_goto B5 31 35 d17_31 (by decide) (by decide) ?_
      refine o_lstoreN B5 35 36 (l' := #[vr a, vj (q17_1 y_count y_last y_base y_lowWidth y_highs y_entries), s2]) d17_35 rfl rfl ?_
      refine o_aloadN B5 36 37 (v := (.ref a)) d17_36 rfl rfl rfl ?_
      obtain ⟨T6, B6, c6⟩ := o_getfield B5 37 40 d17_37 rfl (host := "") (Or.inl (hw _ (mi 98 rfl))) Via.refl G4 (Ls := #[vr a, vj (q17_1 y_count y_last y_base y_lowWidth y_highs y_entries), s2]) (rest := [])
      refine c6 ?_
      refine o_lloadN B6 40 41 (v := (q17_1 y_count y_last y_base y_lowWidth y_highs y_entries)) d17_40 rfl rfl ?_
      refine o_ladd B6 41 42 d17_41 rfl ?_
      refine o_aloadN B6 42 43 (v := (.ref a)) d17_42 rfl rfl rfl ?_
      obtain ⟨T7, B7, c7⟩ := o_getfield B6 43 46 d17_43 rfl (host := "") (Or.inl (hw _ (mi 96 rfl))) Via.refl G5 (Ls := #[vr a, vj (q17_1 y_count y_last y_base y_lowWidth y_highs y_entries), s2]) (rest := [(.long (y_highs + (q17_1 y_count y_last y_base y_lowWidth y_highs y_entries)))])
      refine c7 ?_
      refine o_ldc2 B7 46 49 d17_46 rfl (hw _ (mi 95 rfl)) ?_
      refine o_lsub B7 49 50 d17_49 rfl ?_
      refine o_lsub B7 50 51 d17_50 rfl ?_
      refine o_retL B7 51 d17_51 hret hlk (by decide) (by decide) ⟨(congrArg (fun z => some (Value.long z)) (show f17 y_count y_last y_base y_lowWidth y_highs y_entries = ((y_highs + (q17_1 y_count y_last y_base y_lowWidth y_highs y_entries)) - (y_entries - (5 : Int64))) from (if_pos k1).trans (rfl))).symm, rfl, rfl⟩
    · refine o_icY B1 5 34 d17_5 (XT.ii_le_t k1) (by decide) (by decide) ?_
      refine o_lconst B1 34 35 (0 : Int64) d17_34 rfl (by decide) ?_
      refine o_lstoreN B1 35 36 (l' := #[vr a, vj 0, s2]) d17_35 rfl rfl ?_
      refine o_aloadN B1 36 37 (v := (.ref a)) d17_36 rfl rfl rfl ?_
      obtain ⟨T8, B8, c8⟩ := o_getfield B1 37 40 d17_37 rfl (host := "") (Or.inl (hw _ (mi 98 rfl))) Via.refl G4 (Ls := #[vr a, vj 0, s2]) (rest := [])
      refine c8 ?_
      refine o_lloadN B8 40 41 (v := (0 : Int64)) d17_40 rfl rfl ?_
      refine o_ladd B8 41 42 d17_41 rfl ?_
      refine o_aloadN B8 42 43 (v := (.ref a)) d17_42 rfl rfl rfl ?_
      obtain ⟨T9, B9, c9⟩ := o_getfield B8 43 46 d17_43 rfl (host := "") (Or.inl (hw _ (mi 96 rfl))) Via.refl G5 (Ls := #[vr a, vj 0, s2]) (rest := [(.long (y_highs + (0 : Int64)))])
      refine c9 ?_
      refine o_ldc2 B9 46 49 d17_46 rfl (hw _ (mi 95 rfl)) ?_
      refine o_lsub B9 49 50 d17_49 rfl ?_
      refine o_lsub B9 50 51 d17_50 rfl ?_
      refine o_retL B9 51 d17_51 hret hlk (by decide) (by decide) ⟨(congrArg (fun z => some (Value.long z)) (show f17 y_count y_last y_base y_lowWidth y_highs y_entries = ((y_highs + (0 : Int64)) - (y_entries - (5 : Int64))) from (if_neg k1).trans (rfl))).symm, rfl, rfl⟩
def Bd (gd gf : Nat → Int32) (b : Int32) (z : Int64) : Prop := (0 ≤ z.toInt ∧ z.toInt ≤ 63) ∧ (1 ≤ (gf 0).toInt ∧ 1 ≤ (gf 1).toInt ∧ 1 ≤ (gf 2).toInt ∧ 1 ≤ (gf 3).toInt) ∧ (0 ≤ b.toInt ∧ b.toInt ≤ (gd 0).toInt ∧ (gd 0).toInt < (gd 1).toInt ∧ (gd 1).toInt < (gd 2).toInt ∧ (gd 2).toInt < (gd 3).toInt)
theorem own_mx {a b : Int32} (ha : 0 ≤ a.toInt) (hb : 1 ≤ b.toInt) : 0 ≤ (f2 a (b - 1)).toInt := by
  have c := c_isub b 1
  have r := rng32 (b - 1)
  have rb := rng32 b
  rw [show (1 : Int32).toInt = 1 by decide] at c
  unfold f2
  split
  · omega
  · exact ha
theorem own_sub {a b : Int32} (hb : 0 ≤ b.toInt) (h : b.toInt ≤ a.toInt) : (a - b).toInt = a.toInt - b.toInt := by
  have c := c_isub a b
  have r := rng32 (a - b)
  have ra := rng32 a
  omega
theorem own_hw (z : Int64) (w : Int32) (a b : Int) (hz : z.toInt = a) (hw : w.toInt = b) (h : 0 ≤ a ∧ (0 ≤ b ∧ b ≤ 64) ∧ a + b ≤ 447) : Hw z w := by unfold Hw; rw [hz, hw]; exact h
theorem own_ad {a b : Int32} (h1 : 0 ≤ a.toInt ∧ a.toInt ≤ 1000) (h2 : 0 ≤ b.toInt ∧ b.toInt ≤ 1000) : (a + b).toInt = a.toInt + b.toInt := by
  have c := c_iadd a b
  have r := rng32 (a + b)
  omega
theorem own_m64 {a : Int32} (h1 : 0 ≤ a.toInt ∧ a.toInt ≤ 1000) : (a + (-64 : Int32)).toInt = a.toInt - 64 := by
  have c := c_iadd a (-64)
  have r := rng32 (a + (-64))
  rw [show (-64 : Int32).toInt = -64 by decide] at c
  omega
theorem own_wol {g g' : Nat → Int64} {n m : Nat} {v : Int64} (h : Wo g g' n m v) (p : Nat) (hp : p < n) : bitAt g' p = bitAt g p := by
  rw [h p, decide_eq_false (show ¬ n ≤ p by omega), Bool.false_and, Bool.or_false]
theorem own_wof {g g' : Nat → Int64} {n m : Nat} {v : Int64} (h : Wo g g' n m v) (i : Nat) (hi : i < m) : bitAt g' (n + i) = (bitAt g (n + i) || v.toBitVec.getLsbD i) := by
  rw [h (n + i), decide_eq_true (show n ≤ n + i by omega), show n + i - n = i by omega, decide_eq_true hi, Bool.true_and, Bool.true_and]
theorem own_u0 (x : Int64) : XT.ushrL x 0 = x := by
  apply own_ext
  intro i _
  rw [own_shr x 0 0 (by decide) (by decide), Nat.zero_add]
theorem own_uL (x : Int64) (q : Int32) (L : Nat) (hq : q.toInt = L) (hL : L ≤ 63) (hx : 0 ≤ x.toInt) : (XT.ushrL x q).toInt = x.toInt / (2 ^ L : Nat) := by
  rcases Nat.eq_zero_or_pos L with z | z
  · subst z
    obtain rfl : q = 0 := Int32.toInt_inj.mp (by rw [hq]; rfl)
    rw [own_u0]
    simp
  · have e := own_ul x q L hq ⟨z, by omega⟩
    have r := rng64 x
    rw [Int.emod_eq_of_lt hx (by omega)] at e
    exact e

theorem own_s1 {s : Int32} (h : 1 ≤ s.toInt) : (s.toInt64 - 1).toInt = s.toInt - 1 := by
  have c := c_lsub s.toInt64 1
  have r := rng64 (s.toInt64 - 1)
  have rs := rng32 s
  rw [c_i2l, show (1 : Int64).toInt = 1 by decide] at c
  omega
theorem own_us0 (x q : Int32) (L : Nat) (hq : q.toInt = L) (hL : L ≤ 30) (hx : 0 ≤ x.toInt) : (XT.ushr x q).toInt = x.toInt / (2 ^ L : Nat) := by
  rcases Nat.eq_zero_or_pos L with z | z
  · subst z
    obtain rfl : q = 0 := Int32.toInt_inj.mp (by rw [hq]; rfl)
    have e : XT.ushr x 0 = x := by
      show (x.toUInt32 >>> (0 &&& 31 : Int32).toUInt32).toInt32 = x
      rw [show (0 &&& 31 : Int32).toUInt32 = 0 by decide, UInt32.shiftRight_zero]
      rfl
    rw [e]
    simp
  · have e : q.toBitVec.toNat % 32 = L := by
      have h : q.toBitVec.toInt = L := hq
      rw [BitVec.toInt_eq_toNat_cond] at h
      split at h <;> omega
    exact own_us x q L e z hx
theorem own_ps {a : Int64} {b : Int32} {n : Int} {c : Int64} {m : Int} (h1 : 0 ≤ a.toInt ∧ a.toInt ≤ 447) (h2 : 0 ≤ b.toInt ∧ b.toInt ≤ 8) (h3 : b.toInt = n) (h4 : c.toInt = m ∧ 0 ≤ m ∧ m ≤ 4) : ((a + b.toInt64) + c).toInt = a.toInt + n + m := by
  have x := c_ladd a b.toInt64
  have rx := rng64 (a + b.toInt64)
  have y := c_ladd (a + b.toInt64) c
  have ry := rng64 (a + b.toInt64 + c)
  rw [c_i2l] at x
  omega
theorem own_sk1 {u : Int64} (h : 0 ≤ u.toInt ∧ u.toInt ≤ 8) : (((1 : Int64) + u) + 1).toInt = 1 + u.toInt + 1 := by
  have x := c_ladd (1 : Int64) u
  have rx := rng64 ((1 : Int64) + u)
  have y := c_ladd ((1 : Int64) + u) 1
  have ry := rng64 ((1 : Int64) + u + 1)
  rw [show (1 : Int64).toInt = 1 by decide] at x
  rw [show (1 : Int64).toInt = 1 by decide] at y
  omega
theorem own_sk2 {u : Int64} (h : 0 ≤ u.toInt ∧ u.toInt ≤ 8) : (((2 : Int64) + u) + 1).toInt = 2 + u.toInt + 1 := by
  have x := c_ladd (2 : Int64) u
  have rx := rng64 ((2 : Int64) + u)
  have y := c_ladd ((2 : Int64) + u) 1
  have ry := rng64 ((2 : Int64) + u + 1)
  rw [show (2 : Int64).toInt = 2 by decide] at x
  rw [show (1 : Int64).toInt = 1 by decide] at y
  omega
theorem own_sk3 {u : Int64} (h : 0 ≤ u.toInt ∧ u.toInt ≤ 8) : (((3 : Int64) + u) + 1).toInt = 3 + u.toInt + 1 := by
  have x := c_ladd (3 : Int64) u
  have rx := rng64 ((3 : Int64) + u)
  have y := c_ladd ((3 : Int64) + u) 1
  have ry := rng64 ((3 : Int64) + u + 1)
  rw [show (3 : Int64).toInt = 3 by decide] at x
  rw [show (1 : Int64).toInt = 1 by decide] at y
  omega
def own_W1 (gf : Nat → Int32) : Int32 := f8 (f2 (0 : Int32) ((gf 0) - (1 : Int32))).toInt64
def own_tot1 (gd gf : Nat → Int32) (b : Int32) : Int := 5 + (own_W1 gf).toInt
theorem d7_0 : decode prog_18_method_2_code 0 = .ok (.iconst 0, 1) := by decide +kernel
theorem d7_1 : decode prog_18_method_2_code 1 = .ok (.istore 6, 2) := by decide +kernel
theorem d7_3 : decode prog_18_method_2_code 3 = .ok (.iload_n 3, 1) := by decide +kernel
theorem d7_4 : decode prog_18_method_2_code 4 = .ok (.istore 7, 2) := by decide +kernel
theorem d7_6 : decode prog_18_method_2_code 6 = .ok (.iload 7, 2) := by decide +kernel
theorem d7_8 : decode prog_18_method_2_code 8 = .ok (.iload_n 3, 1) := by decide +kernel
theorem d7_9 : decode prog_18_method_2_code 9 = .ok (.iload 4, 2) := by decide +kernel
theorem d7_11 : decode prog_18_method_2_code 11 = .ok (.iadd, 1) := by decide +kernel
theorem d7_12 : decode prog_18_method_2_code 12 = .ok (.if_icmp .ge 22, 3) := by decide +kernel
theorem d7_15 : decode prog_18_method_2_code 15 = .ok (.iload 6, 2) := by decide +kernel
theorem d7_17 : decode prog_18_method_2_code 17 = .ok (.aload_n 2, 1) := by decide +kernel
theorem d7_18 : decode prog_18_method_2_code 18 = .ok (.iload 7, 2) := by decide +kernel
theorem d7_20 : decode prog_18_method_2_code 20 = .ok (.iaload, 1) := by decide +kernel
theorem d7_21 : decode prog_18_method_2_code 21 = .ok (.iconst 1, 1) := by decide +kernel
theorem d7_22 : decode prog_18_method_2_code 22 = .ok (.isub, 1) := by decide +kernel
theorem d7_23 : decode prog_18_method_2_code 23 = .ok (.invokestatic 11, 3) := by decide +kernel
theorem d7_26 : decode prog_18_method_2_code 26 = .ok (.istore 6, 2) := by decide +kernel
theorem d7_28 : decode prog_18_method_2_code 28 = .ok (.iinc 7 1, 3) := by decide +kernel
theorem d7_31 : decode prog_18_method_2_code 31 = .ok (.goto (-25), 3) := by decide +kernel
theorem d7_34 : decode prog_18_method_2_code 34 = .ok (.iload 6, 2) := by decide +kernel
theorem d7_36 : decode prog_18_method_2_code 36 = .ok (.i2l, 1) := by decide +kernel
theorem d7_37 : decode prog_18_method_2_code 37 = .ok (.invokestatic 17, 3) := by decide +kernel
theorem d7_40 : decode prog_18_method_2_code 40 = .ok (.istore 7, 2) := by decide +kernel
theorem d7_42 : decode prog_18_method_2_code 42 = .ok (.aload_n 0, 1) := by decide +kernel
theorem d7_43 : decode prog_18_method_2_code 43 = .ok (.iload 7, 2) := by decide +kernel
theorem d7_45 : decode prog_18_method_2_code 45 = .ok (.i2l, 1) := by decide +kernel
theorem d7_46 : decode prog_18_method_2_code 46 = .ok (.iconst 5, 1) := by decide +kernel
theorem d7_47 : decode prog_18_method_2_code 47 = .ok (.invokevirtual 23, 3) := by decide +kernel
theorem d7_50 : decode prog_18_method_2_code 50 = .ok (.iload 4, 2) := by decide +kernel
theorem d7_52 : decode prog_18_method_2_code 52 = .ok (.iconst 1, 1) := by decide +kernel
theorem d7_53 : decode prog_18_method_2_code 53 = .ok (.isub, 1) := by decide +kernel
theorem d7_54 : decode prog_18_method_2_code 54 = .ok (.istore 8, 2) := by decide +kernel
theorem d7_56 : decode prog_18_method_2_code 56 = .ok (.aload_n 1, 1) := by decide +kernel
theorem d7_57 : decode prog_18_method_2_code 57 = .ok (.iload_n 3, 1) := by decide +kernel
theorem d7_58 : decode prog_18_method_2_code 58 = .ok (.iload 8, 2) := by decide +kernel
theorem d7_60 : decode prog_18_method_2_code 60 = .ok (.iadd, 1) := by decide +kernel
theorem d7_61 : decode prog_18_method_2_code 61 = .ok (.iaload, 1) := by decide +kernel
theorem d7_62 : decode prog_18_method_2_code 62 = .ok (.iload 5, 2) := by decide +kernel
theorem d7_64 : decode prog_18_method_2_code 64 = .ok (.isub, 1) := by decide +kernel
theorem d7_65 : decode prog_18_method_2_code 65 = .ok (.istore 9, 2) := by decide +kernel
theorem d7_67 : decode prog_18_method_2_code 67 = .ok (.iload 8, 2) := by decide +kernel
theorem d7_69 : decode prog_18_method_2_code 69 = .ok (.ifCond .le 13, 3) := by decide +kernel
theorem d7_72 : decode prog_18_method_2_code 72 = .ok (.iload 9, 2) := by decide +kernel
theorem d7_74 : decode prog_18_method_2_code 74 = .ok (.iload 8, 2) := by decide +kernel
theorem d7_76 : decode prog_18_method_2_code 76 = .ok (.invokestatic 29, 3) := by decide +kernel
theorem d7_79 : decode prog_18_method_2_code 79 = .ok (.goto 4, 3) := by decide +kernel
theorem d7_82 : decode prog_18_method_2_code 82 = .ok (.iconst 0, 1) := by decide +kernel
theorem d7_83 : decode prog_18_method_2_code 83 = .ok (.istore 10, 2) := by decide +kernel
theorem d7_85 : decode prog_18_method_2_code 85 = .ok (.ldc2_w 32, 3) := by decide +kernel
theorem d7_88 : decode prog_18_method_2_code 88 = .ok (.iload 10, 2) := by decide +kernel
theorem d7_90 : decode prog_18_method_2_code 90 = .ok (.lshl, 1) := by decide +kernel
theorem d7_91 : decode prog_18_method_2_code 91 = .ok (.ldc2_w 32, 3) := by decide +kernel
theorem d7_94 : decode prog_18_method_2_code 94 = .ok (.lxor, 1) := by decide +kernel
theorem d7_95 : decode prog_18_method_2_code 95 = .ok (.lstore 11, 2) := by decide +kernel
theorem d7_97 : decode prog_18_method_2_code 97 = .ok (.iload 10, 2) := by decide +kernel
theorem d7_99 : decode prog_18_method_2_code 99 = .ok (.iload 7, 2) := by decide +kernel
theorem d7_101 : decode prog_18_method_2_code 101 = .ok (.iadd, 1) := by decide +kernel
theorem d7_102 : decode prog_18_method_2_code 102 = .ok (.istore 13, 2) := by decide +kernel
theorem d7_104 : decode prog_18_method_2_code 104 = .ok (.lconst 0, 1) := by decide +kernel
theorem d7_105 : decode prog_18_method_2_code 105 = .ok (.lstore 14, 2) := by decide +kernel
theorem d7_107 : decode prog_18_method_2_code 107 = .ok (.iconst 0, 1) := by decide +kernel
theorem d7_108 : decode prog_18_method_2_code 108 = .ok (.istore 16, 2) := by decide +kernel
theorem d7_110 : decode prog_18_method_2_code 110 = .ok (.iload_n 3, 1) := by decide +kernel
theorem d7_111 : decode prog_18_method_2_code 111 = .ok (.istore 17, 2) := by decide +kernel
theorem d7_113 : decode prog_18_method_2_code 113 = .ok (.iload 17, 2) := by decide +kernel
theorem d7_115 : decode prog_18_method_2_code 115 = .ok (.iload_n 3, 1) := by decide +kernel
theorem d7_116 : decode prog_18_method_2_code 116 = .ok (.iload 8, 2) := by decide +kernel
theorem d7_118 : decode prog_18_method_2_code 118 = .ok (.iadd, 1) := by decide +kernel
theorem d7_119 : decode prog_18_method_2_code 119 = .ok (.if_icmp .ge 87, 3) := by decide +kernel
theorem d7_122 : decode prog_18_method_2_code 122 = .ok (.aload_n 1, 1) := by decide +kernel
theorem d7_123 : decode prog_18_method_2_code 123 = .ok (.iload 17, 2) := by decide +kernel
theorem d7_125 : decode prog_18_method_2_code 125 = .ok (.iaload, 1) := by decide +kernel
theorem d7_126 : decode prog_18_method_2_code 126 = .ok (.iload 5, 2) := by decide +kernel
theorem d7_128 : decode prog_18_method_2_code 128 = .ok (.isub, 1) := by decide +kernel
theorem d7_129 : decode prog_18_method_2_code 129 = .ok (.i2l, 1) := by decide +kernel
theorem d7_130 : decode prog_18_method_2_code 130 = .ok (.lload 11, 2) := by decide +kernel
theorem d7_132 : decode prog_18_method_2_code 132 = .ok (.land, 1) := by decide +kernel
theorem d7_133 : decode prog_18_method_2_code 133 = .ok (.aload_n 2, 1) := by decide +kernel
theorem d7_134 : decode prog_18_method_2_code 134 = .ok (.iload 17, 2) := by decide +kernel
theorem d7_136 : decode prog_18_method_2_code 136 = .ok (.iaload, 1) := by decide +kernel
theorem d7_137 : decode prog_18_method_2_code 137 = .ok (.iconst 1, 1) := by decide +kernel
theorem d7_138 : decode prog_18_method_2_code 138 = .ok (.isub, 1) := by decide +kernel
theorem d7_139 : decode prog_18_method_2_code 139 = .ok (.i2l, 1) := by decide +kernel
theorem d7_140 : decode prog_18_method_2_code 140 = .ok (.iload 10, 2) := by decide +kernel
theorem d7_142 : decode prog_18_method_2_code 142 = .ok (.lshl, 1) := by decide +kernel
theorem d7_143 : decode prog_18_method_2_code 143 = .ok (.lor, 1) := by decide +kernel
theorem d7_144 : decode prog_18_method_2_code 144 = .ok (.lstore 18, 2) := by decide +kernel
theorem d7_146 : decode prog_18_method_2_code 146 = .ok (.lload 14, 2) := by decide +kernel
theorem d7_148 : decode prog_18_method_2_code 148 = .ok (.lload 18, 2) := by decide +kernel
theorem d7_150 : decode prog_18_method_2_code 150 = .ok (.iload 16, 2) := by decide +kernel
theorem d7_152 : decode prog_18_method_2_code 152 = .ok (.lshl, 1) := by decide +kernel
theorem d7_153 : decode prog_18_method_2_code 153 = .ok (.lor, 1) := by decide +kernel
theorem d7_154 : decode prog_18_method_2_code 154 = .ok (.lstore 14, 2) := by decide +kernel
theorem d7_156 : decode prog_18_method_2_code 156 = .ok (.iload 16, 2) := by decide +kernel
theorem d7_158 : decode prog_18_method_2_code 158 = .ok (.iload 13, 2) := by decide +kernel
theorem d7_160 : decode prog_18_method_2_code 160 = .ok (.iadd, 1) := by decide +kernel
theorem d7_161 : decode prog_18_method_2_code 161 = .ok (.istore 16, 2) := by decide +kernel
theorem d7_163 : decode prog_18_method_2_code 163 = .ok (.iload 16, 2) := by decide +kernel
theorem d7_165 : decode prog_18_method_2_code 165 = .ok (.bipush 64, 2) := by decide +kernel
theorem d7_167 : decode prog_18_method_2_code 167 = .ok (.if_icmp .lt 33, 3) := by decide +kernel
theorem d7_170 : decode prog_18_method_2_code 170 = .ok (.aload_n 0, 1) := by decide +kernel
theorem d7_171 : decode prog_18_method_2_code 171 = .ok (.lload 14, 2) := by decide +kernel
theorem d7_173 : decode prog_18_method_2_code 173 = .ok (.bipush 64, 2) := by decide +kernel
theorem d7_175 : decode prog_18_method_2_code 175 = .ok (.invokevirtual 23, 3) := by decide +kernel
theorem d7_178 : decode prog_18_method_2_code 178 = .ok (.iinc 16 (-64), 3) := by decide +kernel
theorem d7_181 : decode prog_18_method_2_code 181 = .ok (.iload 16, 2) := by decide +kernel
theorem d7_183 : decode prog_18_method_2_code 183 = .ok (.ifCond .ne 7, 3) := by decide +kernel
theorem d7_186 : decode prog_18_method_2_code 186 = .ok (.lconst 0, 1) := by decide +kernel
theorem d7_187 : decode prog_18_method_2_code 187 = .ok (.goto 11, 3) := by decide +kernel
theorem d7_190 : decode prog_18_method_2_code 190 = .ok (.lload 18, 2) := by decide +kernel
theorem d7_192 : decode prog_18_method_2_code 192 = .ok (.iload 13, 2) := by decide +kernel
theorem d7_194 : decode prog_18_method_2_code 194 = .ok (.iload 16, 2) := by decide +kernel
theorem d7_196 : decode prog_18_method_2_code 196 = .ok (.isub, 1) := by decide +kernel
theorem d7_197 : decode prog_18_method_2_code 197 = .ok (.lushr, 1) := by decide +kernel
theorem d7_198 : decode prog_18_method_2_code 198 = .ok (.lstore 14, 2) := by decide +kernel
theorem d7_200 : decode prog_18_method_2_code 200 = .ok (.iinc 17 1, 3) := by decide +kernel
theorem d7_203 : decode prog_18_method_2_code 203 = .ok (.goto (-90), 3) := by decide +kernel
theorem d7_206 : decode prog_18_method_2_code 206 = .ok (.aload_n 0, 1) := by decide +kernel
theorem d7_207 : decode prog_18_method_2_code 207 = .ok (.lload 14, 2) := by decide +kernel
theorem d7_209 : decode prog_18_method_2_code 209 = .ok (.iload 16, 2) := by decide +kernel
theorem d7_211 : decode prog_18_method_2_code 211 = .ok (.invokevirtual 23, 3) := by decide +kernel
theorem d7_214 : decode prog_18_method_2_code 214 = .ok (.aload_n 0, 1) := by decide +kernel
theorem d7_215 : decode prog_18_method_2_code 215 = .ok (.aload_n 2, 1) := by decide +kernel
theorem d7_216 : decode prog_18_method_2_code 216 = .ok (.iload_n 3, 1) := by decide +kernel
theorem d7_217 : decode prog_18_method_2_code 217 = .ok (.iload 8, 2) := by decide +kernel
theorem d7_219 : decode prog_18_method_2_code 219 = .ok (.iadd, 1) := by decide +kernel
theorem d7_220 : decode prog_18_method_2_code 220 = .ok (.iaload, 1) := by decide +kernel
theorem d7_221 : decode prog_18_method_2_code 221 = .ok (.iconst 1, 1) := by decide +kernel
theorem d7_222 : decode prog_18_method_2_code 222 = .ok (.isub, 1) := by decide +kernel
theorem d7_223 : decode prog_18_method_2_code 223 = .ok (.i2l, 1) := by decide +kernel
theorem d7_224 : decode prog_18_method_2_code 224 = .ok (.iload 7, 2) := by decide +kernel
theorem d7_226 : decode prog_18_method_2_code 226 = .ok (.invokevirtual 23, 3) := by decide +kernel
theorem d7_229 : decode prog_18_method_2_code 229 = .ok (.iload 8, 2) := by decide +kernel
theorem d7_231 : decode prog_18_method_2_code 231 = .ok (.ifCond .ne 4, 3) := by decide +kernel
theorem d7_234 : decode prog_18_method_2_code 234 = .ok (.return_, 1) := by decide +kernel
theorem d7_235 : decode prog_18_method_2_code 235 = .ok (.aload_n 0, 1) := by decide +kernel
theorem d7_236 : decode prog_18_method_2_code 236 = .ok (.invokevirtual 34, 3) := by decide +kernel
theorem d7_239 : decode prog_18_method_2_code 239 = .ok (.lstore 17, 2) := by decide +kernel
theorem d7_241 : decode prog_18_method_2_code 241 = .ok (.aload_n 0, 1) := by decide +kernel
theorem d7_242 : decode prog_18_method_2_code 242 = .ok (.iload 8, 2) := by decide +kernel
theorem d7_244 : decode prog_18_method_2_code 244 = .ok (.i2l, 1) := by decide +kernel
theorem d7_245 : decode prog_18_method_2_code 245 = .ok (.iload 9, 2) := by decide +kernel
theorem d7_247 : decode prog_18_method_2_code 247 = .ok (.i2l, 1) := by decide +kernel
theorem d7_248 : decode prog_18_method_2_code 248 = .ok (.lconst 1, 1) := by decide +kernel
theorem d7_249 : decode prog_18_method_2_code 249 = .ok (.lsub, 1) := by decide +kernel
theorem d7_250 : decode prog_18_method_2_code 250 = .ok (.iload 10, 2) := by decide +kernel
theorem d7_252 : decode prog_18_method_2_code 252 = .ok (.lushr, 1) := by decide +kernel
theorem d7_253 : decode prog_18_method_2_code 253 = .ok (.ladd, 1) := by decide +kernel
theorem d7_254 : decode prog_18_method_2_code 254 = .ok (.lconst 1, 1) := by decide +kernel
theorem d7_255 : decode prog_18_method_2_code 255 = .ok (.ladd, 1) := by decide +kernel
theorem d7_256 : decode prog_18_method_2_code 256 = .ok (.invokevirtual 38, 3) := by decide +kernel
theorem d7_259 : decode prog_18_method_2_code 259 = .ok (.iconst 0, 1) := by decide +kernel
theorem d7_260 : decode prog_18_method_2_code 260 = .ok (.istore 19, 2) := by decide +kernel
theorem d7_262 : decode prog_18_method_2_code 262 = .ok (.iload 19, 2) := by decide +kernel
theorem d7_264 : decode prog_18_method_2_code 264 = .ok (.iload 8, 2) := by decide +kernel
theorem d7_266 : decode prog_18_method_2_code 266 = .ok (.if_icmp .ge 33, 3) := by decide +kernel
theorem d7_269 : decode prog_18_method_2_code 269 = .ok (.aload_n 0, 1) := by decide +kernel
theorem d7_270 : decode prog_18_method_2_code 270 = .ok (.lload 17, 2) := by decide +kernel
theorem d7_272 : decode prog_18_method_2_code 272 = .ok (.aload_n 1, 1) := by decide +kernel
theorem d7_273 : decode prog_18_method_2_code 273 = .ok (.iload_n 3, 1) := by decide +kernel
theorem d7_274 : decode prog_18_method_2_code 274 = .ok (.iload 19, 2) := by decide +kernel
theorem d7_276 : decode prog_18_method_2_code 276 = .ok (.iadd, 1) := by decide +kernel
theorem d7_277 : decode prog_18_method_2_code 277 = .ok (.iaload, 1) := by decide +kernel
theorem d7_278 : decode prog_18_method_2_code 278 = .ok (.iload 5, 2) := by decide +kernel
theorem d7_280 : decode prog_18_method_2_code 280 = .ok (.isub, 1) := by decide +kernel
theorem d7_281 : decode prog_18_method_2_code 281 = .ok (.iload 10, 2) := by decide +kernel
theorem d7_283 : decode prog_18_method_2_code 283 = .ok (.iushr, 1) := by decide +kernel
theorem d7_284 : decode prog_18_method_2_code 284 = .ok (.i2l, 1) := by decide +kernel
theorem d7_285 : decode prog_18_method_2_code 285 = .ok (.ladd, 1) := by decide +kernel
theorem d7_286 : decode prog_18_method_2_code 286 = .ok (.iload 19, 2) := by decide +kernel
theorem d7_288 : decode prog_18_method_2_code 288 = .ok (.i2l, 1) := by decide +kernel
theorem d7_289 : decode prog_18_method_2_code 289 = .ok (.ladd, 1) := by decide +kernel
theorem d7_290 : decode prog_18_method_2_code 290 = .ok (.invokevirtual 42, 3) := by decide +kernel
theorem d7_293 : decode prog_18_method_2_code 293 = .ok (.iinc 19 1, 3) := by decide +kernel
theorem d7_296 : decode prog_18_method_2_code 296 = .ok (.goto (-34), 3) := by decide +kernel
theorem d7_299 : decode prog_18_method_2_code 299 = .ok (.return_, 1) := by decide +kernel
theorem pl7 : plainFor (⟨"com/example/micro_ranker/microranker/engine/Block", "write", "(Lcom/example/micro_ranker/microranker/engine/BitWriter;[I[IIII)V"⟩ : MethodName) = true := by first | exact plainFor_of_name (by first | (simp [plainName, overriddenIn]; done) | decide +kernel) | decide +kernel
theorem pd__JI_V : parseMethodDescriptor "(JI)V" = some ⟨[.long, .int], none⟩ := by decide +kernel
def Q7_1 (Z : State) (x0 : Addr) (x1 : Addr) (x2 : Addr) (yw : Addr) (gd : Nat → Int32) (gf : Nat → Int32) (g : Nat → Int64) (z : Int64) (x5 : Int32) (h0 : Heap) (n0 : Nat) (v : Option Value) (h : Heap) (L : List Loc) : Prop := v = none ∧ Fr n0 L ∧ Keep h0 h [x0, yw] ∧ ∃ (g' : Nat → Int64) (s : Int64), Fld Z h x0 "com/example/micro_ranker/microranker/engine/BitWriter" "words" "[J" (.ref yw) ∧ Fld Z h x0 "com/example/micro_ranker/microranker/engine/BitWriter" "size" "J" (.long s) ∧ AJ Z h yw 8 g' ∧ s.toInt = z.toInt + own_tot1 gd gf x5 ∧ ∀ i, i < 5 → bitAt g' (z.toInt.toNat + i) = (bitAt g (z.toInt.toNat + i) || (own_W1 gf).toInt64.toBitVec.getLsbD i)
set_option maxRecDepth 65536 in
set_option maxHeartbeats 400000000 in
theorem rm7_1 (l : Launch) (Z : State) (a0 : Array Value) (hw : ∀ d ∈ tables_1, d.before a0 Z = true) (x0 : Addr) (x1 : Addr) (x2 : Addr) (yw : Addr) (gd : Nat → Int32) (gf : Nat → Int32) (g : Nat → Int64) (z : Int64) (x5 : Int32) (h0 : Heap) (n0 : Nat) (hz : n0 ≤ h0.size) (ge_x0 : n0 ≤ x0) (ge_yw : n0 ≤ yw) (hE : Exa Z h0 x0 "com/example/micro_ranker/microranker/engine/BitWriter") (G_words : Fld Z h0 x0 "com/example/micro_ranker/microranker/engine/BitWriter" "words" "[J" (.ref yw)) (G_size : Fld Z h0 x0 "com/example/micro_ranker/microranker/engine/BitWriter" "size" "J" (.long z)) (A_x1 : AI Z h0 x1 .int 4 gd) (A_x2 : AI Z h0 x2 .int 4 gf) (A_yw : AJ Z h0 yw 8 g) (ne_x0_yw : x0 ≠ yw) (ne_x1_yw : x1 ≠ yw) (ne_x2_yw : x2 ≠ yw) (ne_x0_x1 : x0 ≠ x1) (ne_x0_x2 : x0 ≠ x2) (hd : Bd gd gf x5 z) :
    Met l Z (⟨"com/example/micro_ranker/microranker/engine/Block", "write", "(Lcom/example/micro_ranker/microranker/engine/BitWriter;[I[IIII)V"⟩ : MethodName) prog_18_method_2_code 20 none ({ frames := 3, cells := 0, slots := 0, locals := 42 } : Room) #[(.ref x0), (.ref x1), (.ref x2), (.int (0 : Int32)), (.int (1 : Int32)), (.int x5)] h0 (Q7_1 Z x0 x1 x2 yw gd gf g z x5 h0 n0) := by
  refine enter pl7 #[vr x0, vr x1, vr x2, vi 0, vi 1, vi x5, us, us, us, us, us, us, us, us, us, us, us, us, us, us] rfl ?_
  intro p e s m below meth c T B hret hlk hnm
  have N0 := Fr.nil n0
  have hz0 := hd.1
  have hf0 := hd.2.1
  have hd0 := hd.2.2
  have hb := rng32 (gd 3)
  refine o_iconst B 0 1 (0 : Int32) d7_0 rfl (by decide) ?_
  refine o_istore B 1 3 (l' := #[vr x0, vr x1, vr x2, vi 0, vi 1, vi x5, vi 0, us, us, us, us, us, us, us, us, us, us, us, us, us]) d7_1 rfl rfl ?_
  refine o_iloadN B 3 4 (v := (0 : Int32)) d7_3 rfl rfl ?_
  refine o_istore B 4 6 (l' := #[vr x0, vr x1, vr x2, vi 0, vi 1, vi x5, vi 0, vi 0, us, us, us, us, us, us, us, us, us, us, us, us]) d7_4 rfl rfl ?_
  refine o_iload B 6 8 (v := (0 : Int32)) d7_6 rfl rfl ?_
  refine o_iloadN B 8 9 (v := (0 : Int32)) d7_8 rfl rfl ?_
  refine o_iload B 9 11 (v := (1 : Int32)) d7_9 rfl rfl ?_
  refine o_iadd B 11 12 d7_11 rfl ?_
  refine o_topI (show ((0 : Int32) + (1 : Int32)) = (1 : Int32) by decide) ?_
  refine o_icN B 12 15 d7_12 rfl (XT.ii_ge_f (by decide)) ?_
  refine o_iload B 15 17 (v := (0 : Int32)) d7_15 rfl rfl ?_
  refine o_aloadN B 17 18 (v := (.ref x2)) d7_17 rfl rfl rfl ?_
  refine o_iload B 18 20 (v := (0 : Int32)) d7_18 rfl rfl ?_
  refine o_iaload B 20 21 A_x2 0 (gf 0) d7_20 rfl (by decide) (by decide) (by decide) rfl ?_
  refine o_iconst B 21 22 (1 : Int32) d7_21 rfl (by decide) ?_
  refine o_isub B 22 23 d7_22 rfl ?_
  obtain ⟨T22, B22, c22⟩ := o_callP B 23 26 d7_23 rfl (hw _ (mi 38 rfl)) (hw _ (mi 8 rfl)) (hw _ (mi 9 rfl)) (hw _ (mi 10 rfl)) (by decide) (rm2 l Z a0 hw (0 : Int32) ((gf 0) - (1 : Int32)) h0 ) 0 [(.int (0 : Int32)), (.int ((gf 0) - (1 : Int32)))] [] pd__II_I rfl rfl (st := [(.int ((gf 0) - (1 : Int32))), (.int (0 : Int32))]) rfl (Ls := #[vr x0, vr x1, vr x2, vi 0, vi 1, vi x5, vi 0, vi 0, us, us, us, us, us, us, us, us, us, us, us, us]) rfl (Nat.le_of_eq rfl) (by decide) (by decide) (by decide) (by decide)
  refine c22 ?_
  refine o_istore B22 26 28 (l' := #[vr x0, vr x1, vr x2, vi 0, vi 1, vi x5, vi (f2 (0 : Int32) ((gf 0) - (1 : Int32))), vi 0, us, us, us, us, us, us, us, us, us, us, us, us]) d7_26 rfl rfl ?_
  refine o_iincC B22 28 31 (l' := #[vr x0, vr x1, vr x2, vi 0, vi 1, vi x5, vi (f2 (0 : Int32) ((gf 0) - (1 : Int32))), vi 1, us, us, us, us, us, us, us, us, us, us, us, us]) (1 : Int32) (1 : Int32) d7_28 rfl (by decide) rfl (by decide) rfl ?_
  refine o_goto B22 31 6 d7_31 (by decide) (by decide) ?_
  refine o_iload B22 6 8 (v := (1 : Int32)) d7_6 rfl rfl ?_
  refine o_iloadN B22 8 9 (v := (0 : Int32)) d7_8 rfl rfl ?_
  refine o_iload B22 9 11 (v := (1 : Int32)) d7_9 rfl rfl ?_
  refine o_iadd B22 11 12 d7_11 rfl ?_
  refine o_topI (show ((0 : Int32) + (1 : Int32)) = (1 : Int32) by decide) ?_
  refine o_icY B22 12 34 d7_12 (XT.ii_ge_t (by decide)) (by decide) (by decide) ?_
  obtain ⟨hi, hhi⟩ : ∃ q : Int32, q = (f2 (0 : Int32) ((gf 0) - (1 : Int32))) := ⟨_, rfl⟩
  rw [← hhi]
  have thi : 0 ≤ hi.toInt := by rw [hhi]; exact (own_mx (by decide) hf0.1)
  refine o_iload B22 34 36 (v := hi) d7_34 rfl rfl ?_
  refine o_i2l B22 36 37 d7_36 rfl ?_
  obtain ⟨T23, B23, c23⟩ := o_callP B22 37 40 d7_37 rfl (hw _ (mi 39 rfl)) (hw _ (mi 40 rfl)) (hw _ (mi 41 rfl)) (hw _ (mi 42 rfl)) (by decide) (rm8 l Z a0 hw hi.toInt64 h0 ) 0 [(.long hi.toInt64)] [] pd__J_I rfl rfl (st := [(.long hi.toInt64)]) rfl (Ls := #[vr x0, vr x1, vr x2, vi 0, vi 1, vi x5, vi hi, vi 1, us, us, us, us, us, us, us, us, us, us, us, us]) rfl (Nat.le_of_eq rfl) (by decide) (by decide) (by decide) (by decide)
  refine c23 ?_
  obtain ⟨wn, wn1, wn2, -⟩ := own_wd hi thi
  obtain ⟨wd, hwd⟩ : ∃ q : Int32, q = (f8 hi.toInt64) := ⟨_, rfl⟩
  rw [← hwd]
  have twd : 0 ≤ wd.toInt ∧ wd.toInt ≤ 31 := by rw [hwd]; exact (by omega)
  refine o_istore B23 40 42 (l' := #[vr x0, vr x1, vr x2, vi 0, vi 1, vi x5, vi hi, vi wd, us, us, us, us, us, us, us, us, us, us, us, us]) d7_40 rfl rfl ?_
  refine o_aloadN B23 42 43 (v := (.ref x0)) d7_42 rfl rfl rfl ?_
  refine o_iload B23 43 45 (v := wd) d7_43 rfl rfl ?_
  refine o_i2l B23 45 46 d7_45 rfl ?_
  refine o_iconst B23 46 47 (5 : Int32) d7_46 rfl (by decide) ?_
  obtain ⟨v24, T24, L24, B24, Q24, c24⟩ := o_callV B23 47 50 d7_47 rfl (hw _ (mi 52 rfl)) (hw _ (mi 24 rfl)) (hw _ (mi 26 rfl)) (hw _ (mi 25 rfl)) (hw _ (mi 13 rfl)) (hw _ (mi 27 rfl)) (by decide) hE (rm5 l Z a0 hw x0 yw g z wd.toInt64 (5 : Int32) h0 n0 hz ge_x0 ge_yw hE G_words G_size A_yw ne_x0_yw (own_hw _ _ _ 5 rfl (by decide) (by omega))) 0 [(.long wd.toInt64), (.int (5 : Int32))] [] pd__JI_V rfl rfl (st := [(.int (5 : Int32)), (.long wd.toInt64), (.ref x0)]) rfl (Ls := #[vr x0, vr x1, vr x2, vi 0, vi 1, vi x5, vi hi, vi wd, us, us, us, us, us, us, us, us, us, us, us, us]) rfl (Nat.le_of_eq rfl) (by decide) (by decide) (by decide) (by decide)
  obtain ⟨rfl, M24, K24, g24, s24, H24_1, H24_2, J24, ⟨t24, P24⟩⟩ := Q24
  have N24 := Fr.app N0 M24
  have zz24 : n0 ≤ T24.heap.size := Nat.le_trans hz K24.1
  have u24 : s24.toInt = z.toInt + 5 := by rw [t24, show (5 : Int32).toInt = 5 by decide]
  refine c24 ?_
  show OG p.tables e below _ (T24.setTop (mkF m 50 #[vr x0, vr x1, vr x2, vi 0, vi 1, vi x5, vi hi, vi wd, us, us, us, us, us, us, us, us, us, us, us, us] []))
  refine o_iload B24 50 52 (v := (1 : Int32)) d7_50 rfl rfl ?_
  refine o_iconst B24 52 53 (1 : Int32) d7_52 rfl (by decide) ?_
  refine o_isub B24 53 54 d7_53 rfl ?_
  refine o_topI (show ((1 : Int32) - (1 : Int32)) = (0 : Int32) by decide) ?_
  refine o_istore B24 54 56 (l' := #[vr x0, vr x1, vr x2, vi 0, vi 1, vi x5, vi hi, vi wd, vi 0, us, us, us, us, us, us, us, us, us, us, us]) d7_54 rfl rfl ?_
  refine o_aloadN B24 56 57 (v := (.ref x1)) d7_56 rfl rfl rfl ?_
  refine o_iloadN B24 57 58 (v := (0 : Int32)) d7_57 rfl rfl ?_
  refine o_iload B24 58 60 (v := (0 : Int32)) d7_58 rfl rfl ?_
  refine o_iadd B24 60 61 d7_60 rfl ?_
  refine o_topI (show ((0 : Int32) + (0 : Int32)) = (0 : Int32) by decide) ?_
  have F26 := (A_x1.keep K24 (ninS (Ne.symm ne_x0_x1) (ninS ne_x1_yw nin0)))
  refine o_iaload B24 61 62 F26 0 (gd 0) d7_61 rfl (by decide) (by decide) (by decide) rfl ?_
  refine o_iload B24 62 64 (v := x5) d7_62 rfl rfl ?_
  refine o_isub B24 64 65 d7_64 rfl ?_
  obtain ⟨sp, hsp⟩ : ∃ q : Int32, q = ((gd 0) - x5) := ⟨_, rfl⟩
  rw [← hsp]
  have tsp : sp.toInt = (gd 0).toInt - x5.toInt := by rw [hsp]; exact (own_sub hd0.1 (by omega))
  refine o_istore B24 65 67 (l' := #[vr x0, vr x1, vr x2, vi 0, vi 1, vi x5, vi hi, vi wd, vi 0, vi sp, us, us, us, us, us, us, us, us, us, us]) d7_65 rfl rfl ?_
  refine o_iload B24 67 69 (v := (0 : Int32)) d7_67 rfl rfl ?_
  refine o_ifY B24 69 82 d7_69 (XT.i0_le_t (by decide)) (by decide) (by decide) ?_
  refine o_iconst B24 82 83 (0 : Int32) d7_82 rfl (by decide) ?_
  refine o_istore B24 83 85 (l' := #[vr x0, vr x1, vr x2, vi 0, vi 1, vi x5, vi hi, vi wd, vi 0, vi sp, vi 0, us, us, us, us, us, us, us, us, us]) d7_83 rfl rfl ?_
  refine o_ldc2 B24 85 88 d7_85 rfl (hw _ (mi 54 rfl)) ?_
  refine o_iload B24 88 90 (v := (0 : Int32)) d7_88 rfl rfl ?_
  refine o_lshl B24 90 91 d7_90 rfl ?_
  refine o_topJ (show ((-1 : Int64) <<< ((0 : Int32).toInt64 &&& 63)) = (-1 : Int64) by decide) ?_
  refine o_ldc2 B24 91 94 d7_91 rfl (hw _ (mi 54 rfl)) ?_
  refine o_lxor B24 94 95 d7_94 rfl ?_
  refine o_topJ (show ((-1 : Int64) ^^^ (-1 : Int64)) = (0 : Int64) by decide) ?_
  generalize (0 : Int64) = lm
  refine o_lstore B24 95 97 (l' := #[vr x0, vr x1, vr x2, vi 0, vi 1, vi x5, vi hi, vi wd, vi 0, vi sp, vi 0, vj lm, s2, us, us, us, us, us, us, us]) d7_95 rfl rfl ?_
  refine o_iload B24 97 99 (v := (0 : Int32)) d7_97 rfl rfl ?_
  refine o_iload B24 99 101 (v := wd) d7_99 rfl rfl ?_
  refine o_iadd B24 101 102 d7_101 rfl ?_
  obtain ⟨sd, hsd⟩ : ∃ q : Int32, q = ((0 : Int32) + wd) := ⟨_, rfl⟩
  rw [← hsd]
  have tsd : sd.toInt = 0 + wd.toInt := by rw [hsd]; exact (by rw [own_ad (by decide) (by omega)]; rfl)
  refine o_istore B24 102 104 (l' := #[vr x0, vr x1, vr x2, vi 0, vi 1, vi x5, vi hi, vi wd, vi 0, vi sp, vi 0, vj lm, s2, vi sd, us, us, us, us, us, us]) d7_102 rfl rfl ?_
  refine o_lconst B24 104 105 (0 : Int64) d7_104 rfl (by decide) ?_
  refine o_lstore B24 105 107 (l' := #[vr x0, vr x1, vr x2, vi 0, vi 1, vi x5, vi hi, vi wd, vi 0, vi sp, vi 0, vj lm, s2, vi sd, vj 0, s2, us, us, us, us]) d7_105 rfl rfl ?_
  refine o_iconst B24 107 108 (0 : Int32) d7_107 rfl (by decide) ?_
  refine o_istore B24 108 110 (l' := #[vr x0, vr x1, vr x2, vi 0, vi 1, vi x5, vi hi, vi wd, vi 0, vi sp, vi 0, vj lm, s2, vi sd, vj 0, s2, vi 0, us, us, us]) d7_108 rfl rfl ?_
  refine o_iloadN B24 110 111 (v := (0 : Int32)) d7_110 rfl rfl ?_
  refine o_istore B24 111 113 (l' := #[vr x0, vr x1, vr x2, vi 0, vi 1, vi x5, vi hi, vi wd, vi 0, vi sp, vi 0, vj lm, s2, vi sd, vj 0, s2, vi 0, vi 0, us, us]) d7_111 rfl rfl ?_
  refine o_iload B24 113 115 (v := (0 : Int32)) d7_113 rfl rfl ?_
  refine o_iloadN B24 115 116 (v := (0 : Int32)) d7_115 rfl rfl ?_
  refine o_iload B24 116 118 (v := (0 : Int32)) d7_116 rfl rfl ?_
  refine o_iadd B24 118 119 d7_118 rfl ?_
  refine o_topI (show ((0 : Int32) + (0 : Int32)) = (0 : Int32) by decide) ?_
  refine o_icY B24 119 206 d7_119 (XT.ii_ge_t (by decide)) (by decide) (by decide) ?_
  refine o_aloadN B24 206 207 (v := (.ref x0)) d7_206 rfl rfl rfl ?_
  refine o_lload B24 207 209 (v := (0 : Int64)) d7_207 rfl rfl ?_
  refine o_iload B24 209 211 (v := (0 : Int32)) d7_209 rfl rfl ?_
  have F27 := (hE.keep K24)
  obtain ⟨v28, T28, L28, B28, Q28, c28⟩ := o_callV B24 211 214 d7_211 rfl (hw _ (mi 52 rfl)) (hw _ (mi 24 rfl)) (hw _ (mi 26 rfl)) (hw _ (mi 25 rfl)) (hw _ (mi 13 rfl)) (hw _ (mi 27 rfl)) (by decide) F27 (rm5 l Z a0 hw x0 yw g24 s24 (0 : Int64) (0 : Int32) T24.heap n0 zz24 ge_x0 ge_yw F27 H24_1 H24_2 J24 ne_x0_yw (own_hw _ _ _ 0 rfl (by decide) (by omega))) 0 [(.long (0 : Int64)), (.int (0 : Int32))] [] pd__JI_V rfl rfl (st := [(.int (0 : Int32)), (.long (0 : Int64)), (.ref x0)]) rfl (Ls := #[vr x0, vr x1, vr x2, vi 0, vi 1, vi x5, vi hi, vi wd, vi 0, vi sp, vi 0, vj lm, s2, vi sd, vj 0, s2, vi 0, vi 0, us, us]) rfl (Nat.le_of_eq rfl) (by decide) (by decide) (by decide) (by decide)
  obtain ⟨rfl, M28, K28, g28, s28, H28_1, H28_2, J28, ⟨t28, P28⟩⟩ := Q28
  have N28 := Fr.app N24 M28
  have zz28 : n0 ≤ T28.heap.size := Nat.le_trans zz24 K28.1
  have u28 : s28.toInt = s24.toInt + 0 := by rw [t28, show (0 : Int32).toInt = 0 by decide]
  refine c28 ?_
  show OG p.tables e below _ (T28.setTop (mkF m 214 #[vr x0, vr x1, vr x2, vi 0, vi 1, vi x5, vi hi, vi wd, vi 0, vi sp, vi 0, vj lm, s2, vi sd, vj 0, s2, vi 0, vi 0, us, us] []))
  refine o_aloadN B28 214 215 (v := (.ref x0)) d7_214 rfl rfl rfl ?_
  refine o_aloadN B28 215 216 (v := (.ref x2)) d7_215 rfl rfl rfl ?_
  refine o_iloadN B28 216 217 (v := (0 : Int32)) d7_216 rfl rfl ?_
  refine o_iload B28 217 219 (v := (0 : Int32)) d7_217 rfl rfl ?_
  refine o_iadd B28 219 220 d7_219 rfl ?_
  refine o_topI (show ((0 : Int32) + (0 : Int32)) = (0 : Int32) by decide) ?_
  have F30 := ((A_x2.keep K24 (ninS (Ne.symm ne_x0_x2) (ninS ne_x2_yw nin0))).keep K28 (ninS (Ne.symm ne_x0_x2) (ninS ne_x2_yw nin0)))
  refine o_iaload B28 220 221 F30 0 (gf 0) d7_220 rfl (by decide) (by decide) (by decide) rfl ?_
  refine o_iconst B28 221 222 (1 : Int32) d7_221 rfl (by decide) ?_
  refine o_isub B28 222 223 d7_222 rfl ?_
  refine o_i2l B28 223 224 d7_223 rfl ?_
  refine o_iload B28 224 226 (v := wd) d7_224 rfl rfl ?_
  have F31 := (F27.keep K28)
  obtain ⟨v32, T32, L32, B32, Q32, c32⟩ := o_callV B28 226 229 d7_226 rfl (hw _ (mi 52 rfl)) (hw _ (mi 24 rfl)) (hw _ (mi 26 rfl)) (hw _ (mi 25 rfl)) (hw _ (mi 13 rfl)) (hw _ (mi 27 rfl)) (by decide) F31 (rm5 l Z a0 hw x0 yw g28 s28 ((gf 0) - (1 : Int32)).toInt64 wd T28.heap n0 zz28 ge_x0 ge_yw F31 H28_1 H28_2 J28 ne_x0_yw (own_hw _ _ _ _ rfl rfl (by omega))) 0 [(.long ((gf 0) - (1 : Int32)).toInt64), (.int wd)] [] pd__JI_V rfl rfl (st := [(.int wd), (.long ((gf 0) - (1 : Int32)).toInt64), (.ref x0)]) rfl (Ls := #[vr x0, vr x1, vr x2, vi 0, vi 1, vi x5, vi hi, vi wd, vi 0, vi sp, vi 0, vj lm, s2, vi sd, vj 0, s2, vi 0, vi 0, us, us]) rfl (Nat.le_of_eq rfl) (by decide) (by decide) (by decide) (by decide)
  obtain ⟨rfl, M32, K32, g32, s32, H32_1, H32_2, J32, ⟨t32, P32⟩⟩ := Q32
  have N32 := Fr.app N28 M32
  have zz32 : n0 ≤ T32.heap.size := Nat.le_trans zz28 K32.1
  refine c32 ?_
  show OG p.tables e below _ (T32.setTop (mkF m 229 #[vr x0, vr x1, vr x2, vi 0, vi 1, vi x5, vi hi, vi wd, vi 0, vi sp, vi 0, vj lm, s2, vi sd, vj 0, s2, vi 0, vi 0, us, us] []))
  refine o_iload B32 229 231 (v := (0 : Int32)) d7_229 rfl rfl ?_
  refine o_ifN B32 231 234 d7_231 rfl (XT.i0_ne_f (by decide)) ?_
  have eW : own_W1 gf = wd := by rw [hwd, hhi]; rfl
  have eT : s32.toInt = z.toInt + own_tot1 gd gf x5 := by unfold own_tot1; rw [eW]; omega
  have eB : ∀ i, i < 5 → bitAt g32 (z.toInt.toNat + i) = (bitAt g (z.toInt.toNat + i) || (own_W1 gf).toInt64.toBitVec.getLsbD i) := by intro i hi5; rw [own_wol P32 _ (by omega), own_wol P28 _ (by omega), eW]; exact own_wof P24 i hi5
  have KT33 := ((((Keep.refl h0 [x0, yw]).trans K24 (allS (Or.inl (mi 0 rfl)) (allS (Or.inl (mi 1 rfl)) all0))).trans K28 (allS (Or.inl (mi 0 rfl)) (allS (Or.inl (mi 1 rfl)) all0))).trans K32 (allS (Or.inl (mi 0 rfl)) (allS (Or.inl (mi 1 rfl)) all0)))
  exact o_retV B32 234 d7_234 hret hlk (by decide) (by decide) ⟨rfl, N32, KT33, g32, s32, H32_1, H32_2, J32, eT, eB⟩
def own_W2 (gf : Nat → Int32) : Int32 := f8 (f2 (f2 (0 : Int32) ((gf 0) - (1 : Int32))) ((gf 1) - (1 : Int32))).toInt64
def own_tot2 (gd gf : Nat → Int32) (b : Int32) : Int := 5 + 1 * ((f18 (gd 1 - b) 1).toInt + (own_W2 gf).toInt) + (own_W2 gf).toInt + (1 + (XT.ushrL ((gd 1 - b).toInt64 - 1) (f18 (gd 1 - b) 1)).toInt + 1)
theorem pd___J : parseMethodDescriptor "()J" = some ⟨[], some .long⟩ := by decide +kernel
def Q7_2 (Z : State) (x0 : Addr) (x1 : Addr) (x2 : Addr) (yw : Addr) (gd : Nat → Int32) (gf : Nat → Int32) (g : Nat → Int64) (z : Int64) (x5 : Int32) (h0 : Heap) (n0 : Nat) (v : Option Value) (h : Heap) (L : List Loc) : Prop := v = none ∧ Fr n0 L ∧ Keep h0 h [x0, yw] ∧ ∃ (g' : Nat → Int64) (s : Int64), Fld Z h x0 "com/example/micro_ranker/microranker/engine/BitWriter" "words" "[J" (.ref yw) ∧ Fld Z h x0 "com/example/micro_ranker/microranker/engine/BitWriter" "size" "J" (.long s) ∧ AJ Z h yw 8 g' ∧ s.toInt = z.toInt + own_tot2 gd gf x5 ∧ ∀ i, i < 5 → bitAt g' (z.toInt.toNat + i) = (bitAt g (z.toInt.toNat + i) || (own_W2 gf).toInt64.toBitVec.getLsbD i)
set_option maxRecDepth 65536 in
set_option maxHeartbeats 400000000 in
theorem rm7_2 (l : Launch) (Z : State) (a0 : Array Value) (hw : ∀ d ∈ tables_1, d.before a0 Z = true) (x0 : Addr) (x1 : Addr) (x2 : Addr) (yw : Addr) (gd : Nat → Int32) (gf : Nat → Int32) (g : Nat → Int64) (z : Int64) (x5 : Int32) (h0 : Heap) (n0 : Nat) (hz : n0 ≤ h0.size) (ge_x0 : n0 ≤ x0) (ge_yw : n0 ≤ yw) (hE : Exa Z h0 x0 "com/example/micro_ranker/microranker/engine/BitWriter") (G_words : Fld Z h0 x0 "com/example/micro_ranker/microranker/engine/BitWriter" "words" "[J" (.ref yw)) (G_size : Fld Z h0 x0 "com/example/micro_ranker/microranker/engine/BitWriter" "size" "J" (.long z)) (A_x1 : AI Z h0 x1 .int 4 gd) (A_x2 : AI Z h0 x2 .int 4 gf) (A_yw : AJ Z h0 yw 8 g) (ne_x0_yw : x0 ≠ yw) (ne_x1_yw : x1 ≠ yw) (ne_x2_yw : x2 ≠ yw) (ne_x0_x1 : x0 ≠ x1) (ne_x0_x2 : x0 ≠ x2) (hd : Bd gd gf x5 z) :
    Met l Z (⟨"com/example/micro_ranker/microranker/engine/Block", "write", "(Lcom/example/micro_ranker/microranker/engine/BitWriter;[I[IIII)V"⟩ : MethodName) prog_18_method_2_code 20 none ({ frames := 4, cells := 0, slots := 0, locals := 57 } : Room) #[(.ref x0), (.ref x1), (.ref x2), (.int (0 : Int32)), (.int (2 : Int32)), (.int x5)] h0 (Q7_2 Z x0 x1 x2 yw gd gf g z x5 h0 n0) := by
  refine enter pl7 #[vr x0, vr x1, vr x2, vi 0, vi 2, vi x5, us, us, us, us, us, us, us, us, us, us, us, us, us, us] rfl ?_
  intro p e s m below meth c T B hret hlk hnm
  have N0 := Fr.nil n0
  have hz0 := hd.1
  have hf0 := hd.2.1
  have hd0 := hd.2.2
  have hb := rng32 (gd 3)
  refine o_iconst B 0 1 (0 : Int32) d7_0 rfl (by decide) ?_
  refine o_istore B 1 3 (l' := #[vr x0, vr x1, vr x2, vi 0, vi 2, vi x5, vi 0, us, us, us, us, us, us, us, us, us, us, us, us, us]) d7_1 rfl rfl ?_
  refine o_iloadN B 3 4 (v := (0 : Int32)) d7_3 rfl rfl ?_
  refine o_istore B 4 6 (l' := #[vr x0, vr x1, vr x2, vi 0, vi 2, vi x5, vi 0, vi 0, us, us, us, us, us, us, us, us, us, us, us, us]) d7_4 rfl rfl ?_
  refine o_iload B 6 8 (v := (0 : Int32)) d7_6 rfl rfl ?_
  refine o_iloadN B 8 9 (v := (0 : Int32)) d7_8 rfl rfl ?_
  refine o_iload B 9 11 (v := (2 : Int32)) d7_9 rfl rfl ?_
  refine o_iadd B 11 12 d7_11 rfl ?_
  refine o_topI (show ((0 : Int32) + (2 : Int32)) = (2 : Int32) by decide) ?_
  refine o_icN B 12 15 d7_12 rfl (XT.ii_ge_f (by decide)) ?_
  refine o_iload B 15 17 (v := (0 : Int32)) d7_15 rfl rfl ?_
  refine o_aloadN B 17 18 (v := (.ref x2)) d7_17 rfl rfl rfl ?_
  refine o_iload B 18 20 (v := (0 : Int32)) d7_18 rfl rfl ?_
  refine o_iaload B 20 21 A_x2 0 (gf 0) d7_20 rfl (by decide) (by decide) (by decide) rfl ?_
  refine o_iconst B 21 22 (1 : Int32) d7_21 rfl (by decide) ?_
  refine o_isub B 22 23 d7_22 rfl ?_
  obtain ⟨T22, B22, c22⟩ := o_callP B 23 26 d7_23 rfl (hw _ (mi 38 rfl)) (hw _ (mi 8 rfl)) (hw _ (mi 9 rfl)) (hw _ (mi 10 rfl)) (by decide) (rm2 l Z a0 hw (0 : Int32) ((gf 0) - (1 : Int32)) h0 ) 0 [(.int (0 : Int32)), (.int ((gf 0) - (1 : Int32)))] [] pd__II_I rfl rfl (st := [(.int ((gf 0) - (1 : Int32))), (.int (0 : Int32))]) rfl (Ls := #[vr x0, vr x1, vr x2, vi 0, vi 2, vi x5, vi 0, vi 0, us, us, us, us, us, us, us, us, us, us, us, us]) rfl (Nat.le_of_eq rfl) (by decide) (by decide) (by decide) (by decide)
  refine c22 ?_
  refine o_istore B22 26 28 (l' := #[vr x0, vr x1, vr x2, vi 0, vi 2, vi x5, vi (f2 (0 : Int32) ((gf 0) - (1 : Int32))), vi 0, us, us, us, us, us, us, us, us, us, us, us, us]) d7_26 rfl rfl ?_
  refine o_iincC B22 28 31 (l' := #[vr x0, vr x1, vr x2, vi 0, vi 2, vi x5, vi (f2 (0 : Int32) ((gf 0) - (1 : Int32))), vi 1, us, us, us, us, us, us, us, us, us, us, us, us]) (1 : Int32) (1 : Int32) d7_28 rfl (by decide) rfl (by decide) rfl ?_
  refine o_goto B22 31 6 d7_31 (by decide) (by decide) ?_
  refine o_iload B22 6 8 (v := (1 : Int32)) d7_6 rfl rfl ?_
  refine o_iloadN B22 8 9 (v := (0 : Int32)) d7_8 rfl rfl ?_
  refine o_iload B22 9 11 (v := (2 : Int32)) d7_9 rfl rfl ?_
  refine o_iadd B22 11 12 d7_11 rfl ?_
  refine o_topI (show ((0 : Int32) + (2 : Int32)) = (2 : Int32) by decide) ?_
  refine o_icN B22 12 15 d7_12 rfl (XT.ii_ge_f (by decide)) ?_
  refine o_iload B22 15 17 (v := (f2 (0 : Int32) ((gf 0) - (1 : Int32)))) d7_15 rfl rfl ?_
  refine o_aloadN B22 17 18 (v := (.ref x2)) d7_17 rfl rfl rfl ?_
  refine o_iload B22 18 20 (v := (1 : Int32)) d7_18 rfl rfl ?_
  refine o_iaload B22 20 21 A_x2 1 (gf 1) d7_20 rfl (by decide) (by decide) (by decide) rfl ?_
  refine o_iconst B22 21 22 (1 : Int32) d7_21 rfl (by decide) ?_
  refine o_isub B22 22 23 d7_22 rfl ?_
  obtain ⟨T24, B24, c24⟩ := o_callP B22 23 26 d7_23 rfl (hw _ (mi 38 rfl)) (hw _ (mi 8 rfl)) (hw _ (mi 9 rfl)) (hw _ (mi 10 rfl)) (by decide) (rm2 l Z a0 hw (f2 (0 : Int32) ((gf 0) - (1 : Int32))) ((gf 1) - (1 : Int32)) h0 ) 0 [(.int (f2 (0 : Int32) ((gf 0) - (1 : Int32)))), (.int ((gf 1) - (1 : Int32)))] [] pd__II_I rfl rfl (st := [(.int ((gf 1) - (1 : Int32))), (.int (f2 (0 : Int32) ((gf 0) - (1 : Int32))))]) rfl (Ls := #[vr x0, vr x1, vr x2, vi 0, vi 2, vi x5, vi (f2 (0 : Int32) ((gf 0) - (1 : Int32))), vi 1, us, us, us, us, us, us, us, us, us, us, us, us]) rfl (Nat.le_of_eq rfl) (by decide) (by decide) (by decide) (by decide)
  refine c24 ?_
  refine o_istore B24 26 28 (l' := #[vr x0, vr x1, vr x2, vi 0, vi 2, vi x5, vi (f2 (f2 (0 : Int32) ((gf 0) - (1 : Int32))) ((gf 1) - (1 : Int32))), vi 1, us, us, us, us, us, us, us, us, us, us, us, us]) d7_26 rfl rfl ?_
  refine o_iincC B24 28 31 (l' := #[vr x0, vr x1, vr x2, vi 0, vi 2, vi x5, vi (f2 (f2 (0 : Int32) ((gf 0) - (1 : Int32))) ((gf 1) - (1 : Int32))), vi 2, us, us, us, us, us, us, us, us, us, us, us, us]) (1 : Int32) (2 : Int32) d7_28 rfl (by decide) rfl (by decide) rfl ?_
  refine o_goto B24 31 6 d7_31 (by decide) (by decide) ?_
  refine o_iload B24 6 8 (v := (2 : Int32)) d7_6 rfl rfl ?_
  refine o_iloadN B24 8 9 (v := (0 : Int32)) d7_8 rfl rfl ?_
  refine o_iload B24 9 11 (v := (2 : Int32)) d7_9 rfl rfl ?_
  refine o_iadd B24 11 12 d7_11 rfl ?_
  refine o_topI (show ((0 : Int32) + (2 : Int32)) = (2 : Int32) by decide) ?_
  refine o_icY B24 12 34 d7_12 (XT.ii_ge_t (by decide)) (by decide) (by decide) ?_
  obtain ⟨hi, hhi⟩ : ∃ q : Int32, q = (f2 (f2 (0 : Int32) ((gf 0) - (1 : Int32))) ((gf 1) - (1 : Int32))) := ⟨_, rfl⟩
  rw [← hhi]
  have thi : 0 ≤ hi.toInt := by rw [hhi]; exact (own_mx (own_mx (by decide) hf0.1) hf0.2.1)
  refine o_iload B24 34 36 (v := hi) d7_34 rfl rfl ?_
  refine o_i2l B24 36 37 d7_36 rfl ?_
  obtain ⟨T25, B25, c25⟩ := o_callP B24 37 40 d7_37 rfl (hw _ (mi 39 rfl)) (hw _ (mi 40 rfl)) (hw _ (mi 41 rfl)) (hw _ (mi 42 rfl)) (by decide) (rm8 l Z a0 hw hi.toInt64 h0 ) 0 [(.long hi.toInt64)] [] pd__J_I rfl rfl (st := [(.long hi.toInt64)]) rfl (Ls := #[vr x0, vr x1, vr x2, vi 0, vi 2, vi x5, vi hi, vi 2, us, us, us, us, us, us, us, us, us, us, us, us]) rfl (Nat.le_of_eq rfl) (by decide) (by decide) (by decide) (by decide)
  refine c25 ?_
  obtain ⟨wn, wn1, wn2, -⟩ := own_wd hi thi
  obtain ⟨wd, hwd⟩ : ∃ q : Int32, q = (f8 hi.toInt64) := ⟨_, rfl⟩
  rw [← hwd]
  have twd : 0 ≤ wd.toInt ∧ wd.toInt ≤ 31 := by rw [hwd]; exact (by omega)
  refine o_istore B25 40 42 (l' := #[vr x0, vr x1, vr x2, vi 0, vi 2, vi x5, vi hi, vi wd, us, us, us, us, us, us, us, us, us, us, us, us]) d7_40 rfl rfl ?_
  refine o_aloadN B25 42 43 (v := (.ref x0)) d7_42 rfl rfl rfl ?_
  refine o_iload B25 43 45 (v := wd) d7_43 rfl rfl ?_
  refine o_i2l B25 45 46 d7_45 rfl ?_
  refine o_iconst B25 46 47 (5 : Int32) d7_46 rfl (by decide) ?_
  obtain ⟨v26, T26, L26, B26, Q26, c26⟩ := o_callV B25 47 50 d7_47 rfl (hw _ (mi 52 rfl)) (hw _ (mi 24 rfl)) (hw _ (mi 26 rfl)) (hw _ (mi 25 rfl)) (hw _ (mi 13 rfl)) (hw _ (mi 27 rfl)) (by decide) hE (rm5 l Z a0 hw x0 yw g z wd.toInt64 (5 : Int32) h0 n0 hz ge_x0 ge_yw hE G_words G_size A_yw ne_x0_yw (own_hw _ _ _ 5 rfl (by decide) (by omega))) 0 [(.long wd.toInt64), (.int (5 : Int32))] [] pd__JI_V rfl rfl (st := [(.int (5 : Int32)), (.long wd.toInt64), (.ref x0)]) rfl (Ls := #[vr x0, vr x1, vr x2, vi 0, vi 2, vi x5, vi hi, vi wd, us, us, us, us, us, us, us, us, us, us, us, us]) rfl (Nat.le_of_eq rfl) (by decide) (by decide) (by decide) (by decide)
  obtain ⟨rfl, M26, K26, g26, s26, H26_1, H26_2, J26, ⟨t26, P26⟩⟩ := Q26
  have N26 := Fr.app N0 M26
  have zz26 : n0 ≤ T26.heap.size := Nat.le_trans hz K26.1
  have u26 : s26.toInt = z.toInt + 5 := by rw [t26, show (5 : Int32).toInt = 5 by decide]
  refine c26 ?_
  show OG p.tables e below _ (T26.setTop (mkF m 50 #[vr x0, vr x1, vr x2, vi 0, vi 2, vi x5, vi hi, vi wd, us, us, us, us, us, us, us, us, us, us, us, us] []))
  refine o_iload B26 50 52 (v := (2 : Int32)) d7_50 rfl rfl ?_
  refine o_iconst B26 52 53 (1 : Int32) d7_52 rfl (by decide) ?_
  refine o_isub B26 53 54 d7_53 rfl ?_
  refine o_topI (show ((2 : Int32) - (1 : Int32)) = (1 : Int32) by decide) ?_
  refine o_istore B26 54 56 (l' := #[vr x0, vr x1, vr x2, vi 0, vi 2, vi x5, vi hi, vi wd, vi 1, us, us, us, us, us, us, us, us, us, us, us]) d7_54 rfl rfl ?_
  refine o_aloadN B26 56 57 (v := (.ref x1)) d7_56 rfl rfl rfl ?_
  refine o_iloadN B26 57 58 (v := (0 : Int32)) d7_57 rfl rfl ?_
  refine o_iload B26 58 60 (v := (1 : Int32)) d7_58 rfl rfl ?_
  refine o_iadd B26 60 61 d7_60 rfl ?_
  refine o_topI (show ((0 : Int32) + (1 : Int32)) = (1 : Int32) by decide) ?_
  have F28 := (A_x1.keep K26 (ninS (Ne.symm ne_x0_x1) (ninS ne_x1_yw nin0)))
  refine o_iaload B26 61 62 F28 1 (gd 1) d7_61 rfl (by decide) (by decide) (by decide) rfl ?_
  refine o_iload B26 62 64 (v := x5) d7_62 rfl rfl ?_
  refine o_isub B26 64 65 d7_64 rfl ?_
  obtain ⟨sp, hsp⟩ : ∃ q : Int32, q = ((gd 1) - x5) := ⟨_, rfl⟩
  rw [← hsp]
  have tsp : sp.toInt = (gd 1).toInt - x5.toInt := by rw [hsp]; exact (own_sub hd0.1 (by omega))
  refine o_istore B26 65 67 (l' := #[vr x0, vr x1, vr x2, vi 0, vi 2, vi x5, vi hi, vi wd, vi 1, vi sp, us, us, us, us, us, us, us, us, us, us]) d7_65 rfl rfl ?_
  refine o_iload B26 67 69 (v := (1 : Int32)) d7_67 rfl rfl ?_
  refine o_ifN B26 69 72 d7_69 rfl (XT.i0_le_f (by decide)) ?_
  refine o_iload B26 72 74 (v := sp) d7_72 rfl rfl ?_
  refine o_iload B26 74 76 (v := (1 : Int32)) d7_74 rfl rfl ?_
  obtain ⟨T29, B29, c29⟩ := o_callP B26 76 79 d7_76 rfl (hw _ (mi 111 rfl)) (hw _ (mi 112 rfl)) (hw _ (mi 36 rfl)) (hw _ (mi 113 rfl)) (by decide) (rm18 l Z a0 hw sp (1 : Int32) T26.heap ) 0 [(.int sp), (.int (1 : Int32))] [] pd__II_I rfl rfl (st := [(.int (1 : Int32)), (.int sp)]) rfl (Ls := #[vr x0, vr x1, vr x2, vi 0, vi 2, vi x5, vi hi, vi wd, vi 1, vi sp, us, us, us, us, us, us, us, us, us, us]) rfl (Nat.le_of_eq rfl) (by decide) (by decide) (by decide) (by decide)
  refine c29 ?_
  refine o_goto B29 79 83 d7_79 (by decide) (by decide) ?_
  obtain ⟨L, L1, L2, L3⟩ := own_low sp 1 (by decide) (by rw [show (1 : Int32).toInt = 1 by decide]; omega)
  obtain ⟨lo, hlo⟩ : ∃ q : Int32, q = (f18 sp (1 : Int32)) := ⟨_, rfl⟩
  rw [← hlo]
  have tlo : lo.toInt = L := by rw [hlo]; exact L2
  refine o_istore B29 83 85 (l' := #[vr x0, vr x1, vr x2, vi 0, vi 2, vi x5, vi hi, vi wd, vi 1, vi sp, vi lo, us, us, us, us, us, us, us, us, us]) d7_83 rfl rfl ?_
  refine o_ldc2 B29 85 88 d7_85 rfl (hw _ (mi 54 rfl)) ?_
  refine o_iload B29 88 90 (v := lo) d7_88 rfl rfl ?_
  refine o_lshl B29 90 91 d7_90 rfl ?_
  refine o_ldc2 B29 91 94 d7_91 rfl (hw _ (mi 54 rfl)) ?_
  refine o_lxor B29 94 95 d7_94 rfl ?_
  generalize (((-1 : Int64) <<< (lo.toInt64 &&& 63)) ^^^ (-1 : Int64)) = lm
  refine o_lstore B29 95 97 (l' := #[vr x0, vr x1, vr x2, vi 0, vi 2, vi x5, vi hi, vi wd, vi 1, vi sp, vi lo, vj lm, s2, us, us, us, us, us, us, us]) d7_95 rfl rfl ?_
  refine o_iload B29 97 99 (v := lo) d7_97 rfl rfl ?_
  refine o_iload B29 99 101 (v := wd) d7_99 rfl rfl ?_
  refine o_iadd B29 101 102 d7_101 rfl ?_
  obtain ⟨sd, hsd⟩ : ∃ q : Int32, q = (lo + wd) := ⟨_, rfl⟩
  rw [← hsd]
  have tsd : sd.toInt = L + wd.toInt := by rw [hsd]; exact (by rw [own_ad (by omega) (by omega)]; rw [tlo])
  refine o_istore B29 102 104 (l' := #[vr x0, vr x1, vr x2, vi 0, vi 2, vi x5, vi hi, vi wd, vi 1, vi sp, vi lo, vj lm, s2, vi sd, us, us, us, us, us, us]) d7_102 rfl rfl ?_
  refine o_lconst B29 104 105 (0 : Int64) d7_104 rfl (by decide) ?_
  refine o_lstore B29 105 107 (l' := #[vr x0, vr x1, vr x2, vi 0, vi 2, vi x5, vi hi, vi wd, vi 1, vi sp, vi lo, vj lm, s2, vi sd, vj 0, s2, us, us, us, us]) d7_105 rfl rfl ?_
  refine o_iconst B29 107 108 (0 : Int32) d7_107 rfl (by decide) ?_
  refine o_istore B29 108 110 (l' := #[vr x0, vr x1, vr x2, vi 0, vi 2, vi x5, vi hi, vi wd, vi 1, vi sp, vi lo, vj lm, s2, vi sd, vj 0, s2, vi 0, us, us, us]) d7_108 rfl rfl ?_
  refine o_iloadN B29 110 111 (v := (0 : Int32)) d7_110 rfl rfl ?_
  refine o_istore B29 111 113 (l' := #[vr x0, vr x1, vr x2, vi 0, vi 2, vi x5, vi hi, vi wd, vi 1, vi sp, vi lo, vj lm, s2, vi sd, vj 0, s2, vi 0, vi 0, us, us]) d7_111 rfl rfl ?_
  refine o_iload B29 113 115 (v := (0 : Int32)) d7_113 rfl rfl ?_
  refine o_iloadN B29 115 116 (v := (0 : Int32)) d7_115 rfl rfl ?_
  refine o_iload B29 116 118 (v := (1 : Int32)) d7_116 rfl rfl ?_
  refine o_iadd B29 118 119 d7_118 rfl ?_
  refine o_topI (show ((0 : Int32) + (1 : Int32)) = (1 : Int32) by decide) ?_
  refine o_icN B29 119 122 d7_119 rfl (XT.ii_ge_f (by decide)) ?_
  refine o_aloadN B29 122 123 (v := (.ref x1)) d7_122 rfl rfl rfl ?_
  refine o_iload B29 123 125 (v := (0 : Int32)) d7_123 rfl rfl ?_
  refine o_iaload B29 125 126 F28 0 (gd 0) d7_125 rfl (by decide) (by decide) (by decide) rfl ?_
  refine o_iload B29 126 128 (v := x5) d7_126 rfl rfl ?_
  refine o_isub B29 128 129 d7_128 rfl ?_
  refine o_i2l B29 129 130 d7_129 rfl ?_
  refine o_lload B29 130 132 (v := lm) d7_130 rfl rfl ?_
  refine o_land B29 132 133 d7_132 rfl ?_
  refine o_aloadN B29 133 134 (v := (.ref x2)) d7_133 rfl rfl rfl ?_
  refine o_iload B29 134 136 (v := (0 : Int32)) d7_134 rfl rfl ?_
  have F32 := (A_x2.keep K26 (ninS (Ne.symm ne_x0_x2) (ninS ne_x2_yw nin0)))
  refine o_iaload B29 136 137 F32 0 (gf 0) d7_136 rfl (by decide) (by decide) (by decide) rfl ?_
  refine o_iconst B29 137 138 (1 : Int32) d7_137 rfl (by decide) ?_
  refine o_isub B29 138 139 d7_138 rfl ?_
  refine o_i2l B29 139 140 d7_139 rfl ?_
  refine o_iload B29 140 142 (v := lo) d7_140 rfl rfl ?_
  refine o_lshl B29 142 143 d7_142 rfl ?_
  refine o_lor B29 143 144 d7_143 rfl ?_
  generalize ((((gd 0) - x5).toInt64 &&& lm) ||| (((gf 0) - (1 : Int32)).toInt64 <<< (lo.toInt64 &&& 63))) = bt33
  refine o_lstore B29 144 146 (l' := #[vr x0, vr x1, vr x2, vi 0, vi 2, vi x5, vi hi, vi wd, vi 1, vi sp, vi lo, vj lm, s2, vi sd, vj 0, s2, vi 0, vi 0, vj bt33, s2]) d7_144 rfl rfl ?_
  refine o_lload B29 146 148 (v := (0 : Int64)) d7_146 rfl rfl ?_
  refine o_lload B29 148 150 (v := bt33) d7_148 rfl rfl ?_
  refine o_iload B29 150 152 (v := (0 : Int32)) d7_150 rfl rfl ?_
  refine o_lshl B29 152 153 d7_152 rfl ?_
  refine o_lor B29 153 154 d7_153 rfl ?_
  generalize ((0 : Int64) ||| (bt33 <<< ((0 : Int32).toInt64 &&& 63))) = pd34
  refine o_lstore B29 154 156 (l' := #[vr x0, vr x1, vr x2, vi 0, vi 2, vi x5, vi hi, vi wd, vi 1, vi sp, vi lo, vj lm, s2, vi sd, vj pd34, s2, vi 0, vi 0, vj bt33, s2]) d7_154 rfl rfl ?_
  refine o_iload B29 156 158 (v := (0 : Int32)) d7_156 rfl rfl ?_
  refine o_iload B29 158 160 (v := sd) d7_158 rfl rfl ?_
  refine o_iadd B29 160 161 d7_160 rfl ?_
  obtain ⟨pb35, hpb35⟩ : ∃ q : Int32, q = ((0 : Int32) + sd) := ⟨_, rfl⟩
  rw [← hpb35]
  have tpb35 : pb35.toInt = 0 + sd.toInt := by rw [hpb35]; exact (by rw [own_ad (by decide) (by omega)]; rfl)
  refine o_istore B29 161 163 (l' := #[vr x0, vr x1, vr x2, vi 0, vi 2, vi x5, vi hi, vi wd, vi 1, vi sp, vi lo, vj lm, s2, vi sd, vj pd34, s2, vi pb35, vi 0, vj bt33, s2]) d7_161 rfl rfl ?_
  refine o_iload B29 163 165 (v := pb35) d7_163 rfl rfl ?_
  refine o_bipush B29 165 167 (64 : Int32) d7_165 rfl (by decide) ?_
  refine o_icY B29 167 200 d7_167 (XT.ii_lt_t (by rw [Int32.lt_iff_toInt_lt, show (64 : Int32).toInt = 64 by decide]; omega)) (by decide) (by decide) ?_
  refine o_iincC B29 200 203 (l' := #[vr x0, vr x1, vr x2, vi 0, vi 2, vi x5, vi hi, vi wd, vi 1, vi sp, vi lo, vj lm, s2, vi sd, vj pd34, s2, vi pb35, vi 1, vj bt33, s2]) (1 : Int32) (1 : Int32) d7_200 rfl (by decide) rfl (by decide) rfl ?_
  refine o_goto B29 203 113 d7_203 (by decide) (by decide) ?_
  refine o_iload B29 113 115 (v := (1 : Int32)) d7_113 rfl rfl ?_
  refine o_iloadN B29 115 116 (v := (0 : Int32)) d7_115 rfl rfl ?_
  refine o_iload B29 116 118 (v := (1 : Int32)) d7_116 rfl rfl ?_
  refine o_iadd B29 118 119 d7_118 rfl ?_
  refine o_topI (show ((0 : Int32) + (1 : Int32)) = (1 : Int32) by decide) ?_
  refine o_icY B29 119 206 d7_119 (XT.ii_ge_t (by decide)) (by decide) (by decide) ?_
  refine o_aloadN B29 206 207 (v := (.ref x0)) d7_206 rfl rfl rfl ?_
  refine o_lload B29 207 209 (v := pd34) d7_207 rfl rfl ?_
  refine o_iload B29 209 211 (v := pb35) d7_209 rfl rfl ?_
  have F36 := (hE.keep K26)
  obtain ⟨v37, T37, L37, B37, Q37, c37⟩ := o_callV B29 211 214 d7_211 rfl (hw _ (mi 52 rfl)) (hw _ (mi 24 rfl)) (hw _ (mi 26 rfl)) (hw _ (mi 25 rfl)) (hw _ (mi 13 rfl)) (hw _ (mi 27 rfl)) (by decide) F36 (rm5 l Z a0 hw x0 yw g26 s26 pd34 pb35 T26.heap n0 zz26 ge_x0 ge_yw F36 H26_1 H26_2 J26 ne_x0_yw (own_hw _ _ _ _ rfl rfl (by omega))) 0 [(.long pd34), (.int pb35)] [] pd__JI_V rfl rfl (st := [(.int pb35), (.long pd34), (.ref x0)]) rfl (Ls := #[vr x0, vr x1, vr x2, vi 0, vi 2, vi x5, vi hi, vi wd, vi 1, vi sp, vi lo, vj lm, s2, vi sd, vj pd34, s2, vi pb35, vi 1, vj bt33, s2]) rfl (Nat.le_of_eq rfl) (by decide) (by decide) (by decide) (by decide)
  obtain ⟨rfl, M37, K37, g37, s37, H37_1, H37_2, J37, ⟨t37, P37⟩⟩ := Q37
  have N37 := Fr.app N26 M37
  have zz37 : n0 ≤ T37.heap.size := Nat.le_trans zz26 K37.1
  refine c37 ?_
  show OG p.tables e below _ (T37.setTop (mkF m 214 #[vr x0, vr x1, vr x2, vi 0, vi 2, vi x5, vi hi, vi wd, vi 1, vi sp, vi lo, vj lm, s2, vi sd, vj pd34, s2, vi pb35, vi 1, vj bt33, s2] []))
  refine o_aloadN B37 214 215 (v := (.ref x0)) d7_214 rfl rfl rfl ?_
  refine o_aloadN B37 215 216 (v := (.ref x2)) d7_215 rfl rfl rfl ?_
  refine o_iloadN B37 216 217 (v := (0 : Int32)) d7_216 rfl rfl ?_
  refine o_iload B37 217 219 (v := (1 : Int32)) d7_217 rfl rfl ?_
  refine o_iadd B37 219 220 d7_219 rfl ?_
  refine o_topI (show ((0 : Int32) + (1 : Int32)) = (1 : Int32) by decide) ?_
  have F39 := (F32.keep K37 (ninS (Ne.symm ne_x0_x2) (ninS ne_x2_yw nin0)))
  refine o_iaload B37 220 221 F39 1 (gf 1) d7_220 rfl (by decide) (by decide) (by decide) rfl ?_
  refine o_iconst B37 221 222 (1 : Int32) d7_221 rfl (by decide) ?_
  refine o_isub B37 222 223 d7_222 rfl ?_
  refine o_i2l B37 223 224 d7_223 rfl ?_
  refine o_iload B37 224 226 (v := wd) d7_224 rfl rfl ?_
  have F40 := (F36.keep K37)
  obtain ⟨v41, T41, L41, B41, Q41, c41⟩ := o_callV B37 226 229 d7_226 rfl (hw _ (mi 52 rfl)) (hw _ (mi 24 rfl)) (hw _ (mi 26 rfl)) (hw _ (mi 25 rfl)) (hw _ (mi 13 rfl)) (hw _ (mi 27 rfl)) (by decide) F40 (rm5 l Z a0 hw x0 yw g37 s37 ((gf 1) - (1 : Int32)).toInt64 wd T37.heap n0 zz37 ge_x0 ge_yw F40 H37_1 H37_2 J37 ne_x0_yw (own_hw _ _ _ _ rfl rfl (by omega))) 0 [(.long ((gf 1) - (1 : Int32)).toInt64), (.int wd)] [] pd__JI_V rfl rfl (st := [(.int wd), (.long ((gf 1) - (1 : Int32)).toInt64), (.ref x0)]) rfl (Ls := #[vr x0, vr x1, vr x2, vi 0, vi 2, vi x5, vi hi, vi wd, vi 1, vi sp, vi lo, vj lm, s2, vi sd, vj pd34, s2, vi pb35, vi 1, vj bt33, s2]) rfl (Nat.le_of_eq rfl) (by decide) (by decide) (by decide) (by decide)
  obtain ⟨rfl, M41, K41, g41, s41, H41_1, H41_2, J41, ⟨t41, P41⟩⟩ := Q41
  have N41 := Fr.app N37 M41
  have zz41 : n0 ≤ T41.heap.size := Nat.le_trans zz37 K41.1
  refine c41 ?_
  show OG p.tables e below _ (T41.setTop (mkF m 229 #[vr x0, vr x1, vr x2, vi 0, vi 2, vi x5, vi hi, vi wd, vi 1, vi sp, vi lo, vj lm, s2, vi sd, vj pd34, s2, vi pb35, vi 1, vj bt33, s2] []))
  refine o_iload B41 229 231 (v := (1 : Int32)) d7_229 rfl rfl ?_
  refine o_ifY B41 231 235 d7_231 (XT.i0_ne_t (by decide)) (by decide) (by decide) ?_
  refine o_aloadN B41 235 236 (v := (.ref x0)) d7_235 rfl rfl rfl ?_
  have F42 := (F40.keep K41)
  obtain ⟨T43, B43, c43⟩ := o_callVP B41 236 239 d7_236 rfl (hw _ (mi 114 rfl)) (hw _ (mi 56 rfl)) (hw _ (mi 58 rfl)) (hw _ (mi 57 rfl)) (hw _ (mi 13 rfl)) (hw _ (mi 59 rfl)) (by decide) F42 (rm11 l Z a0 hw x0 s41 T41.heap H41_2) 0 [] [] pd___J rfl rfl (st := [(.ref x0)]) rfl (Ls := #[vr x0, vr x1, vr x2, vi 0, vi 2, vi x5, vi hi, vi wd, vi 1, vi sp, vi lo, vj lm, s2, vi sd, vj pd34, s2, vi pb35, vi 1, vj bt33, s2]) rfl (Nat.le_of_eq rfl) (by decide) (by decide) (by decide) (by decide)
  refine c43 ?_
  refine o_topJ (show (f11 s41) = s41 from rfl) ?_
  refine o_lstore B43 239 241 (l' := #[vr x0, vr x1, vr x2, vi 0, vi 2, vi x5, vi hi, vi wd, vi 1, vi sp, vi lo, vj lm, s2, vi sd, vj pd34, s2, vi pb35, vj s41, s2, us]) d7_239 rfl rfl ?_
  refine o_aloadN B43 241 242 (v := (.ref x0)) d7_241 rfl rfl rfl ?_
  refine o_iload B43 242 244 (v := (1 : Int32)) d7_242 rfl rfl ?_
  refine o_i2l B43 244 245 d7_244 rfl ?_
  refine o_topJ (show (1 : Int32).toInt64 = (1 : Int64) by decide) ?_
  refine o_iload B43 245 247 (v := sp) d7_245 rfl rfl ?_
  refine o_i2l B43 247 248 d7_247 rfl ?_
  refine o_lconst B43 248 249 (1 : Int64) d7_248 rfl (by decide) ?_
  refine o_lsub B43 249 250 d7_249 rfl ?_
  refine o_iload B43 250 252 (v := lo) d7_250 rfl rfl ?_
  refine o_lushr B43 252 253 d7_252 rfl ?_
  refine o_ladd B43 253 254 d7_253 rfl ?_
  refine o_lconst B43 254 255 (1 : Int64) d7_254 rfl (by decide) ?_
  refine o_ladd B43 255 256 d7_255 rfl ?_
  have eU := own_uL (sp.toInt64 - 1) lo L tlo (by omega) (by rw [own_s1 (by omega)]; omega)
  rw [own_s1 (by omega)] at eU
  have eV : 0 ≤ (sp.toInt - 1) / (2 ^ L : Nat) := Int.ediv_nonneg (by omega) (Int.natCast_nonneg _)
  obtain ⟨sk, hsk⟩ : ∃ q : Int64, q = (((1 : Int64) + (XT.ushrL (sp.toInt64 - (1 : Int64)) lo)) + (1 : Int64)) := ⟨_, rfl⟩
  rw [← hsk]
  have tsk : sk.toInt = 1 + (XT.ushrL (sp.toInt64 - 1) lo).toInt + 1 := by rw [hsk]; exact (own_sk1 (by omega))
  obtain ⟨v44, T44, L44, B44, Q44, c44⟩ := o_callV B43 256 259 d7_256 rfl (hw _ (mi 115 rfl)) (hw _ (mi 116 rfl)) (hw _ (mi 118 rfl)) (hw _ (mi 117 rfl)) (hw _ (mi 13 rfl)) (hw _ (mi 119 rfl)) (by decide) F42 (rm19 l Z a0 hw x0 yw g41 s41 sk T41.heap n0 zz41 ge_x0 ge_yw F42 H41_1 H41_2 J41 ne_x0_yw (by omega)) 0 [(.long sk)] [] pd__J_V rfl rfl (st := [(.long sk), (.ref x0)]) rfl (Ls := #[vr x0, vr x1, vr x2, vi 0, vi 2, vi x5, vi hi, vi wd, vi 1, vi sp, vi lo, vj lm, s2, vi sd, vj pd34, s2, vi pb35, vj s41, s2, us]) rfl (Nat.le_of_eq rfl) (by decide) (by decide) (by decide) (by decide)
  obtain ⟨rfl, M44, K44, g44, s44, H44_1, H44_2, J44, rg44, t44⟩ := Q44
  have N44 := Fr.app N41 M44
  have zz44 : n0 ≤ T44.heap.size := Nat.le_trans zz41 K44.1
  refine c44 ?_
  show OG p.tables e below _ (T44.setTop (mkF m 259 #[vr x0, vr x1, vr x2, vi 0, vi 2, vi x5, vi hi, vi wd, vi 1, vi sp, vi lo, vj lm, s2, vi sd, vj pd34, s2, vi pb35, vj s41, s2, us] []))
  refine o_iconst B44 259 260 (0 : Int32) d7_259 rfl (by decide) ?_
  refine o_istore B44 260 262 (l' := #[vr x0, vr x1, vr x2, vi 0, vi 2, vi x5, vi hi, vi wd, vi 1, vi sp, vi lo, vj lm, s2, vi sd, vj pd34, s2, vi pb35, vj s41, s2, vi 0]) d7_260 rfl rfl ?_
  refine o_iload B44 262 264 (v := (0 : Int32)) d7_262 rfl rfl ?_
  refine o_iload B44 264 266 (v := (1 : Int32)) d7_264 rfl rfl ?_
  refine o_icN B44 266 269 d7_266 rfl (XT.ii_ge_f (by decide)) ?_
  refine o_aloadN B44 269 270 (v := (.ref x0)) d7_269 rfl rfl rfl ?_
  refine o_lload B44 270 272 (v := s41) d7_270 rfl rfl ?_
  refine o_aloadN B44 272 273 (v := (.ref x1)) d7_272 rfl rfl rfl ?_
  refine o_iloadN B44 273 274 (v := (0 : Int32)) d7_273 rfl rfl ?_
  refine o_iload B44 274 276 (v := (0 : Int32)) d7_274 rfl rfl ?_
  refine o_iadd B44 276 277 d7_276 rfl ?_
  refine o_topI (show ((0 : Int32) + (0 : Int32)) = (0 : Int32) by decide) ?_
  have F46 := (((F28.keep K37 (ninS (Ne.symm ne_x0_x1) (ninS ne_x1_yw nin0))).keep K41 (ninS (Ne.symm ne_x0_x1) (ninS ne_x1_yw nin0))).keep K44 (ninS (Ne.symm ne_x0_x1) (ninS ne_x1_yw nin0)))
  refine o_iaload B44 277 278 F46 0 (gd 0) d7_277 rfl (by decide) (by decide) (by decide) rfl ?_
  refine o_iload B44 278 280 (v := x5) d7_278 rfl rfl ?_
  refine o_isub B44 280 281 d7_280 rfl ?_
  refine o_iload B44 281 283 (v := lo) d7_281 rfl rfl ?_
  refine o_iushr B44 283 284 d7_283 rfl ?_
  refine o_i2l B44 284 285 d7_284 rfl ?_
  refine o_ladd B44 285 286 d7_285 rfl ?_
  refine o_iload B44 286 288 (v := (0 : Int32)) d7_286 rfl rfl ?_
  refine o_i2l B44 288 289 d7_288 rfl ?_
  refine o_topJ (show (0 : Int32).toInt64 = (0 : Int64) by decide) ?_
  refine o_ladd B44 289 290 d7_289 rfl ?_
  have eS47 := own_us0 (gd 0 - x5) lo L tlo L1 (by rw [own_sub hd0.1 (by omega)]; omega)
  rw [own_sub hd0.1 (by omega)] at eS47
  have eD47 : ((gd 0).toInt - x5.toInt) / (2 ^ L : Nat) ≤ (sp.toInt - 1) / (2 ^ L : Nat) := Int.ediv_le_ediv (Int.natCast_pos.mpr (Nat.two_pow_pos L)) (by omega)
  have eN47 : 0 ≤ ((gd 0).toInt - x5.toInt) / (2 ^ L : Nat) := Int.ediv_nonneg (by omega) (Int.natCast_nonneg _)
  obtain ⟨ps47, hps47⟩ : ∃ q : Int64, q = ((s41 + (XT.ushr ((gd 0) - x5) lo).toInt64) + (0 : Int64)) := ⟨_, rfl⟩
  rw [← hps47]
  have tps47 : ps47.toInt = s41.toInt + ((gd 0).toInt - x5.toInt) / (2 ^ L : Nat) + 0 := by rw [hps47]; exact (own_ps (by omega) (by rw [eS47]; omega) (by rw [eS47]) (by decide))
  have F48 := (F42.keep K44)
  obtain ⟨v49, T49, L49, B49, Q49, c49⟩ := o_callV B44 290 293 d7_290 rfl (hw _ (mi 120 rfl)) (hw _ (mi 121 rfl)) (hw _ (mi 123 rfl)) (hw _ (mi 122 rfl)) (hw _ (mi 13 rfl)) (hw _ (mi 124 rfl)) (by decide) F48 (rm20 l Z a0 hw x0 yw g44 s44 ps47 T44.heap n0 zz44 ge_x0 ge_yw F48 H44_1 H44_2 J44 ne_x0_yw (by omega)) 0 [(.long ps47)] [] pd__J_V rfl rfl (st := [(.long ps47), (.ref x0)]) rfl (Ls := #[vr x0, vr x1, vr x2, vi 0, vi 2, vi x5, vi hi, vi wd, vi 1, vi sp, vi lo, vj lm, s2, vi sd, vj pd34, s2, vi pb35, vj s41, s2, vi 0]) rfl (Nat.le_of_eq rfl) (by decide) (by decide) (by decide) (by decide)
  obtain ⟨rfl, M49, K49, g49, s49, H49_1, H49_2, J49, rz49, P49⟩ := Q49
  have N49 := Fr.app N44 M49
  have zz49 : n0 ≤ T49.heap.size := Nat.le_trans zz44 K49.1
  have u49 : s49.toInt = s44.toInt := by rw [rz49]
  refine c49 ?_
  show OG p.tables e below _ (T49.setTop (mkF m 293 #[vr x0, vr x1, vr x2, vi 0, vi 2, vi x5, vi hi, vi wd, vi 1, vi sp, vi lo, vj lm, s2, vi sd, vj pd34, s2, vi pb35, vj s41, s2, vi 0] []))
  refine o_iincC B49 293 296 (l' := #[vr x0, vr x1, vr x2, vi 0, vi 2, vi x5, vi hi, vi wd, vi 1, vi sp, vi lo, vj lm, s2, vi sd, vj pd34, s2, vi pb35, vj s41, s2, vi 1]) (1 : Int32) (1 : Int32) d7_293 rfl (by decide) rfl (by decide) rfl ?_
  refine o_goto B49 296 262 d7_296 (by decide) (by decide) ?_
  refine o_iload B49 262 264 (v := (1 : Int32)) d7_262 rfl rfl ?_
  refine o_iload B49 264 266 (v := (1 : Int32)) d7_264 rfl rfl ?_
  refine o_icY B49 266 299 d7_266 (XT.ii_ge_t (by decide)) (by decide) (by decide) ?_
  have eW : own_W2 gf = wd := by rw [hwd, hhi]; rfl
  have eL : f18 (gd 1 - x5) 1 = lo := by rw [hlo, hsp]
  have eT : s49.toInt = z.toInt + own_tot2 gd gf x5 := by unfold own_tot2; rw [eW, eL, tlo, ← hsp]; omega
  have eB : ∀ i, i < 5 → bitAt g49 (z.toInt.toNat + i) = (bitAt g (z.toInt.toNat + i) || (own_W2 gf).toInt64.toBitVec.getLsbD i) := by intro i hi5; rw [P49 _ (by omega), rg44, own_wol P41 _ (by omega), own_wol P37 _ (by omega), eW]; exact own_wof P26 i hi5
  have KT50 := ((((((Keep.refl h0 [x0, yw]).trans K26 (allS (Or.inl (mi 0 rfl)) (allS (Or.inl (mi 1 rfl)) all0))).trans K37 (allS (Or.inl (mi 0 rfl)) (allS (Or.inl (mi 1 rfl)) all0))).trans K41 (allS (Or.inl (mi 0 rfl)) (allS (Or.inl (mi 1 rfl)) all0))).trans K44 (allS (Or.inl (mi 0 rfl)) (allS (Or.inl (mi 1 rfl)) all0))).trans K49 (allS (Or.inl (mi 0 rfl)) (allS (Or.inl (mi 1 rfl)) all0)))
  exact o_retV B49 299 d7_299 hret hlk (by decide) (by decide) ⟨rfl, N49, KT50, g49, s49, H49_1, H49_2, J49, eT, eB⟩
def own_W3 (gf : Nat → Int32) : Int32 := f8 (f2 (f2 (f2 (0 : Int32) ((gf 0) - (1 : Int32))) ((gf 1) - (1 : Int32))) ((gf 2) - (1 : Int32))).toInt64
def own_tot3 (gd gf : Nat → Int32) (b : Int32) : Int := 5 + 2 * ((f18 (gd 2 - b) 2).toInt + (own_W3 gf).toInt) + (own_W3 gf).toInt + (2 + (XT.ushrL ((gd 2 - b).toInt64 - 1) (f18 (gd 2 - b) 2)).toInt + 1)
def Q7_3 (Z : State) (x0 : Addr) (x1 : Addr) (x2 : Addr) (yw : Addr) (gd : Nat → Int32) (gf : Nat → Int32) (g : Nat → Int64) (z : Int64) (x5 : Int32) (h0 : Heap) (n0 : Nat) (v : Option Value) (h : Heap) (L : List Loc) : Prop := v = none ∧ Fr n0 L ∧ Keep h0 h [x0, yw] ∧ ∃ (g' : Nat → Int64) (s : Int64), Fld Z h x0 "com/example/micro_ranker/microranker/engine/BitWriter" "words" "[J" (.ref yw) ∧ Fld Z h x0 "com/example/micro_ranker/microranker/engine/BitWriter" "size" "J" (.long s) ∧ AJ Z h yw 8 g' ∧ s.toInt = z.toInt + own_tot3 gd gf x5 ∧ ∀ i, i < 5 → bitAt g' (z.toInt.toNat + i) = (bitAt g (z.toInt.toNat + i) || (own_W3 gf).toInt64.toBitVec.getLsbD i)
set_option maxRecDepth 65536 in
set_option maxHeartbeats 400000000 in
theorem rm7_3 (l : Launch) (Z : State) (a0 : Array Value) (hw : ∀ d ∈ tables_1, d.before a0 Z = true) (x0 : Addr) (x1 : Addr) (x2 : Addr) (yw : Addr) (gd : Nat → Int32) (gf : Nat → Int32) (g : Nat → Int64) (z : Int64) (x5 : Int32) (h0 : Heap) (n0 : Nat) (hz : n0 ≤ h0.size) (ge_x0 : n0 ≤ x0) (ge_yw : n0 ≤ yw) (hE : Exa Z h0 x0 "com/example/micro_ranker/microranker/engine/BitWriter") (G_words : Fld Z h0 x0 "com/example/micro_ranker/microranker/engine/BitWriter" "words" "[J" (.ref yw)) (G_size : Fld Z h0 x0 "com/example/micro_ranker/microranker/engine/BitWriter" "size" "J" (.long z)) (A_x1 : AI Z h0 x1 .int 4 gd) (A_x2 : AI Z h0 x2 .int 4 gf) (A_yw : AJ Z h0 yw 8 g) (ne_x0_yw : x0 ≠ yw) (ne_x1_yw : x1 ≠ yw) (ne_x2_yw : x2 ≠ yw) (ne_x0_x1 : x0 ≠ x1) (ne_x0_x2 : x0 ≠ x2) (hd : Bd gd gf x5 z) :
    Met l Z (⟨"com/example/micro_ranker/microranker/engine/Block", "write", "(Lcom/example/micro_ranker/microranker/engine/BitWriter;[I[IIII)V"⟩ : MethodName) prog_18_method_2_code 20 none ({ frames := 4, cells := 0, slots := 0, locals := 57 } : Room) #[(.ref x0), (.ref x1), (.ref x2), (.int (0 : Int32)), (.int (3 : Int32)), (.int x5)] h0 (Q7_3 Z x0 x1 x2 yw gd gf g z x5 h0 n0) := by
  refine enter pl7 #[vr x0, vr x1, vr x2, vi 0, vi 3, vi x5, us, us, us, us, us, us, us, us, us, us, us, us, us, us] rfl ?_
  intro p e s m below meth c T B hret hlk hnm
  have N0 := Fr.nil n0
  have hz0 := hd.1
  have hf0 := hd.2.1
  have hd0 := hd.2.2
  have hb := rng32 (gd 3)
  refine o_iconst B 0 1 (0 : Int32) d7_0 rfl (by decide) ?_
  refine o_istore B 1 3 (l' := #[vr x0, vr x1, vr x2, vi 0, vi 3, vi x5, vi 0, us, us, us, us, us, us, us, us, us, us, us, us, us]) d7_1 rfl rfl ?_
  refine o_iloadN B 3 4 (v := (0 : Int32)) d7_3 rfl rfl ?_
  refine o_istore B 4 6 (l' := #[vr x0, vr x1, vr x2, vi 0, vi 3, vi x5, vi 0, vi 0, us, us, us, us, us, us, us, us, us, us, us, us]) d7_4 rfl rfl ?_
  refine o_iload B 6 8 (v := (0 : Int32)) d7_6 rfl rfl ?_
  refine o_iloadN B 8 9 (v := (0 : Int32)) d7_8 rfl rfl ?_
  refine o_iload B 9 11 (v := (3 : Int32)) d7_9 rfl rfl ?_
  refine o_iadd B 11 12 d7_11 rfl ?_
  refine o_topI (show ((0 : Int32) + (3 : Int32)) = (3 : Int32) by decide) ?_
  refine o_icN B 12 15 d7_12 rfl (XT.ii_ge_f (by decide)) ?_
  refine o_iload B 15 17 (v := (0 : Int32)) d7_15 rfl rfl ?_
  refine o_aloadN B 17 18 (v := (.ref x2)) d7_17 rfl rfl rfl ?_
  refine o_iload B 18 20 (v := (0 : Int32)) d7_18 rfl rfl ?_
  refine o_iaload B 20 21 A_x2 0 (gf 0) d7_20 rfl (by decide) (by decide) (by decide) rfl ?_
  refine o_iconst B 21 22 (1 : Int32) d7_21 rfl (by decide) ?_
  refine o_isub B 22 23 d7_22 rfl ?_
  obtain ⟨T22, B22, c22⟩ := o_callP B 23 26 d7_23 rfl (hw _ (mi 38 rfl)) (hw _ (mi 8 rfl)) (hw _ (mi 9 rfl)) (hw _ (mi 10 rfl)) (by decide) (rm2 l Z a0 hw (0 : Int32) ((gf 0) - (1 : Int32)) h0 ) 0 [(.int (0 : Int32)), (.int ((gf 0) - (1 : Int32)))] [] pd__II_I rfl rfl (st := [(.int ((gf 0) - (1 : Int32))), (.int (0 : Int32))]) rfl (Ls := #[vr x0, vr x1, vr x2, vi 0, vi 3, vi x5, vi 0, vi 0, us, us, us, us, us, us, us, us, us, us, us, us]) rfl (Nat.le_of_eq rfl) (by decide) (by decide) (by decide) (by decide)
  refine c22 ?_
  refine o_istore B22 26 28 (l' := #[vr x0, vr x1, vr x2, vi 0, vi 3, vi x5, vi (f2 (0 : Int32) ((gf 0) - (1 : Int32))), vi 0, us, us, us, us, us, us, us, us, us, us, us, us]) d7_26 rfl rfl ?_
  refine o_iincC B22 28 31 (l' := #[vr x0, vr x1, vr x2, vi 0, vi 3, vi x5, vi (f2 (0 : Int32) ((gf 0) - (1 : Int32))), vi 1, us, us, us, us, us, us, us, us, us, us, us, us]) (1 : Int32) (1 : Int32) d7_28 rfl (by decide) rfl (by decide) rfl ?_
  refine o_goto B22 31 6 d7_31 (by decide) (by decide) ?_
  refine o_iload B22 6 8 (v := (1 : Int32)) d7_6 rfl rfl ?_
  refine o_iloadN B22 8 9 (v := (0 : Int32)) d7_8 rfl rfl ?_
  refine o_iload B22 9 11 (v := (3 : Int32)) d7_9 rfl rfl ?_
  refine o_iadd B22 11 12 d7_11 rfl ?_
  refine o_topI (show ((0 : Int32) + (3 : Int32)) = (3 : Int32) by decide) ?_
  refine o_icN B22 12 15 d7_12 rfl (XT.ii_ge_f (by decide)) ?_
  refine o_iload B22 15 17 (v := (f2 (0 : Int32) ((gf 0) - (1 : Int32)))) d7_15 rfl rfl ?_
  refine o_aloadN B22 17 18 (v := (.ref x2)) d7_17 rfl rfl rfl ?_
  refine o_iload B22 18 20 (v := (1 : Int32)) d7_18 rfl rfl ?_
  refine o_iaload B22 20 21 A_x2 1 (gf 1) d7_20 rfl (by decide) (by decide) (by decide) rfl ?_
  refine o_iconst B22 21 22 (1 : Int32) d7_21 rfl (by decide) ?_
  refine o_isub B22 22 23 d7_22 rfl ?_
  obtain ⟨T24, B24, c24⟩ := o_callP B22 23 26 d7_23 rfl (hw _ (mi 38 rfl)) (hw _ (mi 8 rfl)) (hw _ (mi 9 rfl)) (hw _ (mi 10 rfl)) (by decide) (rm2 l Z a0 hw (f2 (0 : Int32) ((gf 0) - (1 : Int32))) ((gf 1) - (1 : Int32)) h0 ) 0 [(.int (f2 (0 : Int32) ((gf 0) - (1 : Int32)))), (.int ((gf 1) - (1 : Int32)))] [] pd__II_I rfl rfl (st := [(.int ((gf 1) - (1 : Int32))), (.int (f2 (0 : Int32) ((gf 0) - (1 : Int32))))]) rfl (Ls := #[vr x0, vr x1, vr x2, vi 0, vi 3, vi x5, vi (f2 (0 : Int32) ((gf 0) - (1 : Int32))), vi 1, us, us, us, us, us, us, us, us, us, us, us, us]) rfl (Nat.le_of_eq rfl) (by decide) (by decide) (by decide) (by decide)
  refine c24 ?_
  refine o_istore B24 26 28 (l' := #[vr x0, vr x1, vr x2, vi 0, vi 3, vi x5, vi (f2 (f2 (0 : Int32) ((gf 0) - (1 : Int32))) ((gf 1) - (1 : Int32))), vi 1, us, us, us, us, us, us, us, us, us, us, us, us]) d7_26 rfl rfl ?_
  refine o_iincC B24 28 31 (l' := #[vr x0, vr x1, vr x2, vi 0, vi 3, vi x5, vi (f2 (f2 (0 : Int32) ((gf 0) - (1 : Int32))) ((gf 1) - (1 : Int32))), vi 2, us, us, us, us, us, us, us, us, us, us, us, us]) (1 : Int32) (2 : Int32) d7_28 rfl (by decide) rfl (by decide) rfl ?_
  refine o_goto B24 31 6 d7_31 (by decide) (by decide) ?_
  refine o_iload B24 6 8 (v := (2 : Int32)) d7_6 rfl rfl ?_
  refine o_iloadN B24 8 9 (v := (0 : Int32)) d7_8 rfl rfl ?_
  refine o_iload B24 9 11 (v := (3 : Int32)) d7_9 rfl rfl ?_
  refine o_iadd B24 11 12 d7_11 rfl ?_
  refine o_topI (show ((0 : Int32) + (3 : Int32)) = (3 : Int32) by decide) ?_
  refine o_icN B24 12 15 d7_12 rfl (XT.ii_ge_f (by decide)) ?_
  refine o_iload B24 15 17 (v := (f2 (f2 (0 : Int32) ((gf 0) - (1 : Int32))) ((gf 1) - (1 : Int32)))) d7_15 rfl rfl ?_
  refine o_aloadN B24 17 18 (v := (.ref x2)) d7_17 rfl rfl rfl ?_
  refine o_iload B24 18 20 (v := (2 : Int32)) d7_18 rfl rfl ?_
  refine o_iaload B24 20 21 A_x2 2 (gf 2) d7_20 rfl (by decide) (by decide) (by decide) rfl ?_
  refine o_iconst B24 21 22 (1 : Int32) d7_21 rfl (by decide) ?_
  refine o_isub B24 22 23 d7_22 rfl ?_
  obtain ⟨T26, B26, c26⟩ := o_callP B24 23 26 d7_23 rfl (hw _ (mi 38 rfl)) (hw _ (mi 8 rfl)) (hw _ (mi 9 rfl)) (hw _ (mi 10 rfl)) (by decide) (rm2 l Z a0 hw (f2 (f2 (0 : Int32) ((gf 0) - (1 : Int32))) ((gf 1) - (1 : Int32))) ((gf 2) - (1 : Int32)) h0 ) 0 [(.int (f2 (f2 (0 : Int32) ((gf 0) - (1 : Int32))) ((gf 1) - (1 : Int32)))), (.int ((gf 2) - (1 : Int32)))] [] pd__II_I rfl rfl (st := [(.int ((gf 2) - (1 : Int32))), (.int (f2 (f2 (0 : Int32) ((gf 0) - (1 : Int32))) ((gf 1) - (1 : Int32))))]) rfl (Ls := #[vr x0, vr x1, vr x2, vi 0, vi 3, vi x5, vi (f2 (f2 (0 : Int32) ((gf 0) - (1 : Int32))) ((gf 1) - (1 : Int32))), vi 2, us, us, us, us, us, us, us, us, us, us, us, us]) rfl (Nat.le_of_eq rfl) (by decide) (by decide) (by decide) (by decide)
  refine c26 ?_
  refine o_istore B26 26 28 (l' := #[vr x0, vr x1, vr x2, vi 0, vi 3, vi x5, vi (f2 (f2 (f2 (0 : Int32) ((gf 0) - (1 : Int32))) ((gf 1) - (1 : Int32))) ((gf 2) - (1 : Int32))), vi 2, us, us, us, us, us, us, us, us, us, us, us, us]) d7_26 rfl rfl ?_
  refine o_iincC B26 28 31 (l' := #[vr x0, vr x1, vr x2, vi 0, vi 3, vi x5, vi (f2 (f2 (f2 (0 : Int32) ((gf 0) - (1 : Int32))) ((gf 1) - (1 : Int32))) ((gf 2) - (1 : Int32))), vi 3, us, us, us, us, us, us, us, us, us, us, us, us]) (1 : Int32) (3 : Int32) d7_28 rfl (by decide) rfl (by decide) rfl ?_
  refine o_goto B26 31 6 d7_31 (by decide) (by decide) ?_
  refine o_iload B26 6 8 (v := (3 : Int32)) d7_6 rfl rfl ?_
  refine o_iloadN B26 8 9 (v := (0 : Int32)) d7_8 rfl rfl ?_
  refine o_iload B26 9 11 (v := (3 : Int32)) d7_9 rfl rfl ?_
  refine o_iadd B26 11 12 d7_11 rfl ?_
  refine o_topI (show ((0 : Int32) + (3 : Int32)) = (3 : Int32) by decide) ?_
  refine o_icY B26 12 34 d7_12 (XT.ii_ge_t (by decide)) (by decide) (by decide) ?_
  obtain ⟨hi, hhi⟩ : ∃ q : Int32, q = (f2 (f2 (f2 (0 : Int32) ((gf 0) - (1 : Int32))) ((gf 1) - (1 : Int32))) ((gf 2) - (1 : Int32))) := ⟨_, rfl⟩
  rw [← hhi]
  have thi : 0 ≤ hi.toInt := by rw [hhi]; exact (own_mx (own_mx (own_mx (by decide) hf0.1) hf0.2.1) hf0.2.2.1)
  refine o_iload B26 34 36 (v := hi) d7_34 rfl rfl ?_
  refine o_i2l B26 36 37 d7_36 rfl ?_
  obtain ⟨T27, B27, c27⟩ := o_callP B26 37 40 d7_37 rfl (hw _ (mi 39 rfl)) (hw _ (mi 40 rfl)) (hw _ (mi 41 rfl)) (hw _ (mi 42 rfl)) (by decide) (rm8 l Z a0 hw hi.toInt64 h0 ) 0 [(.long hi.toInt64)] [] pd__J_I rfl rfl (st := [(.long hi.toInt64)]) rfl (Ls := #[vr x0, vr x1, vr x2, vi 0, vi 3, vi x5, vi hi, vi 3, us, us, us, us, us, us, us, us, us, us, us, us]) rfl (Nat.le_of_eq rfl) (by decide) (by decide) (by decide) (by decide)
  refine c27 ?_
  obtain ⟨wn, wn1, wn2, -⟩ := own_wd hi thi
  obtain ⟨wd, hwd⟩ : ∃ q : Int32, q = (f8 hi.toInt64) := ⟨_, rfl⟩
  rw [← hwd]
  have twd : 0 ≤ wd.toInt ∧ wd.toInt ≤ 31 := by rw [hwd]; exact (by omega)
  refine o_istore B27 40 42 (l' := #[vr x0, vr x1, vr x2, vi 0, vi 3, vi x5, vi hi, vi wd, us, us, us, us, us, us, us, us, us, us, us, us]) d7_40 rfl rfl ?_
  refine o_aloadN B27 42 43 (v := (.ref x0)) d7_42 rfl rfl rfl ?_
  refine o_iload B27 43 45 (v := wd) d7_43 rfl rfl ?_
  refine o_i2l B27 45 46 d7_45 rfl ?_
  refine o_iconst B27 46 47 (5 : Int32) d7_46 rfl (by decide) ?_
  obtain ⟨v28, T28, L28, B28, Q28, c28⟩ := o_callV B27 47 50 d7_47 rfl (hw _ (mi 52 rfl)) (hw _ (mi 24 rfl)) (hw _ (mi 26 rfl)) (hw _ (mi 25 rfl)) (hw _ (mi 13 rfl)) (hw _ (mi 27 rfl)) (by decide) hE (rm5 l Z a0 hw x0 yw g z wd.toInt64 (5 : Int32) h0 n0 hz ge_x0 ge_yw hE G_words G_size A_yw ne_x0_yw (own_hw _ _ _ 5 rfl (by decide) (by omega))) 0 [(.long wd.toInt64), (.int (5 : Int32))] [] pd__JI_V rfl rfl (st := [(.int (5 : Int32)), (.long wd.toInt64), (.ref x0)]) rfl (Ls := #[vr x0, vr x1, vr x2, vi 0, vi 3, vi x5, vi hi, vi wd, us, us, us, us, us, us, us, us, us, us, us, us]) rfl (Nat.le_of_eq rfl) (by decide) (by decide) (by decide) (by decide)
  obtain ⟨rfl, M28, K28, g28, s28, H28_1, H28_2, J28, ⟨t28, P28⟩⟩ := Q28
  have N28 := Fr.app N0 M28
  have zz28 : n0 ≤ T28.heap.size := Nat.le_trans hz K28.1
  have u28 : s28.toInt = z.toInt + 5 := by rw [t28, show (5 : Int32).toInt = 5 by decide]
  refine c28 ?_
  show OG p.tables e below _ (T28.setTop (mkF m 50 #[vr x0, vr x1, vr x2, vi 0, vi 3, vi x5, vi hi, vi wd, us, us, us, us, us, us, us, us, us, us, us, us] []))
  refine o_iload B28 50 52 (v := (3 : Int32)) d7_50 rfl rfl ?_
  refine o_iconst B28 52 53 (1 : Int32) d7_52 rfl (by decide) ?_
  refine o_isub B28 53 54 d7_53 rfl ?_
  refine o_topI (show ((3 : Int32) - (1 : Int32)) = (2 : Int32) by decide) ?_
  refine o_istore B28 54 56 (l' := #[vr x0, vr x1, vr x2, vi 0, vi 3, vi x5, vi hi, vi wd, vi 2, us, us, us, us, us, us, us, us, us, us, us]) d7_54 rfl rfl ?_
  refine o_aloadN B28 56 57 (v := (.ref x1)) d7_56 rfl rfl rfl ?_
  refine o_iloadN B28 57 58 (v := (0 : Int32)) d7_57 rfl rfl ?_
  refine o_iload B28 58 60 (v := (2 : Int32)) d7_58 rfl rfl ?_
  refine o_iadd B28 60 61 d7_60 rfl ?_
  refine o_topI (show ((0 : Int32) + (2 : Int32)) = (2 : Int32) by decide) ?_
  have F30 := (A_x1.keep K28 (ninS (Ne.symm ne_x0_x1) (ninS ne_x1_yw nin0)))
  refine o_iaload B28 61 62 F30 2 (gd 2) d7_61 rfl (by decide) (by decide) (by decide) rfl ?_
  refine o_iload B28 62 64 (v := x5) d7_62 rfl rfl ?_
  refine o_isub B28 64 65 d7_64 rfl ?_
  obtain ⟨sp, hsp⟩ : ∃ q : Int32, q = ((gd 2) - x5) := ⟨_, rfl⟩
  rw [← hsp]
  have tsp : sp.toInt = (gd 2).toInt - x5.toInt := by rw [hsp]; exact (own_sub hd0.1 (by omega))
  refine o_istore B28 65 67 (l' := #[vr x0, vr x1, vr x2, vi 0, vi 3, vi x5, vi hi, vi wd, vi 2, vi sp, us, us, us, us, us, us, us, us, us, us]) d7_65 rfl rfl ?_
  refine o_iload B28 67 69 (v := (2 : Int32)) d7_67 rfl rfl ?_
  refine o_ifN B28 69 72 d7_69 rfl (XT.i0_le_f (by decide)) ?_
  refine o_iload B28 72 74 (v := sp) d7_72 rfl rfl ?_
  refine o_iload B28 74 76 (v := (2 : Int32)) d7_74 rfl rfl ?_
  obtain ⟨T31, B31, c31⟩ := o_callP B28 76 79 d7_76 rfl (hw _ (mi 111 rfl)) (hw _ (mi 112 rfl)) (hw _ (mi 36 rfl)) (hw _ (mi 113 rfl)) (by decide) (rm18 l Z a0 hw sp (2 : Int32) T28.heap ) 0 [(.int sp), (.int (2 : Int32))] [] pd__II_I rfl rfl (st := [(.int (2 : Int32)), (.int sp)]) rfl (Ls := #[vr x0, vr x1, vr x2, vi 0, vi 3, vi x5, vi hi, vi wd, vi 2, vi sp, us, us, us, us, us, us, us, us, us, us]) rfl (Nat.le_of_eq rfl) (by decide) (by decide) (by decide) (by decide)
  refine c31 ?_
  refine o_goto B31 79 83 d7_79 (by decide) (by decide) ?_
  obtain ⟨L, L1, L2, L3⟩ := own_low sp 2 (by decide) (by rw [show (2 : Int32).toInt = 2 by decide]; omega)
  obtain ⟨lo, hlo⟩ : ∃ q : Int32, q = (f18 sp (2 : Int32)) := ⟨_, rfl⟩
  rw [← hlo]
  have tlo : lo.toInt = L := by rw [hlo]; exact L2
  refine o_istore B31 83 85 (l' := #[vr x0, vr x1, vr x2, vi 0, vi 3, vi x5, vi hi, vi wd, vi 2, vi sp, vi lo, us, us, us, us, us, us, us, us, us]) d7_83 rfl rfl ?_
  refine o_ldc2 B31 85 88 d7_85 rfl (hw _ (mi 54 rfl)) ?_
  refine o_iload B31 88 90 (v := lo) d7_88 rfl rfl ?_
  refine o_lshl B31 90 91 d7_90 rfl ?_
  refine o_ldc2 B31 91 94 d7_91 rfl (hw _ (mi 54 rfl)) ?_
  refine o_lxor B31 94 95 d7_94 rfl ?_
  generalize (((-1 : Int64) <<< (lo.toInt64 &&& 63)) ^^^ (-1 : Int64)) = lm
  refine o_lstore B31 95 97 (l' := #[vr x0, vr x1, vr x2, vi 0, vi 3, vi x5, vi hi, vi wd, vi 2, vi sp, vi lo, vj lm, s2, us, us, us, us, us, us, us]) d7_95 rfl rfl ?_
  refine o_iload B31 97 99 (v := lo) d7_97 rfl rfl ?_
  refine o_iload B31 99 101 (v := wd) d7_99 rfl rfl ?_
  refine o_iadd B31 101 102 d7_101 rfl ?_
  obtain ⟨sd, hsd⟩ : ∃ q : Int32, q = (lo + wd) := ⟨_, rfl⟩
  rw [← hsd]
  have tsd : sd.toInt = L + wd.toInt := by rw [hsd]; exact (by rw [own_ad (by omega) (by omega)]; rw [tlo])
  refine o_istore B31 102 104 (l' := #[vr x0, vr x1, vr x2, vi 0, vi 3, vi x5, vi hi, vi wd, vi 2, vi sp, vi lo, vj lm, s2, vi sd, us, us, us, us, us, us]) d7_102 rfl rfl ?_
  refine o_lconst B31 104 105 (0 : Int64) d7_104 rfl (by decide) ?_
  refine o_lstore B31 105 107 (l' := #[vr x0, vr x1, vr x2, vi 0, vi 3, vi x5, vi hi, vi wd, vi 2, vi sp, vi lo, vj lm, s2, vi sd, vj 0, s2, us, us, us, us]) d7_105 rfl rfl ?_
  refine o_iconst B31 107 108 (0 : Int32) d7_107 rfl (by decide) ?_
  refine o_istore B31 108 110 (l' := #[vr x0, vr x1, vr x2, vi 0, vi 3, vi x5, vi hi, vi wd, vi 2, vi sp, vi lo, vj lm, s2, vi sd, vj 0, s2, vi 0, us, us, us]) d7_108 rfl rfl ?_
  refine o_iloadN B31 110 111 (v := (0 : Int32)) d7_110 rfl rfl ?_
  refine o_istore B31 111 113 (l' := #[vr x0, vr x1, vr x2, vi 0, vi 3, vi x5, vi hi, vi wd, vi 2, vi sp, vi lo, vj lm, s2, vi sd, vj 0, s2, vi 0, vi 0, us, us]) d7_111 rfl rfl ?_
  refine o_iload B31 113 115 (v := (0 : Int32)) d7_113 rfl rfl ?_
  refine o_iloadN B31 115 116 (v := (0 : Int32)) d7_115 rfl rfl ?_
  refine o_iload B31 116 118 (v := (2 : Int32)) d7_116 rfl rfl ?_
  refine o_iadd B31 118 119 d7_118 rfl ?_
  refine o_topI (show ((0 : Int32) + (2 : Int32)) = (2 : Int32) by decide) ?_
  refine o_icN B31 119 122 d7_119 rfl (XT.ii_ge_f (by decide)) ?_
  refine o_aloadN B31 122 123 (v := (.ref x1)) d7_122 rfl rfl rfl ?_
  refine o_iload B31 123 125 (v := (0 : Int32)) d7_123 rfl rfl ?_
  refine o_iaload B31 125 126 F30 0 (gd 0) d7_125 rfl (by decide) (by decide) (by decide) rfl ?_
  refine o_iload B31 126 128 (v := x5) d7_126 rfl rfl ?_
  refine o_isub B31 128 129 d7_128 rfl ?_
  refine o_i2l B31 129 130 d7_129 rfl ?_
  refine o_lload B31 130 132 (v := lm) d7_130 rfl rfl ?_
  refine o_land B31 132 133 d7_132 rfl ?_
  refine o_aloadN B31 133 134 (v := (.ref x2)) d7_133 rfl rfl rfl ?_
  refine o_iload B31 134 136 (v := (0 : Int32)) d7_134 rfl rfl ?_
  have F34 := (A_x2.keep K28 (ninS (Ne.symm ne_x0_x2) (ninS ne_x2_yw nin0)))
  refine o_iaload B31 136 137 F34 0 (gf 0) d7_136 rfl (by decide) (by decide) (by decide) rfl ?_
  refine o_iconst B31 137 138 (1 : Int32) d7_137 rfl (by decide) ?_
  refine o_isub B31 138 139 d7_138 rfl ?_
  refine o_i2l B31 139 140 d7_139 rfl ?_
  refine o_iload B31 140 142 (v := lo) d7_140 rfl rfl ?_
  refine o_lshl B31 142 143 d7_142 rfl ?_
  refine o_lor B31 143 144 d7_143 rfl ?_
  generalize ((((gd 0) - x5).toInt64 &&& lm) ||| (((gf 0) - (1 : Int32)).toInt64 <<< (lo.toInt64 &&& 63))) = bt35
  refine o_lstore B31 144 146 (l' := #[vr x0, vr x1, vr x2, vi 0, vi 3, vi x5, vi hi, vi wd, vi 2, vi sp, vi lo, vj lm, s2, vi sd, vj 0, s2, vi 0, vi 0, vj bt35, s2]) d7_144 rfl rfl ?_
  refine o_lload B31 146 148 (v := (0 : Int64)) d7_146 rfl rfl ?_
  refine o_lload B31 148 150 (v := bt35) d7_148 rfl rfl ?_
  refine o_iload B31 150 152 (v := (0 : Int32)) d7_150 rfl rfl ?_
  refine o_lshl B31 152 153 d7_152 rfl ?_
  refine o_lor B31 153 154 d7_153 rfl ?_
  generalize ((0 : Int64) ||| (bt35 <<< ((0 : Int32).toInt64 &&& 63))) = pd36
  refine o_lstore B31 154 156 (l' := #[vr x0, vr x1, vr x2, vi 0, vi 3, vi x5, vi hi, vi wd, vi 2, vi sp, vi lo, vj lm, s2, vi sd, vj pd36, s2, vi 0, vi 0, vj bt35, s2]) d7_154 rfl rfl ?_
  refine o_iload B31 156 158 (v := (0 : Int32)) d7_156 rfl rfl ?_
  refine o_iload B31 158 160 (v := sd) d7_158 rfl rfl ?_
  refine o_iadd B31 160 161 d7_160 rfl ?_
  obtain ⟨pb37, hpb37⟩ : ∃ q : Int32, q = ((0 : Int32) + sd) := ⟨_, rfl⟩
  rw [← hpb37]
  have tpb37 : pb37.toInt = 0 + sd.toInt := by rw [hpb37]; exact (by rw [own_ad (by decide) (by omega)]; rfl)
  refine o_istore B31 161 163 (l' := #[vr x0, vr x1, vr x2, vi 0, vi 3, vi x5, vi hi, vi wd, vi 2, vi sp, vi lo, vj lm, s2, vi sd, vj pd36, s2, vi pb37, vi 0, vj bt35, s2]) d7_161 rfl rfl ?_
  refine o_iload B31 163 165 (v := pb37) d7_163 rfl rfl ?_
  refine o_bipush B31 165 167 (64 : Int32) d7_165 rfl (by decide) ?_
  refine o_icY B31 167 200 d7_167 (XT.ii_lt_t (by rw [Int32.lt_iff_toInt_lt, show (64 : Int32).toInt = 64 by decide]; omega)) (by decide) (by decide) ?_
  refine o_iincC B31 200 203 (l' := #[vr x0, vr x1, vr x2, vi 0, vi 3, vi x5, vi hi, vi wd, vi 2, vi sp, vi lo, vj lm, s2, vi sd, vj pd36, s2, vi pb37, vi 1, vj bt35, s2]) (1 : Int32) (1 : Int32) d7_200 rfl (by decide) rfl (by decide) rfl ?_
  refine o_goto B31 203 113 d7_203 (by decide) (by decide) ?_
  refine o_iload B31 113 115 (v := (1 : Int32)) d7_113 rfl rfl ?_
  refine o_iloadN B31 115 116 (v := (0 : Int32)) d7_115 rfl rfl ?_
  refine o_iload B31 116 118 (v := (2 : Int32)) d7_116 rfl rfl ?_
  refine o_iadd B31 118 119 d7_118 rfl ?_
  refine o_topI (show ((0 : Int32) + (2 : Int32)) = (2 : Int32) by decide) ?_
  refine o_icN B31 119 122 d7_119 rfl (XT.ii_ge_f (by decide)) ?_
  refine o_aloadN B31 122 123 (v := (.ref x1)) d7_122 rfl rfl rfl ?_
  refine o_iload B31 123 125 (v := (1 : Int32)) d7_123 rfl rfl ?_
  refine o_iaload B31 125 126 F30 1 (gd 1) d7_125 rfl (by decide) (by decide) (by decide) rfl ?_
  refine o_iload B31 126 128 (v := x5) d7_126 rfl rfl ?_
  refine o_isub B31 128 129 d7_128 rfl ?_
  refine o_i2l B31 129 130 d7_129 rfl ?_
  refine o_lload B31 130 132 (v := lm) d7_130 rfl rfl ?_
  refine o_land B31 132 133 d7_132 rfl ?_
  refine o_aloadN B31 133 134 (v := (.ref x2)) d7_133 rfl rfl rfl ?_
  refine o_iload B31 134 136 (v := (1 : Int32)) d7_134 rfl rfl ?_
  refine o_iaload B31 136 137 F34 1 (gf 1) d7_136 rfl (by decide) (by decide) (by decide) rfl ?_
  refine o_iconst B31 137 138 (1 : Int32) d7_137 rfl (by decide) ?_
  refine o_isub B31 138 139 d7_138 rfl ?_
  refine o_i2l B31 139 140 d7_139 rfl ?_
  refine o_iload B31 140 142 (v := lo) d7_140 rfl rfl ?_
  refine o_lshl B31 142 143 d7_142 rfl ?_
  refine o_lor B31 143 144 d7_143 rfl ?_
  generalize ((((gd 1) - x5).toInt64 &&& lm) ||| (((gf 1) - (1 : Int32)).toInt64 <<< (lo.toInt64 &&& 63))) = bt40
  refine o_lstore B31 144 146 (l' := #[vr x0, vr x1, vr x2, vi 0, vi 3, vi x5, vi hi, vi wd, vi 2, vi sp, vi lo, vj lm, s2, vi sd, vj pd36, s2, vi pb37, vi 1, vj bt40, s2]) d7_144 rfl rfl ?_
  refine o_lload B31 146 148 (v := pd36) d7_146 rfl rfl ?_
  refine o_lload B31 148 150 (v := bt40) d7_148 rfl rfl ?_
  refine o_iload B31 150 152 (v := pb37) d7_150 rfl rfl ?_
  refine o_lshl B31 152 153 d7_152 rfl ?_
  refine o_lor B31 153 154 d7_153 rfl ?_
  generalize (pd36 ||| (bt40 <<< (pb37.toInt64 &&& 63))) = pd41
  refine o_lstore B31 154 156 (l' := #[vr x0, vr x1, vr x2, vi 0, vi 3, vi x5, vi hi, vi wd, vi 2, vi sp, vi lo, vj lm, s2, vi sd, vj pd41, s2, vi pb37, vi 1, vj bt40, s2]) d7_154 rfl rfl ?_
  refine o_iload B31 156 158 (v := pb37) d7_156 rfl rfl ?_
  refine o_iload B31 158 160 (v := sd) d7_158 rfl rfl ?_
  refine o_iadd B31 160 161 d7_160 rfl ?_
  obtain ⟨pb42, hpb42⟩ : ∃ q : Int32, q = (pb37 + sd) := ⟨_, rfl⟩
  rw [← hpb42]
  have tpb42 : pb42.toInt = pb37.toInt + sd.toInt := by rw [hpb42]; exact (by rw [own_ad (by omega) (by omega)])
  refine o_istore B31 161 163 (l' := #[vr x0, vr x1, vr x2, vi 0, vi 3, vi x5, vi hi, vi wd, vi 2, vi sp, vi lo, vj lm, s2, vi sd, vj pd41, s2, vi pb42, vi 1, vj bt40, s2]) d7_161 rfl rfl ?_
  refine o_iload B31 163 165 (v := pb42) d7_163 rfl rfl ?_
  refine o_bipush B31 165 167 (64 : Int32) d7_165 rfl (by decide) ?_
  by_cases k1 : pb42 < (64 : Int32)
  · refine o_icY B31 167 200 d7_167 (XT.ii_lt_t k1) (by decide) (by decide) ?_
    have kk1 : pb42.toInt < 64 := by rw [Int32.lt_iff_toInt_lt, show (64 : Int32).toInt = 64 by decide] at k1; exact k1
    refine o_iincC B31 200 203 (l' := #[vr x0, vr x1, vr x2, vi 0, vi 3, vi x5, vi hi, vi wd, vi 2, vi sp, vi lo, vj lm, s2, vi sd, vj pd41, s2, vi pb42, vi 2, vj bt40, s2]) (1 : Int32) (2 : Int32) d7_200 rfl (by decide) rfl (by decide) rfl ?_
    refine o_goto B31 203 113 d7_203 (by decide) (by decide) ?_
    refine o_iload B31 113 115 (v := (2 : Int32)) d7_113 rfl rfl ?_
    refine o_iloadN B31 115 116 (v := (0 : Int32)) d7_115 rfl rfl ?_
    refine o_iload B31 116 118 (v := (2 : Int32)) d7_116 rfl rfl ?_
    refine o_iadd B31 118 119 d7_118 rfl ?_
    refine o_topI (show ((0 : Int32) + (2 : Int32)) = (2 : Int32) by decide) ?_
    refine o_icY B31 119 206 d7_119 (XT.ii_ge_t (by decide)) (by decide) (by decide) ?_
    refine o_aloadN B31 206 207 (v := (.ref x0)) d7_206 rfl rfl rfl ?_
    refine o_lload B31 207 209 (v := pd41) d7_207 rfl rfl ?_
    refine o_iload B31 209 211 (v := pb42) d7_209 rfl rfl ?_
    have F43 := (hE.keep K28)
    obtain ⟨v44, T44, L44, B44, Q44, c44⟩ := o_callV B31 211 214 d7_211 rfl (hw _ (mi 52 rfl)) (hw _ (mi 24 rfl)) (hw _ (mi 26 rfl)) (hw _ (mi 25 rfl)) (hw _ (mi 13 rfl)) (hw _ (mi 27 rfl)) (by decide) F43 (rm5 l Z a0 hw x0 yw g28 s28 pd41 pb42 T28.heap n0 zz28 ge_x0 ge_yw F43 H28_1 H28_2 J28 ne_x0_yw (own_hw _ _ _ _ rfl rfl (by omega))) 0 [(.long pd41), (.int pb42)] [] pd__JI_V rfl rfl (st := [(.int pb42), (.long pd41), (.ref x0)]) rfl (Ls := #[vr x0, vr x1, vr x2, vi 0, vi 3, vi x5, vi hi, vi wd, vi 2, vi sp, vi lo, vj lm, s2, vi sd, vj pd41, s2, vi pb42, vi 2, vj bt40, s2]) rfl (Nat.le_of_eq rfl) (by decide) (by decide) (by decide) (by decide)
    obtain ⟨rfl, M44, K44, g44, s44, H44_1, H44_2, J44, ⟨t44, P44⟩⟩ := Q44
    have N44 := Fr.app N28 M44
    have zz44 : n0 ≤ T44.heap.size := Nat.le_trans zz28 K44.1
    refine c44 ?_
    show OG p.tables e below _ (T44.setTop (mkF m 214 #[vr x0, vr x1, vr x2, vi 0, vi 3, vi x5, vi hi, vi wd, vi 2, vi sp, vi lo, vj lm, s2, vi sd, vj pd41, s2, vi pb42, vi 2, vj bt40, s2] []))
    refine o_aloadN B44 214 215 (v := (.ref x0)) d7_214 rfl rfl rfl ?_
    refine o_aloadN B44 215 216 (v := (.ref x2)) d7_215 rfl rfl rfl ?_
    refine o_iloadN B44 216 217 (v := (0 : Int32)) d7_216 rfl rfl ?_
    refine o_iload B44 217 219 (v := (2 : Int32)) d7_217 rfl rfl ?_
    refine o_iadd B44 219 220 d7_219 rfl ?_
    refine o_topI (show ((0 : Int32) + (2 : Int32)) = (2 : Int32) by decide) ?_
    have F46 := (F34.keep K44 (ninS (Ne.symm ne_x0_x2) (ninS ne_x2_yw nin0)))
    refine o_iaload B44 220 221 F46 2 (gf 2) d7_220 rfl (by decide) (by decide) (by decide) rfl ?_
    refine o_iconst B44 221 222 (1 : Int32) d7_221 rfl (by decide) ?_
    refine o_isub B44 222 223 d7_222 rfl ?_
    refine o_i2l B44 223 224 d7_223 rfl ?_
    refine o_iload B44 224 226 (v := wd) d7_224 rfl rfl ?_
    have F47 := (F43.keep K44)
    obtain ⟨v48, T48, L48, B48, Q48, c48⟩ := o_callV B44 226 229 d7_226 rfl (hw _ (mi 52 rfl)) (hw _ (mi 24 rfl)) (hw _ (mi 26 rfl)) (hw _ (mi 25 rfl)) (hw _ (mi 13 rfl)) (hw _ (mi 27 rfl)) (by decide) F47 (rm5 l Z a0 hw x0 yw g44 s44 ((gf 2) - (1 : Int32)).toInt64 wd T44.heap n0 zz44 ge_x0 ge_yw F47 H44_1 H44_2 J44 ne_x0_yw (own_hw _ _ _ _ rfl rfl (by omega))) 0 [(.long ((gf 2) - (1 : Int32)).toInt64), (.int wd)] [] pd__JI_V rfl rfl (st := [(.int wd), (.long ((gf 2) - (1 : Int32)).toInt64), (.ref x0)]) rfl (Ls := #[vr x0, vr x1, vr x2, vi 0, vi 3, vi x5, vi hi, vi wd, vi 2, vi sp, vi lo, vj lm, s2, vi sd, vj pd41, s2, vi pb42, vi 2, vj bt40, s2]) rfl (Nat.le_of_eq rfl) (by decide) (by decide) (by decide) (by decide)
    obtain ⟨rfl, M48, K48, g48, s48, H48_1, H48_2, J48, ⟨t48, P48⟩⟩ := Q48
    have N48 := Fr.app N44 M48
    have zz48 : n0 ≤ T48.heap.size := Nat.le_trans zz44 K48.1
    refine c48 ?_
    show OG p.tables e below _ (T48.setTop (mkF m 229 #[vr x0, vr x1, vr x2, vi 0, vi 3, vi x5, vi hi, vi wd, vi 2, vi sp, vi lo, vj lm, s2, vi sd, vj pd41, s2, vi pb42, vi 2, vj bt40, s2] []))
    refine o_iload B48 229 231 (v := (2 : Int32)) d7_229 rfl rfl ?_
    refine o_ifY B48 231 235 d7_231 (XT.i0_ne_t (by decide)) (by decide) (by decide) ?_
    refine o_aloadN B48 235 236 (v := (.ref x0)) d7_235 rfl rfl rfl ?_
    have F49 := (F47.keep K48)
    obtain ⟨T50, B50, c50⟩ := o_callVP B48 236 239 d7_236 rfl (hw _ (mi 114 rfl)) (hw _ (mi 56 rfl)) (hw _ (mi 58 rfl)) (hw _ (mi 57 rfl)) (hw _ (mi 13 rfl)) (hw _ (mi 59 rfl)) (by decide) F49 (rm11 l Z a0 hw x0 s48 T48.heap H48_2) 0 [] [] pd___J rfl rfl (st := [(.ref x0)]) rfl (Ls := #[vr x0, vr x1, vr x2, vi 0, vi 3, vi x5, vi hi, vi wd, vi 2, vi sp, vi lo, vj lm, s2, vi sd, vj pd41, s2, vi pb42, vi 2, vj bt40, s2]) rfl (Nat.le_of_eq rfl) (by decide) (by decide) (by decide) (by decide)
    refine c50 ?_
    refine o_topJ (show (f11 s48) = s48 from rfl) ?_
    refine o_lstore B50 239 241 (l' := #[vr x0, vr x1, vr x2, vi 0, vi 3, vi x5, vi hi, vi wd, vi 2, vi sp, vi lo, vj lm, s2, vi sd, vj pd41, s2, vi pb42, vj s48, s2, us]) d7_239 rfl rfl ?_
    refine o_aloadN B50 241 242 (v := (.ref x0)) d7_241 rfl rfl rfl ?_
    refine o_iload B50 242 244 (v := (2 : Int32)) d7_242 rfl rfl ?_
    refine o_i2l B50 244 245 d7_244 rfl ?_
    refine o_topJ (show (2 : Int32).toInt64 = (2 : Int64) by decide) ?_
    refine o_iload B50 245 247 (v := sp) d7_245 rfl rfl ?_
    refine o_i2l B50 247 248 d7_247 rfl ?_
    refine o_lconst B50 248 249 (1 : Int64) d7_248 rfl (by decide) ?_
    refine o_lsub B50 249 250 d7_249 rfl ?_
    refine o_iload B50 250 252 (v := lo) d7_250 rfl rfl ?_
    refine o_lushr B50 252 253 d7_252 rfl ?_
    refine o_ladd B50 253 254 d7_253 rfl ?_
    refine o_lconst B50 254 255 (1 : Int64) d7_254 rfl (by decide) ?_
    refine o_ladd B50 255 256 d7_255 rfl ?_
    have eU := own_uL (sp.toInt64 - 1) lo L tlo (by omega) (by rw [own_s1 (by omega)]; omega)
    rw [own_s1 (by omega)] at eU
    have eV : 0 ≤ (sp.toInt - 1) / (2 ^ L : Nat) := Int.ediv_nonneg (by omega) (Int.natCast_nonneg _)
    obtain ⟨sk, hsk⟩ : ∃ q : Int64, q = (((2 : Int64) + (XT.ushrL (sp.toInt64 - (1 : Int64)) lo)) + (1 : Int64)) := ⟨_, rfl⟩
    rw [← hsk]
    have tsk : sk.toInt = 2 + (XT.ushrL (sp.toInt64 - 1) lo).toInt + 1 := by rw [hsk]; exact (own_sk2 (by omega))
    obtain ⟨v51, T51, L51, B51, Q51, c51⟩ := o_callV B50 256 259 d7_256 rfl (hw _ (mi 115 rfl)) (hw _ (mi 116 rfl)) (hw _ (mi 118 rfl)) (hw _ (mi 117 rfl)) (hw _ (mi 13 rfl)) (hw _ (mi 119 rfl)) (by decide) F49 (rm19 l Z a0 hw x0 yw g48 s48 sk T48.heap n0 zz48 ge_x0 ge_yw F49 H48_1 H48_2 J48 ne_x0_yw (by omega)) 0 [(.long sk)] [] pd__J_V rfl rfl (st := [(.long sk), (.ref x0)]) rfl (Ls := #[vr x0, vr x1, vr x2, vi 0, vi 3, vi x5, vi hi, vi wd, vi 2, vi sp, vi lo, vj lm, s2, vi sd, vj pd41, s2, vi pb42, vj s48, s2, us]) rfl (Nat.le_of_eq rfl) (by decide) (by decide) (by decide) (by decide)
    obtain ⟨rfl, M51, K51, g51, s51, H51_1, H51_2, J51, rg51, t51⟩ := Q51
    have N51 := Fr.app N48 M51
    have zz51 : n0 ≤ T51.heap.size := Nat.le_trans zz48 K51.1
    refine c51 ?_
    show OG p.tables e below _ (T51.setTop (mkF m 259 #[vr x0, vr x1, vr x2, vi 0, vi 3, vi x5, vi hi, vi wd, vi 2, vi sp, vi lo, vj lm, s2, vi sd, vj pd41, s2, vi pb42, vj s48, s2, us] []))
    refine o_iconst B51 259 260 (0 : Int32) d7_259 rfl (by decide) ?_
    refine o_istore B51 260 262 (l' := #[vr x0, vr x1, vr x2, vi 0, vi 3, vi x5, vi hi, vi wd, vi 2, vi sp, vi lo, vj lm, s2, vi sd, vj pd41, s2, vi pb42, vj s48, s2, vi 0]) d7_260 rfl rfl ?_
    refine o_iload B51 262 264 (v := (0 : Int32)) d7_262 rfl rfl ?_
    refine o_iload B51 264 266 (v := (2 : Int32)) d7_264 rfl rfl ?_
    refine o_icN B51 266 269 d7_266 rfl (XT.ii_ge_f (by decide)) ?_
    refine o_aloadN B51 269 270 (v := (.ref x0)) d7_269 rfl rfl rfl ?_
    refine o_lload B51 270 272 (v := s48) d7_270 rfl rfl ?_
    refine o_aloadN B51 272 273 (v := (.ref x1)) d7_272 rfl rfl rfl ?_
    refine o_iloadN B51 273 274 (v := (0 : Int32)) d7_273 rfl rfl ?_
    refine o_iload B51 274 276 (v := (0 : Int32)) d7_274 rfl rfl ?_
    refine o_iadd B51 276 277 d7_276 rfl ?_
    refine o_topI (show ((0 : Int32) + (0 : Int32)) = (0 : Int32) by decide) ?_
    have F53 := (((F30.keep K44 (ninS (Ne.symm ne_x0_x1) (ninS ne_x1_yw nin0))).keep K48 (ninS (Ne.symm ne_x0_x1) (ninS ne_x1_yw nin0))).keep K51 (ninS (Ne.symm ne_x0_x1) (ninS ne_x1_yw nin0)))
    refine o_iaload B51 277 278 F53 0 (gd 0) d7_277 rfl (by decide) (by decide) (by decide) rfl ?_
    refine o_iload B51 278 280 (v := x5) d7_278 rfl rfl ?_
    refine o_isub B51 280 281 d7_280 rfl ?_
    refine o_iload B51 281 283 (v := lo) d7_281 rfl rfl ?_
    refine o_iushr B51 283 284 d7_283 rfl ?_
    refine o_i2l B51 284 285 d7_284 rfl ?_
    refine o_ladd B51 285 286 d7_285 rfl ?_
    refine o_iload B51 286 288 (v := (0 : Int32)) d7_286 rfl rfl ?_
    refine o_i2l B51 288 289 d7_288 rfl ?_
    refine o_topJ (show (0 : Int32).toInt64 = (0 : Int64) by decide) ?_
    refine o_ladd B51 289 290 d7_289 rfl ?_
    have eS54 := own_us0 (gd 0 - x5) lo L tlo L1 (by rw [own_sub hd0.1 (by omega)]; omega)
    rw [own_sub hd0.1 (by omega)] at eS54
    have eD54 : ((gd 0).toInt - x5.toInt) / (2 ^ L : Nat) ≤ (sp.toInt - 1) / (2 ^ L : Nat) := Int.ediv_le_ediv (Int.natCast_pos.mpr (Nat.two_pow_pos L)) (by omega)
    have eN54 : 0 ≤ ((gd 0).toInt - x5.toInt) / (2 ^ L : Nat) := Int.ediv_nonneg (by omega) (Int.natCast_nonneg _)
    obtain ⟨ps54, hps54⟩ : ∃ q : Int64, q = ((s48 + (XT.ushr ((gd 0) - x5) lo).toInt64) + (0 : Int64)) := ⟨_, rfl⟩
    rw [← hps54]
    have tps54 : ps54.toInt = s48.toInt + ((gd 0).toInt - x5.toInt) / (2 ^ L : Nat) + 0 := by rw [hps54]; exact (own_ps (by omega) (by rw [eS54]; omega) (by rw [eS54]) (by decide))
    have F55 := (F49.keep K51)
    obtain ⟨v56, T56, L56, B56, Q56, c56⟩ := o_callV B51 290 293 d7_290 rfl (hw _ (mi 120 rfl)) (hw _ (mi 121 rfl)) (hw _ (mi 123 rfl)) (hw _ (mi 122 rfl)) (hw _ (mi 13 rfl)) (hw _ (mi 124 rfl)) (by decide) F55 (rm20 l Z a0 hw x0 yw g51 s51 ps54 T51.heap n0 zz51 ge_x0 ge_yw F55 H51_1 H51_2 J51 ne_x0_yw (by omega)) 0 [(.long ps54)] [] pd__J_V rfl rfl (st := [(.long ps54), (.ref x0)]) rfl (Ls := #[vr x0, vr x1, vr x2, vi 0, vi 3, vi x5, vi hi, vi wd, vi 2, vi sp, vi lo, vj lm, s2, vi sd, vj pd41, s2, vi pb42, vj s48, s2, vi 0]) rfl (Nat.le_of_eq rfl) (by decide) (by decide) (by decide) (by decide)
    obtain ⟨rfl, M56, K56, g56, s56, H56_1, H56_2, J56, rz56, P56⟩ := Q56
    have N56 := Fr.app N51 M56
    have zz56 : n0 ≤ T56.heap.size := Nat.le_trans zz51 K56.1
    have u56 : s56.toInt = s51.toInt := by rw [rz56]
    refine c56 ?_
    show OG p.tables e below _ (T56.setTop (mkF m 293 #[vr x0, vr x1, vr x2, vi 0, vi 3, vi x5, vi hi, vi wd, vi 2, vi sp, vi lo, vj lm, s2, vi sd, vj pd41, s2, vi pb42, vj s48, s2, vi 0] []))
    refine o_iincC B56 293 296 (l' := #[vr x0, vr x1, vr x2, vi 0, vi 3, vi x5, vi hi, vi wd, vi 2, vi sp, vi lo, vj lm, s2, vi sd, vj pd41, s2, vi pb42, vj s48, s2, vi 1]) (1 : Int32) (1 : Int32) d7_293 rfl (by decide) rfl (by decide) rfl ?_
    refine o_goto B56 296 262 d7_296 (by decide) (by decide) ?_
    refine o_iload B56 262 264 (v := (1 : Int32)) d7_262 rfl rfl ?_
    refine o_iload B56 264 266 (v := (2 : Int32)) d7_264 rfl rfl ?_
    refine o_icN B56 266 269 d7_266 rfl (XT.ii_ge_f (by decide)) ?_
    refine o_aloadN B56 269 270 (v := (.ref x0)) d7_269 rfl rfl rfl ?_
    refine o_lload B56 270 272 (v := s48) d7_270 rfl rfl ?_
    refine o_aloadN B56 272 273 (v := (.ref x1)) d7_272 rfl rfl rfl ?_
    refine o_iloadN B56 273 274 (v := (0 : Int32)) d7_273 rfl rfl ?_
    refine o_iload B56 274 276 (v := (1 : Int32)) d7_274 rfl rfl ?_
    refine o_iadd B56 276 277 d7_276 rfl ?_
    refine o_topI (show ((0 : Int32) + (1 : Int32)) = (1 : Int32) by decide) ?_
    have F58 := (F53.keep K56 (ninS (Ne.symm ne_x0_x1) (ninS ne_x1_yw nin0)))
    refine o_iaload B56 277 278 F58 1 (gd 1) d7_277 rfl (by decide) (by decide) (by decide) rfl ?_
    refine o_iload B56 278 280 (v := x5) d7_278 rfl rfl ?_
    refine o_isub B56 280 281 d7_280 rfl ?_
    refine o_iload B56 281 283 (v := lo) d7_281 rfl rfl ?_
    refine o_iushr B56 283 284 d7_283 rfl ?_
    refine o_i2l B56 284 285 d7_284 rfl ?_
    refine o_ladd B56 285 286 d7_285 rfl ?_
    refine o_iload B56 286 288 (v := (1 : Int32)) d7_286 rfl rfl ?_
    refine o_i2l B56 288 289 d7_288 rfl ?_
    refine o_topJ (show (1 : Int32).toInt64 = (1 : Int64) by decide) ?_
    refine o_ladd B56 289 290 d7_289 rfl ?_
    have eS59 := own_us0 (gd 1 - x5) lo L tlo L1 (by rw [own_sub hd0.1 (by omega)]; omega)
    rw [own_sub hd0.1 (by omega)] at eS59
    have eD59 : ((gd 1).toInt - x5.toInt) / (2 ^ L : Nat) ≤ (sp.toInt - 1) / (2 ^ L : Nat) := Int.ediv_le_ediv (Int.natCast_pos.mpr (Nat.two_pow_pos L)) (by omega)
    have eN59 : 0 ≤ ((gd 1).toInt - x5.toInt) / (2 ^ L : Nat) := Int.ediv_nonneg (by omega) (Int.natCast_nonneg _)
    obtain ⟨ps59, hps59⟩ : ∃ q : Int64, q = ((s48 + (XT.ushr ((gd 1) - x5) lo).toInt64) + (1 : Int64)) := ⟨_, rfl⟩
    rw [← hps59]
    have tps59 : ps59.toInt = s48.toInt + ((gd 1).toInt - x5.toInt) / (2 ^ L : Nat) + 1 := by rw [hps59]; exact (own_ps (by omega) (by rw [eS59]; omega) (by rw [eS59]) (by decide))
    have F60 := (F55.keep K56)
    obtain ⟨v61, T61, L61, B61, Q61, c61⟩ := o_callV B56 290 293 d7_290 rfl (hw _ (mi 120 rfl)) (hw _ (mi 121 rfl)) (hw _ (mi 123 rfl)) (hw _ (mi 122 rfl)) (hw _ (mi 13 rfl)) (hw _ (mi 124 rfl)) (by decide) F60 (rm20 l Z a0 hw x0 yw g56 s56 ps59 T56.heap n0 zz56 ge_x0 ge_yw F60 H56_1 H56_2 J56 ne_x0_yw (by omega)) 0 [(.long ps59)] [] pd__J_V rfl rfl (st := [(.long ps59), (.ref x0)]) rfl (Ls := #[vr x0, vr x1, vr x2, vi 0, vi 3, vi x5, vi hi, vi wd, vi 2, vi sp, vi lo, vj lm, s2, vi sd, vj pd41, s2, vi pb42, vj s48, s2, vi 1]) rfl (Nat.le_of_eq rfl) (by decide) (by decide) (by decide) (by decide)
    obtain ⟨rfl, M61, K61, g61, s61, H61_1, H61_2, J61, rz61, P61⟩ := Q61
    have N61 := Fr.app N56 M61
    have zz61 : n0 ≤ T61.heap.size := Nat.le_trans zz56 K61.1
    have u61 : s61.toInt = s56.toInt := by rw [rz61]
    refine c61 ?_
    show OG p.tables e below _ (T61.setTop (mkF m 293 #[vr x0, vr x1, vr x2, vi 0, vi 3, vi x5, vi hi, vi wd, vi 2, vi sp, vi lo, vj lm, s2, vi sd, vj pd41, s2, vi pb42, vj s48, s2, vi 1] []))
    refine o_iincC B61 293 296 (l' := #[vr x0, vr x1, vr x2, vi 0, vi 3, vi x5, vi hi, vi wd, vi 2, vi sp, vi lo, vj lm, s2, vi sd, vj pd41, s2, vi pb42, vj s48, s2, vi 2]) (1 : Int32) (2 : Int32) d7_293 rfl (by decide) rfl (by decide) rfl ?_
    refine o_goto B61 296 262 d7_296 (by decide) (by decide) ?_
    refine o_iload B61 262 264 (v := (2 : Int32)) d7_262 rfl rfl ?_
    refine o_iload B61 264 266 (v := (2 : Int32)) d7_264 rfl rfl ?_
    refine o_icY B61 266 299 d7_266 (XT.ii_ge_t (by decide)) (by decide) (by decide) ?_
    have eW : own_W3 gf = wd := by rw [hwd, hhi]; rfl
    have eL : f18 (gd 2 - x5) 2 = lo := by rw [hlo, hsp]
    have eT : s61.toInt = z.toInt + own_tot3 gd gf x5 := by unfold own_tot3; rw [eW, eL, tlo, ← hsp]; omega
    have eB : ∀ i, i < 5 → bitAt g61 (z.toInt.toNat + i) = (bitAt g (z.toInt.toNat + i) || (own_W3 gf).toInt64.toBitVec.getLsbD i) := by intro i hi5; rw [P61 _ (by omega), P56 _ (by omega), rg51, own_wol P48 _ (by omega), own_wol P44 _ (by omega), eW]; exact own_wof P28 i hi5
    have KT62 := (((((((Keep.refl h0 [x0, yw]).trans K28 (allS (Or.inl (mi 0 rfl)) (allS (Or.inl (mi 1 rfl)) all0))).trans K44 (allS (Or.inl (mi 0 rfl)) (allS (Or.inl (mi 1 rfl)) all0))).trans K48 (allS (Or.inl (mi 0 rfl)) (allS (Or.inl (mi 1 rfl)) all0))).trans K51 (allS (Or.inl (mi 0 rfl)) (allS (Or.inl (mi 1 rfl)) all0))).trans K56 (allS (Or.inl (mi 0 rfl)) (allS (Or.inl (mi 1 rfl)) all0))).trans K61 (allS (Or.inl (mi 0 rfl)) (allS (Or.inl (mi 1 rfl)) all0)))
    exact o_retV B61 299 d7_299 hret hlk (by decide) (by decide) ⟨rfl, N61, KT62, g61, s61, H61_1, H61_2, J61, eT, eB⟩
  · refine o_icN B31 167 170 d7_167 rfl (XT.ii_lt_f k1) ?_
    have kk1 : ¬ pb42.toInt < 64 := by rw [Int32.lt_iff_toInt_lt, show (64 : Int32).toInt = 64 by decide] at k1; exact k1
    refine o_aloadN B31 170 171 (v := (.ref x0)) d7_170 rfl rfl rfl ?_
    refine o_lload B31 171 173 (v := pd41) d7_171 rfl rfl ?_
    refine o_bipush B31 173 175 (64 : Int32) d7_173 rfl (by decide) ?_
    have F63 := (hE.keep K28)
    obtain ⟨v64, T64, L64, B64, Q64, c64⟩ := o_callV B31 175 178 d7_175 rfl (hw _ (mi 52 rfl)) (hw _ (mi 24 rfl)) (hw _ (mi 26 rfl)) (hw _ (mi 25 rfl)) (hw _ (mi 13 rfl)) (hw _ (mi 27 rfl)) (by decide) F63 (rm5 l Z a0 hw x0 yw g28 s28 pd41 (64 : Int32) T28.heap n0 zz28 ge_x0 ge_yw F63 H28_1 H28_2 J28 ne_x0_yw (own_hw _ _ _ 64 rfl (by decide) (by omega))) 0 [(.long pd41), (.int (64 : Int32))] [] pd__JI_V rfl rfl (st := [(.int (64 : Int32)), (.long pd41), (.ref x0)]) rfl (Ls := #[vr x0, vr x1, vr x2, vi 0, vi 3, vi x5, vi hi, vi wd, vi 2, vi sp, vi lo, vj lm, s2, vi sd, vj pd41, s2, vi pb42, vi 1, vj bt40, s2]) rfl (Nat.le_of_eq rfl) (by decide) (by decide) (by decide) (by decide)
    obtain ⟨rfl, M64, K64, g64, s64, H64_1, H64_2, J64, ⟨t64, P64⟩⟩ := Q64
    have N64 := Fr.app N28 M64
    have zz64 : n0 ≤ T64.heap.size := Nat.le_trans zz28 K64.1
    have u64 : s64.toInt = s28.toInt + 64 := by rw [t64, show (64 : Int32).toInt = 64 by decide]
    refine c64 ?_
    show OG p.tables e below _ (T64.setTop (mkF m 178 #[vr x0, vr x1, vr x2, vi 0, vi 3, vi x5, vi hi, vi wd, vi 2, vi sp, vi lo, vj lm, s2, vi sd, vj pd41, s2, vi pb42, vi 1, vj bt40, s2] []))
    refine o_iinc B64 178 181 (l' := #[vr x0, vr x1, vr x2, vi 0, vi 3, vi x5, vi hi, vi wd, vi 2, vi sp, vi lo, vj lm, s2, vi sd, vj pd41, s2, vi (pb42 + (-64 : Int32)), vi 1, vj bt40, s2]) (-64 : Int32) d7_178 rfl (by decide) rfl rfl ?_
    obtain ⟨pb65, hpb65⟩ : ∃ q : Int32, q = (pb42 + (-64 : Int32)) := ⟨_, rfl⟩
    rw [← hpb65]
    have tpb65 : pb65.toInt = pb42.toInt - 64 := by rw [hpb65]; exact (own_m64 (by omega))
    refine o_iload B64 181 183 (v := pb65) d7_181 rfl rfl ?_
    have dm2 : ∀ {P : Outcome → State → Prop}, (∀ (m68 : Int64), OG p.tables e below P (T64.setTop (mkF m 198 #[vr x0, vr x1, vr x2, vi 0, vi 3, vi x5, vi hi, vi wd, vi 2, vi sp, vi lo, vj lm, s2, vi sd, vj pd41, s2, vi pb65, vi 1, vj bt40, s2] [(.long m68)]))) → OG p.tables e below P (T64.setTop (mkF m 183 #[vr x0, vr x1, vr x2, vi 0, vi 3, vi x5, vi hi, vi wd, vi 2, vi sp, vi lo, vj lm, s2, vi sd, vj pd41, s2, vi pb65, vi 1, vj bt40, s2] [(.int pb65)])) := by
      intro P k
      by_cases k3 : pb65 = 0
      · refine o_ifN B64 183 186 d7_183 rfl (XT.i0_ne_f k3) ?_
        refine o_lconst B64 186 187 (0 : Int64) d7_186 rfl (by decide) ?_
        refine o_goto B64 187 198 d7_187 (by decide) (by decide) ?_
        exact k _
      · refine o_ifY B64 183 190 d7_183 (XT.i0_ne_t k3) (by decide) (by decide) ?_
        refine o_lload B64 190 192 (v := bt40) d7_190 rfl rfl ?_
        refine o_iload B64 192 194 (v := sd) d7_192 rfl rfl ?_
        refine o_iload B64 194 196 (v := pb65) d7_194 rfl rfl ?_
        refine o_isub B64 196 197 d7_196 rfl ?_
        refine o_lushr B64 197 198 d7_197 rfl ?_
        exact k _
    refine dm2 (fun m68 => ?_)
    refine o_lstore B64 198 200 (l' := #[vr x0, vr x1, vr x2, vi 0, vi 3, vi x5, vi hi, vi wd, vi 2, vi sp, vi lo, vj lm, s2, vi sd, vj m68, s2, vi pb65, vi 1, vj bt40, s2]) d7_198 rfl rfl ?_
    refine o_iincC B64 200 203 (l' := #[vr x0, vr x1, vr x2, vi 0, vi 3, vi x5, vi hi, vi wd, vi 2, vi sp, vi lo, vj lm, s2, vi sd, vj m68, s2, vi pb65, vi 2, vj bt40, s2]) (1 : Int32) (2 : Int32) d7_200 rfl (by decide) rfl (by decide) rfl ?_
    refine o_goto B64 203 113 d7_203 (by decide) (by decide) ?_
    refine o_iload B64 113 115 (v := (2 : Int32)) d7_113 rfl rfl ?_
    refine o_iloadN B64 115 116 (v := (0 : Int32)) d7_115 rfl rfl ?_
    refine o_iload B64 116 118 (v := (2 : Int32)) d7_116 rfl rfl ?_
    refine o_iadd B64 118 119 d7_118 rfl ?_
    refine o_topI (show ((0 : Int32) + (2 : Int32)) = (2 : Int32) by decide) ?_
    refine o_icY B64 119 206 d7_119 (XT.ii_ge_t (by decide)) (by decide) (by decide) ?_
    refine o_aloadN B64 206 207 (v := (.ref x0)) d7_206 rfl rfl rfl ?_
    refine o_lload B64 207 209 (v := m68) d7_207 rfl rfl ?_
    refine o_iload B64 209 211 (v := pb65) d7_209 rfl rfl ?_
    have F69 := (F63.keep K64)
    obtain ⟨v70, T70, L70, B70, Q70, c70⟩ := o_callV B64 211 214 d7_211 rfl (hw _ (mi 52 rfl)) (hw _ (mi 24 rfl)) (hw _ (mi 26 rfl)) (hw _ (mi 25 rfl)) (hw _ (mi 13 rfl)) (hw _ (mi 27 rfl)) (by decide) F69 (rm5 l Z a0 hw x0 yw g64 s64 m68 pb65 T64.heap n0 zz64 ge_x0 ge_yw F69 H64_1 H64_2 J64 ne_x0_yw (own_hw _ _ _ _ rfl rfl (by omega))) 0 [(.long m68), (.int pb65)] [] pd__JI_V rfl rfl (st := [(.int pb65), (.long m68), (.ref x0)]) rfl (Ls := #[vr x0, vr x1, vr x2, vi 0, vi 3, vi x5, vi hi, vi wd, vi 2, vi sp, vi lo, vj lm, s2, vi sd, vj m68, s2, vi pb65, vi 2, vj bt40, s2]) rfl (Nat.le_of_eq rfl) (by decide) (by decide) (by decide) (by decide)
    obtain ⟨rfl, M70, K70, g70, s70, H70_1, H70_2, J70, ⟨t70, P70⟩⟩ := Q70
    have N70 := Fr.app N64 M70
    have zz70 : n0 ≤ T70.heap.size := Nat.le_trans zz64 K70.1
    refine c70 ?_
    show OG p.tables e below _ (T70.setTop (mkF m 214 #[vr x0, vr x1, vr x2, vi 0, vi 3, vi x5, vi hi, vi wd, vi 2, vi sp, vi lo, vj lm, s2, vi sd, vj m68, s2, vi pb65, vi 2, vj bt40, s2] []))
    refine o_aloadN B70 214 215 (v := (.ref x0)) d7_214 rfl rfl rfl ?_
    refine o_aloadN B70 215 216 (v := (.ref x2)) d7_215 rfl rfl rfl ?_
    refine o_iloadN B70 216 217 (v := (0 : Int32)) d7_216 rfl rfl ?_
    refine o_iload B70 217 219 (v := (2 : Int32)) d7_217 rfl rfl ?_
    refine o_iadd B70 219 220 d7_219 rfl ?_
    refine o_topI (show ((0 : Int32) + (2 : Int32)) = (2 : Int32) by decide) ?_
    have F72 := ((F34.keep K64 (ninS (Ne.symm ne_x0_x2) (ninS ne_x2_yw nin0))).keep K70 (ninS (Ne.symm ne_x0_x2) (ninS ne_x2_yw nin0)))
    refine o_iaload B70 220 221 F72 2 (gf 2) d7_220 rfl (by decide) (by decide) (by decide) rfl ?_
    refine o_iconst B70 221 222 (1 : Int32) d7_221 rfl (by decide) ?_
    refine o_isub B70 222 223 d7_222 rfl ?_
    refine o_i2l B70 223 224 d7_223 rfl ?_
    refine o_iload B70 224 226 (v := wd) d7_224 rfl rfl ?_
    have F73 := (F69.keep K70)
    obtain ⟨v74, T74, L74, B74, Q74, c74⟩ := o_callV B70 226 229 d7_226 rfl (hw _ (mi 52 rfl)) (hw _ (mi 24 rfl)) (hw _ (mi 26 rfl)) (hw _ (mi 25 rfl)) (hw _ (mi 13 rfl)) (hw _ (mi 27 rfl)) (by decide) F73 (rm5 l Z a0 hw x0 yw g70 s70 ((gf 2) - (1 : Int32)).toInt64 wd T70.heap n0 zz70 ge_x0 ge_yw F73 H70_1 H70_2 J70 ne_x0_yw (own_hw _ _ _ _ rfl rfl (by omega))) 0 [(.long ((gf 2) - (1 : Int32)).toInt64), (.int wd)] [] pd__JI_V rfl rfl (st := [(.int wd), (.long ((gf 2) - (1 : Int32)).toInt64), (.ref x0)]) rfl (Ls := #[vr x0, vr x1, vr x2, vi 0, vi 3, vi x5, vi hi, vi wd, vi 2, vi sp, vi lo, vj lm, s2, vi sd, vj m68, s2, vi pb65, vi 2, vj bt40, s2]) rfl (Nat.le_of_eq rfl) (by decide) (by decide) (by decide) (by decide)
    obtain ⟨rfl, M74, K74, g74, s74, H74_1, H74_2, J74, ⟨t74, P74⟩⟩ := Q74
    have N74 := Fr.app N70 M74
    have zz74 : n0 ≤ T74.heap.size := Nat.le_trans zz70 K74.1
    refine c74 ?_
    show OG p.tables e below _ (T74.setTop (mkF m 229 #[vr x0, vr x1, vr x2, vi 0, vi 3, vi x5, vi hi, vi wd, vi 2, vi sp, vi lo, vj lm, s2, vi sd, vj m68, s2, vi pb65, vi 2, vj bt40, s2] []))
    refine o_iload B74 229 231 (v := (2 : Int32)) d7_229 rfl rfl ?_
    refine o_ifY B74 231 235 d7_231 (XT.i0_ne_t (by decide)) (by decide) (by decide) ?_
    refine o_aloadN B74 235 236 (v := (.ref x0)) d7_235 rfl rfl rfl ?_
    have F75 := (F73.keep K74)
    obtain ⟨T76, B76, c76⟩ := o_callVP B74 236 239 d7_236 rfl (hw _ (mi 114 rfl)) (hw _ (mi 56 rfl)) (hw _ (mi 58 rfl)) (hw _ (mi 57 rfl)) (hw _ (mi 13 rfl)) (hw _ (mi 59 rfl)) (by decide) F75 (rm11 l Z a0 hw x0 s74 T74.heap H74_2) 0 [] [] pd___J rfl rfl (st := [(.ref x0)]) rfl (Ls := #[vr x0, vr x1, vr x2, vi 0, vi 3, vi x5, vi hi, vi wd, vi 2, vi sp, vi lo, vj lm, s2, vi sd, vj m68, s2, vi pb65, vi 2, vj bt40, s2]) rfl (Nat.le_of_eq rfl) (by decide) (by decide) (by decide) (by decide)
    refine c76 ?_
    refine o_topJ (show (f11 s74) = s74 from rfl) ?_
    refine o_lstore B76 239 241 (l' := #[vr x0, vr x1, vr x2, vi 0, vi 3, vi x5, vi hi, vi wd, vi 2, vi sp, vi lo, vj lm, s2, vi sd, vj m68, s2, vi pb65, vj s74, s2, us]) d7_239 rfl rfl ?_
    refine o_aloadN B76 241 242 (v := (.ref x0)) d7_241 rfl rfl rfl ?_
    refine o_iload B76 242 244 (v := (2 : Int32)) d7_242 rfl rfl ?_
    refine o_i2l B76 244 245 d7_244 rfl ?_
    refine o_topJ (show (2 : Int32).toInt64 = (2 : Int64) by decide) ?_
    refine o_iload B76 245 247 (v := sp) d7_245 rfl rfl ?_
    refine o_i2l B76 247 248 d7_247 rfl ?_
    refine o_lconst B76 248 249 (1 : Int64) d7_248 rfl (by decide) ?_
    refine o_lsub B76 249 250 d7_249 rfl ?_
    refine o_iload B76 250 252 (v := lo) d7_250 rfl rfl ?_
    refine o_lushr B76 252 253 d7_252 rfl ?_
    refine o_ladd B76 253 254 d7_253 rfl ?_
    refine o_lconst B76 254 255 (1 : Int64) d7_254 rfl (by decide) ?_
    refine o_ladd B76 255 256 d7_255 rfl ?_
    have eU := own_uL (sp.toInt64 - 1) lo L tlo (by omega) (by rw [own_s1 (by omega)]; omega)
    rw [own_s1 (by omega)] at eU
    have eV : 0 ≤ (sp.toInt - 1) / (2 ^ L : Nat) := Int.ediv_nonneg (by omega) (Int.natCast_nonneg _)
    obtain ⟨sk, hsk⟩ : ∃ q : Int64, q = (((2 : Int64) + (XT.ushrL (sp.toInt64 - (1 : Int64)) lo)) + (1 : Int64)) := ⟨_, rfl⟩
    rw [← hsk]
    have tsk : sk.toInt = 2 + (XT.ushrL (sp.toInt64 - 1) lo).toInt + 1 := by rw [hsk]; exact (own_sk2 (by omega))
    obtain ⟨v77, T77, L77, B77, Q77, c77⟩ := o_callV B76 256 259 d7_256 rfl (hw _ (mi 115 rfl)) (hw _ (mi 116 rfl)) (hw _ (mi 118 rfl)) (hw _ (mi 117 rfl)) (hw _ (mi 13 rfl)) (hw _ (mi 119 rfl)) (by decide) F75 (rm19 l Z a0 hw x0 yw g74 s74 sk T74.heap n0 zz74 ge_x0 ge_yw F75 H74_1 H74_2 J74 ne_x0_yw (by omega)) 0 [(.long sk)] [] pd__J_V rfl rfl (st := [(.long sk), (.ref x0)]) rfl (Ls := #[vr x0, vr x1, vr x2, vi 0, vi 3, vi x5, vi hi, vi wd, vi 2, vi sp, vi lo, vj lm, s2, vi sd, vj m68, s2, vi pb65, vj s74, s2, us]) rfl (Nat.le_of_eq rfl) (by decide) (by decide) (by decide) (by decide)
    obtain ⟨rfl, M77, K77, g77, s77, H77_1, H77_2, J77, rg77, t77⟩ := Q77
    have N77 := Fr.app N74 M77
    have zz77 : n0 ≤ T77.heap.size := Nat.le_trans zz74 K77.1
    refine c77 ?_
    show OG p.tables e below _ (T77.setTop (mkF m 259 #[vr x0, vr x1, vr x2, vi 0, vi 3, vi x5, vi hi, vi wd, vi 2, vi sp, vi lo, vj lm, s2, vi sd, vj m68, s2, vi pb65, vj s74, s2, us] []))
    refine o_iconst B77 259 260 (0 : Int32) d7_259 rfl (by decide) ?_
    refine o_istore B77 260 262 (l' := #[vr x0, vr x1, vr x2, vi 0, vi 3, vi x5, vi hi, vi wd, vi 2, vi sp, vi lo, vj lm, s2, vi sd, vj m68, s2, vi pb65, vj s74, s2, vi 0]) d7_260 rfl rfl ?_
    refine o_iload B77 262 264 (v := (0 : Int32)) d7_262 rfl rfl ?_
    refine o_iload B77 264 266 (v := (2 : Int32)) d7_264 rfl rfl ?_
    refine o_icN B77 266 269 d7_266 rfl (XT.ii_ge_f (by decide)) ?_
    refine o_aloadN B77 269 270 (v := (.ref x0)) d7_269 rfl rfl rfl ?_
    refine o_lload B77 270 272 (v := s74) d7_270 rfl rfl ?_
    refine o_aloadN B77 272 273 (v := (.ref x1)) d7_272 rfl rfl rfl ?_
    refine o_iloadN B77 273 274 (v := (0 : Int32)) d7_273 rfl rfl ?_
    refine o_iload B77 274 276 (v := (0 : Int32)) d7_274 rfl rfl ?_
    refine o_iadd B77 276 277 d7_276 rfl ?_
    refine o_topI (show ((0 : Int32) + (0 : Int32)) = (0 : Int32) by decide) ?_
    have F79 := ((((F30.keep K64 (ninS (Ne.symm ne_x0_x1) (ninS ne_x1_yw nin0))).keep K70 (ninS (Ne.symm ne_x0_x1) (ninS ne_x1_yw nin0))).keep K74 (ninS (Ne.symm ne_x0_x1) (ninS ne_x1_yw nin0))).keep K77 (ninS (Ne.symm ne_x0_x1) (ninS ne_x1_yw nin0)))
    refine o_iaload B77 277 278 F79 0 (gd 0) d7_277 rfl (by decide) (by decide) (by decide) rfl ?_
    refine o_iload B77 278 280 (v := x5) d7_278 rfl rfl ?_
    refine o_isub B77 280 281 d7_280 rfl ?_
    refine o_iload B77 281 283 (v := lo) d7_281 rfl rfl ?_
    refine o_iushr B77 283 284 d7_283 rfl ?_
    refine o_i2l B77 284 285 d7_284 rfl ?_
    refine o_ladd B77 285 286 d7_285 rfl ?_
    refine o_iload B77 286 288 (v := (0 : Int32)) d7_286 rfl rfl ?_
    refine o_i2l B77 288 289 d7_288 rfl ?_
    refine o_topJ (show (0 : Int32).toInt64 = (0 : Int64) by decide) ?_
    refine o_ladd B77 289 290 d7_289 rfl ?_
    have eS80 := own_us0 (gd 0 - x5) lo L tlo L1 (by rw [own_sub hd0.1 (by omega)]; omega)
    rw [own_sub hd0.1 (by omega)] at eS80
    have eD80 : ((gd 0).toInt - x5.toInt) / (2 ^ L : Nat) ≤ (sp.toInt - 1) / (2 ^ L : Nat) := Int.ediv_le_ediv (Int.natCast_pos.mpr (Nat.two_pow_pos L)) (by omega)
    have eN80 : 0 ≤ ((gd 0).toInt - x5.toInt) / (2 ^ L : Nat) := Int.ediv_nonneg (by omega) (Int.natCast_nonneg _)
    obtain ⟨ps80, hps80⟩ : ∃ q : Int64, q = ((s74 + (XT.ushr ((gd 0) - x5) lo).toInt64) + (0 : Int64)) := ⟨_, rfl⟩
    rw [← hps80]
    have tps80 : ps80.toInt = s74.toInt + ((gd 0).toInt - x5.toInt) / (2 ^ L : Nat) + 0 := by rw [hps80]; exact (own_ps (by omega) (by rw [eS80]; omega) (by rw [eS80]) (by decide))
    have F81 := (F75.keep K77)
    obtain ⟨v82, T82, L82, B82, Q82, c82⟩ := o_callV B77 290 293 d7_290 rfl (hw _ (mi 120 rfl)) (hw _ (mi 121 rfl)) (hw _ (mi 123 rfl)) (hw _ (mi 122 rfl)) (hw _ (mi 13 rfl)) (hw _ (mi 124 rfl)) (by decide) F81 (rm20 l Z a0 hw x0 yw g77 s77 ps80 T77.heap n0 zz77 ge_x0 ge_yw F81 H77_1 H77_2 J77 ne_x0_yw (by omega)) 0 [(.long ps80)] [] pd__J_V rfl rfl (st := [(.long ps80), (.ref x0)]) rfl (Ls := #[vr x0, vr x1, vr x2, vi 0, vi 3, vi x5, vi hi, vi wd, vi 2, vi sp, vi lo, vj lm, s2, vi sd, vj m68, s2, vi pb65, vj s74, s2, vi 0]) rfl (Nat.le_of_eq rfl) (by decide) (by decide) (by decide) (by decide)
    obtain ⟨rfl, M82, K82, g82, s82, H82_1, H82_2, J82, rz82, P82⟩ := Q82
    have N82 := Fr.app N77 M82
    have zz82 : n0 ≤ T82.heap.size := Nat.le_trans zz77 K82.1
    have u82 : s82.toInt = s77.toInt := by rw [rz82]
    refine c82 ?_
    show OG p.tables e below _ (T82.setTop (mkF m 293 #[vr x0, vr x1, vr x2, vi 0, vi 3, vi x5, vi hi, vi wd, vi 2, vi sp, vi lo, vj lm, s2, vi sd, vj m68, s2, vi pb65, vj s74, s2, vi 0] []))
    refine o_iincC B82 293 296 (l' := #[vr x0, vr x1, vr x2, vi 0, vi 3, vi x5, vi hi, vi wd, vi 2, vi sp, vi lo, vj lm, s2, vi sd, vj m68, s2, vi pb65, vj s74, s2, vi 1]) (1 : Int32) (1 : Int32) d7_293 rfl (by decide) rfl (by decide) rfl ?_
    refine o_goto B82 296 262 d7_296 (by decide) (by decide) ?_
    refine o_iload B82 262 264 (v := (1 : Int32)) d7_262 rfl rfl ?_
    refine o_iload B82 264 266 (v := (2 : Int32)) d7_264 rfl rfl ?_
    refine o_icN B82 266 269 d7_266 rfl (XT.ii_ge_f (by decide)) ?_
    refine o_aloadN B82 269 270 (v := (.ref x0)) d7_269 rfl rfl rfl ?_
    refine o_lload B82 270 272 (v := s74) d7_270 rfl rfl ?_
    refine o_aloadN B82 272 273 (v := (.ref x1)) d7_272 rfl rfl rfl ?_
    refine o_iloadN B82 273 274 (v := (0 : Int32)) d7_273 rfl rfl ?_
    refine o_iload B82 274 276 (v := (1 : Int32)) d7_274 rfl rfl ?_
    refine o_iadd B82 276 277 d7_276 rfl ?_
    refine o_topI (show ((0 : Int32) + (1 : Int32)) = (1 : Int32) by decide) ?_
    have F84 := (F79.keep K82 (ninS (Ne.symm ne_x0_x1) (ninS ne_x1_yw nin0)))
    refine o_iaload B82 277 278 F84 1 (gd 1) d7_277 rfl (by decide) (by decide) (by decide) rfl ?_
    refine o_iload B82 278 280 (v := x5) d7_278 rfl rfl ?_
    refine o_isub B82 280 281 d7_280 rfl ?_
    refine o_iload B82 281 283 (v := lo) d7_281 rfl rfl ?_
    refine o_iushr B82 283 284 d7_283 rfl ?_
    refine o_i2l B82 284 285 d7_284 rfl ?_
    refine o_ladd B82 285 286 d7_285 rfl ?_
    refine o_iload B82 286 288 (v := (1 : Int32)) d7_286 rfl rfl ?_
    refine o_i2l B82 288 289 d7_288 rfl ?_
    refine o_topJ (show (1 : Int32).toInt64 = (1 : Int64) by decide) ?_
    refine o_ladd B82 289 290 d7_289 rfl ?_
    have eS85 := own_us0 (gd 1 - x5) lo L tlo L1 (by rw [own_sub hd0.1 (by omega)]; omega)
    rw [own_sub hd0.1 (by omega)] at eS85
    have eD85 : ((gd 1).toInt - x5.toInt) / (2 ^ L : Nat) ≤ (sp.toInt - 1) / (2 ^ L : Nat) := Int.ediv_le_ediv (Int.natCast_pos.mpr (Nat.two_pow_pos L)) (by omega)
    have eN85 : 0 ≤ ((gd 1).toInt - x5.toInt) / (2 ^ L : Nat) := Int.ediv_nonneg (by omega) (Int.natCast_nonneg _)
    obtain ⟨ps85, hps85⟩ : ∃ q : Int64, q = ((s74 + (XT.ushr ((gd 1) - x5) lo).toInt64) + (1 : Int64)) := ⟨_, rfl⟩
    rw [← hps85]
    have tps85 : ps85.toInt = s74.toInt + ((gd 1).toInt - x5.toInt) / (2 ^ L : Nat) + 1 := by rw [hps85]; exact (own_ps (by omega) (by rw [eS85]; omega) (by rw [eS85]) (by decide))
    have F86 := (F81.keep K82)
    obtain ⟨v87, T87, L87, B87, Q87, c87⟩ := o_callV B82 290 293 d7_290 rfl (hw _ (mi 120 rfl)) (hw _ (mi 121 rfl)) (hw _ (mi 123 rfl)) (hw _ (mi 122 rfl)) (hw _ (mi 13 rfl)) (hw _ (mi 124 rfl)) (by decide) F86 (rm20 l Z a0 hw x0 yw g82 s82 ps85 T82.heap n0 zz82 ge_x0 ge_yw F86 H82_1 H82_2 J82 ne_x0_yw (by omega)) 0 [(.long ps85)] [] pd__J_V rfl rfl (st := [(.long ps85), (.ref x0)]) rfl (Ls := #[vr x0, vr x1, vr x2, vi 0, vi 3, vi x5, vi hi, vi wd, vi 2, vi sp, vi lo, vj lm, s2, vi sd, vj m68, s2, vi pb65, vj s74, s2, vi 1]) rfl (Nat.le_of_eq rfl) (by decide) (by decide) (by decide) (by decide)
    obtain ⟨rfl, M87, K87, g87, s87, H87_1, H87_2, J87, rz87, P87⟩ := Q87
    have N87 := Fr.app N82 M87
    have zz87 : n0 ≤ T87.heap.size := Nat.le_trans zz82 K87.1
    have u87 : s87.toInt = s82.toInt := by rw [rz87]
    refine c87 ?_
    show OG p.tables e below _ (T87.setTop (mkF m 293 #[vr x0, vr x1, vr x2, vi 0, vi 3, vi x5, vi hi, vi wd, vi 2, vi sp, vi lo, vj lm, s2, vi sd, vj m68, s2, vi pb65, vj s74, s2, vi 1] []))
    refine o_iincC B87 293 296 (l' := #[vr x0, vr x1, vr x2, vi 0, vi 3, vi x5, vi hi, vi wd, vi 2, vi sp, vi lo, vj lm, s2, vi sd, vj m68, s2, vi pb65, vj s74, s2, vi 2]) (1 : Int32) (2 : Int32) d7_293 rfl (by decide) rfl (by decide) rfl ?_
    refine o_goto B87 296 262 d7_296 (by decide) (by decide) ?_
    refine o_iload B87 262 264 (v := (2 : Int32)) d7_262 rfl rfl ?_
    refine o_iload B87 264 266 (v := (2 : Int32)) d7_264 rfl rfl ?_
    refine o_icY B87 266 299 d7_266 (XT.ii_ge_t (by decide)) (by decide) (by decide) ?_
    have eW : own_W3 gf = wd := by rw [hwd, hhi]; rfl
    have eL : f18 (gd 2 - x5) 2 = lo := by rw [hlo, hsp]
    have eT : s87.toInt = z.toInt + own_tot3 gd gf x5 := by unfold own_tot3; rw [eW, eL, tlo, ← hsp]; omega
    have eB : ∀ i, i < 5 → bitAt g87 (z.toInt.toNat + i) = (bitAt g (z.toInt.toNat + i) || (own_W3 gf).toInt64.toBitVec.getLsbD i) := by intro i hi5; rw [P87 _ (by omega), P82 _ (by omega), rg77, own_wol P74 _ (by omega), own_wol P70 _ (by omega), own_wol P64 _ (by omega), eW]; exact own_wof P28 i hi5
    have KT88 := ((((((((Keep.refl h0 [x0, yw]).trans K28 (allS (Or.inl (mi 0 rfl)) (allS (Or.inl (mi 1 rfl)) all0))).trans K64 (allS (Or.inl (mi 0 rfl)) (allS (Or.inl (mi 1 rfl)) all0))).trans K70 (allS (Or.inl (mi 0 rfl)) (allS (Or.inl (mi 1 rfl)) all0))).trans K74 (allS (Or.inl (mi 0 rfl)) (allS (Or.inl (mi 1 rfl)) all0))).trans K77 (allS (Or.inl (mi 0 rfl)) (allS (Or.inl (mi 1 rfl)) all0))).trans K82 (allS (Or.inl (mi 0 rfl)) (allS (Or.inl (mi 1 rfl)) all0))).trans K87 (allS (Or.inl (mi 0 rfl)) (allS (Or.inl (mi 1 rfl)) all0)))
    exact o_retV B87 299 d7_299 hret hlk (by decide) (by decide) ⟨rfl, N87, KT88, g87, s87, H87_1, H87_2, J87, eT, eB⟩
def own_W4 (gf : Nat → Int32) : Int32 := f8 (f2 (f2 (f2 (f2 (0 : Int32) ((gf 0) - (1 : Int32))) ((gf 1) - (1 : Int32))) ((gf 2) - (1 : Int32))) ((gf 3) - (1 : Int32))).toInt64
def own_tot4 (gd gf : Nat → Int32) (b : Int32) : Int := 5 + 3 * ((f18 (gd 3 - b) 3).toInt + (own_W4 gf).toInt) + (own_W4 gf).toInt + (3 + (XT.ushrL ((gd 3 - b).toInt64 - 1) (f18 (gd 3 - b) 3)).toInt + 1)
def Q7_4 (Z : State) (x0 : Addr) (x1 : Addr) (x2 : Addr) (yw : Addr) (gd : Nat → Int32) (gf : Nat → Int32) (g : Nat → Int64) (z : Int64) (x5 : Int32) (h0 : Heap) (n0 : Nat) (v : Option Value) (h : Heap) (L : List Loc) : Prop := v = none ∧ Fr n0 L ∧ Keep h0 h [x0, yw] ∧ ∃ (g' : Nat → Int64) (s : Int64), Fld Z h x0 "com/example/micro_ranker/microranker/engine/BitWriter" "words" "[J" (.ref yw) ∧ Fld Z h x0 "com/example/micro_ranker/microranker/engine/BitWriter" "size" "J" (.long s) ∧ AJ Z h yw 8 g' ∧ s.toInt = z.toInt + own_tot4 gd gf x5 ∧ ∀ i, i < 5 → bitAt g' (z.toInt.toNat + i) = (bitAt g (z.toInt.toNat + i) || (own_W4 gf).toInt64.toBitVec.getLsbD i)
set_option maxRecDepth 65536 in
set_option maxHeartbeats 400000000 in
theorem rm7_4 (l : Launch) (Z : State) (a0 : Array Value) (hw : ∀ d ∈ tables_1, d.before a0 Z = true) (x0 : Addr) (x1 : Addr) (x2 : Addr) (yw : Addr) (gd : Nat → Int32) (gf : Nat → Int32) (g : Nat → Int64) (z : Int64) (x5 : Int32) (h0 : Heap) (n0 : Nat) (hz : n0 ≤ h0.size) (ge_x0 : n0 ≤ x0) (ge_yw : n0 ≤ yw) (hE : Exa Z h0 x0 "com/example/micro_ranker/microranker/engine/BitWriter") (G_words : Fld Z h0 x0 "com/example/micro_ranker/microranker/engine/BitWriter" "words" "[J" (.ref yw)) (G_size : Fld Z h0 x0 "com/example/micro_ranker/microranker/engine/BitWriter" "size" "J" (.long z)) (A_x1 : AI Z h0 x1 .int 4 gd) (A_x2 : AI Z h0 x2 .int 4 gf) (A_yw : AJ Z h0 yw 8 g) (ne_x0_yw : x0 ≠ yw) (ne_x1_yw : x1 ≠ yw) (ne_x2_yw : x2 ≠ yw) (ne_x0_x1 : x0 ≠ x1) (ne_x0_x2 : x0 ≠ x2) (hd : Bd gd gf x5 z) :
    Met l Z (⟨"com/example/micro_ranker/microranker/engine/Block", "write", "(Lcom/example/micro_ranker/microranker/engine/BitWriter;[I[IIII)V"⟩ : MethodName) prog_18_method_2_code 20 none ({ frames := 4, cells := 0, slots := 0, locals := 57 } : Room) #[(.ref x0), (.ref x1), (.ref x2), (.int (0 : Int32)), (.int (4 : Int32)), (.int x5)] h0 (Q7_4 Z x0 x1 x2 yw gd gf g z x5 h0 n0) := by
  refine enter pl7 #[vr x0, vr x1, vr x2, vi 0, vi 4, vi x5, us, us, us, us, us, us, us, us, us, us, us, us, us, us] rfl ?_
  intro p e s m below meth c T B hret hlk hnm
  have N0 := Fr.nil n0
  have hz0 := hd.1
  have hf0 := hd.2.1
  have hd0 := hd.2.2
  have hb := rng32 (gd 3)
  refine o_iconst B 0 1 (0 : Int32) d7_0 rfl (by decide) ?_
  refine o_istore B 1 3 (l' := #[vr x0, vr x1, vr x2, vi 0, vi 4, vi x5, vi 0, us, us, us, us, us, us, us, us, us, us, us, us, us]) d7_1 rfl rfl ?_
  refine o_iloadN B 3 4 (v := (0 : Int32)) d7_3 rfl rfl ?_
  refine o_istore B 4 6 (l' := #[vr x0, vr x1, vr x2, vi 0, vi 4, vi x5, vi 0, vi 0, us, us, us, us, us, us, us, us, us, us, us, us]) d7_4 rfl rfl ?_
  refine o_iload B 6 8 (v := (0 : Int32)) d7_6 rfl rfl ?_
  refine o_iloadN B 8 9 (v := (0 : Int32)) d7_8 rfl rfl ?_
  refine o_iload B 9 11 (v := (4 : Int32)) d7_9 rfl rfl ?_
  refine o_iadd B 11 12 d7_11 rfl ?_
  refine o_topI (show ((0 : Int32) + (4 : Int32)) = (4 : Int32) by decide) ?_
  refine o_icN B 12 15 d7_12 rfl (XT.ii_ge_f (by decide)) ?_
  refine o_iload B 15 17 (v := (0 : Int32)) d7_15 rfl rfl ?_
  refine o_aloadN B 17 18 (v := (.ref x2)) d7_17 rfl rfl rfl ?_
  refine o_iload B 18 20 (v := (0 : Int32)) d7_18 rfl rfl ?_
  refine o_iaload B 20 21 A_x2 0 (gf 0) d7_20 rfl (by decide) (by decide) (by decide) rfl ?_
  refine o_iconst B 21 22 (1 : Int32) d7_21 rfl (by decide) ?_
  refine o_isub B 22 23 d7_22 rfl ?_
  obtain ⟨T22, B22, c22⟩ := o_callP B 23 26 d7_23 rfl (hw _ (mi 38 rfl)) (hw _ (mi 8 rfl)) (hw _ (mi 9 rfl)) (hw _ (mi 10 rfl)) (by decide) (rm2 l Z a0 hw (0 : Int32) ((gf 0) - (1 : Int32)) h0 ) 0 [(.int (0 : Int32)), (.int ((gf 0) - (1 : Int32)))] [] pd__II_I rfl rfl (st := [(.int ((gf 0) - (1 : Int32))), (.int (0 : Int32))]) rfl (Ls := #[vr x0, vr x1, vr x2, vi 0, vi 4, vi x5, vi 0, vi 0, us, us, us, us, us, us, us, us, us, us, us, us]) rfl (Nat.le_of_eq rfl) (by decide) (by decide) (by decide) (by decide)
  refine c22 ?_
  refine o_istore B22 26 28 (l' := #[vr x0, vr x1, vr x2, vi 0, vi 4, vi x5, vi (f2 (0 : Int32) ((gf 0) - (1 : Int32))), vi 0, us, us, us, us, us, us, us, us, us, us, us, us]) d7_26 rfl rfl ?_
  refine o_iincC B22 28 31 (l' := #[vr x0, vr x1, vr x2, vi 0, vi 4, vi x5, vi (f2 (0 : Int32) ((gf 0) - (1 : Int32))), vi 1, us, us, us, us, us, us, us, us, us, us, us, us]) (1 : Int32) (1 : Int32) d7_28 rfl (by decide) rfl (by decide) rfl ?_
  refine o_goto B22 31 6 d7_31 (by decide) (by decide) ?_
  refine o_iload B22 6 8 (v := (1 : Int32)) d7_6 rfl rfl ?_
  refine o_iloadN B22 8 9 (v := (0 : Int32)) d7_8 rfl rfl ?_
  refine o_iload B22 9 11 (v := (4 : Int32)) d7_9 rfl rfl ?_
  refine o_iadd B22 11 12 d7_11 rfl ?_
  refine o_topI (show ((0 : Int32) + (4 : Int32)) = (4 : Int32) by decide) ?_
  refine o_icN B22 12 15 d7_12 rfl (XT.ii_ge_f (by decide)) ?_
  refine o_iload B22 15 17 (v := (f2 (0 : Int32) ((gf 0) - (1 : Int32)))) d7_15 rfl rfl ?_
  refine o_aloadN B22 17 18 (v := (.ref x2)) d7_17 rfl rfl rfl ?_
  refine o_iload B22 18 20 (v := (1 : Int32)) d7_18 rfl rfl ?_
  refine o_iaload B22 20 21 A_x2 1 (gf 1) d7_20 rfl (by decide) (by decide) (by decide) rfl ?_
  refine o_iconst B22 21 22 (1 : Int32) d7_21 rfl (by decide) ?_
  refine o_isub B22 22 23 d7_22 rfl ?_
  obtain ⟨T24, B24, c24⟩ := o_callP B22 23 26 d7_23 rfl (hw _ (mi 38 rfl)) (hw _ (mi 8 rfl)) (hw _ (mi 9 rfl)) (hw _ (mi 10 rfl)) (by decide) (rm2 l Z a0 hw (f2 (0 : Int32) ((gf 0) - (1 : Int32))) ((gf 1) - (1 : Int32)) h0 ) 0 [(.int (f2 (0 : Int32) ((gf 0) - (1 : Int32)))), (.int ((gf 1) - (1 : Int32)))] [] pd__II_I rfl rfl (st := [(.int ((gf 1) - (1 : Int32))), (.int (f2 (0 : Int32) ((gf 0) - (1 : Int32))))]) rfl (Ls := #[vr x0, vr x1, vr x2, vi 0, vi 4, vi x5, vi (f2 (0 : Int32) ((gf 0) - (1 : Int32))), vi 1, us, us, us, us, us, us, us, us, us, us, us, us]) rfl (Nat.le_of_eq rfl) (by decide) (by decide) (by decide) (by decide)
  refine c24 ?_
  refine o_istore B24 26 28 (l' := #[vr x0, vr x1, vr x2, vi 0, vi 4, vi x5, vi (f2 (f2 (0 : Int32) ((gf 0) - (1 : Int32))) ((gf 1) - (1 : Int32))), vi 1, us, us, us, us, us, us, us, us, us, us, us, us]) d7_26 rfl rfl ?_
  refine o_iincC B24 28 31 (l' := #[vr x0, vr x1, vr x2, vi 0, vi 4, vi x5, vi (f2 (f2 (0 : Int32) ((gf 0) - (1 : Int32))) ((gf 1) - (1 : Int32))), vi 2, us, us, us, us, us, us, us, us, us, us, us, us]) (1 : Int32) (2 : Int32) d7_28 rfl (by decide) rfl (by decide) rfl ?_
  refine o_goto B24 31 6 d7_31 (by decide) (by decide) ?_
  refine o_iload B24 6 8 (v := (2 : Int32)) d7_6 rfl rfl ?_
  refine o_iloadN B24 8 9 (v := (0 : Int32)) d7_8 rfl rfl ?_
  refine o_iload B24 9 11 (v := (4 : Int32)) d7_9 rfl rfl ?_
  refine o_iadd B24 11 12 d7_11 rfl ?_
  refine o_topI (show ((0 : Int32) + (4 : Int32)) = (4 : Int32) by decide) ?_
  refine o_icN B24 12 15 d7_12 rfl (XT.ii_ge_f (by decide)) ?_
  refine o_iload B24 15 17 (v := (f2 (f2 (0 : Int32) ((gf 0) - (1 : Int32))) ((gf 1) - (1 : Int32)))) d7_15 rfl rfl ?_
  refine o_aloadN B24 17 18 (v := (.ref x2)) d7_17 rfl rfl rfl ?_
  refine o_iload B24 18 20 (v := (2 : Int32)) d7_18 rfl rfl ?_
  refine o_iaload B24 20 21 A_x2 2 (gf 2) d7_20 rfl (by decide) (by decide) (by decide) rfl ?_
  refine o_iconst B24 21 22 (1 : Int32) d7_21 rfl (by decide) ?_
  refine o_isub B24 22 23 d7_22 rfl ?_
  obtain ⟨T26, B26, c26⟩ := o_callP B24 23 26 d7_23 rfl (hw _ (mi 38 rfl)) (hw _ (mi 8 rfl)) (hw _ (mi 9 rfl)) (hw _ (mi 10 rfl)) (by decide) (rm2 l Z a0 hw (f2 (f2 (0 : Int32) ((gf 0) - (1 : Int32))) ((gf 1) - (1 : Int32))) ((gf 2) - (1 : Int32)) h0 ) 0 [(.int (f2 (f2 (0 : Int32) ((gf 0) - (1 : Int32))) ((gf 1) - (1 : Int32)))), (.int ((gf 2) - (1 : Int32)))] [] pd__II_I rfl rfl (st := [(.int ((gf 2) - (1 : Int32))), (.int (f2 (f2 (0 : Int32) ((gf 0) - (1 : Int32))) ((gf 1) - (1 : Int32))))]) rfl (Ls := #[vr x0, vr x1, vr x2, vi 0, vi 4, vi x5, vi (f2 (f2 (0 : Int32) ((gf 0) - (1 : Int32))) ((gf 1) - (1 : Int32))), vi 2, us, us, us, us, us, us, us, us, us, us, us, us]) rfl (Nat.le_of_eq rfl) (by decide) (by decide) (by decide) (by decide)
  refine c26 ?_
  refine o_istore B26 26 28 (l' := #[vr x0, vr x1, vr x2, vi 0, vi 4, vi x5, vi (f2 (f2 (f2 (0 : Int32) ((gf 0) - (1 : Int32))) ((gf 1) - (1 : Int32))) ((gf 2) - (1 : Int32))), vi 2, us, us, us, us, us, us, us, us, us, us, us, us]) d7_26 rfl rfl ?_
  refine o_iincC B26 28 31 (l' := #[vr x0, vr x1, vr x2, vi 0, vi 4, vi x5, vi (f2 (f2 (f2 (0 : Int32) ((gf 0) - (1 : Int32))) ((gf 1) - (1 : Int32))) ((gf 2) - (1 : Int32))), vi 3, us, us, us, us, us, us, us, us, us, us, us, us]) (1 : Int32) (3 : Int32) d7_28 rfl (by decide) rfl (by decide) rfl ?_
  refine o_goto B26 31 6 d7_31 (by decide) (by decide) ?_
  refine o_iload B26 6 8 (v := (3 : Int32)) d7_6 rfl rfl ?_
  refine o_iloadN B26 8 9 (v := (0 : Int32)) d7_8 rfl rfl ?_
  refine o_iload B26 9 11 (v := (4 : Int32)) d7_9 rfl rfl ?_
  refine o_iadd B26 11 12 d7_11 rfl ?_
  refine o_topI (show ((0 : Int32) + (4 : Int32)) = (4 : Int32) by decide) ?_
  refine o_icN B26 12 15 d7_12 rfl (XT.ii_ge_f (by decide)) ?_
  refine o_iload B26 15 17 (v := (f2 (f2 (f2 (0 : Int32) ((gf 0) - (1 : Int32))) ((gf 1) - (1 : Int32))) ((gf 2) - (1 : Int32)))) d7_15 rfl rfl ?_
  refine o_aloadN B26 17 18 (v := (.ref x2)) d7_17 rfl rfl rfl ?_
  refine o_iload B26 18 20 (v := (3 : Int32)) d7_18 rfl rfl ?_
  refine o_iaload B26 20 21 A_x2 3 (gf 3) d7_20 rfl (by decide) (by decide) (by decide) rfl ?_
  refine o_iconst B26 21 22 (1 : Int32) d7_21 rfl (by decide) ?_
  refine o_isub B26 22 23 d7_22 rfl ?_
  obtain ⟨T28, B28, c28⟩ := o_callP B26 23 26 d7_23 rfl (hw _ (mi 38 rfl)) (hw _ (mi 8 rfl)) (hw _ (mi 9 rfl)) (hw _ (mi 10 rfl)) (by decide) (rm2 l Z a0 hw (f2 (f2 (f2 (0 : Int32) ((gf 0) - (1 : Int32))) ((gf 1) - (1 : Int32))) ((gf 2) - (1 : Int32))) ((gf 3) - (1 : Int32)) h0 ) 0 [(.int (f2 (f2 (f2 (0 : Int32) ((gf 0) - (1 : Int32))) ((gf 1) - (1 : Int32))) ((gf 2) - (1 : Int32)))), (.int ((gf 3) - (1 : Int32)))] [] pd__II_I rfl rfl (st := [(.int ((gf 3) - (1 : Int32))), (.int (f2 (f2 (f2 (0 : Int32) ((gf 0) - (1 : Int32))) ((gf 1) - (1 : Int32))) ((gf 2) - (1 : Int32))))]) rfl (Ls := #[vr x0, vr x1, vr x2, vi 0, vi 4, vi x5, vi (f2 (f2 (f2 (0 : Int32) ((gf 0) - (1 : Int32))) ((gf 1) - (1 : Int32))) ((gf 2) - (1 : Int32))), vi 3, us, us, us, us, us, us, us, us, us, us, us, us]) rfl (Nat.le_of_eq rfl) (by decide) (by decide) (by decide) (by decide)
  refine c28 ?_
  refine o_istore B28 26 28 (l' := #[vr x0, vr x1, vr x2, vi 0, vi 4, vi x5, vi (f2 (f2 (f2 (f2 (0 : Int32) ((gf 0) - (1 : Int32))) ((gf 1) - (1 : Int32))) ((gf 2) - (1 : Int32))) ((gf 3) - (1 : Int32))), vi 3, us, us, us, us, us, us, us, us, us, us, us, us]) d7_26 rfl rfl ?_
  refine o_iincC B28 28 31 (l' := #[vr x0, vr x1, vr x2, vi 0, vi 4, vi x5, vi (f2 (f2 (f2 (f2 (0 : Int32) ((gf 0) - (1 : Int32))) ((gf 1) - (1 : Int32))) ((gf 2) - (1 : Int32))) ((gf 3) - (1 : Int32))), vi 4, us, us, us, us, us, us, us, us, us, us, us, us]) (1 : Int32) (4 : Int32) d7_28 rfl (by decide) rfl (by decide) rfl ?_
  refine o_goto B28 31 6 d7_31 (by decide) (by decide) ?_
  refine o_iload B28 6 8 (v := (4 : Int32)) d7_6 rfl rfl ?_
  refine o_iloadN B28 8 9 (v := (0 : Int32)) d7_8 rfl rfl ?_
  refine o_iload B28 9 11 (v := (4 : Int32)) d7_9 rfl rfl ?_
  refine o_iadd B28 11 12 d7_11 rfl ?_
  refine o_topI (show ((0 : Int32) + (4 : Int32)) = (4 : Int32) by decide) ?_
  refine o_icY B28 12 34 d7_12 (XT.ii_ge_t (by decide)) (by decide) (by decide) ?_
  obtain ⟨hi, hhi⟩ : ∃ q : Int32, q = (f2 (f2 (f2 (f2 (0 : Int32) ((gf 0) - (1 : Int32))) ((gf 1) - (1 : Int32))) ((gf 2) - (1 : Int32))) ((gf 3) - (1 : Int32))) := ⟨_, rfl⟩
  rw [← hhi]
  have thi : 0 ≤ hi.toInt := by rw [hhi]; exact (own_mx (own_mx (own_mx (own_mx (by decide) hf0.1) hf0.2.1) hf0.2.2.1) hf0.2.2.2)
  refine o_iload B28 34 36 (v := hi) d7_34 rfl rfl ?_
  refine o_i2l B28 36 37 d7_36 rfl ?_
  obtain ⟨T29, B29, c29⟩ := o_callP B28 37 40 d7_37 rfl (hw _ (mi 39 rfl)) (hw _ (mi 40 rfl)) (hw _ (mi 41 rfl)) (hw _ (mi 42 rfl)) (by decide) (rm8 l Z a0 hw hi.toInt64 h0 ) 0 [(.long hi.toInt64)] [] pd__J_I rfl rfl (st := [(.long hi.toInt64)]) rfl (Ls := #[vr x0, vr x1, vr x2, vi 0, vi 4, vi x5, vi hi, vi 4, us, us, us, us, us, us, us, us, us, us, us, us]) rfl (Nat.le_of_eq rfl) (by decide) (by decide) (by decide) (by decide)
  refine c29 ?_
  obtain ⟨wn, wn1, wn2, -⟩ := own_wd hi thi
  obtain ⟨wd, hwd⟩ : ∃ q : Int32, q = (f8 hi.toInt64) := ⟨_, rfl⟩
  rw [← hwd]
  have twd : 0 ≤ wd.toInt ∧ wd.toInt ≤ 31 := by rw [hwd]; exact (by omega)
  refine o_istore B29 40 42 (l' := #[vr x0, vr x1, vr x2, vi 0, vi 4, vi x5, vi hi, vi wd, us, us, us, us, us, us, us, us, us, us, us, us]) d7_40 rfl rfl ?_
  refine o_aloadN B29 42 43 (v := (.ref x0)) d7_42 rfl rfl rfl ?_
  refine o_iload B29 43 45 (v := wd) d7_43 rfl rfl ?_
  refine o_i2l B29 45 46 d7_45 rfl ?_
  refine o_iconst B29 46 47 (5 : Int32) d7_46 rfl (by decide) ?_
  obtain ⟨v30, T30, L30, B30, Q30, c30⟩ := o_callV B29 47 50 d7_47 rfl (hw _ (mi 52 rfl)) (hw _ (mi 24 rfl)) (hw _ (mi 26 rfl)) (hw _ (mi 25 rfl)) (hw _ (mi 13 rfl)) (hw _ (mi 27 rfl)) (by decide) hE (rm5 l Z a0 hw x0 yw g z wd.toInt64 (5 : Int32) h0 n0 hz ge_x0 ge_yw hE G_words G_size A_yw ne_x0_yw (own_hw _ _ _ 5 rfl (by decide) (by omega))) 0 [(.long wd.toInt64), (.int (5 : Int32))] [] pd__JI_V rfl rfl (st := [(.int (5 : Int32)), (.long wd.toInt64), (.ref x0)]) rfl (Ls := #[vr x0, vr x1, vr x2, vi 0, vi 4, vi x5, vi hi, vi wd, us, us, us, us, us, us, us, us, us, us, us, us]) rfl (Nat.le_of_eq rfl) (by decide) (by decide) (by decide) (by decide)
  obtain ⟨rfl, M30, K30, g30, s30, H30_1, H30_2, J30, ⟨t30, P30⟩⟩ := Q30
  have N30 := Fr.app N0 M30
  have zz30 : n0 ≤ T30.heap.size := Nat.le_trans hz K30.1
  have u30 : s30.toInt = z.toInt + 5 := by rw [t30, show (5 : Int32).toInt = 5 by decide]
  refine c30 ?_
  show OG p.tables e below _ (T30.setTop (mkF m 50 #[vr x0, vr x1, vr x2, vi 0, vi 4, vi x5, vi hi, vi wd, us, us, us, us, us, us, us, us, us, us, us, us] []))
  refine o_iload B30 50 52 (v := (4 : Int32)) d7_50 rfl rfl ?_
  refine o_iconst B30 52 53 (1 : Int32) d7_52 rfl (by decide) ?_
  refine o_isub B30 53 54 d7_53 rfl ?_
  refine o_topI (show ((4 : Int32) - (1 : Int32)) = (3 : Int32) by decide) ?_
  refine o_istore B30 54 56 (l' := #[vr x0, vr x1, vr x2, vi 0, vi 4, vi x5, vi hi, vi wd, vi 3, us, us, us, us, us, us, us, us, us, us, us]) d7_54 rfl rfl ?_
  refine o_aloadN B30 56 57 (v := (.ref x1)) d7_56 rfl rfl rfl ?_
  refine o_iloadN B30 57 58 (v := (0 : Int32)) d7_57 rfl rfl ?_
  refine o_iload B30 58 60 (v := (3 : Int32)) d7_58 rfl rfl ?_
  refine o_iadd B30 60 61 d7_60 rfl ?_
  refine o_topI (show ((0 : Int32) + (3 : Int32)) = (3 : Int32) by decide) ?_
  have F32 := (A_x1.keep K30 (ninS (Ne.symm ne_x0_x1) (ninS ne_x1_yw nin0)))
  refine o_iaload B30 61 62 F32 3 (gd 3) d7_61 rfl (by decide) (by decide) (by decide) rfl ?_
  refine o_iload B30 62 64 (v := x5) d7_62 rfl rfl ?_
  refine o_isub B30 64 65 d7_64 rfl ?_
  obtain ⟨sp, hsp⟩ : ∃ q : Int32, q = ((gd 3) - x5) := ⟨_, rfl⟩
  rw [← hsp]
  have tsp : sp.toInt = (gd 3).toInt - x5.toInt := by rw [hsp]; exact (own_sub hd0.1 (by omega))
  refine o_istore B30 65 67 (l' := #[vr x0, vr x1, vr x2, vi 0, vi 4, vi x5, vi hi, vi wd, vi 3, vi sp, us, us, us, us, us, us, us, us, us, us]) d7_65 rfl rfl ?_
  refine o_iload B30 67 69 (v := (3 : Int32)) d7_67 rfl rfl ?_
  refine o_ifN B30 69 72 d7_69 rfl (XT.i0_le_f (by decide)) ?_
  refine o_iload B30 72 74 (v := sp) d7_72 rfl rfl ?_
  refine o_iload B30 74 76 (v := (3 : Int32)) d7_74 rfl rfl ?_
  obtain ⟨T33, B33, c33⟩ := o_callP B30 76 79 d7_76 rfl (hw _ (mi 111 rfl)) (hw _ (mi 112 rfl)) (hw _ (mi 36 rfl)) (hw _ (mi 113 rfl)) (by decide) (rm18 l Z a0 hw sp (3 : Int32) T30.heap ) 0 [(.int sp), (.int (3 : Int32))] [] pd__II_I rfl rfl (st := [(.int (3 : Int32)), (.int sp)]) rfl (Ls := #[vr x0, vr x1, vr x2, vi 0, vi 4, vi x5, vi hi, vi wd, vi 3, vi sp, us, us, us, us, us, us, us, us, us, us]) rfl (Nat.le_of_eq rfl) (by decide) (by decide) (by decide) (by decide)
  refine c33 ?_
  refine o_goto B33 79 83 d7_79 (by decide) (by decide) ?_
  obtain ⟨L, L1, L2, L3⟩ := own_low sp 3 (by decide) (by rw [show (3 : Int32).toInt = 3 by decide]; omega)
  obtain ⟨lo, hlo⟩ : ∃ q : Int32, q = (f18 sp (3 : Int32)) := ⟨_, rfl⟩
  rw [← hlo]
  have tlo : lo.toInt = L := by rw [hlo]; exact L2
  refine o_istore B33 83 85 (l' := #[vr x0, vr x1, vr x2, vi 0, vi 4, vi x5, vi hi, vi wd, vi 3, vi sp, vi lo, us, us, us, us, us, us, us, us, us]) d7_83 rfl rfl ?_
  refine o_ldc2 B33 85 88 d7_85 rfl (hw _ (mi 54 rfl)) ?_
  refine o_iload B33 88 90 (v := lo) d7_88 rfl rfl ?_
  refine o_lshl B33 90 91 d7_90 rfl ?_
  refine o_ldc2 B33 91 94 d7_91 rfl (hw _ (mi 54 rfl)) ?_
  refine o_lxor B33 94 95 d7_94 rfl ?_
  generalize (((-1 : Int64) <<< (lo.toInt64 &&& 63)) ^^^ (-1 : Int64)) = lm
  refine o_lstore B33 95 97 (l' := #[vr x0, vr x1, vr x2, vi 0, vi 4, vi x5, vi hi, vi wd, vi 3, vi sp, vi lo, vj lm, s2, us, us, us, us, us, us, us]) d7_95 rfl rfl ?_
  refine o_iload B33 97 99 (v := lo) d7_97 rfl rfl ?_
  refine o_iload B33 99 101 (v := wd) d7_99 rfl rfl ?_
  refine o_iadd B33 101 102 d7_101 rfl ?_
  obtain ⟨sd, hsd⟩ : ∃ q : Int32, q = (lo + wd) := ⟨_, rfl⟩
  rw [← hsd]
  have tsd : sd.toInt = L + wd.toInt := by rw [hsd]; exact (by rw [own_ad (by omega) (by omega)]; rw [tlo])
  refine o_istore B33 102 104 (l' := #[vr x0, vr x1, vr x2, vi 0, vi 4, vi x5, vi hi, vi wd, vi 3, vi sp, vi lo, vj lm, s2, vi sd, us, us, us, us, us, us]) d7_102 rfl rfl ?_
  refine o_lconst B33 104 105 (0 : Int64) d7_104 rfl (by decide) ?_
  refine o_lstore B33 105 107 (l' := #[vr x0, vr x1, vr x2, vi 0, vi 4, vi x5, vi hi, vi wd, vi 3, vi sp, vi lo, vj lm, s2, vi sd, vj 0, s2, us, us, us, us]) d7_105 rfl rfl ?_
  refine o_iconst B33 107 108 (0 : Int32) d7_107 rfl (by decide) ?_
  refine o_istore B33 108 110 (l' := #[vr x0, vr x1, vr x2, vi 0, vi 4, vi x5, vi hi, vi wd, vi 3, vi sp, vi lo, vj lm, s2, vi sd, vj 0, s2, vi 0, us, us, us]) d7_108 rfl rfl ?_
  refine o_iloadN B33 110 111 (v := (0 : Int32)) d7_110 rfl rfl ?_
  refine o_istore B33 111 113 (l' := #[vr x0, vr x1, vr x2, vi 0, vi 4, vi x5, vi hi, vi wd, vi 3, vi sp, vi lo, vj lm, s2, vi sd, vj 0, s2, vi 0, vi 0, us, us]) d7_111 rfl rfl ?_
  refine o_iload B33 113 115 (v := (0 : Int32)) d7_113 rfl rfl ?_
  refine o_iloadN B33 115 116 (v := (0 : Int32)) d7_115 rfl rfl ?_
  refine o_iload B33 116 118 (v := (3 : Int32)) d7_116 rfl rfl ?_
  refine o_iadd B33 118 119 d7_118 rfl ?_
  refine o_topI (show ((0 : Int32) + (3 : Int32)) = (3 : Int32) by decide) ?_
  refine o_icN B33 119 122 d7_119 rfl (XT.ii_ge_f (by decide)) ?_
  refine o_aloadN B33 122 123 (v := (.ref x1)) d7_122 rfl rfl rfl ?_
  refine o_iload B33 123 125 (v := (0 : Int32)) d7_123 rfl rfl ?_
  refine o_iaload B33 125 126 F32 0 (gd 0) d7_125 rfl (by decide) (by decide) (by decide) rfl ?_
  refine o_iload B33 126 128 (v := x5) d7_126 rfl rfl ?_
  refine o_isub B33 128 129 d7_128 rfl ?_
  refine o_i2l B33 129 130 d7_129 rfl ?_
  refine o_lload B33 130 132 (v := lm) d7_130 rfl rfl ?_
  refine o_land B33 132 133 d7_132 rfl ?_
  refine o_aloadN B33 133 134 (v := (.ref x2)) d7_133 rfl rfl rfl ?_
  refine o_iload B33 134 136 (v := (0 : Int32)) d7_134 rfl rfl ?_
  have F36 := (A_x2.keep K30 (ninS (Ne.symm ne_x0_x2) (ninS ne_x2_yw nin0)))
  refine o_iaload B33 136 137 F36 0 (gf 0) d7_136 rfl (by decide) (by decide) (by decide) rfl ?_
  refine o_iconst B33 137 138 (1 : Int32) d7_137 rfl (by decide) ?_
  refine o_isub B33 138 139 d7_138 rfl ?_
  refine o_i2l B33 139 140 d7_139 rfl ?_
  refine o_iload B33 140 142 (v := lo) d7_140 rfl rfl ?_
  refine o_lshl B33 142 143 d7_142 rfl ?_
  refine o_lor B33 143 144 d7_143 rfl ?_
  generalize ((((gd 0) - x5).toInt64 &&& lm) ||| (((gf 0) - (1 : Int32)).toInt64 <<< (lo.toInt64 &&& 63))) = bt37
  refine o_lstore B33 144 146 (l' := #[vr x0, vr x1, vr x2, vi 0, vi 4, vi x5, vi hi, vi wd, vi 3, vi sp, vi lo, vj lm, s2, vi sd, vj 0, s2, vi 0, vi 0, vj bt37, s2]) d7_144 rfl rfl ?_
  refine o_lload B33 146 148 (v := (0 : Int64)) d7_146 rfl rfl ?_
  refine o_lload B33 148 150 (v := bt37) d7_148 rfl rfl ?_
  refine o_iload B33 150 152 (v := (0 : Int32)) d7_150 rfl rfl ?_
  refine o_lshl B33 152 153 d7_152 rfl ?_
  refine o_lor B33 153 154 d7_153 rfl ?_
  generalize ((0 : Int64) ||| (bt37 <<< ((0 : Int32).toInt64 &&& 63))) = pd38
  refine o_lstore B33 154 156 (l' := #[vr x0, vr x1, vr x2, vi 0, vi 4, vi x5, vi hi, vi wd, vi 3, vi sp, vi lo, vj lm, s2, vi sd, vj pd38, s2, vi 0, vi 0, vj bt37, s2]) d7_154 rfl rfl ?_
  refine o_iload B33 156 158 (v := (0 : Int32)) d7_156 rfl rfl ?_
  refine o_iload B33 158 160 (v := sd) d7_158 rfl rfl ?_
  refine o_iadd B33 160 161 d7_160 rfl ?_
  obtain ⟨pb39, hpb39⟩ : ∃ q : Int32, q = ((0 : Int32) + sd) := ⟨_, rfl⟩
  rw [← hpb39]
  have tpb39 : pb39.toInt = 0 + sd.toInt := by rw [hpb39]; exact (by rw [own_ad (by decide) (by omega)]; rfl)
  refine o_istore B33 161 163 (l' := #[vr x0, vr x1, vr x2, vi 0, vi 4, vi x5, vi hi, vi wd, vi 3, vi sp, vi lo, vj lm, s2, vi sd, vj pd38, s2, vi pb39, vi 0, vj bt37, s2]) d7_161 rfl rfl ?_
  refine o_iload B33 163 165 (v := pb39) d7_163 rfl rfl ?_
  refine o_bipush B33 165 167 (64 : Int32) d7_165 rfl (by decide) ?_
  refine o_icY B33 167 200 d7_167 (XT.ii_lt_t (by rw [Int32.lt_iff_toInt_lt, show (64 : Int32).toInt = 64 by decide]; omega)) (by decide) (by decide) ?_
  refine o_iincC B33 200 203 (l' := #[vr x0, vr x1, vr x2, vi 0, vi 4, vi x5, vi hi, vi wd, vi 3, vi sp, vi lo, vj lm, s2, vi sd, vj pd38, s2, vi pb39, vi 1, vj bt37, s2]) (1 : Int32) (1 : Int32) d7_200 rfl (by decide) rfl (by decide) rfl ?_
  refine o_goto B33 203 113 d7_203 (by decide) (by decide) ?_
  refine o_iload B33 113 115 (v := (1 : Int32)) d7_113 rfl rfl ?_
  refine o_iloadN B33 115 116 (v := (0 : Int32)) d7_115 rfl rfl ?_
  refine o_iload B33 116 118 (v := (3 : Int32)) d7_116 rfl rfl ?_
  refine o_iadd B33 118 119 d7_118 rfl ?_
  refine o_topI (show ((0 : Int32) + (3 : Int32)) = (3 : Int32) by decide) ?_
  refine o_icN B33 119 122 d7_119 rfl (XT.ii_ge_f (by decide)) ?_
  refine o_aloadN B33 122 123 (v := (.ref x1)) d7_122 rfl rfl rfl ?_
  refine o_iload B33 123 125 (v := (1 : Int32)) d7_123 rfl rfl ?_
  refine o_iaload B33 125 126 F32 1 (gd 1) d7_125 rfl (by decide) (by decide) (by decide) rfl ?_
  refine o_iload B33 126 128 (v := x5) d7_126 rfl rfl ?_
  refine o_isub B33 128 129 d7_128 rfl ?_
  refine o_i2l B33 129 130 d7_129 rfl ?_
  refine o_lload B33 130 132 (v := lm) d7_130 rfl rfl ?_
  refine o_land B33 132 133 d7_132 rfl ?_
  refine o_aloadN B33 133 134 (v := (.ref x2)) d7_133 rfl rfl rfl ?_
  refine o_iload B33 134 136 (v := (1 : Int32)) d7_134 rfl rfl ?_
  refine o_iaload B33 136 137 F36 1 (gf 1) d7_136 rfl (by decide) (by decide) (by decide) rfl ?_
  refine o_iconst B33 137 138 (1 : Int32) d7_137 rfl (by decide) ?_
  refine o_isub B33 138 139 d7_138 rfl ?_
  refine o_i2l B33 139 140 d7_139 rfl ?_
  refine o_iload B33 140 142 (v := lo) d7_140 rfl rfl ?_
  refine o_lshl B33 142 143 d7_142 rfl ?_
  refine o_lor B33 143 144 d7_143 rfl ?_
  generalize ((((gd 1) - x5).toInt64 &&& lm) ||| (((gf 1) - (1 : Int32)).toInt64 <<< (lo.toInt64 &&& 63))) = bt42
  refine o_lstore B33 144 146 (l' := #[vr x0, vr x1, vr x2, vi 0, vi 4, vi x5, vi hi, vi wd, vi 3, vi sp, vi lo, vj lm, s2, vi sd, vj pd38, s2, vi pb39, vi 1, vj bt42, s2]) d7_144 rfl rfl ?_
  refine o_lload B33 146 148 (v := pd38) d7_146 rfl rfl ?_
  refine o_lload B33 148 150 (v := bt42) d7_148 rfl rfl ?_
  refine o_iload B33 150 152 (v := pb39) d7_150 rfl rfl ?_
  refine o_lshl B33 152 153 d7_152 rfl ?_
  refine o_lor B33 153 154 d7_153 rfl ?_
  generalize (pd38 ||| (bt42 <<< (pb39.toInt64 &&& 63))) = pd43
  refine o_lstore B33 154 156 (l' := #[vr x0, vr x1, vr x2, vi 0, vi 4, vi x5, vi hi, vi wd, vi 3, vi sp, vi lo, vj lm, s2, vi sd, vj pd43, s2, vi pb39, vi 1, vj bt42, s2]) d7_154 rfl rfl ?_
  refine o_iload B33 156 158 (v := pb39) d7_156 rfl rfl ?_
  refine o_iload B33 158 160 (v := sd) d7_158 rfl rfl ?_
  refine o_iadd B33 160 161 d7_160 rfl ?_
  obtain ⟨pb44, hpb44⟩ : ∃ q : Int32, q = (pb39 + sd) := ⟨_, rfl⟩
  rw [← hpb44]
  have tpb44 : pb44.toInt = pb39.toInt + sd.toInt := by rw [hpb44]; exact (by rw [own_ad (by omega) (by omega)])
  refine o_istore B33 161 163 (l' := #[vr x0, vr x1, vr x2, vi 0, vi 4, vi x5, vi hi, vi wd, vi 3, vi sp, vi lo, vj lm, s2, vi sd, vj pd43, s2, vi pb44, vi 1, vj bt42, s2]) d7_161 rfl rfl ?_
  refine o_iload B33 163 165 (v := pb44) d7_163 rfl rfl ?_
  refine o_bipush B33 165 167 (64 : Int32) d7_165 rfl (by decide) ?_
  by_cases k1 : pb44 < (64 : Int32)
  · refine o_icY B33 167 200 d7_167 (XT.ii_lt_t k1) (by decide) (by decide) ?_
    have kk1 : pb44.toInt < 64 := by rw [Int32.lt_iff_toInt_lt, show (64 : Int32).toInt = 64 by decide] at k1; exact k1
    refine o_iincC B33 200 203 (l' := #[vr x0, vr x1, vr x2, vi 0, vi 4, vi x5, vi hi, vi wd, vi 3, vi sp, vi lo, vj lm, s2, vi sd, vj pd43, s2, vi pb44, vi 2, vj bt42, s2]) (1 : Int32) (2 : Int32) d7_200 rfl (by decide) rfl (by decide) rfl ?_
    refine o_goto B33 203 113 d7_203 (by decide) (by decide) ?_
    refine o_iload B33 113 115 (v := (2 : Int32)) d7_113 rfl rfl ?_
    refine o_iloadN B33 115 116 (v := (0 : Int32)) d7_115 rfl rfl ?_
    refine o_iload B33 116 118 (v := (3 : Int32)) d7_116 rfl rfl ?_
    refine o_iadd B33 118 119 d7_118 rfl ?_
    refine o_topI (show ((0 : Int32) + (3 : Int32)) = (3 : Int32) by decide) ?_
    refine o_icN B33 119 122 d7_119 rfl (XT.ii_ge_f (by decide)) ?_
    refine o_aloadN B33 122 123 (v := (.ref x1)) d7_122 rfl rfl rfl ?_
    refine o_iload B33 123 125 (v := (2 : Int32)) d7_123 rfl rfl ?_
    refine o_iaload B33 125 126 F32 2 (gd 2) d7_125 rfl (by decide) (by decide) (by decide) rfl ?_
    refine o_iload B33 126 128 (v := x5) d7_126 rfl rfl ?_
    refine o_isub B33 128 129 d7_128 rfl ?_
    refine o_i2l B33 129 130 d7_129 rfl ?_
    refine o_lload B33 130 132 (v := lm) d7_130 rfl rfl ?_
    refine o_land B33 132 133 d7_132 rfl ?_
    refine o_aloadN B33 133 134 (v := (.ref x2)) d7_133 rfl rfl rfl ?_
    refine o_iload B33 134 136 (v := (2 : Int32)) d7_134 rfl rfl ?_
    refine o_iaload B33 136 137 F36 2 (gf 2) d7_136 rfl (by decide) (by decide) (by decide) rfl ?_
    refine o_iconst B33 137 138 (1 : Int32) d7_137 rfl (by decide) ?_
    refine o_isub B33 138 139 d7_138 rfl ?_
    refine o_i2l B33 139 140 d7_139 rfl ?_
    refine o_iload B33 140 142 (v := lo) d7_140 rfl rfl ?_
    refine o_lshl B33 142 143 d7_142 rfl ?_
    refine o_lor B33 143 144 d7_143 rfl ?_
    generalize ((((gd 2) - x5).toInt64 &&& lm) ||| (((gf 2) - (1 : Int32)).toInt64 <<< (lo.toInt64 &&& 63))) = bt47
    refine o_lstore B33 144 146 (l' := #[vr x0, vr x1, vr x2, vi 0, vi 4, vi x5, vi hi, vi wd, vi 3, vi sp, vi lo, vj lm, s2, vi sd, vj pd43, s2, vi pb44, vi 2, vj bt47, s2]) d7_144 rfl rfl ?_
    refine o_lload B33 146 148 (v := pd43) d7_146 rfl rfl ?_
    refine o_lload B33 148 150 (v := bt47) d7_148 rfl rfl ?_
    refine o_iload B33 150 152 (v := pb44) d7_150 rfl rfl ?_
    refine o_lshl B33 152 153 d7_152 rfl ?_
    refine o_lor B33 153 154 d7_153 rfl ?_
    generalize (pd43 ||| (bt47 <<< (pb44.toInt64 &&& 63))) = pd48
    refine o_lstore B33 154 156 (l' := #[vr x0, vr x1, vr x2, vi 0, vi 4, vi x5, vi hi, vi wd, vi 3, vi sp, vi lo, vj lm, s2, vi sd, vj pd48, s2, vi pb44, vi 2, vj bt47, s2]) d7_154 rfl rfl ?_
    refine o_iload B33 156 158 (v := pb44) d7_156 rfl rfl ?_
    refine o_iload B33 158 160 (v := sd) d7_158 rfl rfl ?_
    refine o_iadd B33 160 161 d7_160 rfl ?_
    obtain ⟨pb49, hpb49⟩ : ∃ q : Int32, q = (pb44 + sd) := ⟨_, rfl⟩
    rw [← hpb49]
    have tpb49 : pb49.toInt = pb44.toInt + sd.toInt := by rw [hpb49]; exact (by rw [own_ad (by omega) (by omega)])
    refine o_istore B33 161 163 (l' := #[vr x0, vr x1, vr x2, vi 0, vi 4, vi x5, vi hi, vi wd, vi 3, vi sp, vi lo, vj lm, s2, vi sd, vj pd48, s2, vi pb49, vi 2, vj bt47, s2]) d7_161 rfl rfl ?_
    refine o_iload B33 163 165 (v := pb49) d7_163 rfl rfl ?_
    refine o_bipush B33 165 167 (64 : Int32) d7_165 rfl (by decide) ?_
    by_cases k2 : pb49 < (64 : Int32)
    · refine o_icY B33 167 200 d7_167 (XT.ii_lt_t k2) (by decide) (by decide) ?_
      have kk2 : pb49.toInt < 64 := by rw [Int32.lt_iff_toInt_lt, show (64 : Int32).toInt = 64 by decide] at k2; exact k2
      refine o_iincC B33 200 203 (l' := #[vr x0, vr x1, vr x2, vi 0, vi 4, vi x5, vi hi, vi wd, vi 3, vi sp, vi lo, vj lm, s2, vi sd, vj pd48, s2, vi pb49, vi 3, vj bt47, s2]) (1 : Int32) (3 : Int32) d7_200 rfl (by decide) rfl (by decide) rfl ?_
      refine o_goto B33 203 113 d7_203 (by decide) (by decide) ?_
      refine o_iload B33 113 115 (v := (3 : Int32)) d7_113 rfl rfl ?_
      refine o_iloadN B33 115 116 (v := (0 : Int32)) d7_115 rfl rfl ?_
      refine o_iload B33 116 118 (v := (3 : Int32)) d7_116 rfl rfl ?_
      refine o_iadd B33 118 119 d7_118 rfl ?_
      refine o_topI (show ((0 : Int32) + (3 : Int32)) = (3 : Int32) by decide) ?_
      refine o_icY B33 119 206 d7_119 (XT.ii_ge_t (by decide)) (by decide) (by decide) ?_
      refine o_aloadN B33 206 207 (v := (.ref x0)) d7_206 rfl rfl rfl ?_
      refine o_lload B33 207 209 (v := pd48) d7_207 rfl rfl ?_
      refine o_iload B33 209 211 (v := pb49) d7_209 rfl rfl ?_
      have F50 := (hE.keep K30)
      obtain ⟨v51, T51, L51, B51, Q51, c51⟩ := o_callV B33 211 214 d7_211 rfl (hw _ (mi 52 rfl)) (hw _ (mi 24 rfl)) (hw _ (mi 26 rfl)) (hw _ (mi 25 rfl)) (hw _ (mi 13 rfl)) (hw _ (mi 27 rfl)) (by decide) F50 (rm5 l Z a0 hw x0 yw g30 s30 pd48 pb49 T30.heap n0 zz30 ge_x0 ge_yw F50 H30_1 H30_2 J30 ne_x0_yw (own_hw _ _ _ _ rfl rfl (by omega))) 0 [(.long pd48), (.int pb49)] [] pd__JI_V rfl rfl (st := [(.int pb49), (.long pd48), (.ref x0)]) rfl (Ls := #[vr x0, vr x1, vr x2, vi 0, vi 4, vi x5, vi hi, vi wd, vi 3, vi sp, vi lo, vj lm, s2, vi sd, vj pd48, s2, vi pb49, vi 3, vj bt47, s2]) rfl (Nat.le_of_eq rfl) (by decide) (by decide) (by decide) (by decide)
      obtain ⟨rfl, M51, K51, g51, s51, H51_1, H51_2, J51, ⟨t51, P51⟩⟩ := Q51
      have N51 := Fr.app N30 M51
      have zz51 : n0 ≤ T51.heap.size := Nat.le_trans zz30 K51.1
      refine c51 ?_
      show OG p.tables e below _ (T51.setTop (mkF m 214 #[vr x0, vr x1, vr x2, vi 0, vi 4, vi x5, vi hi, vi wd, vi 3, vi sp, vi lo, vj lm, s2, vi sd, vj pd48, s2, vi pb49, vi 3, vj bt47, s2] []))
      refine o_aloadN B51 214 215 (v := (.ref x0)) d7_214 rfl rfl rfl ?_
      refine o_aloadN B51 215 216 (v := (.ref x2)) d7_215 rfl rfl rfl ?_
      refine o_iloadN B51 216 217 (v := (0 : Int32)) d7_216 rfl rfl ?_
      refine o_iload B51 217 219 (v := (3 : Int32)) d7_217 rfl rfl ?_
      refine o_iadd B51 219 220 d7_219 rfl ?_
      refine o_topI (show ((0 : Int32) + (3 : Int32)) = (3 : Int32) by decide) ?_
      have F53 := (F36.keep K51 (ninS (Ne.symm ne_x0_x2) (ninS ne_x2_yw nin0)))
      refine o_iaload B51 220 221 F53 3 (gf 3) d7_220 rfl (by decide) (by decide) (by decide) rfl ?_
      refine o_iconst B51 221 222 (1 : Int32) d7_221 rfl (by decide) ?_
      refine o_isub B51 222 223 d7_222 rfl ?_
      refine o_i2l B51 223 224 d7_223 rfl ?_
      refine o_iload B51 224 226 (v := wd) d7_224 rfl rfl ?_
      have F54 := (F50.keep K51)
      obtain ⟨v55, T55, L55, B55, Q55, c55⟩ := o_callV B51 226 229 d7_226 rfl (hw _ (mi 52 rfl)) (hw _ (mi 24 rfl)) (hw _ (mi 26 rfl)) (hw _ (mi 25 rfl)) (hw _ (mi 13 rfl)) (hw _ (mi 27 rfl)) (by decide) F54 (rm5 l Z a0 hw x0 yw g51 s51 ((gf 3) - (1 : Int32)).toInt64 wd T51.heap n0 zz51 ge_x0 ge_yw F54 H51_1 H51_2 J51 ne_x0_yw (own_hw _ _ _ _ rfl rfl (by omega))) 0 [(.long ((gf 3) - (1 : Int32)).toInt64), (.int wd)] [] pd__JI_V rfl rfl (st := [(.int wd), (.long ((gf 3) - (1 : Int32)).toInt64), (.ref x0)]) rfl (Ls := #[vr x0, vr x1, vr x2, vi 0, vi 4, vi x5, vi hi, vi wd, vi 3, vi sp, vi lo, vj lm, s2, vi sd, vj pd48, s2, vi pb49, vi 3, vj bt47, s2]) rfl (Nat.le_of_eq rfl) (by decide) (by decide) (by decide) (by decide)
      obtain ⟨rfl, M55, K55, g55, s55, H55_1, H55_2, J55, ⟨t55, P55⟩⟩ := Q55
      have N55 := Fr.app N51 M55
      have zz55 : n0 ≤ T55.heap.size := Nat.le_trans zz51 K55.1
      refine c55 ?_
      show OG p.tables e below _ (T55.setTop (mkF m 229 #[vr x0, vr x1, vr x2, vi 0, vi 4, vi x5, vi hi, vi wd, vi 3, vi sp, vi lo, vj lm, s2, vi sd, vj pd48, s2, vi pb49, vi 3, vj bt47, s2] []))
      refine o_iload B55 229 231 (v := (3 : Int32)) d7_229 rfl rfl ?_
      refine o_ifY B55 231 235 d7_231 (XT.i0_ne_t (by decide)) (by decide) (by decide) ?_
      refine o_aloadN B55 235 236 (v := (.ref x0)) d7_235 rfl rfl rfl ?_
      have F56 := (F54.keep K55)
      obtain ⟨T57, B57, c57⟩ := o_callVP B55 236 239 d7_236 rfl (hw _ (mi 114 rfl)) (hw _ (mi 56 rfl)) (hw _ (mi 58 rfl)) (hw _ (mi 57 rfl)) (hw _ (mi 13 rfl)) (hw _ (mi 59 rfl)) (by decide) F56 (rm11 l Z a0 hw x0 s55 T55.heap H55_2) 0 [] [] pd___J rfl rfl (st := [(.ref x0)]) rfl (Ls := #[vr x0, vr x1, vr x2, vi 0, vi 4, vi x5, vi hi, vi wd, vi 3, vi sp, vi lo, vj lm, s2, vi sd, vj pd48, s2, vi pb49, vi 3, vj bt47, s2]) rfl (Nat.le_of_eq rfl) (by decide) (by decide) (by decide) (by decide)
      refine c57 ?_
      refine o_topJ (show (f11 s55) = s55 from rfl) ?_
      refine o_lstore B57 239 241 (l' := #[vr x0, vr x1, vr x2, vi 0, vi 4, vi x5, vi hi, vi wd, vi 3, vi sp, vi lo, vj lm, s2, vi sd, vj pd48, s2, vi pb49, vj s55, s2, us]) d7_239 rfl rfl ?_
      refine o_aloadN B57 241 242 (v := (.ref x0)) d7_241 rfl rfl rfl ?_
      refine o_iload B57 242 244 (v := (3 : Int32)) d7_242 rfl rfl ?_
      refine o_i2l B57 244 245 d7_244 rfl ?_
      refine o_topJ (show (3 : Int32).toInt64 = (3 : Int64) by decide) ?_
      refine o_iload B57 245 247 (v := sp) d7_245 rfl rfl ?_
      refine o_i2l B57 247 248 d7_247 rfl ?_
      refine o_lconst B57 248 249 (1 : Int64) d7_248 rfl (by decide) ?_
      refine o_lsub B57 249 250 d7_249 rfl ?_
      refine o_iload B57 250 252 (v := lo) d7_250 rfl rfl ?_
      refine o_lushr B57 252 253 d7_252 rfl ?_
      refine o_ladd B57 253 254 d7_253 rfl ?_
      refine o_lconst B57 254 255 (1 : Int64) d7_254 rfl (by decide) ?_
      refine o_ladd B57 255 256 d7_255 rfl ?_
      have eU := own_uL (sp.toInt64 - 1) lo L tlo (by omega) (by rw [own_s1 (by omega)]; omega)
      rw [own_s1 (by omega)] at eU
      have eV : 0 ≤ (sp.toInt - 1) / (2 ^ L : Nat) := Int.ediv_nonneg (by omega) (Int.natCast_nonneg _)
      obtain ⟨sk, hsk⟩ : ∃ q : Int64, q = (((3 : Int64) + (XT.ushrL (sp.toInt64 - (1 : Int64)) lo)) + (1 : Int64)) := ⟨_, rfl⟩
      rw [← hsk]
      have tsk : sk.toInt = 3 + (XT.ushrL (sp.toInt64 - 1) lo).toInt + 1 := by rw [hsk]; exact (own_sk3 (by omega))
      obtain ⟨v58, T58, L58, B58, Q58, c58⟩ := o_callV B57 256 259 d7_256 rfl (hw _ (mi 115 rfl)) (hw _ (mi 116 rfl)) (hw _ (mi 118 rfl)) (hw _ (mi 117 rfl)) (hw _ (mi 13 rfl)) (hw _ (mi 119 rfl)) (by decide) F56 (rm19 l Z a0 hw x0 yw g55 s55 sk T55.heap n0 zz55 ge_x0 ge_yw F56 H55_1 H55_2 J55 ne_x0_yw (by omega)) 0 [(.long sk)] [] pd__J_V rfl rfl (st := [(.long sk), (.ref x0)]) rfl (Ls := #[vr x0, vr x1, vr x2, vi 0, vi 4, vi x5, vi hi, vi wd, vi 3, vi sp, vi lo, vj lm, s2, vi sd, vj pd48, s2, vi pb49, vj s55, s2, us]) rfl (Nat.le_of_eq rfl) (by decide) (by decide) (by decide) (by decide)
      obtain ⟨rfl, M58, K58, g58, s58, H58_1, H58_2, J58, rg58, t58⟩ := Q58
      have N58 := Fr.app N55 M58
      have zz58 : n0 ≤ T58.heap.size := Nat.le_trans zz55 K58.1
      refine c58 ?_
      show OG p.tables e below _ (T58.setTop (mkF m 259 #[vr x0, vr x1, vr x2, vi 0, vi 4, vi x5, vi hi, vi wd, vi 3, vi sp, vi lo, vj lm, s2, vi sd, vj pd48, s2, vi pb49, vj s55, s2, us] []))
      refine o_iconst B58 259 260 (0 : Int32) d7_259 rfl (by decide) ?_
      refine o_istore B58 260 262 (l' := #[vr x0, vr x1, vr x2, vi 0, vi 4, vi x5, vi hi, vi wd, vi 3, vi sp, vi lo, vj lm, s2, vi sd, vj pd48, s2, vi pb49, vj s55, s2, vi 0]) d7_260 rfl rfl ?_
      refine o_iload B58 262 264 (v := (0 : Int32)) d7_262 rfl rfl ?_
      refine o_iload B58 264 266 (v := (3 : Int32)) d7_264 rfl rfl ?_
      refine o_icN B58 266 269 d7_266 rfl (XT.ii_ge_f (by decide)) ?_
      refine o_aloadN B58 269 270 (v := (.ref x0)) d7_269 rfl rfl rfl ?_
      refine o_lload B58 270 272 (v := s55) d7_270 rfl rfl ?_
      refine o_aloadN B58 272 273 (v := (.ref x1)) d7_272 rfl rfl rfl ?_
      refine o_iloadN B58 273 274 (v := (0 : Int32)) d7_273 rfl rfl ?_
      refine o_iload B58 274 276 (v := (0 : Int32)) d7_274 rfl rfl ?_
      refine o_iadd B58 276 277 d7_276 rfl ?_
      refine o_topI (show ((0 : Int32) + (0 : Int32)) = (0 : Int32) by decide) ?_
      have F60 := (((F32.keep K51 (ninS (Ne.symm ne_x0_x1) (ninS ne_x1_yw nin0))).keep K55 (ninS (Ne.symm ne_x0_x1) (ninS ne_x1_yw nin0))).keep K58 (ninS (Ne.symm ne_x0_x1) (ninS ne_x1_yw nin0)))
      refine o_iaload B58 277 278 F60 0 (gd 0) d7_277 rfl (by decide) (by decide) (by decide) rfl ?_
      refine o_iload B58 278 280 (v := x5) d7_278 rfl rfl ?_
      refine o_isub B58 280 281 d7_280 rfl ?_
      refine o_iload B58 281 283 (v := lo) d7_281 rfl rfl ?_
      refine o_iushr B58 283 284 d7_283 rfl ?_
      refine o_i2l B58 284 285 d7_284 rfl ?_
      refine o_ladd B58 285 286 d7_285 rfl ?_
      refine o_iload B58 286 288 (v := (0 : Int32)) d7_286 rfl rfl ?_
      refine o_i2l B58 288 289 d7_288 rfl ?_
      refine o_topJ (show (0 : Int32).toInt64 = (0 : Int64) by decide) ?_
      refine o_ladd B58 289 290 d7_289 rfl ?_
      have eS61 := own_us0 (gd 0 - x5) lo L tlo L1 (by rw [own_sub hd0.1 (by omega)]; omega)
      rw [own_sub hd0.1 (by omega)] at eS61
      have eD61 : ((gd 0).toInt - x5.toInt) / (2 ^ L : Nat) ≤ (sp.toInt - 1) / (2 ^ L : Nat) := Int.ediv_le_ediv (Int.natCast_pos.mpr (Nat.two_pow_pos L)) (by omega)
      have eN61 : 0 ≤ ((gd 0).toInt - x5.toInt) / (2 ^ L : Nat) := Int.ediv_nonneg (by omega) (Int.natCast_nonneg _)
      obtain ⟨ps61, hps61⟩ : ∃ q : Int64, q = ((s55 + (XT.ushr ((gd 0) - x5) lo).toInt64) + (0 : Int64)) := ⟨_, rfl⟩
      rw [← hps61]
      have tps61 : ps61.toInt = s55.toInt + ((gd 0).toInt - x5.toInt) / (2 ^ L : Nat) + 0 := by rw [hps61]; exact (own_ps (by omega) (by rw [eS61]; omega) (by rw [eS61]) (by decide))
      have F62 := (F56.keep K58)
      obtain ⟨v63, T63, L63, B63, Q63, c63⟩ := o_callV B58 290 293 d7_290 rfl (hw _ (mi 120 rfl)) (hw _ (mi 121 rfl)) (hw _ (mi 123 rfl)) (hw _ (mi 122 rfl)) (hw _ (mi 13 rfl)) (hw _ (mi 124 rfl)) (by decide) F62 (rm20 l Z a0 hw x0 yw g58 s58 ps61 T58.heap n0 zz58 ge_x0 ge_yw F62 H58_1 H58_2 J58 ne_x0_yw (by omega)) 0 [(.long ps61)] [] pd__J_V rfl rfl (st := [(.long ps61), (.ref x0)]) rfl (Ls := #[vr x0, vr x1, vr x2, vi 0, vi 4, vi x5, vi hi, vi wd, vi 3, vi sp, vi lo, vj lm, s2, vi sd, vj pd48, s2, vi pb49, vj s55, s2, vi 0]) rfl (Nat.le_of_eq rfl) (by decide) (by decide) (by decide) (by decide)
      obtain ⟨rfl, M63, K63, g63, s63, H63_1, H63_2, J63, rz63, P63⟩ := Q63
      have N63 := Fr.app N58 M63
      have zz63 : n0 ≤ T63.heap.size := Nat.le_trans zz58 K63.1
      have u63 : s63.toInt = s58.toInt := by rw [rz63]
      refine c63 ?_
      show OG p.tables e below _ (T63.setTop (mkF m 293 #[vr x0, vr x1, vr x2, vi 0, vi 4, vi x5, vi hi, vi wd, vi 3, vi sp, vi lo, vj lm, s2, vi sd, vj pd48, s2, vi pb49, vj s55, s2, vi 0] []))
      refine o_iincC B63 293 296 (l' := #[vr x0, vr x1, vr x2, vi 0, vi 4, vi x5, vi hi, vi wd, vi 3, vi sp, vi lo, vj lm, s2, vi sd, vj pd48, s2, vi pb49, vj s55, s2, vi 1]) (1 : Int32) (1 : Int32) d7_293 rfl (by decide) rfl (by decide) rfl ?_
      refine o_goto B63 296 262 d7_296 (by decide) (by decide) ?_
      refine o_iload B63 262 264 (v := (1 : Int32)) d7_262 rfl rfl ?_
      refine o_iload B63 264 266 (v := (3 : Int32)) d7_264 rfl rfl ?_
      refine o_icN B63 266 269 d7_266 rfl (XT.ii_ge_f (by decide)) ?_
      refine o_aloadN B63 269 270 (v := (.ref x0)) d7_269 rfl rfl rfl ?_
      refine o_lload B63 270 272 (v := s55) d7_270 rfl rfl ?_
      refine o_aloadN B63 272 273 (v := (.ref x1)) d7_272 rfl rfl rfl ?_
      refine o_iloadN B63 273 274 (v := (0 : Int32)) d7_273 rfl rfl ?_
      refine o_iload B63 274 276 (v := (1 : Int32)) d7_274 rfl rfl ?_
      refine o_iadd B63 276 277 d7_276 rfl ?_
      refine o_topI (show ((0 : Int32) + (1 : Int32)) = (1 : Int32) by decide) ?_
      have F65 := (F60.keep K63 (ninS (Ne.symm ne_x0_x1) (ninS ne_x1_yw nin0)))
      refine o_iaload B63 277 278 F65 1 (gd 1) d7_277 rfl (by decide) (by decide) (by decide) rfl ?_
      refine o_iload B63 278 280 (v := x5) d7_278 rfl rfl ?_
      refine o_isub B63 280 281 d7_280 rfl ?_
      refine o_iload B63 281 283 (v := lo) d7_281 rfl rfl ?_
      refine o_iushr B63 283 284 d7_283 rfl ?_
      refine o_i2l B63 284 285 d7_284 rfl ?_
      refine o_ladd B63 285 286 d7_285 rfl ?_
      refine o_iload B63 286 288 (v := (1 : Int32)) d7_286 rfl rfl ?_
      refine o_i2l B63 288 289 d7_288 rfl ?_
      refine o_topJ (show (1 : Int32).toInt64 = (1 : Int64) by decide) ?_
      refine o_ladd B63 289 290 d7_289 rfl ?_
      have eS66 := own_us0 (gd 1 - x5) lo L tlo L1 (by rw [own_sub hd0.1 (by omega)]; omega)
      rw [own_sub hd0.1 (by omega)] at eS66
      have eD66 : ((gd 1).toInt - x5.toInt) / (2 ^ L : Nat) ≤ (sp.toInt - 1) / (2 ^ L : Nat) := Int.ediv_le_ediv (Int.natCast_pos.mpr (Nat.two_pow_pos L)) (by omega)
      have eN66 : 0 ≤ ((gd 1).toInt - x5.toInt) / (2 ^ L : Nat) := Int.ediv_nonneg (by omega) (Int.natCast_nonneg _)
      obtain ⟨ps66, hps66⟩ : ∃ q : Int64, q = ((s55 + (XT.ushr ((gd 1) - x5) lo).toInt64) + (1 : Int64)) := ⟨_, rfl⟩
      rw [← hps66]
      have tps66 : ps66.toInt = s55.toInt + ((gd 1).toInt - x5.toInt) / (2 ^ L : Nat) + 1 := by rw [hps66]; exact (own_ps (by omega) (by rw [eS66]; omega) (by rw [eS66]) (by decide))
      have F67 := (F62.keep K63)
      obtain ⟨v68, T68, L68, B68, Q68, c68⟩ := o_callV B63 290 293 d7_290 rfl (hw _ (mi 120 rfl)) (hw _ (mi 121 rfl)) (hw _ (mi 123 rfl)) (hw _ (mi 122 rfl)) (hw _ (mi 13 rfl)) (hw _ (mi 124 rfl)) (by decide) F67 (rm20 l Z a0 hw x0 yw g63 s63 ps66 T63.heap n0 zz63 ge_x0 ge_yw F67 H63_1 H63_2 J63 ne_x0_yw (by omega)) 0 [(.long ps66)] [] pd__J_V rfl rfl (st := [(.long ps66), (.ref x0)]) rfl (Ls := #[vr x0, vr x1, vr x2, vi 0, vi 4, vi x5, vi hi, vi wd, vi 3, vi sp, vi lo, vj lm, s2, vi sd, vj pd48, s2, vi pb49, vj s55, s2, vi 1]) rfl (Nat.le_of_eq rfl) (by decide) (by decide) (by decide) (by decide)
      obtain ⟨rfl, M68, K68, g68, s68, H68_1, H68_2, J68, rz68, P68⟩ := Q68
      have N68 := Fr.app N63 M68
      have zz68 : n0 ≤ T68.heap.size := Nat.le_trans zz63 K68.1
      have u68 : s68.toInt = s63.toInt := by rw [rz68]
      refine c68 ?_
      show OG p.tables e below _ (T68.setTop (mkF m 293 #[vr x0, vr x1, vr x2, vi 0, vi 4, vi x5, vi hi, vi wd, vi 3, vi sp, vi lo, vj lm, s2, vi sd, vj pd48, s2, vi pb49, vj s55, s2, vi 1] []))
      refine o_iincC B68 293 296 (l' := #[vr x0, vr x1, vr x2, vi 0, vi 4, vi x5, vi hi, vi wd, vi 3, vi sp, vi lo, vj lm, s2, vi sd, vj pd48, s2, vi pb49, vj s55, s2, vi 2]) (1 : Int32) (2 : Int32) d7_293 rfl (by decide) rfl (by decide) rfl ?_
      refine o_goto B68 296 262 d7_296 (by decide) (by decide) ?_
      refine o_iload B68 262 264 (v := (2 : Int32)) d7_262 rfl rfl ?_
      refine o_iload B68 264 266 (v := (3 : Int32)) d7_264 rfl rfl ?_
      refine o_icN B68 266 269 d7_266 rfl (XT.ii_ge_f (by decide)) ?_
      refine o_aloadN B68 269 270 (v := (.ref x0)) d7_269 rfl rfl rfl ?_
      refine o_lload B68 270 272 (v := s55) d7_270 rfl rfl ?_
      refine o_aloadN B68 272 273 (v := (.ref x1)) d7_272 rfl rfl rfl ?_
      refine o_iloadN B68 273 274 (v := (0 : Int32)) d7_273 rfl rfl ?_
      refine o_iload B68 274 276 (v := (2 : Int32)) d7_274 rfl rfl ?_
      refine o_iadd B68 276 277 d7_276 rfl ?_
      refine o_topI (show ((0 : Int32) + (2 : Int32)) = (2 : Int32) by decide) ?_
      have F70 := (F65.keep K68 (ninS (Ne.symm ne_x0_x1) (ninS ne_x1_yw nin0)))
      refine o_iaload B68 277 278 F70 2 (gd 2) d7_277 rfl (by decide) (by decide) (by decide) rfl ?_
      refine o_iload B68 278 280 (v := x5) d7_278 rfl rfl ?_
      refine o_isub B68 280 281 d7_280 rfl ?_
      refine o_iload B68 281 283 (v := lo) d7_281 rfl rfl ?_
      refine o_iushr B68 283 284 d7_283 rfl ?_
      refine o_i2l B68 284 285 d7_284 rfl ?_
      refine o_ladd B68 285 286 d7_285 rfl ?_
      refine o_iload B68 286 288 (v := (2 : Int32)) d7_286 rfl rfl ?_
      refine o_i2l B68 288 289 d7_288 rfl ?_
      refine o_topJ (show (2 : Int32).toInt64 = (2 : Int64) by decide) ?_
      refine o_ladd B68 289 290 d7_289 rfl ?_
      have eS71 := own_us0 (gd 2 - x5) lo L tlo L1 (by rw [own_sub hd0.1 (by omega)]; omega)
      rw [own_sub hd0.1 (by omega)] at eS71
      have eD71 : ((gd 2).toInt - x5.toInt) / (2 ^ L : Nat) ≤ (sp.toInt - 1) / (2 ^ L : Nat) := Int.ediv_le_ediv (Int.natCast_pos.mpr (Nat.two_pow_pos L)) (by omega)
      have eN71 : 0 ≤ ((gd 2).toInt - x5.toInt) / (2 ^ L : Nat) := Int.ediv_nonneg (by omega) (Int.natCast_nonneg _)
      obtain ⟨ps71, hps71⟩ : ∃ q : Int64, q = ((s55 + (XT.ushr ((gd 2) - x5) lo).toInt64) + (2 : Int64)) := ⟨_, rfl⟩
      rw [← hps71]
      have tps71 : ps71.toInt = s55.toInt + ((gd 2).toInt - x5.toInt) / (2 ^ L : Nat) + 2 := by rw [hps71]; exact (own_ps (by omega) (by rw [eS71]; omega) (by rw [eS71]) (by decide))
      have F72 := (F67.keep K68)
      obtain ⟨v73, T73, L73, B73, Q73, c73⟩ := o_callV B68 290 293 d7_290 rfl (hw _ (mi 120 rfl)) (hw _ (mi 121 rfl)) (hw _ (mi 123 rfl)) (hw _ (mi 122 rfl)) (hw _ (mi 13 rfl)) (hw _ (mi 124 rfl)) (by decide) F72 (rm20 l Z a0 hw x0 yw g68 s68 ps71 T68.heap n0 zz68 ge_x0 ge_yw F72 H68_1 H68_2 J68 ne_x0_yw (by omega)) 0 [(.long ps71)] [] pd__J_V rfl rfl (st := [(.long ps71), (.ref x0)]) rfl (Ls := #[vr x0, vr x1, vr x2, vi 0, vi 4, vi x5, vi hi, vi wd, vi 3, vi sp, vi lo, vj lm, s2, vi sd, vj pd48, s2, vi pb49, vj s55, s2, vi 2]) rfl (Nat.le_of_eq rfl) (by decide) (by decide) (by decide) (by decide)
      obtain ⟨rfl, M73, K73, g73, s73, H73_1, H73_2, J73, rz73, P73⟩ := Q73
      have N73 := Fr.app N68 M73
      have zz73 : n0 ≤ T73.heap.size := Nat.le_trans zz68 K73.1
      have u73 : s73.toInt = s68.toInt := by rw [rz73]
      refine c73 ?_
      show OG p.tables e below _ (T73.setTop (mkF m 293 #[vr x0, vr x1, vr x2, vi 0, vi 4, vi x5, vi hi, vi wd, vi 3, vi sp, vi lo, vj lm, s2, vi sd, vj pd48, s2, vi pb49, vj s55, s2, vi 2] []))
      refine o_iincC B73 293 296 (l' := #[vr x0, vr x1, vr x2, vi 0, vi 4, vi x5, vi hi, vi wd, vi 3, vi sp, vi lo, vj lm, s2, vi sd, vj pd48, s2, vi pb49, vj s55, s2, vi 3]) (1 : Int32) (3 : Int32) d7_293 rfl (by decide) rfl (by decide) rfl ?_
      refine o_goto B73 296 262 d7_296 (by decide) (by decide) ?_
      refine o_iload B73 262 264 (v := (3 : Int32)) d7_262 rfl rfl ?_
      refine o_iload B73 264 266 (v := (3 : Int32)) d7_264 rfl rfl ?_
      refine o_icY B73 266 299 d7_266 (XT.ii_ge_t (by decide)) (by decide) (by decide) ?_
      have eW : own_W4 gf = wd := by rw [hwd, hhi]; rfl
      have eL : f18 (gd 3 - x5) 3 = lo := by rw [hlo, hsp]
      have eT : s73.toInt = z.toInt + own_tot4 gd gf x5 := by unfold own_tot4; rw [eW, eL, tlo, ← hsp]; omega
      have eB : ∀ i, i < 5 → bitAt g73 (z.toInt.toNat + i) = (bitAt g (z.toInt.toNat + i) || (own_W4 gf).toInt64.toBitVec.getLsbD i) := by intro i hi5; rw [P73 _ (by omega), P68 _ (by omega), P63 _ (by omega), rg58, own_wol P55 _ (by omega), own_wol P51 _ (by omega), eW]; exact own_wof P30 i hi5
      have KT74 := ((((((((Keep.refl h0 [x0, yw]).trans K30 (allS (Or.inl (mi 0 rfl)) (allS (Or.inl (mi 1 rfl)) all0))).trans K51 (allS (Or.inl (mi 0 rfl)) (allS (Or.inl (mi 1 rfl)) all0))).trans K55 (allS (Or.inl (mi 0 rfl)) (allS (Or.inl (mi 1 rfl)) all0))).trans K58 (allS (Or.inl (mi 0 rfl)) (allS (Or.inl (mi 1 rfl)) all0))).trans K63 (allS (Or.inl (mi 0 rfl)) (allS (Or.inl (mi 1 rfl)) all0))).trans K68 (allS (Or.inl (mi 0 rfl)) (allS (Or.inl (mi 1 rfl)) all0))).trans K73 (allS (Or.inl (mi 0 rfl)) (allS (Or.inl (mi 1 rfl)) all0)))
      exact o_retV B73 299 d7_299 hret hlk (by decide) (by decide) ⟨rfl, N73, KT74, g73, s73, H73_1, H73_2, J73, eT, eB⟩
    · refine o_icN B33 167 170 d7_167 rfl (XT.ii_lt_f k2) ?_
      have kk2 : ¬ pb49.toInt < 64 := by rw [Int32.lt_iff_toInt_lt, show (64 : Int32).toInt = 64 by decide] at k2; exact k2
      refine o_aloadN B33 170 171 (v := (.ref x0)) d7_170 rfl rfl rfl ?_
      refine o_lload B33 171 173 (v := pd48) d7_171 rfl rfl ?_
      refine o_bipush B33 173 175 (64 : Int32) d7_173 rfl (by decide) ?_
      have F75 := (hE.keep K30)
      obtain ⟨v76, T76, L76, B76, Q76, c76⟩ := o_callV B33 175 178 d7_175 rfl (hw _ (mi 52 rfl)) (hw _ (mi 24 rfl)) (hw _ (mi 26 rfl)) (hw _ (mi 25 rfl)) (hw _ (mi 13 rfl)) (hw _ (mi 27 rfl)) (by decide) F75 (rm5 l Z a0 hw x0 yw g30 s30 pd48 (64 : Int32) T30.heap n0 zz30 ge_x0 ge_yw F75 H30_1 H30_2 J30 ne_x0_yw (own_hw _ _ _ 64 rfl (by decide) (by omega))) 0 [(.long pd48), (.int (64 : Int32))] [] pd__JI_V rfl rfl (st := [(.int (64 : Int32)), (.long pd48), (.ref x0)]) rfl (Ls := #[vr x0, vr x1, vr x2, vi 0, vi 4, vi x5, vi hi, vi wd, vi 3, vi sp, vi lo, vj lm, s2, vi sd, vj pd48, s2, vi pb49, vi 2, vj bt47, s2]) rfl (Nat.le_of_eq rfl) (by decide) (by decide) (by decide) (by decide)
      obtain ⟨rfl, M76, K76, g76, s76, H76_1, H76_2, J76, ⟨t76, P76⟩⟩ := Q76
      have N76 := Fr.app N30 M76
      have zz76 : n0 ≤ T76.heap.size := Nat.le_trans zz30 K76.1
      have u76 : s76.toInt = s30.toInt + 64 := by rw [t76, show (64 : Int32).toInt = 64 by decide]
      refine c76 ?_
      show OG p.tables e below _ (T76.setTop (mkF m 178 #[vr x0, vr x1, vr x2, vi 0, vi 4, vi x5, vi hi, vi wd, vi 3, vi sp, vi lo, vj lm, s2, vi sd, vj pd48, s2, vi pb49, vi 2, vj bt47, s2] []))
      refine o_iinc B76 178 181 (l' := #[vr x0, vr x1, vr x2, vi 0, vi 4, vi x5, vi hi, vi wd, vi 3, vi sp, vi lo, vj lm, s2, vi sd, vj pd48, s2, vi (pb49 + (-64 : Int32)), vi 2, vj bt47, s2]) (-64 : Int32) d7_178 rfl (by decide) rfl rfl ?_
      obtain ⟨pb77, hpb77⟩ : ∃ q : Int32, q = (pb49 + (-64 : Int32)) := ⟨_, rfl⟩
      rw [← hpb77]
      have tpb77 : pb77.toInt = pb49.toInt - 64 := by rw [hpb77]; exact (own_m64 (by omega))
      refine o_iload B76 181 183 (v := pb77) d7_181 rfl rfl ?_
      have dm3 : ∀ {P : Outcome → State → Prop}, (∀ (m80 : Int64), OG p.tables e below P (T76.setTop (mkF m 198 #[vr x0, vr x1, vr x2, vi 0, vi 4, vi x5, vi hi, vi wd, vi 3, vi sp, vi lo, vj lm, s2, vi sd, vj pd48, s2, vi pb77, vi 2, vj bt47, s2] [(.long m80)]))) → OG p.tables e below P (T76.setTop (mkF m 183 #[vr x0, vr x1, vr x2, vi 0, vi 4, vi x5, vi hi, vi wd, vi 3, vi sp, vi lo, vj lm, s2, vi sd, vj pd48, s2, vi pb77, vi 2, vj bt47, s2] [(.int pb77)])) := by
        intro P k
        by_cases k4 : pb77 = 0
        · refine o_ifN B76 183 186 d7_183 rfl (XT.i0_ne_f k4) ?_
          refine o_lconst B76 186 187 (0 : Int64) d7_186 rfl (by decide) ?_
          refine o_goto B76 187 198 d7_187 (by decide) (by decide) ?_
          exact k _
        · refine o_ifY B76 183 190 d7_183 (XT.i0_ne_t k4) (by decide) (by decide) ?_
          refine o_lload B76 190 192 (v := bt47) d7_190 rfl rfl ?_
          refine o_iload B76 192 194 (v := sd) d7_192 rfl rfl ?_
          refine o_iload B76 194 196 (v := pb77) d7_194 rfl rfl ?_
          refine o_isub B76 196 197 d7_196 rfl ?_
          refine o_lushr B76 197 198 d7_197 rfl ?_
          exact k _
      refine dm3 (fun m80 => ?_)
      refine o_lstore B76 198 200 (l' := #[vr x0, vr x1, vr x2, vi 0, vi 4, vi x5, vi hi, vi wd, vi 3, vi sp, vi lo, vj lm, s2, vi sd, vj m80, s2, vi pb77, vi 2, vj bt47, s2]) d7_198 rfl rfl ?_
      refine o_iincC B76 200 203 (l' := #[vr x0, vr x1, vr x2, vi 0, vi 4, vi x5, vi hi, vi wd, vi 3, vi sp, vi lo, vj lm, s2, vi sd, vj m80, s2, vi pb77, vi 3, vj bt47, s2]) (1 : Int32) (3 : Int32) d7_200 rfl (by decide) rfl (by decide) rfl ?_
      refine o_goto B76 203 113 d7_203 (by decide) (by decide) ?_
      refine o_iload B76 113 115 (v := (3 : Int32)) d7_113 rfl rfl ?_
      refine o_iloadN B76 115 116 (v := (0 : Int32)) d7_115 rfl rfl ?_
      refine o_iload B76 116 118 (v := (3 : Int32)) d7_116 rfl rfl ?_
      refine o_iadd B76 118 119 d7_118 rfl ?_
      refine o_topI (show ((0 : Int32) + (3 : Int32)) = (3 : Int32) by decide) ?_
      refine o_icY B76 119 206 d7_119 (XT.ii_ge_t (by decide)) (by decide) (by decide) ?_
      refine o_aloadN B76 206 207 (v := (.ref x0)) d7_206 rfl rfl rfl ?_
      refine o_lload B76 207 209 (v := m80) d7_207 rfl rfl ?_
      refine o_iload B76 209 211 (v := pb77) d7_209 rfl rfl ?_
      have F81 := (F75.keep K76)
      obtain ⟨v82, T82, L82, B82, Q82, c82⟩ := o_callV B76 211 214 d7_211 rfl (hw _ (mi 52 rfl)) (hw _ (mi 24 rfl)) (hw _ (mi 26 rfl)) (hw _ (mi 25 rfl)) (hw _ (mi 13 rfl)) (hw _ (mi 27 rfl)) (by decide) F81 (rm5 l Z a0 hw x0 yw g76 s76 m80 pb77 T76.heap n0 zz76 ge_x0 ge_yw F81 H76_1 H76_2 J76 ne_x0_yw (own_hw _ _ _ _ rfl rfl (by omega))) 0 [(.long m80), (.int pb77)] [] pd__JI_V rfl rfl (st := [(.int pb77), (.long m80), (.ref x0)]) rfl (Ls := #[vr x0, vr x1, vr x2, vi 0, vi 4, vi x5, vi hi, vi wd, vi 3, vi sp, vi lo, vj lm, s2, vi sd, vj m80, s2, vi pb77, vi 3, vj bt47, s2]) rfl (Nat.le_of_eq rfl) (by decide) (by decide) (by decide) (by decide)
      obtain ⟨rfl, M82, K82, g82, s82, H82_1, H82_2, J82, ⟨t82, P82⟩⟩ := Q82
      have N82 := Fr.app N76 M82
      have zz82 : n0 ≤ T82.heap.size := Nat.le_trans zz76 K82.1
      refine c82 ?_
      show OG p.tables e below _ (T82.setTop (mkF m 214 #[vr x0, vr x1, vr x2, vi 0, vi 4, vi x5, vi hi, vi wd, vi 3, vi sp, vi lo, vj lm, s2, vi sd, vj m80, s2, vi pb77, vi 3, vj bt47, s2] []))
      refine o_aloadN B82 214 215 (v := (.ref x0)) d7_214 rfl rfl rfl ?_
      refine o_aloadN B82 215 216 (v := (.ref x2)) d7_215 rfl rfl rfl ?_
      refine o_iloadN B82 216 217 (v := (0 : Int32)) d7_216 rfl rfl ?_
      refine o_iload B82 217 219 (v := (3 : Int32)) d7_217 rfl rfl ?_
      refine o_iadd B82 219 220 d7_219 rfl ?_
      refine o_topI (show ((0 : Int32) + (3 : Int32)) = (3 : Int32) by decide) ?_
      have F84 := ((F36.keep K76 (ninS (Ne.symm ne_x0_x2) (ninS ne_x2_yw nin0))).keep K82 (ninS (Ne.symm ne_x0_x2) (ninS ne_x2_yw nin0)))
      refine o_iaload B82 220 221 F84 3 (gf 3) d7_220 rfl (by decide) (by decide) (by decide) rfl ?_
      refine o_iconst B82 221 222 (1 : Int32) d7_221 rfl (by decide) ?_
      refine o_isub B82 222 223 d7_222 rfl ?_
      refine o_i2l B82 223 224 d7_223 rfl ?_
      refine o_iload B82 224 226 (v := wd) d7_224 rfl rfl ?_
      have F85 := (F81.keep K82)
      obtain ⟨v86, T86, L86, B86, Q86, c86⟩ := o_callV B82 226 229 d7_226 rfl (hw _ (mi 52 rfl)) (hw _ (mi 24 rfl)) (hw _ (mi 26 rfl)) (hw _ (mi 25 rfl)) (hw _ (mi 13 rfl)) (hw _ (mi 27 rfl)) (by decide) F85 (rm5 l Z a0 hw x0 yw g82 s82 ((gf 3) - (1 : Int32)).toInt64 wd T82.heap n0 zz82 ge_x0 ge_yw F85 H82_1 H82_2 J82 ne_x0_yw (own_hw _ _ _ _ rfl rfl (by omega))) 0 [(.long ((gf 3) - (1 : Int32)).toInt64), (.int wd)] [] pd__JI_V rfl rfl (st := [(.int wd), (.long ((gf 3) - (1 : Int32)).toInt64), (.ref x0)]) rfl (Ls := #[vr x0, vr x1, vr x2, vi 0, vi 4, vi x5, vi hi, vi wd, vi 3, vi sp, vi lo, vj lm, s2, vi sd, vj m80, s2, vi pb77, vi 3, vj bt47, s2]) rfl (Nat.le_of_eq rfl) (by decide) (by decide) (by decide) (by decide)
      obtain ⟨rfl, M86, K86, g86, s86, H86_1, H86_2, J86, ⟨t86, P86⟩⟩ := Q86
      have N86 := Fr.app N82 M86
      have zz86 : n0 ≤ T86.heap.size := Nat.le_trans zz82 K86.1
      refine c86 ?_
      show OG p.tables e below _ (T86.setTop (mkF m 229 #[vr x0, vr x1, vr x2, vi 0, vi 4, vi x5, vi hi, vi wd, vi 3, vi sp, vi lo, vj lm, s2, vi sd, vj m80, s2, vi pb77, vi 3, vj bt47, s2] []))
      refine o_iload B86 229 231 (v := (3 : Int32)) d7_229 rfl rfl ?_
      refine o_ifY B86 231 235 d7_231 (XT.i0_ne_t (by decide)) (by decide) (by decide) ?_
      refine o_aloadN B86 235 236 (v := (.ref x0)) d7_235 rfl rfl rfl ?_
      have F87 := (F85.keep K86)
      obtain ⟨T88, B88, c88⟩ := o_callVP B86 236 239 d7_236 rfl (hw _ (mi 114 rfl)) (hw _ (mi 56 rfl)) (hw _ (mi 58 rfl)) (hw _ (mi 57 rfl)) (hw _ (mi 13 rfl)) (hw _ (mi 59 rfl)) (by decide) F87 (rm11 l Z a0 hw x0 s86 T86.heap H86_2) 0 [] [] pd___J rfl rfl (st := [(.ref x0)]) rfl (Ls := #[vr x0, vr x1, vr x2, vi 0, vi 4, vi x5, vi hi, vi wd, vi 3, vi sp, vi lo, vj lm, s2, vi sd, vj m80, s2, vi pb77, vi 3, vj bt47, s2]) rfl (Nat.le_of_eq rfl) (by decide) (by decide) (by decide) (by decide)
      refine c88 ?_
      refine o_topJ (show (f11 s86) = s86 from rfl) ?_
      refine o_lstore B88 239 241 (l' := #[vr x0, vr x1, vr x2, vi 0, vi 4, vi x5, vi hi, vi wd, vi 3, vi sp, vi lo, vj lm, s2, vi sd, vj m80, s2, vi pb77, vj s86, s2, us]) d7_239 rfl rfl ?_
      refine o_aloadN B88 241 242 (v := (.ref x0)) d7_241 rfl rfl rfl ?_
      refine o_iload B88 242 244 (v := (3 : Int32)) d7_242 rfl rfl ?_
      refine o_i2l B88 244 245 d7_244 rfl ?_
      refine o_topJ (show (3 : Int32).toInt64 = (3 : Int64) by decide) ?_
      refine o_iload B88 245 247 (v := sp) d7_245 rfl rfl ?_
      refine o_i2l B88 247 248 d7_247 rfl ?_
      refine o_lconst B88 248 249 (1 : Int64) d7_248 rfl (by decide) ?_
      refine o_lsub B88 249 250 d7_249 rfl ?_
      refine o_iload B88 250 252 (v := lo) d7_250 rfl rfl ?_
      refine o_lushr B88 252 253 d7_252 rfl ?_
      refine o_ladd B88 253 254 d7_253 rfl ?_
      refine o_lconst B88 254 255 (1 : Int64) d7_254 rfl (by decide) ?_
      refine o_ladd B88 255 256 d7_255 rfl ?_
      have eU := own_uL (sp.toInt64 - 1) lo L tlo (by omega) (by rw [own_s1 (by omega)]; omega)
      rw [own_s1 (by omega)] at eU
      have eV : 0 ≤ (sp.toInt - 1) / (2 ^ L : Nat) := Int.ediv_nonneg (by omega) (Int.natCast_nonneg _)
      obtain ⟨sk, hsk⟩ : ∃ q : Int64, q = (((3 : Int64) + (XT.ushrL (sp.toInt64 - (1 : Int64)) lo)) + (1 : Int64)) := ⟨_, rfl⟩
      rw [← hsk]
      have tsk : sk.toInt = 3 + (XT.ushrL (sp.toInt64 - 1) lo).toInt + 1 := by rw [hsk]; exact (own_sk3 (by omega))
      obtain ⟨v89, T89, L89, B89, Q89, c89⟩ := o_callV B88 256 259 d7_256 rfl (hw _ (mi 115 rfl)) (hw _ (mi 116 rfl)) (hw _ (mi 118 rfl)) (hw _ (mi 117 rfl)) (hw _ (mi 13 rfl)) (hw _ (mi 119 rfl)) (by decide) F87 (rm19 l Z a0 hw x0 yw g86 s86 sk T86.heap n0 zz86 ge_x0 ge_yw F87 H86_1 H86_2 J86 ne_x0_yw (by omega)) 0 [(.long sk)] [] pd__J_V rfl rfl (st := [(.long sk), (.ref x0)]) rfl (Ls := #[vr x0, vr x1, vr x2, vi 0, vi 4, vi x5, vi hi, vi wd, vi 3, vi sp, vi lo, vj lm, s2, vi sd, vj m80, s2, vi pb77, vj s86, s2, us]) rfl (Nat.le_of_eq rfl) (by decide) (by decide) (by decide) (by decide)
      obtain ⟨rfl, M89, K89, g89, s89, H89_1, H89_2, J89, rg89, t89⟩ := Q89
      have N89 := Fr.app N86 M89
      have zz89 : n0 ≤ T89.heap.size := Nat.le_trans zz86 K89.1
      refine c89 ?_
      show OG p.tables e below _ (T89.setTop (mkF m 259 #[vr x0, vr x1, vr x2, vi 0, vi 4, vi x5, vi hi, vi wd, vi 3, vi sp, vi lo, vj lm, s2, vi sd, vj m80, s2, vi pb77, vj s86, s2, us] []))
      refine o_iconst B89 259 260 (0 : Int32) d7_259 rfl (by decide) ?_
      refine o_istore B89 260 262 (l' := #[vr x0, vr x1, vr x2, vi 0, vi 4, vi x5, vi hi, vi wd, vi 3, vi sp, vi lo, vj lm, s2, vi sd, vj m80, s2, vi pb77, vj s86, s2, vi 0]) d7_260 rfl rfl ?_
      refine o_iload B89 262 264 (v := (0 : Int32)) d7_262 rfl rfl ?_
      refine o_iload B89 264 266 (v := (3 : Int32)) d7_264 rfl rfl ?_
      refine o_icN B89 266 269 d7_266 rfl (XT.ii_ge_f (by decide)) ?_
      refine o_aloadN B89 269 270 (v := (.ref x0)) d7_269 rfl rfl rfl ?_
      refine o_lload B89 270 272 (v := s86) d7_270 rfl rfl ?_
      refine o_aloadN B89 272 273 (v := (.ref x1)) d7_272 rfl rfl rfl ?_
      refine o_iloadN B89 273 274 (v := (0 : Int32)) d7_273 rfl rfl ?_
      refine o_iload B89 274 276 (v := (0 : Int32)) d7_274 rfl rfl ?_
      refine o_iadd B89 276 277 d7_276 rfl ?_
      refine o_topI (show ((0 : Int32) + (0 : Int32)) = (0 : Int32) by decide) ?_
      have F91 := ((((F32.keep K76 (ninS (Ne.symm ne_x0_x1) (ninS ne_x1_yw nin0))).keep K82 (ninS (Ne.symm ne_x0_x1) (ninS ne_x1_yw nin0))).keep K86 (ninS (Ne.symm ne_x0_x1) (ninS ne_x1_yw nin0))).keep K89 (ninS (Ne.symm ne_x0_x1) (ninS ne_x1_yw nin0)))
      refine o_iaload B89 277 278 F91 0 (gd 0) d7_277 rfl (by decide) (by decide) (by decide) rfl ?_
      refine o_iload B89 278 280 (v := x5) d7_278 rfl rfl ?_
      refine o_isub B89 280 281 d7_280 rfl ?_
      refine o_iload B89 281 283 (v := lo) d7_281 rfl rfl ?_
      refine o_iushr B89 283 284 d7_283 rfl ?_
      refine o_i2l B89 284 285 d7_284 rfl ?_
      refine o_ladd B89 285 286 d7_285 rfl ?_
      refine o_iload B89 286 288 (v := (0 : Int32)) d7_286 rfl rfl ?_
      refine o_i2l B89 288 289 d7_288 rfl ?_
      refine o_topJ (show (0 : Int32).toInt64 = (0 : Int64) by decide) ?_
      refine o_ladd B89 289 290 d7_289 rfl ?_
      have eS92 := own_us0 (gd 0 - x5) lo L tlo L1 (by rw [own_sub hd0.1 (by omega)]; omega)
      rw [own_sub hd0.1 (by omega)] at eS92
      have eD92 : ((gd 0).toInt - x5.toInt) / (2 ^ L : Nat) ≤ (sp.toInt - 1) / (2 ^ L : Nat) := Int.ediv_le_ediv (Int.natCast_pos.mpr (Nat.two_pow_pos L)) (by omega)
      have eN92 : 0 ≤ ((gd 0).toInt - x5.toInt) / (2 ^ L : Nat) := Int.ediv_nonneg (by omega) (Int.natCast_nonneg _)
      obtain ⟨ps92, hps92⟩ : ∃ q : Int64, q = ((s86 + (XT.ushr ((gd 0) - x5) lo).toInt64) + (0 : Int64)) := ⟨_, rfl⟩
      rw [← hps92]
      have tps92 : ps92.toInt = s86.toInt + ((gd 0).toInt - x5.toInt) / (2 ^ L : Nat) + 0 := by rw [hps92]; exact (own_ps (by omega) (by rw [eS92]; omega) (by rw [eS92]) (by decide))
      have F93 := (F87.keep K89)
      obtain ⟨v94, T94, L94, B94, Q94, c94⟩ := o_callV B89 290 293 d7_290 rfl (hw _ (mi 120 rfl)) (hw _ (mi 121 rfl)) (hw _ (mi 123 rfl)) (hw _ (mi 122 rfl)) (hw _ (mi 13 rfl)) (hw _ (mi 124 rfl)) (by decide) F93 (rm20 l Z a0 hw x0 yw g89 s89 ps92 T89.heap n0 zz89 ge_x0 ge_yw F93 H89_1 H89_2 J89 ne_x0_yw (by omega)) 0 [(.long ps92)] [] pd__J_V rfl rfl (st := [(.long ps92), (.ref x0)]) rfl (Ls := #[vr x0, vr x1, vr x2, vi 0, vi 4, vi x5, vi hi, vi wd, vi 3, vi sp, vi lo, vj lm, s2, vi sd, vj m80, s2, vi pb77, vj s86, s2, vi 0]) rfl (Nat.le_of_eq rfl) (by decide) (by decide) (by decide) (by decide)
      obtain ⟨rfl, M94, K94, g94, s94, H94_1, H94_2, J94, rz94, P94⟩ := Q94
      have N94 := Fr.app N89 M94
      have zz94 : n0 ≤ T94.heap.size := Nat.le_trans zz89 K94.1
      have u94 : s94.toInt = s89.toInt := by rw [rz94]
      refine c94 ?_
      show OG p.tables e below _ (T94.setTop (mkF m 293 #[vr x0, vr x1, vr x2, vi 0, vi 4, vi x5, vi hi, vi wd, vi 3, vi sp, vi lo, vj lm, s2, vi sd, vj m80, s2, vi pb77, vj s86, s2, vi 0] []))
      refine o_iincC B94 293 296 (l' := #[vr x0, vr x1, vr x2, vi 0, vi 4, vi x5, vi hi, vi wd, vi 3, vi sp, vi lo, vj lm, s2, vi sd, vj m80, s2, vi pb77, vj s86, s2, vi 1]) (1 : Int32) (1 : Int32) d7_293 rfl (by decide) rfl (by decide) rfl ?_
      refine o_goto B94 296 262 d7_296 (by decide) (by decide) ?_
      refine o_iload B94 262 264 (v := (1 : Int32)) d7_262 rfl rfl ?_
      refine o_iload B94 264 266 (v := (3 : Int32)) d7_264 rfl rfl ?_
      refine o_icN B94 266 269 d7_266 rfl (XT.ii_ge_f (by decide)) ?_
      refine o_aloadN B94 269 270 (v := (.ref x0)) d7_269 rfl rfl rfl ?_
      refine o_lload B94 270 272 (v := s86) d7_270 rfl rfl ?_
      refine o_aloadN B94 272 273 (v := (.ref x1)) d7_272 rfl rfl rfl ?_
      refine o_iloadN B94 273 274 (v := (0 : Int32)) d7_273 rfl rfl ?_
      refine o_iload B94 274 276 (v := (1 : Int32)) d7_274 rfl rfl ?_
      refine o_iadd B94 276 277 d7_276 rfl ?_
      refine o_topI (show ((0 : Int32) + (1 : Int32)) = (1 : Int32) by decide) ?_
      have F96 := (F91.keep K94 (ninS (Ne.symm ne_x0_x1) (ninS ne_x1_yw nin0)))
      refine o_iaload B94 277 278 F96 1 (gd 1) d7_277 rfl (by decide) (by decide) (by decide) rfl ?_
      refine o_iload B94 278 280 (v := x5) d7_278 rfl rfl ?_
      refine o_isub B94 280 281 d7_280 rfl ?_
      refine o_iload B94 281 283 (v := lo) d7_281 rfl rfl ?_
      refine o_iushr B94 283 284 d7_283 rfl ?_
      refine o_i2l B94 284 285 d7_284 rfl ?_
      refine o_ladd B94 285 286 d7_285 rfl ?_
      refine o_iload B94 286 288 (v := (1 : Int32)) d7_286 rfl rfl ?_
      refine o_i2l B94 288 289 d7_288 rfl ?_
      refine o_topJ (show (1 : Int32).toInt64 = (1 : Int64) by decide) ?_
      refine o_ladd B94 289 290 d7_289 rfl ?_
      have eS97 := own_us0 (gd 1 - x5) lo L tlo L1 (by rw [own_sub hd0.1 (by omega)]; omega)
      rw [own_sub hd0.1 (by omega)] at eS97
      have eD97 : ((gd 1).toInt - x5.toInt) / (2 ^ L : Nat) ≤ (sp.toInt - 1) / (2 ^ L : Nat) := Int.ediv_le_ediv (Int.natCast_pos.mpr (Nat.two_pow_pos L)) (by omega)
      have eN97 : 0 ≤ ((gd 1).toInt - x5.toInt) / (2 ^ L : Nat) := Int.ediv_nonneg (by omega) (Int.natCast_nonneg _)
      obtain ⟨ps97, hps97⟩ : ∃ q : Int64, q = ((s86 + (XT.ushr ((gd 1) - x5) lo).toInt64) + (1 : Int64)) := ⟨_, rfl⟩
      rw [← hps97]
      have tps97 : ps97.toInt = s86.toInt + ((gd 1).toInt - x5.toInt) / (2 ^ L : Nat) + 1 := by rw [hps97]; exact (own_ps (by omega) (by rw [eS97]; omega) (by rw [eS97]) (by decide))
      have F98 := (F93.keep K94)
      obtain ⟨v99, T99, L99, B99, Q99, c99⟩ := o_callV B94 290 293 d7_290 rfl (hw _ (mi 120 rfl)) (hw _ (mi 121 rfl)) (hw _ (mi 123 rfl)) (hw _ (mi 122 rfl)) (hw _ (mi 13 rfl)) (hw _ (mi 124 rfl)) (by decide) F98 (rm20 l Z a0 hw x0 yw g94 s94 ps97 T94.heap n0 zz94 ge_x0 ge_yw F98 H94_1 H94_2 J94 ne_x0_yw (by omega)) 0 [(.long ps97)] [] pd__J_V rfl rfl (st := [(.long ps97), (.ref x0)]) rfl (Ls := #[vr x0, vr x1, vr x2, vi 0, vi 4, vi x5, vi hi, vi wd, vi 3, vi sp, vi lo, vj lm, s2, vi sd, vj m80, s2, vi pb77, vj s86, s2, vi 1]) rfl (Nat.le_of_eq rfl) (by decide) (by decide) (by decide) (by decide)
      obtain ⟨rfl, M99, K99, g99, s99, H99_1, H99_2, J99, rz99, P99⟩ := Q99
      have N99 := Fr.app N94 M99
      have zz99 : n0 ≤ T99.heap.size := Nat.le_trans zz94 K99.1
      have u99 : s99.toInt = s94.toInt := by rw [rz99]
      refine c99 ?_
      show OG p.tables e below _ (T99.setTop (mkF m 293 #[vr x0, vr x1, vr x2, vi 0, vi 4, vi x5, vi hi, vi wd, vi 3, vi sp, vi lo, vj lm, s2, vi sd, vj m80, s2, vi pb77, vj s86, s2, vi 1] []))
      refine o_iincC B99 293 296 (l' := #[vr x0, vr x1, vr x2, vi 0, vi 4, vi x5, vi hi, vi wd, vi 3, vi sp, vi lo, vj lm, s2, vi sd, vj m80, s2, vi pb77, vj s86, s2, vi 2]) (1 : Int32) (2 : Int32) d7_293 rfl (by decide) rfl (by decide) rfl ?_
      refine o_goto B99 296 262 d7_296 (by decide) (by decide) ?_
      refine o_iload B99 262 264 (v := (2 : Int32)) d7_262 rfl rfl ?_
      refine o_iload B99 264 266 (v := (3 : Int32)) d7_264 rfl rfl ?_
      refine o_icN B99 266 269 d7_266 rfl (XT.ii_ge_f (by decide)) ?_
      refine o_aloadN B99 269 270 (v := (.ref x0)) d7_269 rfl rfl rfl ?_
      refine o_lload B99 270 272 (v := s86) d7_270 rfl rfl ?_
      refine o_aloadN B99 272 273 (v := (.ref x1)) d7_272 rfl rfl rfl ?_
      refine o_iloadN B99 273 274 (v := (0 : Int32)) d7_273 rfl rfl ?_
      refine o_iload B99 274 276 (v := (2 : Int32)) d7_274 rfl rfl ?_
      refine o_iadd B99 276 277 d7_276 rfl ?_
      refine o_topI (show ((0 : Int32) + (2 : Int32)) = (2 : Int32) by decide) ?_
      have F101 := (F96.keep K99 (ninS (Ne.symm ne_x0_x1) (ninS ne_x1_yw nin0)))
      refine o_iaload B99 277 278 F101 2 (gd 2) d7_277 rfl (by decide) (by decide) (by decide) rfl ?_
      refine o_iload B99 278 280 (v := x5) d7_278 rfl rfl ?_
      refine o_isub B99 280 281 d7_280 rfl ?_
      refine o_iload B99 281 283 (v := lo) d7_281 rfl rfl ?_
      refine o_iushr B99 283 284 d7_283 rfl ?_
      refine o_i2l B99 284 285 d7_284 rfl ?_
      refine o_ladd B99 285 286 d7_285 rfl ?_
      refine o_iload B99 286 288 (v := (2 : Int32)) d7_286 rfl rfl ?_
      refine o_i2l B99 288 289 d7_288 rfl ?_
      refine o_topJ (show (2 : Int32).toInt64 = (2 : Int64) by decide) ?_
      refine o_ladd B99 289 290 d7_289 rfl ?_
      have eS102 := own_us0 (gd 2 - x5) lo L tlo L1 (by rw [own_sub hd0.1 (by omega)]; omega)
      rw [own_sub hd0.1 (by omega)] at eS102
      have eD102 : ((gd 2).toInt - x5.toInt) / (2 ^ L : Nat) ≤ (sp.toInt - 1) / (2 ^ L : Nat) := Int.ediv_le_ediv (Int.natCast_pos.mpr (Nat.two_pow_pos L)) (by omega)
      have eN102 : 0 ≤ ((gd 2).toInt - x5.toInt) / (2 ^ L : Nat) := Int.ediv_nonneg (by omega) (Int.natCast_nonneg _)
      obtain ⟨ps102, hps102⟩ : ∃ q : Int64, q = ((s86 + (XT.ushr ((gd 2) - x5) lo).toInt64) + (2 : Int64)) := ⟨_, rfl⟩
      rw [← hps102]
      have tps102 : ps102.toInt = s86.toInt + ((gd 2).toInt - x5.toInt) / (2 ^ L : Nat) + 2 := by rw [hps102]; exact (own_ps (by omega) (by rw [eS102]; omega) (by rw [eS102]) (by decide))
      have F103 := (F98.keep K99)
      obtain ⟨v104, T104, L104, B104, Q104, c104⟩ := o_callV B99 290 293 d7_290 rfl (hw _ (mi 120 rfl)) (hw _ (mi 121 rfl)) (hw _ (mi 123 rfl)) (hw _ (mi 122 rfl)) (hw _ (mi 13 rfl)) (hw _ (mi 124 rfl)) (by decide) F103 (rm20 l Z a0 hw x0 yw g99 s99 ps102 T99.heap n0 zz99 ge_x0 ge_yw F103 H99_1 H99_2 J99 ne_x0_yw (by omega)) 0 [(.long ps102)] [] pd__J_V rfl rfl (st := [(.long ps102), (.ref x0)]) rfl (Ls := #[vr x0, vr x1, vr x2, vi 0, vi 4, vi x5, vi hi, vi wd, vi 3, vi sp, vi lo, vj lm, s2, vi sd, vj m80, s2, vi pb77, vj s86, s2, vi 2]) rfl (Nat.le_of_eq rfl) (by decide) (by decide) (by decide) (by decide)
      obtain ⟨rfl, M104, K104, g104, s104, H104_1, H104_2, J104, rz104, P104⟩ := Q104
      have N104 := Fr.app N99 M104
      have zz104 : n0 ≤ T104.heap.size := Nat.le_trans zz99 K104.1
      have u104 : s104.toInt = s99.toInt := by rw [rz104]
      refine c104 ?_
      show OG p.tables e below _ (T104.setTop (mkF m 293 #[vr x0, vr x1, vr x2, vi 0, vi 4, vi x5, vi hi, vi wd, vi 3, vi sp, vi lo, vj lm, s2, vi sd, vj m80, s2, vi pb77, vj s86, s2, vi 2] []))
      refine o_iincC B104 293 296 (l' := #[vr x0, vr x1, vr x2, vi 0, vi 4, vi x5, vi hi, vi wd, vi 3, vi sp, vi lo, vj lm, s2, vi sd, vj m80, s2, vi pb77, vj s86, s2, vi 3]) (1 : Int32) (3 : Int32) d7_293 rfl (by decide) rfl (by decide) rfl ?_
      refine o_goto B104 296 262 d7_296 (by decide) (by decide) ?_
      refine o_iload B104 262 264 (v := (3 : Int32)) d7_262 rfl rfl ?_
      refine o_iload B104 264 266 (v := (3 : Int32)) d7_264 rfl rfl ?_
      refine o_icY B104 266 299 d7_266 (XT.ii_ge_t (by decide)) (by decide) (by decide) ?_
      have eW : own_W4 gf = wd := by rw [hwd, hhi]; rfl
      have eL : f18 (gd 3 - x5) 3 = lo := by rw [hlo, hsp]
      have eT : s104.toInt = z.toInt + own_tot4 gd gf x5 := by unfold own_tot4; rw [eW, eL, tlo, ← hsp]; omega
      have eB : ∀ i, i < 5 → bitAt g104 (z.toInt.toNat + i) = (bitAt g (z.toInt.toNat + i) || (own_W4 gf).toInt64.toBitVec.getLsbD i) := by intro i hi5; rw [P104 _ (by omega), P99 _ (by omega), P94 _ (by omega), rg89, own_wol P86 _ (by omega), own_wol P82 _ (by omega), own_wol P76 _ (by omega), eW]; exact own_wof P30 i hi5
      have KT105 := (((((((((Keep.refl h0 [x0, yw]).trans K30 (allS (Or.inl (mi 0 rfl)) (allS (Or.inl (mi 1 rfl)) all0))).trans K76 (allS (Or.inl (mi 0 rfl)) (allS (Or.inl (mi 1 rfl)) all0))).trans K82 (allS (Or.inl (mi 0 rfl)) (allS (Or.inl (mi 1 rfl)) all0))).trans K86 (allS (Or.inl (mi 0 rfl)) (allS (Or.inl (mi 1 rfl)) all0))).trans K89 (allS (Or.inl (mi 0 rfl)) (allS (Or.inl (mi 1 rfl)) all0))).trans K94 (allS (Or.inl (mi 0 rfl)) (allS (Or.inl (mi 1 rfl)) all0))).trans K99 (allS (Or.inl (mi 0 rfl)) (allS (Or.inl (mi 1 rfl)) all0))).trans K104 (allS (Or.inl (mi 0 rfl)) (allS (Or.inl (mi 1 rfl)) all0)))
      exact o_retV B104 299 d7_299 hret hlk (by decide) (by decide) ⟨rfl, N104, KT105, g104, s104, H104_1, H104_2, J104, eT, eB⟩
  · refine o_icN B33 167 170 d7_167 rfl (XT.ii_lt_f k1) ?_
    have kk1 : ¬ pb44.toInt < 64 := by rw [Int32.lt_iff_toInt_lt, show (64 : Int32).toInt = 64 by decide] at k1; exact k1
    refine o_aloadN B33 170 171 (v := (.ref x0)) d7_170 rfl rfl rfl ?_
    refine o_lload B33 171 173 (v := pd43) d7_171 rfl rfl ?_
    refine o_bipush B33 173 175 (64 : Int32) d7_173 rfl (by decide) ?_
    have F106 := (hE.keep K30)
    obtain ⟨v107, T107, L107, B107, Q107, c107⟩ := o_callV B33 175 178 d7_175 rfl (hw _ (mi 52 rfl)) (hw _ (mi 24 rfl)) (hw _ (mi 26 rfl)) (hw _ (mi 25 rfl)) (hw _ (mi 13 rfl)) (hw _ (mi 27 rfl)) (by decide) F106 (rm5 l Z a0 hw x0 yw g30 s30 pd43 (64 : Int32) T30.heap n0 zz30 ge_x0 ge_yw F106 H30_1 H30_2 J30 ne_x0_yw (own_hw _ _ _ 64 rfl (by decide) (by omega))) 0 [(.long pd43), (.int (64 : Int32))] [] pd__JI_V rfl rfl (st := [(.int (64 : Int32)), (.long pd43), (.ref x0)]) rfl (Ls := #[vr x0, vr x1, vr x2, vi 0, vi 4, vi x5, vi hi, vi wd, vi 3, vi sp, vi lo, vj lm, s2, vi sd, vj pd43, s2, vi pb44, vi 1, vj bt42, s2]) rfl (Nat.le_of_eq rfl) (by decide) (by decide) (by decide) (by decide)
    obtain ⟨rfl, M107, K107, g107, s107, H107_1, H107_2, J107, ⟨t107, P107⟩⟩ := Q107
    have N107 := Fr.app N30 M107
    have zz107 : n0 ≤ T107.heap.size := Nat.le_trans zz30 K107.1
    have u107 : s107.toInt = s30.toInt + 64 := by rw [t107, show (64 : Int32).toInt = 64 by decide]
    refine c107 ?_
    show OG p.tables e below _ (T107.setTop (mkF m 178 #[vr x0, vr x1, vr x2, vi 0, vi 4, vi x5, vi hi, vi wd, vi 3, vi sp, vi lo, vj lm, s2, vi sd, vj pd43, s2, vi pb44, vi 1, vj bt42, s2] []))
    refine o_iinc B107 178 181 (l' := #[vr x0, vr x1, vr x2, vi 0, vi 4, vi x5, vi hi, vi wd, vi 3, vi sp, vi lo, vj lm, s2, vi sd, vj pd43, s2, vi (pb44 + (-64 : Int32)), vi 1, vj bt42, s2]) (-64 : Int32) d7_178 rfl (by decide) rfl rfl ?_
    obtain ⟨pb108, hpb108⟩ : ∃ q : Int32, q = (pb44 + (-64 : Int32)) := ⟨_, rfl⟩
    rw [← hpb108]
    have tpb108 : pb108.toInt = pb44.toInt - 64 := by rw [hpb108]; exact (own_m64 (by omega))
    refine o_iload B107 181 183 (v := pb108) d7_181 rfl rfl ?_
    have dm5 : ∀ {P : Outcome → State → Prop}, (∀ (m111 : Int64), OG p.tables e below P (T107.setTop (mkF m 198 #[vr x0, vr x1, vr x2, vi 0, vi 4, vi x5, vi hi, vi wd, vi 3, vi sp, vi lo, vj lm, s2, vi sd, vj pd43, s2, vi pb108, vi 1, vj bt42, s2] [(.long m111)]))) → OG p.tables e below P (T107.setTop (mkF m 183 #[vr x0, vr x1, vr x2, vi 0, vi 4, vi x5, vi hi, vi wd, vi 3, vi sp, vi lo, vj lm, s2, vi sd, vj pd43, s2, vi pb108, vi 1, vj bt42, s2] [(.int pb108)])) := by
      intro P k
      by_cases k6 : pb108 = 0
      · refine o_ifN B107 183 186 d7_183 rfl (XT.i0_ne_f k6) ?_
        refine o_lconst B107 186 187 (0 : Int64) d7_186 rfl (by decide) ?_
        refine o_goto B107 187 198 d7_187 (by decide) (by decide) ?_
        exact k _
      · refine o_ifY B107 183 190 d7_183 (XT.i0_ne_t k6) (by decide) (by decide) ?_
        refine o_lload B107 190 192 (v := bt42) d7_190 rfl rfl ?_
        refine o_iload B107 192 194 (v := sd) d7_192 rfl rfl ?_
        refine o_iload B107 194 196 (v := pb108) d7_194 rfl rfl ?_
        refine o_isub B107 196 197 d7_196 rfl ?_
        refine o_lushr B107 197 198 d7_197 rfl ?_
        exact k _
    refine dm5 (fun m111 => ?_)
    refine o_lstore B107 198 200 (l' := #[vr x0, vr x1, vr x2, vi 0, vi 4, vi x5, vi hi, vi wd, vi 3, vi sp, vi lo, vj lm, s2, vi sd, vj m111, s2, vi pb108, vi 1, vj bt42, s2]) d7_198 rfl rfl ?_
    refine o_iincC B107 200 203 (l' := #[vr x0, vr x1, vr x2, vi 0, vi 4, vi x5, vi hi, vi wd, vi 3, vi sp, vi lo, vj lm, s2, vi sd, vj m111, s2, vi pb108, vi 2, vj bt42, s2]) (1 : Int32) (2 : Int32) d7_200 rfl (by decide) rfl (by decide) rfl ?_
    refine o_goto B107 203 113 d7_203 (by decide) (by decide) ?_
    refine o_iload B107 113 115 (v := (2 : Int32)) d7_113 rfl rfl ?_
    refine o_iloadN B107 115 116 (v := (0 : Int32)) d7_115 rfl rfl ?_
    refine o_iload B107 116 118 (v := (3 : Int32)) d7_116 rfl rfl ?_
    refine o_iadd B107 118 119 d7_118 rfl ?_
    refine o_topI (show ((0 : Int32) + (3 : Int32)) = (3 : Int32) by decide) ?_
    refine o_icN B107 119 122 d7_119 rfl (XT.ii_ge_f (by decide)) ?_
    refine o_aloadN B107 122 123 (v := (.ref x1)) d7_122 rfl rfl rfl ?_
    refine o_iload B107 123 125 (v := (2 : Int32)) d7_123 rfl rfl ?_
    have F113 := (F32.keep K107 (ninS (Ne.symm ne_x0_x1) (ninS ne_x1_yw nin0)))
    refine o_iaload B107 125 126 F113 2 (gd 2) d7_125 rfl (by decide) (by decide) (by decide) rfl ?_
    refine o_iload B107 126 128 (v := x5) d7_126 rfl rfl ?_
    refine o_isub B107 128 129 d7_128 rfl ?_
    refine o_i2l B107 129 130 d7_129 rfl ?_
    refine o_lload B107 130 132 (v := lm) d7_130 rfl rfl ?_
    refine o_land B107 132 133 d7_132 rfl ?_
    refine o_aloadN B107 133 134 (v := (.ref x2)) d7_133 rfl rfl rfl ?_
    refine o_iload B107 134 136 (v := (2 : Int32)) d7_134 rfl rfl ?_
    have F115 := (F36.keep K107 (ninS (Ne.symm ne_x0_x2) (ninS ne_x2_yw nin0)))
    refine o_iaload B107 136 137 F115 2 (gf 2) d7_136 rfl (by decide) (by decide) (by decide) rfl ?_
    refine o_iconst B107 137 138 (1 : Int32) d7_137 rfl (by decide) ?_
    refine o_isub B107 138 139 d7_138 rfl ?_
    refine o_i2l B107 139 140 d7_139 rfl ?_
    refine o_iload B107 140 142 (v := lo) d7_140 rfl rfl ?_
    refine o_lshl B107 142 143 d7_142 rfl ?_
    refine o_lor B107 143 144 d7_143 rfl ?_
    generalize ((((gd 2) - x5).toInt64 &&& lm) ||| (((gf 2) - (1 : Int32)).toInt64 <<< (lo.toInt64 &&& 63))) = bt116
    refine o_lstore B107 144 146 (l' := #[vr x0, vr x1, vr x2, vi 0, vi 4, vi x5, vi hi, vi wd, vi 3, vi sp, vi lo, vj lm, s2, vi sd, vj m111, s2, vi pb108, vi 2, vj bt116, s2]) d7_144 rfl rfl ?_
    refine o_lload B107 146 148 (v := m111) d7_146 rfl rfl ?_
    refine o_lload B107 148 150 (v := bt116) d7_148 rfl rfl ?_
    refine o_iload B107 150 152 (v := pb108) d7_150 rfl rfl ?_
    refine o_lshl B107 152 153 d7_152 rfl ?_
    refine o_lor B107 153 154 d7_153 rfl ?_
    generalize (m111 ||| (bt116 <<< (pb108.toInt64 &&& 63))) = pd117
    refine o_lstore B107 154 156 (l' := #[vr x0, vr x1, vr x2, vi 0, vi 4, vi x5, vi hi, vi wd, vi 3, vi sp, vi lo, vj lm, s2, vi sd, vj pd117, s2, vi pb108, vi 2, vj bt116, s2]) d7_154 rfl rfl ?_
    refine o_iload B107 156 158 (v := pb108) d7_156 rfl rfl ?_
    refine o_iload B107 158 160 (v := sd) d7_158 rfl rfl ?_
    refine o_iadd B107 160 161 d7_160 rfl ?_
    obtain ⟨pb118, hpb118⟩ : ∃ q : Int32, q = (pb108 + sd) := ⟨_, rfl⟩
    rw [← hpb118]
    have tpb118 : pb118.toInt = pb108.toInt + sd.toInt := by rw [hpb118]; exact (by rw [own_ad (by omega) (by omega)])
    refine o_istore B107 161 163 (l' := #[vr x0, vr x1, vr x2, vi 0, vi 4, vi x5, vi hi, vi wd, vi 3, vi sp, vi lo, vj lm, s2, vi sd, vj pd117, s2, vi pb118, vi 2, vj bt116, s2]) d7_161 rfl rfl ?_
    refine o_iload B107 163 165 (v := pb118) d7_163 rfl rfl ?_
    refine o_bipush B107 165 167 (64 : Int32) d7_165 rfl (by decide) ?_
    by_cases k7 : pb118 < (64 : Int32)
    · refine o_icY B107 167 200 d7_167 (XT.ii_lt_t k7) (by decide) (by decide) ?_
      have kk7 : pb118.toInt < 64 := by rw [Int32.lt_iff_toInt_lt, show (64 : Int32).toInt = 64 by decide] at k7; exact k7
      refine o_iincC B107 200 203 (l' := #[vr x0, vr x1, vr x2, vi 0, vi 4, vi x5, vi hi, vi wd, vi 3, vi sp, vi lo, vj lm, s2, vi sd, vj pd117, s2, vi pb118, vi 3, vj bt116, s2]) (1 : Int32) (3 : Int32) d7_200 rfl (by decide) rfl (by decide) rfl ?_
      refine o_goto B107 203 113 d7_203 (by decide) (by decide) ?_
      refine o_iload B107 113 115 (v := (3 : Int32)) d7_113 rfl rfl ?_
      refine o_iloadN B107 115 116 (v := (0 : Int32)) d7_115 rfl rfl ?_
      refine o_iload B107 116 118 (v := (3 : Int32)) d7_116 rfl rfl ?_
      refine o_iadd B107 118 119 d7_118 rfl ?_
      refine o_topI (show ((0 : Int32) + (3 : Int32)) = (3 : Int32) by decide) ?_
      refine o_icY B107 119 206 d7_119 (XT.ii_ge_t (by decide)) (by decide) (by decide) ?_
      refine o_aloadN B107 206 207 (v := (.ref x0)) d7_206 rfl rfl rfl ?_
      refine o_lload B107 207 209 (v := pd117) d7_207 rfl rfl ?_
      refine o_iload B107 209 211 (v := pb118) d7_209 rfl rfl ?_
      have F119 := (F106.keep K107)
      obtain ⟨v120, T120, L120, B120, Q120, c120⟩ := o_callV B107 211 214 d7_211 rfl (hw _ (mi 52 rfl)) (hw _ (mi 24 rfl)) (hw _ (mi 26 rfl)) (hw _ (mi 25 rfl)) (hw _ (mi 13 rfl)) (hw _ (mi 27 rfl)) (by decide) F119 (rm5 l Z a0 hw x0 yw g107 s107 pd117 pb118 T107.heap n0 zz107 ge_x0 ge_yw F119 H107_1 H107_2 J107 ne_x0_yw (own_hw _ _ _ _ rfl rfl (by omega))) 0 [(.long pd117), (.int pb118)] [] pd__JI_V rfl rfl (st := [(.int pb118), (.long pd117), (.ref x0)]) rfl (Ls := #[vr x0, vr x1, vr x2, vi 0, vi 4, vi x5, vi hi, vi wd, vi 3, vi sp, vi lo, vj lm, s2, vi sd, vj pd117, s2, vi pb118, vi 3, vj bt116, s2]) rfl (Nat.le_of_eq rfl) (by decide) (by decide) (by decide) (by decide)
      obtain ⟨rfl, M120, K120, g120, s120, H120_1, H120_2, J120, ⟨t120, P120⟩⟩ := Q120
      have N120 := Fr.app N107 M120
      have zz120 : n0 ≤ T120.heap.size := Nat.le_trans zz107 K120.1
      refine c120 ?_
      show OG p.tables e below _ (T120.setTop (mkF m 214 #[vr x0, vr x1, vr x2, vi 0, vi 4, vi x5, vi hi, vi wd, vi 3, vi sp, vi lo, vj lm, s2, vi sd, vj pd117, s2, vi pb118, vi 3, vj bt116, s2] []))
      refine o_aloadN B120 214 215 (v := (.ref x0)) d7_214 rfl rfl rfl ?_
      refine o_aloadN B120 215 216 (v := (.ref x2)) d7_215 rfl rfl rfl ?_
      refine o_iloadN B120 216 217 (v := (0 : Int32)) d7_216 rfl rfl ?_
      refine o_iload B120 217 219 (v := (3 : Int32)) d7_217 rfl rfl ?_
      refine o_iadd B120 219 220 d7_219 rfl ?_
      refine o_topI (show ((0 : Int32) + (3 : Int32)) = (3 : Int32) by decide) ?_
      have F122 := (F115.keep K120 (ninS (Ne.symm ne_x0_x2) (ninS ne_x2_yw nin0)))
      refine o_iaload B120 220 221 F122 3 (gf 3) d7_220 rfl (by decide) (by decide) (by decide) rfl ?_
      refine o_iconst B120 221 222 (1 : Int32) d7_221 rfl (by decide) ?_
      refine o_isub B120 222 223 d7_222 rfl ?_
      refine o_i2l B120 223 224 d7_223 rfl ?_
      refine o_iload B120 224 226 (v := wd) d7_224 rfl rfl ?_
      have F123 := (F119.keep K120)
      obtain ⟨v124, T124, L124, B124, Q124, c124⟩ := o_callV B120 226 229 d7_226 rfl (hw _ (mi 52 rfl)) (hw _ (mi 24 rfl)) (hw _ (mi 26 rfl)) (hw _ (mi 25 rfl)) (hw _ (mi 13 rfl)) (hw _ (mi 27 rfl)) (by decide) F123 (rm5 l Z a0 hw x0 yw g120 s120 ((gf 3) - (1 : Int32)).toInt64 wd T120.heap n0 zz120 ge_x0 ge_yw F123 H120_1 H120_2 J120 ne_x0_yw (own_hw _ _ _ _ rfl rfl (by omega))) 0 [(.long ((gf 3) - (1 : Int32)).toInt64), (.int wd)] [] pd__JI_V rfl rfl (st := [(.int wd), (.long ((gf 3) - (1 : Int32)).toInt64), (.ref x0)]) rfl (Ls := #[vr x0, vr x1, vr x2, vi 0, vi 4, vi x5, vi hi, vi wd, vi 3, vi sp, vi lo, vj lm, s2, vi sd, vj pd117, s2, vi pb118, vi 3, vj bt116, s2]) rfl (Nat.le_of_eq rfl) (by decide) (by decide) (by decide) (by decide)
      obtain ⟨rfl, M124, K124, g124, s124, H124_1, H124_2, J124, ⟨t124, P124⟩⟩ := Q124
      have N124 := Fr.app N120 M124
      have zz124 : n0 ≤ T124.heap.size := Nat.le_trans zz120 K124.1
      refine c124 ?_
      show OG p.tables e below _ (T124.setTop (mkF m 229 #[vr x0, vr x1, vr x2, vi 0, vi 4, vi x5, vi hi, vi wd, vi 3, vi sp, vi lo, vj lm, s2, vi sd, vj pd117, s2, vi pb118, vi 3, vj bt116, s2] []))
      refine o_iload B124 229 231 (v := (3 : Int32)) d7_229 rfl rfl ?_
      refine o_ifY B124 231 235 d7_231 (XT.i0_ne_t (by decide)) (by decide) (by decide) ?_
      refine o_aloadN B124 235 236 (v := (.ref x0)) d7_235 rfl rfl rfl ?_
      have F125 := (F123.keep K124)
      obtain ⟨T126, B126, c126⟩ := o_callVP B124 236 239 d7_236 rfl (hw _ (mi 114 rfl)) (hw _ (mi 56 rfl)) (hw _ (mi 58 rfl)) (hw _ (mi 57 rfl)) (hw _ (mi 13 rfl)) (hw _ (mi 59 rfl)) (by decide) F125 (rm11 l Z a0 hw x0 s124 T124.heap H124_2) 0 [] [] pd___J rfl rfl (st := [(.ref x0)]) rfl (Ls := #[vr x0, vr x1, vr x2, vi 0, vi 4, vi x5, vi hi, vi wd, vi 3, vi sp, vi lo, vj lm, s2, vi sd, vj pd117, s2, vi pb118, vi 3, vj bt116, s2]) rfl (Nat.le_of_eq rfl) (by decide) (by decide) (by decide) (by decide)
      refine c126 ?_
      refine o_topJ (show (f11 s124) = s124 from rfl) ?_
      refine o_lstore B126 239 241 (l' := #[vr x0, vr x1, vr x2, vi 0, vi 4, vi x5, vi hi, vi wd, vi 3, vi sp, vi lo, vj lm, s2, vi sd, vj pd117, s2, vi pb118, vj s124, s2, us]) d7_239 rfl rfl ?_
      refine o_aloadN B126 241 242 (v := (.ref x0)) d7_241 rfl rfl rfl ?_
      refine o_iload B126 242 244 (v := (3 : Int32)) d7_242 rfl rfl ?_
      refine o_i2l B126 244 245 d7_244 rfl ?_
      refine o_topJ (show (3 : Int32).toInt64 = (3 : Int64) by decide) ?_
      refine o_iload B126 245 247 (v := sp) d7_245 rfl rfl ?_
      refine o_i2l B126 247 248 d7_247 rfl ?_
      refine o_lconst B126 248 249 (1 : Int64) d7_248 rfl (by decide) ?_
      refine o_lsub B126 249 250 d7_249 rfl ?_
      refine o_iload B126 250 252 (v := lo) d7_250 rfl rfl ?_
      refine o_lushr B126 252 253 d7_252 rfl ?_
      refine o_ladd B126 253 254 d7_253 rfl ?_
      refine o_lconst B126 254 255 (1 : Int64) d7_254 rfl (by decide) ?_
      refine o_ladd B126 255 256 d7_255 rfl ?_
      have eU := own_uL (sp.toInt64 - 1) lo L tlo (by omega) (by rw [own_s1 (by omega)]; omega)
      rw [own_s1 (by omega)] at eU
      have eV : 0 ≤ (sp.toInt - 1) / (2 ^ L : Nat) := Int.ediv_nonneg (by omega) (Int.natCast_nonneg _)
      obtain ⟨sk, hsk⟩ : ∃ q : Int64, q = (((3 : Int64) + (XT.ushrL (sp.toInt64 - (1 : Int64)) lo)) + (1 : Int64)) := ⟨_, rfl⟩
      rw [← hsk]
      have tsk : sk.toInt = 3 + (XT.ushrL (sp.toInt64 - 1) lo).toInt + 1 := by rw [hsk]; exact (own_sk3 (by omega))
      obtain ⟨v127, T127, L127, B127, Q127, c127⟩ := o_callV B126 256 259 d7_256 rfl (hw _ (mi 115 rfl)) (hw _ (mi 116 rfl)) (hw _ (mi 118 rfl)) (hw _ (mi 117 rfl)) (hw _ (mi 13 rfl)) (hw _ (mi 119 rfl)) (by decide) F125 (rm19 l Z a0 hw x0 yw g124 s124 sk T124.heap n0 zz124 ge_x0 ge_yw F125 H124_1 H124_2 J124 ne_x0_yw (by omega)) 0 [(.long sk)] [] pd__J_V rfl rfl (st := [(.long sk), (.ref x0)]) rfl (Ls := #[vr x0, vr x1, vr x2, vi 0, vi 4, vi x5, vi hi, vi wd, vi 3, vi sp, vi lo, vj lm, s2, vi sd, vj pd117, s2, vi pb118, vj s124, s2, us]) rfl (Nat.le_of_eq rfl) (by decide) (by decide) (by decide) (by decide)
      obtain ⟨rfl, M127, K127, g127, s127, H127_1, H127_2, J127, rg127, t127⟩ := Q127
      have N127 := Fr.app N124 M127
      have zz127 : n0 ≤ T127.heap.size := Nat.le_trans zz124 K127.1
      refine c127 ?_
      show OG p.tables e below _ (T127.setTop (mkF m 259 #[vr x0, vr x1, vr x2, vi 0, vi 4, vi x5, vi hi, vi wd, vi 3, vi sp, vi lo, vj lm, s2, vi sd, vj pd117, s2, vi pb118, vj s124, s2, us] []))
      refine o_iconst B127 259 260 (0 : Int32) d7_259 rfl (by decide) ?_
      refine o_istore B127 260 262 (l' := #[vr x0, vr x1, vr x2, vi 0, vi 4, vi x5, vi hi, vi wd, vi 3, vi sp, vi lo, vj lm, s2, vi sd, vj pd117, s2, vi pb118, vj s124, s2, vi 0]) d7_260 rfl rfl ?_
      refine o_iload B127 262 264 (v := (0 : Int32)) d7_262 rfl rfl ?_
      refine o_iload B127 264 266 (v := (3 : Int32)) d7_264 rfl rfl ?_
      refine o_icN B127 266 269 d7_266 rfl (XT.ii_ge_f (by decide)) ?_
      refine o_aloadN B127 269 270 (v := (.ref x0)) d7_269 rfl rfl rfl ?_
      refine o_lload B127 270 272 (v := s124) d7_270 rfl rfl ?_
      refine o_aloadN B127 272 273 (v := (.ref x1)) d7_272 rfl rfl rfl ?_
      refine o_iloadN B127 273 274 (v := (0 : Int32)) d7_273 rfl rfl ?_
      refine o_iload B127 274 276 (v := (0 : Int32)) d7_274 rfl rfl ?_
      refine o_iadd B127 276 277 d7_276 rfl ?_
      refine o_topI (show ((0 : Int32) + (0 : Int32)) = (0 : Int32) by decide) ?_
      have F129 := (((F113.keep K120 (ninS (Ne.symm ne_x0_x1) (ninS ne_x1_yw nin0))).keep K124 (ninS (Ne.symm ne_x0_x1) (ninS ne_x1_yw nin0))).keep K127 (ninS (Ne.symm ne_x0_x1) (ninS ne_x1_yw nin0)))
      refine o_iaload B127 277 278 F129 0 (gd 0) d7_277 rfl (by decide) (by decide) (by decide) rfl ?_
      refine o_iload B127 278 280 (v := x5) d7_278 rfl rfl ?_
      refine o_isub B127 280 281 d7_280 rfl ?_
      refine o_iload B127 281 283 (v := lo) d7_281 rfl rfl ?_
      refine o_iushr B127 283 284 d7_283 rfl ?_
      refine o_i2l B127 284 285 d7_284 rfl ?_
      refine o_ladd B127 285 286 d7_285 rfl ?_
      refine o_iload B127 286 288 (v := (0 : Int32)) d7_286 rfl rfl ?_
      refine o_i2l B127 288 289 d7_288 rfl ?_
      refine o_topJ (show (0 : Int32).toInt64 = (0 : Int64) by decide) ?_
      refine o_ladd B127 289 290 d7_289 rfl ?_
      have eS130 := own_us0 (gd 0 - x5) lo L tlo L1 (by rw [own_sub hd0.1 (by omega)]; omega)
      rw [own_sub hd0.1 (by omega)] at eS130
      have eD130 : ((gd 0).toInt - x5.toInt) / (2 ^ L : Nat) ≤ (sp.toInt - 1) / (2 ^ L : Nat) := Int.ediv_le_ediv (Int.natCast_pos.mpr (Nat.two_pow_pos L)) (by omega)
      have eN130 : 0 ≤ ((gd 0).toInt - x5.toInt) / (2 ^ L : Nat) := Int.ediv_nonneg (by omega) (Int.natCast_nonneg _)
      obtain ⟨ps130, hps130⟩ : ∃ q : Int64, q = ((s124 + (XT.ushr ((gd 0) - x5) lo).toInt64) + (0 : Int64)) := ⟨_, rfl⟩
      rw [← hps130]
      have tps130 : ps130.toInt = s124.toInt + ((gd 0).toInt - x5.toInt) / (2 ^ L : Nat) + 0 := by rw [hps130]; exact (own_ps (by omega) (by rw [eS130]; omega) (by rw [eS130]) (by decide))
      have F131 := (F125.keep K127)
      obtain ⟨v132, T132, L132, B132, Q132, c132⟩ := o_callV B127 290 293 d7_290 rfl (hw _ (mi 120 rfl)) (hw _ (mi 121 rfl)) (hw _ (mi 123 rfl)) (hw _ (mi 122 rfl)) (hw _ (mi 13 rfl)) (hw _ (mi 124 rfl)) (by decide) F131 (rm20 l Z a0 hw x0 yw g127 s127 ps130 T127.heap n0 zz127 ge_x0 ge_yw F131 H127_1 H127_2 J127 ne_x0_yw (by omega)) 0 [(.long ps130)] [] pd__J_V rfl rfl (st := [(.long ps130), (.ref x0)]) rfl (Ls := #[vr x0, vr x1, vr x2, vi 0, vi 4, vi x5, vi hi, vi wd, vi 3, vi sp, vi lo, vj lm, s2, vi sd, vj pd117, s2, vi pb118, vj s124, s2, vi 0]) rfl (Nat.le_of_eq rfl) (by decide) (by decide) (by decide) (by decide)
      obtain ⟨rfl, M132, K132, g132, s132, H132_1, H132_2, J132, rz132, P132⟩ := Q132
      have N132 := Fr.app N127 M132
      have zz132 : n0 ≤ T132.heap.size := Nat.le_trans zz127 K132.1
      have u132 : s132.toInt = s127.toInt := by rw [rz132]
      refine c132 ?_
      show OG p.tables e below _ (T132.setTop (mkF m 293 #[vr x0, vr x1, vr x2, vi 0, vi 4, vi x5, vi hi, vi wd, vi 3, vi sp, vi lo, vj lm, s2, vi sd, vj pd117, s2, vi pb118, vj s124, s2, vi 0] []))
      refine o_iincC B132 293 296 (l' := #[vr x0, vr x1, vr x2, vi 0, vi 4, vi x5, vi hi, vi wd, vi 3, vi sp, vi lo, vj lm, s2, vi sd, vj pd117, s2, vi pb118, vj s124, s2, vi 1]) (1 : Int32) (1 : Int32) d7_293 rfl (by decide) rfl (by decide) rfl ?_
      refine o_goto B132 296 262 d7_296 (by decide) (by decide) ?_
      refine o_iload B132 262 264 (v := (1 : Int32)) d7_262 rfl rfl ?_
      refine o_iload B132 264 266 (v := (3 : Int32)) d7_264 rfl rfl ?_
      refine o_icN B132 266 269 d7_266 rfl (XT.ii_ge_f (by decide)) ?_
      refine o_aloadN B132 269 270 (v := (.ref x0)) d7_269 rfl rfl rfl ?_
      refine o_lload B132 270 272 (v := s124) d7_270 rfl rfl ?_
      refine o_aloadN B132 272 273 (v := (.ref x1)) d7_272 rfl rfl rfl ?_
      refine o_iloadN B132 273 274 (v := (0 : Int32)) d7_273 rfl rfl ?_
      refine o_iload B132 274 276 (v := (1 : Int32)) d7_274 rfl rfl ?_
      refine o_iadd B132 276 277 d7_276 rfl ?_
      refine o_topI (show ((0 : Int32) + (1 : Int32)) = (1 : Int32) by decide) ?_
      have F134 := (F129.keep K132 (ninS (Ne.symm ne_x0_x1) (ninS ne_x1_yw nin0)))
      refine o_iaload B132 277 278 F134 1 (gd 1) d7_277 rfl (by decide) (by decide) (by decide) rfl ?_
      refine o_iload B132 278 280 (v := x5) d7_278 rfl rfl ?_
      refine o_isub B132 280 281 d7_280 rfl ?_
      refine o_iload B132 281 283 (v := lo) d7_281 rfl rfl ?_
      refine o_iushr B132 283 284 d7_283 rfl ?_
      refine o_i2l B132 284 285 d7_284 rfl ?_
      refine o_ladd B132 285 286 d7_285 rfl ?_
      refine o_iload B132 286 288 (v := (1 : Int32)) d7_286 rfl rfl ?_
      refine o_i2l B132 288 289 d7_288 rfl ?_
      refine o_topJ (show (1 : Int32).toInt64 = (1 : Int64) by decide) ?_
      refine o_ladd B132 289 290 d7_289 rfl ?_
      have eS135 := own_us0 (gd 1 - x5) lo L tlo L1 (by rw [own_sub hd0.1 (by omega)]; omega)
      rw [own_sub hd0.1 (by omega)] at eS135
      have eD135 : ((gd 1).toInt - x5.toInt) / (2 ^ L : Nat) ≤ (sp.toInt - 1) / (2 ^ L : Nat) := Int.ediv_le_ediv (Int.natCast_pos.mpr (Nat.two_pow_pos L)) (by omega)
      have eN135 : 0 ≤ ((gd 1).toInt - x5.toInt) / (2 ^ L : Nat) := Int.ediv_nonneg (by omega) (Int.natCast_nonneg _)
      obtain ⟨ps135, hps135⟩ : ∃ q : Int64, q = ((s124 + (XT.ushr ((gd 1) - x5) lo).toInt64) + (1 : Int64)) := ⟨_, rfl⟩
      rw [← hps135]
      have tps135 : ps135.toInt = s124.toInt + ((gd 1).toInt - x5.toInt) / (2 ^ L : Nat) + 1 := by rw [hps135]; exact (own_ps (by omega) (by rw [eS135]; omega) (by rw [eS135]) (by decide))
      have F136 := (F131.keep K132)
      obtain ⟨v137, T137, L137, B137, Q137, c137⟩ := o_callV B132 290 293 d7_290 rfl (hw _ (mi 120 rfl)) (hw _ (mi 121 rfl)) (hw _ (mi 123 rfl)) (hw _ (mi 122 rfl)) (hw _ (mi 13 rfl)) (hw _ (mi 124 rfl)) (by decide) F136 (rm20 l Z a0 hw x0 yw g132 s132 ps135 T132.heap n0 zz132 ge_x0 ge_yw F136 H132_1 H132_2 J132 ne_x0_yw (by omega)) 0 [(.long ps135)] [] pd__J_V rfl rfl (st := [(.long ps135), (.ref x0)]) rfl (Ls := #[vr x0, vr x1, vr x2, vi 0, vi 4, vi x5, vi hi, vi wd, vi 3, vi sp, vi lo, vj lm, s2, vi sd, vj pd117, s2, vi pb118, vj s124, s2, vi 1]) rfl (Nat.le_of_eq rfl) (by decide) (by decide) (by decide) (by decide)
      obtain ⟨rfl, M137, K137, g137, s137, H137_1, H137_2, J137, rz137, P137⟩ := Q137
      have N137 := Fr.app N132 M137
      have zz137 : n0 ≤ T137.heap.size := Nat.le_trans zz132 K137.1
      have u137 : s137.toInt = s132.toInt := by rw [rz137]
      refine c137 ?_
      show OG p.tables e below _ (T137.setTop (mkF m 293 #[vr x0, vr x1, vr x2, vi 0, vi 4, vi x5, vi hi, vi wd, vi 3, vi sp, vi lo, vj lm, s2, vi sd, vj pd117, s2, vi pb118, vj s124, s2, vi 1] []))
      refine o_iincC B137 293 296 (l' := #[vr x0, vr x1, vr x2, vi 0, vi 4, vi x5, vi hi, vi wd, vi 3, vi sp, vi lo, vj lm, s2, vi sd, vj pd117, s2, vi pb118, vj s124, s2, vi 2]) (1 : Int32) (2 : Int32) d7_293 rfl (by decide) rfl (by decide) rfl ?_
      refine o_goto B137 296 262 d7_296 (by decide) (by decide) ?_
      refine o_iload B137 262 264 (v := (2 : Int32)) d7_262 rfl rfl ?_
      refine o_iload B137 264 266 (v := (3 : Int32)) d7_264 rfl rfl ?_
      refine o_icN B137 266 269 d7_266 rfl (XT.ii_ge_f (by decide)) ?_
      refine o_aloadN B137 269 270 (v := (.ref x0)) d7_269 rfl rfl rfl ?_
      refine o_lload B137 270 272 (v := s124) d7_270 rfl rfl ?_
      refine o_aloadN B137 272 273 (v := (.ref x1)) d7_272 rfl rfl rfl ?_
      refine o_iloadN B137 273 274 (v := (0 : Int32)) d7_273 rfl rfl ?_
      refine o_iload B137 274 276 (v := (2 : Int32)) d7_274 rfl rfl ?_
      refine o_iadd B137 276 277 d7_276 rfl ?_
      refine o_topI (show ((0 : Int32) + (2 : Int32)) = (2 : Int32) by decide) ?_
      have F139 := (F134.keep K137 (ninS (Ne.symm ne_x0_x1) (ninS ne_x1_yw nin0)))
      refine o_iaload B137 277 278 F139 2 (gd 2) d7_277 rfl (by decide) (by decide) (by decide) rfl ?_
      refine o_iload B137 278 280 (v := x5) d7_278 rfl rfl ?_
      refine o_isub B137 280 281 d7_280 rfl ?_
      refine o_iload B137 281 283 (v := lo) d7_281 rfl rfl ?_
      refine o_iushr B137 283 284 d7_283 rfl ?_
      refine o_i2l B137 284 285 d7_284 rfl ?_
      refine o_ladd B137 285 286 d7_285 rfl ?_
      refine o_iload B137 286 288 (v := (2 : Int32)) d7_286 rfl rfl ?_
      refine o_i2l B137 288 289 d7_288 rfl ?_
      refine o_topJ (show (2 : Int32).toInt64 = (2 : Int64) by decide) ?_
      refine o_ladd B137 289 290 d7_289 rfl ?_
      have eS140 := own_us0 (gd 2 - x5) lo L tlo L1 (by rw [own_sub hd0.1 (by omega)]; omega)
      rw [own_sub hd0.1 (by omega)] at eS140
      have eD140 : ((gd 2).toInt - x5.toInt) / (2 ^ L : Nat) ≤ (sp.toInt - 1) / (2 ^ L : Nat) := Int.ediv_le_ediv (Int.natCast_pos.mpr (Nat.two_pow_pos L)) (by omega)
      have eN140 : 0 ≤ ((gd 2).toInt - x5.toInt) / (2 ^ L : Nat) := Int.ediv_nonneg (by omega) (Int.natCast_nonneg _)
      obtain ⟨ps140, hps140⟩ : ∃ q : Int64, q = ((s124 + (XT.ushr ((gd 2) - x5) lo).toInt64) + (2 : Int64)) := ⟨_, rfl⟩
      rw [← hps140]
      have tps140 : ps140.toInt = s124.toInt + ((gd 2).toInt - x5.toInt) / (2 ^ L : Nat) + 2 := by rw [hps140]; exact (own_ps (by omega) (by rw [eS140]; omega) (by rw [eS140]) (by decide))
      have F141 := (F136.keep K137)
      obtain ⟨v142, T142, L142, B142, Q142, c142⟩ := o_callV B137 290 293 d7_290 rfl (hw _ (mi 120 rfl)) (hw _ (mi 121 rfl)) (hw _ (mi 123 rfl)) (hw _ (mi 122 rfl)) (hw _ (mi 13 rfl)) (hw _ (mi 124 rfl)) (by decide) F141 (rm20 l Z a0 hw x0 yw g137 s137 ps140 T137.heap n0 zz137 ge_x0 ge_yw F141 H137_1 H137_2 J137 ne_x0_yw (by omega)) 0 [(.long ps140)] [] pd__J_V rfl rfl (st := [(.long ps140), (.ref x0)]) rfl (Ls := #[vr x0, vr x1, vr x2, vi 0, vi 4, vi x5, vi hi, vi wd, vi 3, vi sp, vi lo, vj lm, s2, vi sd, vj pd117, s2, vi pb118, vj s124, s2, vi 2]) rfl (Nat.le_of_eq rfl) (by decide) (by decide) (by decide) (by decide)
      obtain ⟨rfl, M142, K142, g142, s142, H142_1, H142_2, J142, rz142, P142⟩ := Q142
      have N142 := Fr.app N137 M142
      have zz142 : n0 ≤ T142.heap.size := Nat.le_trans zz137 K142.1
      have u142 : s142.toInt = s137.toInt := by rw [rz142]
      refine c142 ?_
      show OG p.tables e below _ (T142.setTop (mkF m 293 #[vr x0, vr x1, vr x2, vi 0, vi 4, vi x5, vi hi, vi wd, vi 3, vi sp, vi lo, vj lm, s2, vi sd, vj pd117, s2, vi pb118, vj s124, s2, vi 2] []))
      refine o_iincC B142 293 296 (l' := #[vr x0, vr x1, vr x2, vi 0, vi 4, vi x5, vi hi, vi wd, vi 3, vi sp, vi lo, vj lm, s2, vi sd, vj pd117, s2, vi pb118, vj s124, s2, vi 3]) (1 : Int32) (3 : Int32) d7_293 rfl (by decide) rfl (by decide) rfl ?_
      refine o_goto B142 296 262 d7_296 (by decide) (by decide) ?_
      refine o_iload B142 262 264 (v := (3 : Int32)) d7_262 rfl rfl ?_
      refine o_iload B142 264 266 (v := (3 : Int32)) d7_264 rfl rfl ?_
      refine o_icY B142 266 299 d7_266 (XT.ii_ge_t (by decide)) (by decide) (by decide) ?_
      have eW : own_W4 gf = wd := by rw [hwd, hhi]; rfl
      have eL : f18 (gd 3 - x5) 3 = lo := by rw [hlo, hsp]
      have eT : s142.toInt = z.toInt + own_tot4 gd gf x5 := by unfold own_tot4; rw [eW, eL, tlo, ← hsp]; omega
      have eB : ∀ i, i < 5 → bitAt g142 (z.toInt.toNat + i) = (bitAt g (z.toInt.toNat + i) || (own_W4 gf).toInt64.toBitVec.getLsbD i) := by intro i hi5; rw [P142 _ (by omega), P137 _ (by omega), P132 _ (by omega), rg127, own_wol P124 _ (by omega), own_wol P120 _ (by omega), own_wol P107 _ (by omega), eW]; exact own_wof P30 i hi5
      have KT143 := (((((((((Keep.refl h0 [x0, yw]).trans K30 (allS (Or.inl (mi 0 rfl)) (allS (Or.inl (mi 1 rfl)) all0))).trans K107 (allS (Or.inl (mi 0 rfl)) (allS (Or.inl (mi 1 rfl)) all0))).trans K120 (allS (Or.inl (mi 0 rfl)) (allS (Or.inl (mi 1 rfl)) all0))).trans K124 (allS (Or.inl (mi 0 rfl)) (allS (Or.inl (mi 1 rfl)) all0))).trans K127 (allS (Or.inl (mi 0 rfl)) (allS (Or.inl (mi 1 rfl)) all0))).trans K132 (allS (Or.inl (mi 0 rfl)) (allS (Or.inl (mi 1 rfl)) all0))).trans K137 (allS (Or.inl (mi 0 rfl)) (allS (Or.inl (mi 1 rfl)) all0))).trans K142 (allS (Or.inl (mi 0 rfl)) (allS (Or.inl (mi 1 rfl)) all0)))
      exact o_retV B142 299 d7_299 hret hlk (by decide) (by decide) ⟨rfl, N142, KT143, g142, s142, H142_1, H142_2, J142, eT, eB⟩
    · refine o_icN B107 167 170 d7_167 rfl (XT.ii_lt_f k7) ?_
      have kk7 : ¬ pb118.toInt < 64 := by rw [Int32.lt_iff_toInt_lt, show (64 : Int32).toInt = 64 by decide] at k7; exact k7
      refine o_aloadN B107 170 171 (v := (.ref x0)) d7_170 rfl rfl rfl ?_
      refine o_lload B107 171 173 (v := pd117) d7_171 rfl rfl ?_
      refine o_bipush B107 173 175 (64 : Int32) d7_173 rfl (by decide) ?_
      have F144 := (F106.keep K107)
      obtain ⟨v145, T145, L145, B145, Q145, c145⟩ := o_callV B107 175 178 d7_175 rfl (hw _ (mi 52 rfl)) (hw _ (mi 24 rfl)) (hw _ (mi 26 rfl)) (hw _ (mi 25 rfl)) (hw _ (mi 13 rfl)) (hw _ (mi 27 rfl)) (by decide) F144 (rm5 l Z a0 hw x0 yw g107 s107 pd117 (64 : Int32) T107.heap n0 zz107 ge_x0 ge_yw F144 H107_1 H107_2 J107 ne_x0_yw (own_hw _ _ _ 64 rfl (by decide) (by omega))) 0 [(.long pd117), (.int (64 : Int32))] [] pd__JI_V rfl rfl (st := [(.int (64 : Int32)), (.long pd117), (.ref x0)]) rfl (Ls := #[vr x0, vr x1, vr x2, vi 0, vi 4, vi x5, vi hi, vi wd, vi 3, vi sp, vi lo, vj lm, s2, vi sd, vj pd117, s2, vi pb118, vi 2, vj bt116, s2]) rfl (Nat.le_of_eq rfl) (by decide) (by decide) (by decide) (by decide)
      obtain ⟨rfl, M145, K145, g145, s145, H145_1, H145_2, J145, ⟨t145, P145⟩⟩ := Q145
      have N145 := Fr.app N107 M145
      have zz145 : n0 ≤ T145.heap.size := Nat.le_trans zz107 K145.1
      have u145 : s145.toInt = s107.toInt + 64 := by rw [t145, show (64 : Int32).toInt = 64 by decide]
      refine c145 ?_
      show OG p.tables e below _ (T145.setTop (mkF m 178 #[vr x0, vr x1, vr x2, vi 0, vi 4, vi x5, vi hi, vi wd, vi 3, vi sp, vi lo, vj lm, s2, vi sd, vj pd117, s2, vi pb118, vi 2, vj bt116, s2] []))
      refine o_iinc B145 178 181 (l' := #[vr x0, vr x1, vr x2, vi 0, vi 4, vi x5, vi hi, vi wd, vi 3, vi sp, vi lo, vj lm, s2, vi sd, vj pd117, s2, vi (pb118 + (-64 : Int32)), vi 2, vj bt116, s2]) (-64 : Int32) d7_178 rfl (by decide) rfl rfl ?_
      obtain ⟨pb146, hpb146⟩ : ∃ q : Int32, q = (pb118 + (-64 : Int32)) := ⟨_, rfl⟩
      rw [← hpb146]
      have tpb146 : pb146.toInt = pb118.toInt - 64 := by rw [hpb146]; exact (own_m64 (by omega))
      refine o_iload B145 181 183 (v := pb146) d7_181 rfl rfl ?_
      have dm8 : ∀ {P : Outcome → State → Prop}, (∀ (m149 : Int64), OG p.tables e below P (T145.setTop (mkF m 198 #[vr x0, vr x1, vr x2, vi 0, vi 4, vi x5, vi hi, vi wd, vi 3, vi sp, vi lo, vj lm, s2, vi sd, vj pd117, s2, vi pb146, vi 2, vj bt116, s2] [(.long m149)]))) → OG p.tables e below P (T145.setTop (mkF m 183 #[vr x0, vr x1, vr x2, vi 0, vi 4, vi x5, vi hi, vi wd, vi 3, vi sp, vi lo, vj lm, s2, vi sd, vj pd117, s2, vi pb146, vi 2, vj bt116, s2] [(.int pb146)])) := by
        intro P k
        by_cases k9 : pb146 = 0
        · refine o_ifN B145 183 186 d7_183 rfl (XT.i0_ne_f k9) ?_
          refine o_lconst B145 186 187 (0 : Int64) d7_186 rfl (by decide) ?_
          refine o_goto B145 187 198 d7_187 (by decide) (by decide) ?_
          exact k _
        · refine o_ifY B145 183 190 d7_183 (XT.i0_ne_t k9) (by decide) (by decide) ?_
          refine o_lload B145 190 192 (v := bt116) d7_190 rfl rfl ?_
          refine o_iload B145 192 194 (v := sd) d7_192 rfl rfl ?_
          refine o_iload B145 194 196 (v := pb146) d7_194 rfl rfl ?_
          refine o_isub B145 196 197 d7_196 rfl ?_
          refine o_lushr B145 197 198 d7_197 rfl ?_
          exact k _
      refine dm8 (fun m149 => ?_)
      refine o_lstore B145 198 200 (l' := #[vr x0, vr x1, vr x2, vi 0, vi 4, vi x5, vi hi, vi wd, vi 3, vi sp, vi lo, vj lm, s2, vi sd, vj m149, s2, vi pb146, vi 2, vj bt116, s2]) d7_198 rfl rfl ?_
      refine o_iincC B145 200 203 (l' := #[vr x0, vr x1, vr x2, vi 0, vi 4, vi x5, vi hi, vi wd, vi 3, vi sp, vi lo, vj lm, s2, vi sd, vj m149, s2, vi pb146, vi 3, vj bt116, s2]) (1 : Int32) (3 : Int32) d7_200 rfl (by decide) rfl (by decide) rfl ?_
      refine o_goto B145 203 113 d7_203 (by decide) (by decide) ?_
      refine o_iload B145 113 115 (v := (3 : Int32)) d7_113 rfl rfl ?_
      refine o_iloadN B145 115 116 (v := (0 : Int32)) d7_115 rfl rfl ?_
      refine o_iload B145 116 118 (v := (3 : Int32)) d7_116 rfl rfl ?_
      refine o_iadd B145 118 119 d7_118 rfl ?_
      refine o_topI (show ((0 : Int32) + (3 : Int32)) = (3 : Int32) by decide) ?_
      refine o_icY B145 119 206 d7_119 (XT.ii_ge_t (by decide)) (by decide) (by decide) ?_
      refine o_aloadN B145 206 207 (v := (.ref x0)) d7_206 rfl rfl rfl ?_
      refine o_lload B145 207 209 (v := m149) d7_207 rfl rfl ?_
      refine o_iload B145 209 211 (v := pb146) d7_209 rfl rfl ?_
      have F150 := (F144.keep K145)
      obtain ⟨v151, T151, L151, B151, Q151, c151⟩ := o_callV B145 211 214 d7_211 rfl (hw _ (mi 52 rfl)) (hw _ (mi 24 rfl)) (hw _ (mi 26 rfl)) (hw _ (mi 25 rfl)) (hw _ (mi 13 rfl)) (hw _ (mi 27 rfl)) (by decide) F150 (rm5 l Z a0 hw x0 yw g145 s145 m149 pb146 T145.heap n0 zz145 ge_x0 ge_yw F150 H145_1 H145_2 J145 ne_x0_yw (own_hw _ _ _ _ rfl rfl (by omega))) 0 [(.long m149), (.int pb146)] [] pd__JI_V rfl rfl (st := [(.int pb146), (.long m149), (.ref x0)]) rfl (Ls := #[vr x0, vr x1, vr x2, vi 0, vi 4, vi x5, vi hi, vi wd, vi 3, vi sp, vi lo, vj lm, s2, vi sd, vj m149, s2, vi pb146, vi 3, vj bt116, s2]) rfl (Nat.le_of_eq rfl) (by decide) (by decide) (by decide) (by decide)
      obtain ⟨rfl, M151, K151, g151, s151, H151_1, H151_2, J151, ⟨t151, P151⟩⟩ := Q151
      have N151 := Fr.app N145 M151
      have zz151 : n0 ≤ T151.heap.size := Nat.le_trans zz145 K151.1
      refine c151 ?_
      show OG p.tables e below _ (T151.setTop (mkF m 214 #[vr x0, vr x1, vr x2, vi 0, vi 4, vi x5, vi hi, vi wd, vi 3, vi sp, vi lo, vj lm, s2, vi sd, vj m149, s2, vi pb146, vi 3, vj bt116, s2] []))
      refine o_aloadN B151 214 215 (v := (.ref x0)) d7_214 rfl rfl rfl ?_
      refine o_aloadN B151 215 216 (v := (.ref x2)) d7_215 rfl rfl rfl ?_
      refine o_iloadN B151 216 217 (v := (0 : Int32)) d7_216 rfl rfl ?_
      refine o_iload B151 217 219 (v := (3 : Int32)) d7_217 rfl rfl ?_
      refine o_iadd B151 219 220 d7_219 rfl ?_
      refine o_topI (show ((0 : Int32) + (3 : Int32)) = (3 : Int32) by decide) ?_
      have F153 := ((F115.keep K145 (ninS (Ne.symm ne_x0_x2) (ninS ne_x2_yw nin0))).keep K151 (ninS (Ne.symm ne_x0_x2) (ninS ne_x2_yw nin0)))
      refine o_iaload B151 220 221 F153 3 (gf 3) d7_220 rfl (by decide) (by decide) (by decide) rfl ?_
      refine o_iconst B151 221 222 (1 : Int32) d7_221 rfl (by decide) ?_
      refine o_isub B151 222 223 d7_222 rfl ?_
      refine o_i2l B151 223 224 d7_223 rfl ?_
      refine o_iload B151 224 226 (v := wd) d7_224 rfl rfl ?_
      have F154 := (F150.keep K151)
      obtain ⟨v155, T155, L155, B155, Q155, c155⟩ := o_callV B151 226 229 d7_226 rfl (hw _ (mi 52 rfl)) (hw _ (mi 24 rfl)) (hw _ (mi 26 rfl)) (hw _ (mi 25 rfl)) (hw _ (mi 13 rfl)) (hw _ (mi 27 rfl)) (by decide) F154 (rm5 l Z a0 hw x0 yw g151 s151 ((gf 3) - (1 : Int32)).toInt64 wd T151.heap n0 zz151 ge_x0 ge_yw F154 H151_1 H151_2 J151 ne_x0_yw (own_hw _ _ _ _ rfl rfl (by omega))) 0 [(.long ((gf 3) - (1 : Int32)).toInt64), (.int wd)] [] pd__JI_V rfl rfl (st := [(.int wd), (.long ((gf 3) - (1 : Int32)).toInt64), (.ref x0)]) rfl (Ls := #[vr x0, vr x1, vr x2, vi 0, vi 4, vi x5, vi hi, vi wd, vi 3, vi sp, vi lo, vj lm, s2, vi sd, vj m149, s2, vi pb146, vi 3, vj bt116, s2]) rfl (Nat.le_of_eq rfl) (by decide) (by decide) (by decide) (by decide)
      obtain ⟨rfl, M155, K155, g155, s155, H155_1, H155_2, J155, ⟨t155, P155⟩⟩ := Q155
      have N155 := Fr.app N151 M155
      have zz155 : n0 ≤ T155.heap.size := Nat.le_trans zz151 K155.1
      refine c155 ?_
      show OG p.tables e below _ (T155.setTop (mkF m 229 #[vr x0, vr x1, vr x2, vi 0, vi 4, vi x5, vi hi, vi wd, vi 3, vi sp, vi lo, vj lm, s2, vi sd, vj m149, s2, vi pb146, vi 3, vj bt116, s2] []))
      refine o_iload B155 229 231 (v := (3 : Int32)) d7_229 rfl rfl ?_
      refine o_ifY B155 231 235 d7_231 (XT.i0_ne_t (by decide)) (by decide) (by decide) ?_
      refine o_aloadN B155 235 236 (v := (.ref x0)) d7_235 rfl rfl rfl ?_
      have F156 := (F154.keep K155)
      obtain ⟨T157, B157, c157⟩ := o_callVP B155 236 239 d7_236 rfl (hw _ (mi 114 rfl)) (hw _ (mi 56 rfl)) (hw _ (mi 58 rfl)) (hw _ (mi 57 rfl)) (hw _ (mi 13 rfl)) (hw _ (mi 59 rfl)) (by decide) F156 (rm11 l Z a0 hw x0 s155 T155.heap H155_2) 0 [] [] pd___J rfl rfl (st := [(.ref x0)]) rfl (Ls := #[vr x0, vr x1, vr x2, vi 0, vi 4, vi x5, vi hi, vi wd, vi 3, vi sp, vi lo, vj lm, s2, vi sd, vj m149, s2, vi pb146, vi 3, vj bt116, s2]) rfl (Nat.le_of_eq rfl) (by decide) (by decide) (by decide) (by decide)
      refine c157 ?_
      refine o_topJ (show (f11 s155) = s155 from rfl) ?_
      refine o_lstore B157 239 241 (l' := #[vr x0, vr x1, vr x2, vi 0, vi 4, vi x5, vi hi, vi wd, vi 3, vi sp, vi lo, vj lm, s2, vi sd, vj m149, s2, vi pb146, vj s155, s2, us]) d7_239 rfl rfl ?_
      refine o_aloadN B157 241 242 (v := (.ref x0)) d7_241 rfl rfl rfl ?_
      refine o_iload B157 242 244 (v := (3 : Int32)) d7_242 rfl rfl ?_
      refine o_i2l B157 244 245 d7_244 rfl ?_
      refine o_topJ (show (3 : Int32).toInt64 = (3 : Int64) by decide) ?_
      refine o_iload B157 245 247 (v := sp) d7_245 rfl rfl ?_
      refine o_i2l B157 247 248 d7_247 rfl ?_
      refine o_lconst B157 248 249 (1 : Int64) d7_248 rfl (by decide) ?_
      refine o_lsub B157 249 250 d7_249 rfl ?_
      refine o_iload B157 250 252 (v := lo) d7_250 rfl rfl ?_
      refine o_lushr B157 252 253 d7_252 rfl ?_
      refine o_ladd B157 253 254 d7_253 rfl ?_
      refine o_lconst B157 254 255 (1 : Int64) d7_254 rfl (by decide) ?_
      refine o_ladd B157 255 256 d7_255 rfl ?_
      have eU := own_uL (sp.toInt64 - 1) lo L tlo (by omega) (by rw [own_s1 (by omega)]; omega)
      rw [own_s1 (by omega)] at eU
      have eV : 0 ≤ (sp.toInt - 1) / (2 ^ L : Nat) := Int.ediv_nonneg (by omega) (Int.natCast_nonneg _)
      obtain ⟨sk, hsk⟩ : ∃ q : Int64, q = (((3 : Int64) + (XT.ushrL (sp.toInt64 - (1 : Int64)) lo)) + (1 : Int64)) := ⟨_, rfl⟩
      rw [← hsk]
      have tsk : sk.toInt = 3 + (XT.ushrL (sp.toInt64 - 1) lo).toInt + 1 := by rw [hsk]; exact (own_sk3 (by omega))
      obtain ⟨v158, T158, L158, B158, Q158, c158⟩ := o_callV B157 256 259 d7_256 rfl (hw _ (mi 115 rfl)) (hw _ (mi 116 rfl)) (hw _ (mi 118 rfl)) (hw _ (mi 117 rfl)) (hw _ (mi 13 rfl)) (hw _ (mi 119 rfl)) (by decide) F156 (rm19 l Z a0 hw x0 yw g155 s155 sk T155.heap n0 zz155 ge_x0 ge_yw F156 H155_1 H155_2 J155 ne_x0_yw (by omega)) 0 [(.long sk)] [] pd__J_V rfl rfl (st := [(.long sk), (.ref x0)]) rfl (Ls := #[vr x0, vr x1, vr x2, vi 0, vi 4, vi x5, vi hi, vi wd, vi 3, vi sp, vi lo, vj lm, s2, vi sd, vj m149, s2, vi pb146, vj s155, s2, us]) rfl (Nat.le_of_eq rfl) (by decide) (by decide) (by decide) (by decide)
      obtain ⟨rfl, M158, K158, g158, s158, H158_1, H158_2, J158, rg158, t158⟩ := Q158
      have N158 := Fr.app N155 M158
      have zz158 : n0 ≤ T158.heap.size := Nat.le_trans zz155 K158.1
      refine c158 ?_
      show OG p.tables e below _ (T158.setTop (mkF m 259 #[vr x0, vr x1, vr x2, vi 0, vi 4, vi x5, vi hi, vi wd, vi 3, vi sp, vi lo, vj lm, s2, vi sd, vj m149, s2, vi pb146, vj s155, s2, us] []))
      refine o_iconst B158 259 260 (0 : Int32) d7_259 rfl (by decide) ?_
      refine o_istore B158 260 262 (l' := #[vr x0, vr x1, vr x2, vi 0, vi 4, vi x5, vi hi, vi wd, vi 3, vi sp, vi lo, vj lm, s2, vi sd, vj m149, s2, vi pb146, vj s155, s2, vi 0]) d7_260 rfl rfl ?_
      refine o_iload B158 262 264 (v := (0 : Int32)) d7_262 rfl rfl ?_
      refine o_iload B158 264 266 (v := (3 : Int32)) d7_264 rfl rfl ?_
      refine o_icN B158 266 269 d7_266 rfl (XT.ii_ge_f (by decide)) ?_
      refine o_aloadN B158 269 270 (v := (.ref x0)) d7_269 rfl rfl rfl ?_
      refine o_lload B158 270 272 (v := s155) d7_270 rfl rfl ?_
      refine o_aloadN B158 272 273 (v := (.ref x1)) d7_272 rfl rfl rfl ?_
      refine o_iloadN B158 273 274 (v := (0 : Int32)) d7_273 rfl rfl ?_
      refine o_iload B158 274 276 (v := (0 : Int32)) d7_274 rfl rfl ?_
      refine o_iadd B158 276 277 d7_276 rfl ?_
      refine o_topI (show ((0 : Int32) + (0 : Int32)) = (0 : Int32) by decide) ?_
      have F160 := ((((F113.keep K145 (ninS (Ne.symm ne_x0_x1) (ninS ne_x1_yw nin0))).keep K151 (ninS (Ne.symm ne_x0_x1) (ninS ne_x1_yw nin0))).keep K155 (ninS (Ne.symm ne_x0_x1) (ninS ne_x1_yw nin0))).keep K158 (ninS (Ne.symm ne_x0_x1) (ninS ne_x1_yw nin0)))
      refine o_iaload B158 277 278 F160 0 (gd 0) d7_277 rfl (by decide) (by decide) (by decide) rfl ?_
      refine o_iload B158 278 280 (v := x5) d7_278 rfl rfl ?_
      refine o_isub B158 280 281 d7_280 rfl ?_
      refine o_iload B158 281 283 (v := lo) d7_281 rfl rfl ?_
      refine o_iushr B158 283 284 d7_283 rfl ?_
      refine o_i2l B158 284 285 d7_284 rfl ?_
      refine o_ladd B158 285 286 d7_285 rfl ?_
      refine o_iload B158 286 288 (v := (0 : Int32)) d7_286 rfl rfl ?_
      refine o_i2l B158 288 289 d7_288 rfl ?_
      refine o_topJ (show (0 : Int32).toInt64 = (0 : Int64) by decide) ?_
      refine o_ladd B158 289 290 d7_289 rfl ?_
      have eS161 := own_us0 (gd 0 - x5) lo L tlo L1 (by rw [own_sub hd0.1 (by omega)]; omega)
      rw [own_sub hd0.1 (by omega)] at eS161
      have eD161 : ((gd 0).toInt - x5.toInt) / (2 ^ L : Nat) ≤ (sp.toInt - 1) / (2 ^ L : Nat) := Int.ediv_le_ediv (Int.natCast_pos.mpr (Nat.two_pow_pos L)) (by omega)
      have eN161 : 0 ≤ ((gd 0).toInt - x5.toInt) / (2 ^ L : Nat) := Int.ediv_nonneg (by omega) (Int.natCast_nonneg _)
      obtain ⟨ps161, hps161⟩ : ∃ q : Int64, q = ((s155 + (XT.ushr ((gd 0) - x5) lo).toInt64) + (0 : Int64)) := ⟨_, rfl⟩
      rw [← hps161]
      have tps161 : ps161.toInt = s155.toInt + ((gd 0).toInt - x5.toInt) / (2 ^ L : Nat) + 0 := by rw [hps161]; exact (own_ps (by omega) (by rw [eS161]; omega) (by rw [eS161]) (by decide))
      have F162 := (F156.keep K158)
      obtain ⟨v163, T163, L163, B163, Q163, c163⟩ := o_callV B158 290 293 d7_290 rfl (hw _ (mi 120 rfl)) (hw _ (mi 121 rfl)) (hw _ (mi 123 rfl)) (hw _ (mi 122 rfl)) (hw _ (mi 13 rfl)) (hw _ (mi 124 rfl)) (by decide) F162 (rm20 l Z a0 hw x0 yw g158 s158 ps161 T158.heap n0 zz158 ge_x0 ge_yw F162 H158_1 H158_2 J158 ne_x0_yw (by omega)) 0 [(.long ps161)] [] pd__J_V rfl rfl (st := [(.long ps161), (.ref x0)]) rfl (Ls := #[vr x0, vr x1, vr x2, vi 0, vi 4, vi x5, vi hi, vi wd, vi 3, vi sp, vi lo, vj lm, s2, vi sd, vj m149, s2, vi pb146, vj s155, s2, vi 0]) rfl (Nat.le_of_eq rfl) (by decide) (by decide) (by decide) (by decide)
      obtain ⟨rfl, M163, K163, g163, s163, H163_1, H163_2, J163, rz163, P163⟩ := Q163
      have N163 := Fr.app N158 M163
      have zz163 : n0 ≤ T163.heap.size := Nat.le_trans zz158 K163.1
      have u163 : s163.toInt = s158.toInt := by rw [rz163]
      refine c163 ?_
      show OG p.tables e below _ (T163.setTop (mkF m 293 #[vr x0, vr x1, vr x2, vi 0, vi 4, vi x5, vi hi, vi wd, vi 3, vi sp, vi lo, vj lm, s2, vi sd, vj m149, s2, vi pb146, vj s155, s2, vi 0] []))
      refine o_iincC B163 293 296 (l' := #[vr x0, vr x1, vr x2, vi 0, vi 4, vi x5, vi hi, vi wd, vi 3, vi sp, vi lo, vj lm, s2, vi sd, vj m149, s2, vi pb146, vj s155, s2, vi 1]) (1 : Int32) (1 : Int32) d7_293 rfl (by decide) rfl (by decide) rfl ?_
      refine o_goto B163 296 262 d7_296 (by decide) (by decide) ?_
      refine o_iload B163 262 264 (v := (1 : Int32)) d7_262 rfl rfl ?_
      refine o_iload B163 264 266 (v := (3 : Int32)) d7_264 rfl rfl ?_
      refine o_icN B163 266 269 d7_266 rfl (XT.ii_ge_f (by decide)) ?_
      refine o_aloadN B163 269 270 (v := (.ref x0)) d7_269 rfl rfl rfl ?_
      refine o_lload B163 270 272 (v := s155) d7_270 rfl rfl ?_
      refine o_aloadN B163 272 273 (v := (.ref x1)) d7_272 rfl rfl rfl ?_
      refine o_iloadN B163 273 274 (v := (0 : Int32)) d7_273 rfl rfl ?_
      refine o_iload B163 274 276 (v := (1 : Int32)) d7_274 rfl rfl ?_
      refine o_iadd B163 276 277 d7_276 rfl ?_
      refine o_topI (show ((0 : Int32) + (1 : Int32)) = (1 : Int32) by decide) ?_
      have F165 := (F160.keep K163 (ninS (Ne.symm ne_x0_x1) (ninS ne_x1_yw nin0)))
      refine o_iaload B163 277 278 F165 1 (gd 1) d7_277 rfl (by decide) (by decide) (by decide) rfl ?_
      refine o_iload B163 278 280 (v := x5) d7_278 rfl rfl ?_
      refine o_isub B163 280 281 d7_280 rfl ?_
      refine o_iload B163 281 283 (v := lo) d7_281 rfl rfl ?_
      refine o_iushr B163 283 284 d7_283 rfl ?_
      refine o_i2l B163 284 285 d7_284 rfl ?_
      refine o_ladd B163 285 286 d7_285 rfl ?_
      refine o_iload B163 286 288 (v := (1 : Int32)) d7_286 rfl rfl ?_
      refine o_i2l B163 288 289 d7_288 rfl ?_
      refine o_topJ (show (1 : Int32).toInt64 = (1 : Int64) by decide) ?_
      refine o_ladd B163 289 290 d7_289 rfl ?_
      have eS166 := own_us0 (gd 1 - x5) lo L tlo L1 (by rw [own_sub hd0.1 (by omega)]; omega)
      rw [own_sub hd0.1 (by omega)] at eS166
      have eD166 : ((gd 1).toInt - x5.toInt) / (2 ^ L : Nat) ≤ (sp.toInt - 1) / (2 ^ L : Nat) := Int.ediv_le_ediv (Int.natCast_pos.mpr (Nat.two_pow_pos L)) (by omega)
      have eN166 : 0 ≤ ((gd 1).toInt - x5.toInt) / (2 ^ L : Nat) := Int.ediv_nonneg (by omega) (Int.natCast_nonneg _)
      obtain ⟨ps166, hps166⟩ : ∃ q : Int64, q = ((s155 + (XT.ushr ((gd 1) - x5) lo).toInt64) + (1 : Int64)) := ⟨_, rfl⟩
      rw [← hps166]
      have tps166 : ps166.toInt = s155.toInt + ((gd 1).toInt - x5.toInt) / (2 ^ L : Nat) + 1 := by rw [hps166]; exact (own_ps (by omega) (by rw [eS166]; omega) (by rw [eS166]) (by decide))
      have F167 := (F162.keep K163)
      obtain ⟨v168, T168, L168, B168, Q168, c168⟩ := o_callV B163 290 293 d7_290 rfl (hw _ (mi 120 rfl)) (hw _ (mi 121 rfl)) (hw _ (mi 123 rfl)) (hw _ (mi 122 rfl)) (hw _ (mi 13 rfl)) (hw _ (mi 124 rfl)) (by decide) F167 (rm20 l Z a0 hw x0 yw g163 s163 ps166 T163.heap n0 zz163 ge_x0 ge_yw F167 H163_1 H163_2 J163 ne_x0_yw (by omega)) 0 [(.long ps166)] [] pd__J_V rfl rfl (st := [(.long ps166), (.ref x0)]) rfl (Ls := #[vr x0, vr x1, vr x2, vi 0, vi 4, vi x5, vi hi, vi wd, vi 3, vi sp, vi lo, vj lm, s2, vi sd, vj m149, s2, vi pb146, vj s155, s2, vi 1]) rfl (Nat.le_of_eq rfl) (by decide) (by decide) (by decide) (by decide)
      obtain ⟨rfl, M168, K168, g168, s168, H168_1, H168_2, J168, rz168, P168⟩ := Q168
      have N168 := Fr.app N163 M168
      have zz168 : n0 ≤ T168.heap.size := Nat.le_trans zz163 K168.1
      have u168 : s168.toInt = s163.toInt := by rw [rz168]
      refine c168 ?_
      show OG p.tables e below _ (T168.setTop (mkF m 293 #[vr x0, vr x1, vr x2, vi 0, vi 4, vi x5, vi hi, vi wd, vi 3, vi sp, vi lo, vj lm, s2, vi sd, vj m149, s2, vi pb146, vj s155, s2, vi 1] []))
      refine o_iincC B168 293 296 (l' := #[vr x0, vr x1, vr x2, vi 0, vi 4, vi x5, vi hi, vi wd, vi 3, vi sp, vi lo, vj lm, s2, vi sd, vj m149, s2, vi pb146, vj s155, s2, vi 2]) (1 : Int32) (2 : Int32) d7_293 rfl (by decide) rfl (by decide) rfl ?_
      refine o_goto B168 296 262 d7_296 (by decide) (by decide) ?_
      refine o_iload B168 262 264 (v := (2 : Int32)) d7_262 rfl rfl ?_
      refine o_iload B168 264 266 (v := (3 : Int32)) d7_264 rfl rfl ?_
      refine o_icN B168 266 269 d7_266 rfl (XT.ii_ge_f (by decide)) ?_
      refine o_aloadN B168 269 270 (v := (.ref x0)) d7_269 rfl rfl rfl ?_
      refine o_lload B168 270 272 (v := s155) d7_270 rfl rfl ?_
      refine o_aloadN B168 272 273 (v := (.ref x1)) d7_272 rfl rfl rfl ?_
      refine o_iloadN B168 273 274 (v := (0 : Int32)) d7_273 rfl rfl ?_
      refine o_iload B168 274 276 (v := (2 : Int32)) d7_274 rfl rfl ?_
      refine o_iadd B168 276 277 d7_276 rfl ?_
      refine o_topI (show ((0 : Int32) + (2 : Int32)) = (2 : Int32) by decide) ?_
      have F170 := (F165.keep K168 (ninS (Ne.symm ne_x0_x1) (ninS ne_x1_yw nin0)))
      refine o_iaload B168 277 278 F170 2 (gd 2) d7_277 rfl (by decide) (by decide) (by decide) rfl ?_
      refine o_iload B168 278 280 (v := x5) d7_278 rfl rfl ?_
      refine o_isub B168 280 281 d7_280 rfl ?_
      refine o_iload B168 281 283 (v := lo) d7_281 rfl rfl ?_
      refine o_iushr B168 283 284 d7_283 rfl ?_
      refine o_i2l B168 284 285 d7_284 rfl ?_
      refine o_ladd B168 285 286 d7_285 rfl ?_
      refine o_iload B168 286 288 (v := (2 : Int32)) d7_286 rfl rfl ?_
      refine o_i2l B168 288 289 d7_288 rfl ?_
      refine o_topJ (show (2 : Int32).toInt64 = (2 : Int64) by decide) ?_
      refine o_ladd B168 289 290 d7_289 rfl ?_
      have eS171 := own_us0 (gd 2 - x5) lo L tlo L1 (by rw [own_sub hd0.1 (by omega)]; omega)
      rw [own_sub hd0.1 (by omega)] at eS171
      have eD171 : ((gd 2).toInt - x5.toInt) / (2 ^ L : Nat) ≤ (sp.toInt - 1) / (2 ^ L : Nat) := Int.ediv_le_ediv (Int.natCast_pos.mpr (Nat.two_pow_pos L)) (by omega)
      have eN171 : 0 ≤ ((gd 2).toInt - x5.toInt) / (2 ^ L : Nat) := Int.ediv_nonneg (by omega) (Int.natCast_nonneg _)
      obtain ⟨ps171, hps171⟩ : ∃ q : Int64, q = ((s155 + (XT.ushr ((gd 2) - x5) lo).toInt64) + (2 : Int64)) := ⟨_, rfl⟩
      rw [← hps171]
      have tps171 : ps171.toInt = s155.toInt + ((gd 2).toInt - x5.toInt) / (2 ^ L : Nat) + 2 := by rw [hps171]; exact (own_ps (by omega) (by rw [eS171]; omega) (by rw [eS171]) (by decide))
      have F172 := (F167.keep K168)
      obtain ⟨v173, T173, L173, B173, Q173, c173⟩ := o_callV B168 290 293 d7_290 rfl (hw _ (mi 120 rfl)) (hw _ (mi 121 rfl)) (hw _ (mi 123 rfl)) (hw _ (mi 122 rfl)) (hw _ (mi 13 rfl)) (hw _ (mi 124 rfl)) (by decide) F172 (rm20 l Z a0 hw x0 yw g168 s168 ps171 T168.heap n0 zz168 ge_x0 ge_yw F172 H168_1 H168_2 J168 ne_x0_yw (by omega)) 0 [(.long ps171)] [] pd__J_V rfl rfl (st := [(.long ps171), (.ref x0)]) rfl (Ls := #[vr x0, vr x1, vr x2, vi 0, vi 4, vi x5, vi hi, vi wd, vi 3, vi sp, vi lo, vj lm, s2, vi sd, vj m149, s2, vi pb146, vj s155, s2, vi 2]) rfl (Nat.le_of_eq rfl) (by decide) (by decide) (by decide) (by decide)
      obtain ⟨rfl, M173, K173, g173, s173, H173_1, H173_2, J173, rz173, P173⟩ := Q173
      have N173 := Fr.app N168 M173
      have zz173 : n0 ≤ T173.heap.size := Nat.le_trans zz168 K173.1
      have u173 : s173.toInt = s168.toInt := by rw [rz173]
      refine c173 ?_
      show OG p.tables e below _ (T173.setTop (mkF m 293 #[vr x0, vr x1, vr x2, vi 0, vi 4, vi x5, vi hi, vi wd, vi 3, vi sp, vi lo, vj lm, s2, vi sd, vj m149, s2, vi pb146, vj s155, s2, vi 2] []))
      refine o_iincC B173 293 296 (l' := #[vr x0, vr x1, vr x2, vi 0, vi 4, vi x5, vi hi, vi wd, vi 3, vi sp, vi lo, vj lm, s2, vi sd, vj m149, s2, vi pb146, vj s155, s2, vi 3]) (1 : Int32) (3 : Int32) d7_293 rfl (by decide) rfl (by decide) rfl ?_
      refine o_goto B173 296 262 d7_296 (by decide) (by decide) ?_
      refine o_iload B173 262 264 (v := (3 : Int32)) d7_262 rfl rfl ?_
      refine o_iload B173 264 266 (v := (3 : Int32)) d7_264 rfl rfl ?_
      refine o_icY B173 266 299 d7_266 (XT.ii_ge_t (by decide)) (by decide) (by decide) ?_
      have eW : own_W4 gf = wd := by rw [hwd, hhi]; rfl
      have eL : f18 (gd 3 - x5) 3 = lo := by rw [hlo, hsp]
      have eT : s173.toInt = z.toInt + own_tot4 gd gf x5 := by unfold own_tot4; rw [eW, eL, tlo, ← hsp]; omega
      have eB : ∀ i, i < 5 → bitAt g173 (z.toInt.toNat + i) = (bitAt g (z.toInt.toNat + i) || (own_W4 gf).toInt64.toBitVec.getLsbD i) := by intro i hi5; rw [P173 _ (by omega), P168 _ (by omega), P163 _ (by omega), rg158, own_wol P155 _ (by omega), own_wol P151 _ (by omega), own_wol P145 _ (by omega), own_wol P107 _ (by omega), eW]; exact own_wof P30 i hi5
      have KT174 := ((((((((((Keep.refl h0 [x0, yw]).trans K30 (allS (Or.inl (mi 0 rfl)) (allS (Or.inl (mi 1 rfl)) all0))).trans K107 (allS (Or.inl (mi 0 rfl)) (allS (Or.inl (mi 1 rfl)) all0))).trans K145 (allS (Or.inl (mi 0 rfl)) (allS (Or.inl (mi 1 rfl)) all0))).trans K151 (allS (Or.inl (mi 0 rfl)) (allS (Or.inl (mi 1 rfl)) all0))).trans K155 (allS (Or.inl (mi 0 rfl)) (allS (Or.inl (mi 1 rfl)) all0))).trans K158 (allS (Or.inl (mi 0 rfl)) (allS (Or.inl (mi 1 rfl)) all0))).trans K163 (allS (Or.inl (mi 0 rfl)) (allS (Or.inl (mi 1 rfl)) all0))).trans K168 (allS (Or.inl (mi 0 rfl)) (allS (Or.inl (mi 1 rfl)) all0))).trans K173 (allS (Or.inl (mi 0 rfl)) (allS (Or.inl (mi 1 rfl)) all0)))
      exact o_retV B173 299 d7_299 hret hlk (by decide) (by decide) ⟨rfl, N173, KT174, g173, s173, H173_1, H173_2, J173, eT, eB⟩
theorem d14_0 : decode prog_18_method_3_code 0 = .ok (.aload_n 0, 1) := by decide +kernel
theorem d14_1 : decode prog_18_method_3_code 1 = .ok (.aload_n 1, 1) := by decide +kernel
theorem d14_2 : decode prog_18_method_3_code 2 = .ok (.putfield 45, 3) := by decide +kernel
theorem d14_5 : decode prog_18_method_3_code 5 = .ok (.aload_n 0, 1) := by decide +kernel
theorem d14_6 : decode prog_18_method_3_code 6 = .ok (.iload 4, 2) := by decide +kernel
theorem d14_8 : decode prog_18_method_3_code 8 = .ok (.putfield 49, 3) := by decide +kernel
theorem d14_11 : decode prog_18_method_3_code 11 = .ok (.aload_n 0, 1) := by decide +kernel
theorem d14_12 : decode prog_18_method_3_code 12 = .ok (.iload 5, 2) := by decide +kernel
theorem d14_14 : decode prog_18_method_3_code 14 = .ok (.putfield 53, 3) := by decide +kernel
theorem d14_17 : decode prog_18_method_3_code 17 = .ok (.aload_n 0, 1) := by decide +kernel
theorem d14_18 : decode prog_18_method_3_code 18 = .ok (.iload 6, 2) := by decide +kernel
theorem d14_20 : decode prog_18_method_3_code 20 = .ok (.putfield 56, 3) := by decide +kernel
theorem d14_23 : decode prog_18_method_3_code 23 = .ok (.aload_n 0, 1) := by decide +kernel
theorem d14_24 : decode prog_18_method_3_code 24 = .ok (.aload_n 1, 1) := by decide +kernel
theorem d14_25 : decode prog_18_method_3_code 25 = .ok (.lload_n 2, 1) := by decide +kernel
theorem d14_26 : decode prog_18_method_3_code 26 = .ok (.iconst 5, 1) := by decide +kernel
theorem d14_27 : decode prog_18_method_3_code 27 = .ok (.invokestatic 59, 3) := by decide +kernel
theorem d14_30 : decode prog_18_method_3_code 30 = .ok (.putfield 63, 3) := by decide +kernel
theorem d14_33 : decode prog_18_method_3_code 33 = .ok (.aload_n 0, 1) := by decide +kernel
theorem d14_34 : decode prog_18_method_3_code 34 = .ok (.iload 4, 2) := by decide +kernel
theorem d14_36 : decode prog_18_method_3_code 36 = .ok (.iconst 1, 1) := by decide +kernel
theorem d14_37 : decode prog_18_method_3_code 37 = .ok (.if_icmp .le 18, 3) := by decide +kernel
theorem d14_40 : decode prog_18_method_3_code 40 = .ok (.iload 6, 2) := by decide +kernel
theorem d14_42 : decode prog_18_method_3_code 42 = .ok (.iload 5, 2) := by decide +kernel
theorem d14_44 : decode prog_18_method_3_code 44 = .ok (.isub, 1) := by decide +kernel
theorem d14_45 : decode prog_18_method_3_code 45 = .ok (.iload 4, 2) := by decide +kernel
theorem d14_47 : decode prog_18_method_3_code 47 = .ok (.iconst 1, 1) := by decide +kernel
theorem d14_48 : decode prog_18_method_3_code 48 = .ok (.isub, 1) := by decide +kernel
theorem d14_49 : decode prog_18_method_3_code 49 = .ok (.invokestatic 29, 3) := by decide +kernel
theorem d14_52 : decode prog_18_method_3_code 52 = .ok (.goto 4, 3) := by decide +kernel
theorem d14_55 : decode prog_18_method_3_code 55 = .ok (.iconst 0, 1) := by decide +kernel
theorem d14_56 : decode prog_18_method_3_code 56 = .ok (.putfield 66, 3) := by decide +kernel
theorem d14_59 : decode prog_18_method_3_code 59 = .ok (.aload_n 0, 1) := by decide +kernel
theorem d14_60 : decode prog_18_method_3_code 60 = .ok (.lload_n 2, 1) := by decide +kernel
theorem d14_61 : decode prog_18_method_3_code 61 = .ok (.ldc2_w 68, 3) := by decide +kernel
theorem d14_64 : decode prog_18_method_3_code 64 = .ok (.ladd, 1) := by decide +kernel
theorem d14_65 : decode prog_18_method_3_code 65 = .ok (.putfield 70, 3) := by decide +kernel
theorem d14_68 : decode prog_18_method_3_code 68 = .ok (.aload_n 0, 1) := by decide +kernel
theorem d14_69 : decode prog_18_method_3_code 69 = .ok (.aload_n 0, 1) := by decide +kernel
theorem d14_70 : decode prog_18_method_3_code 70 = .ok (.getfield 70, 3) := by decide +kernel
theorem d14_73 : decode prog_18_method_3_code 73 = .ok (.iload 4, 2) := by decide +kernel
theorem d14_75 : decode prog_18_method_3_code 75 = .ok (.iconst 1, 1) := by decide +kernel
theorem d14_76 : decode prog_18_method_3_code 76 = .ok (.isub, 1) := by decide +kernel
theorem d14_77 : decode prog_18_method_3_code 77 = .ok (.i2l, 1) := by decide +kernel
theorem d14_78 : decode prog_18_method_3_code 78 = .ok (.aload_n 0, 1) := by decide +kernel
theorem d14_79 : decode prog_18_method_3_code 79 = .ok (.getfield 66, 3) := by decide +kernel
theorem d14_82 : decode prog_18_method_3_code 82 = .ok (.aload_n 0, 1) := by decide +kernel
theorem d14_83 : decode prog_18_method_3_code 83 = .ok (.getfield 63, 3) := by decide +kernel
theorem d14_86 : decode prog_18_method_3_code 86 = .ok (.iadd, 1) := by decide +kernel
theorem d14_87 : decode prog_18_method_3_code 87 = .ok (.i2l, 1) := by decide +kernel
theorem d14_88 : decode prog_18_method_3_code 88 = .ok (.lmul, 1) := by decide +kernel
theorem d14_89 : decode prog_18_method_3_code 89 = .ok (.ladd, 1) := by decide +kernel
theorem d14_90 : decode prog_18_method_3_code 90 = .ok (.aload_n 0, 1) := by decide +kernel
theorem d14_91 : decode prog_18_method_3_code 91 = .ok (.getfield 63, 3) := by decide +kernel
theorem d14_94 : decode prog_18_method_3_code 94 = .ok (.i2l, 1) := by decide +kernel
theorem d14_95 : decode prog_18_method_3_code 95 = .ok (.ladd, 1) := by decide +kernel
theorem d14_96 : decode prog_18_method_3_code 96 = .ok (.putfield 74, 3) := by decide +kernel
theorem d14_99 : decode prog_18_method_3_code 99 = .ok (.aload_n 0, 1) := by decide +kernel
theorem d14_100 : decode prog_18_method_3_code 100 = .ok (.iconst (-1), 1) := by decide +kernel
theorem d14_101 : decode prog_18_method_3_code 101 = .ok (.putfield 77, 3) := by decide +kernel
theorem d14_104 : decode prog_18_method_3_code 104 = .ok (.aload_n 0, 1) := by decide +kernel
theorem d14_105 : decode prog_18_method_3_code 105 = .ok (.aload_n 0, 1) := by decide +kernel
theorem d14_106 : decode prog_18_method_3_code 106 = .ok (.getfield 74, 3) := by decide +kernel
theorem d14_109 : decode prog_18_method_3_code 109 = .ok (.lconst 1, 1) := by decide +kernel
theorem d14_110 : decode prog_18_method_3_code 110 = .ok (.lsub, 1) := by decide +kernel
theorem d14_111 : decode prog_18_method_3_code 111 = .ok (.putfield 80, 3) := by decide +kernel
theorem d14_114 : decode prog_18_method_3_code 114 = .ok (.aload_n 0, 1) := by decide +kernel
theorem d14_115 : decode prog_18_method_3_code 115 = .ok (.iload 5, 2) := by decide +kernel
theorem d14_117 : decode prog_18_method_3_code 117 = .ok (.iconst 1, 1) := by decide +kernel
theorem d14_118 : decode prog_18_method_3_code 118 = .ok (.isub, 1) := by decide +kernel
theorem d14_119 : decode prog_18_method_3_code 119 = .ok (.putfield 83, 3) := by decide +kernel
theorem d14_122 : decode prog_18_method_3_code 122 = .ok (.aload_n 0, 1) := by decide +kernel
theorem d14_123 : decode prog_18_method_3_code 123 = .ok (.areturn, 1) := by decide +kernel
theorem pl14 : plainFor (⟨"com/example/micro_ranker/microranker/engine/Block", "load", "([JJIII)Lcom/example/micro_ranker/microranker/engine/Block;"⟩ : MethodName) = true := by first | exact plainFor_of_name (by first | (simp [plainName, overriddenIn]; done) | decide +kernel) | decide +kernel
theorem sn2 {a0 Z} (hw : HW a0 Z) : SN Z "com/example/micro_ranker/microranker/engine/Block" "count" "I" "words" "[J" := (slot_ne (a0 := a0) (C := "com/example/micro_ranker/microranker/engine/Block") (Or.inl (hw _ (mi 79 rfl))) (Or.inl (hw _ (mi 77 rfl))) (by decide) (t := .int) (t' := (.array .long)) rfl rfl)
theorem sn3 {a0 Z} (hw : HW a0 Z) : SN Z "com/example/micro_ranker/microranker/engine/Block" "base" "I" "words" "[J" := (slot_ne (a0 := a0) (C := "com/example/micro_ranker/microranker/engine/Block") (Or.inl (hw _ (mi 81 rfl))) (Or.inl (hw _ (mi 77 rfl))) (by decide) (t := .int) (t' := (.array .long)) rfl rfl)
theorem sn4 {a0 Z} (hw : HW a0 Z) : SN Z "com/example/micro_ranker/microranker/engine/Block" "base" "I" "count" "I" := (slot_ne (a0 := a0) (C := "com/example/micro_ranker/microranker/engine/Block") (Or.inl (hw _ (mi 81 rfl))) (Or.inl (hw _ (mi 79 rfl))) (by decide) (t := .int) (t' := .int) rfl rfl)
theorem sn5 {a0 Z} (hw : HW a0 Z) : SN Z "com/example/micro_ranker/microranker/engine/Block" "last" "I" "words" "[J" := (slot_ne (a0 := a0) (C := "com/example/micro_ranker/microranker/engine/Block") (Or.inl (hw _ (mi 83 rfl))) (Or.inl (hw _ (mi 77 rfl))) (by decide) (t := .int) (t' := (.array .long)) rfl rfl)
theorem sn6 {a0 Z} (hw : HW a0 Z) : SN Z "com/example/micro_ranker/microranker/engine/Block" "last" "I" "count" "I" := (slot_ne (a0 := a0) (C := "com/example/micro_ranker/microranker/engine/Block") (Or.inl (hw _ (mi 83 rfl))) (Or.inl (hw _ (mi 79 rfl))) (by decide) (t := .int) (t' := .int) rfl rfl)
theorem sn7 {a0 Z} (hw : HW a0 Z) : SN Z "com/example/micro_ranker/microranker/engine/Block" "last" "I" "base" "I" := (slot_ne (a0 := a0) (C := "com/example/micro_ranker/microranker/engine/Block") (Or.inl (hw _ (mi 83 rfl))) (Or.inl (hw _ (mi 81 rfl))) (by decide) (t := .int) (t' := .int) rfl rfl)
theorem pd___JJI_I : parseMethodDescriptor "([JJI)I" = some ⟨[(.array .long), .long, .int], some .int⟩ := by decide +kernel
theorem sn8 {a0 Z} (hw : HW a0 Z) : SN Z "com/example/micro_ranker/microranker/engine/Block" "frequencyWidth" "I" "words" "[J" := (slot_ne (a0 := a0) (C := "com/example/micro_ranker/microranker/engine/Block") (Or.inl (hw _ (mi 92 rfl))) (Or.inl (hw _ (mi 77 rfl))) (by decide) (t := .int) (t' := (.array .long)) rfl rfl)
theorem sn9 {a0 Z} (hw : HW a0 Z) : SN Z "com/example/micro_ranker/microranker/engine/Block" "frequencyWidth" "I" "count" "I" := (slot_ne (a0 := a0) (C := "com/example/micro_ranker/microranker/engine/Block") (Or.inl (hw _ (mi 92 rfl))) (Or.inl (hw _ (mi 79 rfl))) (by decide) (t := .int) (t' := .int) rfl rfl)
theorem sn10 {a0 Z} (hw : HW a0 Z) : SN Z "com/example/micro_ranker/microranker/engine/Block" "frequencyWidth" "I" "base" "I" := (slot_ne (a0 := a0) (C := "com/example/micro_ranker/microranker/engine/Block") (Or.inl (hw _ (mi 92 rfl))) (Or.inl (hw _ (mi 81 rfl))) (by decide) (t := .int) (t' := .int) rfl rfl)
theorem sn11 {a0 Z} (hw : HW a0 Z) : SN Z "com/example/micro_ranker/microranker/engine/Block" "frequencyWidth" "I" "last" "I" := (slot_ne (a0 := a0) (C := "com/example/micro_ranker/microranker/engine/Block") (Or.inl (hw _ (mi 92 rfl))) (Or.inl (hw _ (mi 83 rfl))) (by decide) (t := .int) (t' := .int) rfl rfl)
theorem sn12 {a0 Z} (hw : HW a0 Z) : SN Z "com/example/micro_ranker/microranker/engine/Block" "lowWidth" "I" "words" "[J" := (slot_ne (a0 := a0) (C := "com/example/micro_ranker/microranker/engine/Block") (Or.inl (hw _ (mi 94 rfl))) (Or.inl (hw _ (mi 77 rfl))) (by decide) (t := .int) (t' := (.array .long)) rfl rfl)
theorem sn13 {a0 Z} (hw : HW a0 Z) : SN Z "com/example/micro_ranker/microranker/engine/Block" "lowWidth" "I" "count" "I" := (slot_ne (a0 := a0) (C := "com/example/micro_ranker/microranker/engine/Block") (Or.inl (hw _ (mi 94 rfl))) (Or.inl (hw _ (mi 79 rfl))) (by decide) (t := .int) (t' := .int) rfl rfl)
theorem sn14 {a0 Z} (hw : HW a0 Z) : SN Z "com/example/micro_ranker/microranker/engine/Block" "lowWidth" "I" "base" "I" := (slot_ne (a0 := a0) (C := "com/example/micro_ranker/microranker/engine/Block") (Or.inl (hw _ (mi 94 rfl))) (Or.inl (hw _ (mi 81 rfl))) (by decide) (t := .int) (t' := .int) rfl rfl)
theorem sn15 {a0 Z} (hw : HW a0 Z) : SN Z "com/example/micro_ranker/microranker/engine/Block" "lowWidth" "I" "last" "I" := (slot_ne (a0 := a0) (C := "com/example/micro_ranker/microranker/engine/Block") (Or.inl (hw _ (mi 94 rfl))) (Or.inl (hw _ (mi 83 rfl))) (by decide) (t := .int) (t' := .int) rfl rfl)
theorem sn16 {a0 Z} (hw : HW a0 Z) : SN Z "com/example/micro_ranker/microranker/engine/Block" "lowWidth" "I" "frequencyWidth" "I" := (slot_ne (a0 := a0) (C := "com/example/micro_ranker/microranker/engine/Block") (Or.inl (hw _ (mi 94 rfl))) (Or.inl (hw _ (mi 92 rfl))) (by decide) (t := .int) (t' := .int) rfl rfl)
theorem sn17 {a0 Z} (hw : HW a0 Z) : SN Z "com/example/micro_ranker/microranker/engine/Block" "entries" "J" "words" "[J" := (slot_ne (a0 := a0) (C := "com/example/micro_ranker/microranker/engine/Block") (Or.inl (hw _ (mi 97 rfl))) (Or.inl (hw _ (mi 77 rfl))) (by decide) (t := .long) (t' := (.array .long)) rfl rfl)
theorem sn18 {a0 Z} (hw : HW a0 Z) : SN Z "com/example/micro_ranker/microranker/engine/Block" "entries" "J" "count" "I" := (slot_ne (a0 := a0) (C := "com/example/micro_ranker/microranker/engine/Block") (Or.inl (hw _ (mi 97 rfl))) (Or.inl (hw _ (mi 79 rfl))) (by decide) (t := .long) (t' := .int) rfl rfl)
theorem sn19 {a0 Z} (hw : HW a0 Z) : SN Z "com/example/micro_ranker/microranker/engine/Block" "entries" "J" "base" "I" := (slot_ne (a0 := a0) (C := "com/example/micro_ranker/microranker/engine/Block") (Or.inl (hw _ (mi 97 rfl))) (Or.inl (hw _ (mi 81 rfl))) (by decide) (t := .long) (t' := .int) rfl rfl)
theorem sn20 {a0 Z} (hw : HW a0 Z) : SN Z "com/example/micro_ranker/microranker/engine/Block" "entries" "J" "last" "I" := (slot_ne (a0 := a0) (C := "com/example/micro_ranker/microranker/engine/Block") (Or.inl (hw _ (mi 97 rfl))) (Or.inl (hw _ (mi 83 rfl))) (by decide) (t := .long) (t' := .int) rfl rfl)
theorem sn21 {a0 Z} (hw : HW a0 Z) : SN Z "com/example/micro_ranker/microranker/engine/Block" "entries" "J" "frequencyWidth" "I" := (slot_ne (a0 := a0) (C := "com/example/micro_ranker/microranker/engine/Block") (Or.inl (hw _ (mi 97 rfl))) (Or.inl (hw _ (mi 92 rfl))) (by decide) (t := .long) (t' := .int) rfl rfl)
theorem sn22 {a0 Z} (hw : HW a0 Z) : SN Z "com/example/micro_ranker/microranker/engine/Block" "entries" "J" "lowWidth" "I" := (slot_ne (a0 := a0) (C := "com/example/micro_ranker/microranker/engine/Block") (Or.inl (hw _ (mi 97 rfl))) (Or.inl (hw _ (mi 94 rfl))) (by decide) (t := .long) (t' := .int) rfl rfl)
theorem sn23 {a0 Z} (hw : HW a0 Z) : SN Z "com/example/micro_ranker/microranker/engine/Block" "lowWidth" "I" "entries" "J" := (slot_ne (a0 := a0) (C := "com/example/micro_ranker/microranker/engine/Block") (Or.inl (hw _ (mi 94 rfl))) (Or.inl (hw _ (mi 97 rfl))) (by decide) (t := .int) (t' := .long) rfl rfl)
theorem sn24 {a0 Z} (hw : HW a0 Z) : SN Z "com/example/micro_ranker/microranker/engine/Block" "frequencyWidth" "I" "lowWidth" "I" := (slot_ne (a0 := a0) (C := "com/example/micro_ranker/microranker/engine/Block") (Or.inl (hw _ (mi 92 rfl))) (Or.inl (hw _ (mi 94 rfl))) (by decide) (t := .int) (t' := .int) rfl rfl)
theorem sn25 {a0 Z} (hw : HW a0 Z) : SN Z "com/example/micro_ranker/microranker/engine/Block" "frequencyWidth" "I" "entries" "J" := (slot_ne (a0 := a0) (C := "com/example/micro_ranker/microranker/engine/Block") (Or.inl (hw _ (mi 92 rfl))) (Or.inl (hw _ (mi 97 rfl))) (by decide) (t := .int) (t' := .long) rfl rfl)
theorem sn26 {a0 Z} (hw : HW a0 Z) : SN Z "com/example/micro_ranker/microranker/engine/Block" "highs" "J" "words" "[J" := (slot_ne (a0 := a0) (C := "com/example/micro_ranker/microranker/engine/Block") (Or.inl (hw _ (mi 99 rfl))) (Or.inl (hw _ (mi 77 rfl))) (by decide) (t := .long) (t' := (.array .long)) rfl rfl)
theorem sn27 {a0 Z} (hw : HW a0 Z) : SN Z "com/example/micro_ranker/microranker/engine/Block" "highs" "J" "count" "I" := (slot_ne (a0 := a0) (C := "com/example/micro_ranker/microranker/engine/Block") (Or.inl (hw _ (mi 99 rfl))) (Or.inl (hw _ (mi 79 rfl))) (by decide) (t := .long) (t' := .int) rfl rfl)
theorem sn28 {a0 Z} (hw : HW a0 Z) : SN Z "com/example/micro_ranker/microranker/engine/Block" "highs" "J" "base" "I" := (slot_ne (a0 := a0) (C := "com/example/micro_ranker/microranker/engine/Block") (Or.inl (hw _ (mi 99 rfl))) (Or.inl (hw _ (mi 81 rfl))) (by decide) (t := .long) (t' := .int) rfl rfl)
theorem sn29 {a0 Z} (hw : HW a0 Z) : SN Z "com/example/micro_ranker/microranker/engine/Block" "highs" "J" "last" "I" := (slot_ne (a0 := a0) (C := "com/example/micro_ranker/microranker/engine/Block") (Or.inl (hw _ (mi 99 rfl))) (Or.inl (hw _ (mi 83 rfl))) (by decide) (t := .long) (t' := .int) rfl rfl)
theorem sn30 {a0 Z} (hw : HW a0 Z) : SN Z "com/example/micro_ranker/microranker/engine/Block" "highs" "J" "frequencyWidth" "I" := (slot_ne (a0 := a0) (C := "com/example/micro_ranker/microranker/engine/Block") (Or.inl (hw _ (mi 99 rfl))) (Or.inl (hw _ (mi 92 rfl))) (by decide) (t := .long) (t' := .int) rfl rfl)
theorem sn31 {a0 Z} (hw : HW a0 Z) : SN Z "com/example/micro_ranker/microranker/engine/Block" "highs" "J" "lowWidth" "I" := (slot_ne (a0 := a0) (C := "com/example/micro_ranker/microranker/engine/Block") (Or.inl (hw _ (mi 99 rfl))) (Or.inl (hw _ (mi 94 rfl))) (by decide) (t := .long) (t' := .int) rfl rfl)
theorem sn32 {a0 Z} (hw : HW a0 Z) : SN Z "com/example/micro_ranker/microranker/engine/Block" "highs" "J" "entries" "J" := (slot_ne (a0 := a0) (C := "com/example/micro_ranker/microranker/engine/Block") (Or.inl (hw _ (mi 99 rfl))) (Or.inl (hw _ (mi 97 rfl))) (by decide) (t := .long) (t' := .long) rfl rfl)
theorem sn33 {a0 Z} (hw : HW a0 Z) : SN Z "com/example/micro_ranker/microranker/engine/Block" "entry" "I" "words" "[J" := (slot_ne (a0 := a0) (C := "com/example/micro_ranker/microranker/engine/Block") (Or.inl (hw _ (mi 101 rfl))) (Or.inl (hw _ (mi 77 rfl))) (by decide) (t := .int) (t' := (.array .long)) rfl rfl)
theorem sn34 {a0 Z} (hw : HW a0 Z) : SN Z "com/example/micro_ranker/microranker/engine/Block" "entry" "I" "count" "I" := (slot_ne (a0 := a0) (C := "com/example/micro_ranker/microranker/engine/Block") (Or.inl (hw _ (mi 101 rfl))) (Or.inl (hw _ (mi 79 rfl))) (by decide) (t := .int) (t' := .int) rfl rfl)
theorem sn35 {a0 Z} (hw : HW a0 Z) : SN Z "com/example/micro_ranker/microranker/engine/Block" "entry" "I" "base" "I" := (slot_ne (a0 := a0) (C := "com/example/micro_ranker/microranker/engine/Block") (Or.inl (hw _ (mi 101 rfl))) (Or.inl (hw _ (mi 81 rfl))) (by decide) (t := .int) (t' := .int) rfl rfl)
theorem sn36 {a0 Z} (hw : HW a0 Z) : SN Z "com/example/micro_ranker/microranker/engine/Block" "entry" "I" "last" "I" := (slot_ne (a0 := a0) (C := "com/example/micro_ranker/microranker/engine/Block") (Or.inl (hw _ (mi 101 rfl))) (Or.inl (hw _ (mi 83 rfl))) (by decide) (t := .int) (t' := .int) rfl rfl)
theorem sn37 {a0 Z} (hw : HW a0 Z) : SN Z "com/example/micro_ranker/microranker/engine/Block" "entry" "I" "frequencyWidth" "I" := (slot_ne (a0 := a0) (C := "com/example/micro_ranker/microranker/engine/Block") (Or.inl (hw _ (mi 101 rfl))) (Or.inl (hw _ (mi 92 rfl))) (by decide) (t := .int) (t' := .int) rfl rfl)
theorem sn38 {a0 Z} (hw : HW a0 Z) : SN Z "com/example/micro_ranker/microranker/engine/Block" "entry" "I" "lowWidth" "I" := (slot_ne (a0 := a0) (C := "com/example/micro_ranker/microranker/engine/Block") (Or.inl (hw _ (mi 101 rfl))) (Or.inl (hw _ (mi 94 rfl))) (by decide) (t := .int) (t' := .int) rfl rfl)
theorem sn39 {a0 Z} (hw : HW a0 Z) : SN Z "com/example/micro_ranker/microranker/engine/Block" "entry" "I" "entries" "J" := (slot_ne (a0 := a0) (C := "com/example/micro_ranker/microranker/engine/Block") (Or.inl (hw _ (mi 101 rfl))) (Or.inl (hw _ (mi 97 rfl))) (by decide) (t := .int) (t' := .long) rfl rfl)
theorem sn40 {a0 Z} (hw : HW a0 Z) : SN Z "com/example/micro_ranker/microranker/engine/Block" "entry" "I" "highs" "J" := (slot_ne (a0 := a0) (C := "com/example/micro_ranker/microranker/engine/Block") (Or.inl (hw _ (mi 101 rfl))) (Or.inl (hw _ (mi 99 rfl))) (by decide) (t := .int) (t' := .long) rfl rfl)
theorem sn41 {a0 Z} (hw : HW a0 Z) : SN Z "com/example/micro_ranker/microranker/engine/Block" "highs" "J" "entry" "I" := (slot_ne (a0 := a0) (C := "com/example/micro_ranker/microranker/engine/Block") (Or.inl (hw _ (mi 99 rfl))) (Or.inl (hw _ (mi 101 rfl))) (by decide) (t := .long) (t' := .int) rfl rfl)
theorem sn42 {a0 Z} (hw : HW a0 Z) : SN Z "com/example/micro_ranker/microranker/engine/Block" "position" "J" "words" "[J" := (slot_ne (a0 := a0) (C := "com/example/micro_ranker/microranker/engine/Block") (Or.inl (hw _ (mi 103 rfl))) (Or.inl (hw _ (mi 77 rfl))) (by decide) (t := .long) (t' := (.array .long)) rfl rfl)
theorem sn43 {a0 Z} (hw : HW a0 Z) : SN Z "com/example/micro_ranker/microranker/engine/Block" "position" "J" "count" "I" := (slot_ne (a0 := a0) (C := "com/example/micro_ranker/microranker/engine/Block") (Or.inl (hw _ (mi 103 rfl))) (Or.inl (hw _ (mi 79 rfl))) (by decide) (t := .long) (t' := .int) rfl rfl)
theorem sn44 {a0 Z} (hw : HW a0 Z) : SN Z "com/example/micro_ranker/microranker/engine/Block" "position" "J" "base" "I" := (slot_ne (a0 := a0) (C := "com/example/micro_ranker/microranker/engine/Block") (Or.inl (hw _ (mi 103 rfl))) (Or.inl (hw _ (mi 81 rfl))) (by decide) (t := .long) (t' := .int) rfl rfl)
theorem sn45 {a0 Z} (hw : HW a0 Z) : SN Z "com/example/micro_ranker/microranker/engine/Block" "position" "J" "last" "I" := (slot_ne (a0 := a0) (C := "com/example/micro_ranker/microranker/engine/Block") (Or.inl (hw _ (mi 103 rfl))) (Or.inl (hw _ (mi 83 rfl))) (by decide) (t := .long) (t' := .int) rfl rfl)
theorem sn46 {a0 Z} (hw : HW a0 Z) : SN Z "com/example/micro_ranker/microranker/engine/Block" "position" "J" "frequencyWidth" "I" := (slot_ne (a0 := a0) (C := "com/example/micro_ranker/microranker/engine/Block") (Or.inl (hw _ (mi 103 rfl))) (Or.inl (hw _ (mi 92 rfl))) (by decide) (t := .long) (t' := .int) rfl rfl)
theorem sn47 {a0 Z} (hw : HW a0 Z) : SN Z "com/example/micro_ranker/microranker/engine/Block" "position" "J" "lowWidth" "I" := (slot_ne (a0 := a0) (C := "com/example/micro_ranker/microranker/engine/Block") (Or.inl (hw _ (mi 103 rfl))) (Or.inl (hw _ (mi 94 rfl))) (by decide) (t := .long) (t' := .int) rfl rfl)
theorem sn48 {a0 Z} (hw : HW a0 Z) : SN Z "com/example/micro_ranker/microranker/engine/Block" "position" "J" "entries" "J" := (slot_ne (a0 := a0) (C := "com/example/micro_ranker/microranker/engine/Block") (Or.inl (hw _ (mi 103 rfl))) (Or.inl (hw _ (mi 97 rfl))) (by decide) (t := .long) (t' := .long) rfl rfl)
theorem sn49 {a0 Z} (hw : HW a0 Z) : SN Z "com/example/micro_ranker/microranker/engine/Block" "position" "J" "highs" "J" := (slot_ne (a0 := a0) (C := "com/example/micro_ranker/microranker/engine/Block") (Or.inl (hw _ (mi 103 rfl))) (Or.inl (hw _ (mi 99 rfl))) (by decide) (t := .long) (t' := .long) rfl rfl)
theorem sn50 {a0 Z} (hw : HW a0 Z) : SN Z "com/example/micro_ranker/microranker/engine/Block" "position" "J" "entry" "I" := (slot_ne (a0 := a0) (C := "com/example/micro_ranker/microranker/engine/Block") (Or.inl (hw _ (mi 103 rfl))) (Or.inl (hw _ (mi 101 rfl))) (by decide) (t := .long) (t' := .int) rfl rfl)
theorem sn51 {a0 Z} (hw : HW a0 Z) : SN Z "com/example/micro_ranker/microranker/engine/Block" "document" "I" "words" "[J" := (slot_ne (a0 := a0) (C := "com/example/micro_ranker/microranker/engine/Block") (Or.inl (hw _ (mi 105 rfl))) (Or.inl (hw _ (mi 77 rfl))) (by decide) (t := .int) (t' := (.array .long)) rfl rfl)
theorem sn52 {a0 Z} (hw : HW a0 Z) : SN Z "com/example/micro_ranker/microranker/engine/Block" "document" "I" "count" "I" := (slot_ne (a0 := a0) (C := "com/example/micro_ranker/microranker/engine/Block") (Or.inl (hw _ (mi 105 rfl))) (Or.inl (hw _ (mi 79 rfl))) (by decide) (t := .int) (t' := .int) rfl rfl)
theorem sn53 {a0 Z} (hw : HW a0 Z) : SN Z "com/example/micro_ranker/microranker/engine/Block" "document" "I" "base" "I" := (slot_ne (a0 := a0) (C := "com/example/micro_ranker/microranker/engine/Block") (Or.inl (hw _ (mi 105 rfl))) (Or.inl (hw _ (mi 81 rfl))) (by decide) (t := .int) (t' := .int) rfl rfl)
theorem sn54 {a0 Z} (hw : HW a0 Z) : SN Z "com/example/micro_ranker/microranker/engine/Block" "document" "I" "last" "I" := (slot_ne (a0 := a0) (C := "com/example/micro_ranker/microranker/engine/Block") (Or.inl (hw _ (mi 105 rfl))) (Or.inl (hw _ (mi 83 rfl))) (by decide) (t := .int) (t' := .int) rfl rfl)
theorem sn55 {a0 Z} (hw : HW a0 Z) : SN Z "com/example/micro_ranker/microranker/engine/Block" "document" "I" "frequencyWidth" "I" := (slot_ne (a0 := a0) (C := "com/example/micro_ranker/microranker/engine/Block") (Or.inl (hw _ (mi 105 rfl))) (Or.inl (hw _ (mi 92 rfl))) (by decide) (t := .int) (t' := .int) rfl rfl)
theorem sn56 {a0 Z} (hw : HW a0 Z) : SN Z "com/example/micro_ranker/microranker/engine/Block" "document" "I" "lowWidth" "I" := (slot_ne (a0 := a0) (C := "com/example/micro_ranker/microranker/engine/Block") (Or.inl (hw _ (mi 105 rfl))) (Or.inl (hw _ (mi 94 rfl))) (by decide) (t := .int) (t' := .int) rfl rfl)
theorem sn57 {a0 Z} (hw : HW a0 Z) : SN Z "com/example/micro_ranker/microranker/engine/Block" "document" "I" "entries" "J" := (slot_ne (a0 := a0) (C := "com/example/micro_ranker/microranker/engine/Block") (Or.inl (hw _ (mi 105 rfl))) (Or.inl (hw _ (mi 97 rfl))) (by decide) (t := .int) (t' := .long) rfl rfl)
theorem sn58 {a0 Z} (hw : HW a0 Z) : SN Z "com/example/micro_ranker/microranker/engine/Block" "document" "I" "highs" "J" := (slot_ne (a0 := a0) (C := "com/example/micro_ranker/microranker/engine/Block") (Or.inl (hw _ (mi 105 rfl))) (Or.inl (hw _ (mi 99 rfl))) (by decide) (t := .int) (t' := .long) rfl rfl)
theorem sn59 {a0 Z} (hw : HW a0 Z) : SN Z "com/example/micro_ranker/microranker/engine/Block" "document" "I" "entry" "I" := (slot_ne (a0 := a0) (C := "com/example/micro_ranker/microranker/engine/Block") (Or.inl (hw _ (mi 105 rfl))) (Or.inl (hw _ (mi 101 rfl))) (by decide) (t := .int) (t' := .int) rfl rfl)
theorem sn60 {a0 Z} (hw : HW a0 Z) : SN Z "com/example/micro_ranker/microranker/engine/Block" "document" "I" "position" "J" := (slot_ne (a0 := a0) (C := "com/example/micro_ranker/microranker/engine/Block") (Or.inl (hw _ (mi 105 rfl))) (Or.inl (hw _ (mi 103 rfl))) (by decide) (t := .int) (t' := .long) rfl rfl)
theorem sn61 {a0 Z} (hw : HW a0 Z) : SN Z "com/example/micro_ranker/microranker/engine/Block" "count" "I" "base" "I" := (slot_ne (a0 := a0) (C := "com/example/micro_ranker/microranker/engine/Block") (Or.inl (hw _ (mi 79 rfl))) (Or.inl (hw _ (mi 81 rfl))) (by decide) (t := .int) (t' := .int) rfl rfl)
theorem sn62 {a0 Z} (hw : HW a0 Z) : SN Z "com/example/micro_ranker/microranker/engine/Block" "count" "I" "last" "I" := (slot_ne (a0 := a0) (C := "com/example/micro_ranker/microranker/engine/Block") (Or.inl (hw _ (mi 79 rfl))) (Or.inl (hw _ (mi 83 rfl))) (by decide) (t := .int) (t' := .int) rfl rfl)
theorem sn63 {a0 Z} (hw : HW a0 Z) : SN Z "com/example/micro_ranker/microranker/engine/Block" "count" "I" "frequencyWidth" "I" := (slot_ne (a0 := a0) (C := "com/example/micro_ranker/microranker/engine/Block") (Or.inl (hw _ (mi 79 rfl))) (Or.inl (hw _ (mi 92 rfl))) (by decide) (t := .int) (t' := .int) rfl rfl)
theorem sn64 {a0 Z} (hw : HW a0 Z) : SN Z "com/example/micro_ranker/microranker/engine/Block" "count" "I" "lowWidth" "I" := (slot_ne (a0 := a0) (C := "com/example/micro_ranker/microranker/engine/Block") (Or.inl (hw _ (mi 79 rfl))) (Or.inl (hw _ (mi 94 rfl))) (by decide) (t := .int) (t' := .int) rfl rfl)
theorem sn65 {a0 Z} (hw : HW a0 Z) : SN Z "com/example/micro_ranker/microranker/engine/Block" "count" "I" "entries" "J" := (slot_ne (a0 := a0) (C := "com/example/micro_ranker/microranker/engine/Block") (Or.inl (hw _ (mi 79 rfl))) (Or.inl (hw _ (mi 97 rfl))) (by decide) (t := .int) (t' := .long) rfl rfl)
theorem sn66 {a0 Z} (hw : HW a0 Z) : SN Z "com/example/micro_ranker/microranker/engine/Block" "count" "I" "highs" "J" := (slot_ne (a0 := a0) (C := "com/example/micro_ranker/microranker/engine/Block") (Or.inl (hw _ (mi 79 rfl))) (Or.inl (hw _ (mi 99 rfl))) (by decide) (t := .int) (t' := .long) rfl rfl)
theorem sn67 {a0 Z} (hw : HW a0 Z) : SN Z "com/example/micro_ranker/microranker/engine/Block" "count" "I" "entry" "I" := (slot_ne (a0 := a0) (C := "com/example/micro_ranker/microranker/engine/Block") (Or.inl (hw _ (mi 79 rfl))) (Or.inl (hw _ (mi 101 rfl))) (by decide) (t := .int) (t' := .int) rfl rfl)
theorem sn68 {a0 Z} (hw : HW a0 Z) : SN Z "com/example/micro_ranker/microranker/engine/Block" "count" "I" "position" "J" := (slot_ne (a0 := a0) (C := "com/example/micro_ranker/microranker/engine/Block") (Or.inl (hw _ (mi 79 rfl))) (Or.inl (hw _ (mi 103 rfl))) (by decide) (t := .int) (t' := .long) rfl rfl)
theorem sn69 {a0 Z} (hw : HW a0 Z) : SN Z "com/example/micro_ranker/microranker/engine/Block" "count" "I" "document" "I" := (slot_ne (a0 := a0) (C := "com/example/micro_ranker/microranker/engine/Block") (Or.inl (hw _ (mi 79 rfl))) (Or.inl (hw _ (mi 105 rfl))) (by decide) (t := .int) (t' := .int) rfl rfl)
theorem sn70 {a0 Z} (hw : HW a0 Z) : SN Z "com/example/micro_ranker/microranker/engine/Block" "last" "I" "frequencyWidth" "I" := (slot_ne (a0 := a0) (C := "com/example/micro_ranker/microranker/engine/Block") (Or.inl (hw _ (mi 83 rfl))) (Or.inl (hw _ (mi 92 rfl))) (by decide) (t := .int) (t' := .int) rfl rfl)
theorem sn71 {a0 Z} (hw : HW a0 Z) : SN Z "com/example/micro_ranker/microranker/engine/Block" "last" "I" "lowWidth" "I" := (slot_ne (a0 := a0) (C := "com/example/micro_ranker/microranker/engine/Block") (Or.inl (hw _ (mi 83 rfl))) (Or.inl (hw _ (mi 94 rfl))) (by decide) (t := .int) (t' := .int) rfl rfl)
theorem sn72 {a0 Z} (hw : HW a0 Z) : SN Z "com/example/micro_ranker/microranker/engine/Block" "last" "I" "entries" "J" := (slot_ne (a0 := a0) (C := "com/example/micro_ranker/microranker/engine/Block") (Or.inl (hw _ (mi 83 rfl))) (Or.inl (hw _ (mi 97 rfl))) (by decide) (t := .int) (t' := .long) rfl rfl)
theorem sn73 {a0 Z} (hw : HW a0 Z) : SN Z "com/example/micro_ranker/microranker/engine/Block" "last" "I" "highs" "J" := (slot_ne (a0 := a0) (C := "com/example/micro_ranker/microranker/engine/Block") (Or.inl (hw _ (mi 83 rfl))) (Or.inl (hw _ (mi 99 rfl))) (by decide) (t := .int) (t' := .long) rfl rfl)
theorem sn74 {a0 Z} (hw : HW a0 Z) : SN Z "com/example/micro_ranker/microranker/engine/Block" "last" "I" "entry" "I" := (slot_ne (a0 := a0) (C := "com/example/micro_ranker/microranker/engine/Block") (Or.inl (hw _ (mi 83 rfl))) (Or.inl (hw _ (mi 101 rfl))) (by decide) (t := .int) (t' := .int) rfl rfl)
theorem sn75 {a0 Z} (hw : HW a0 Z) : SN Z "com/example/micro_ranker/microranker/engine/Block" "last" "I" "position" "J" := (slot_ne (a0 := a0) (C := "com/example/micro_ranker/microranker/engine/Block") (Or.inl (hw _ (mi 83 rfl))) (Or.inl (hw _ (mi 103 rfl))) (by decide) (t := .int) (t' := .long) rfl rfl)
theorem sn76 {a0 Z} (hw : HW a0 Z) : SN Z "com/example/micro_ranker/microranker/engine/Block" "last" "I" "document" "I" := (slot_ne (a0 := a0) (C := "com/example/micro_ranker/microranker/engine/Block") (Or.inl (hw _ (mi 83 rfl))) (Or.inl (hw _ (mi 105 rfl))) (by decide) (t := .int) (t' := .int) rfl rfl)
theorem sn77 {a0 Z} (hw : HW a0 Z) : SN Z "com/example/micro_ranker/microranker/engine/Block" "base" "I" "last" "I" := (slot_ne (a0 := a0) (C := "com/example/micro_ranker/microranker/engine/Block") (Or.inl (hw _ (mi 81 rfl))) (Or.inl (hw _ (mi 83 rfl))) (by decide) (t := .int) (t' := .int) rfl rfl)
theorem sn78 {a0 Z} (hw : HW a0 Z) : SN Z "com/example/micro_ranker/microranker/engine/Block" "base" "I" "frequencyWidth" "I" := (slot_ne (a0 := a0) (C := "com/example/micro_ranker/microranker/engine/Block") (Or.inl (hw _ (mi 81 rfl))) (Or.inl (hw _ (mi 92 rfl))) (by decide) (t := .int) (t' := .int) rfl rfl)
theorem sn79 {a0 Z} (hw : HW a0 Z) : SN Z "com/example/micro_ranker/microranker/engine/Block" "base" "I" "lowWidth" "I" := (slot_ne (a0 := a0) (C := "com/example/micro_ranker/microranker/engine/Block") (Or.inl (hw _ (mi 81 rfl))) (Or.inl (hw _ (mi 94 rfl))) (by decide) (t := .int) (t' := .int) rfl rfl)
theorem sn80 {a0 Z} (hw : HW a0 Z) : SN Z "com/example/micro_ranker/microranker/engine/Block" "base" "I" "entries" "J" := (slot_ne (a0 := a0) (C := "com/example/micro_ranker/microranker/engine/Block") (Or.inl (hw _ (mi 81 rfl))) (Or.inl (hw _ (mi 97 rfl))) (by decide) (t := .int) (t' := .long) rfl rfl)
theorem sn81 {a0 Z} (hw : HW a0 Z) : SN Z "com/example/micro_ranker/microranker/engine/Block" "base" "I" "highs" "J" := (slot_ne (a0 := a0) (C := "com/example/micro_ranker/microranker/engine/Block") (Or.inl (hw _ (mi 81 rfl))) (Or.inl (hw _ (mi 99 rfl))) (by decide) (t := .int) (t' := .long) rfl rfl)
theorem sn82 {a0 Z} (hw : HW a0 Z) : SN Z "com/example/micro_ranker/microranker/engine/Block" "base" "I" "entry" "I" := (slot_ne (a0 := a0) (C := "com/example/micro_ranker/microranker/engine/Block") (Or.inl (hw _ (mi 81 rfl))) (Or.inl (hw _ (mi 101 rfl))) (by decide) (t := .int) (t' := .int) rfl rfl)
theorem sn83 {a0 Z} (hw : HW a0 Z) : SN Z "com/example/micro_ranker/microranker/engine/Block" "base" "I" "position" "J" := (slot_ne (a0 := a0) (C := "com/example/micro_ranker/microranker/engine/Block") (Or.inl (hw _ (mi 81 rfl))) (Or.inl (hw _ (mi 103 rfl))) (by decide) (t := .int) (t' := .long) rfl rfl)
theorem sn84 {a0 Z} (hw : HW a0 Z) : SN Z "com/example/micro_ranker/microranker/engine/Block" "base" "I" "document" "I" := (slot_ne (a0 := a0) (C := "com/example/micro_ranker/microranker/engine/Block") (Or.inl (hw _ (mi 81 rfl))) (Or.inl (hw _ (mi 105 rfl))) (by decide) (t := .int) (t' := .int) rfl rfl)
theorem sn85 {a0 Z} (hw : HW a0 Z) : SN Z "com/example/micro_ranker/microranker/engine/Block" "lowWidth" "I" "highs" "J" := (slot_ne (a0 := a0) (C := "com/example/micro_ranker/microranker/engine/Block") (Or.inl (hw _ (mi 94 rfl))) (Or.inl (hw _ (mi 99 rfl))) (by decide) (t := .int) (t' := .long) rfl rfl)
theorem sn86 {a0 Z} (hw : HW a0 Z) : SN Z "com/example/micro_ranker/microranker/engine/Block" "lowWidth" "I" "entry" "I" := (slot_ne (a0 := a0) (C := "com/example/micro_ranker/microranker/engine/Block") (Or.inl (hw _ (mi 94 rfl))) (Or.inl (hw _ (mi 101 rfl))) (by decide) (t := .int) (t' := .int) rfl rfl)
theorem sn87 {a0 Z} (hw : HW a0 Z) : SN Z "com/example/micro_ranker/microranker/engine/Block" "lowWidth" "I" "position" "J" := (slot_ne (a0 := a0) (C := "com/example/micro_ranker/microranker/engine/Block") (Or.inl (hw _ (mi 94 rfl))) (Or.inl (hw _ (mi 103 rfl))) (by decide) (t := .int) (t' := .long) rfl rfl)
theorem sn88 {a0 Z} (hw : HW a0 Z) : SN Z "com/example/micro_ranker/microranker/engine/Block" "lowWidth" "I" "document" "I" := (slot_ne (a0 := a0) (C := "com/example/micro_ranker/microranker/engine/Block") (Or.inl (hw _ (mi 94 rfl))) (Or.inl (hw _ (mi 105 rfl))) (by decide) (t := .int) (t' := .int) rfl rfl)
theorem sn89 {a0 Z} (hw : HW a0 Z) : SN Z "com/example/micro_ranker/microranker/engine/Block" "highs" "J" "position" "J" := (slot_ne (a0 := a0) (C := "com/example/micro_ranker/microranker/engine/Block") (Or.inl (hw _ (mi 99 rfl))) (Or.inl (hw _ (mi 103 rfl))) (by decide) (t := .long) (t' := .long) rfl rfl)
theorem sn90 {a0 Z} (hw : HW a0 Z) : SN Z "com/example/micro_ranker/microranker/engine/Block" "highs" "J" "document" "I" := (slot_ne (a0 := a0) (C := "com/example/micro_ranker/microranker/engine/Block") (Or.inl (hw _ (mi 99 rfl))) (Or.inl (hw _ (mi 105 rfl))) (by decide) (t := .long) (t' := .int) rfl rfl)
theorem sn91 {a0 Z} (hw : HW a0 Z) : SN Z "com/example/micro_ranker/microranker/engine/Block" "entries" "J" "highs" "J" := (slot_ne (a0 := a0) (C := "com/example/micro_ranker/microranker/engine/Block") (Or.inl (hw _ (mi 97 rfl))) (Or.inl (hw _ (mi 99 rfl))) (by decide) (t := .long) (t' := .long) rfl rfl)
theorem sn92 {a0 Z} (hw : HW a0 Z) : SN Z "com/example/micro_ranker/microranker/engine/Block" "entries" "J" "entry" "I" := (slot_ne (a0 := a0) (C := "com/example/micro_ranker/microranker/engine/Block") (Or.inl (hw _ (mi 97 rfl))) (Or.inl (hw _ (mi 101 rfl))) (by decide) (t := .long) (t' := .int) rfl rfl)
theorem sn93 {a0 Z} (hw : HW a0 Z) : SN Z "com/example/micro_ranker/microranker/engine/Block" "entries" "J" "position" "J" := (slot_ne (a0 := a0) (C := "com/example/micro_ranker/microranker/engine/Block") (Or.inl (hw _ (mi 97 rfl))) (Or.inl (hw _ (mi 103 rfl))) (by decide) (t := .long) (t' := .long) rfl rfl)
theorem sn94 {a0 Z} (hw : HW a0 Z) : SN Z "com/example/micro_ranker/microranker/engine/Block" "entries" "J" "document" "I" := (slot_ne (a0 := a0) (C := "com/example/micro_ranker/microranker/engine/Block") (Or.inl (hw _ (mi 97 rfl))) (Or.inl (hw _ (mi 105 rfl))) (by decide) (t := .long) (t' := .int) rfl rfl)
def Q14_1 (Z : State) (a : Addr) (yw : Addr) (g : Nat → Int64) (x1 : Int64) (x3 : Int32) (x4 : Int32) (h0 : Heap) (n0 : Nat) (v : Option Value) (h : Heap) (L : List Loc) : Prop := v = some (.ref a) ∧ Fr n0 L ∧ Keep h0 h [a] ∧ Fld Z h a "com/example/micro_ranker/microranker/engine/Block" "count" "I" (.int (1 : Int32)) ∧ Fld Z h a "com/example/micro_ranker/microranker/engine/Block" "last" "I" (.int x4) ∧ Fld Z h a "com/example/micro_ranker/microranker/engine/Block" "base" "I" (.int x3) ∧ Fld Z h a "com/example/micro_ranker/microranker/engine/Block" "lowWidth" "I" (.int (0 : Int32)) ∧ Fld Z h a "com/example/micro_ranker/microranker/engine/Block" "highs" "J" (.long (((x1 + (5 : Int64)) + ((0 : Int64) * ((0 : Int32) + (f15 g x1 (5 : Int32))).toInt64)) + (f15 g x1 (5 : Int32)).toInt64)) ∧ Fld Z h a "com/example/micro_ranker/microranker/engine/Block" "entries" "J" (.long (x1 + (5 : Int64)))
set_option maxRecDepth 65536 in
set_option maxHeartbeats 400000000 in
theorem rm14_1 (l : Launch) (Z : State) (a0 : Array Value) (hw : ∀ d ∈ tables_1, d.before a0 Z = true) (a : Addr) (yw : Addr) (g : Nat → Int64) (x1 : Int64) (x3 : Int32) (x4 : Int32) (h0 : Heap) (n0 : Nat) (hz : n0 ≤ h0.size) (ge_a : n0 ≤ a) (hE : Exa Z h0 a "com/example/micro_ranker/microranker/engine/Block") (G_words : Fld Z h0 a "com/example/micro_ranker/microranker/engine/Block" "words" "[J" .null) (G_count : Fld Z h0 a "com/example/micro_ranker/microranker/engine/Block" "count" "I" (.int (0 : Int32))) (G_base : Fld Z h0 a "com/example/micro_ranker/microranker/engine/Block" "base" "I" (.int (0 : Int32))) (G_last : Fld Z h0 a "com/example/micro_ranker/microranker/engine/Block" "last" "I" (.int (0 : Int32))) (G_frequencyWidth : Fld Z h0 a "com/example/micro_ranker/microranker/engine/Block" "frequencyWidth" "I" (.int (0 : Int32))) (G_lowWidth : Fld Z h0 a "com/example/micro_ranker/microranker/engine/Block" "lowWidth" "I" (.int (0 : Int32))) (G_entries : Fld Z h0 a "com/example/micro_ranker/microranker/engine/Block" "entries" "J" (.long (0 : Int64))) (G_highs : Fld Z h0 a "com/example/micro_ranker/microranker/engine/Block" "highs" "J" (.long (0 : Int64))) (G_entry : Fld Z h0 a "com/example/micro_ranker/microranker/engine/Block" "entry" "I" (.int (0 : Int32))) (G_position : Fld Z h0 a "com/example/micro_ranker/microranker/engine/Block" "position" "J" (.long (0 : Int64))) (G_document : Fld Z h0 a "com/example/micro_ranker/microranker/engine/Block" "document" "I" (.int (0 : Int32))) (A_yw : AJ Z h0 yw 8 g) (ne_a_yw : a ≠ yw) (hx : 0 ≤ x1.toInt ∧ x1.toInt ≤ 447) :
    Met l Z (⟨"com/example/micro_ranker/microranker/engine/Block", "load", "([JJIII)Lcom/example/micro_ranker/microranker/engine/Block;"⟩ : MethodName) prog_18_method_3_code 7 (some (.object "com/example/micro_ranker/microranker/engine/Block")) ({ frames := 2, cells := 0, slots := 0, locals := 32 } : Room) #[(.ref a), (.ref yw), (.long x1), (.int (1 : Int32)), (.int x3), (.int x4)] h0 (Q14_1 Z a yw g x1 x3 x4 h0 n0) := by
  refine enter pl14 #[vr a, vr yw, vj x1, s2, vi 1, vi x3, vi x4] rfl ?_
  intro p e s m below meth c T B hret hlk hnm
  have N0 := Fr.nil n0
  refine o_aloadN B 0 1 (v := (.ref a)) d14_0 rfl rfl rfl ?_
  refine o_aloadN B 1 2 (v := (.ref yw)) d14_1 rfl rfl rfl ?_
  obtain ⟨T1, h1, L1, B1, N1, W1, c1⟩ := o_putfield B N0 ge_a 2 5 (v := (.ref yw)) d14_2 rfl (host := "") (Or.inl (hw _ (mi 76 rfl))) Via.refl G_words hE (Or.inl (hw _ (mi 77 rfl))) (hw _ (mi 61 rfl)) (ty := (.array .long)) (by decide) rfl rfl (Ls := #[vr a, vr yw, vj x1, s2, vi 1, vi x3, vi x4]) (rest := [])
  have F1 : Fld Z h1 a "com/example/micro_ranker/microranker/engine/Block" "words" "[J" (.ref yw) := Fld.same W1 G_words
  refine c1 ?_
  refine o_aloadN B1 5 6 (v := (.ref a)) d14_5 rfl rfl rfl ?_
  refine o_iload B1 6 8 (v := (1 : Int32)) d14_6 rfl rfl ?_
  have F3 := (Fld.other W1 G_count (Or.inr (sn2 hw)))
  have F4 := (Exa.wr W1 hE)
  obtain ⟨T2, h2, L2, B2, N2, W2, c2⟩ := o_putfield B1 N1 ge_a 8 11 (v := (.int (1 : Int32))) d14_8 rfl (host := "") (Or.inl (hw _ (mi 78 rfl))) Via.refl F3 F4 (Or.inl (hw _ (mi 79 rfl))) (hw _ (mi 61 rfl)) (ty := .int) (by decide) rfl rfl (Ls := #[vr a, vr yw, vj x1, s2, vi 1, vi x3, vi x4]) (rest := [])
  have F2 : Fld Z h2 a "com/example/micro_ranker/microranker/engine/Block" "count" "I" (.int (1 : Int32)) := Fld.same W2 F3
  refine c2 ?_
  refine o_aloadN B2 11 12 (v := (.ref a)) d14_11 rfl rfl rfl ?_
  refine o_iload B2 12 14 (v := x3) d14_12 rfl rfl ?_
  have F6 := (Fld.other W2 (Fld.other W1 G_base (Or.inr (sn3 hw))) (Or.inr (sn4 hw)))
  have F7 := (Exa.wr W2 F4)
  obtain ⟨T5, h5, L5, B5, N5, W5, c5⟩ := o_putfield B2 N2 ge_a 14 17 (v := (.int x3)) d14_14 rfl (host := "") (Or.inl (hw _ (mi 80 rfl))) Via.refl F6 F7 (Or.inl (hw _ (mi 81 rfl))) (hw _ (mi 61 rfl)) (ty := .int) (by decide) rfl rfl (Ls := #[vr a, vr yw, vj x1, s2, vi 1, vi x3, vi x4]) (rest := [])
  have F5 : Fld Z h5 a "com/example/micro_ranker/microranker/engine/Block" "base" "I" (.int x3) := Fld.same W5 F6
  refine c5 ?_
  refine o_aloadN B5 17 18 (v := (.ref a)) d14_17 rfl rfl rfl ?_
  refine o_iload B5 18 20 (v := x4) d14_18 rfl rfl ?_
  have F9 := (Fld.other W5 (Fld.other W2 (Fld.other W1 G_last (Or.inr (sn5 hw))) (Or.inr (sn6 hw))) (Or.inr (sn7 hw)))
  have F10 := (Exa.wr W5 F7)
  obtain ⟨T8, h8, L8, B8, N8, W8, c8⟩ := o_putfield B5 N5 ge_a 20 23 (v := (.int x4)) d14_20 rfl (host := "") (Or.inl (hw _ (mi 82 rfl))) Via.refl F9 F10 (Or.inl (hw _ (mi 83 rfl))) (hw _ (mi 61 rfl)) (ty := .int) (by decide) rfl rfl (Ls := #[vr a, vr yw, vj x1, s2, vi 1, vi x3, vi x4]) (rest := [])
  have F8 : Fld Z h8 a "com/example/micro_ranker/microranker/engine/Block" "last" "I" (.int x4) := Fld.same W8 F9
  refine c8 ?_
  refine o_aloadN B8 23 24 (v := (.ref a)) d14_23 rfl rfl rfl ?_
  refine o_aloadN B8 24 25 (v := (.ref yw)) d14_24 rfl rfl rfl ?_
  refine o_lloadN B8 25 26 (v := x1) d14_25 rfl rfl ?_
  refine o_iconst B8 26 27 (5 : Int32) d14_26 rfl (by decide) ?_
  have F11 := ((((A_yw.other W1 (Ne.symm ne_a_yw)).other W2 (Ne.symm ne_a_yw)).other W5 (Ne.symm ne_a_yw)).other W8 (Ne.symm ne_a_yw))
  obtain ⟨T12, B12, c12⟩ := o_callP B8 27 30 d14_27 rfl (hw _ (mi 84 rfl)) (hw _ (mi 85 rfl)) (hw _ (mi 41 rfl)) (hw _ (mi 86 rfl)) (by decide) (rm15 l Z a0 hw g yw x1 (5 : Int32) h8 F11 hx) 1 [(.ref yw), (.long x1), (.int (5 : Int32))] [(.ref a)] pd___JJI_I rfl rfl (st := [(.int (5 : Int32)), (.long x1), (.ref yw), (.ref a)]) rfl (Ls := #[vr a, vr yw, vj x1, s2, vi 1, vi x3, vi x4]) rfl (Nat.le_of_eq rfl) (by decide) (by decide) (by decide) (by decide)
  refine c12 ?_
  have F14 := (Fld.other W8 (Fld.other W5 (Fld.other W2 (Fld.other W1 G_frequencyWidth (Or.inr (sn8 hw))) (Or.inr (sn9 hw))) (Or.inr (sn10 hw))) (Or.inr (sn11 hw)))
  have F15 := (Exa.wr W8 F10)
  obtain ⟨T13, h13, L13, B13, N13, W13, c13⟩ := o_putfield B12 N8 ge_a 30 33 (v := (.int (f15 g x1 (5 : Int32)))) d14_30 rfl (host := "") (Or.inl (hw _ (mi 91 rfl))) Via.refl F14 F15 (Or.inl (hw _ (mi 92 rfl))) (hw _ (mi 61 rfl)) (ty := .int) (by decide) rfl rfl (Ls := #[vr a, vr yw, vj x1, s2, vi 1, vi x3, vi x4]) (rest := [])
  have F13 : Fld Z h13 a "com/example/micro_ranker/microranker/engine/Block" "frequencyWidth" "I" (.int (f15 g x1 (5 : Int32))) := Fld.same W13 F14
  refine c13 ?_
  refine o_aloadN B13 33 34 (v := (.ref a)) d14_33 rfl rfl rfl ?_
  refine o_iload B13 34 36 (v := (1 : Int32)) d14_34 rfl rfl ?_
  refine o_iconst B13 36 37 (1 : Int32) d14_36 rfl (by decide) ?_
  refine o_icY B13 37 55 d14_37 (XT.ii_le_t (by decide)) (by decide) (by decide) ?_
  refine o_iconst B13 55 56 (0 : Int32) d14_55 rfl (by decide) ?_
  have F17 := (Fld.other W13 (Fld.other W8 (Fld.other W5 (Fld.other W2 (Fld.other W1 G_lowWidth (Or.inr (sn12 hw))) (Or.inr (sn13 hw))) (Or.inr (sn14 hw))) (Or.inr (sn15 hw))) (Or.inr (sn16 hw)))
  have F18 := (Exa.wr W13 F15)
  obtain ⟨T16, h16, L16, B16, N16, W16, c16⟩ := o_putfield B13 N13 ge_a 56 59 (v := (.int (0 : Int32))) d14_56 rfl (host := "") (Or.inl (hw _ (mi 93 rfl))) Via.refl F17 F18 (Or.inl (hw _ (mi 94 rfl))) (hw _ (mi 61 rfl)) (ty := .int) (by decide) rfl rfl (Ls := #[vr a, vr yw, vj x1, s2, vi 1, vi x3, vi x4]) (rest := [])
  have F16 : Fld Z h16 a "com/example/micro_ranker/microranker/engine/Block" "lowWidth" "I" (.int (0 : Int32)) := Fld.same W16 F17
  refine c16 ?_
  refine o_aloadN B16 59 60 (v := (.ref a)) d14_59 rfl rfl rfl ?_
  refine o_lloadN B16 60 61 (v := x1) d14_60 rfl rfl ?_
  refine o_ldc2 B16 61 64 d14_61 rfl (hw _ (mi 95 rfl)) ?_
  refine o_ladd B16 64 65 d14_64 rfl ?_
  have F20 := (Fld.other W16 (Fld.other W13 (Fld.other W8 (Fld.other W5 (Fld.other W2 (Fld.other W1 G_entries (Or.inr (sn17 hw))) (Or.inr (sn18 hw))) (Or.inr (sn19 hw))) (Or.inr (sn20 hw))) (Or.inr (sn21 hw))) (Or.inr (sn22 hw)))
  have F21 := (Exa.wr W16 F18)
  obtain ⟨T19, h19, L19, B19, N19, W19, c19⟩ := o_putfield B16 N16 ge_a 65 68 (v := (.long (x1 + (5 : Int64)))) d14_65 rfl (host := "") (Or.inl (hw _ (mi 96 rfl))) Via.refl F20 F21 (Or.inl (hw _ (mi 97 rfl))) (hw _ (mi 61 rfl)) (ty := .long) (by decide) rfl rfl (Ls := #[vr a, vr yw, vj x1, s2, vi 1, vi x3, vi x4]) (rest := [])
  have F19 : Fld Z h19 a "com/example/micro_ranker/microranker/engine/Block" "entries" "J" (.long (x1 + (5 : Int64))) := Fld.same W19 F20
  refine c19 ?_
  refine o_aloadN B19 68 69 (v := (.ref a)) d14_68 rfl rfl rfl ?_
  refine o_aloadN B19 69 70 (v := (.ref a)) d14_69 rfl rfl rfl ?_
  obtain ⟨T22, B22, c22⟩ := o_getfield B19 70 73 d14_70 rfl (host := "") (Or.inl (hw _ (mi 96 rfl))) Via.refl F19 (Ls := #[vr a, vr yw, vj x1, s2, vi 1, vi x3, vi x4]) (rest := [(.ref a)])
  refine c22 ?_
  refine o_iload B22 73 75 (v := (1 : Int32)) d14_73 rfl rfl ?_
  refine o_iconst B22 75 76 (1 : Int32) d14_75 rfl (by decide) ?_
  refine o_isub B22 76 77 d14_76 rfl ?_
  refine o_topI (show ((1 : Int32) - (1 : Int32)) = (0 : Int32) by decide) ?_
  refine o_i2l B22 77 78 d14_77 rfl ?_
  refine o_topJ (show (0 : Int32).toInt64 = (0 : Int64) by decide) ?_
  refine o_aloadN B22 78 79 (v := (.ref a)) d14_78 rfl rfl rfl ?_
  have F24 := (Fld.other W19 F16 (Or.inr (sn23 hw)))
  obtain ⟨T23, B23, c23⟩ := o_getfield B22 79 82 d14_79 rfl (host := "") (Or.inl (hw _ (mi 93 rfl))) Via.refl F24 (Ls := #[vr a, vr yw, vj x1, s2, vi 1, vi x3, vi x4]) (rest := [(.long (0 : Int64)), (.long (x1 + (5 : Int64))), (.ref a)])
  refine c23 ?_
  refine o_aloadN B23 82 83 (v := (.ref a)) d14_82 rfl rfl rfl ?_
  have F26 := (Fld.other W19 (Fld.other W16 F13 (Or.inr (sn24 hw))) (Or.inr (sn25 hw)))
  obtain ⟨T25, B25, c25⟩ := o_getfield B23 83 86 d14_83 rfl (host := "") (Or.inl (hw _ (mi 91 rfl))) Via.refl F26 (Ls := #[vr a, vr yw, vj x1, s2, vi 1, vi x3, vi x4]) (rest := [(.int (0 : Int32)), (.long (0 : Int64)), (.long (x1 + (5 : Int64))), (.ref a)])
  refine c25 ?_
  refine o_iadd B25 86 87 d14_86 rfl ?_
  refine o_i2l B25 87 88 d14_87 rfl ?_
  refine o_lmul B25 88 89 d14_88 rfl ?_
  refine o_ladd B25 89 90 d14_89 rfl ?_
  refine o_aloadN B25 90 91 (v := (.ref a)) d14_90 rfl rfl rfl ?_
  obtain ⟨T27, B27, c27⟩ := o_getfield B25 91 94 d14_91 rfl (host := "") (Or.inl (hw _ (mi 91 rfl))) Via.refl F26 (Ls := #[vr a, vr yw, vj x1, s2, vi 1, vi x3, vi x4]) (rest := [(.long ((x1 + (5 : Int64)) + ((0 : Int64) * ((0 : Int32) + (f15 g x1 (5 : Int32))).toInt64))), (.ref a)])
  refine c27 ?_
  refine o_i2l B27 94 95 d14_94 rfl ?_
  refine o_ladd B27 95 96 d14_95 rfl ?_
  have F29 := (Fld.other W19 (Fld.other W16 (Fld.other W13 (Fld.other W8 (Fld.other W5 (Fld.other W2 (Fld.other W1 G_highs (Or.inr (sn26 hw))) (Or.inr (sn27 hw))) (Or.inr (sn28 hw))) (Or.inr (sn29 hw))) (Or.inr (sn30 hw))) (Or.inr (sn31 hw))) (Or.inr (sn32 hw)))
  have F30 := (Exa.wr W19 F21)
  obtain ⟨T28, h28, L28, B28, N28, W28, c28⟩ := o_putfield B27 N19 ge_a 96 99 (v := (.long (((x1 + (5 : Int64)) + ((0 : Int64) * ((0 : Int32) + (f15 g x1 (5 : Int32))).toInt64)) + (f15 g x1 (5 : Int32)).toInt64))) d14_96 rfl (host := "") (Or.inl (hw _ (mi 98 rfl))) Via.refl F29 F30 (Or.inl (hw _ (mi 99 rfl))) (hw _ (mi 61 rfl)) (ty := .long) (by decide) rfl rfl (Ls := #[vr a, vr yw, vj x1, s2, vi 1, vi x3, vi x4]) (rest := [])
  have F28 : Fld Z h28 a "com/example/micro_ranker/microranker/engine/Block" "highs" "J" (.long (((x1 + (5 : Int64)) + ((0 : Int64) * ((0 : Int32) + (f15 g x1 (5 : Int32))).toInt64)) + (f15 g x1 (5 : Int32)).toInt64)) := Fld.same W28 F29
  refine c28 ?_
  refine o_aloadN B28 99 100 (v := (.ref a)) d14_99 rfl rfl rfl ?_
  refine o_iconst B28 100 101 (-1 : Int32) d14_100 rfl (by decide) ?_
  have F32 := (Fld.other W28 (Fld.other W19 (Fld.other W16 (Fld.other W13 (Fld.other W8 (Fld.other W5 (Fld.other W2 (Fld.other W1 G_entry (Or.inr (sn33 hw))) (Or.inr (sn34 hw))) (Or.inr (sn35 hw))) (Or.inr (sn36 hw))) (Or.inr (sn37 hw))) (Or.inr (sn38 hw))) (Or.inr (sn39 hw))) (Or.inr (sn40 hw)))
  have F33 := (Exa.wr W28 F30)
  obtain ⟨T31, h31, L31, B31, N31, W31, c31⟩ := o_putfield B28 N28 ge_a 101 104 (v := (.int (-1 : Int32))) d14_101 rfl (host := "") (Or.inl (hw _ (mi 100 rfl))) Via.refl F32 F33 (Or.inl (hw _ (mi 101 rfl))) (hw _ (mi 61 rfl)) (ty := .int) (by decide) rfl rfl (Ls := #[vr a, vr yw, vj x1, s2, vi 1, vi x3, vi x4]) (rest := [])
  have F31 : Fld Z h31 a "com/example/micro_ranker/microranker/engine/Block" "entry" "I" (.int (-1 : Int32)) := Fld.same W31 F32
  refine c31 ?_
  refine o_aloadN B31 104 105 (v := (.ref a)) d14_104 rfl rfl rfl ?_
  refine o_aloadN B31 105 106 (v := (.ref a)) d14_105 rfl rfl rfl ?_
  have F35 := (Fld.other W31 F28 (Or.inr (sn41 hw)))
  obtain ⟨T34, B34, c34⟩ := o_getfield B31 106 109 d14_106 rfl (host := "") (Or.inl (hw _ (mi 98 rfl))) Via.refl F35 (Ls := #[vr a, vr yw, vj x1, s2, vi 1, vi x3, vi x4]) (rest := [(.ref a)])
  refine c34 ?_
  refine o_lconst B34 109 110 (1 : Int64) d14_109 rfl (by decide) ?_
  refine o_lsub B34 110 111 d14_110 rfl ?_
  have F37 := (Fld.other W31 (Fld.other W28 (Fld.other W19 (Fld.other W16 (Fld.other W13 (Fld.other W8 (Fld.other W5 (Fld.other W2 (Fld.other W1 G_position (Or.inr (sn42 hw))) (Or.inr (sn43 hw))) (Or.inr (sn44 hw))) (Or.inr (sn45 hw))) (Or.inr (sn46 hw))) (Or.inr (sn47 hw))) (Or.inr (sn48 hw))) (Or.inr (sn49 hw))) (Or.inr (sn50 hw)))
  have F38 := (Exa.wr W31 F33)
  obtain ⟨T36, h36, L36, B36, N36, W36, c36⟩ := o_putfield B34 N31 ge_a 111 114 (v := (.long ((((x1 + (5 : Int64)) + ((0 : Int64) * ((0 : Int32) + (f15 g x1 (5 : Int32))).toInt64)) + (f15 g x1 (5 : Int32)).toInt64) - (1 : Int64)))) d14_111 rfl (host := "") (Or.inl (hw _ (mi 102 rfl))) Via.refl F37 F38 (Or.inl (hw _ (mi 103 rfl))) (hw _ (mi 61 rfl)) (ty := .long) (by decide) rfl rfl (Ls := #[vr a, vr yw, vj x1, s2, vi 1, vi x3, vi x4]) (rest := [])
  have F36 : Fld Z h36 a "com/example/micro_ranker/microranker/engine/Block" "position" "J" (.long ((((x1 + (5 : Int64)) + ((0 : Int64) * ((0 : Int32) + (f15 g x1 (5 : Int32))).toInt64)) + (f15 g x1 (5 : Int32)).toInt64) - (1 : Int64))) := Fld.same W36 F37
  refine c36 ?_
  refine o_aloadN B36 114 115 (v := (.ref a)) d14_114 rfl rfl rfl ?_
  refine o_iload B36 115 117 (v := x3) d14_115 rfl rfl ?_
  refine o_iconst B36 117 118 (1 : Int32) d14_117 rfl (by decide) ?_
  refine o_isub B36 118 119 d14_118 rfl ?_
  have F40 := (Fld.other W36 (Fld.other W31 (Fld.other W28 (Fld.other W19 (Fld.other W16 (Fld.other W13 (Fld.other W8 (Fld.other W5 (Fld.other W2 (Fld.other W1 G_document (Or.inr (sn51 hw))) (Or.inr (sn52 hw))) (Or.inr (sn53 hw))) (Or.inr (sn54 hw))) (Or.inr (sn55 hw))) (Or.inr (sn56 hw))) (Or.inr (sn57 hw))) (Or.inr (sn58 hw))) (Or.inr (sn59 hw))) (Or.inr (sn60 hw)))
  have F41 := (Exa.wr W36 F38)
  obtain ⟨T39, h39, L39, B39, N39, W39, c39⟩ := o_putfield B36 N36 ge_a 119 122 (v := (.int (x3 - (1 : Int32)))) d14_119 rfl (host := "") (Or.inl (hw _ (mi 104 rfl))) Via.refl F40 F41 (Or.inl (hw _ (mi 105 rfl))) (hw _ (mi 61 rfl)) (ty := .int) (by decide) rfl rfl (Ls := #[vr a, vr yw, vj x1, s2, vi 1, vi x3, vi x4]) (rest := [])
  have F39 : Fld Z h39 a "com/example/micro_ranker/microranker/engine/Block" "document" "I" (.int (x3 - (1 : Int32))) := Fld.same W39 F40
  refine c39 ?_
  refine o_aloadN B39 122 123 (v := (.ref a)) d14_122 rfl rfl rfl ?_
  have F42 := (Fld.other W39 (Fld.other W36 (Fld.other W31 (Fld.other W28 (Fld.other W19 (Fld.other W16 (Fld.other W13 (Fld.other W8 (Fld.other W5 F2 (Or.inr (sn61 hw))) (Or.inr (sn62 hw))) (Or.inr (sn63 hw))) (Or.inr (sn64 hw))) (Or.inr (sn65 hw))) (Or.inr (sn66 hw))) (Or.inr (sn67 hw))) (Or.inr (sn68 hw))) (Or.inr (sn69 hw)))
  have F43 := (Fld.other W39 (Fld.other W36 (Fld.other W31 (Fld.other W28 (Fld.other W19 (Fld.other W16 (Fld.other W13 F8 (Or.inr (sn70 hw))) (Or.inr (sn71 hw))) (Or.inr (sn72 hw))) (Or.inr (sn73 hw))) (Or.inr (sn74 hw))) (Or.inr (sn75 hw))) (Or.inr (sn76 hw)))
  have F44 := (Fld.other W39 (Fld.other W36 (Fld.other W31 (Fld.other W28 (Fld.other W19 (Fld.other W16 (Fld.other W13 (Fld.other W8 F5 (Or.inr (sn77 hw))) (Or.inr (sn78 hw))) (Or.inr (sn79 hw))) (Or.inr (sn80 hw))) (Or.inr (sn81 hw))) (Or.inr (sn82 hw))) (Or.inr (sn83 hw))) (Or.inr (sn84 hw)))
  have F45 := (Fld.other W39 (Fld.other W36 (Fld.other W31 (Fld.other W28 F24 (Or.inr (sn85 hw))) (Or.inr (sn86 hw))) (Or.inr (sn87 hw))) (Or.inr (sn88 hw)))
  have F46 := (Fld.other W39 (Fld.other W36 F35 (Or.inr (sn89 hw))) (Or.inr (sn90 hw)))
  have F47 := (Fld.other W39 (Fld.other W36 (Fld.other W31 (Fld.other W28 F19 (Or.inr (sn91 hw))) (Or.inr (sn92 hw))) (Or.inr (sn93 hw))) (Or.inr (sn94 hw)))
  have KT48 := ((((((((((((Keep.refl h0 [a]).wr W1 (Or.inl (mi 0 rfl))).wr W2 (Or.inl (mi 0 rfl))).wr W5 (Or.inl (mi 0 rfl))).wr W8 (Or.inl (mi 0 rfl))).wr W13 (Or.inl (mi 0 rfl))).wr W16 (Or.inl (mi 0 rfl))).wr W19 (Or.inl (mi 0 rfl))).wr W28 (Or.inl (mi 0 rfl))).wr W31 (Or.inl (mi 0 rfl))).wr W36 (Or.inl (mi 0 rfl))).wr W39 (Or.inl (mi 0 rfl)))
  exact o_retA B39 123 d14_123 hret hlk rfl rfl (by decide) (by decide) ⟨rfl, N39, KT48, F42, F43, F44, F45, F46, F47⟩
def Q14_2 (Z : State) (a : Addr) (yw : Addr) (g : Nat → Int64) (x1 : Int64) (x3 : Int32) (x4 : Int32) (h0 : Heap) (n0 : Nat) (v : Option Value) (h : Heap) (L : List Loc) : Prop := v = some (.ref a) ∧ Fr n0 L ∧ Keep h0 h [a] ∧ Fld Z h a "com/example/micro_ranker/microranker/engine/Block" "count" "I" (.int (2 : Int32)) ∧ Fld Z h a "com/example/micro_ranker/microranker/engine/Block" "last" "I" (.int x4) ∧ Fld Z h a "com/example/micro_ranker/microranker/engine/Block" "base" "I" (.int x3) ∧ Fld Z h a "com/example/micro_ranker/microranker/engine/Block" "lowWidth" "I" (.int (f18 (x4 - x3) (1 : Int32))) ∧ Fld Z h a "com/example/micro_ranker/microranker/engine/Block" "highs" "J" (.long (((x1 + (5 : Int64)) + ((1 : Int64) * ((f18 (x4 - x3) (1 : Int32)) + (f15 g x1 (5 : Int32))).toInt64)) + (f15 g x1 (5 : Int32)).toInt64)) ∧ Fld Z h a "com/example/micro_ranker/microranker/engine/Block" "entries" "J" (.long (x1 + (5 : Int64)))
set_option maxRecDepth 65536 in
set_option maxHeartbeats 400000000 in
theorem rm14_2 (l : Launch) (Z : State) (a0 : Array Value) (hw : ∀ d ∈ tables_1, d.before a0 Z = true) (a : Addr) (yw : Addr) (g : Nat → Int64) (x1 : Int64) (x3 : Int32) (x4 : Int32) (h0 : Heap) (n0 : Nat) (hz : n0 ≤ h0.size) (ge_a : n0 ≤ a) (hE : Exa Z h0 a "com/example/micro_ranker/microranker/engine/Block") (G_words : Fld Z h0 a "com/example/micro_ranker/microranker/engine/Block" "words" "[J" .null) (G_count : Fld Z h0 a "com/example/micro_ranker/microranker/engine/Block" "count" "I" (.int (0 : Int32))) (G_base : Fld Z h0 a "com/example/micro_ranker/microranker/engine/Block" "base" "I" (.int (0 : Int32))) (G_last : Fld Z h0 a "com/example/micro_ranker/microranker/engine/Block" "last" "I" (.int (0 : Int32))) (G_frequencyWidth : Fld Z h0 a "com/example/micro_ranker/microranker/engine/Block" "frequencyWidth" "I" (.int (0 : Int32))) (G_lowWidth : Fld Z h0 a "com/example/micro_ranker/microranker/engine/Block" "lowWidth" "I" (.int (0 : Int32))) (G_entries : Fld Z h0 a "com/example/micro_ranker/microranker/engine/Block" "entries" "J" (.long (0 : Int64))) (G_highs : Fld Z h0 a "com/example/micro_ranker/microranker/engine/Block" "highs" "J" (.long (0 : Int64))) (G_entry : Fld Z h0 a "com/example/micro_ranker/microranker/engine/Block" "entry" "I" (.int (0 : Int32))) (G_position : Fld Z h0 a "com/example/micro_ranker/microranker/engine/Block" "position" "J" (.long (0 : Int64))) (G_document : Fld Z h0 a "com/example/micro_ranker/microranker/engine/Block" "document" "I" (.int (0 : Int32))) (A_yw : AJ Z h0 yw 8 g) (ne_a_yw : a ≠ yw) (hx : 0 ≤ x1.toInt ∧ x1.toInt ≤ 447) :
    Met l Z (⟨"com/example/micro_ranker/microranker/engine/Block", "load", "([JJIII)Lcom/example/micro_ranker/microranker/engine/Block;"⟩ : MethodName) prog_18_method_3_code 7 (some (.object "com/example/micro_ranker/microranker/engine/Block")) ({ frames := 4, cells := 0, slots := 0, locals := 58 } : Room) #[(.ref a), (.ref yw), (.long x1), (.int (2 : Int32)), (.int x3), (.int x4)] h0 (Q14_2 Z a yw g x1 x3 x4 h0 n0) := by
  refine enter pl14 #[vr a, vr yw, vj x1, s2, vi 2, vi x3, vi x4] rfl ?_
  intro p e s m below meth c T B hret hlk hnm
  have N0 := Fr.nil n0
  refine o_aloadN B 0 1 (v := (.ref a)) d14_0 rfl rfl rfl ?_
  refine o_aloadN B 1 2 (v := (.ref yw)) d14_1 rfl rfl rfl ?_
  obtain ⟨T1, h1, L1, B1, N1, W1, c1⟩ := o_putfield B N0 ge_a 2 5 (v := (.ref yw)) d14_2 rfl (host := "") (Or.inl (hw _ (mi 76 rfl))) Via.refl G_words hE (Or.inl (hw _ (mi 77 rfl))) (hw _ (mi 61 rfl)) (ty := (.array .long)) (by decide) rfl rfl (Ls := #[vr a, vr yw, vj x1, s2, vi 2, vi x3, vi x4]) (rest := [])
  have F1 : Fld Z h1 a "com/example/micro_ranker/microranker/engine/Block" "words" "[J" (.ref yw) := Fld.same W1 G_words
  refine c1 ?_
  refine o_aloadN B1 5 6 (v := (.ref a)) d14_5 rfl rfl rfl ?_
  refine o_iload B1 6 8 (v := (2 : Int32)) d14_6 rfl rfl ?_
  have F3 := (Fld.other W1 G_count (Or.inr (sn2 hw)))
  have F4 := (Exa.wr W1 hE)
  obtain ⟨T2, h2, L2, B2, N2, W2, c2⟩ := o_putfield B1 N1 ge_a 8 11 (v := (.int (2 : Int32))) d14_8 rfl (host := "") (Or.inl (hw _ (mi 78 rfl))) Via.refl F3 F4 (Or.inl (hw _ (mi 79 rfl))) (hw _ (mi 61 rfl)) (ty := .int) (by decide) rfl rfl (Ls := #[vr a, vr yw, vj x1, s2, vi 2, vi x3, vi x4]) (rest := [])
  have F2 : Fld Z h2 a "com/example/micro_ranker/microranker/engine/Block" "count" "I" (.int (2 : Int32)) := Fld.same W2 F3
  refine c2 ?_
  refine o_aloadN B2 11 12 (v := (.ref a)) d14_11 rfl rfl rfl ?_
  refine o_iload B2 12 14 (v := x3) d14_12 rfl rfl ?_
  have F6 := (Fld.other W2 (Fld.other W1 G_base (Or.inr (sn3 hw))) (Or.inr (sn4 hw)))
  have F7 := (Exa.wr W2 F4)
  obtain ⟨T5, h5, L5, B5, N5, W5, c5⟩ := o_putfield B2 N2 ge_a 14 17 (v := (.int x3)) d14_14 rfl (host := "") (Or.inl (hw _ (mi 80 rfl))) Via.refl F6 F7 (Or.inl (hw _ (mi 81 rfl))) (hw _ (mi 61 rfl)) (ty := .int) (by decide) rfl rfl (Ls := #[vr a, vr yw, vj x1, s2, vi 2, vi x3, vi x4]) (rest := [])
  have F5 : Fld Z h5 a "com/example/micro_ranker/microranker/engine/Block" "base" "I" (.int x3) := Fld.same W5 F6
  refine c5 ?_
  refine o_aloadN B5 17 18 (v := (.ref a)) d14_17 rfl rfl rfl ?_
  refine o_iload B5 18 20 (v := x4) d14_18 rfl rfl ?_
  have F9 := (Fld.other W5 (Fld.other W2 (Fld.other W1 G_last (Or.inr (sn5 hw))) (Or.inr (sn6 hw))) (Or.inr (sn7 hw)))
  have F10 := (Exa.wr W5 F7)
  obtain ⟨T8, h8, L8, B8, N8, W8, c8⟩ := o_putfield B5 N5 ge_a 20 23 (v := (.int x4)) d14_20 rfl (host := "") (Or.inl (hw _ (mi 82 rfl))) Via.refl F9 F10 (Or.inl (hw _ (mi 83 rfl))) (hw _ (mi 61 rfl)) (ty := .int) (by decide) rfl rfl (Ls := #[vr a, vr yw, vj x1, s2, vi 2, vi x3, vi x4]) (rest := [])
  have F8 : Fld Z h8 a "com/example/micro_ranker/microranker/engine/Block" "last" "I" (.int x4) := Fld.same W8 F9
  refine c8 ?_
  refine o_aloadN B8 23 24 (v := (.ref a)) d14_23 rfl rfl rfl ?_
  refine o_aloadN B8 24 25 (v := (.ref yw)) d14_24 rfl rfl rfl ?_
  refine o_lloadN B8 25 26 (v := x1) d14_25 rfl rfl ?_
  refine o_iconst B8 26 27 (5 : Int32) d14_26 rfl (by decide) ?_
  have F11 := ((((A_yw.other W1 (Ne.symm ne_a_yw)).other W2 (Ne.symm ne_a_yw)).other W5 (Ne.symm ne_a_yw)).other W8 (Ne.symm ne_a_yw))
  obtain ⟨T12, B12, c12⟩ := o_callP B8 27 30 d14_27 rfl (hw _ (mi 84 rfl)) (hw _ (mi 85 rfl)) (hw _ (mi 41 rfl)) (hw _ (mi 86 rfl)) (by decide) (rm15 l Z a0 hw g yw x1 (5 : Int32) h8 F11 hx) 1 [(.ref yw), (.long x1), (.int (5 : Int32))] [(.ref a)] pd___JJI_I rfl rfl (st := [(.int (5 : Int32)), (.long x1), (.ref yw), (.ref a)]) rfl (Ls := #[vr a, vr yw, vj x1, s2, vi 2, vi x3, vi x4]) rfl (Nat.le_of_eq rfl) (by decide) (by decide) (by decide) (by decide)
  refine c12 ?_
  have F14 := (Fld.other W8 (Fld.other W5 (Fld.other W2 (Fld.other W1 G_frequencyWidth (Or.inr (sn8 hw))) (Or.inr (sn9 hw))) (Or.inr (sn10 hw))) (Or.inr (sn11 hw)))
  have F15 := (Exa.wr W8 F10)
  obtain ⟨T13, h13, L13, B13, N13, W13, c13⟩ := o_putfield B12 N8 ge_a 30 33 (v := (.int (f15 g x1 (5 : Int32)))) d14_30 rfl (host := "") (Or.inl (hw _ (mi 91 rfl))) Via.refl F14 F15 (Or.inl (hw _ (mi 92 rfl))) (hw _ (mi 61 rfl)) (ty := .int) (by decide) rfl rfl (Ls := #[vr a, vr yw, vj x1, s2, vi 2, vi x3, vi x4]) (rest := [])
  have F13 : Fld Z h13 a "com/example/micro_ranker/microranker/engine/Block" "frequencyWidth" "I" (.int (f15 g x1 (5 : Int32))) := Fld.same W13 F14
  refine c13 ?_
  refine o_aloadN B13 33 34 (v := (.ref a)) d14_33 rfl rfl rfl ?_
  refine o_iload B13 34 36 (v := (2 : Int32)) d14_34 rfl rfl ?_
  refine o_iconst B13 36 37 (1 : Int32) d14_36 rfl (by decide) ?_
  refine o_icN B13 37 40 d14_37 rfl (XT.ii_le_f (by decide)) ?_
  refine o_iload B13 40 42 (v := x4) d14_40 rfl rfl ?_
  refine o_iload B13 42 44 (v := x3) d14_42 rfl rfl ?_
  refine o_isub B13 44 45 d14_44 rfl ?_
  refine o_iload B13 45 47 (v := (2 : Int32)) d14_45 rfl rfl ?_
  refine o_iconst B13 47 48 (1 : Int32) d14_47 rfl (by decide) ?_
  refine o_isub B13 48 49 d14_48 rfl ?_
  refine o_topI (show ((2 : Int32) - (1 : Int32)) = (1 : Int32) by decide) ?_
  obtain ⟨T16, B16, c16⟩ := o_callP B13 49 52 d14_49 rfl (hw _ (mi 111 rfl)) (hw _ (mi 112 rfl)) (hw _ (mi 36 rfl)) (hw _ (mi 113 rfl)) (by decide) (rm18 l Z a0 hw (x4 - x3) (1 : Int32) h13 ) 1 [(.int (x4 - x3)), (.int (1 : Int32))] [(.ref a)] pd__II_I rfl rfl (st := [(.int (1 : Int32)), (.int (x4 - x3)), (.ref a)]) rfl (Ls := #[vr a, vr yw, vj x1, s2, vi 2, vi x3, vi x4]) rfl (Nat.le_of_eq rfl) (by decide) (by decide) (by decide) (by decide)
  refine c16 ?_
  refine o_goto B16 52 56 d14_52 (by decide) (by decide) ?_
  have F18 := (Fld.other W13 (Fld.other W8 (Fld.other W5 (Fld.other W2 (Fld.other W1 G_lowWidth (Or.inr (sn12 hw))) (Or.inr (sn13 hw))) (Or.inr (sn14 hw))) (Or.inr (sn15 hw))) (Or.inr (sn16 hw)))
  have F19 := (Exa.wr W13 F15)
  obtain ⟨T17, h17, L17, B17, N17, W17, c17⟩ := o_putfield B16 N13 ge_a 56 59 (v := (.int (f18 (x4 - x3) (1 : Int32)))) d14_56 rfl (host := "") (Or.inl (hw _ (mi 93 rfl))) Via.refl F18 F19 (Or.inl (hw _ (mi 94 rfl))) (hw _ (mi 61 rfl)) (ty := .int) (by decide) rfl rfl (Ls := #[vr a, vr yw, vj x1, s2, vi 2, vi x3, vi x4]) (rest := [])
  have F17 : Fld Z h17 a "com/example/micro_ranker/microranker/engine/Block" "lowWidth" "I" (.int (f18 (x4 - x3) (1 : Int32))) := Fld.same W17 F18
  refine c17 ?_
  refine o_aloadN B17 59 60 (v := (.ref a)) d14_59 rfl rfl rfl ?_
  refine o_lloadN B17 60 61 (v := x1) d14_60 rfl rfl ?_
  refine o_ldc2 B17 61 64 d14_61 rfl (hw _ (mi 95 rfl)) ?_
  refine o_ladd B17 64 65 d14_64 rfl ?_
  have F21 := (Fld.other W17 (Fld.other W13 (Fld.other W8 (Fld.other W5 (Fld.other W2 (Fld.other W1 G_entries (Or.inr (sn17 hw))) (Or.inr (sn18 hw))) (Or.inr (sn19 hw))) (Or.inr (sn20 hw))) (Or.inr (sn21 hw))) (Or.inr (sn22 hw)))
  have F22 := (Exa.wr W17 F19)
  obtain ⟨T20, h20, L20, B20, N20, W20, c20⟩ := o_putfield B17 N17 ge_a 65 68 (v := (.long (x1 + (5 : Int64)))) d14_65 rfl (host := "") (Or.inl (hw _ (mi 96 rfl))) Via.refl F21 F22 (Or.inl (hw _ (mi 97 rfl))) (hw _ (mi 61 rfl)) (ty := .long) (by decide) rfl rfl (Ls := #[vr a, vr yw, vj x1, s2, vi 2, vi x3, vi x4]) (rest := [])
  have F20 : Fld Z h20 a "com/example/micro_ranker/microranker/engine/Block" "entries" "J" (.long (x1 + (5 : Int64))) := Fld.same W20 F21
  refine c20 ?_
  refine o_aloadN B20 68 69 (v := (.ref a)) d14_68 rfl rfl rfl ?_
  refine o_aloadN B20 69 70 (v := (.ref a)) d14_69 rfl rfl rfl ?_
  obtain ⟨T23, B23, c23⟩ := o_getfield B20 70 73 d14_70 rfl (host := "") (Or.inl (hw _ (mi 96 rfl))) Via.refl F20 (Ls := #[vr a, vr yw, vj x1, s2, vi 2, vi x3, vi x4]) (rest := [(.ref a)])
  refine c23 ?_
  refine o_iload B23 73 75 (v := (2 : Int32)) d14_73 rfl rfl ?_
  refine o_iconst B23 75 76 (1 : Int32) d14_75 rfl (by decide) ?_
  refine o_isub B23 76 77 d14_76 rfl ?_
  refine o_topI (show ((2 : Int32) - (1 : Int32)) = (1 : Int32) by decide) ?_
  refine o_i2l B23 77 78 d14_77 rfl ?_
  refine o_topJ (show (1 : Int32).toInt64 = (1 : Int64) by decide) ?_
  refine o_aloadN B23 78 79 (v := (.ref a)) d14_78 rfl rfl rfl ?_
  have F25 := (Fld.other W20 F17 (Or.inr (sn23 hw)))
  obtain ⟨T24, B24, c24⟩ := o_getfield B23 79 82 d14_79 rfl (host := "") (Or.inl (hw _ (mi 93 rfl))) Via.refl F25 (Ls := #[vr a, vr yw, vj x1, s2, vi 2, vi x3, vi x4]) (rest := [(.long (1 : Int64)), (.long (x1 + (5 : Int64))), (.ref a)])
  refine c24 ?_
  refine o_aloadN B24 82 83 (v := (.ref a)) d14_82 rfl rfl rfl ?_
  have F27 := (Fld.other W20 (Fld.other W17 F13 (Or.inr (sn24 hw))) (Or.inr (sn25 hw)))
  obtain ⟨T26, B26, c26⟩ := o_getfield B24 83 86 d14_83 rfl (host := "") (Or.inl (hw _ (mi 91 rfl))) Via.refl F27 (Ls := #[vr a, vr yw, vj x1, s2, vi 2, vi x3, vi x4]) (rest := [(.int (f18 (x4 - x3) (1 : Int32))), (.long (1 : Int64)), (.long (x1 + (5 : Int64))), (.ref a)])
  refine c26 ?_
  refine o_iadd B26 86 87 d14_86 rfl ?_
  refine o_i2l B26 87 88 d14_87 rfl ?_
  refine o_lmul B26 88 89 d14_88 rfl ?_
  refine o_ladd B26 89 90 d14_89 rfl ?_
  refine o_aloadN B26 90 91 (v := (.ref a)) d14_90 rfl rfl rfl ?_
  obtain ⟨T28, B28, c28⟩ := o_getfield B26 91 94 d14_91 rfl (host := "") (Or.inl (hw _ (mi 91 rfl))) Via.refl F27 (Ls := #[vr a, vr yw, vj x1, s2, vi 2, vi x3, vi x4]) (rest := [(.long ((x1 + (5 : Int64)) + ((1 : Int64) * ((f18 (x4 - x3) (1 : Int32)) + (f15 g x1 (5 : Int32))).toInt64))), (.ref a)])
  refine c28 ?_
  refine o_i2l B28 94 95 d14_94 rfl ?_
  refine o_ladd B28 95 96 d14_95 rfl ?_
  have F30 := (Fld.other W20 (Fld.other W17 (Fld.other W13 (Fld.other W8 (Fld.other W5 (Fld.other W2 (Fld.other W1 G_highs (Or.inr (sn26 hw))) (Or.inr (sn27 hw))) (Or.inr (sn28 hw))) (Or.inr (sn29 hw))) (Or.inr (sn30 hw))) (Or.inr (sn31 hw))) (Or.inr (sn32 hw)))
  have F31 := (Exa.wr W20 F22)
  obtain ⟨T29, h29, L29, B29, N29, W29, c29⟩ := o_putfield B28 N20 ge_a 96 99 (v := (.long (((x1 + (5 : Int64)) + ((1 : Int64) * ((f18 (x4 - x3) (1 : Int32)) + (f15 g x1 (5 : Int32))).toInt64)) + (f15 g x1 (5 : Int32)).toInt64))) d14_96 rfl (host := "") (Or.inl (hw _ (mi 98 rfl))) Via.refl F30 F31 (Or.inl (hw _ (mi 99 rfl))) (hw _ (mi 61 rfl)) (ty := .long) (by decide) rfl rfl (Ls := #[vr a, vr yw, vj x1, s2, vi 2, vi x3, vi x4]) (rest := [])
  have F29 : Fld Z h29 a "com/example/micro_ranker/microranker/engine/Block" "highs" "J" (.long (((x1 + (5 : Int64)) + ((1 : Int64) * ((f18 (x4 - x3) (1 : Int32)) + (f15 g x1 (5 : Int32))).toInt64)) + (f15 g x1 (5 : Int32)).toInt64)) := Fld.same W29 F30
  refine c29 ?_
  refine o_aloadN B29 99 100 (v := (.ref a)) d14_99 rfl rfl rfl ?_
  refine o_iconst B29 100 101 (-1 : Int32) d14_100 rfl (by decide) ?_
  have F33 := (Fld.other W29 (Fld.other W20 (Fld.other W17 (Fld.other W13 (Fld.other W8 (Fld.other W5 (Fld.other W2 (Fld.other W1 G_entry (Or.inr (sn33 hw))) (Or.inr (sn34 hw))) (Or.inr (sn35 hw))) (Or.inr (sn36 hw))) (Or.inr (sn37 hw))) (Or.inr (sn38 hw))) (Or.inr (sn39 hw))) (Or.inr (sn40 hw)))
  have F34 := (Exa.wr W29 F31)
  obtain ⟨T32, h32, L32, B32, N32, W32, c32⟩ := o_putfield B29 N29 ge_a 101 104 (v := (.int (-1 : Int32))) d14_101 rfl (host := "") (Or.inl (hw _ (mi 100 rfl))) Via.refl F33 F34 (Or.inl (hw _ (mi 101 rfl))) (hw _ (mi 61 rfl)) (ty := .int) (by decide) rfl rfl (Ls := #[vr a, vr yw, vj x1, s2, vi 2, vi x3, vi x4]) (rest := [])
  have F32 : Fld Z h32 a "com/example/micro_ranker/microranker/engine/Block" "entry" "I" (.int (-1 : Int32)) := Fld.same W32 F33
  refine c32 ?_
  refine o_aloadN B32 104 105 (v := (.ref a)) d14_104 rfl rfl rfl ?_
  refine o_aloadN B32 105 106 (v := (.ref a)) d14_105 rfl rfl rfl ?_
  have F36 := (Fld.other W32 F29 (Or.inr (sn41 hw)))
  obtain ⟨T35, B35, c35⟩ := o_getfield B32 106 109 d14_106 rfl (host := "") (Or.inl (hw _ (mi 98 rfl))) Via.refl F36 (Ls := #[vr a, vr yw, vj x1, s2, vi 2, vi x3, vi x4]) (rest := [(.ref a)])
  refine c35 ?_
  refine o_lconst B35 109 110 (1 : Int64) d14_109 rfl (by decide) ?_
  refine o_lsub B35 110 111 d14_110 rfl ?_
  have F38 := (Fld.other W32 (Fld.other W29 (Fld.other W20 (Fld.other W17 (Fld.other W13 (Fld.other W8 (Fld.other W5 (Fld.other W2 (Fld.other W1 G_position (Or.inr (sn42 hw))) (Or.inr (sn43 hw))) (Or.inr (sn44 hw))) (Or.inr (sn45 hw))) (Or.inr (sn46 hw))) (Or.inr (sn47 hw))) (Or.inr (sn48 hw))) (Or.inr (sn49 hw))) (Or.inr (sn50 hw)))
  have F39 := (Exa.wr W32 F34)
  obtain ⟨T37, h37, L37, B37, N37, W37, c37⟩ := o_putfield B35 N32 ge_a 111 114 (v := (.long ((((x1 + (5 : Int64)) + ((1 : Int64) * ((f18 (x4 - x3) (1 : Int32)) + (f15 g x1 (5 : Int32))).toInt64)) + (f15 g x1 (5 : Int32)).toInt64) - (1 : Int64)))) d14_111 rfl (host := "") (Or.inl (hw _ (mi 102 rfl))) Via.refl F38 F39 (Or.inl (hw _ (mi 103 rfl))) (hw _ (mi 61 rfl)) (ty := .long) (by decide) rfl rfl (Ls := #[vr a, vr yw, vj x1, s2, vi 2, vi x3, vi x4]) (rest := [])
  have F37 : Fld Z h37 a "com/example/micro_ranker/microranker/engine/Block" "position" "J" (.long ((((x1 + (5 : Int64)) + ((1 : Int64) * ((f18 (x4 - x3) (1 : Int32)) + (f15 g x1 (5 : Int32))).toInt64)) + (f15 g x1 (5 : Int32)).toInt64) - (1 : Int64))) := Fld.same W37 F38
  refine c37 ?_
  refine o_aloadN B37 114 115 (v := (.ref a)) d14_114 rfl rfl rfl ?_
  refine o_iload B37 115 117 (v := x3) d14_115 rfl rfl ?_
  refine o_iconst B37 117 118 (1 : Int32) d14_117 rfl (by decide) ?_
  refine o_isub B37 118 119 d14_118 rfl ?_
  have F41 := (Fld.other W37 (Fld.other W32 (Fld.other W29 (Fld.other W20 (Fld.other W17 (Fld.other W13 (Fld.other W8 (Fld.other W5 (Fld.other W2 (Fld.other W1 G_document (Or.inr (sn51 hw))) (Or.inr (sn52 hw))) (Or.inr (sn53 hw))) (Or.inr (sn54 hw))) (Or.inr (sn55 hw))) (Or.inr (sn56 hw))) (Or.inr (sn57 hw))) (Or.inr (sn58 hw))) (Or.inr (sn59 hw))) (Or.inr (sn60 hw)))
  have F42 := (Exa.wr W37 F39)
  obtain ⟨T40, h40, L40, B40, N40, W40, c40⟩ := o_putfield B37 N37 ge_a 119 122 (v := (.int (x3 - (1 : Int32)))) d14_119 rfl (host := "") (Or.inl (hw _ (mi 104 rfl))) Via.refl F41 F42 (Or.inl (hw _ (mi 105 rfl))) (hw _ (mi 61 rfl)) (ty := .int) (by decide) rfl rfl (Ls := #[vr a, vr yw, vj x1, s2, vi 2, vi x3, vi x4]) (rest := [])
  have F40 : Fld Z h40 a "com/example/micro_ranker/microranker/engine/Block" "document" "I" (.int (x3 - (1 : Int32))) := Fld.same W40 F41
  refine c40 ?_
  refine o_aloadN B40 122 123 (v := (.ref a)) d14_122 rfl rfl rfl ?_
  have F43 := (Fld.other W40 (Fld.other W37 (Fld.other W32 (Fld.other W29 (Fld.other W20 (Fld.other W17 (Fld.other W13 (Fld.other W8 (Fld.other W5 F2 (Or.inr (sn61 hw))) (Or.inr (sn62 hw))) (Or.inr (sn63 hw))) (Or.inr (sn64 hw))) (Or.inr (sn65 hw))) (Or.inr (sn66 hw))) (Or.inr (sn67 hw))) (Or.inr (sn68 hw))) (Or.inr (sn69 hw)))
  have F44 := (Fld.other W40 (Fld.other W37 (Fld.other W32 (Fld.other W29 (Fld.other W20 (Fld.other W17 (Fld.other W13 F8 (Or.inr (sn70 hw))) (Or.inr (sn71 hw))) (Or.inr (sn72 hw))) (Or.inr (sn73 hw))) (Or.inr (sn74 hw))) (Or.inr (sn75 hw))) (Or.inr (sn76 hw)))
  have F45 := (Fld.other W40 (Fld.other W37 (Fld.other W32 (Fld.other W29 (Fld.other W20 (Fld.other W17 (Fld.other W13 (Fld.other W8 F5 (Or.inr (sn77 hw))) (Or.inr (sn78 hw))) (Or.inr (sn79 hw))) (Or.inr (sn80 hw))) (Or.inr (sn81 hw))) (Or.inr (sn82 hw))) (Or.inr (sn83 hw))) (Or.inr (sn84 hw)))
  have F46 := (Fld.other W40 (Fld.other W37 (Fld.other W32 (Fld.other W29 F25 (Or.inr (sn85 hw))) (Or.inr (sn86 hw))) (Or.inr (sn87 hw))) (Or.inr (sn88 hw)))
  have F47 := (Fld.other W40 (Fld.other W37 F36 (Or.inr (sn89 hw))) (Or.inr (sn90 hw)))
  have F48 := (Fld.other W40 (Fld.other W37 (Fld.other W32 (Fld.other W29 F20 (Or.inr (sn91 hw))) (Or.inr (sn92 hw))) (Or.inr (sn93 hw))) (Or.inr (sn94 hw)))
  have KT49 := ((((((((((((Keep.refl h0 [a]).wr W1 (Or.inl (mi 0 rfl))).wr W2 (Or.inl (mi 0 rfl))).wr W5 (Or.inl (mi 0 rfl))).wr W8 (Or.inl (mi 0 rfl))).wr W13 (Or.inl (mi 0 rfl))).wr W17 (Or.inl (mi 0 rfl))).wr W20 (Or.inl (mi 0 rfl))).wr W29 (Or.inl (mi 0 rfl))).wr W32 (Or.inl (mi 0 rfl))).wr W37 (Or.inl (mi 0 rfl))).wr W40 (Or.inl (mi 0 rfl)))
  exact o_retA B40 123 d14_123 hret hlk rfl rfl (by decide) (by decide) ⟨rfl, N40, KT49, F43, F44, F45, F46, F47, F48⟩
def Q14_3 (Z : State) (a : Addr) (yw : Addr) (g : Nat → Int64) (x1 : Int64) (x3 : Int32) (x4 : Int32) (h0 : Heap) (n0 : Nat) (v : Option Value) (h : Heap) (L : List Loc) : Prop := v = some (.ref a) ∧ Fr n0 L ∧ Keep h0 h [a] ∧ Fld Z h a "com/example/micro_ranker/microranker/engine/Block" "count" "I" (.int (3 : Int32)) ∧ Fld Z h a "com/example/micro_ranker/microranker/engine/Block" "last" "I" (.int x4) ∧ Fld Z h a "com/example/micro_ranker/microranker/engine/Block" "base" "I" (.int x3) ∧ Fld Z h a "com/example/micro_ranker/microranker/engine/Block" "lowWidth" "I" (.int (f18 (x4 - x3) (2 : Int32))) ∧ Fld Z h a "com/example/micro_ranker/microranker/engine/Block" "highs" "J" (.long (((x1 + (5 : Int64)) + ((2 : Int64) * ((f18 (x4 - x3) (2 : Int32)) + (f15 g x1 (5 : Int32))).toInt64)) + (f15 g x1 (5 : Int32)).toInt64)) ∧ Fld Z h a "com/example/micro_ranker/microranker/engine/Block" "entries" "J" (.long (x1 + (5 : Int64)))
set_option maxRecDepth 65536 in
set_option maxHeartbeats 400000000 in
theorem rm14_3 (l : Launch) (Z : State) (a0 : Array Value) (hw : ∀ d ∈ tables_1, d.before a0 Z = true) (a : Addr) (yw : Addr) (g : Nat → Int64) (x1 : Int64) (x3 : Int32) (x4 : Int32) (h0 : Heap) (n0 : Nat) (hz : n0 ≤ h0.size) (ge_a : n0 ≤ a) (hE : Exa Z h0 a "com/example/micro_ranker/microranker/engine/Block") (G_words : Fld Z h0 a "com/example/micro_ranker/microranker/engine/Block" "words" "[J" .null) (G_count : Fld Z h0 a "com/example/micro_ranker/microranker/engine/Block" "count" "I" (.int (0 : Int32))) (G_base : Fld Z h0 a "com/example/micro_ranker/microranker/engine/Block" "base" "I" (.int (0 : Int32))) (G_last : Fld Z h0 a "com/example/micro_ranker/microranker/engine/Block" "last" "I" (.int (0 : Int32))) (G_frequencyWidth : Fld Z h0 a "com/example/micro_ranker/microranker/engine/Block" "frequencyWidth" "I" (.int (0 : Int32))) (G_lowWidth : Fld Z h0 a "com/example/micro_ranker/microranker/engine/Block" "lowWidth" "I" (.int (0 : Int32))) (G_entries : Fld Z h0 a "com/example/micro_ranker/microranker/engine/Block" "entries" "J" (.long (0 : Int64))) (G_highs : Fld Z h0 a "com/example/micro_ranker/microranker/engine/Block" "highs" "J" (.long (0 : Int64))) (G_entry : Fld Z h0 a "com/example/micro_ranker/microranker/engine/Block" "entry" "I" (.int (0 : Int32))) (G_position : Fld Z h0 a "com/example/micro_ranker/microranker/engine/Block" "position" "J" (.long (0 : Int64))) (G_document : Fld Z h0 a "com/example/micro_ranker/microranker/engine/Block" "document" "I" (.int (0 : Int32))) (A_yw : AJ Z h0 yw 8 g) (ne_a_yw : a ≠ yw) (hx : 0 ≤ x1.toInt ∧ x1.toInt ≤ 447) :
    Met l Z (⟨"com/example/micro_ranker/microranker/engine/Block", "load", "([JJIII)Lcom/example/micro_ranker/microranker/engine/Block;"⟩ : MethodName) prog_18_method_3_code 7 (some (.object "com/example/micro_ranker/microranker/engine/Block")) ({ frames := 4, cells := 0, slots := 0, locals := 58 } : Room) #[(.ref a), (.ref yw), (.long x1), (.int (3 : Int32)), (.int x3), (.int x4)] h0 (Q14_3 Z a yw g x1 x3 x4 h0 n0) := by
  refine enter pl14 #[vr a, vr yw, vj x1, s2, vi 3, vi x3, vi x4] rfl ?_
  intro p e s m below meth c T B hret hlk hnm
  have N0 := Fr.nil n0
  refine o_aloadN B 0 1 (v := (.ref a)) d14_0 rfl rfl rfl ?_
  refine o_aloadN B 1 2 (v := (.ref yw)) d14_1 rfl rfl rfl ?_
  obtain ⟨T1, h1, L1, B1, N1, W1, c1⟩ := o_putfield B N0 ge_a 2 5 (v := (.ref yw)) d14_2 rfl (host := "") (Or.inl (hw _ (mi 76 rfl))) Via.refl G_words hE (Or.inl (hw _ (mi 77 rfl))) (hw _ (mi 61 rfl)) (ty := (.array .long)) (by decide) rfl rfl (Ls := #[vr a, vr yw, vj x1, s2, vi 3, vi x3, vi x4]) (rest := [])
  have F1 : Fld Z h1 a "com/example/micro_ranker/microranker/engine/Block" "words" "[J" (.ref yw) := Fld.same W1 G_words
  refine c1 ?_
  refine o_aloadN B1 5 6 (v := (.ref a)) d14_5 rfl rfl rfl ?_
  refine o_iload B1 6 8 (v := (3 : Int32)) d14_6 rfl rfl ?_
  have F3 := (Fld.other W1 G_count (Or.inr (sn2 hw)))
  have F4 := (Exa.wr W1 hE)
  obtain ⟨T2, h2, L2, B2, N2, W2, c2⟩ := o_putfield B1 N1 ge_a 8 11 (v := (.int (3 : Int32))) d14_8 rfl (host := "") (Or.inl (hw _ (mi 78 rfl))) Via.refl F3 F4 (Or.inl (hw _ (mi 79 rfl))) (hw _ (mi 61 rfl)) (ty := .int) (by decide) rfl rfl (Ls := #[vr a, vr yw, vj x1, s2, vi 3, vi x3, vi x4]) (rest := [])
  have F2 : Fld Z h2 a "com/example/micro_ranker/microranker/engine/Block" "count" "I" (.int (3 : Int32)) := Fld.same W2 F3
  refine c2 ?_
  refine o_aloadN B2 11 12 (v := (.ref a)) d14_11 rfl rfl rfl ?_
  refine o_iload B2 12 14 (v := x3) d14_12 rfl rfl ?_
  have F6 := (Fld.other W2 (Fld.other W1 G_base (Or.inr (sn3 hw))) (Or.inr (sn4 hw)))
  have F7 := (Exa.wr W2 F4)
  obtain ⟨T5, h5, L5, B5, N5, W5, c5⟩ := o_putfield B2 N2 ge_a 14 17 (v := (.int x3)) d14_14 rfl (host := "") (Or.inl (hw _ (mi 80 rfl))) Via.refl F6 F7 (Or.inl (hw _ (mi 81 rfl))) (hw _ (mi 61 rfl)) (ty := .int) (by decide) rfl rfl (Ls := #[vr a, vr yw, vj x1, s2, vi 3, vi x3, vi x4]) (rest := [])
  have F5 : Fld Z h5 a "com/example/micro_ranker/microranker/engine/Block" "base" "I" (.int x3) := Fld.same W5 F6
  refine c5 ?_
  refine o_aloadN B5 17 18 (v := (.ref a)) d14_17 rfl rfl rfl ?_
  refine o_iload B5 18 20 (v := x4) d14_18 rfl rfl ?_
  have F9 := (Fld.other W5 (Fld.other W2 (Fld.other W1 G_last (Or.inr (sn5 hw))) (Or.inr (sn6 hw))) (Or.inr (sn7 hw)))
  have F10 := (Exa.wr W5 F7)
  obtain ⟨T8, h8, L8, B8, N8, W8, c8⟩ := o_putfield B5 N5 ge_a 20 23 (v := (.int x4)) d14_20 rfl (host := "") (Or.inl (hw _ (mi 82 rfl))) Via.refl F9 F10 (Or.inl (hw _ (mi 83 rfl))) (hw _ (mi 61 rfl)) (ty := .int) (by decide) rfl rfl (Ls := #[vr a, vr yw, vj x1, s2, vi 3, vi x3, vi x4]) (rest := [])
  have F8 : Fld Z h8 a "com/example/micro_ranker/microranker/engine/Block" "last" "I" (.int x4) := Fld.same W8 F9
  refine c8 ?_
  refine o_aloadN B8 23 24 (v := (.ref a)) d14_23 rfl rfl rfl ?_
  refine o_aloadN B8 24 25 (v := (.ref yw)) d14_24 rfl rfl rfl ?_
  refine o_lloadN B8 25 26 (v := x1) d14_25 rfl rfl ?_
  refine o_iconst B8 26 27 (5 : Int32) d14_26 rfl (by decide) ?_
  have F11 := ((((A_yw.other W1 (Ne.symm ne_a_yw)).other W2 (Ne.symm ne_a_yw)).other W5 (Ne.symm ne_a_yw)).other W8 (Ne.symm ne_a_yw))
  obtain ⟨T12, B12, c12⟩ := o_callP B8 27 30 d14_27 rfl (hw _ (mi 84 rfl)) (hw _ (mi 85 rfl)) (hw _ (mi 41 rfl)) (hw _ (mi 86 rfl)) (by decide) (rm15 l Z a0 hw g yw x1 (5 : Int32) h8 F11 hx) 1 [(.ref yw), (.long x1), (.int (5 : Int32))] [(.ref a)] pd___JJI_I rfl rfl (st := [(.int (5 : Int32)), (.long x1), (.ref yw), (.ref a)]) rfl (Ls := #[vr a, vr yw, vj x1, s2, vi 3, vi x3, vi x4]) rfl (Nat.le_of_eq rfl) (by decide) (by decide) (by decide) (by decide)
  refine c12 ?_
  have F14 := (Fld.other W8 (Fld.other W5 (Fld.other W2 (Fld.other W1 G_frequencyWidth (Or.inr (sn8 hw))) (Or.inr (sn9 hw))) (Or.inr (sn10 hw))) (Or.inr (sn11 hw)))
  have F15 := (Exa.wr W8 F10)
  obtain ⟨T13, h13, L13, B13, N13, W13, c13⟩ := o_putfield B12 N8 ge_a 30 33 (v := (.int (f15 g x1 (5 : Int32)))) d14_30 rfl (host := "") (Or.inl (hw _ (mi 91 rfl))) Via.refl F14 F15 (Or.inl (hw _ (mi 92 rfl))) (hw _ (mi 61 rfl)) (ty := .int) (by decide) rfl rfl (Ls := #[vr a, vr yw, vj x1, s2, vi 3, vi x3, vi x4]) (rest := [])
  have F13 : Fld Z h13 a "com/example/micro_ranker/microranker/engine/Block" "frequencyWidth" "I" (.int (f15 g x1 (5 : Int32))) := Fld.same W13 F14
  refine c13 ?_
  refine o_aloadN B13 33 34 (v := (.ref a)) d14_33 rfl rfl rfl ?_
  refine o_iload B13 34 36 (v := (3 : Int32)) d14_34 rfl rfl ?_
  refine o_iconst B13 36 37 (1 : Int32) d14_36 rfl (by decide) ?_
  refine o_icN B13 37 40 d14_37 rfl (XT.ii_le_f (by decide)) ?_
  refine o_iload B13 40 42 (v := x4) d14_40 rfl rfl ?_
  refine o_iload B13 42 44 (v := x3) d14_42 rfl rfl ?_
  refine o_isub B13 44 45 d14_44 rfl ?_
  refine o_iload B13 45 47 (v := (3 : Int32)) d14_45 rfl rfl ?_
  refine o_iconst B13 47 48 (1 : Int32) d14_47 rfl (by decide) ?_
  refine o_isub B13 48 49 d14_48 rfl ?_
  refine o_topI (show ((3 : Int32) - (1 : Int32)) = (2 : Int32) by decide) ?_
  obtain ⟨T16, B16, c16⟩ := o_callP B13 49 52 d14_49 rfl (hw _ (mi 111 rfl)) (hw _ (mi 112 rfl)) (hw _ (mi 36 rfl)) (hw _ (mi 113 rfl)) (by decide) (rm18 l Z a0 hw (x4 - x3) (2 : Int32) h13 ) 1 [(.int (x4 - x3)), (.int (2 : Int32))] [(.ref a)] pd__II_I rfl rfl (st := [(.int (2 : Int32)), (.int (x4 - x3)), (.ref a)]) rfl (Ls := #[vr a, vr yw, vj x1, s2, vi 3, vi x3, vi x4]) rfl (Nat.le_of_eq rfl) (by decide) (by decide) (by decide) (by decide)
  refine c16 ?_
  refine o_goto B16 52 56 d14_52 (by decide) (by decide) ?_
  have F18 := (Fld.other W13 (Fld.other W8 (Fld.other W5 (Fld.other W2 (Fld.other W1 G_lowWidth (Or.inr (sn12 hw))) (Or.inr (sn13 hw))) (Or.inr (sn14 hw))) (Or.inr (sn15 hw))) (Or.inr (sn16 hw)))
  have F19 := (Exa.wr W13 F15)
  obtain ⟨T17, h17, L17, B17, N17, W17, c17⟩ := o_putfield B16 N13 ge_a 56 59 (v := (.int (f18 (x4 - x3) (2 : Int32)))) d14_56 rfl (host := "") (Or.inl (hw _ (mi 93 rfl))) Via.refl F18 F19 (Or.inl (hw _ (mi 94 rfl))) (hw _ (mi 61 rfl)) (ty := .int) (by decide) rfl rfl (Ls := #[vr a, vr yw, vj x1, s2, vi 3, vi x3, vi x4]) (rest := [])
  have F17 : Fld Z h17 a "com/example/micro_ranker/microranker/engine/Block" "lowWidth" "I" (.int (f18 (x4 - x3) (2 : Int32))) := Fld.same W17 F18
  refine c17 ?_
  refine o_aloadN B17 59 60 (v := (.ref a)) d14_59 rfl rfl rfl ?_
  refine o_lloadN B17 60 61 (v := x1) d14_60 rfl rfl ?_
  refine o_ldc2 B17 61 64 d14_61 rfl (hw _ (mi 95 rfl)) ?_
  refine o_ladd B17 64 65 d14_64 rfl ?_
  have F21 := (Fld.other W17 (Fld.other W13 (Fld.other W8 (Fld.other W5 (Fld.other W2 (Fld.other W1 G_entries (Or.inr (sn17 hw))) (Or.inr (sn18 hw))) (Or.inr (sn19 hw))) (Or.inr (sn20 hw))) (Or.inr (sn21 hw))) (Or.inr (sn22 hw)))
  have F22 := (Exa.wr W17 F19)
  obtain ⟨T20, h20, L20, B20, N20, W20, c20⟩ := o_putfield B17 N17 ge_a 65 68 (v := (.long (x1 + (5 : Int64)))) d14_65 rfl (host := "") (Or.inl (hw _ (mi 96 rfl))) Via.refl F21 F22 (Or.inl (hw _ (mi 97 rfl))) (hw _ (mi 61 rfl)) (ty := .long) (by decide) rfl rfl (Ls := #[vr a, vr yw, vj x1, s2, vi 3, vi x3, vi x4]) (rest := [])
  have F20 : Fld Z h20 a "com/example/micro_ranker/microranker/engine/Block" "entries" "J" (.long (x1 + (5 : Int64))) := Fld.same W20 F21
  refine c20 ?_
  refine o_aloadN B20 68 69 (v := (.ref a)) d14_68 rfl rfl rfl ?_
  refine o_aloadN B20 69 70 (v := (.ref a)) d14_69 rfl rfl rfl ?_
  obtain ⟨T23, B23, c23⟩ := o_getfield B20 70 73 d14_70 rfl (host := "") (Or.inl (hw _ (mi 96 rfl))) Via.refl F20 (Ls := #[vr a, vr yw, vj x1, s2, vi 3, vi x3, vi x4]) (rest := [(.ref a)])
  refine c23 ?_
  refine o_iload B23 73 75 (v := (3 : Int32)) d14_73 rfl rfl ?_
  refine o_iconst B23 75 76 (1 : Int32) d14_75 rfl (by decide) ?_
  refine o_isub B23 76 77 d14_76 rfl ?_
  refine o_topI (show ((3 : Int32) - (1 : Int32)) = (2 : Int32) by decide) ?_
  refine o_i2l B23 77 78 d14_77 rfl ?_
  refine o_topJ (show (2 : Int32).toInt64 = (2 : Int64) by decide) ?_
  refine o_aloadN B23 78 79 (v := (.ref a)) d14_78 rfl rfl rfl ?_
  have F25 := (Fld.other W20 F17 (Or.inr (sn23 hw)))
  obtain ⟨T24, B24, c24⟩ := o_getfield B23 79 82 d14_79 rfl (host := "") (Or.inl (hw _ (mi 93 rfl))) Via.refl F25 (Ls := #[vr a, vr yw, vj x1, s2, vi 3, vi x3, vi x4]) (rest := [(.long (2 : Int64)), (.long (x1 + (5 : Int64))), (.ref a)])
  refine c24 ?_
  refine o_aloadN B24 82 83 (v := (.ref a)) d14_82 rfl rfl rfl ?_
  have F27 := (Fld.other W20 (Fld.other W17 F13 (Or.inr (sn24 hw))) (Or.inr (sn25 hw)))
  obtain ⟨T26, B26, c26⟩ := o_getfield B24 83 86 d14_83 rfl (host := "") (Or.inl (hw _ (mi 91 rfl))) Via.refl F27 (Ls := #[vr a, vr yw, vj x1, s2, vi 3, vi x3, vi x4]) (rest := [(.int (f18 (x4 - x3) (2 : Int32))), (.long (2 : Int64)), (.long (x1 + (5 : Int64))), (.ref a)])
  refine c26 ?_
  refine o_iadd B26 86 87 d14_86 rfl ?_
  refine o_i2l B26 87 88 d14_87 rfl ?_
  refine o_lmul B26 88 89 d14_88 rfl ?_
  refine o_ladd B26 89 90 d14_89 rfl ?_
  refine o_aloadN B26 90 91 (v := (.ref a)) d14_90 rfl rfl rfl ?_
  obtain ⟨T28, B28, c28⟩ := o_getfield B26 91 94 d14_91 rfl (host := "") (Or.inl (hw _ (mi 91 rfl))) Via.refl F27 (Ls := #[vr a, vr yw, vj x1, s2, vi 3, vi x3, vi x4]) (rest := [(.long ((x1 + (5 : Int64)) + ((2 : Int64) * ((f18 (x4 - x3) (2 : Int32)) + (f15 g x1 (5 : Int32))).toInt64))), (.ref a)])
  refine c28 ?_
  refine o_i2l B28 94 95 d14_94 rfl ?_
  refine o_ladd B28 95 96 d14_95 rfl ?_
  have F30 := (Fld.other W20 (Fld.other W17 (Fld.other W13 (Fld.other W8 (Fld.other W5 (Fld.other W2 (Fld.other W1 G_highs (Or.inr (sn26 hw))) (Or.inr (sn27 hw))) (Or.inr (sn28 hw))) (Or.inr (sn29 hw))) (Or.inr (sn30 hw))) (Or.inr (sn31 hw))) (Or.inr (sn32 hw)))
  have F31 := (Exa.wr W20 F22)
  obtain ⟨T29, h29, L29, B29, N29, W29, c29⟩ := o_putfield B28 N20 ge_a 96 99 (v := (.long (((x1 + (5 : Int64)) + ((2 : Int64) * ((f18 (x4 - x3) (2 : Int32)) + (f15 g x1 (5 : Int32))).toInt64)) + (f15 g x1 (5 : Int32)).toInt64))) d14_96 rfl (host := "") (Or.inl (hw _ (mi 98 rfl))) Via.refl F30 F31 (Or.inl (hw _ (mi 99 rfl))) (hw _ (mi 61 rfl)) (ty := .long) (by decide) rfl rfl (Ls := #[vr a, vr yw, vj x1, s2, vi 3, vi x3, vi x4]) (rest := [])
  have F29 : Fld Z h29 a "com/example/micro_ranker/microranker/engine/Block" "highs" "J" (.long (((x1 + (5 : Int64)) + ((2 : Int64) * ((f18 (x4 - x3) (2 : Int32)) + (f15 g x1 (5 : Int32))).toInt64)) + (f15 g x1 (5 : Int32)).toInt64)) := Fld.same W29 F30
  refine c29 ?_
  refine o_aloadN B29 99 100 (v := (.ref a)) d14_99 rfl rfl rfl ?_
  refine o_iconst B29 100 101 (-1 : Int32) d14_100 rfl (by decide) ?_
  have F33 := (Fld.other W29 (Fld.other W20 (Fld.other W17 (Fld.other W13 (Fld.other W8 (Fld.other W5 (Fld.other W2 (Fld.other W1 G_entry (Or.inr (sn33 hw))) (Or.inr (sn34 hw))) (Or.inr (sn35 hw))) (Or.inr (sn36 hw))) (Or.inr (sn37 hw))) (Or.inr (sn38 hw))) (Or.inr (sn39 hw))) (Or.inr (sn40 hw)))
  have F34 := (Exa.wr W29 F31)
  obtain ⟨T32, h32, L32, B32, N32, W32, c32⟩ := o_putfield B29 N29 ge_a 101 104 (v := (.int (-1 : Int32))) d14_101 rfl (host := "") (Or.inl (hw _ (mi 100 rfl))) Via.refl F33 F34 (Or.inl (hw _ (mi 101 rfl))) (hw _ (mi 61 rfl)) (ty := .int) (by decide) rfl rfl (Ls := #[vr a, vr yw, vj x1, s2, vi 3, vi x3, vi x4]) (rest := [])
  have F32 : Fld Z h32 a "com/example/micro_ranker/microranker/engine/Block" "entry" "I" (.int (-1 : Int32)) := Fld.same W32 F33
  refine c32 ?_
  refine o_aloadN B32 104 105 (v := (.ref a)) d14_104 rfl rfl rfl ?_
  refine o_aloadN B32 105 106 (v := (.ref a)) d14_105 rfl rfl rfl ?_
  have F36 := (Fld.other W32 F29 (Or.inr (sn41 hw)))
  obtain ⟨T35, B35, c35⟩ := o_getfield B32 106 109 d14_106 rfl (host := "") (Or.inl (hw _ (mi 98 rfl))) Via.refl F36 (Ls := #[vr a, vr yw, vj x1, s2, vi 3, vi x3, vi x4]) (rest := [(.ref a)])
  refine c35 ?_
  refine o_lconst B35 109 110 (1 : Int64) d14_109 rfl (by decide) ?_
  refine o_lsub B35 110 111 d14_110 rfl ?_
  have F38 := (Fld.other W32 (Fld.other W29 (Fld.other W20 (Fld.other W17 (Fld.other W13 (Fld.other W8 (Fld.other W5 (Fld.other W2 (Fld.other W1 G_position (Or.inr (sn42 hw))) (Or.inr (sn43 hw))) (Or.inr (sn44 hw))) (Or.inr (sn45 hw))) (Or.inr (sn46 hw))) (Or.inr (sn47 hw))) (Or.inr (sn48 hw))) (Or.inr (sn49 hw))) (Or.inr (sn50 hw)))
  have F39 := (Exa.wr W32 F34)
  obtain ⟨T37, h37, L37, B37, N37, W37, c37⟩ := o_putfield B35 N32 ge_a 111 114 (v := (.long ((((x1 + (5 : Int64)) + ((2 : Int64) * ((f18 (x4 - x3) (2 : Int32)) + (f15 g x1 (5 : Int32))).toInt64)) + (f15 g x1 (5 : Int32)).toInt64) - (1 : Int64)))) d14_111 rfl (host := "") (Or.inl (hw _ (mi 102 rfl))) Via.refl F38 F39 (Or.inl (hw _ (mi 103 rfl))) (hw _ (mi 61 rfl)) (ty := .long) (by decide) rfl rfl (Ls := #[vr a, vr yw, vj x1, s2, vi 3, vi x3, vi x4]) (rest := [])
  have F37 : Fld Z h37 a "com/example/micro_ranker/microranker/engine/Block" "position" "J" (.long ((((x1 + (5 : Int64)) + ((2 : Int64) * ((f18 (x4 - x3) (2 : Int32)) + (f15 g x1 (5 : Int32))).toInt64)) + (f15 g x1 (5 : Int32)).toInt64) - (1 : Int64))) := Fld.same W37 F38
  refine c37 ?_
  refine o_aloadN B37 114 115 (v := (.ref a)) d14_114 rfl rfl rfl ?_
  refine o_iload B37 115 117 (v := x3) d14_115 rfl rfl ?_
  refine o_iconst B37 117 118 (1 : Int32) d14_117 rfl (by decide) ?_
  refine o_isub B37 118 119 d14_118 rfl ?_
  have F41 := (Fld.other W37 (Fld.other W32 (Fld.other W29 (Fld.other W20 (Fld.other W17 (Fld.other W13 (Fld.other W8 (Fld.other W5 (Fld.other W2 (Fld.other W1 G_document (Or.inr (sn51 hw))) (Or.inr (sn52 hw))) (Or.inr (sn53 hw))) (Or.inr (sn54 hw))) (Or.inr (sn55 hw))) (Or.inr (sn56 hw))) (Or.inr (sn57 hw))) (Or.inr (sn58 hw))) (Or.inr (sn59 hw))) (Or.inr (sn60 hw)))
  have F42 := (Exa.wr W37 F39)
  obtain ⟨T40, h40, L40, B40, N40, W40, c40⟩ := o_putfield B37 N37 ge_a 119 122 (v := (.int (x3 - (1 : Int32)))) d14_119 rfl (host := "") (Or.inl (hw _ (mi 104 rfl))) Via.refl F41 F42 (Or.inl (hw _ (mi 105 rfl))) (hw _ (mi 61 rfl)) (ty := .int) (by decide) rfl rfl (Ls := #[vr a, vr yw, vj x1, s2, vi 3, vi x3, vi x4]) (rest := [])
  have F40 : Fld Z h40 a "com/example/micro_ranker/microranker/engine/Block" "document" "I" (.int (x3 - (1 : Int32))) := Fld.same W40 F41
  refine c40 ?_
  refine o_aloadN B40 122 123 (v := (.ref a)) d14_122 rfl rfl rfl ?_
  have F43 := (Fld.other W40 (Fld.other W37 (Fld.other W32 (Fld.other W29 (Fld.other W20 (Fld.other W17 (Fld.other W13 (Fld.other W8 (Fld.other W5 F2 (Or.inr (sn61 hw))) (Or.inr (sn62 hw))) (Or.inr (sn63 hw))) (Or.inr (sn64 hw))) (Or.inr (sn65 hw))) (Or.inr (sn66 hw))) (Or.inr (sn67 hw))) (Or.inr (sn68 hw))) (Or.inr (sn69 hw)))
  have F44 := (Fld.other W40 (Fld.other W37 (Fld.other W32 (Fld.other W29 (Fld.other W20 (Fld.other W17 (Fld.other W13 F8 (Or.inr (sn70 hw))) (Or.inr (sn71 hw))) (Or.inr (sn72 hw))) (Or.inr (sn73 hw))) (Or.inr (sn74 hw))) (Or.inr (sn75 hw))) (Or.inr (sn76 hw)))
  have F45 := (Fld.other W40 (Fld.other W37 (Fld.other W32 (Fld.other W29 (Fld.other W20 (Fld.other W17 (Fld.other W13 (Fld.other W8 F5 (Or.inr (sn77 hw))) (Or.inr (sn78 hw))) (Or.inr (sn79 hw))) (Or.inr (sn80 hw))) (Or.inr (sn81 hw))) (Or.inr (sn82 hw))) (Or.inr (sn83 hw))) (Or.inr (sn84 hw)))
  have F46 := (Fld.other W40 (Fld.other W37 (Fld.other W32 (Fld.other W29 F25 (Or.inr (sn85 hw))) (Or.inr (sn86 hw))) (Or.inr (sn87 hw))) (Or.inr (sn88 hw)))
  have F47 := (Fld.other W40 (Fld.other W37 F36 (Or.inr (sn89 hw))) (Or.inr (sn90 hw)))
  have F48 := (Fld.other W40 (Fld.other W37 (Fld.other W32 (Fld.other W29 F20 (Or.inr (sn91 hw))) (Or.inr (sn92 hw))) (Or.inr (sn93 hw))) (Or.inr (sn94 hw)))
  have KT49 := ((((((((((((Keep.refl h0 [a]).wr W1 (Or.inl (mi 0 rfl))).wr W2 (Or.inl (mi 0 rfl))).wr W5 (Or.inl (mi 0 rfl))).wr W8 (Or.inl (mi 0 rfl))).wr W13 (Or.inl (mi 0 rfl))).wr W17 (Or.inl (mi 0 rfl))).wr W20 (Or.inl (mi 0 rfl))).wr W29 (Or.inl (mi 0 rfl))).wr W32 (Or.inl (mi 0 rfl))).wr W37 (Or.inl (mi 0 rfl))).wr W40 (Or.inl (mi 0 rfl)))
  exact o_retA B40 123 d14_123 hret hlk rfl rfl (by decide) (by decide) ⟨rfl, N40, KT49, F43, F44, F45, F46, F47, F48⟩
def Q14_4 (Z : State) (a : Addr) (yw : Addr) (g : Nat → Int64) (x1 : Int64) (x3 : Int32) (x4 : Int32) (h0 : Heap) (n0 : Nat) (v : Option Value) (h : Heap) (L : List Loc) : Prop := v = some (.ref a) ∧ Fr n0 L ∧ Keep h0 h [a] ∧ Fld Z h a "com/example/micro_ranker/microranker/engine/Block" "count" "I" (.int (4 : Int32)) ∧ Fld Z h a "com/example/micro_ranker/microranker/engine/Block" "last" "I" (.int x4) ∧ Fld Z h a "com/example/micro_ranker/microranker/engine/Block" "base" "I" (.int x3) ∧ Fld Z h a "com/example/micro_ranker/microranker/engine/Block" "lowWidth" "I" (.int (f18 (x4 - x3) (3 : Int32))) ∧ Fld Z h a "com/example/micro_ranker/microranker/engine/Block" "highs" "J" (.long (((x1 + (5 : Int64)) + ((3 : Int64) * ((f18 (x4 - x3) (3 : Int32)) + (f15 g x1 (5 : Int32))).toInt64)) + (f15 g x1 (5 : Int32)).toInt64)) ∧ Fld Z h a "com/example/micro_ranker/microranker/engine/Block" "entries" "J" (.long (x1 + (5 : Int64)))
set_option maxRecDepth 65536 in
set_option maxHeartbeats 400000000 in
theorem rm14_4 (l : Launch) (Z : State) (a0 : Array Value) (hw : ∀ d ∈ tables_1, d.before a0 Z = true) (a : Addr) (yw : Addr) (g : Nat → Int64) (x1 : Int64) (x3 : Int32) (x4 : Int32) (h0 : Heap) (n0 : Nat) (hz : n0 ≤ h0.size) (ge_a : n0 ≤ a) (hE : Exa Z h0 a "com/example/micro_ranker/microranker/engine/Block") (G_words : Fld Z h0 a "com/example/micro_ranker/microranker/engine/Block" "words" "[J" .null) (G_count : Fld Z h0 a "com/example/micro_ranker/microranker/engine/Block" "count" "I" (.int (0 : Int32))) (G_base : Fld Z h0 a "com/example/micro_ranker/microranker/engine/Block" "base" "I" (.int (0 : Int32))) (G_last : Fld Z h0 a "com/example/micro_ranker/microranker/engine/Block" "last" "I" (.int (0 : Int32))) (G_frequencyWidth : Fld Z h0 a "com/example/micro_ranker/microranker/engine/Block" "frequencyWidth" "I" (.int (0 : Int32))) (G_lowWidth : Fld Z h0 a "com/example/micro_ranker/microranker/engine/Block" "lowWidth" "I" (.int (0 : Int32))) (G_entries : Fld Z h0 a "com/example/micro_ranker/microranker/engine/Block" "entries" "J" (.long (0 : Int64))) (G_highs : Fld Z h0 a "com/example/micro_ranker/microranker/engine/Block" "highs" "J" (.long (0 : Int64))) (G_entry : Fld Z h0 a "com/example/micro_ranker/microranker/engine/Block" "entry" "I" (.int (0 : Int32))) (G_position : Fld Z h0 a "com/example/micro_ranker/microranker/engine/Block" "position" "J" (.long (0 : Int64))) (G_document : Fld Z h0 a "com/example/micro_ranker/microranker/engine/Block" "document" "I" (.int (0 : Int32))) (A_yw : AJ Z h0 yw 8 g) (ne_a_yw : a ≠ yw) (hx : 0 ≤ x1.toInt ∧ x1.toInt ≤ 447) :
    Met l Z (⟨"com/example/micro_ranker/microranker/engine/Block", "load", "([JJIII)Lcom/example/micro_ranker/microranker/engine/Block;"⟩ : MethodName) prog_18_method_3_code 7 (some (.object "com/example/micro_ranker/microranker/engine/Block")) ({ frames := 4, cells := 0, slots := 0, locals := 58 } : Room) #[(.ref a), (.ref yw), (.long x1), (.int (4 : Int32)), (.int x3), (.int x4)] h0 (Q14_4 Z a yw g x1 x3 x4 h0 n0) := by
  refine enter pl14 #[vr a, vr yw, vj x1, s2, vi 4, vi x3, vi x4] rfl ?_
  intro p e s m below meth c T B hret hlk hnm
  have N0 := Fr.nil n0
  refine o_aloadN B 0 1 (v := (.ref a)) d14_0 rfl rfl rfl ?_
  refine o_aloadN B 1 2 (v := (.ref yw)) d14_1 rfl rfl rfl ?_
  obtain ⟨T1, h1, L1, B1, N1, W1, c1⟩ := o_putfield B N0 ge_a 2 5 (v := (.ref yw)) d14_2 rfl (host := "") (Or.inl (hw _ (mi 76 rfl))) Via.refl G_words hE (Or.inl (hw _ (mi 77 rfl))) (hw _ (mi 61 rfl)) (ty := (.array .long)) (by decide) rfl rfl (Ls := #[vr a, vr yw, vj x1, s2, vi 4, vi x3, vi x4]) (rest := [])
  have F1 : Fld Z h1 a "com/example/micro_ranker/microranker/engine/Block" "words" "[J" (.ref yw) := Fld.same W1 G_words
  refine c1 ?_
  refine o_aloadN B1 5 6 (v := (.ref a)) d14_5 rfl rfl rfl ?_
  refine o_iload B1 6 8 (v := (4 : Int32)) d14_6 rfl rfl ?_
  have F3 := (Fld.other W1 G_count (Or.inr (sn2 hw)))
  have F4 := (Exa.wr W1 hE)
  obtain ⟨T2, h2, L2, B2, N2, W2, c2⟩ := o_putfield B1 N1 ge_a 8 11 (v := (.int (4 : Int32))) d14_8 rfl (host := "") (Or.inl (hw _ (mi 78 rfl))) Via.refl F3 F4 (Or.inl (hw _ (mi 79 rfl))) (hw _ (mi 61 rfl)) (ty := .int) (by decide) rfl rfl (Ls := #[vr a, vr yw, vj x1, s2, vi 4, vi x3, vi x4]) (rest := [])
  have F2 : Fld Z h2 a "com/example/micro_ranker/microranker/engine/Block" "count" "I" (.int (4 : Int32)) := Fld.same W2 F3
  refine c2 ?_
  refine o_aloadN B2 11 12 (v := (.ref a)) d14_11 rfl rfl rfl ?_
  refine o_iload B2 12 14 (v := x3) d14_12 rfl rfl ?_
  have F6 := (Fld.other W2 (Fld.other W1 G_base (Or.inr (sn3 hw))) (Or.inr (sn4 hw)))
  have F7 := (Exa.wr W2 F4)
  obtain ⟨T5, h5, L5, B5, N5, W5, c5⟩ := o_putfield B2 N2 ge_a 14 17 (v := (.int x3)) d14_14 rfl (host := "") (Or.inl (hw _ (mi 80 rfl))) Via.refl F6 F7 (Or.inl (hw _ (mi 81 rfl))) (hw _ (mi 61 rfl)) (ty := .int) (by decide) rfl rfl (Ls := #[vr a, vr yw, vj x1, s2, vi 4, vi x3, vi x4]) (rest := [])
  have F5 : Fld Z h5 a "com/example/micro_ranker/microranker/engine/Block" "base" "I" (.int x3) := Fld.same W5 F6
  refine c5 ?_
  refine o_aloadN B5 17 18 (v := (.ref a)) d14_17 rfl rfl rfl ?_
  refine o_iload B5 18 20 (v := x4) d14_18 rfl rfl ?_
  have F9 := (Fld.other W5 (Fld.other W2 (Fld.other W1 G_last (Or.inr (sn5 hw))) (Or.inr (sn6 hw))) (Or.inr (sn7 hw)))
  have F10 := (Exa.wr W5 F7)
  obtain ⟨T8, h8, L8, B8, N8, W8, c8⟩ := o_putfield B5 N5 ge_a 20 23 (v := (.int x4)) d14_20 rfl (host := "") (Or.inl (hw _ (mi 82 rfl))) Via.refl F9 F10 (Or.inl (hw _ (mi 83 rfl))) (hw _ (mi 61 rfl)) (ty := .int) (by decide) rfl rfl (Ls := #[vr a, vr yw, vj x1, s2, vi 4, vi x3, vi x4]) (rest := [])
  have F8 : Fld Z h8 a "com/example/micro_ranker/microranker/engine/Block" "last" "I" (.int x4) := Fld.same W8 F9
  refine c8 ?_
  refine o_aloadN B8 23 24 (v := (.ref a)) d14_23 rfl rfl rfl ?_
  refine o_aloadN B8 24 25 (v := (.ref yw)) d14_24 rfl rfl rfl ?_
  refine o_lloadN B8 25 26 (v := x1) d14_25 rfl rfl ?_
  refine o_iconst B8 26 27 (5 : Int32) d14_26 rfl (by decide) ?_
  have F11 := ((((A_yw.other W1 (Ne.symm ne_a_yw)).other W2 (Ne.symm ne_a_yw)).other W5 (Ne.symm ne_a_yw)).other W8 (Ne.symm ne_a_yw))
  obtain ⟨T12, B12, c12⟩ := o_callP B8 27 30 d14_27 rfl (hw _ (mi 84 rfl)) (hw _ (mi 85 rfl)) (hw _ (mi 41 rfl)) (hw _ (mi 86 rfl)) (by decide) (rm15 l Z a0 hw g yw x1 (5 : Int32) h8 F11 hx) 1 [(.ref yw), (.long x1), (.int (5 : Int32))] [(.ref a)] pd___JJI_I rfl rfl (st := [(.int (5 : Int32)), (.long x1), (.ref yw), (.ref a)]) rfl (Ls := #[vr a, vr yw, vj x1, s2, vi 4, vi x3, vi x4]) rfl (Nat.le_of_eq rfl) (by decide) (by decide) (by decide) (by decide)
  refine c12 ?_
  have F14 := (Fld.other W8 (Fld.other W5 (Fld.other W2 (Fld.other W1 G_frequencyWidth (Or.inr (sn8 hw))) (Or.inr (sn9 hw))) (Or.inr (sn10 hw))) (Or.inr (sn11 hw)))
  have F15 := (Exa.wr W8 F10)
  obtain ⟨T13, h13, L13, B13, N13, W13, c13⟩ := o_putfield B12 N8 ge_a 30 33 (v := (.int (f15 g x1 (5 : Int32)))) d14_30 rfl (host := "") (Or.inl (hw _ (mi 91 rfl))) Via.refl F14 F15 (Or.inl (hw _ (mi 92 rfl))) (hw _ (mi 61 rfl)) (ty := .int) (by decide) rfl rfl (Ls := #[vr a, vr yw, vj x1, s2, vi 4, vi x3, vi x4]) (rest := [])
  have F13 : Fld Z h13 a "com/example/micro_ranker/microranker/engine/Block" "frequencyWidth" "I" (.int (f15 g x1 (5 : Int32))) := Fld.same W13 F14
  refine c13 ?_
  refine o_aloadN B13 33 34 (v := (.ref a)) d14_33 rfl rfl rfl ?_
  refine o_iload B13 34 36 (v := (4 : Int32)) d14_34 rfl rfl ?_
  refine o_iconst B13 36 37 (1 : Int32) d14_36 rfl (by decide) ?_
  refine o_icN B13 37 40 d14_37 rfl (XT.ii_le_f (by decide)) ?_
  refine o_iload B13 40 42 (v := x4) d14_40 rfl rfl ?_
  refine o_iload B13 42 44 (v := x3) d14_42 rfl rfl ?_
  refine o_isub B13 44 45 d14_44 rfl ?_
  refine o_iload B13 45 47 (v := (4 : Int32)) d14_45 rfl rfl ?_
  refine o_iconst B13 47 48 (1 : Int32) d14_47 rfl (by decide) ?_
  refine o_isub B13 48 49 d14_48 rfl ?_
  refine o_topI (show ((4 : Int32) - (1 : Int32)) = (3 : Int32) by decide) ?_
  obtain ⟨T16, B16, c16⟩ := o_callP B13 49 52 d14_49 rfl (hw _ (mi 111 rfl)) (hw _ (mi 112 rfl)) (hw _ (mi 36 rfl)) (hw _ (mi 113 rfl)) (by decide) (rm18 l Z a0 hw (x4 - x3) (3 : Int32) h13 ) 1 [(.int (x4 - x3)), (.int (3 : Int32))] [(.ref a)] pd__II_I rfl rfl (st := [(.int (3 : Int32)), (.int (x4 - x3)), (.ref a)]) rfl (Ls := #[vr a, vr yw, vj x1, s2, vi 4, vi x3, vi x4]) rfl (Nat.le_of_eq rfl) (by decide) (by decide) (by decide) (by decide)
  refine c16 ?_
  refine o_goto B16 52 56 d14_52 (by decide) (by decide) ?_
  have F18 := (Fld.other W13 (Fld.other W8 (Fld.other W5 (Fld.other W2 (Fld.other W1 G_lowWidth (Or.inr (sn12 hw))) (Or.inr (sn13 hw))) (Or.inr (sn14 hw))) (Or.inr (sn15 hw))) (Or.inr (sn16 hw)))
  have F19 := (Exa.wr W13 F15)
  obtain ⟨T17, h17, L17, B17, N17, W17, c17⟩ := o_putfield B16 N13 ge_a 56 59 (v := (.int (f18 (x4 - x3) (3 : Int32)))) d14_56 rfl (host := "") (Or.inl (hw _ (mi 93 rfl))) Via.refl F18 F19 (Or.inl (hw _ (mi 94 rfl))) (hw _ (mi 61 rfl)) (ty := .int) (by decide) rfl rfl (Ls := #[vr a, vr yw, vj x1, s2, vi 4, vi x3, vi x4]) (rest := [])
  have F17 : Fld Z h17 a "com/example/micro_ranker/microranker/engine/Block" "lowWidth" "I" (.int (f18 (x4 - x3) (3 : Int32))) := Fld.same W17 F18
  refine c17 ?_
  refine o_aloadN B17 59 60 (v := (.ref a)) d14_59 rfl rfl rfl ?_
  refine o_lloadN B17 60 61 (v := x1) d14_60 rfl rfl ?_
  refine o_ldc2 B17 61 64 d14_61 rfl (hw _ (mi 95 rfl)) ?_
  refine o_ladd B17 64 65 d14_64 rfl ?_
  have F21 := (Fld.other W17 (Fld.other W13 (Fld.other W8 (Fld.other W5 (Fld.other W2 (Fld.other W1 G_entries (Or.inr (sn17 hw))) (Or.inr (sn18 hw))) (Or.inr (sn19 hw))) (Or.inr (sn20 hw))) (Or.inr (sn21 hw))) (Or.inr (sn22 hw)))
  have F22 := (Exa.wr W17 F19)
  obtain ⟨T20, h20, L20, B20, N20, W20, c20⟩ := o_putfield B17 N17 ge_a 65 68 (v := (.long (x1 + (5 : Int64)))) d14_65 rfl (host := "") (Or.inl (hw _ (mi 96 rfl))) Via.refl F21 F22 (Or.inl (hw _ (mi 97 rfl))) (hw _ (mi 61 rfl)) (ty := .long) (by decide) rfl rfl (Ls := #[vr a, vr yw, vj x1, s2, vi 4, vi x3, vi x4]) (rest := [])
  have F20 : Fld Z h20 a "com/example/micro_ranker/microranker/engine/Block" "entries" "J" (.long (x1 + (5 : Int64))) := Fld.same W20 F21
  refine c20 ?_
  refine o_aloadN B20 68 69 (v := (.ref a)) d14_68 rfl rfl rfl ?_
  refine o_aloadN B20 69 70 (v := (.ref a)) d14_69 rfl rfl rfl ?_
  obtain ⟨T23, B23, c23⟩ := o_getfield B20 70 73 d14_70 rfl (host := "") (Or.inl (hw _ (mi 96 rfl))) Via.refl F20 (Ls := #[vr a, vr yw, vj x1, s2, vi 4, vi x3, vi x4]) (rest := [(.ref a)])
  refine c23 ?_
  refine o_iload B23 73 75 (v := (4 : Int32)) d14_73 rfl rfl ?_
  refine o_iconst B23 75 76 (1 : Int32) d14_75 rfl (by decide) ?_
  refine o_isub B23 76 77 d14_76 rfl ?_
  refine o_topI (show ((4 : Int32) - (1 : Int32)) = (3 : Int32) by decide) ?_
  refine o_i2l B23 77 78 d14_77 rfl ?_
  refine o_topJ (show (3 : Int32).toInt64 = (3 : Int64) by decide) ?_
  refine o_aloadN B23 78 79 (v := (.ref a)) d14_78 rfl rfl rfl ?_
  have F25 := (Fld.other W20 F17 (Or.inr (sn23 hw)))
  obtain ⟨T24, B24, c24⟩ := o_getfield B23 79 82 d14_79 rfl (host := "") (Or.inl (hw _ (mi 93 rfl))) Via.refl F25 (Ls := #[vr a, vr yw, vj x1, s2, vi 4, vi x3, vi x4]) (rest := [(.long (3 : Int64)), (.long (x1 + (5 : Int64))), (.ref a)])
  refine c24 ?_
  refine o_aloadN B24 82 83 (v := (.ref a)) d14_82 rfl rfl rfl ?_
  have F27 := (Fld.other W20 (Fld.other W17 F13 (Or.inr (sn24 hw))) (Or.inr (sn25 hw)))
  obtain ⟨T26, B26, c26⟩ := o_getfield B24 83 86 d14_83 rfl (host := "") (Or.inl (hw _ (mi 91 rfl))) Via.refl F27 (Ls := #[vr a, vr yw, vj x1, s2, vi 4, vi x3, vi x4]) (rest := [(.int (f18 (x4 - x3) (3 : Int32))), (.long (3 : Int64)), (.long (x1 + (5 : Int64))), (.ref a)])
  refine c26 ?_
  refine o_iadd B26 86 87 d14_86 rfl ?_
  refine o_i2l B26 87 88 d14_87 rfl ?_
  refine o_lmul B26 88 89 d14_88 rfl ?_
  refine o_ladd B26 89 90 d14_89 rfl ?_
  refine o_aloadN B26 90 91 (v := (.ref a)) d14_90 rfl rfl rfl ?_
  obtain ⟨T28, B28, c28⟩ := o_getfield B26 91 94 d14_91 rfl (host := "") (Or.inl (hw _ (mi 91 rfl))) Via.refl F27 (Ls := #[vr a, vr yw, vj x1, s2, vi 4, vi x3, vi x4]) (rest := [(.long ((x1 + (5 : Int64)) + ((3 : Int64) * ((f18 (x4 - x3) (3 : Int32)) + (f15 g x1 (5 : Int32))).toInt64))), (.ref a)])
  refine c28 ?_
  refine o_i2l B28 94 95 d14_94 rfl ?_
  refine o_ladd B28 95 96 d14_95 rfl ?_
  have F30 := (Fld.other W20 (Fld.other W17 (Fld.other W13 (Fld.other W8 (Fld.other W5 (Fld.other W2 (Fld.other W1 G_highs (Or.inr (sn26 hw))) (Or.inr (sn27 hw))) (Or.inr (sn28 hw))) (Or.inr (sn29 hw))) (Or.inr (sn30 hw))) (Or.inr (sn31 hw))) (Or.inr (sn32 hw)))
  have F31 := (Exa.wr W20 F22)
  obtain ⟨T29, h29, L29, B29, N29, W29, c29⟩ := o_putfield B28 N20 ge_a 96 99 (v := (.long (((x1 + (5 : Int64)) + ((3 : Int64) * ((f18 (x4 - x3) (3 : Int32)) + (f15 g x1 (5 : Int32))).toInt64)) + (f15 g x1 (5 : Int32)).toInt64))) d14_96 rfl (host := "") (Or.inl (hw _ (mi 98 rfl))) Via.refl F30 F31 (Or.inl (hw _ (mi 99 rfl))) (hw _ (mi 61 rfl)) (ty := .long) (by decide) rfl rfl (Ls := #[vr a, vr yw, vj x1, s2, vi 4, vi x3, vi x4]) (rest := [])
  have F29 : Fld Z h29 a "com/example/micro_ranker/microranker/engine/Block" "highs" "J" (.long (((x1 + (5 : Int64)) + ((3 : Int64) * ((f18 (x4 - x3) (3 : Int32)) + (f15 g x1 (5 : Int32))).toInt64)) + (f15 g x1 (5 : Int32)).toInt64)) := Fld.same W29 F30
  refine c29 ?_
  refine o_aloadN B29 99 100 (v := (.ref a)) d14_99 rfl rfl rfl ?_
  refine o_iconst B29 100 101 (-1 : Int32) d14_100 rfl (by decide) ?_
  have F33 := (Fld.other W29 (Fld.other W20 (Fld.other W17 (Fld.other W13 (Fld.other W8 (Fld.other W5 (Fld.other W2 (Fld.other W1 G_entry (Or.inr (sn33 hw))) (Or.inr (sn34 hw))) (Or.inr (sn35 hw))) (Or.inr (sn36 hw))) (Or.inr (sn37 hw))) (Or.inr (sn38 hw))) (Or.inr (sn39 hw))) (Or.inr (sn40 hw)))
  have F34 := (Exa.wr W29 F31)
  obtain ⟨T32, h32, L32, B32, N32, W32, c32⟩ := o_putfield B29 N29 ge_a 101 104 (v := (.int (-1 : Int32))) d14_101 rfl (host := "") (Or.inl (hw _ (mi 100 rfl))) Via.refl F33 F34 (Or.inl (hw _ (mi 101 rfl))) (hw _ (mi 61 rfl)) (ty := .int) (by decide) rfl rfl (Ls := #[vr a, vr yw, vj x1, s2, vi 4, vi x3, vi x4]) (rest := [])
  have F32 : Fld Z h32 a "com/example/micro_ranker/microranker/engine/Block" "entry" "I" (.int (-1 : Int32)) := Fld.same W32 F33
  refine c32 ?_
  refine o_aloadN B32 104 105 (v := (.ref a)) d14_104 rfl rfl rfl ?_
  refine o_aloadN B32 105 106 (v := (.ref a)) d14_105 rfl rfl rfl ?_
  have F36 := (Fld.other W32 F29 (Or.inr (sn41 hw)))
  obtain ⟨T35, B35, c35⟩ := o_getfield B32 106 109 d14_106 rfl (host := "") (Or.inl (hw _ (mi 98 rfl))) Via.refl F36 (Ls := #[vr a, vr yw, vj x1, s2, vi 4, vi x3, vi x4]) (rest := [(.ref a)])
  refine c35 ?_
  refine o_lconst B35 109 110 (1 : Int64) d14_109 rfl (by decide) ?_
  refine o_lsub B35 110 111 d14_110 rfl ?_
  have F38 := (Fld.other W32 (Fld.other W29 (Fld.other W20 (Fld.other W17 (Fld.other W13 (Fld.other W8 (Fld.other W5 (Fld.other W2 (Fld.other W1 G_position (Or.inr (sn42 hw))) (Or.inr (sn43 hw))) (Or.inr (sn44 hw))) (Or.inr (sn45 hw))) (Or.inr (sn46 hw))) (Or.inr (sn47 hw))) (Or.inr (sn48 hw))) (Or.inr (sn49 hw))) (Or.inr (sn50 hw)))
  have F39 := (Exa.wr W32 F34)
  obtain ⟨T37, h37, L37, B37, N37, W37, c37⟩ := o_putfield B35 N32 ge_a 111 114 (v := (.long ((((x1 + (5 : Int64)) + ((3 : Int64) * ((f18 (x4 - x3) (3 : Int32)) + (f15 g x1 (5 : Int32))).toInt64)) + (f15 g x1 (5 : Int32)).toInt64) - (1 : Int64)))) d14_111 rfl (host := "") (Or.inl (hw _ (mi 102 rfl))) Via.refl F38 F39 (Or.inl (hw _ (mi 103 rfl))) (hw _ (mi 61 rfl)) (ty := .long) (by decide) rfl rfl (Ls := #[vr a, vr yw, vj x1, s2, vi 4, vi x3, vi x4]) (rest := [])
  have F37 : Fld Z h37 a "com/example/micro_ranker/microranker/engine/Block" "position" "J" (.long ((((x1 + (5 : Int64)) + ((3 : Int64) * ((f18 (x4 - x3) (3 : Int32)) + (f15 g x1 (5 : Int32))).toInt64)) + (f15 g x1 (5 : Int32)).toInt64) - (1 : Int64))) := Fld.same W37 F38
  refine c37 ?_
  refine o_aloadN B37 114 115 (v := (.ref a)) d14_114 rfl rfl rfl ?_
  refine o_iload B37 115 117 (v := x3) d14_115 rfl rfl ?_
  refine o_iconst B37 117 118 (1 : Int32) d14_117 rfl (by decide) ?_
  refine o_isub B37 118 119 d14_118 rfl ?_
  have F41 := (Fld.other W37 (Fld.other W32 (Fld.other W29 (Fld.other W20 (Fld.other W17 (Fld.other W13 (Fld.other W8 (Fld.other W5 (Fld.other W2 (Fld.other W1 G_document (Or.inr (sn51 hw))) (Or.inr (sn52 hw))) (Or.inr (sn53 hw))) (Or.inr (sn54 hw))) (Or.inr (sn55 hw))) (Or.inr (sn56 hw))) (Or.inr (sn57 hw))) (Or.inr (sn58 hw))) (Or.inr (sn59 hw))) (Or.inr (sn60 hw)))
  have F42 := (Exa.wr W37 F39)
  obtain ⟨T40, h40, L40, B40, N40, W40, c40⟩ := o_putfield B37 N37 ge_a 119 122 (v := (.int (x3 - (1 : Int32)))) d14_119 rfl (host := "") (Or.inl (hw _ (mi 104 rfl))) Via.refl F41 F42 (Or.inl (hw _ (mi 105 rfl))) (hw _ (mi 61 rfl)) (ty := .int) (by decide) rfl rfl (Ls := #[vr a, vr yw, vj x1, s2, vi 4, vi x3, vi x4]) (rest := [])
  have F40 : Fld Z h40 a "com/example/micro_ranker/microranker/engine/Block" "document" "I" (.int (x3 - (1 : Int32))) := Fld.same W40 F41
  refine c40 ?_
  refine o_aloadN B40 122 123 (v := (.ref a)) d14_122 rfl rfl rfl ?_
  have F43 := (Fld.other W40 (Fld.other W37 (Fld.other W32 (Fld.other W29 (Fld.other W20 (Fld.other W17 (Fld.other W13 (Fld.other W8 (Fld.other W5 F2 (Or.inr (sn61 hw))) (Or.inr (sn62 hw))) (Or.inr (sn63 hw))) (Or.inr (sn64 hw))) (Or.inr (sn65 hw))) (Or.inr (sn66 hw))) (Or.inr (sn67 hw))) (Or.inr (sn68 hw))) (Or.inr (sn69 hw)))
  have F44 := (Fld.other W40 (Fld.other W37 (Fld.other W32 (Fld.other W29 (Fld.other W20 (Fld.other W17 (Fld.other W13 F8 (Or.inr (sn70 hw))) (Or.inr (sn71 hw))) (Or.inr (sn72 hw))) (Or.inr (sn73 hw))) (Or.inr (sn74 hw))) (Or.inr (sn75 hw))) (Or.inr (sn76 hw)))
  have F45 := (Fld.other W40 (Fld.other W37 (Fld.other W32 (Fld.other W29 (Fld.other W20 (Fld.other W17 (Fld.other W13 (Fld.other W8 F5 (Or.inr (sn77 hw))) (Or.inr (sn78 hw))) (Or.inr (sn79 hw))) (Or.inr (sn80 hw))) (Or.inr (sn81 hw))) (Or.inr (sn82 hw))) (Or.inr (sn83 hw))) (Or.inr (sn84 hw)))
  have F46 := (Fld.other W40 (Fld.other W37 (Fld.other W32 (Fld.other W29 F25 (Or.inr (sn85 hw))) (Or.inr (sn86 hw))) (Or.inr (sn87 hw))) (Or.inr (sn88 hw)))
  have F47 := (Fld.other W40 (Fld.other W37 F36 (Or.inr (sn89 hw))) (Or.inr (sn90 hw)))
  have F48 := (Fld.other W40 (Fld.other W37 (Fld.other W32 (Fld.other W29 F20 (Or.inr (sn91 hw))) (Or.inr (sn92 hw))) (Or.inr (sn93 hw))) (Or.inr (sn94 hw)))
  have KT49 := ((((((((((((Keep.refl h0 [a]).wr W1 (Or.inl (mi 0 rfl))).wr W2 (Or.inl (mi 0 rfl))).wr W5 (Or.inl (mi 0 rfl))).wr W8 (Or.inl (mi 0 rfl))).wr W13 (Or.inl (mi 0 rfl))).wr W17 (Or.inl (mi 0 rfl))).wr W20 (Or.inl (mi 0 rfl))).wr W29 (Or.inl (mi 0 rfl))).wr W32 (Or.inl (mi 0 rfl))).wr W37 (Or.inl (mi 0 rfl))).wr W40 (Or.inl (mi 0 rfl)))
  exact o_retA B40 123 d14_123 hret hlk rfl rfl (by decide) (by decide) ⟨rfl, N40, KT49, F43, F44, F45, F46, F47, F48⟩
theorem own_win (g : Nat → Int64) (x : Int64) (h : 0 ≤ x.toInt ∧ x.toInt ≤ 447) (i : Nat) (hi : i < 64) : (f16 g x).toBitVec.getLsbD i = bitAt g (x.toInt.toNat + i) := by
  have e := (own_ix (z := x) ⟨h.1, by omega⟩).2
  have hS : ((63 : Int32) - (x.toInt32 &&& 63)).toInt = (63 - x.toInt.toNat % 64 : Nat) := by
    have a := c_isub 63 (x.toInt32 &&& 63)
    have r := rng32 (63 - (x.toInt32 &&& 63))
    rw [show (63 : Int32).toInt = 63 by decide] at a
    omega
  unfold f16 bitAt
  rw [Int64.toBitVec_or, BitVec.getLsbD_or, own_shr _ _ _ e (Nat.mod_lt _ (by decide)), own_shl _ _ _ hS (by omega) _ hi]
  by_cases c : x.toInt.toNat % 64 + i < 64
  · rw [show (x.toInt.toNat + i) / 64 = x.toInt.toNat / 64 by omega, show (x.toInt.toNat + i) % 64 = x.toInt.toNat % 64 + i by omega]
    by_cases d : i < 63 - x.toInt.toNat % 64
    · rw [decide_eq_true d]
      simp
    · rw [own_shl _ 1 1 (by decide) (by decide) _ (by omega), decide_eq_true (show i - (63 - x.toInt.toNat % 64) < 1 by omega)]
      simp
  · rw [BitVec.getLsbD_of_ge _ _ (by omega), decide_eq_false (show ¬ i < 63 - x.toInt.toNat % 64 by omega), own_shl _ 1 1 (by decide) (by decide) _ (by omega), decide_eq_false (show ¬ i - (63 - x.toInt.toNat % 64) < 1 by omega), show (x.toInt.toNat + i) / 64 = x.toInt.toNat / 64 + 1 by omega, show (x.toInt.toNat + i) % 64 = i - (63 - x.toInt.toNat % 64) - 1 by omega]
    rfl
theorem own_rd (g0 g : Nat → Int64) (x : Int64) (w : Int32) (h : 0 ≤ x.toInt ∧ x.toInt ≤ 447) (hw : 0 ≤ w.toInt ∧ w.toInt ≤ 31) (h0 : ∀ p, x.toInt.toNat ≤ p → bitAt g0 p = false) (hb : ∀ i, i < 5 → bitAt g (x.toInt.toNat + i) = (bitAt g0 (x.toInt.toNat + i) || w.toInt64.toBitVec.getLsbD i)) : f15 g x 5 = w := by
  have q : (f16 g x) &&& (((-1 : Int64) <<< ((5 : Int32).toInt64 &&& 63)) ^^^ (-1 : Int64)) = w.toInt64 := by
    apply own_ext
    intro i hi
    have m := own_mb (f16 g x) 5 5 (by decide) (by decide) i
    rw [if_neg (by decide)] at m
    rw [m, own_win g x h i hi]
    by_cases c : i < 5
    · rw [decide_eq_true c, Bool.true_and, hb i c, h0 _ (by omega), Bool.false_or]
    · rw [decide_eq_false c, Bool.false_and]
      symm
      have e := c_i2l w
      have t : w.toInt64.toBitVec.toNat < 2 ^ 5 := by
        have z : w.toInt64.toBitVec.toInt = w.toInt := e
        rw [BitVec.toInt_eq_toNat_cond] at z
        split at z <;> omega
      exact Nat.testBit_lt_two_pow (Nat.lt_of_lt_of_le t (Nat.pow_le_pow_right (by decide) (by omega)))
  unfold f15
  rw [q, own_li]
theorem own_zb {g : Nat → Int64} {n m : Nat} {v : Int64} (h : Wo own_zJ g n m v) (p : Nat) (hp : n + m ≤ p) : bitAt g p = false := by
  rw [h p, decide_eq_false (show ¬ p - n < m by omega), Bool.false_and, Bool.and_false, Bool.or_false]
  show (0#64).getLsbD _ = false
  simp
theorem own_la {a b : Int64} (h1 : -10000 ≤ a.toInt ∧ a.toInt ≤ 10000) (h2 : -10000 ≤ b.toInt ∧ b.toInt ≤ 10000) : (a + b).toInt = a.toInt + b.toInt := by
  have c := c_ladd a b
  have r := rng64 (a + b)
  omega
theorem own_ls {a b : Int64} (h1 : -10000 ≤ a.toInt ∧ a.toInt ≤ 10000) (h2 : -10000 ≤ b.toInt ∧ b.toInt ≤ 10000) : (a - b).toInt = a.toInt - b.toInt := by
  have c := c_lsub a b
  have r := rng64 (a - b)
  omega
theorem own_5 : (5 : Int64).toInt = 5 := by decide
theorem own_sum1 (x s : Int64) (w : Int32) (hx : 0 ≤ x.toInt ∧ x.toInt ≤ 63) (W : 0 ≤ w.toInt ∧ w.toInt ≤ 31) (hs : s.toInt = x.toInt + (5 + w.toInt)) :
    ((((x + 5) + (0 * (0 + w).toInt64)) + w.toInt64) + 0) - ((x + 5) - 5) = s - x := by
  have e5 := own_5
  have a1 : (x + 5).toInt = x.toInt + 5 := by rw [own_la (by omega) (by omega)]; omega
  generalize x + 5 = y at *
  rw [Int64.zero_mul, Int64.add_zero, Int64.add_zero]
  have a5 := c_i2l w
  generalize w.toInt64 = w' at *
  have a6 := own_la (a := y) (b := w') (by omega) (by omega)
  generalize y + w' = t' at *
  have b1 := own_ls (a := y) (b := 5) (by omega) (by omega)
  generalize y - 5 = y' at *
  have b2 := own_ls (a := t') (b := y') (by omega) (by omega)
  have b3 := own_ls (a := s) (b := x) (by omega) (by omega)
  apply Int64.toInt_inj.mp
  omega
theorem own_sum2 (x s u : Int64) (lo w : Int32) (hx : 0 ≤ x.toInt ∧ x.toInt ≤ 63) (W : 0 ≤ w.toInt ∧ w.toInt ≤ 31) (hu : 0 ≤ u.toInt ∧ u.toInt < 8) (hl : 0 ≤ lo.toInt ∧ lo.toInt ≤ 30) (hs : s.toInt = x.toInt + (5 + 1 * (lo.toInt + w.toInt) + w.toInt + (1 + u.toInt + 1))) :
    ((((x + 5) + (1 * (lo + w).toInt64)) + w.toInt64) + ((2 : Int32).toInt64 + u)) - ((x + 5) - 5) = s - x := by
  have e5 := own_5
  have a1 : (x + 5).toInt = x.toInt + 5 := by rw [own_la (by omega) (by omega)]; omega
  generalize x + 5 = y at *
  have a2 : (lo + w).toInt64.toInt = lo.toInt + w.toInt := by rw [c_i2l, own_ad (by omega) (by omega)]
  generalize (lo + w).toInt64 = p at *
  have a3 : (1 * p).toInt = 1 * p.toInt := by
    have m := c_lmul 1 p
    have r := rng64 (1 * p)
    rw [show (1 : Int64).toInt = 1 by decide] at m
    omega
  generalize 1 * p = q at *
  have a4 := own_la (a := y) (b := q) (by omega) (by omega)
  generalize y + q = r at *
  have a5 := c_i2l w
  generalize w.toInt64 = w' at *
  have a6 := own_la (a := r) (b := w') (by omega) (by omega)
  generalize r + w' = t at *
  have a7 : (2 : Int32).toInt64.toInt = 2 := by decide
  generalize (2 : Int32).toInt64 = v at *
  have a8 := own_la (a := v) (b := u) (by omega) (by omega)
  generalize v + u = v' at *
  have a9 := own_la (a := t) (b := v') (by omega) (by omega)
  generalize t + v' = t' at *
  have b1 := own_ls (a := y) (b := 5) (by omega) (by omega)
  generalize y - 5 = y' at *
  have b2 := own_ls (a := t') (b := y') (by omega) (by omega)
  have b3 := own_ls (a := s) (b := x) (by omega) (by omega)
  apply Int64.toInt_inj.mp
  omega
theorem own_sum3 (x s u : Int64) (lo w : Int32) (hx : 0 ≤ x.toInt ∧ x.toInt ≤ 63) (W : 0 ≤ w.toInt ∧ w.toInt ≤ 31) (hu : 0 ≤ u.toInt ∧ u.toInt < 8) (hl : 0 ≤ lo.toInt ∧ lo.toInt ≤ 30) (hs : s.toInt = x.toInt + (5 + 2 * (lo.toInt + w.toInt) + w.toInt + (2 + u.toInt + 1))) :
    ((((x + 5) + (2 * (lo + w).toInt64)) + w.toInt64) + ((3 : Int32).toInt64 + u)) - ((x + 5) - 5) = s - x := by
  have e5 := own_5
  have a1 : (x + 5).toInt = x.toInt + 5 := by rw [own_la (by omega) (by omega)]; omega
  generalize x + 5 = y at *
  have a2 : (lo + w).toInt64.toInt = lo.toInt + w.toInt := by rw [c_i2l, own_ad (by omega) (by omega)]
  generalize (lo + w).toInt64 = p at *
  have a3 : (2 * p).toInt = 2 * p.toInt := by
    have m := c_lmul 2 p
    have r := rng64 (2 * p)
    rw [show (2 : Int64).toInt = 2 by decide] at m
    omega
  generalize 2 * p = q at *
  have a4 := own_la (a := y) (b := q) (by omega) (by omega)
  generalize y + q = r at *
  have a5 := c_i2l w
  generalize w.toInt64 = w' at *
  have a6 := own_la (a := r) (b := w') (by omega) (by omega)
  generalize r + w' = t at *
  have a7 : (3 : Int32).toInt64.toInt = 3 := by decide
  generalize (3 : Int32).toInt64 = v at *
  have a8 := own_la (a := v) (b := u) (by omega) (by omega)
  generalize v + u = v' at *
  have a9 := own_la (a := t) (b := v') (by omega) (by omega)
  generalize t + v' = t' at *
  have b1 := own_ls (a := y) (b := 5) (by omega) (by omega)
  generalize y - 5 = y' at *
  have b2 := own_ls (a := t') (b := y') (by omega) (by omega)
  have b3 := own_ls (a := s) (b := x) (by omega) (by omega)
  apply Int64.toInt_inj.mp
  omega
theorem own_sum4 (x s u : Int64) (lo w : Int32) (hx : 0 ≤ x.toInt ∧ x.toInt ≤ 63) (W : 0 ≤ w.toInt ∧ w.toInt ≤ 31) (hu : 0 ≤ u.toInt ∧ u.toInt < 8) (hl : 0 ≤ lo.toInt ∧ lo.toInt ≤ 30) (hs : s.toInt = x.toInt + (5 + 3 * (lo.toInt + w.toInt) + w.toInt + (3 + u.toInt + 1))) :
    ((((x + 5) + (3 * (lo + w).toInt64)) + w.toInt64) + ((4 : Int32).toInt64 + u)) - ((x + 5) - 5) = s - x := by
  have e5 := own_5
  have a1 : (x + 5).toInt = x.toInt + 5 := by rw [own_la (by omega) (by omega)]; omega
  generalize x + 5 = y at *
  have a2 : (lo + w).toInt64.toInt = lo.toInt + w.toInt := by rw [c_i2l, own_ad (by omega) (by omega)]
  generalize (lo + w).toInt64 = p at *
  have a3 : (3 * p).toInt = 3 * p.toInt := by
    have m := c_lmul 3 p
    have r := rng64 (3 * p)
    rw [show (3 : Int64).toInt = 3 by decide] at m
    omega
  generalize 3 * p = q at *
  have a4 := own_la (a := y) (b := q) (by omega) (by omega)
  generalize y + q = r at *
  have a5 := c_i2l w
  generalize w.toInt64 = w' at *
  have a6 := own_la (a := r) (b := w') (by omega) (by omega)
  generalize r + w' = t at *
  have a7 : (4 : Int32).toInt64.toInt = 4 := by decide
  generalize (4 : Int32).toInt64 = v at *
  have a8 := own_la (a := v) (b := u) (by omega) (by omega)
  generalize v + u = v' at *
  have a9 := own_la (a := t) (b := v') (by omega) (by omega)
  generalize t + v' = t' at *
  have b1 := own_ls (a := y) (b := 5) (by omega) (by omega)
  generalize y - 5 = y' at *
  have b2 := own_ls (a := t') (b := y') (by omega) (by omega)
  have b3 := own_ls (a := s) (b := x) (by omega) (by omega)
  apply Int64.toInt_inj.mp
  omega

theorem own_Wr1 (gf : Nat → Int32) (h : 1 ≤ (gf 0).toInt ∧ 1 ≤ (gf 1).toInt ∧ 1 ≤ (gf 2).toInt ∧ 1 ≤ (gf 3).toInt) : 0 ≤ (own_W1 gf).toInt ∧ (own_W1 gf).toInt ≤ 31 := by
  obtain ⟨w, w1, w2, -⟩ := own_wd (f2 (0 : Int32) ((gf 0) - (1 : Int32))) (own_mx (by decide) h.1)
  unfold own_W1
  omega
theorem own_end1 (gd gf : Nat → Int32) (b n : Int32) (g0 g : Nat → Int64) (z s v : Int64) (hn : 0 ≤ n.toInt ∧ n.toInt ≤ 63) (hz : z.toInt = (0 : Int64).toInt + n.toInt) (h0 : Wo own_zJ g0 (0 : Int64).toInt.toNat n.toInt.toNat v) (hd : Bd gd gf b z) (hs : s.toInt = z.toInt + own_tot1 gd gf b)
    (hb : ∀ i, i < 5 → bitAt g (z.toInt.toNat + i) = (bitAt g0 (z.toInt.toNat + i) || (own_W1 gf).toInt64.toBitVec.getLsbD i)) : f17 1 (gd 0) b 0 (((n.toInt64 + 5) + (0 * (0 + f15 g n.toInt64 5).toInt64)) + (f15 g n.toInt64 5).toInt64) (n.toInt64 + 5) = s - n.toInt64 := by
  have W := own_Wr1 gf hd.2.1
  have n64 := c_i2l n
  rw [show (0 : Int64).toInt = 0 by decide] at hz h0
  have ez : z.toInt = n.toInt64.toInt := by omega
  rw [ez] at hb hs
  have hx : 0 ≤ n.toInt64.toInt ∧ n.toInt64.toInt ≤ 63 := by omega
  rw [own_rd g0 g n.toInt64 (own_W1 gf) (by omega) W (fun p hp => own_zb h0 p (by omega)) hb]
  generalize n.toInt64 = x at *
  have hbd := hd.2.2
  unfold own_tot1 at hs
  unfold f17
  rw [if_neg (by decide)]
  generalize own_W1 gf = w at *
  exact own_sum1 x s w hx W (by omega)
theorem own_Wr2 (gf : Nat → Int32) (h : 1 ≤ (gf 0).toInt ∧ 1 ≤ (gf 1).toInt ∧ 1 ≤ (gf 2).toInt ∧ 1 ≤ (gf 3).toInt) : 0 ≤ (own_W2 gf).toInt ∧ (own_W2 gf).toInt ≤ 31 := by
  obtain ⟨w, w1, w2, -⟩ := own_wd (f2 (f2 (0 : Int32) ((gf 0) - (1 : Int32))) ((gf 1) - (1 : Int32))) (own_mx (own_mx (by decide) h.1) h.2.1)
  unfold own_W2
  omega
theorem own_end2 (gd gf : Nat → Int32) (b n : Int32) (g0 g : Nat → Int64) (z s v : Int64) (hn : 0 ≤ n.toInt ∧ n.toInt ≤ 63) (hz : z.toInt = (0 : Int64).toInt + n.toInt) (h0 : Wo own_zJ g0 (0 : Int64).toInt.toNat n.toInt.toNat v) (hd : Bd gd gf b z) (hs : s.toInt = z.toInt + own_tot2 gd gf b)
    (hb : ∀ i, i < 5 → bitAt g (z.toInt.toNat + i) = (bitAt g0 (z.toInt.toNat + i) || (own_W2 gf).toInt64.toBitVec.getLsbD i)) : f17 2 (gd 1) b (f18 (gd 1 - b) 1) (((n.toInt64 + 5) + (1 * ((f18 (gd 1 - b) 1) + f15 g n.toInt64 5).toInt64)) + (f15 g n.toInt64 5).toInt64) (n.toInt64 + 5) = s - n.toInt64 := by
  have W := own_Wr2 gf hd.2.1
  have n64 := c_i2l n
  rw [show (0 : Int64).toInt = 0 by decide] at hz h0
  have ez : z.toInt = n.toInt64.toInt := by omega
  rw [ez] at hb hs
  have hx : 0 ≤ n.toInt64.toInt ∧ n.toInt64.toInt ≤ 63 := by omega
  rw [own_rd g0 g n.toInt64 (own_W2 gf) (by omega) W (fun p hp => own_zb h0 p (by omega)) hb]
  generalize n.toInt64 = x at *
  have hbd := hd.2.2
  have e1 : (gd 1 - b).toInt = (gd 1).toInt - b.toInt := own_sub hbd.1 (by omega)
  obtain ⟨L, L1, L2, L3⟩ := own_low (gd 1 - b) 1 (by decide) (by rw [show (1 : Int32).toInt = 1 by decide]; omega)
  have eU := own_uL ((gd 1 - b).toInt64 - 1) _ L L2 (by omega) (by rw [own_s1 (by omega)]; omega)
  rw [own_s1 (by omega)] at eU
  have eN : 0 ≤ ((gd 1 - b).toInt - 1) / (2 ^ L : Nat) := Int.ediv_nonneg (by omega) (Int.natCast_nonneg _)
  rw [← eU] at L3 eN
  clear hb h0 eU hd hbd
  unfold own_tot2 at hs
  unfold f17 q17_1
  rw [if_pos (by decide)]
  generalize XT.ushrL ((gd 1 - b).toInt64 - 1) (f18 (gd 1 - b) 1) = u at *
  generalize f18 (gd 1 - b) 1 = lo at *
  generalize own_W2 gf = w at *
  exact own_sum2 x s u lo w hx W ⟨eN, L3⟩ (by omega) (by omega)
theorem own_Wr3 (gf : Nat → Int32) (h : 1 ≤ (gf 0).toInt ∧ 1 ≤ (gf 1).toInt ∧ 1 ≤ (gf 2).toInt ∧ 1 ≤ (gf 3).toInt) : 0 ≤ (own_W3 gf).toInt ∧ (own_W3 gf).toInt ≤ 31 := by
  obtain ⟨w, w1, w2, -⟩ := own_wd (f2 (f2 (f2 (0 : Int32) ((gf 0) - (1 : Int32))) ((gf 1) - (1 : Int32))) ((gf 2) - (1 : Int32))) (own_mx (own_mx (own_mx (by decide) h.1) h.2.1) h.2.2.1)
  unfold own_W3
  omega
theorem own_end3 (gd gf : Nat → Int32) (b n : Int32) (g0 g : Nat → Int64) (z s v : Int64) (hn : 0 ≤ n.toInt ∧ n.toInt ≤ 63) (hz : z.toInt = (0 : Int64).toInt + n.toInt) (h0 : Wo own_zJ g0 (0 : Int64).toInt.toNat n.toInt.toNat v) (hd : Bd gd gf b z) (hs : s.toInt = z.toInt + own_tot3 gd gf b)
    (hb : ∀ i, i < 5 → bitAt g (z.toInt.toNat + i) = (bitAt g0 (z.toInt.toNat + i) || (own_W3 gf).toInt64.toBitVec.getLsbD i)) : f17 3 (gd 2) b (f18 (gd 2 - b) 2) (((n.toInt64 + 5) + (2 * ((f18 (gd 2 - b) 2) + f15 g n.toInt64 5).toInt64)) + (f15 g n.toInt64 5).toInt64) (n.toInt64 + 5) = s - n.toInt64 := by
  have W := own_Wr3 gf hd.2.1
  have n64 := c_i2l n
  rw [show (0 : Int64).toInt = 0 by decide] at hz h0
  have ez : z.toInt = n.toInt64.toInt := by omega
  rw [ez] at hb hs
  have hx : 0 ≤ n.toInt64.toInt ∧ n.toInt64.toInt ≤ 63 := by omega
  rw [own_rd g0 g n.toInt64 (own_W3 gf) (by omega) W (fun p hp => own_zb h0 p (by omega)) hb]
  generalize n.toInt64 = x at *
  have hbd := hd.2.2
  have e1 : (gd 2 - b).toInt = (gd 2).toInt - b.toInt := own_sub hbd.1 (by omega)
  obtain ⟨L, L1, L2, L3⟩ := own_low (gd 2 - b) 2 (by decide) (by rw [show (2 : Int32).toInt = 2 by decide]; omega)
  have eU := own_uL ((gd 2 - b).toInt64 - 1) _ L L2 (by omega) (by rw [own_s1 (by omega)]; omega)
  rw [own_s1 (by omega)] at eU
  have eN : 0 ≤ ((gd 2 - b).toInt - 1) / (2 ^ L : Nat) := Int.ediv_nonneg (by omega) (Int.natCast_nonneg _)
  rw [← eU] at L3 eN
  clear hb h0 eU hd hbd
  unfold own_tot3 at hs
  unfold f17 q17_1
  rw [if_pos (by decide)]
  generalize XT.ushrL ((gd 2 - b).toInt64 - 1) (f18 (gd 2 - b) 2) = u at *
  generalize f18 (gd 2 - b) 2 = lo at *
  generalize own_W3 gf = w at *
  exact own_sum3 x s u lo w hx W ⟨eN, L3⟩ (by omega) (by omega)
theorem own_Wr4 (gf : Nat → Int32) (h : 1 ≤ (gf 0).toInt ∧ 1 ≤ (gf 1).toInt ∧ 1 ≤ (gf 2).toInt ∧ 1 ≤ (gf 3).toInt) : 0 ≤ (own_W4 gf).toInt ∧ (own_W4 gf).toInt ≤ 31 := by
  obtain ⟨w, w1, w2, -⟩ := own_wd (f2 (f2 (f2 (f2 (0 : Int32) ((gf 0) - (1 : Int32))) ((gf 1) - (1 : Int32))) ((gf 2) - (1 : Int32))) ((gf 3) - (1 : Int32))) (own_mx (own_mx (own_mx (own_mx (by decide) h.1) h.2.1) h.2.2.1) h.2.2.2)
  unfold own_W4
  omega
theorem own_end4 (gd gf : Nat → Int32) (b n : Int32) (g0 g : Nat → Int64) (z s v : Int64) (hn : 0 ≤ n.toInt ∧ n.toInt ≤ 63) (hz : z.toInt = (0 : Int64).toInt + n.toInt) (h0 : Wo own_zJ g0 (0 : Int64).toInt.toNat n.toInt.toNat v) (hd : Bd gd gf b z) (hs : s.toInt = z.toInt + own_tot4 gd gf b)
    (hb : ∀ i, i < 5 → bitAt g (z.toInt.toNat + i) = (bitAt g0 (z.toInt.toNat + i) || (own_W4 gf).toInt64.toBitVec.getLsbD i)) : f17 4 (gd 3) b (f18 (gd 3 - b) 3) (((n.toInt64 + 5) + (3 * ((f18 (gd 3 - b) 3) + f15 g n.toInt64 5).toInt64)) + (f15 g n.toInt64 5).toInt64) (n.toInt64 + 5) = s - n.toInt64 := by
  have W := own_Wr4 gf hd.2.1
  have n64 := c_i2l n
  rw [show (0 : Int64).toInt = 0 by decide] at hz h0
  have ez : z.toInt = n.toInt64.toInt := by omega
  rw [ez] at hb hs
  have hx : 0 ≤ n.toInt64.toInt ∧ n.toInt64.toInt ≤ 63 := by omega
  rw [own_rd g0 g n.toInt64 (own_W4 gf) (by omega) W (fun p hp => own_zb h0 p (by omega)) hb]
  generalize n.toInt64 = x at *
  have hbd := hd.2.2
  have e1 : (gd 3 - b).toInt = (gd 3).toInt - b.toInt := own_sub hbd.1 (by omega)
  obtain ⟨L, L1, L2, L3⟩ := own_low (gd 3 - b) 3 (by decide) (by rw [show (3 : Int32).toInt = 3 by decide]; omega)
  have eU := own_uL ((gd 3 - b).toInt64 - 1) _ L L2 (by omega) (by rw [own_s1 (by omega)]; omega)
  rw [own_s1 (by omega)] at eU
  have eN : 0 ≤ ((gd 3 - b).toInt - 1) / (2 ^ L : Nat) := Int.ediv_nonneg (by omega) (Int.natCast_nonneg _)
  rw [← eU] at L3 eN
  clear hb h0 eU hd hbd
  unfold own_tot4 at hs
  unfold f17 q17_1
  rw [if_pos (by decide)]
  generalize XT.ushrL ((gd 3 - b).toInt64 - 1) (f18 (gd 3 - b) 3) = u at *
  generalize f18 (gd 3 - b) 3 = lo at *
  generalize own_W4 gf = w at *
  exact own_sum4 x s u lo w hx W ⟨eN, L3⟩ (by omega) (by omega)
theorem pl0 : plainFor x = true := by first | exact plainFor_of_name (by first | (simp [plainName, overriddenIn]; done) | decide +kernel) | decide +kernel
theorem pd___V : parseMethodDescriptor "()V" = some ⟨[], none⟩ := by decide +kernel
theorem pd__Lcom_example_micro_ranker_microranker_engine_BitWriter__I_IIII_V : parseMethodDescriptor "(Lcom/example/micro_ranker/microranker/engine/BitWriter;[I[IIII)V" = some ⟨[(.object "com/example/micro_ranker/microranker/engine/BitWriter"), (.array .int), (.array .int), .int, .int, .int], none⟩ := by decide +kernel
theorem pd____J : parseMethodDescriptor "()[J" = some ⟨[], some (.array .long)⟩ := by decide +kernel
theorem pd___JJIII_Lcom_example_micro_ranker_microranker_engine_Block_ : parseMethodDescriptor "([JJIII)Lcom/example/micro_ranker/microranker/engine/Block;" = some ⟨[(.array .long), .long, .int, .int, .int], some (.object "com/example/micro_ranker/microranker/engine/Block")⟩ := by decide +kernel
def q0_1 (x0 x1 : Int32) (x2 x3 x4 : Int64) (x5 : Int32) : Int32 := ((1 : Int32) + (x0 &&& (3 : Int32)))
def q0_2 (x0 x1 : Int32) (x2 x3 x4 : Int64) (x5 : Int32) : Int32 := ((XT.ushr x0 (2 : Int32)) &&& (63 : Int32))
def q0_3 (x0 x1 : Int32) (x2 x3 x4 : Int64) (x5 : Int32) : Int32 := ((XT.ushr x0 (8 : Int32)) &&& (31 : Int32))
def q0_4 (x0 x1 : Int32) (x2 x3 x4 : Int64) (x5 : Int32) : Int32 := ((XT.ushr x0 (13 : Int32)) &&& (31 : Int32))
def q0_5 (x0 x1 : Int32) (x2 x3 x4 : Int64) (x5 : Int32) : Int32 := (x1 &&& (268435455 : Int32))
def q0_6 (x0 x1 : Int32) (x2 x3 x4 : Int64) (x5 : Int32) : Int32 := ((q0_5 x0 x1 x2 x3 x4 x5) + ((XT.ushr x5 (28 : Int32)) &&& (15 : Int32)))
def w0_7 (x0 x1 : Int32) (x2 x3 x4 : Int64) (x5 : Int32) : Nat → Int32 := fun j => if j = 0 then (q0_6 x0 x1 x2 x3 x4 x5) else (fun _ => 0) j
def q0_8 (x0 x1 : Int32) (x2 x3 x4 : Int64) (x5 : Int32) : Int32 := (((q0_6 x0 x1 x2 x3 x4 x5) + (1 : Int32)) + (XT.ushr (x2.toInt32 &&& (268435455 : Int32)) (q0_4 x0 x1 x2 x3 x4 x5)))
def w0_9 (x0 x1 : Int32) (x2 x3 x4 : Int64) (x5 : Int32) : Nat → Int32 := fun j => if j = 1 then (q0_8 x0 x1 x2 x3 x4 x5) else (w0_7 x0 x1 x2 x3 x4 x5) j
def q0_10 (x0 x1 : Int32) (x2 x3 x4 : Int64) (x5 : Int32) : Int32 := (((q0_8 x0 x1 x2 x3 x4 x5) + (1 : Int32)) + (XT.ushr ((XT.ushrL x2 (32 : Int32)).toInt32 &&& (268435455 : Int32)) (q0_4 x0 x1 x2 x3 x4 x5)))
def w0_11 (x0 x1 : Int32) (x2 x3 x4 : Int64) (x5 : Int32) : Nat → Int32 := fun j => if j = 2 then (q0_10 x0 x1 x2 x3 x4 x5) else (w0_9 x0 x1 x2 x3 x4 x5) j
def q0_12 (x0 x1 : Int32) (x2 x3 x4 : Int64) (x5 : Int32) : Int32 := (((q0_10 x0 x1 x2 x3 x4 x5) + (1 : Int32)) + (XT.ushr (x5 &&& (268435455 : Int32)) (q0_4 x0 x1 x2 x3 x4 x5)))
def w0_13 (x0 x1 : Int32) (x2 x3 x4 : Int64) (x5 : Int32) : Nat → Int32 := fun j => if j = 3 then (q0_12 x0 x1 x2 x3 x4 x5) else (w0_11 x0 x1 x2 x3 x4 x5) j
def q0_14 (x0 x1 : Int32) (x2 x3 x4 : Int64) (x5 : Int32) : Int32 := (f1 x3.toInt32 (q0_3 x0 x1 x2 x3 x4 x5))
def w0_15 (x0 x1 : Int32) (x2 x3 x4 : Int64) (x5 : Int32) : Nat → Int32 := fun j => if j = 0 then (q0_14 x0 x1 x2 x3 x4 x5) else (fun _ => 0) j
def q0_16 (x0 x1 : Int32) (x2 x3 x4 : Int64) (x5 : Int32) : Int32 := (f1 (XT.ushrL x3 (32 : Int32)).toInt32 (q0_3 x0 x1 x2 x3 x4 x5))
def q0_17 (x0 x1 : Int32) (x2 x3 x4 : Int64) (x5 : Int32) : Int32 := (q0_16 x0 x1 x2 x3 x4 x5)
def w0_18 (x0 x1 : Int32) (x2 x3 x4 : Int64) (x5 : Int32) : Nat → Int32 := fun j => if j = 1 then (q0_17 x0 x1 x2 x3 x4 x5) else (w0_15 x0 x1 x2 x3 x4 x5) j
def q0_19 (x0 x1 : Int32) (x2 x3 x4 : Int64) (x5 : Int32) : Int32 := (f1 x4.toInt32 (q0_3 x0 x1 x2 x3 x4 x5))
def w0_20 (x0 x1 : Int32) (x2 x3 x4 : Int64) (x5 : Int32) : Nat → Int32 := fun j => if j = 2 then (q0_19 x0 x1 x2 x3 x4 x5) else (w0_18 x0 x1 x2 x3 x4 x5) j
def q0_21 (x0 x1 : Int32) (x2 x3 x4 : Int64) (x5 : Int32) : Int32 := (f1 (XT.ushrL x4 (32 : Int32)).toInt32 (q0_3 x0 x1 x2 x3 x4 x5))
def q0_22 (x0 x1 : Int32) (x2 x3 x4 : Int64) (x5 : Int32) : Int32 := (q0_21 x0 x1 x2 x3 x4 x5)
def w0_23 (x0 x1 : Int32) (x2 x3 x4 : Int64) (x5 : Int32) : Nat → Int32 := fun j => if j = 3 then (q0_22 x0 x1 x2 x3 x4 x5) else (w0_20 x0 x1 x2 x3 x4 x5) j
def f0 (x0 x1 : Int32) (x2 x3 x4 : Int64) (x5 : Int32) : Int32 := (if (q0_1 x0 x1 x2 x3 x4 x5) = (1 : Int32) then (1 : Int32) else (if (q0_1 x0 x1 x2 x3 x4 x5) = (2 : Int32) then (1 : Int32) else (if (q0_1 x0 x1 x2 x3 x4 x5) = (3 : Int32) then (1 : Int32) else (1 : Int32))))
theorem own_cnt (x0 x1 : Int32) (x2 x3 x4 : Int64) (x5 : Int32) (h1 : ¬ (q0_1 x0 x1 x2 x3 x4 x5) = (1 : Int32)) (h2 : ¬ (q0_1 x0 x1 x2 x3 x4 x5) = (2 : Int32)) (h3 : ¬ (q0_1 x0 x1 x2 x3 x4 x5) = (3 : Int32)) : (q0_1 x0 x1 x2 x3 x4 x5) = (4 : Int32) := by
  rw [← Int32.toInt_inj] at h1 h2 h3 ⊢
  unfold q0_1 at *
  have m := c_mask x0 3 2 (by decide) (by decide)
  have a := c_iadd 1 (x0 &&& 3)
  have r := rng32 (1 + (x0 &&& 3))
  rw [show (1 : Int32).toInt = 1 by decide] at a h1
  rw [show (2 : Int32).toInt = 2 by decide] at h2
  rw [show (3 : Int32).toInt = 3 by decide] at h3
  rw [show (4 : Int32).toInt = 4 by decide]
  omega
theorem own_pre (x0 x1 : Int32) (x2 x3 x4 : Int64) (x5 : Int32) : 0 ≤ (q0_2 x0 x1 x2 x3 x4 x5).toInt ∧ (q0_2 x0 x1 x2 x3 x4 x5).toInt ≤ 63 := by
  unfold q0_2
  have m := c_mask (XT.ushr x0 2) 63 6 (by decide) (by decide)
  omega
theorem own_hw0 (x0 x1 : Int32) (x2 x3 x4 : Int64) (x5 : Int32) : Hw 0 (q0_2 x0 x1 x2 x3 x4 x5) := by
  have p := own_pre x0 x1 x2 x3 x4 x5
  unfold Hw
  rw [show (0 : Int64).toInt = 0 by decide]
  omega
theorem own_pre64 (x0 x1 : Int32) (x2 x3 x4 : Int64) (x5 : Int32) : 0 ≤ (q0_2 x0 x1 x2 x3 x4 x5).toInt64.toInt ∧ (q0_2 x0 x1 x2 x3 x4 x5).toInt64.toInt ≤ 447 := by
  have p := own_pre x0 x1 x2 x3 x4 x5
  rw [c_i2l]
  omega
theorem own_ub (x q : Int32) (hq : 0 ≤ q.toInt ∧ q.toInt ≤ 31) (hx : 0 ≤ x.toInt) : 0 ≤ (XT.ushr x q).toInt ∧ (XT.ushr x q).toInt ≤ x.toInt := by
  obtain ⟨L, hL⟩ : ∃ L : Nat, q.toInt = L := ⟨q.toInt.toNat, by omega⟩
  have e : (XT.ushr x q).toInt = x.toInt / (2 ^ L : Nat) := by
    by_cases c : L ≤ 30
    · exact own_us0 x q L hL c hx
    · have e : q.toBitVec.toNat % 32 = L := by
        have h : q.toBitVec.toInt = L := hL
        rw [BitVec.toInt_eq_toNat_cond] at h
        split at h <;> omega
      exact own_us x q L e (by omega) hx
  rw [e]
  exact ⟨Int.ediv_nonneg hx (Int.natCast_nonneg _), Int.ediv_le_self _ hx⟩
theorem own_f1 (x s : Int32) : 1 ≤ (f1 x s).toInt := by
  unfold f1 q1_1 f2
  split
  · rename_i h
    rw [Int32.lt_iff_toInt_lt, show (1 : Int32).toInt = 1 by decide] at h
    omega
  · decide
theorem own_nx (a y q : Int32) (ha : 0 ≤ a.toInt ∧ a.toInt ≤ 1000000000) (hq : 0 ≤ q.toInt ∧ q.toInt ≤ 31) : a.toInt < ((a + 1) + XT.ushr (y &&& 268435455) q).toInt ∧ ((a + 1) + XT.ushr (y &&& 268435455) q).toInt ≤ a.toInt + 268435456 := by
  have m := c_mask y 268435455 28 (by decide) (by decide)
  have u := own_ub (y &&& 268435455) q hq (by omega)
  generalize XT.ushr (y &&& 268435455) q = v at *
  have c := c_iadd a 1
  have r := rng32 (a + 1)
  rw [show (1 : Int32).toInt = 1 by decide] at c
  have d := c_iadd (a + 1) v
  have r2 := rng32 (a + 1 + v)
  omega
theorem own_bd (x0 x1 : Int32) (x2 x3 x4 : Int64) (x5 : Int32) (z : Int64) (t : z.toInt = (0 : Int64).toInt + (q0_2 x0 x1 x2 x3 x4 x5).toInt) : Bd (w0_13 x0 x1 x2 x3 x4 x5) (w0_23 x0 x1 x2 x3 x4 x5) (q0_5 x0 x1 x2 x3 x4 x5) z := by
  have p := own_pre x0 x1 x2 x3 x4 x5
  rw [show (0 : Int64).toInt = 0 by decide] at t
  have hq : 0 ≤ (q0_4 x0 x1 x2 x3 x4 x5).toInt ∧ (q0_4 x0 x1 x2 x3 x4 x5).toInt ≤ 31 := by
    unfold q0_4
    have m := c_mask (XT.ushr x0 13) 31 5 (by decide) (by decide)
    omega
  have b : 0 ≤ (q0_5 x0 x1 x2 x3 x4 x5).toInt ∧ (q0_5 x0 x1 x2 x3 x4 x5).toInt ≤ 268435455 := by
    unfold q0_5
    have m := c_mask x1 268435455 28 (by decide) (by decide)
    omega
  have d0 : (q0_5 x0 x1 x2 x3 x4 x5).toInt ≤ (q0_6 x0 x1 x2 x3 x4 x5).toInt ∧ (q0_6 x0 x1 x2 x3 x4 x5).toInt ≤ 268435470 := by
    unfold q0_6
    have m := c_mask (XT.ushr x5 28) 15 4 (by decide) (by decide)
    have c := c_iadd (q0_5 x0 x1 x2 x3 x4 x5) (XT.ushr x5 28 &&& 15)
    have r := rng32 (q0_5 x0 x1 x2 x3 x4 x5 + (XT.ushr x5 28 &&& 15))
    omega
  have d1 := own_nx (q0_6 x0 x1 x2 x3 x4 x5) x2.toInt32 (q0_4 x0 x1 x2 x3 x4 x5) (by omega) hq
  rw [show ((q0_6 x0 x1 x2 x3 x4 x5) + 1) + XT.ushr (x2.toInt32 &&& 268435455) (q0_4 x0 x1 x2 x3 x4 x5) = q0_8 x0 x1 x2 x3 x4 x5 from rfl] at d1
  have d2 := own_nx (q0_8 x0 x1 x2 x3 x4 x5) (XT.ushrL x2 32).toInt32 (q0_4 x0 x1 x2 x3 x4 x5) (by omega) hq
  rw [show ((q0_8 x0 x1 x2 x3 x4 x5) + 1) + XT.ushr ((XT.ushrL x2 32).toInt32 &&& 268435455) (q0_4 x0 x1 x2 x3 x4 x5) = q0_10 x0 x1 x2 x3 x4 x5 from rfl] at d2
  have d3 := own_nx (q0_10 x0 x1 x2 x3 x4 x5) x5 (q0_4 x0 x1 x2 x3 x4 x5) (by omega) hq
  rw [show ((q0_10 x0 x1 x2 x3 x4 x5) + 1) + XT.ushr (x5 &&& 268435455) (q0_4 x0 x1 x2 x3 x4 x5) = q0_12 x0 x1 x2 x3 x4 x5 from rfl] at d3
  refine ⟨by omega, ⟨own_f1 _ _, own_f1 _ _, own_f1 _ _, own_f1 _ _⟩, b.1, d0.1, d1.1, d2.1, d3.1⟩

set_option maxRecDepth 65536 in
set_option maxHeartbeats 40000000 in
theorem rm0 (l : Launch) (Z : State) (a0 : Array Value) (hw : ∀ d ∈ tables_1, d.before a0 Z = true) (ws : List Jvm.Cond) (x0 x1 : Int32) (x2 x3 x4 : Int64) (x5 : Int32) (h0 : Heap) (n0 : Nat) (hz : n0 ≤ h0.size) :
    MetFree l x (head1 (Jvm.Cond.code x code maxLocals ret :: ws) room_1) (fun a U => a = #[(.int x0), (.int x1), (.long x2), (.long x3), (.long x4), (.int x5)] ∧ Z.Warmed39 U.vm ∧ U.heap = h0) (fun _ _ _ _ _ => True) (fun _ U o U' => ∃ v L, o = .returned v ∧ Lw n0 (some (.int (f0 x0 x1 x2 x3 x4 x5))) v U'.heap L ∧ FrameEnd U o U' L room_1.cells room_1.slots) := by
  refine enter (y := x) (bs := code) (ml := maxLocals) (ret := ret) (Q := Lw n0 (some (.int (f0 x0 x1 x2 x3 x4 x5)))) pl0 #[vi x0, vi x1, vj x2, s2, vj x3, s2, vj x4, s2, vi x5, us, us, us, us, us, us, us, us, us, us, us] rfl ?_
  intro p e s m below meth c T B hret hlk hnm
  have N0 := Fr.nil n0
  refine o_iconst B 0 1 (1 : Int32) at_0 rfl (by decide) ?_
  refine o_iloadN B 1 2 (v := x0) at_1 rfl rfl ?_
  refine o_iconst B 2 3 (3 : Int32) at_2 rfl (by decide) ?_
  refine o_iand B 3 4 at_3 rfl ?_
  refine o_iadd B 4 5 at_4 rfl ?_
  refine o_istore B 5 7 (l' := #[vi x0, vi x1, vj x2, s2, vj x3, s2, vj x4, s2, vi x5, vi (q0_1 x0 x1 x2 x3 x4 x5), us, us, us, us, us, us, us, us, us, us]) at_5 rfl rfl ?_
  refine o_iloadN B 7 8 (v := x0) at_7 rfl rfl ?_
  refine o_iconst B 8 9 (2 : Int32) at_8 rfl (by decide) ?_
  refine o_iushr B 9 10 at_9 rfl ?_
  refine o_bipush B 10 12 (63 : Int32) at_10 rfl (by decide) ?_
  refine o_iand B 12 13 at_12 rfl ?_
  refine o_istore B 13 15 (l' := #[vi x0, vi x1, vj x2, s2, vj x3, s2, vj x4, s2, vi x5, vi (q0_1 x0 x1 x2 x3 x4 x5), vi (q0_2 x0 x1 x2 x3 x4 x5), us, us, us, us, us, us, us, us, us]) at_13 rfl rfl ?_
  refine o_iloadN B 15 16 (v := x0) at_15 rfl rfl ?_
  refine o_bipush B 16 18 (8 : Int32) at_16 rfl (by decide) ?_
  refine o_iushr B 18 19 at_18 rfl ?_
  refine o_bipush B 19 21 (31 : Int32) at_19 rfl (by decide) ?_
  refine o_iand B 21 22 at_21 rfl ?_
  refine o_istore B 22 24 (l' := #[vi x0, vi x1, vj x2, s2, vj x3, s2, vj x4, s2, vi x5, vi (q0_1 x0 x1 x2 x3 x4 x5), vi (q0_2 x0 x1 x2 x3 x4 x5), vi (q0_3 x0 x1 x2 x3 x4 x5), us, us, us, us, us, us, us, us]) at_22 rfl rfl ?_
  refine o_iloadN B 24 25 (v := x0) at_24 rfl rfl ?_
  refine o_bipush B 25 27 (13 : Int32) at_25 rfl (by decide) ?_
  refine o_iushr B 27 28 at_27 rfl ?_
  refine o_bipush B 28 30 (31 : Int32) at_28 rfl (by decide) ?_
  refine o_iand B 30 31 at_30 rfl ?_
  refine o_istore B 31 33 (l' := #[vi x0, vi x1, vj x2, s2, vj x3, s2, vj x4, s2, vi x5, vi (q0_1 x0 x1 x2 x3 x4 x5), vi (q0_2 x0 x1 x2 x3 x4 x5), vi (q0_3 x0 x1 x2 x3 x4 x5), vi (q0_4 x0 x1 x2 x3 x4 x5), us, us, us, us, us, us, us]) at_31 rfl rfl ?_
  refine o_iloadN B 33 34 (v := x1) at_33 rfl rfl ?_
  refine o_ldc B 34 36 at_34 rfl (hw _ (mi 0 rfl)) ?_
  refine o_iand B 36 37 at_36 rfl ?_
  refine o_istore B 37 39 (l' := #[vi x0, vi x1, vj x2, s2, vj x3, s2, vj x4, s2, vi x5, vi (q0_1 x0 x1 x2 x3 x4 x5), vi (q0_2 x0 x1 x2 x3 x4 x5), vi (q0_3 x0 x1 x2 x3 x4 x5), vi (q0_4 x0 x1 x2 x3 x4 x5), vi (q0_5 x0 x1 x2 x3 x4 x5), us, us, us, us, us, us]) at_37 rfl rfl ?_
  refine o_iconst B 39 40 (4 : Int32) at_39 rfl (by decide) ?_
  obtain ⟨a21, T21, h21, z21, B21, E21, A21, c21⟩ := o_newI B 40 42 (ty := .int) (z := (4 : Int32)) 4 4 (hw _ (mi 1 rfl)) at_40 rfl rfl rfl (by decide) (by decide) (by decide) (by decide) (by decide) (by decide) (Ls := #[vi x0, vi x1, vj x2, s2, vj x3, s2, vj x4, s2, vi x5, vi (q0_1 x0 x1 x2 x3 x4 x5), vi (q0_2 x0 x1 x2 x3 x4 x5), vi (q0_3 x0 x1 x2 x3 x4 x5), vi (q0_4 x0 x1 x2 x3 x4 x5), vi (q0_5 x0 x1 x2 x3 x4 x5), us, us, us, us, us, us]) (rest := [])
  have g21 : n0 ≤ a21 := by rw [z21]; exact hz
  have s21 : n0 ≤ h21.size := Nat.le_trans hz E21.1
  refine c21 ?_
  refine o_astore B21 42 44 (l' := #[vi x0, vi x1, vj x2, s2, vj x3, s2, vj x4, s2, vi x5, vi (q0_1 x0 x1 x2 x3 x4 x5), vi (q0_2 x0 x1 x2 x3 x4 x5), vi (q0_3 x0 x1 x2 x3 x4 x5), vi (q0_4 x0 x1 x2 x3 x4 x5), vi (q0_5 x0 x1 x2 x3 x4 x5), vr a21, us, us, us, us, us]) at_42 rfl rfl rfl ?_
  refine o_iconst B21 44 45 (4 : Int32) at_44 rfl (by decide) ?_
  obtain ⟨a22, T22, h22, z22, B22, E22, A22, c22⟩ := o_newI B21 45 47 (ty := .int) (z := (4 : Int32)) 4 4 (hw _ (mi 1 rfl)) at_45 rfl rfl rfl (by decide) (by decide) (by decide) (by decide) (by decide) (by decide) (Ls := #[vi x0, vi x1, vj x2, s2, vj x3, s2, vj x4, s2, vi x5, vi (q0_1 x0 x1 x2 x3 x4 x5), vi (q0_2 x0 x1 x2 x3 x4 x5), vi (q0_3 x0 x1 x2 x3 x4 x5), vi (q0_4 x0 x1 x2 x3 x4 x5), vi (q0_5 x0 x1 x2 x3 x4 x5), vr a21, us, us, us, us, us]) (rest := [])
  have lt23 : (a21 : Nat) < a22 := by rw [z22]; exact A21.lt
  have g22 : n0 ≤ a22 := by rw [z22]; exact s21
  have s22 : n0 ≤ h22.size := Nat.le_trans s21 E22.1
  refine c22 ?_
  refine o_astore B22 47 49 (l' := #[vi x0, vi x1, vj x2, s2, vj x3, s2, vj x4, s2, vi x5, vi (q0_1 x0 x1 x2 x3 x4 x5), vi (q0_2 x0 x1 x2 x3 x4 x5), vi (q0_3 x0 x1 x2 x3 x4 x5), vi (q0_4 x0 x1 x2 x3 x4 x5), vi (q0_5 x0 x1 x2 x3 x4 x5), vr a21, vr a22, us, us, us, us]) at_47 rfl rfl rfl ?_
  refine o_aload B22 49 51 (v := (.ref a21)) at_49 rfl rfl rfl ?_
  refine o_iconst B22 51 52 (0 : Int32) at_51 rfl (by decide) ?_
  refine o_iload B22 52 54 (v := (q0_5 x0 x1 x2 x3 x4 x5)) at_52 rfl rfl ?_
  refine o_iload B22 54 56 (v := x5) at_54 rfl rfl ?_
  refine o_bipush B22 56 58 (28 : Int32) at_56 rfl (by decide) ?_
  refine o_iushr B22 58 59 at_58 rfl ?_
  refine o_bipush B22 59 61 (15 : Int32) at_59 rfl (by decide) ?_
  refine o_iand B22 61 62 at_61 rfl ?_
  refine o_iadd B22 62 63 at_62 rfl ?_
  have F25 := (A21.ext E22)
  obtain ⟨T24, h24, L24, B24, N24, W24, Q24, c24⟩ := o_iastore B22 N0 g21 63 64 F25 (j := (0 : Int32)) (x := ((q0_5 x0 x1 x2 x3 x4 x5) + ((XT.ushr x5 (28 : Int32)) &&& (15 : Int32)))) 0 (q0_6 x0 x1 x2 x3 x4 x5) at_63 rfl (by decide) (by decide) (by decide) rfl (Ls := #[vi x0, vi x1, vj x2, s2, vj x3, s2, vj x4, s2, vi x5, vi (q0_1 x0 x1 x2 x3 x4 x5), vi (q0_2 x0 x1 x2 x3 x4 x5), vi (q0_3 x0 x1 x2 x3 x4 x5), vi (q0_4 x0 x1 x2 x3 x4 x5), vi (q0_5 x0 x1 x2 x3 x4 x5), vr a21, vr a22, us, us, us, us]) (rest := [])
  have A24 : AI Z h24 a21 .int 4 (w0_7 x0 x1 x2 x3 x4 x5) := Q24
  refine c24 ?_
  refine o_aload B24 64 66 (v := (.ref a21)) at_64 rfl rfl rfl ?_
  refine o_iconst B24 66 67 (1 : Int32) at_66 rfl (by decide) ?_
  refine o_aload B24 67 69 (v := (.ref a21)) at_67 rfl rfl rfl ?_
  refine o_iconst B24 69 70 (0 : Int32) at_69 rfl (by decide) ?_
  refine o_iaload B24 70 71 A24 0 (q0_6 x0 x1 x2 x3 x4 x5) at_70 rfl (by decide) (by decide) (by decide) rfl ?_
  refine o_iconst B24 71 72 (1 : Int32) at_71 rfl (by decide) ?_
  refine o_iadd B24 72 73 at_72 rfl ?_
  refine o_lloadN B24 73 74 (v := x2) at_73 rfl rfl ?_
  refine o_l2i B24 74 75 at_74 rfl ?_
  refine o_ldc B24 75 77 at_75 rfl (hw _ (mi 0 rfl)) ?_
  refine o_iand B24 77 78 at_77 rfl ?_
  refine o_iload B24 78 80 (v := (q0_4 x0 x1 x2 x3 x4 x5)) at_78 rfl rfl ?_
  refine o_iushr B24 80 81 at_80 rfl ?_
  refine o_iadd B24 81 82 at_81 rfl ?_
  obtain ⟨T27, h27, L27, B27, N27, W27, Q27, c27⟩ := o_iastore B24 N24 g21 82 83 A24 (j := (1 : Int32)) (x := (((q0_6 x0 x1 x2 x3 x4 x5) + (1 : Int32)) + (XT.ushr (x2.toInt32 &&& (268435455 : Int32)) (q0_4 x0 x1 x2 x3 x4 x5)))) 1 (q0_8 x0 x1 x2 x3 x4 x5) at_82 rfl (by decide) (by decide) (by decide) rfl (Ls := #[vi x0, vi x1, vj x2, s2, vj x3, s2, vj x4, s2, vi x5, vi (q0_1 x0 x1 x2 x3 x4 x5), vi (q0_2 x0 x1 x2 x3 x4 x5), vi (q0_3 x0 x1 x2 x3 x4 x5), vi (q0_4 x0 x1 x2 x3 x4 x5), vi (q0_5 x0 x1 x2 x3 x4 x5), vr a21, vr a22, us, us, us, us]) (rest := [])
  have A27 : AI Z h27 a21 .int 4 (w0_9 x0 x1 x2 x3 x4 x5) := Q27
  refine c27 ?_
  refine o_aload B27 83 85 (v := (.ref a21)) at_83 rfl rfl rfl ?_
  refine o_iconst B27 85 86 (2 : Int32) at_85 rfl (by decide) ?_
  refine o_aload B27 86 88 (v := (.ref a21)) at_86 rfl rfl rfl ?_
  refine o_iconst B27 88 89 (1 : Int32) at_88 rfl (by decide) ?_
  refine o_iaload B27 89 90 A27 1 (q0_8 x0 x1 x2 x3 x4 x5) at_89 rfl (by decide) (by decide) (by decide) rfl ?_
  refine o_iconst B27 90 91 (1 : Int32) at_90 rfl (by decide) ?_
  refine o_iadd B27 91 92 at_91 rfl ?_
  refine o_lloadN B27 92 93 (v := x2) at_92 rfl rfl ?_
  refine o_bipush B27 93 95 (32 : Int32) at_93 rfl (by decide) ?_
  refine o_lushr B27 95 96 at_95 rfl ?_
  refine o_l2i B27 96 97 at_96 rfl ?_
  refine o_ldc B27 97 99 at_97 rfl (hw _ (mi 0 rfl)) ?_
  refine o_iand B27 99 100 at_99 rfl ?_
  refine o_iload B27 100 102 (v := (q0_4 x0 x1 x2 x3 x4 x5)) at_100 rfl rfl ?_
  refine o_iushr B27 102 103 at_102 rfl ?_
  refine o_iadd B27 103 104 at_103 rfl ?_
  obtain ⟨T29, h29, L29, B29, N29, W29, Q29, c29⟩ := o_iastore B27 N27 g21 104 105 A27 (j := (2 : Int32)) (x := (((q0_8 x0 x1 x2 x3 x4 x5) + (1 : Int32)) + (XT.ushr ((XT.ushrL x2 (32 : Int32)).toInt32 &&& (268435455 : Int32)) (q0_4 x0 x1 x2 x3 x4 x5)))) 2 (q0_10 x0 x1 x2 x3 x4 x5) at_104 rfl (by decide) (by decide) (by decide) rfl (Ls := #[vi x0, vi x1, vj x2, s2, vj x3, s2, vj x4, s2, vi x5, vi (q0_1 x0 x1 x2 x3 x4 x5), vi (q0_2 x0 x1 x2 x3 x4 x5), vi (q0_3 x0 x1 x2 x3 x4 x5), vi (q0_4 x0 x1 x2 x3 x4 x5), vi (q0_5 x0 x1 x2 x3 x4 x5), vr a21, vr a22, us, us, us, us]) (rest := [])
  have A29 : AI Z h29 a21 .int 4 (w0_11 x0 x1 x2 x3 x4 x5) := Q29
  refine c29 ?_
  refine o_aload B29 105 107 (v := (.ref a21)) at_105 rfl rfl rfl ?_
  refine o_iconst B29 107 108 (3 : Int32) at_107 rfl (by decide) ?_
  refine o_aload B29 108 110 (v := (.ref a21)) at_108 rfl rfl rfl ?_
  refine o_iconst B29 110 111 (2 : Int32) at_110 rfl (by decide) ?_
  refine o_iaload B29 111 112 A29 2 (q0_10 x0 x1 x2 x3 x4 x5) at_111 rfl (by decide) (by decide) (by decide) rfl ?_
  refine o_iconst B29 112 113 (1 : Int32) at_112 rfl (by decide) ?_
  refine o_iadd B29 113 114 at_113 rfl ?_
  refine o_iload B29 114 116 (v := x5) at_114 rfl rfl ?_
  refine o_ldc B29 116 118 at_116 rfl (hw _ (mi 0 rfl)) ?_
  refine o_iand B29 118 119 at_118 rfl ?_
  refine o_iload B29 119 121 (v := (q0_4 x0 x1 x2 x3 x4 x5)) at_119 rfl rfl ?_
  refine o_iushr B29 121 122 at_121 rfl ?_
  refine o_iadd B29 122 123 at_122 rfl ?_
  obtain ⟨T31, h31, L31, B31, N31, W31, Q31, c31⟩ := o_iastore B29 N29 g21 123 124 A29 (j := (3 : Int32)) (x := (((q0_10 x0 x1 x2 x3 x4 x5) + (1 : Int32)) + (XT.ushr (x5 &&& (268435455 : Int32)) (q0_4 x0 x1 x2 x3 x4 x5)))) 3 (q0_12 x0 x1 x2 x3 x4 x5) at_123 rfl (by decide) (by decide) (by decide) rfl (Ls := #[vi x0, vi x1, vj x2, s2, vj x3, s2, vj x4, s2, vi x5, vi (q0_1 x0 x1 x2 x3 x4 x5), vi (q0_2 x0 x1 x2 x3 x4 x5), vi (q0_3 x0 x1 x2 x3 x4 x5), vi (q0_4 x0 x1 x2 x3 x4 x5), vi (q0_5 x0 x1 x2 x3 x4 x5), vr a21, vr a22, us, us, us, us]) (rest := [])
  have A31 : AI Z h31 a21 .int 4 (w0_13 x0 x1 x2 x3 x4 x5) := Q31
  refine c31 ?_
  refine o_aload B31 124 126 (v := (.ref a22)) at_124 rfl rfl rfl ?_
  refine o_iconst B31 126 127 (0 : Int32) at_126 rfl (by decide) ?_
  refine o_lload B31 127 129 (v := x3) at_127 rfl rfl ?_
  refine o_l2i B31 129 130 at_129 rfl ?_
  refine o_iload B31 130 132 (v := (q0_3 x0 x1 x2 x3 x4 x5)) at_130 rfl rfl ?_
  obtain ⟨T32, B32, c32⟩ := o_callP B31 132 135 at_132 rfl (hw _ (mi 2 rfl)) (hw _ (mi 3 rfl)) (hw _ (mi 4 rfl)) (hw _ (mi 5 rfl)) (by decide) (rm1 l Z a0 hw x3.toInt32 (q0_3 x0 x1 x2 x3 x4 x5) h31 ) 2 [(.int x3.toInt32), (.int (q0_3 x0 x1 x2 x3 x4 x5))] [(.int (0 : Int32)), (.ref a22)] pd__II_I rfl rfl (st := [(.int (q0_3 x0 x1 x2 x3 x4 x5)), (.int x3.toInt32), (.int (0 : Int32)), (.ref a22)]) rfl (Ls := #[vi x0, vi x1, vj x2, s2, vj x3, s2, vj x4, s2, vi x5, vi (q0_1 x0 x1 x2 x3 x4 x5), vi (q0_2 x0 x1 x2 x3 x4 x5), vi (q0_3 x0 x1 x2 x3 x4 x5), vi (q0_4 x0 x1 x2 x3 x4 x5), vi (q0_5 x0 x1 x2 x3 x4 x5), vr a21, vr a22, us, us, us, us]) rfl (Nat.le_of_eq rfl) (by decide) (by decide) (by decide) (by decide)
  refine c32 ?_
  have F34 := ((((A22.other W24 (Ne.symm (Nat.ne_of_lt lt23))).other W27 (Ne.symm (Nat.ne_of_lt lt23))).other W29 (Ne.symm (Nat.ne_of_lt lt23))).other W31 (Ne.symm (Nat.ne_of_lt lt23)))
  obtain ⟨T33, h33, L33, B33, N33, W33, Q33, c33⟩ := o_iastore B32 N31 g22 135 136 F34 (j := (0 : Int32)) (x := (f1 x3.toInt32 (q0_3 x0 x1 x2 x3 x4 x5))) 0 (q0_14 x0 x1 x2 x3 x4 x5) at_135 rfl (by decide) (by decide) (by decide) rfl (Ls := #[vi x0, vi x1, vj x2, s2, vj x3, s2, vj x4, s2, vi x5, vi (q0_1 x0 x1 x2 x3 x4 x5), vi (q0_2 x0 x1 x2 x3 x4 x5), vi (q0_3 x0 x1 x2 x3 x4 x5), vi (q0_4 x0 x1 x2 x3 x4 x5), vi (q0_5 x0 x1 x2 x3 x4 x5), vr a21, vr a22, us, us, us, us]) (rest := [])
  have A33 : AI Z h33 a22 .int 4 (w0_15 x0 x1 x2 x3 x4 x5) := Q33
  refine c33 ?_
  refine o_aload B33 136 138 (v := (.ref a22)) at_136 rfl rfl rfl ?_
  refine o_iconst B33 138 139 (1 : Int32) at_138 rfl (by decide) ?_
  refine o_lload B33 139 141 (v := x3) at_139 rfl rfl ?_
  refine o_bipush B33 141 143 (32 : Int32) at_141 rfl (by decide) ?_
  refine o_lushr B33 143 144 at_143 rfl ?_
  refine o_l2i B33 144 145 at_144 rfl ?_
  refine o_iload B33 145 147 (v := (q0_3 x0 x1 x2 x3 x4 x5)) at_145 rfl rfl ?_
  obtain ⟨T35, B35, c35⟩ := o_callP B33 147 150 at_147 rfl (hw _ (mi 2 rfl)) (hw _ (mi 3 rfl)) (hw _ (mi 4 rfl)) (hw _ (mi 5 rfl)) (by decide) (rm1 l Z a0 hw (XT.ushrL x3 (32 : Int32)).toInt32 (q0_3 x0 x1 x2 x3 x4 x5) h33 ) 2 [(.int (XT.ushrL x3 (32 : Int32)).toInt32), (.int (q0_3 x0 x1 x2 x3 x4 x5))] [(.int (1 : Int32)), (.ref a22)] pd__II_I rfl rfl (st := [(.int (q0_3 x0 x1 x2 x3 x4 x5)), (.int (XT.ushrL x3 (32 : Int32)).toInt32), (.int (1 : Int32)), (.ref a22)]) rfl (Ls := #[vi x0, vi x1, vj x2, s2, vj x3, s2, vj x4, s2, vi x5, vi (q0_1 x0 x1 x2 x3 x4 x5), vi (q0_2 x0 x1 x2 x3 x4 x5), vi (q0_3 x0 x1 x2 x3 x4 x5), vi (q0_4 x0 x1 x2 x3 x4 x5), vi (q0_5 x0 x1 x2 x3 x4 x5), vr a21, vr a22, us, us, us, us]) rfl (Nat.le_of_eq rfl) (by decide) (by decide) (by decide) (by decide)
  refine c35 ?_
  obtain ⟨T36, h36, L36, B36, N36, W36, Q36, c36⟩ := o_iastore B35 N33 g22 150 151 A33 (j := (1 : Int32)) (x := (q0_16 x0 x1 x2 x3 x4 x5)) 1 (q0_17 x0 x1 x2 x3 x4 x5) at_150 rfl (by decide) (by decide) (by decide) rfl (Ls := #[vi x0, vi x1, vj x2, s2, vj x3, s2, vj x4, s2, vi x5, vi (q0_1 x0 x1 x2 x3 x4 x5), vi (q0_2 x0 x1 x2 x3 x4 x5), vi (q0_3 x0 x1 x2 x3 x4 x5), vi (q0_4 x0 x1 x2 x3 x4 x5), vi (q0_5 x0 x1 x2 x3 x4 x5), vr a21, vr a22, us, us, us, us]) (rest := [])
  have A36 : AI Z h36 a22 .int 4 (w0_18 x0 x1 x2 x3 x4 x5) := Q36
  refine c36 ?_
  refine o_aload B36 151 153 (v := (.ref a22)) at_151 rfl rfl rfl ?_
  refine o_iconst B36 153 154 (2 : Int32) at_153 rfl (by decide) ?_
  refine o_lload B36 154 156 (v := x4) at_154 rfl rfl ?_
  refine o_l2i B36 156 157 at_156 rfl ?_
  refine o_iload B36 157 159 (v := (q0_3 x0 x1 x2 x3 x4 x5)) at_157 rfl rfl ?_
  obtain ⟨T37, B37, c37⟩ := o_callP B36 159 162 at_159 rfl (hw _ (mi 2 rfl)) (hw _ (mi 3 rfl)) (hw _ (mi 4 rfl)) (hw _ (mi 5 rfl)) (by decide) (rm1 l Z a0 hw x4.toInt32 (q0_3 x0 x1 x2 x3 x4 x5) h36 ) 2 [(.int x4.toInt32), (.int (q0_3 x0 x1 x2 x3 x4 x5))] [(.int (2 : Int32)), (.ref a22)] pd__II_I rfl rfl (st := [(.int (q0_3 x0 x1 x2 x3 x4 x5)), (.int x4.toInt32), (.int (2 : Int32)), (.ref a22)]) rfl (Ls := #[vi x0, vi x1, vj x2, s2, vj x3, s2, vj x4, s2, vi x5, vi (q0_1 x0 x1 x2 x3 x4 x5), vi (q0_2 x0 x1 x2 x3 x4 x5), vi (q0_3 x0 x1 x2 x3 x4 x5), vi (q0_4 x0 x1 x2 x3 x4 x5), vi (q0_5 x0 x1 x2 x3 x4 x5), vr a21, vr a22, us, us, us, us]) rfl (Nat.le_of_eq rfl) (by decide) (by decide) (by decide) (by decide)
  refine c37 ?_
  obtain ⟨T38, h38, L38, B38, N38, W38, Q38, c38⟩ := o_iastore B37 N36 g22 162 163 A36 (j := (2 : Int32)) (x := (f1 x4.toInt32 (q0_3 x0 x1 x2 x3 x4 x5))) 2 (q0_19 x0 x1 x2 x3 x4 x5) at_162 rfl (by decide) (by decide) (by decide) rfl (Ls := #[vi x0, vi x1, vj x2, s2, vj x3, s2, vj x4, s2, vi x5, vi (q0_1 x0 x1 x2 x3 x4 x5), vi (q0_2 x0 x1 x2 x3 x4 x5), vi (q0_3 x0 x1 x2 x3 x4 x5), vi (q0_4 x0 x1 x2 x3 x4 x5), vi (q0_5 x0 x1 x2 x3 x4 x5), vr a21, vr a22, us, us, us, us]) (rest := [])
  have A38 : AI Z h38 a22 .int 4 (w0_20 x0 x1 x2 x3 x4 x5) := Q38
  refine c38 ?_
  refine o_aload B38 163 165 (v := (.ref a22)) at_163 rfl rfl rfl ?_
  refine o_iconst B38 165 166 (3 : Int32) at_165 rfl (by decide) ?_
  refine o_lload B38 166 168 (v := x4) at_166 rfl rfl ?_
  refine o_bipush B38 168 170 (32 : Int32) at_168 rfl (by decide) ?_
  refine o_lushr B38 170 171 at_170 rfl ?_
  refine o_l2i B38 171 172 at_171 rfl ?_
  refine o_iload B38 172 174 (v := (q0_3 x0 x1 x2 x3 x4 x5)) at_172 rfl rfl ?_
  obtain ⟨T39, B39, c39⟩ := o_callP B38 174 177 at_174 rfl (hw _ (mi 2 rfl)) (hw _ (mi 3 rfl)) (hw _ (mi 4 rfl)) (hw _ (mi 5 rfl)) (by decide) (rm1 l Z a0 hw (XT.ushrL x4 (32 : Int32)).toInt32 (q0_3 x0 x1 x2 x3 x4 x5) h38 ) 2 [(.int (XT.ushrL x4 (32 : Int32)).toInt32), (.int (q0_3 x0 x1 x2 x3 x4 x5))] [(.int (3 : Int32)), (.ref a22)] pd__II_I rfl rfl (st := [(.int (q0_3 x0 x1 x2 x3 x4 x5)), (.int (XT.ushrL x4 (32 : Int32)).toInt32), (.int (3 : Int32)), (.ref a22)]) rfl (Ls := #[vi x0, vi x1, vj x2, s2, vj x3, s2, vj x4, s2, vi x5, vi (q0_1 x0 x1 x2 x3 x4 x5), vi (q0_2 x0 x1 x2 x3 x4 x5), vi (q0_3 x0 x1 x2 x3 x4 x5), vi (q0_4 x0 x1 x2 x3 x4 x5), vi (q0_5 x0 x1 x2 x3 x4 x5), vr a21, vr a22, us, us, us, us]) rfl (Nat.le_of_eq rfl) (by decide) (by decide) (by decide) (by decide)
  refine c39 ?_
  obtain ⟨T40, h40, L40, B40, N40, W40, Q40, c40⟩ := o_iastore B39 N38 g22 177 178 A38 (j := (3 : Int32)) (x := (q0_21 x0 x1 x2 x3 x4 x5)) 3 (q0_22 x0 x1 x2 x3 x4 x5) at_177 rfl (by decide) (by decide) (by decide) rfl (Ls := #[vi x0, vi x1, vj x2, s2, vj x3, s2, vj x4, s2, vi x5, vi (q0_1 x0 x1 x2 x3 x4 x5), vi (q0_2 x0 x1 x2 x3 x4 x5), vi (q0_3 x0 x1 x2 x3 x4 x5), vi (q0_4 x0 x1 x2 x3 x4 x5), vi (q0_5 x0 x1 x2 x3 x4 x5), vr a21, vr a22, us, us, us, us]) (rest := [])
  have A40 : AI Z h40 a22 .int 4 (w0_23 x0 x1 x2 x3 x4 x5) := Q40
  refine c40 ?_
  by_cases k1 : (q0_1 x0 x1 x2 x3 x4 x5) = (1 : Int32)
  · rw [k1]
    obtain ⟨a41, T41, h41, z41, B41, E41, X41, D41, c41⟩ := o_new B40 178 181 at_178 rfl (hw _ (mi 11 rfl)) (hw _ (mi 12 rfl)) (hw _ (mi 13 rfl)) (by decide) (by decide) (Ls := #[vi x0, vi x1, vj x2, s2, vj x3, s2, vj x4, s2, vi x5, vi 1, vi (q0_2 x0 x1 x2 x3 x4 x5), vi (q0_3 x0 x1 x2 x3 x4 x5), vi (q0_4 x0 x1 x2 x3 x4 x5), vi (q0_5 x0 x1 x2 x3 x4 x5), vr a21, vr a22, us, us, us, us]) (rest := [])
    have F42 := ((((A31.other W33 (Nat.ne_of_lt lt23)).other W36 (Nat.ne_of_lt lt23)).other W38 (Nat.ne_of_lt lt23)).other W40 (Nat.ne_of_lt lt23))
    have lt43 : (a21 : Nat) < a41 := by rw [z41]; exact F42.lt
    have lt44 : (a22 : Nat) < a41 := by rw [z41]; exact A40.lt
    have g41 : n0 ≤ a41 := by rw [z41]; exact (W40.size ▸ (W38.size ▸ (W36.size ▸ (W33.size ▸ (W31.size ▸ (W29.size ▸ (W27.size ▸ (W24.size ▸ s22))))))))
    have s41 : n0 ≤ h41.size := Nat.le_trans (W40.size ▸ (W38.size ▸ (W36.size ▸ (W33.size ▸ (W31.size ▸ (W29.size ▸ (W27.size ▸ (W24.size ▸ s22)))))))) E41.1
    have F45 : Fld Z h41 a41 "com/example/micro_ranker/microranker/engine/BitWriter" "words" "[J" .null := D41 (Or.inl (hw _ (mi 22 rfl))) (ty := (.array .long)) (by decide)
    have F46 : Fld Z h41 a41 "com/example/micro_ranker/microranker/engine/BitWriter" "size" "J" (.long (0 : Int64)) := D41 (Or.inl (hw _ (mi 29 rfl))) (ty := .long) (by decide)
    refine c41 ?_
    refine o_dup B41 181 182 at_181 rfl rfl ?_
    have F47 := (F42.ext E41)
    have F48 := (A40.ext E41)
    obtain ⟨v49, T49, L49, B49, Q49, c49⟩ := o_callN B41 182 185 at_182 rfl rfl (hw _ (mi 14 rfl)) (hw _ (mi 15 rfl)) (hw _ (mi 13 rfl)) (hw _ (mi 16 rfl)) (by decide) (rm3 l Z a0 hw a41 h41 n0 s41 g41 X41 F45 F46) 1 [] [(.ref a41)] pd___V rfl rfl (st := [(.ref a41), (.ref a41)]) rfl (Ls := #[vi x0, vi x1, vj x2, s2, vj x3, s2, vj x4, s2, vi x5, vi 1, vi (q0_2 x0 x1 x2 x3 x4 x5), vi (q0_3 x0 x1 x2 x3 x4 x5), vi (q0_4 x0 x1 x2 x3 x4 x5), vi (q0_5 x0 x1 x2 x3 x4 x5), vr a21, vr a22, us, us, us, us]) rfl (Nat.le_of_eq rfl) (by decide) (by decide) (by decide) (by decide)
    obtain ⟨rfl, M49, K49, yw49, gy49, zy49, H49_1, H49_2, J49⟩ := Q49
    have N49 := Fr.app N40 M49
    have zz49 : n0 ≤ T49.heap.size := Nat.le_trans s41 K49.1
    have lt50 : (a21 : Nat) < yw49 := Nat.lt_of_lt_of_le F47.lt zy49
    have lt51 : (a22 : Nat) < yw49 := Nat.lt_of_lt_of_le F48.lt zy49
    have lt52 : (a41 : Nat) < yw49 := Nat.lt_of_lt_of_le X41.lt zy49
    refine c49 ?_
    show OG p.tables e below _ (T49.setTop (mkF m 185 #[vi x0, vi x1, vj x2, s2, vj x3, s2, vj x4, s2, vi x5, vi 1, vi (q0_2 x0 x1 x2 x3 x4 x5), vi (q0_3 x0 x1 x2 x3 x4 x5), vi (q0_4 x0 x1 x2 x3 x4 x5), vi (q0_5 x0 x1 x2 x3 x4 x5), vr a21, vr a22, us, us, us, us] [(.ref a41)]))
    refine o_astore B49 185 187 (l' := #[vi x0, vi x1, vj x2, s2, vj x3, s2, vj x4, s2, vi x5, vi 1, vi (q0_2 x0 x1 x2 x3 x4 x5), vi (q0_3 x0 x1 x2 x3 x4 x5), vi (q0_4 x0 x1 x2 x3 x4 x5), vi (q0_5 x0 x1 x2 x3 x4 x5), vr a21, vr a22, vr a41, us, us, us]) at_185 rfl rfl rfl ?_
    refine o_aload B49 187 189 (v := (.ref a41)) at_187 rfl rfl rfl ?_
    refine o_iload B49 189 191 (v := x5) at_189 rfl rfl ?_
    refine o_i2l B49 191 192 at_191 rfl ?_
    refine o_iload B49 192 194 (v := (q0_2 x0 x1 x2 x3 x4 x5)) at_192 rfl rfl ?_
    have F53 := (X41.keep K49)
    obtain ⟨v54, T54, L54, B54, Q54, c54⟩ := o_callV B49 194 197 at_194 rfl (hw _ (mi 23 rfl)) (hw _ (mi 24 rfl)) (hw _ (mi 26 rfl)) (hw _ (mi 25 rfl)) (hw _ (mi 13 rfl)) (hw _ (mi 27 rfl)) (by decide) F53 (rm5 l Z a0 hw a41 yw49 own_zJ (0 : Int64) x5.toInt64 (q0_2 x0 x1 x2 x3 x4 x5) T49.heap n0 zz49 g41 gy49 F53 H49_1 H49_2 J49 (Nat.ne_of_lt lt52) (own_hw0 x0 x1 x2 x3 x4 x5)) 0 [(.long x5.toInt64), (.int (q0_2 x0 x1 x2 x3 x4 x5))] [] pd__JI_V rfl rfl (st := [(.int (q0_2 x0 x1 x2 x3 x4 x5)), (.long x5.toInt64), (.ref a41)]) rfl (Ls := #[vi x0, vi x1, vj x2, s2, vj x3, s2, vj x4, s2, vi x5, vi 1, vi (q0_2 x0 x1 x2 x3 x4 x5), vi (q0_3 x0 x1 x2 x3 x4 x5), vi (q0_4 x0 x1 x2 x3 x4 x5), vi (q0_5 x0 x1 x2 x3 x4 x5), vr a21, vr a22, vr a41, us, us, us]) rfl (Nat.le_of_eq rfl) (by decide) (by decide) (by decide) (by decide)
    obtain ⟨rfl, M54, K54, g54, s54, H54_1, H54_2, J54, ⟨tA, PA⟩⟩ := Q54
    have N54 := Fr.app N49 M54
    have zz54 : n0 ≤ T54.heap.size := Nat.le_trans zz49 K54.1
    refine c54 ?_
    show OG p.tables e below _ (T54.setTop (mkF m 197 #[vi x0, vi x1, vj x2, s2, vj x3, s2, vj x4, s2, vi x5, vi 1, vi (q0_2 x0 x1 x2 x3 x4 x5), vi (q0_3 x0 x1 x2 x3 x4 x5), vi (q0_4 x0 x1 x2 x3 x4 x5), vi (q0_5 x0 x1 x2 x3 x4 x5), vr a21, vr a22, vr a41, us, us, us] []))
    refine o_aload B54 197 199 (v := (.ref a41)) at_197 rfl rfl rfl ?_
    refine o_aload B54 199 201 (v := (.ref a21)) at_199 rfl rfl rfl ?_
    refine o_aload B54 201 203 (v := (.ref a22)) at_201 rfl rfl rfl ?_
    refine o_iconst B54 203 204 (0 : Int32) at_203 rfl (by decide) ?_
    refine o_iload B54 204 206 (v := (1 : Int32)) at_204 rfl rfl ?_
    refine o_iload B54 206 208 (v := (q0_5 x0 x1 x2 x3 x4 x5)) at_206 rfl rfl ?_
    have F55 := (F53.keep K54)
    have F56 := ((F47.keep K49 (ninS (Nat.ne_of_lt lt43) nin0)).keep K54 (ninS (Nat.ne_of_lt lt43) (ninS (Nat.ne_of_lt lt50) nin0)))
    have F57 := ((F48.keep K49 (ninS (Nat.ne_of_lt lt44) nin0)).keep K54 (ninS (Nat.ne_of_lt lt44) (ninS (Nat.ne_of_lt lt51) nin0)))
    have hBd : Bd (w0_13 x0 x1 x2 x3 x4 x5) (w0_23 x0 x1 x2 x3 x4 x5) (q0_5 x0 x1 x2 x3 x4 x5) s54 := own_bd x0 x1 x2 x3 x4 x5 s54 tA
    obtain ⟨v58, T58, L58, B58, Q58, c58⟩ := o_callS B54 208 211 at_208 rfl (hw _ (mi 34 rfl)) (hw _ (mi 35 rfl)) (hw _ (mi 36 rfl)) (hw _ (mi 37 rfl)) (by decide) (rm7_1 l Z a0 hw a41 a21 a22 yw49 (w0_13 x0 x1 x2 x3 x4 x5) (w0_23 x0 x1 x2 x3 x4 x5) g54 s54 (q0_5 x0 x1 x2 x3 x4 x5) T54.heap n0 zz54 g41 gy49 F55 H54_1 H54_2 F56 F57 J54 (Nat.ne_of_lt lt52) (Nat.ne_of_lt lt50) (Nat.ne_of_lt lt51) (Ne.symm (Nat.ne_of_lt lt43)) (Ne.symm (Nat.ne_of_lt lt44)) hBd) 0 [(.ref a41), (.ref a21), (.ref a22), (.int (0 : Int32)), (.int (1 : Int32)), (.int (q0_5 x0 x1 x2 x3 x4 x5))] [] pd__Lcom_example_micro_ranker_microranker_engine_BitWriter__I_IIII_V rfl rfl (st := [(.int (q0_5 x0 x1 x2 x3 x4 x5)), (.int (1 : Int32)), (.int (0 : Int32)), (.ref a22), (.ref a21), (.ref a41)]) rfl (Ls := #[vi x0, vi x1, vj x2, s2, vj x3, s2, vj x4, s2, vi x5, vi 1, vi (q0_2 x0 x1 x2 x3 x4 x5), vi (q0_3 x0 x1 x2 x3 x4 x5), vi (q0_4 x0 x1 x2 x3 x4 x5), vi (q0_5 x0 x1 x2 x3 x4 x5), vr a21, vr a22, vr a41, us, us, us]) rfl (Nat.le_of_eq rfl) (by decide) (by decide) (by decide) (by decide)
    obtain ⟨rfl, M58, K58, g58, s58, H58_1, H58_2, J58, tB, PB⟩ := Q58
    have N58 := Fr.app N54 M58
    have zz58 : n0 ≤ T58.heap.size := Nat.le_trans zz54 K58.1
    refine c58 ?_
    show OG p.tables e below _ (T58.setTop (mkF m 211 #[vi x0, vi x1, vj x2, s2, vj x3, s2, vj x4, s2, vi x5, vi 1, vi (q0_2 x0 x1 x2 x3 x4 x5), vi (q0_3 x0 x1 x2 x3 x4 x5), vi (q0_4 x0 x1 x2 x3 x4 x5), vi (q0_5 x0 x1 x2 x3 x4 x5), vr a21, vr a22, vr a41, us, us, us] []))
    refine o_aload B58 211 213 (v := (.ref a41)) at_211 rfl rfl rfl ?_
    have F59 := (F55.keep K58)
    obtain ⟨T60, B60, c60⟩ := o_callVP B58 213 216 at_213 rfl (hw _ (mi 55 rfl)) (hw _ (mi 56 rfl)) (hw _ (mi 58 rfl)) (hw _ (mi 57 rfl)) (hw _ (mi 13 rfl)) (hw _ (mi 59 rfl)) (by decide) F59 (rm11 l Z a0 hw a41 s58 T58.heap H58_2) 0 [] [] pd___J rfl rfl (st := [(.ref a41)]) rfl (Ls := #[vi x0, vi x1, vj x2, s2, vj x3, s2, vj x4, s2, vi x5, vi 1, vi (q0_2 x0 x1 x2 x3 x4 x5), vi (q0_3 x0 x1 x2 x3 x4 x5), vi (q0_4 x0 x1 x2 x3 x4 x5), vi (q0_5 x0 x1 x2 x3 x4 x5), vr a21, vr a22, vr a41, us, us, us]) rfl (Nat.le_of_eq rfl) (by decide) (by decide) (by decide) (by decide)
    refine c60 ?_
    refine o_iload B60 216 218 (v := (q0_2 x0 x1 x2 x3 x4 x5)) at_216 rfl rfl ?_
    refine o_i2l B60 218 219 at_218 rfl ?_
    refine o_lsub B60 219 220 at_219 rfl ?_
    refine o_lstore B60 220 222 (l' := #[vi x0, vi x1, vj x2, s2, vj x3, s2, vj x4, s2, vi x5, vi 1, vi (q0_2 x0 x1 x2 x3 x4 x5), vi (q0_3 x0 x1 x2 x3 x4 x5), vi (q0_4 x0 x1 x2 x3 x4 x5), vi (q0_5 x0 x1 x2 x3 x4 x5), vr a21, vr a22, vr a41, vj ((f11 s58) - (q0_2 x0 x1 x2 x3 x4 x5).toInt64), s2, us]) at_220 rfl rfl ?_
    obtain ⟨a61, T61, h61, z61, B61, E61, X61, D61, c61⟩ := o_new B60 222 225 at_222 rfl (hw _ (mi 60 rfl)) (hw _ (mi 61 rfl)) (hw _ (mi 36 rfl)) (by decide) (by decide) (Ls := #[vi x0, vi x1, vj x2, s2, vj x3, s2, vj x4, s2, vi x5, vi 1, vi (q0_2 x0 x1 x2 x3 x4 x5), vi (q0_3 x0 x1 x2 x3 x4 x5), vi (q0_4 x0 x1 x2 x3 x4 x5), vi (q0_5 x0 x1 x2 x3 x4 x5), vr a21, vr a22, vr a41, vj ((f11 s58) - (q0_2 x0 x1 x2 x3 x4 x5).toInt64), s2, us]) (rest := [])
    have F62 := (F56.keep K58 (ninS (Nat.ne_of_lt lt43) (ninS (Nat.ne_of_lt lt50) nin0)))
    have lt63 : (a21 : Nat) < a61 := by rw [z61]; exact F62.lt
    have F64 := (F57.keep K58 (ninS (Nat.ne_of_lt lt44) (ninS (Nat.ne_of_lt lt51) nin0)))
    have lt65 : (a22 : Nat) < a61 := by rw [z61]; exact F64.lt
    have lt66 : (a41 : Nat) < a61 := by rw [z61]; exact F59.lt
    have lt67 : (yw49 : Nat) < a61 := by rw [z61]; exact J58.lt
    have g61 : n0 ≤ a61 := by rw [z61]; exact zz58
    have s61 : n0 ≤ h61.size := Nat.le_trans zz58 E61.1
    have F68 : Fld Z h61 a61 "com/example/micro_ranker/microranker/engine/Block" "words" "[J" .null := D61 (Or.inl (hw _ (mi 77 rfl))) (ty := (.array .long)) (by decide)
    have F69 : Fld Z h61 a61 "com/example/micro_ranker/microranker/engine/Block" "count" "I" (.int (0 : Int32)) := D61 (Or.inl (hw _ (mi 79 rfl))) (ty := .int) (by decide)
    have F70 : Fld Z h61 a61 "com/example/micro_ranker/microranker/engine/Block" "base" "I" (.int (0 : Int32)) := D61 (Or.inl (hw _ (mi 81 rfl))) (ty := .int) (by decide)
    have F71 : Fld Z h61 a61 "com/example/micro_ranker/microranker/engine/Block" "last" "I" (.int (0 : Int32)) := D61 (Or.inl (hw _ (mi 83 rfl))) (ty := .int) (by decide)
    have F72 : Fld Z h61 a61 "com/example/micro_ranker/microranker/engine/Block" "frequencyWidth" "I" (.int (0 : Int32)) := D61 (Or.inl (hw _ (mi 92 rfl))) (ty := .int) (by decide)
    have F73 : Fld Z h61 a61 "com/example/micro_ranker/microranker/engine/Block" "lowWidth" "I" (.int (0 : Int32)) := D61 (Or.inl (hw _ (mi 94 rfl))) (ty := .int) (by decide)
    have F74 : Fld Z h61 a61 "com/example/micro_ranker/microranker/engine/Block" "entries" "J" (.long (0 : Int64)) := D61 (Or.inl (hw _ (mi 97 rfl))) (ty := .long) (by decide)
    have F75 : Fld Z h61 a61 "com/example/micro_ranker/microranker/engine/Block" "highs" "J" (.long (0 : Int64)) := D61 (Or.inl (hw _ (mi 99 rfl))) (ty := .long) (by decide)
    have F76 : Fld Z h61 a61 "com/example/micro_ranker/microranker/engine/Block" "entry" "I" (.int (0 : Int32)) := D61 (Or.inl (hw _ (mi 101 rfl))) (ty := .int) (by decide)
    have F77 : Fld Z h61 a61 "com/example/micro_ranker/microranker/engine/Block" "position" "J" (.long (0 : Int64)) := D61 (Or.inl (hw _ (mi 103 rfl))) (ty := .long) (by decide)
    have F78 : Fld Z h61 a61 "com/example/micro_ranker/microranker/engine/Block" "document" "I" (.int (0 : Int32)) := D61 (Or.inl (hw _ (mi 105 rfl))) (ty := .int) (by decide)
    refine c61 ?_
    refine o_dup B61 225 226 at_225 rfl rfl ?_
    obtain ⟨v79, T79, L79, B79, Q79, c79⟩ := o_callN B61 226 229 at_226 rfl rfl (hw _ (mi 62 rfl)) (hw _ (mi 63 rfl)) (hw _ (mi 36 rfl)) (hw _ (mi 64 rfl)) (by decide) (rm12 l Z a0 hw a61  h61 n0 s61 g61 X61 F68 F69 F70 F71 F72 F73 F74 F75 F76 F77 F78) 1 [] [(.ref a61)] pd___V rfl rfl (st := [(.ref a61), (.ref a61)]) rfl (Ls := #[vi x0, vi x1, vj x2, s2, vj x3, s2, vj x4, s2, vi x5, vi 1, vi (q0_2 x0 x1 x2 x3 x4 x5), vi (q0_3 x0 x1 x2 x3 x4 x5), vi (q0_4 x0 x1 x2 x3 x4 x5), vi (q0_5 x0 x1 x2 x3 x4 x5), vr a21, vr a22, vr a41, vj ((f11 s58) - (q0_2 x0 x1 x2 x3 x4 x5).toInt64), s2, us]) rfl (Nat.le_of_eq rfl) (by decide) (by decide) (by decide) (by decide)
    obtain ⟨rfl, M79, K79, H79_0, H79_1, H79_2, H79_3, H79_4, H79_5, H79_6, H79_7, H79_8, H79_9, H79_10⟩ := Q79
    have N79 := Fr.app N58 M79
    have s79 : n0 ≤ T79.heap.size := Nat.le_trans s61 K79.1
    refine c79 ?_
    show OG p.tables e below _ (T79.setTop (mkF m 229 #[vi x0, vi x1, vj x2, s2, vj x3, s2, vj x4, s2, vi x5, vi 1, vi (q0_2 x0 x1 x2 x3 x4 x5), vi (q0_3 x0 x1 x2 x3 x4 x5), vi (q0_4 x0 x1 x2 x3 x4 x5), vi (q0_5 x0 x1 x2 x3 x4 x5), vr a21, vr a22, vr a41, vj ((f11 s58) - (q0_2 x0 x1 x2 x3 x4 x5).toInt64), s2, us] [(.ref a61)]))
    refine o_aload B79 229 231 (v := (.ref a41)) at_229 rfl rfl rfl ?_
    have F80 := ((Exa.ext E61 F59).keep K79)
    have F81 := ((Fld.ext E61 H58_1).keep K79 (ninS (Nat.ne_of_lt lt66) nin0))
    obtain ⟨v82, T82, L82, B82, Q82, c82⟩ := o_callV B79 231 234 at_231 rfl (hw _ (mi 66 rfl)) (hw _ (mi 67 rfl)) (hw _ (mi 69 rfl)) (hw _ (mi 68 rfl)) (hw _ (mi 13 rfl)) (hw _ (mi 70 rfl)) (by decide) F80 (rm13 l Z a0 hw a41 yw49 T79.heap n0 s79 F80 F81) 1 [] [(.ref a61)] pd____J rfl rfl (st := [(.ref a41), (.ref a61)]) rfl (Ls := #[vi x0, vi x1, vj x2, s2, vj x3, s2, vj x4, s2, vi x5, vi 1, vi (q0_2 x0 x1 x2 x3 x4 x5), vi (q0_3 x0 x1 x2 x3 x4 x5), vi (q0_4 x0 x1 x2 x3 x4 x5), vi (q0_5 x0 x1 x2 x3 x4 x5), vr a21, vr a22, vr a41, vj ((f11 s58) - (q0_2 x0 x1 x2 x3 x4 x5).toInt64), s2, us]) rfl (Nat.le_of_eq rfl) (by decide) (by decide) (by decide) (by decide)
    obtain ⟨rfl, M82, K82, H82⟩ := Q82
    have N82 := Fr.app N79 M82
    have zz82 : n0 ≤ T82.heap.size := Nat.le_trans s79 K82.1
    refine c82 ?_
    show OG p.tables e below _ (T82.setTop (mkF m 234 #[vi x0, vi x1, vj x2, s2, vj x3, s2, vj x4, s2, vi x5, vi 1, vi (q0_2 x0 x1 x2 x3 x4 x5), vi (q0_3 x0 x1 x2 x3 x4 x5), vi (q0_4 x0 x1 x2 x3 x4 x5), vi (q0_5 x0 x1 x2 x3 x4 x5), vr a21, vr a22, vr a41, vj ((f11 s58) - (q0_2 x0 x1 x2 x3 x4 x5).toInt64), s2, us] [(.ref yw49), (.ref a61)]))
    refine o_iload B82 234 236 (v := (q0_2 x0 x1 x2 x3 x4 x5)) at_234 rfl rfl ?_
    refine o_i2l B82 236 237 at_236 rfl ?_
    refine o_iload B82 237 239 (v := (1 : Int32)) at_237 rfl rfl ?_
    refine o_iload B82 239 241 (v := (q0_5 x0 x1 x2 x3 x4 x5)) at_239 rfl rfl ?_
    refine o_aload B82 241 243 (v := (.ref a21)) at_241 rfl rfl rfl ?_
    refine o_iload B82 243 245 (v := (1 : Int32)) at_243 rfl rfl ?_
    refine o_iconst B82 245 246 (1 : Int32) at_245 rfl (by decide) ?_
    refine o_isub B82 246 247 at_246 rfl ?_
    refine o_topI (show ((1 : Int32) - (1 : Int32)) = (0 : Int32) by decide) ?_
    have F84 := (((F62.ext E61).keep K79 (ninS (Nat.ne_of_lt lt63) nin0)).keep K82 nin0)
    refine o_iaload B82 247 248 F84 0 ((w0_13 x0 x1 x2 x3 x4 x5) 0) at_247 rfl (by decide) (by decide) (by decide) rfl ?_
    have F85 := ((X61.keep K79).keep K82)
    have F86 := (H79_0.keep K82 nin0)
    have F87 := (H79_1.keep K82 nin0)
    have F88 := (H79_2.keep K82 nin0)
    have F89 := (H79_3.keep K82 nin0)
    have F90 := (H79_4.keep K82 nin0)
    have F91 := (H79_5.keep K82 nin0)
    have F92 := (H79_6.keep K82 nin0)
    have F93 := (H79_7.keep K82 nin0)
    have F94 := (H79_8.keep K82 nin0)
    have F95 := (H79_9.keep K82 nin0)
    have F96 := (H79_10.keep K82 nin0)
    have F97 := (((J58.ext E61).keep K79 (ninS (Nat.ne_of_lt lt67) nin0)).keep K82 nin0)
    obtain ⟨v98, T98, L98, B98, Q98, c98⟩ := o_callV B82 248 251 at_248 rfl (hw _ (mi 71 rfl)) (hw _ (mi 72 rfl)) (hw _ (mi 74 rfl)) (hw _ (mi 73 rfl)) (hw _ (mi 36 rfl)) (hw _ (mi 75 rfl)) (by decide) F85 (rm14_1 l Z a0 hw a61 yw49 g58 (q0_2 x0 x1 x2 x3 x4 x5).toInt64 (q0_5 x0 x1 x2 x3 x4 x5) ((w0_13 x0 x1 x2 x3 x4 x5) 0) T82.heap n0 zz82 g61 F85 F86 F87 F88 F89 F90 F91 F92 F93 F94 F95 F96 F97 (Ne.symm (Nat.ne_of_lt lt67)) (own_pre64 x0 x1 x2 x3 x4 x5)) 0 [(.ref yw49), (.long (q0_2 x0 x1 x2 x3 x4 x5).toInt64), (.int (1 : Int32)), (.int (q0_5 x0 x1 x2 x3 x4 x5)), (.int ((w0_13 x0 x1 x2 x3 x4 x5) 0))] [] pd___JJIII_Lcom_example_micro_ranker_microranker_engine_Block_ rfl rfl (st := [(.int ((w0_13 x0 x1 x2 x3 x4 x5) 0)), (.int (q0_5 x0 x1 x2 x3 x4 x5)), (.int (1 : Int32)), (.long (q0_2 x0 x1 x2 x3 x4 x5).toInt64), (.ref yw49), (.ref a61)]) rfl (Ls := #[vi x0, vi x1, vj x2, s2, vj x3, s2, vj x4, s2, vi x5, vi 1, vi (q0_2 x0 x1 x2 x3 x4 x5), vi (q0_3 x0 x1 x2 x3 x4 x5), vi (q0_4 x0 x1 x2 x3 x4 x5), vi (q0_5 x0 x1 x2 x3 x4 x5), vr a21, vr a22, vr a41, vj ((f11 s58) - (q0_2 x0 x1 x2 x3 x4 x5).toInt64), s2, us]) rfl (Nat.le_of_eq rfl) (by decide) (by decide) (by decide) (by decide)
    obtain ⟨rfl, M98, K98, H98_0, H98_1, H98_2, H98_3, H98_4, H98_5⟩ := Q98
    have N98 := Fr.app N82 M98
    have zz98 : n0 ≤ T98.heap.size := Nat.le_trans zz82 K98.1
    refine c98 ?_
    show OG p.tables e below _ (T98.setTop (mkF m 251 #[vi x0, vi x1, vj x2, s2, vj x3, s2, vj x4, s2, vi x5, vi 1, vi (q0_2 x0 x1 x2 x3 x4 x5), vi (q0_3 x0 x1 x2 x3 x4 x5), vi (q0_4 x0 x1 x2 x3 x4 x5), vi (q0_5 x0 x1 x2 x3 x4 x5), vr a21, vr a22, vr a41, vj ((f11 s58) - (q0_2 x0 x1 x2 x3 x4 x5).toInt64), s2, us] [(.ref a61)]))
    refine o_astore B98 251 253 (l' := #[vi x0, vi x1, vj x2, s2, vj x3, s2, vj x4, s2, vi x5, vi 1, vi (q0_2 x0 x1 x2 x3 x4 x5), vi (q0_3 x0 x1 x2 x3 x4 x5), vi (q0_4 x0 x1 x2 x3 x4 x5), vi (q0_5 x0 x1 x2 x3 x4 x5), vr a21, vr a22, vr a41, vj ((f11 s58) - (q0_2 x0 x1 x2 x3 x4 x5).toInt64), s2, vr a61]) at_251 rfl rfl rfl ?_
    refine o_aload B98 253 255 (v := (.ref a61)) at_253 rfl rfl rfl ?_
    have F99 := (F85.keep K98)
    obtain ⟨T100, B100, c100⟩ := o_callVP B98 255 258 at_255 rfl (hw _ (mi 106 rfl)) (hw _ (mi 107 rfl)) (hw _ (mi 109 rfl)) (hw _ (mi 108 rfl)) (hw _ (mi 36 rfl)) (hw _ (mi 110 rfl)) (by decide) F99 (rm17 l Z a0 hw a61 (1 : Int32) ((w0_13 x0 x1 x2 x3 x4 x5) 0) (q0_5 x0 x1 x2 x3 x4 x5) (0 : Int32) ((((q0_2 x0 x1 x2 x3 x4 x5).toInt64 + (5 : Int64)) + ((0 : Int64) * ((0 : Int32) + (f15 g58 (q0_2 x0 x1 x2 x3 x4 x5).toInt64 (5 : Int32))).toInt64)) + (f15 g58 (q0_2 x0 x1 x2 x3 x4 x5).toInt64 (5 : Int32)).toInt64) ((q0_2 x0 x1 x2 x3 x4 x5).toInt64 + (5 : Int64)) T98.heap H98_0 H98_1 H98_2 H98_3 H98_4 H98_5) 0 [] [] pd___J rfl rfl (st := [(.ref a61)]) rfl (Ls := #[vi x0, vi x1, vj x2, s2, vj x3, s2, vj x4, s2, vi x5, vi 1, vi (q0_2 x0 x1 x2 x3 x4 x5), vi (q0_3 x0 x1 x2 x3 x4 x5), vi (q0_4 x0 x1 x2 x3 x4 x5), vi (q0_5 x0 x1 x2 x3 x4 x5), vr a21, vr a22, vr a41, vj ((f11 s58) - (q0_2 x0 x1 x2 x3 x4 x5).toInt64), s2, vr a61]) rfl (Nat.le_of_eq rfl) (by decide) (by decide) (by decide) (by decide)
    refine c100 ?_
    refine o_lload B100 258 260 (v := ((f11 s58) - (q0_2 x0 x1 x2 x3 x4 x5).toInt64)) at_258 rfl rfl ?_
    refine o_lcmp B100 260 261 at_260 rfl ?_
    have hfin : (f17 (1 : Int32) ((w0_13 x0 x1 x2 x3 x4 x5) 0) (q0_5 x0 x1 x2 x3 x4 x5) (0 : Int32) ((((q0_2 x0 x1 x2 x3 x4 x5).toInt64 + (5 : Int64)) + ((0 : Int64) * ((0 : Int32) + (f15 g58 (q0_2 x0 x1 x2 x3 x4 x5).toInt64 (5 : Int32))).toInt64)) + (f15 g58 (q0_2 x0 x1 x2 x3 x4 x5).toInt64 (5 : Int32)).toInt64) ((q0_2 x0 x1 x2 x3 x4 x5).toInt64 + (5 : Int64))) = ((f11 s58) - (q0_2 x0 x1 x2 x3 x4 x5).toInt64) := own_end1 (w0_13 x0 x1 x2 x3 x4 x5) (w0_23 x0 x1 x2 x3 x4 x5) (q0_5 x0 x1 x2 x3 x4 x5) (q0_2 x0 x1 x2 x3 x4 x5) g54 g58 s54 s58 x5.toInt64 (own_pre x0 x1 x2 x3 x4 x5) tA PA hBd tB PB
    refine o_ifN B100 261 264 at_261 rfl (XT.ll_ne_f hfin) ?_
    refine o_iconst B100 264 265 (1 : Int32) at_264 rfl (by decide) ?_
    refine o_goto B100 265 269 at_265 (by decide) (by decide) ?_
    refine o_retZ (t := .boolean) B100 269 at_269 hret hlk (by simp) (by decide) (by decide) ⟨(congrArg (fun z => some (Value.int z)) ((show nar .boolean (1 : Int32) = (1 : Int32) from rfl).trans (show f0 x0 x1 x2 x3 x4 x5 = (1 : Int32) from (if_pos k1).trans (rfl)).symm)), N98⟩
  · by_cases k2 : (q0_1 x0 x1 x2 x3 x4 x5) = (2 : Int32)
    · rw [k2]
      obtain ⟨a101, T101, h101, z101, B101, E101, X101, D101, c101⟩ := o_new B40 178 181 at_178 rfl (hw _ (mi 11 rfl)) (hw _ (mi 12 rfl)) (hw _ (mi 13 rfl)) (by decide) (by decide) (Ls := #[vi x0, vi x1, vj x2, s2, vj x3, s2, vj x4, s2, vi x5, vi 2, vi (q0_2 x0 x1 x2 x3 x4 x5), vi (q0_3 x0 x1 x2 x3 x4 x5), vi (q0_4 x0 x1 x2 x3 x4 x5), vi (q0_5 x0 x1 x2 x3 x4 x5), vr a21, vr a22, us, us, us, us]) (rest := [])
      have F102 := ((((A31.other W33 (Nat.ne_of_lt lt23)).other W36 (Nat.ne_of_lt lt23)).other W38 (Nat.ne_of_lt lt23)).other W40 (Nat.ne_of_lt lt23))
      have lt103 : (a21 : Nat) < a101 := by rw [z101]; exact F102.lt
      have lt104 : (a22 : Nat) < a101 := by rw [z101]; exact A40.lt
      have g101 : n0 ≤ a101 := by rw [z101]; exact (W40.size ▸ (W38.size ▸ (W36.size ▸ (W33.size ▸ (W31.size ▸ (W29.size ▸ (W27.size ▸ (W24.size ▸ s22))))))))
      have s101 : n0 ≤ h101.size := Nat.le_trans (W40.size ▸ (W38.size ▸ (W36.size ▸ (W33.size ▸ (W31.size ▸ (W29.size ▸ (W27.size ▸ (W24.size ▸ s22)))))))) E101.1
      have F105 : Fld Z h101 a101 "com/example/micro_ranker/microranker/engine/BitWriter" "words" "[J" .null := D101 (Or.inl (hw _ (mi 22 rfl))) (ty := (.array .long)) (by decide)
      have F106 : Fld Z h101 a101 "com/example/micro_ranker/microranker/engine/BitWriter" "size" "J" (.long (0 : Int64)) := D101 (Or.inl (hw _ (mi 29 rfl))) (ty := .long) (by decide)
      refine c101 ?_
      refine o_dup B101 181 182 at_181 rfl rfl ?_
      have F107 := (F102.ext E101)
      have F108 := (A40.ext E101)
      obtain ⟨v109, T109, L109, B109, Q109, c109⟩ := o_callN B101 182 185 at_182 rfl rfl (hw _ (mi 14 rfl)) (hw _ (mi 15 rfl)) (hw _ (mi 13 rfl)) (hw _ (mi 16 rfl)) (by decide) (rm3 l Z a0 hw a101 h101 n0 s101 g101 X101 F105 F106) 1 [] [(.ref a101)] pd___V rfl rfl (st := [(.ref a101), (.ref a101)]) rfl (Ls := #[vi x0, vi x1, vj x2, s2, vj x3, s2, vj x4, s2, vi x5, vi 2, vi (q0_2 x0 x1 x2 x3 x4 x5), vi (q0_3 x0 x1 x2 x3 x4 x5), vi (q0_4 x0 x1 x2 x3 x4 x5), vi (q0_5 x0 x1 x2 x3 x4 x5), vr a21, vr a22, us, us, us, us]) rfl (Nat.le_of_eq rfl) (by decide) (by decide) (by decide) (by decide)
      obtain ⟨rfl, M109, K109, yw109, gy109, zy109, H109_1, H109_2, J109⟩ := Q109
      have N109 := Fr.app N40 M109
      have zz109 : n0 ≤ T109.heap.size := Nat.le_trans s101 K109.1
      have lt110 : (a21 : Nat) < yw109 := Nat.lt_of_lt_of_le F107.lt zy109
      have lt111 : (a22 : Nat) < yw109 := Nat.lt_of_lt_of_le F108.lt zy109
      have lt112 : (a101 : Nat) < yw109 := Nat.lt_of_lt_of_le X101.lt zy109
      refine c109 ?_
      show OG p.tables e below _ (T109.setTop (mkF m 185 #[vi x0, vi x1, vj x2, s2, vj x3, s2, vj x4, s2, vi x5, vi 2, vi (q0_2 x0 x1 x2 x3 x4 x5), vi (q0_3 x0 x1 x2 x3 x4 x5), vi (q0_4 x0 x1 x2 x3 x4 x5), vi (q0_5 x0 x1 x2 x3 x4 x5), vr a21, vr a22, us, us, us, us] [(.ref a101)]))
      refine o_astore B109 185 187 (l' := #[vi x0, vi x1, vj x2, s2, vj x3, s2, vj x4, s2, vi x5, vi 2, vi (q0_2 x0 x1 x2 x3 x4 x5), vi (q0_3 x0 x1 x2 x3 x4 x5), vi (q0_4 x0 x1 x2 x3 x4 x5), vi (q0_5 x0 x1 x2 x3 x4 x5), vr a21, vr a22, vr a101, us, us, us]) at_185 rfl rfl rfl ?_
      refine o_aload B109 187 189 (v := (.ref a101)) at_187 rfl rfl rfl ?_
      refine o_iload B109 189 191 (v := x5) at_189 rfl rfl ?_
      refine o_i2l B109 191 192 at_191 rfl ?_
      refine o_iload B109 192 194 (v := (q0_2 x0 x1 x2 x3 x4 x5)) at_192 rfl rfl ?_
      have F113 := (X101.keep K109)
      obtain ⟨v114, T114, L114, B114, Q114, c114⟩ := o_callV B109 194 197 at_194 rfl (hw _ (mi 23 rfl)) (hw _ (mi 24 rfl)) (hw _ (mi 26 rfl)) (hw _ (mi 25 rfl)) (hw _ (mi 13 rfl)) (hw _ (mi 27 rfl)) (by decide) F113 (rm5 l Z a0 hw a101 yw109 own_zJ (0 : Int64) x5.toInt64 (q0_2 x0 x1 x2 x3 x4 x5) T109.heap n0 zz109 g101 gy109 F113 H109_1 H109_2 J109 (Nat.ne_of_lt lt112) (own_hw0 x0 x1 x2 x3 x4 x5)) 0 [(.long x5.toInt64), (.int (q0_2 x0 x1 x2 x3 x4 x5))] [] pd__JI_V rfl rfl (st := [(.int (q0_2 x0 x1 x2 x3 x4 x5)), (.long x5.toInt64), (.ref a101)]) rfl (Ls := #[vi x0, vi x1, vj x2, s2, vj x3, s2, vj x4, s2, vi x5, vi 2, vi (q0_2 x0 x1 x2 x3 x4 x5), vi (q0_3 x0 x1 x2 x3 x4 x5), vi (q0_4 x0 x1 x2 x3 x4 x5), vi (q0_5 x0 x1 x2 x3 x4 x5), vr a21, vr a22, vr a101, us, us, us]) rfl (Nat.le_of_eq rfl) (by decide) (by decide) (by decide) (by decide)
      obtain ⟨rfl, M114, K114, g114, s114, H114_1, H114_2, J114, ⟨tA, PA⟩⟩ := Q114
      have N114 := Fr.app N109 M114
      have zz114 : n0 ≤ T114.heap.size := Nat.le_trans zz109 K114.1
      refine c114 ?_
      show OG p.tables e below _ (T114.setTop (mkF m 197 #[vi x0, vi x1, vj x2, s2, vj x3, s2, vj x4, s2, vi x5, vi 2, vi (q0_2 x0 x1 x2 x3 x4 x5), vi (q0_3 x0 x1 x2 x3 x4 x5), vi (q0_4 x0 x1 x2 x3 x4 x5), vi (q0_5 x0 x1 x2 x3 x4 x5), vr a21, vr a22, vr a101, us, us, us] []))
      refine o_aload B114 197 199 (v := (.ref a101)) at_197 rfl rfl rfl ?_
      refine o_aload B114 199 201 (v := (.ref a21)) at_199 rfl rfl rfl ?_
      refine o_aload B114 201 203 (v := (.ref a22)) at_201 rfl rfl rfl ?_
      refine o_iconst B114 203 204 (0 : Int32) at_203 rfl (by decide) ?_
      refine o_iload B114 204 206 (v := (2 : Int32)) at_204 rfl rfl ?_
      refine o_iload B114 206 208 (v := (q0_5 x0 x1 x2 x3 x4 x5)) at_206 rfl rfl ?_
      have F115 := (F113.keep K114)
      have F116 := ((F107.keep K109 (ninS (Nat.ne_of_lt lt103) nin0)).keep K114 (ninS (Nat.ne_of_lt lt103) (ninS (Nat.ne_of_lt lt110) nin0)))
      have F117 := ((F108.keep K109 (ninS (Nat.ne_of_lt lt104) nin0)).keep K114 (ninS (Nat.ne_of_lt lt104) (ninS (Nat.ne_of_lt lt111) nin0)))
      have hBd : Bd (w0_13 x0 x1 x2 x3 x4 x5) (w0_23 x0 x1 x2 x3 x4 x5) (q0_5 x0 x1 x2 x3 x4 x5) s114 := own_bd x0 x1 x2 x3 x4 x5 s114 tA
      obtain ⟨v118, T118, L118, B118, Q118, c118⟩ := o_callS B114 208 211 at_208 rfl (hw _ (mi 34 rfl)) (hw _ (mi 35 rfl)) (hw _ (mi 36 rfl)) (hw _ (mi 37 rfl)) (by decide) (rm7_2 l Z a0 hw a101 a21 a22 yw109 (w0_13 x0 x1 x2 x3 x4 x5) (w0_23 x0 x1 x2 x3 x4 x5) g114 s114 (q0_5 x0 x1 x2 x3 x4 x5) T114.heap n0 zz114 g101 gy109 F115 H114_1 H114_2 F116 F117 J114 (Nat.ne_of_lt lt112) (Nat.ne_of_lt lt110) (Nat.ne_of_lt lt111) (Ne.symm (Nat.ne_of_lt lt103)) (Ne.symm (Nat.ne_of_lt lt104)) hBd) 0 [(.ref a101), (.ref a21), (.ref a22), (.int (0 : Int32)), (.int (2 : Int32)), (.int (q0_5 x0 x1 x2 x3 x4 x5))] [] pd__Lcom_example_micro_ranker_microranker_engine_BitWriter__I_IIII_V rfl rfl (st := [(.int (q0_5 x0 x1 x2 x3 x4 x5)), (.int (2 : Int32)), (.int (0 : Int32)), (.ref a22), (.ref a21), (.ref a101)]) rfl (Ls := #[vi x0, vi x1, vj x2, s2, vj x3, s2, vj x4, s2, vi x5, vi 2, vi (q0_2 x0 x1 x2 x3 x4 x5), vi (q0_3 x0 x1 x2 x3 x4 x5), vi (q0_4 x0 x1 x2 x3 x4 x5), vi (q0_5 x0 x1 x2 x3 x4 x5), vr a21, vr a22, vr a101, us, us, us]) rfl (Nat.le_of_eq rfl) (by decide) (by decide) (by decide) (by decide)
      obtain ⟨rfl, M118, K118, g118, s118, H118_1, H118_2, J118, tB, PB⟩ := Q118
      have N118 := Fr.app N114 M118
      have zz118 : n0 ≤ T118.heap.size := Nat.le_trans zz114 K118.1
      refine c118 ?_
      show OG p.tables e below _ (T118.setTop (mkF m 211 #[vi x0, vi x1, vj x2, s2, vj x3, s2, vj x4, s2, vi x5, vi 2, vi (q0_2 x0 x1 x2 x3 x4 x5), vi (q0_3 x0 x1 x2 x3 x4 x5), vi (q0_4 x0 x1 x2 x3 x4 x5), vi (q0_5 x0 x1 x2 x3 x4 x5), vr a21, vr a22, vr a101, us, us, us] []))
      refine o_aload B118 211 213 (v := (.ref a101)) at_211 rfl rfl rfl ?_
      have F119 := (F115.keep K118)
      obtain ⟨T120, B120, c120⟩ := o_callVP B118 213 216 at_213 rfl (hw _ (mi 55 rfl)) (hw _ (mi 56 rfl)) (hw _ (mi 58 rfl)) (hw _ (mi 57 rfl)) (hw _ (mi 13 rfl)) (hw _ (mi 59 rfl)) (by decide) F119 (rm11 l Z a0 hw a101 s118 T118.heap H118_2) 0 [] [] pd___J rfl rfl (st := [(.ref a101)]) rfl (Ls := #[vi x0, vi x1, vj x2, s2, vj x3, s2, vj x4, s2, vi x5, vi 2, vi (q0_2 x0 x1 x2 x3 x4 x5), vi (q0_3 x0 x1 x2 x3 x4 x5), vi (q0_4 x0 x1 x2 x3 x4 x5), vi (q0_5 x0 x1 x2 x3 x4 x5), vr a21, vr a22, vr a101, us, us, us]) rfl (Nat.le_of_eq rfl) (by decide) (by decide) (by decide) (by decide)
      refine c120 ?_
      refine o_iload B120 216 218 (v := (q0_2 x0 x1 x2 x3 x4 x5)) at_216 rfl rfl ?_
      refine o_i2l B120 218 219 at_218 rfl ?_
      refine o_lsub B120 219 220 at_219 rfl ?_
      refine o_lstore B120 220 222 (l' := #[vi x0, vi x1, vj x2, s2, vj x3, s2, vj x4, s2, vi x5, vi 2, vi (q0_2 x0 x1 x2 x3 x4 x5), vi (q0_3 x0 x1 x2 x3 x4 x5), vi (q0_4 x0 x1 x2 x3 x4 x5), vi (q0_5 x0 x1 x2 x3 x4 x5), vr a21, vr a22, vr a101, vj ((f11 s118) - (q0_2 x0 x1 x2 x3 x4 x5).toInt64), s2, us]) at_220 rfl rfl ?_
      obtain ⟨a121, T121, h121, z121, B121, E121, X121, D121, c121⟩ := o_new B120 222 225 at_222 rfl (hw _ (mi 60 rfl)) (hw _ (mi 61 rfl)) (hw _ (mi 36 rfl)) (by decide) (by decide) (Ls := #[vi x0, vi x1, vj x2, s2, vj x3, s2, vj x4, s2, vi x5, vi 2, vi (q0_2 x0 x1 x2 x3 x4 x5), vi (q0_3 x0 x1 x2 x3 x4 x5), vi (q0_4 x0 x1 x2 x3 x4 x5), vi (q0_5 x0 x1 x2 x3 x4 x5), vr a21, vr a22, vr a101, vj ((f11 s118) - (q0_2 x0 x1 x2 x3 x4 x5).toInt64), s2, us]) (rest := [])
      have F122 := (F116.keep K118 (ninS (Nat.ne_of_lt lt103) (ninS (Nat.ne_of_lt lt110) nin0)))
      have lt123 : (a21 : Nat) < a121 := by rw [z121]; exact F122.lt
      have F124 := (F117.keep K118 (ninS (Nat.ne_of_lt lt104) (ninS (Nat.ne_of_lt lt111) nin0)))
      have lt125 : (a22 : Nat) < a121 := by rw [z121]; exact F124.lt
      have lt126 : (a101 : Nat) < a121 := by rw [z121]; exact F119.lt
      have lt127 : (yw109 : Nat) < a121 := by rw [z121]; exact J118.lt
      have g121 : n0 ≤ a121 := by rw [z121]; exact zz118
      have s121 : n0 ≤ h121.size := Nat.le_trans zz118 E121.1
      have F128 : Fld Z h121 a121 "com/example/micro_ranker/microranker/engine/Block" "words" "[J" .null := D121 (Or.inl (hw _ (mi 77 rfl))) (ty := (.array .long)) (by decide)
      have F129 : Fld Z h121 a121 "com/example/micro_ranker/microranker/engine/Block" "count" "I" (.int (0 : Int32)) := D121 (Or.inl (hw _ (mi 79 rfl))) (ty := .int) (by decide)
      have F130 : Fld Z h121 a121 "com/example/micro_ranker/microranker/engine/Block" "base" "I" (.int (0 : Int32)) := D121 (Or.inl (hw _ (mi 81 rfl))) (ty := .int) (by decide)
      have F131 : Fld Z h121 a121 "com/example/micro_ranker/microranker/engine/Block" "last" "I" (.int (0 : Int32)) := D121 (Or.inl (hw _ (mi 83 rfl))) (ty := .int) (by decide)
      have F132 : Fld Z h121 a121 "com/example/micro_ranker/microranker/engine/Block" "frequencyWidth" "I" (.int (0 : Int32)) := D121 (Or.inl (hw _ (mi 92 rfl))) (ty := .int) (by decide)
      have F133 : Fld Z h121 a121 "com/example/micro_ranker/microranker/engine/Block" "lowWidth" "I" (.int (0 : Int32)) := D121 (Or.inl (hw _ (mi 94 rfl))) (ty := .int) (by decide)
      have F134 : Fld Z h121 a121 "com/example/micro_ranker/microranker/engine/Block" "entries" "J" (.long (0 : Int64)) := D121 (Or.inl (hw _ (mi 97 rfl))) (ty := .long) (by decide)
      have F135 : Fld Z h121 a121 "com/example/micro_ranker/microranker/engine/Block" "highs" "J" (.long (0 : Int64)) := D121 (Or.inl (hw _ (mi 99 rfl))) (ty := .long) (by decide)
      have F136 : Fld Z h121 a121 "com/example/micro_ranker/microranker/engine/Block" "entry" "I" (.int (0 : Int32)) := D121 (Or.inl (hw _ (mi 101 rfl))) (ty := .int) (by decide)
      have F137 : Fld Z h121 a121 "com/example/micro_ranker/microranker/engine/Block" "position" "J" (.long (0 : Int64)) := D121 (Or.inl (hw _ (mi 103 rfl))) (ty := .long) (by decide)
      have F138 : Fld Z h121 a121 "com/example/micro_ranker/microranker/engine/Block" "document" "I" (.int (0 : Int32)) := D121 (Or.inl (hw _ (mi 105 rfl))) (ty := .int) (by decide)
      refine c121 ?_
      refine o_dup B121 225 226 at_225 rfl rfl ?_
      obtain ⟨v139, T139, L139, B139, Q139, c139⟩ := o_callN B121 226 229 at_226 rfl rfl (hw _ (mi 62 rfl)) (hw _ (mi 63 rfl)) (hw _ (mi 36 rfl)) (hw _ (mi 64 rfl)) (by decide) (rm12 l Z a0 hw a121  h121 n0 s121 g121 X121 F128 F129 F130 F131 F132 F133 F134 F135 F136 F137 F138) 1 [] [(.ref a121)] pd___V rfl rfl (st := [(.ref a121), (.ref a121)]) rfl (Ls := #[vi x0, vi x1, vj x2, s2, vj x3, s2, vj x4, s2, vi x5, vi 2, vi (q0_2 x0 x1 x2 x3 x4 x5), vi (q0_3 x0 x1 x2 x3 x4 x5), vi (q0_4 x0 x1 x2 x3 x4 x5), vi (q0_5 x0 x1 x2 x3 x4 x5), vr a21, vr a22, vr a101, vj ((f11 s118) - (q0_2 x0 x1 x2 x3 x4 x5).toInt64), s2, us]) rfl (Nat.le_of_eq rfl) (by decide) (by decide) (by decide) (by decide)
      obtain ⟨rfl, M139, K139, H139_0, H139_1, H139_2, H139_3, H139_4, H139_5, H139_6, H139_7, H139_8, H139_9, H139_10⟩ := Q139
      have N139 := Fr.app N118 M139
      have s139 : n0 ≤ T139.heap.size := Nat.le_trans s121 K139.1
      refine c139 ?_
      show OG p.tables e below _ (T139.setTop (mkF m 229 #[vi x0, vi x1, vj x2, s2, vj x3, s2, vj x4, s2, vi x5, vi 2, vi (q0_2 x0 x1 x2 x3 x4 x5), vi (q0_3 x0 x1 x2 x3 x4 x5), vi (q0_4 x0 x1 x2 x3 x4 x5), vi (q0_5 x0 x1 x2 x3 x4 x5), vr a21, vr a22, vr a101, vj ((f11 s118) - (q0_2 x0 x1 x2 x3 x4 x5).toInt64), s2, us] [(.ref a121)]))
      refine o_aload B139 229 231 (v := (.ref a101)) at_229 rfl rfl rfl ?_
      have F140 := ((Exa.ext E121 F119).keep K139)
      have F141 := ((Fld.ext E121 H118_1).keep K139 (ninS (Nat.ne_of_lt lt126) nin0))
      obtain ⟨v142, T142, L142, B142, Q142, c142⟩ := o_callV B139 231 234 at_231 rfl (hw _ (mi 66 rfl)) (hw _ (mi 67 rfl)) (hw _ (mi 69 rfl)) (hw _ (mi 68 rfl)) (hw _ (mi 13 rfl)) (hw _ (mi 70 rfl)) (by decide) F140 (rm13 l Z a0 hw a101 yw109 T139.heap n0 s139 F140 F141) 1 [] [(.ref a121)] pd____J rfl rfl (st := [(.ref a101), (.ref a121)]) rfl (Ls := #[vi x0, vi x1, vj x2, s2, vj x3, s2, vj x4, s2, vi x5, vi 2, vi (q0_2 x0 x1 x2 x3 x4 x5), vi (q0_3 x0 x1 x2 x3 x4 x5), vi (q0_4 x0 x1 x2 x3 x4 x5), vi (q0_5 x0 x1 x2 x3 x4 x5), vr a21, vr a22, vr a101, vj ((f11 s118) - (q0_2 x0 x1 x2 x3 x4 x5).toInt64), s2, us]) rfl (Nat.le_of_eq rfl) (by decide) (by decide) (by decide) (by decide)
      obtain ⟨rfl, M142, K142, H142⟩ := Q142
      have N142 := Fr.app N139 M142
      have zz142 : n0 ≤ T142.heap.size := Nat.le_trans s139 K142.1
      refine c142 ?_
      show OG p.tables e below _ (T142.setTop (mkF m 234 #[vi x0, vi x1, vj x2, s2, vj x3, s2, vj x4, s2, vi x5, vi 2, vi (q0_2 x0 x1 x2 x3 x4 x5), vi (q0_3 x0 x1 x2 x3 x4 x5), vi (q0_4 x0 x1 x2 x3 x4 x5), vi (q0_5 x0 x1 x2 x3 x4 x5), vr a21, vr a22, vr a101, vj ((f11 s118) - (q0_2 x0 x1 x2 x3 x4 x5).toInt64), s2, us] [(.ref yw109), (.ref a121)]))
      refine o_iload B142 234 236 (v := (q0_2 x0 x1 x2 x3 x4 x5)) at_234 rfl rfl ?_
      refine o_i2l B142 236 237 at_236 rfl ?_
      refine o_iload B142 237 239 (v := (2 : Int32)) at_237 rfl rfl ?_
      refine o_iload B142 239 241 (v := (q0_5 x0 x1 x2 x3 x4 x5)) at_239 rfl rfl ?_
      refine o_aload B142 241 243 (v := (.ref a21)) at_241 rfl rfl rfl ?_
      refine o_iload B142 243 245 (v := (2 : Int32)) at_243 rfl rfl ?_
      refine o_iconst B142 245 246 (1 : Int32) at_245 rfl (by decide) ?_
      refine o_isub B142 246 247 at_246 rfl ?_
      refine o_topI (show ((2 : Int32) - (1 : Int32)) = (1 : Int32) by decide) ?_
      have F144 := (((F122.ext E121).keep K139 (ninS (Nat.ne_of_lt lt123) nin0)).keep K142 nin0)
      refine o_iaload B142 247 248 F144 1 ((w0_13 x0 x1 x2 x3 x4 x5) 1) at_247 rfl (by decide) (by decide) (by decide) rfl ?_
      have F145 := ((X121.keep K139).keep K142)
      have F146 := (H139_0.keep K142 nin0)
      have F147 := (H139_1.keep K142 nin0)
      have F148 := (H139_2.keep K142 nin0)
      have F149 := (H139_3.keep K142 nin0)
      have F150 := (H139_4.keep K142 nin0)
      have F151 := (H139_5.keep K142 nin0)
      have F152 := (H139_6.keep K142 nin0)
      have F153 := (H139_7.keep K142 nin0)
      have F154 := (H139_8.keep K142 nin0)
      have F155 := (H139_9.keep K142 nin0)
      have F156 := (H139_10.keep K142 nin0)
      have F157 := (((J118.ext E121).keep K139 (ninS (Nat.ne_of_lt lt127) nin0)).keep K142 nin0)
      obtain ⟨v158, T158, L158, B158, Q158, c158⟩ := o_callV B142 248 251 at_248 rfl (hw _ (mi 71 rfl)) (hw _ (mi 72 rfl)) (hw _ (mi 74 rfl)) (hw _ (mi 73 rfl)) (hw _ (mi 36 rfl)) (hw _ (mi 75 rfl)) (by decide) F145 (rm14_2 l Z a0 hw a121 yw109 g118 (q0_2 x0 x1 x2 x3 x4 x5).toInt64 (q0_5 x0 x1 x2 x3 x4 x5) ((w0_13 x0 x1 x2 x3 x4 x5) 1) T142.heap n0 zz142 g121 F145 F146 F147 F148 F149 F150 F151 F152 F153 F154 F155 F156 F157 (Ne.symm (Nat.ne_of_lt lt127)) (own_pre64 x0 x1 x2 x3 x4 x5)) 0 [(.ref yw109), (.long (q0_2 x0 x1 x2 x3 x4 x5).toInt64), (.int (2 : Int32)), (.int (q0_5 x0 x1 x2 x3 x4 x5)), (.int ((w0_13 x0 x1 x2 x3 x4 x5) 1))] [] pd___JJIII_Lcom_example_micro_ranker_microranker_engine_Block_ rfl rfl (st := [(.int ((w0_13 x0 x1 x2 x3 x4 x5) 1)), (.int (q0_5 x0 x1 x2 x3 x4 x5)), (.int (2 : Int32)), (.long (q0_2 x0 x1 x2 x3 x4 x5).toInt64), (.ref yw109), (.ref a121)]) rfl (Ls := #[vi x0, vi x1, vj x2, s2, vj x3, s2, vj x4, s2, vi x5, vi 2, vi (q0_2 x0 x1 x2 x3 x4 x5), vi (q0_3 x0 x1 x2 x3 x4 x5), vi (q0_4 x0 x1 x2 x3 x4 x5), vi (q0_5 x0 x1 x2 x3 x4 x5), vr a21, vr a22, vr a101, vj ((f11 s118) - (q0_2 x0 x1 x2 x3 x4 x5).toInt64), s2, us]) rfl (Nat.le_of_eq rfl) (by decide) (by decide) (by decide) (by decide)
      obtain ⟨rfl, M158, K158, H158_0, H158_1, H158_2, H158_3, H158_4, H158_5⟩ := Q158
      have N158 := Fr.app N142 M158
      have zz158 : n0 ≤ T158.heap.size := Nat.le_trans zz142 K158.1
      refine c158 ?_
      show OG p.tables e below _ (T158.setTop (mkF m 251 #[vi x0, vi x1, vj x2, s2, vj x3, s2, vj x4, s2, vi x5, vi 2, vi (q0_2 x0 x1 x2 x3 x4 x5), vi (q0_3 x0 x1 x2 x3 x4 x5), vi (q0_4 x0 x1 x2 x3 x4 x5), vi (q0_5 x0 x1 x2 x3 x4 x5), vr a21, vr a22, vr a101, vj ((f11 s118) - (q0_2 x0 x1 x2 x3 x4 x5).toInt64), s2, us] [(.ref a121)]))
      refine o_astore B158 251 253 (l' := #[vi x0, vi x1, vj x2, s2, vj x3, s2, vj x4, s2, vi x5, vi 2, vi (q0_2 x0 x1 x2 x3 x4 x5), vi (q0_3 x0 x1 x2 x3 x4 x5), vi (q0_4 x0 x1 x2 x3 x4 x5), vi (q0_5 x0 x1 x2 x3 x4 x5), vr a21, vr a22, vr a101, vj ((f11 s118) - (q0_2 x0 x1 x2 x3 x4 x5).toInt64), s2, vr a121]) at_251 rfl rfl rfl ?_
      refine o_aload B158 253 255 (v := (.ref a121)) at_253 rfl rfl rfl ?_
      have F159 := (F145.keep K158)
      obtain ⟨T160, B160, c160⟩ := o_callVP B158 255 258 at_255 rfl (hw _ (mi 106 rfl)) (hw _ (mi 107 rfl)) (hw _ (mi 109 rfl)) (hw _ (mi 108 rfl)) (hw _ (mi 36 rfl)) (hw _ (mi 110 rfl)) (by decide) F159 (rm17 l Z a0 hw a121 (2 : Int32) ((w0_13 x0 x1 x2 x3 x4 x5) 1) (q0_5 x0 x1 x2 x3 x4 x5) (f18 (((w0_13 x0 x1 x2 x3 x4 x5) 1) - (q0_5 x0 x1 x2 x3 x4 x5)) (1 : Int32)) ((((q0_2 x0 x1 x2 x3 x4 x5).toInt64 + (5 : Int64)) + ((1 : Int64) * ((f18 (((w0_13 x0 x1 x2 x3 x4 x5) 1) - (q0_5 x0 x1 x2 x3 x4 x5)) (1 : Int32)) + (f15 g118 (q0_2 x0 x1 x2 x3 x4 x5).toInt64 (5 : Int32))).toInt64)) + (f15 g118 (q0_2 x0 x1 x2 x3 x4 x5).toInt64 (5 : Int32)).toInt64) ((q0_2 x0 x1 x2 x3 x4 x5).toInt64 + (5 : Int64)) T158.heap H158_0 H158_1 H158_2 H158_3 H158_4 H158_5) 0 [] [] pd___J rfl rfl (st := [(.ref a121)]) rfl (Ls := #[vi x0, vi x1, vj x2, s2, vj x3, s2, vj x4, s2, vi x5, vi 2, vi (q0_2 x0 x1 x2 x3 x4 x5), vi (q0_3 x0 x1 x2 x3 x4 x5), vi (q0_4 x0 x1 x2 x3 x4 x5), vi (q0_5 x0 x1 x2 x3 x4 x5), vr a21, vr a22, vr a101, vj ((f11 s118) - (q0_2 x0 x1 x2 x3 x4 x5).toInt64), s2, vr a121]) rfl (Nat.le_of_eq rfl) (by decide) (by decide) (by decide) (by decide)
      refine c160 ?_
      refine o_lload B160 258 260 (v := ((f11 s118) - (q0_2 x0 x1 x2 x3 x4 x5).toInt64)) at_258 rfl rfl ?_
      refine o_lcmp B160 260 261 at_260 rfl ?_
      have hfin : (f17 (2 : Int32) ((w0_13 x0 x1 x2 x3 x4 x5) 1) (q0_5 x0 x1 x2 x3 x4 x5) (f18 (((w0_13 x0 x1 x2 x3 x4 x5) 1) - (q0_5 x0 x1 x2 x3 x4 x5)) (1 : Int32)) ((((q0_2 x0 x1 x2 x3 x4 x5).toInt64 + (5 : Int64)) + ((1 : Int64) * ((f18 (((w0_13 x0 x1 x2 x3 x4 x5) 1) - (q0_5 x0 x1 x2 x3 x4 x5)) (1 : Int32)) + (f15 g118 (q0_2 x0 x1 x2 x3 x4 x5).toInt64 (5 : Int32))).toInt64)) + (f15 g118 (q0_2 x0 x1 x2 x3 x4 x5).toInt64 (5 : Int32)).toInt64) ((q0_2 x0 x1 x2 x3 x4 x5).toInt64 + (5 : Int64))) = ((f11 s118) - (q0_2 x0 x1 x2 x3 x4 x5).toInt64) := own_end2 (w0_13 x0 x1 x2 x3 x4 x5) (w0_23 x0 x1 x2 x3 x4 x5) (q0_5 x0 x1 x2 x3 x4 x5) (q0_2 x0 x1 x2 x3 x4 x5) g114 g118 s114 s118 x5.toInt64 (own_pre x0 x1 x2 x3 x4 x5) tA PA hBd tB PB
      refine o_ifN B160 261 264 at_261 rfl (XT.ll_ne_f hfin) ?_
      refine o_iconst B160 264 265 (1 : Int32) at_264 rfl (by decide) ?_
      refine o_goto B160 265 269 at_265 (by decide) (by decide) ?_
      refine o_retZ (t := .boolean) B160 269 at_269 hret hlk (by simp) (by decide) (by decide) ⟨(congrArg (fun z => some (Value.int z)) ((show nar .boolean (1 : Int32) = (1 : Int32) from rfl).trans (show f0 x0 x1 x2 x3 x4 x5 = (1 : Int32) from (if_neg k1).trans ((if_pos k2).trans (rfl))).symm)), N158⟩
    · by_cases k3 : (q0_1 x0 x1 x2 x3 x4 x5) = (3 : Int32)
      · rw [k3]
        obtain ⟨a161, T161, h161, z161, B161, E161, X161, D161, c161⟩ := o_new B40 178 181 at_178 rfl (hw _ (mi 11 rfl)) (hw _ (mi 12 rfl)) (hw _ (mi 13 rfl)) (by decide) (by decide) (Ls := #[vi x0, vi x1, vj x2, s2, vj x3, s2, vj x4, s2, vi x5, vi 3, vi (q0_2 x0 x1 x2 x3 x4 x5), vi (q0_3 x0 x1 x2 x3 x4 x5), vi (q0_4 x0 x1 x2 x3 x4 x5), vi (q0_5 x0 x1 x2 x3 x4 x5), vr a21, vr a22, us, us, us, us]) (rest := [])
        have F162 := ((((A31.other W33 (Nat.ne_of_lt lt23)).other W36 (Nat.ne_of_lt lt23)).other W38 (Nat.ne_of_lt lt23)).other W40 (Nat.ne_of_lt lt23))
        have lt163 : (a21 : Nat) < a161 := by rw [z161]; exact F162.lt
        have lt164 : (a22 : Nat) < a161 := by rw [z161]; exact A40.lt
        have g161 : n0 ≤ a161 := by rw [z161]; exact (W40.size ▸ (W38.size ▸ (W36.size ▸ (W33.size ▸ (W31.size ▸ (W29.size ▸ (W27.size ▸ (W24.size ▸ s22))))))))
        have s161 : n0 ≤ h161.size := Nat.le_trans (W40.size ▸ (W38.size ▸ (W36.size ▸ (W33.size ▸ (W31.size ▸ (W29.size ▸ (W27.size ▸ (W24.size ▸ s22)))))))) E161.1
        have F165 : Fld Z h161 a161 "com/example/micro_ranker/microranker/engine/BitWriter" "words" "[J" .null := D161 (Or.inl (hw _ (mi 22 rfl))) (ty := (.array .long)) (by decide)
        have F166 : Fld Z h161 a161 "com/example/micro_ranker/microranker/engine/BitWriter" "size" "J" (.long (0 : Int64)) := D161 (Or.inl (hw _ (mi 29 rfl))) (ty := .long) (by decide)
        refine c161 ?_
        refine o_dup B161 181 182 at_181 rfl rfl ?_
        have F167 := (F162.ext E161)
        have F168 := (A40.ext E161)
        obtain ⟨v169, T169, L169, B169, Q169, c169⟩ := o_callN B161 182 185 at_182 rfl rfl (hw _ (mi 14 rfl)) (hw _ (mi 15 rfl)) (hw _ (mi 13 rfl)) (hw _ (mi 16 rfl)) (by decide) (rm3 l Z a0 hw a161 h161 n0 s161 g161 X161 F165 F166) 1 [] [(.ref a161)] pd___V rfl rfl (st := [(.ref a161), (.ref a161)]) rfl (Ls := #[vi x0, vi x1, vj x2, s2, vj x3, s2, vj x4, s2, vi x5, vi 3, vi (q0_2 x0 x1 x2 x3 x4 x5), vi (q0_3 x0 x1 x2 x3 x4 x5), vi (q0_4 x0 x1 x2 x3 x4 x5), vi (q0_5 x0 x1 x2 x3 x4 x5), vr a21, vr a22, us, us, us, us]) rfl (Nat.le_of_eq rfl) (by decide) (by decide) (by decide) (by decide)
        obtain ⟨rfl, M169, K169, yw169, gy169, zy169, H169_1, H169_2, J169⟩ := Q169
        have N169 := Fr.app N40 M169
        have zz169 : n0 ≤ T169.heap.size := Nat.le_trans s161 K169.1
        have lt170 : (a21 : Nat) < yw169 := Nat.lt_of_lt_of_le F167.lt zy169
        have lt171 : (a22 : Nat) < yw169 := Nat.lt_of_lt_of_le F168.lt zy169
        have lt172 : (a161 : Nat) < yw169 := Nat.lt_of_lt_of_le X161.lt zy169
        refine c169 ?_
        show OG p.tables e below _ (T169.setTop (mkF m 185 #[vi x0, vi x1, vj x2, s2, vj x3, s2, vj x4, s2, vi x5, vi 3, vi (q0_2 x0 x1 x2 x3 x4 x5), vi (q0_3 x0 x1 x2 x3 x4 x5), vi (q0_4 x0 x1 x2 x3 x4 x5), vi (q0_5 x0 x1 x2 x3 x4 x5), vr a21, vr a22, us, us, us, us] [(.ref a161)]))
        refine o_astore B169 185 187 (l' := #[vi x0, vi x1, vj x2, s2, vj x3, s2, vj x4, s2, vi x5, vi 3, vi (q0_2 x0 x1 x2 x3 x4 x5), vi (q0_3 x0 x1 x2 x3 x4 x5), vi (q0_4 x0 x1 x2 x3 x4 x5), vi (q0_5 x0 x1 x2 x3 x4 x5), vr a21, vr a22, vr a161, us, us, us]) at_185 rfl rfl rfl ?_
        refine o_aload B169 187 189 (v := (.ref a161)) at_187 rfl rfl rfl ?_
        refine o_iload B169 189 191 (v := x5) at_189 rfl rfl ?_
        refine o_i2l B169 191 192 at_191 rfl ?_
        refine o_iload B169 192 194 (v := (q0_2 x0 x1 x2 x3 x4 x5)) at_192 rfl rfl ?_
        have F173 := (X161.keep K169)
        obtain ⟨v174, T174, L174, B174, Q174, c174⟩ := o_callV B169 194 197 at_194 rfl (hw _ (mi 23 rfl)) (hw _ (mi 24 rfl)) (hw _ (mi 26 rfl)) (hw _ (mi 25 rfl)) (hw _ (mi 13 rfl)) (hw _ (mi 27 rfl)) (by decide) F173 (rm5 l Z a0 hw a161 yw169 own_zJ (0 : Int64) x5.toInt64 (q0_2 x0 x1 x2 x3 x4 x5) T169.heap n0 zz169 g161 gy169 F173 H169_1 H169_2 J169 (Nat.ne_of_lt lt172) (own_hw0 x0 x1 x2 x3 x4 x5)) 0 [(.long x5.toInt64), (.int (q0_2 x0 x1 x2 x3 x4 x5))] [] pd__JI_V rfl rfl (st := [(.int (q0_2 x0 x1 x2 x3 x4 x5)), (.long x5.toInt64), (.ref a161)]) rfl (Ls := #[vi x0, vi x1, vj x2, s2, vj x3, s2, vj x4, s2, vi x5, vi 3, vi (q0_2 x0 x1 x2 x3 x4 x5), vi (q0_3 x0 x1 x2 x3 x4 x5), vi (q0_4 x0 x1 x2 x3 x4 x5), vi (q0_5 x0 x1 x2 x3 x4 x5), vr a21, vr a22, vr a161, us, us, us]) rfl (Nat.le_of_eq rfl) (by decide) (by decide) (by decide) (by decide)
        obtain ⟨rfl, M174, K174, g174, s174, H174_1, H174_2, J174, ⟨tA, PA⟩⟩ := Q174
        have N174 := Fr.app N169 M174
        have zz174 : n0 ≤ T174.heap.size := Nat.le_trans zz169 K174.1
        refine c174 ?_
        show OG p.tables e below _ (T174.setTop (mkF m 197 #[vi x0, vi x1, vj x2, s2, vj x3, s2, vj x4, s2, vi x5, vi 3, vi (q0_2 x0 x1 x2 x3 x4 x5), vi (q0_3 x0 x1 x2 x3 x4 x5), vi (q0_4 x0 x1 x2 x3 x4 x5), vi (q0_5 x0 x1 x2 x3 x4 x5), vr a21, vr a22, vr a161, us, us, us] []))
        refine o_aload B174 197 199 (v := (.ref a161)) at_197 rfl rfl rfl ?_
        refine o_aload B174 199 201 (v := (.ref a21)) at_199 rfl rfl rfl ?_
        refine o_aload B174 201 203 (v := (.ref a22)) at_201 rfl rfl rfl ?_
        refine o_iconst B174 203 204 (0 : Int32) at_203 rfl (by decide) ?_
        refine o_iload B174 204 206 (v := (3 : Int32)) at_204 rfl rfl ?_
        refine o_iload B174 206 208 (v := (q0_5 x0 x1 x2 x3 x4 x5)) at_206 rfl rfl ?_
        have F175 := (F173.keep K174)
        have F176 := ((F167.keep K169 (ninS (Nat.ne_of_lt lt163) nin0)).keep K174 (ninS (Nat.ne_of_lt lt163) (ninS (Nat.ne_of_lt lt170) nin0)))
        have F177 := ((F168.keep K169 (ninS (Nat.ne_of_lt lt164) nin0)).keep K174 (ninS (Nat.ne_of_lt lt164) (ninS (Nat.ne_of_lt lt171) nin0)))
        have hBd : Bd (w0_13 x0 x1 x2 x3 x4 x5) (w0_23 x0 x1 x2 x3 x4 x5) (q0_5 x0 x1 x2 x3 x4 x5) s174 := own_bd x0 x1 x2 x3 x4 x5 s174 tA
        obtain ⟨v178, T178, L178, B178, Q178, c178⟩ := o_callS B174 208 211 at_208 rfl (hw _ (mi 34 rfl)) (hw _ (mi 35 rfl)) (hw _ (mi 36 rfl)) (hw _ (mi 37 rfl)) (by decide) (rm7_3 l Z a0 hw a161 a21 a22 yw169 (w0_13 x0 x1 x2 x3 x4 x5) (w0_23 x0 x1 x2 x3 x4 x5) g174 s174 (q0_5 x0 x1 x2 x3 x4 x5) T174.heap n0 zz174 g161 gy169 F175 H174_1 H174_2 F176 F177 J174 (Nat.ne_of_lt lt172) (Nat.ne_of_lt lt170) (Nat.ne_of_lt lt171) (Ne.symm (Nat.ne_of_lt lt163)) (Ne.symm (Nat.ne_of_lt lt164)) hBd) 0 [(.ref a161), (.ref a21), (.ref a22), (.int (0 : Int32)), (.int (3 : Int32)), (.int (q0_5 x0 x1 x2 x3 x4 x5))] [] pd__Lcom_example_micro_ranker_microranker_engine_BitWriter__I_IIII_V rfl rfl (st := [(.int (q0_5 x0 x1 x2 x3 x4 x5)), (.int (3 : Int32)), (.int (0 : Int32)), (.ref a22), (.ref a21), (.ref a161)]) rfl (Ls := #[vi x0, vi x1, vj x2, s2, vj x3, s2, vj x4, s2, vi x5, vi 3, vi (q0_2 x0 x1 x2 x3 x4 x5), vi (q0_3 x0 x1 x2 x3 x4 x5), vi (q0_4 x0 x1 x2 x3 x4 x5), vi (q0_5 x0 x1 x2 x3 x4 x5), vr a21, vr a22, vr a161, us, us, us]) rfl (Nat.le_of_eq rfl) (by decide) (by decide) (by decide) (by decide)
        obtain ⟨rfl, M178, K178, g178, s178, H178_1, H178_2, J178, tB, PB⟩ := Q178
        have N178 := Fr.app N174 M178
        have zz178 : n0 ≤ T178.heap.size := Nat.le_trans zz174 K178.1
        refine c178 ?_
        show OG p.tables e below _ (T178.setTop (mkF m 211 #[vi x0, vi x1, vj x2, s2, vj x3, s2, vj x4, s2, vi x5, vi 3, vi (q0_2 x0 x1 x2 x3 x4 x5), vi (q0_3 x0 x1 x2 x3 x4 x5), vi (q0_4 x0 x1 x2 x3 x4 x5), vi (q0_5 x0 x1 x2 x3 x4 x5), vr a21, vr a22, vr a161, us, us, us] []))
        refine o_aload B178 211 213 (v := (.ref a161)) at_211 rfl rfl rfl ?_
        have F179 := (F175.keep K178)
        obtain ⟨T180, B180, c180⟩ := o_callVP B178 213 216 at_213 rfl (hw _ (mi 55 rfl)) (hw _ (mi 56 rfl)) (hw _ (mi 58 rfl)) (hw _ (mi 57 rfl)) (hw _ (mi 13 rfl)) (hw _ (mi 59 rfl)) (by decide) F179 (rm11 l Z a0 hw a161 s178 T178.heap H178_2) 0 [] [] pd___J rfl rfl (st := [(.ref a161)]) rfl (Ls := #[vi x0, vi x1, vj x2, s2, vj x3, s2, vj x4, s2, vi x5, vi 3, vi (q0_2 x0 x1 x2 x3 x4 x5), vi (q0_3 x0 x1 x2 x3 x4 x5), vi (q0_4 x0 x1 x2 x3 x4 x5), vi (q0_5 x0 x1 x2 x3 x4 x5), vr a21, vr a22, vr a161, us, us, us]) rfl (Nat.le_of_eq rfl) (by decide) (by decide) (by decide) (by decide)
        refine c180 ?_
        refine o_iload B180 216 218 (v := (q0_2 x0 x1 x2 x3 x4 x5)) at_216 rfl rfl ?_
        refine o_i2l B180 218 219 at_218 rfl ?_
        refine o_lsub B180 219 220 at_219 rfl ?_
        refine o_lstore B180 220 222 (l' := #[vi x0, vi x1, vj x2, s2, vj x3, s2, vj x4, s2, vi x5, vi 3, vi (q0_2 x0 x1 x2 x3 x4 x5), vi (q0_3 x0 x1 x2 x3 x4 x5), vi (q0_4 x0 x1 x2 x3 x4 x5), vi (q0_5 x0 x1 x2 x3 x4 x5), vr a21, vr a22, vr a161, vj ((f11 s178) - (q0_2 x0 x1 x2 x3 x4 x5).toInt64), s2, us]) at_220 rfl rfl ?_
        obtain ⟨a181, T181, h181, z181, B181, E181, X181, D181, c181⟩ := o_new B180 222 225 at_222 rfl (hw _ (mi 60 rfl)) (hw _ (mi 61 rfl)) (hw _ (mi 36 rfl)) (by decide) (by decide) (Ls := #[vi x0, vi x1, vj x2, s2, vj x3, s2, vj x4, s2, vi x5, vi 3, vi (q0_2 x0 x1 x2 x3 x4 x5), vi (q0_3 x0 x1 x2 x3 x4 x5), vi (q0_4 x0 x1 x2 x3 x4 x5), vi (q0_5 x0 x1 x2 x3 x4 x5), vr a21, vr a22, vr a161, vj ((f11 s178) - (q0_2 x0 x1 x2 x3 x4 x5).toInt64), s2, us]) (rest := [])
        have F182 := (F176.keep K178 (ninS (Nat.ne_of_lt lt163) (ninS (Nat.ne_of_lt lt170) nin0)))
        have lt183 : (a21 : Nat) < a181 := by rw [z181]; exact F182.lt
        have F184 := (F177.keep K178 (ninS (Nat.ne_of_lt lt164) (ninS (Nat.ne_of_lt lt171) nin0)))
        have lt185 : (a22 : Nat) < a181 := by rw [z181]; exact F184.lt
        have lt186 : (a161 : Nat) < a181 := by rw [z181]; exact F179.lt
        have lt187 : (yw169 : Nat) < a181 := by rw [z181]; exact J178.lt
        have g181 : n0 ≤ a181 := by rw [z181]; exact zz178
        have s181 : n0 ≤ h181.size := Nat.le_trans zz178 E181.1
        have F188 : Fld Z h181 a181 "com/example/micro_ranker/microranker/engine/Block" "words" "[J" .null := D181 (Or.inl (hw _ (mi 77 rfl))) (ty := (.array .long)) (by decide)
        have F189 : Fld Z h181 a181 "com/example/micro_ranker/microranker/engine/Block" "count" "I" (.int (0 : Int32)) := D181 (Or.inl (hw _ (mi 79 rfl))) (ty := .int) (by decide)
        have F190 : Fld Z h181 a181 "com/example/micro_ranker/microranker/engine/Block" "base" "I" (.int (0 : Int32)) := D181 (Or.inl (hw _ (mi 81 rfl))) (ty := .int) (by decide)
        have F191 : Fld Z h181 a181 "com/example/micro_ranker/microranker/engine/Block" "last" "I" (.int (0 : Int32)) := D181 (Or.inl (hw _ (mi 83 rfl))) (ty := .int) (by decide)
        have F192 : Fld Z h181 a181 "com/example/micro_ranker/microranker/engine/Block" "frequencyWidth" "I" (.int (0 : Int32)) := D181 (Or.inl (hw _ (mi 92 rfl))) (ty := .int) (by decide)
        have F193 : Fld Z h181 a181 "com/example/micro_ranker/microranker/engine/Block" "lowWidth" "I" (.int (0 : Int32)) := D181 (Or.inl (hw _ (mi 94 rfl))) (ty := .int) (by decide)
        have F194 : Fld Z h181 a181 "com/example/micro_ranker/microranker/engine/Block" "entries" "J" (.long (0 : Int64)) := D181 (Or.inl (hw _ (mi 97 rfl))) (ty := .long) (by decide)
        have F195 : Fld Z h181 a181 "com/example/micro_ranker/microranker/engine/Block" "highs" "J" (.long (0 : Int64)) := D181 (Or.inl (hw _ (mi 99 rfl))) (ty := .long) (by decide)
        have F196 : Fld Z h181 a181 "com/example/micro_ranker/microranker/engine/Block" "entry" "I" (.int (0 : Int32)) := D181 (Or.inl (hw _ (mi 101 rfl))) (ty := .int) (by decide)
        have F197 : Fld Z h181 a181 "com/example/micro_ranker/microranker/engine/Block" "position" "J" (.long (0 : Int64)) := D181 (Or.inl (hw _ (mi 103 rfl))) (ty := .long) (by decide)
        have F198 : Fld Z h181 a181 "com/example/micro_ranker/microranker/engine/Block" "document" "I" (.int (0 : Int32)) := D181 (Or.inl (hw _ (mi 105 rfl))) (ty := .int) (by decide)
        refine c181 ?_
        refine o_dup B181 225 226 at_225 rfl rfl ?_
        obtain ⟨v199, T199, L199, B199, Q199, c199⟩ := o_callN B181 226 229 at_226 rfl rfl (hw _ (mi 62 rfl)) (hw _ (mi 63 rfl)) (hw _ (mi 36 rfl)) (hw _ (mi 64 rfl)) (by decide) (rm12 l Z a0 hw a181  h181 n0 s181 g181 X181 F188 F189 F190 F191 F192 F193 F194 F195 F196 F197 F198) 1 [] [(.ref a181)] pd___V rfl rfl (st := [(.ref a181), (.ref a181)]) rfl (Ls := #[vi x0, vi x1, vj x2, s2, vj x3, s2, vj x4, s2, vi x5, vi 3, vi (q0_2 x0 x1 x2 x3 x4 x5), vi (q0_3 x0 x1 x2 x3 x4 x5), vi (q0_4 x0 x1 x2 x3 x4 x5), vi (q0_5 x0 x1 x2 x3 x4 x5), vr a21, vr a22, vr a161, vj ((f11 s178) - (q0_2 x0 x1 x2 x3 x4 x5).toInt64), s2, us]) rfl (Nat.le_of_eq rfl) (by decide) (by decide) (by decide) (by decide)
        obtain ⟨rfl, M199, K199, H199_0, H199_1, H199_2, H199_3, H199_4, H199_5, H199_6, H199_7, H199_8, H199_9, H199_10⟩ := Q199
        have N199 := Fr.app N178 M199
        have s199 : n0 ≤ T199.heap.size := Nat.le_trans s181 K199.1
        refine c199 ?_
        show OG p.tables e below _ (T199.setTop (mkF m 229 #[vi x0, vi x1, vj x2, s2, vj x3, s2, vj x4, s2, vi x5, vi 3, vi (q0_2 x0 x1 x2 x3 x4 x5), vi (q0_3 x0 x1 x2 x3 x4 x5), vi (q0_4 x0 x1 x2 x3 x4 x5), vi (q0_5 x0 x1 x2 x3 x4 x5), vr a21, vr a22, vr a161, vj ((f11 s178) - (q0_2 x0 x1 x2 x3 x4 x5).toInt64), s2, us] [(.ref a181)]))
        refine o_aload B199 229 231 (v := (.ref a161)) at_229 rfl rfl rfl ?_
        have F200 := ((Exa.ext E181 F179).keep K199)
        have F201 := ((Fld.ext E181 H178_1).keep K199 (ninS (Nat.ne_of_lt lt186) nin0))
        obtain ⟨v202, T202, L202, B202, Q202, c202⟩ := o_callV B199 231 234 at_231 rfl (hw _ (mi 66 rfl)) (hw _ (mi 67 rfl)) (hw _ (mi 69 rfl)) (hw _ (mi 68 rfl)) (hw _ (mi 13 rfl)) (hw _ (mi 70 rfl)) (by decide) F200 (rm13 l Z a0 hw a161 yw169 T199.heap n0 s199 F200 F201) 1 [] [(.ref a181)] pd____J rfl rfl (st := [(.ref a161), (.ref a181)]) rfl (Ls := #[vi x0, vi x1, vj x2, s2, vj x3, s2, vj x4, s2, vi x5, vi 3, vi (q0_2 x0 x1 x2 x3 x4 x5), vi (q0_3 x0 x1 x2 x3 x4 x5), vi (q0_4 x0 x1 x2 x3 x4 x5), vi (q0_5 x0 x1 x2 x3 x4 x5), vr a21, vr a22, vr a161, vj ((f11 s178) - (q0_2 x0 x1 x2 x3 x4 x5).toInt64), s2, us]) rfl (Nat.le_of_eq rfl) (by decide) (by decide) (by decide) (by decide)
        obtain ⟨rfl, M202, K202, H202⟩ := Q202
        have N202 := Fr.app N199 M202
        have zz202 : n0 ≤ T202.heap.size := Nat.le_trans s199 K202.1
        refine c202 ?_
        show OG p.tables e below _ (T202.setTop (mkF m 234 #[vi x0, vi x1, vj x2, s2, vj x3, s2, vj x4, s2, vi x5, vi 3, vi (q0_2 x0 x1 x2 x3 x4 x5), vi (q0_3 x0 x1 x2 x3 x4 x5), vi (q0_4 x0 x1 x2 x3 x4 x5), vi (q0_5 x0 x1 x2 x3 x4 x5), vr a21, vr a22, vr a161, vj ((f11 s178) - (q0_2 x0 x1 x2 x3 x4 x5).toInt64), s2, us] [(.ref yw169), (.ref a181)]))
        refine o_iload B202 234 236 (v := (q0_2 x0 x1 x2 x3 x4 x5)) at_234 rfl rfl ?_
        refine o_i2l B202 236 237 at_236 rfl ?_
        refine o_iload B202 237 239 (v := (3 : Int32)) at_237 rfl rfl ?_
        refine o_iload B202 239 241 (v := (q0_5 x0 x1 x2 x3 x4 x5)) at_239 rfl rfl ?_
        refine o_aload B202 241 243 (v := (.ref a21)) at_241 rfl rfl rfl ?_
        refine o_iload B202 243 245 (v := (3 : Int32)) at_243 rfl rfl ?_
        refine o_iconst B202 245 246 (1 : Int32) at_245 rfl (by decide) ?_
        refine o_isub B202 246 247 at_246 rfl ?_
        refine o_topI (show ((3 : Int32) - (1 : Int32)) = (2 : Int32) by decide) ?_
        have F204 := (((F182.ext E181).keep K199 (ninS (Nat.ne_of_lt lt183) nin0)).keep K202 nin0)
        refine o_iaload B202 247 248 F204 2 ((w0_13 x0 x1 x2 x3 x4 x5) 2) at_247 rfl (by decide) (by decide) (by decide) rfl ?_
        have F205 := ((X181.keep K199).keep K202)
        have F206 := (H199_0.keep K202 nin0)
        have F207 := (H199_1.keep K202 nin0)
        have F208 := (H199_2.keep K202 nin0)
        have F209 := (H199_3.keep K202 nin0)
        have F210 := (H199_4.keep K202 nin0)
        have F211 := (H199_5.keep K202 nin0)
        have F212 := (H199_6.keep K202 nin0)
        have F213 := (H199_7.keep K202 nin0)
        have F214 := (H199_8.keep K202 nin0)
        have F215 := (H199_9.keep K202 nin0)
        have F216 := (H199_10.keep K202 nin0)
        have F217 := (((J178.ext E181).keep K199 (ninS (Nat.ne_of_lt lt187) nin0)).keep K202 nin0)
        obtain ⟨v218, T218, L218, B218, Q218, c218⟩ := o_callV B202 248 251 at_248 rfl (hw _ (mi 71 rfl)) (hw _ (mi 72 rfl)) (hw _ (mi 74 rfl)) (hw _ (mi 73 rfl)) (hw _ (mi 36 rfl)) (hw _ (mi 75 rfl)) (by decide) F205 (rm14_3 l Z a0 hw a181 yw169 g178 (q0_2 x0 x1 x2 x3 x4 x5).toInt64 (q0_5 x0 x1 x2 x3 x4 x5) ((w0_13 x0 x1 x2 x3 x4 x5) 2) T202.heap n0 zz202 g181 F205 F206 F207 F208 F209 F210 F211 F212 F213 F214 F215 F216 F217 (Ne.symm (Nat.ne_of_lt lt187)) (own_pre64 x0 x1 x2 x3 x4 x5)) 0 [(.ref yw169), (.long (q0_2 x0 x1 x2 x3 x4 x5).toInt64), (.int (3 : Int32)), (.int (q0_5 x0 x1 x2 x3 x4 x5)), (.int ((w0_13 x0 x1 x2 x3 x4 x5) 2))] [] pd___JJIII_Lcom_example_micro_ranker_microranker_engine_Block_ rfl rfl (st := [(.int ((w0_13 x0 x1 x2 x3 x4 x5) 2)), (.int (q0_5 x0 x1 x2 x3 x4 x5)), (.int (3 : Int32)), (.long (q0_2 x0 x1 x2 x3 x4 x5).toInt64), (.ref yw169), (.ref a181)]) rfl (Ls := #[vi x0, vi x1, vj x2, s2, vj x3, s2, vj x4, s2, vi x5, vi 3, vi (q0_2 x0 x1 x2 x3 x4 x5), vi (q0_3 x0 x1 x2 x3 x4 x5), vi (q0_4 x0 x1 x2 x3 x4 x5), vi (q0_5 x0 x1 x2 x3 x4 x5), vr a21, vr a22, vr a161, vj ((f11 s178) - (q0_2 x0 x1 x2 x3 x4 x5).toInt64), s2, us]) rfl (Nat.le_of_eq rfl) (by decide) (by decide) (by decide) (by decide)
        obtain ⟨rfl, M218, K218, H218_0, H218_1, H218_2, H218_3, H218_4, H218_5⟩ := Q218
        have N218 := Fr.app N202 M218
        have zz218 : n0 ≤ T218.heap.size := Nat.le_trans zz202 K218.1
        refine c218 ?_
        show OG p.tables e below _ (T218.setTop (mkF m 251 #[vi x0, vi x1, vj x2, s2, vj x3, s2, vj x4, s2, vi x5, vi 3, vi (q0_2 x0 x1 x2 x3 x4 x5), vi (q0_3 x0 x1 x2 x3 x4 x5), vi (q0_4 x0 x1 x2 x3 x4 x5), vi (q0_5 x0 x1 x2 x3 x4 x5), vr a21, vr a22, vr a161, vj ((f11 s178) - (q0_2 x0 x1 x2 x3 x4 x5).toInt64), s2, us] [(.ref a181)]))
        refine o_astore B218 251 253 (l' := #[vi x0, vi x1, vj x2, s2, vj x3, s2, vj x4, s2, vi x5, vi 3, vi (q0_2 x0 x1 x2 x3 x4 x5), vi (q0_3 x0 x1 x2 x3 x4 x5), vi (q0_4 x0 x1 x2 x3 x4 x5), vi (q0_5 x0 x1 x2 x3 x4 x5), vr a21, vr a22, vr a161, vj ((f11 s178) - (q0_2 x0 x1 x2 x3 x4 x5).toInt64), s2, vr a181]) at_251 rfl rfl rfl ?_
        refine o_aload B218 253 255 (v := (.ref a181)) at_253 rfl rfl rfl ?_
        have F219 := (F205.keep K218)
        obtain ⟨T220, B220, c220⟩ := o_callVP B218 255 258 at_255 rfl (hw _ (mi 106 rfl)) (hw _ (mi 107 rfl)) (hw _ (mi 109 rfl)) (hw _ (mi 108 rfl)) (hw _ (mi 36 rfl)) (hw _ (mi 110 rfl)) (by decide) F219 (rm17 l Z a0 hw a181 (3 : Int32) ((w0_13 x0 x1 x2 x3 x4 x5) 2) (q0_5 x0 x1 x2 x3 x4 x5) (f18 (((w0_13 x0 x1 x2 x3 x4 x5) 2) - (q0_5 x0 x1 x2 x3 x4 x5)) (2 : Int32)) ((((q0_2 x0 x1 x2 x3 x4 x5).toInt64 + (5 : Int64)) + ((2 : Int64) * ((f18 (((w0_13 x0 x1 x2 x3 x4 x5) 2) - (q0_5 x0 x1 x2 x3 x4 x5)) (2 : Int32)) + (f15 g178 (q0_2 x0 x1 x2 x3 x4 x5).toInt64 (5 : Int32))).toInt64)) + (f15 g178 (q0_2 x0 x1 x2 x3 x4 x5).toInt64 (5 : Int32)).toInt64) ((q0_2 x0 x1 x2 x3 x4 x5).toInt64 + (5 : Int64)) T218.heap H218_0 H218_1 H218_2 H218_3 H218_4 H218_5) 0 [] [] pd___J rfl rfl (st := [(.ref a181)]) rfl (Ls := #[vi x0, vi x1, vj x2, s2, vj x3, s2, vj x4, s2, vi x5, vi 3, vi (q0_2 x0 x1 x2 x3 x4 x5), vi (q0_3 x0 x1 x2 x3 x4 x5), vi (q0_4 x0 x1 x2 x3 x4 x5), vi (q0_5 x0 x1 x2 x3 x4 x5), vr a21, vr a22, vr a161, vj ((f11 s178) - (q0_2 x0 x1 x2 x3 x4 x5).toInt64), s2, vr a181]) rfl (Nat.le_of_eq rfl) (by decide) (by decide) (by decide) (by decide)
        refine c220 ?_
        refine o_lload B220 258 260 (v := ((f11 s178) - (q0_2 x0 x1 x2 x3 x4 x5).toInt64)) at_258 rfl rfl ?_
        refine o_lcmp B220 260 261 at_260 rfl ?_
        have hfin : (f17 (3 : Int32) ((w0_13 x0 x1 x2 x3 x4 x5) 2) (q0_5 x0 x1 x2 x3 x4 x5) (f18 (((w0_13 x0 x1 x2 x3 x4 x5) 2) - (q0_5 x0 x1 x2 x3 x4 x5)) (2 : Int32)) ((((q0_2 x0 x1 x2 x3 x4 x5).toInt64 + (5 : Int64)) + ((2 : Int64) * ((f18 (((w0_13 x0 x1 x2 x3 x4 x5) 2) - (q0_5 x0 x1 x2 x3 x4 x5)) (2 : Int32)) + (f15 g178 (q0_2 x0 x1 x2 x3 x4 x5).toInt64 (5 : Int32))).toInt64)) + (f15 g178 (q0_2 x0 x1 x2 x3 x4 x5).toInt64 (5 : Int32)).toInt64) ((q0_2 x0 x1 x2 x3 x4 x5).toInt64 + (5 : Int64))) = ((f11 s178) - (q0_2 x0 x1 x2 x3 x4 x5).toInt64) := own_end3 (w0_13 x0 x1 x2 x3 x4 x5) (w0_23 x0 x1 x2 x3 x4 x5) (q0_5 x0 x1 x2 x3 x4 x5) (q0_2 x0 x1 x2 x3 x4 x5) g174 g178 s174 s178 x5.toInt64 (own_pre x0 x1 x2 x3 x4 x5) tA PA hBd tB PB
        refine o_ifN B220 261 264 at_261 rfl (XT.ll_ne_f hfin) ?_
        refine o_iconst B220 264 265 (1 : Int32) at_264 rfl (by decide) ?_
        refine o_goto B220 265 269 at_265 (by decide) (by decide) ?_
        refine o_retZ (t := .boolean) B220 269 at_269 hret hlk (by simp) (by decide) (by decide) ⟨(congrArg (fun z => some (Value.int z)) ((show nar .boolean (1 : Int32) = (1 : Int32) from rfl).trans (show f0 x0 x1 x2 x3 x4 x5 = (1 : Int32) from (if_neg k1).trans ((if_neg k2).trans ((if_pos k3).trans (rfl)))).symm)), N218⟩
      · have k4 : (q0_1 x0 x1 x2 x3 x4 x5) = (4 : Int32) := own_cnt x0 x1 x2 x3 x4 x5 k1 k2 k3
        rw [k4]
        obtain ⟨a221, T221, h221, z221, B221, E221, X221, D221, c221⟩ := o_new B40 178 181 at_178 rfl (hw _ (mi 11 rfl)) (hw _ (mi 12 rfl)) (hw _ (mi 13 rfl)) (by decide) (by decide) (Ls := #[vi x0, vi x1, vj x2, s2, vj x3, s2, vj x4, s2, vi x5, vi 4, vi (q0_2 x0 x1 x2 x3 x4 x5), vi (q0_3 x0 x1 x2 x3 x4 x5), vi (q0_4 x0 x1 x2 x3 x4 x5), vi (q0_5 x0 x1 x2 x3 x4 x5), vr a21, vr a22, us, us, us, us]) (rest := [])
        have F222 := ((((A31.other W33 (Nat.ne_of_lt lt23)).other W36 (Nat.ne_of_lt lt23)).other W38 (Nat.ne_of_lt lt23)).other W40 (Nat.ne_of_lt lt23))
        have lt223 : (a21 : Nat) < a221 := by rw [z221]; exact F222.lt
        have lt224 : (a22 : Nat) < a221 := by rw [z221]; exact A40.lt
        have g221 : n0 ≤ a221 := by rw [z221]; exact (W40.size ▸ (W38.size ▸ (W36.size ▸ (W33.size ▸ (W31.size ▸ (W29.size ▸ (W27.size ▸ (W24.size ▸ s22))))))))
        have s221 : n0 ≤ h221.size := Nat.le_trans (W40.size ▸ (W38.size ▸ (W36.size ▸ (W33.size ▸ (W31.size ▸ (W29.size ▸ (W27.size ▸ (W24.size ▸ s22)))))))) E221.1
        have F225 : Fld Z h221 a221 "com/example/micro_ranker/microranker/engine/BitWriter" "words" "[J" .null := D221 (Or.inl (hw _ (mi 22 rfl))) (ty := (.array .long)) (by decide)
        have F226 : Fld Z h221 a221 "com/example/micro_ranker/microranker/engine/BitWriter" "size" "J" (.long (0 : Int64)) := D221 (Or.inl (hw _ (mi 29 rfl))) (ty := .long) (by decide)
        refine c221 ?_
        refine o_dup B221 181 182 at_181 rfl rfl ?_
        have F227 := (F222.ext E221)
        have F228 := (A40.ext E221)
        obtain ⟨v229, T229, L229, B229, Q229, c229⟩ := o_callN B221 182 185 at_182 rfl rfl (hw _ (mi 14 rfl)) (hw _ (mi 15 rfl)) (hw _ (mi 13 rfl)) (hw _ (mi 16 rfl)) (by decide) (rm3 l Z a0 hw a221 h221 n0 s221 g221 X221 F225 F226) 1 [] [(.ref a221)] pd___V rfl rfl (st := [(.ref a221), (.ref a221)]) rfl (Ls := #[vi x0, vi x1, vj x2, s2, vj x3, s2, vj x4, s2, vi x5, vi 4, vi (q0_2 x0 x1 x2 x3 x4 x5), vi (q0_3 x0 x1 x2 x3 x4 x5), vi (q0_4 x0 x1 x2 x3 x4 x5), vi (q0_5 x0 x1 x2 x3 x4 x5), vr a21, vr a22, us, us, us, us]) rfl (Nat.le_of_eq rfl) (by decide) (by decide) (by decide) (by decide)
        obtain ⟨rfl, M229, K229, yw229, gy229, zy229, H229_1, H229_2, J229⟩ := Q229
        have N229 := Fr.app N40 M229
        have zz229 : n0 ≤ T229.heap.size := Nat.le_trans s221 K229.1
        have lt230 : (a21 : Nat) < yw229 := Nat.lt_of_lt_of_le F227.lt zy229
        have lt231 : (a22 : Nat) < yw229 := Nat.lt_of_lt_of_le F228.lt zy229
        have lt232 : (a221 : Nat) < yw229 := Nat.lt_of_lt_of_le X221.lt zy229
        refine c229 ?_
        show OG p.tables e below _ (T229.setTop (mkF m 185 #[vi x0, vi x1, vj x2, s2, vj x3, s2, vj x4, s2, vi x5, vi 4, vi (q0_2 x0 x1 x2 x3 x4 x5), vi (q0_3 x0 x1 x2 x3 x4 x5), vi (q0_4 x0 x1 x2 x3 x4 x5), vi (q0_5 x0 x1 x2 x3 x4 x5), vr a21, vr a22, us, us, us, us] [(.ref a221)]))
        refine o_astore B229 185 187 (l' := #[vi x0, vi x1, vj x2, s2, vj x3, s2, vj x4, s2, vi x5, vi 4, vi (q0_2 x0 x1 x2 x3 x4 x5), vi (q0_3 x0 x1 x2 x3 x4 x5), vi (q0_4 x0 x1 x2 x3 x4 x5), vi (q0_5 x0 x1 x2 x3 x4 x5), vr a21, vr a22, vr a221, us, us, us]) at_185 rfl rfl rfl ?_
        refine o_aload B229 187 189 (v := (.ref a221)) at_187 rfl rfl rfl ?_
        refine o_iload B229 189 191 (v := x5) at_189 rfl rfl ?_
        refine o_i2l B229 191 192 at_191 rfl ?_
        refine o_iload B229 192 194 (v := (q0_2 x0 x1 x2 x3 x4 x5)) at_192 rfl rfl ?_
        have F233 := (X221.keep K229)
        obtain ⟨v234, T234, L234, B234, Q234, c234⟩ := o_callV B229 194 197 at_194 rfl (hw _ (mi 23 rfl)) (hw _ (mi 24 rfl)) (hw _ (mi 26 rfl)) (hw _ (mi 25 rfl)) (hw _ (mi 13 rfl)) (hw _ (mi 27 rfl)) (by decide) F233 (rm5 l Z a0 hw a221 yw229 own_zJ (0 : Int64) x5.toInt64 (q0_2 x0 x1 x2 x3 x4 x5) T229.heap n0 zz229 g221 gy229 F233 H229_1 H229_2 J229 (Nat.ne_of_lt lt232) (own_hw0 x0 x1 x2 x3 x4 x5)) 0 [(.long x5.toInt64), (.int (q0_2 x0 x1 x2 x3 x4 x5))] [] pd__JI_V rfl rfl (st := [(.int (q0_2 x0 x1 x2 x3 x4 x5)), (.long x5.toInt64), (.ref a221)]) rfl (Ls := #[vi x0, vi x1, vj x2, s2, vj x3, s2, vj x4, s2, vi x5, vi 4, vi (q0_2 x0 x1 x2 x3 x4 x5), vi (q0_3 x0 x1 x2 x3 x4 x5), vi (q0_4 x0 x1 x2 x3 x4 x5), vi (q0_5 x0 x1 x2 x3 x4 x5), vr a21, vr a22, vr a221, us, us, us]) rfl (Nat.le_of_eq rfl) (by decide) (by decide) (by decide) (by decide)
        obtain ⟨rfl, M234, K234, g234, s234, H234_1, H234_2, J234, ⟨tA, PA⟩⟩ := Q234
        have N234 := Fr.app N229 M234
        have zz234 : n0 ≤ T234.heap.size := Nat.le_trans zz229 K234.1
        refine c234 ?_
        show OG p.tables e below _ (T234.setTop (mkF m 197 #[vi x0, vi x1, vj x2, s2, vj x3, s2, vj x4, s2, vi x5, vi 4, vi (q0_2 x0 x1 x2 x3 x4 x5), vi (q0_3 x0 x1 x2 x3 x4 x5), vi (q0_4 x0 x1 x2 x3 x4 x5), vi (q0_5 x0 x1 x2 x3 x4 x5), vr a21, vr a22, vr a221, us, us, us] []))
        refine o_aload B234 197 199 (v := (.ref a221)) at_197 rfl rfl rfl ?_
        refine o_aload B234 199 201 (v := (.ref a21)) at_199 rfl rfl rfl ?_
        refine o_aload B234 201 203 (v := (.ref a22)) at_201 rfl rfl rfl ?_
        refine o_iconst B234 203 204 (0 : Int32) at_203 rfl (by decide) ?_
        refine o_iload B234 204 206 (v := (4 : Int32)) at_204 rfl rfl ?_
        refine o_iload B234 206 208 (v := (q0_5 x0 x1 x2 x3 x4 x5)) at_206 rfl rfl ?_
        have F235 := (F233.keep K234)
        have F236 := ((F227.keep K229 (ninS (Nat.ne_of_lt lt223) nin0)).keep K234 (ninS (Nat.ne_of_lt lt223) (ninS (Nat.ne_of_lt lt230) nin0)))
        have F237 := ((F228.keep K229 (ninS (Nat.ne_of_lt lt224) nin0)).keep K234 (ninS (Nat.ne_of_lt lt224) (ninS (Nat.ne_of_lt lt231) nin0)))
        have hBd : Bd (w0_13 x0 x1 x2 x3 x4 x5) (w0_23 x0 x1 x2 x3 x4 x5) (q0_5 x0 x1 x2 x3 x4 x5) s234 := own_bd x0 x1 x2 x3 x4 x5 s234 tA
        obtain ⟨v238, T238, L238, B238, Q238, c238⟩ := o_callS B234 208 211 at_208 rfl (hw _ (mi 34 rfl)) (hw _ (mi 35 rfl)) (hw _ (mi 36 rfl)) (hw _ (mi 37 rfl)) (by decide) (rm7_4 l Z a0 hw a221 a21 a22 yw229 (w0_13 x0 x1 x2 x3 x4 x5) (w0_23 x0 x1 x2 x3 x4 x5) g234 s234 (q0_5 x0 x1 x2 x3 x4 x5) T234.heap n0 zz234 g221 gy229 F235 H234_1 H234_2 F236 F237 J234 (Nat.ne_of_lt lt232) (Nat.ne_of_lt lt230) (Nat.ne_of_lt lt231) (Ne.symm (Nat.ne_of_lt lt223)) (Ne.symm (Nat.ne_of_lt lt224)) hBd) 0 [(.ref a221), (.ref a21), (.ref a22), (.int (0 : Int32)), (.int (4 : Int32)), (.int (q0_5 x0 x1 x2 x3 x4 x5))] [] pd__Lcom_example_micro_ranker_microranker_engine_BitWriter__I_IIII_V rfl rfl (st := [(.int (q0_5 x0 x1 x2 x3 x4 x5)), (.int (4 : Int32)), (.int (0 : Int32)), (.ref a22), (.ref a21), (.ref a221)]) rfl (Ls := #[vi x0, vi x1, vj x2, s2, vj x3, s2, vj x4, s2, vi x5, vi 4, vi (q0_2 x0 x1 x2 x3 x4 x5), vi (q0_3 x0 x1 x2 x3 x4 x5), vi (q0_4 x0 x1 x2 x3 x4 x5), vi (q0_5 x0 x1 x2 x3 x4 x5), vr a21, vr a22, vr a221, us, us, us]) rfl (Nat.le_of_eq rfl) (by decide) (by decide) (by decide) (by decide)
        obtain ⟨rfl, M238, K238, g238, s238, H238_1, H238_2, J238, tB, PB⟩ := Q238
        have N238 := Fr.app N234 M238
        have zz238 : n0 ≤ T238.heap.size := Nat.le_trans zz234 K238.1
        refine c238 ?_
        show OG p.tables e below _ (T238.setTop (mkF m 211 #[vi x0, vi x1, vj x2, s2, vj x3, s2, vj x4, s2, vi x5, vi 4, vi (q0_2 x0 x1 x2 x3 x4 x5), vi (q0_3 x0 x1 x2 x3 x4 x5), vi (q0_4 x0 x1 x2 x3 x4 x5), vi (q0_5 x0 x1 x2 x3 x4 x5), vr a21, vr a22, vr a221, us, us, us] []))
        refine o_aload B238 211 213 (v := (.ref a221)) at_211 rfl rfl rfl ?_
        have F239 := (F235.keep K238)
        obtain ⟨T240, B240, c240⟩ := o_callVP B238 213 216 at_213 rfl (hw _ (mi 55 rfl)) (hw _ (mi 56 rfl)) (hw _ (mi 58 rfl)) (hw _ (mi 57 rfl)) (hw _ (mi 13 rfl)) (hw _ (mi 59 rfl)) (by decide) F239 (rm11 l Z a0 hw a221 s238 T238.heap H238_2) 0 [] [] pd___J rfl rfl (st := [(.ref a221)]) rfl (Ls := #[vi x0, vi x1, vj x2, s2, vj x3, s2, vj x4, s2, vi x5, vi 4, vi (q0_2 x0 x1 x2 x3 x4 x5), vi (q0_3 x0 x1 x2 x3 x4 x5), vi (q0_4 x0 x1 x2 x3 x4 x5), vi (q0_5 x0 x1 x2 x3 x4 x5), vr a21, vr a22, vr a221, us, us, us]) rfl (Nat.le_of_eq rfl) (by decide) (by decide) (by decide) (by decide)
        refine c240 ?_
        refine o_iload B240 216 218 (v := (q0_2 x0 x1 x2 x3 x4 x5)) at_216 rfl rfl ?_
        refine o_i2l B240 218 219 at_218 rfl ?_
        refine o_lsub B240 219 220 at_219 rfl ?_
        refine o_lstore B240 220 222 (l' := #[vi x0, vi x1, vj x2, s2, vj x3, s2, vj x4, s2, vi x5, vi 4, vi (q0_2 x0 x1 x2 x3 x4 x5), vi (q0_3 x0 x1 x2 x3 x4 x5), vi (q0_4 x0 x1 x2 x3 x4 x5), vi (q0_5 x0 x1 x2 x3 x4 x5), vr a21, vr a22, vr a221, vj ((f11 s238) - (q0_2 x0 x1 x2 x3 x4 x5).toInt64), s2, us]) at_220 rfl rfl ?_
        obtain ⟨a241, T241, h241, z241, B241, E241, X241, D241, c241⟩ := o_new B240 222 225 at_222 rfl (hw _ (mi 60 rfl)) (hw _ (mi 61 rfl)) (hw _ (mi 36 rfl)) (by decide) (by decide) (Ls := #[vi x0, vi x1, vj x2, s2, vj x3, s2, vj x4, s2, vi x5, vi 4, vi (q0_2 x0 x1 x2 x3 x4 x5), vi (q0_3 x0 x1 x2 x3 x4 x5), vi (q0_4 x0 x1 x2 x3 x4 x5), vi (q0_5 x0 x1 x2 x3 x4 x5), vr a21, vr a22, vr a221, vj ((f11 s238) - (q0_2 x0 x1 x2 x3 x4 x5).toInt64), s2, us]) (rest := [])
        have F242 := (F236.keep K238 (ninS (Nat.ne_of_lt lt223) (ninS (Nat.ne_of_lt lt230) nin0)))
        have lt243 : (a21 : Nat) < a241 := by rw [z241]; exact F242.lt
        have F244 := (F237.keep K238 (ninS (Nat.ne_of_lt lt224) (ninS (Nat.ne_of_lt lt231) nin0)))
        have lt245 : (a22 : Nat) < a241 := by rw [z241]; exact F244.lt
        have lt246 : (a221 : Nat) < a241 := by rw [z241]; exact F239.lt
        have lt247 : (yw229 : Nat) < a241 := by rw [z241]; exact J238.lt
        have g241 : n0 ≤ a241 := by rw [z241]; exact zz238
        have s241 : n0 ≤ h241.size := Nat.le_trans zz238 E241.1
        have F248 : Fld Z h241 a241 "com/example/micro_ranker/microranker/engine/Block" "words" "[J" .null := D241 (Or.inl (hw _ (mi 77 rfl))) (ty := (.array .long)) (by decide)
        have F249 : Fld Z h241 a241 "com/example/micro_ranker/microranker/engine/Block" "count" "I" (.int (0 : Int32)) := D241 (Or.inl (hw _ (mi 79 rfl))) (ty := .int) (by decide)
        have F250 : Fld Z h241 a241 "com/example/micro_ranker/microranker/engine/Block" "base" "I" (.int (0 : Int32)) := D241 (Or.inl (hw _ (mi 81 rfl))) (ty := .int) (by decide)
        have F251 : Fld Z h241 a241 "com/example/micro_ranker/microranker/engine/Block" "last" "I" (.int (0 : Int32)) := D241 (Or.inl (hw _ (mi 83 rfl))) (ty := .int) (by decide)
        have F252 : Fld Z h241 a241 "com/example/micro_ranker/microranker/engine/Block" "frequencyWidth" "I" (.int (0 : Int32)) := D241 (Or.inl (hw _ (mi 92 rfl))) (ty := .int) (by decide)
        have F253 : Fld Z h241 a241 "com/example/micro_ranker/microranker/engine/Block" "lowWidth" "I" (.int (0 : Int32)) := D241 (Or.inl (hw _ (mi 94 rfl))) (ty := .int) (by decide)
        have F254 : Fld Z h241 a241 "com/example/micro_ranker/microranker/engine/Block" "entries" "J" (.long (0 : Int64)) := D241 (Or.inl (hw _ (mi 97 rfl))) (ty := .long) (by decide)
        have F255 : Fld Z h241 a241 "com/example/micro_ranker/microranker/engine/Block" "highs" "J" (.long (0 : Int64)) := D241 (Or.inl (hw _ (mi 99 rfl))) (ty := .long) (by decide)
        have F256 : Fld Z h241 a241 "com/example/micro_ranker/microranker/engine/Block" "entry" "I" (.int (0 : Int32)) := D241 (Or.inl (hw _ (mi 101 rfl))) (ty := .int) (by decide)
        have F257 : Fld Z h241 a241 "com/example/micro_ranker/microranker/engine/Block" "position" "J" (.long (0 : Int64)) := D241 (Or.inl (hw _ (mi 103 rfl))) (ty := .long) (by decide)
        have F258 : Fld Z h241 a241 "com/example/micro_ranker/microranker/engine/Block" "document" "I" (.int (0 : Int32)) := D241 (Or.inl (hw _ (mi 105 rfl))) (ty := .int) (by decide)
        refine c241 ?_
        refine o_dup B241 225 226 at_225 rfl rfl ?_
        obtain ⟨v259, T259, L259, B259, Q259, c259⟩ := o_callN B241 226 229 at_226 rfl rfl (hw _ (mi 62 rfl)) (hw _ (mi 63 rfl)) (hw _ (mi 36 rfl)) (hw _ (mi 64 rfl)) (by decide) (rm12 l Z a0 hw a241  h241 n0 s241 g241 X241 F248 F249 F250 F251 F252 F253 F254 F255 F256 F257 F258) 1 [] [(.ref a241)] pd___V rfl rfl (st := [(.ref a241), (.ref a241)]) rfl (Ls := #[vi x0, vi x1, vj x2, s2, vj x3, s2, vj x4, s2, vi x5, vi 4, vi (q0_2 x0 x1 x2 x3 x4 x5), vi (q0_3 x0 x1 x2 x3 x4 x5), vi (q0_4 x0 x1 x2 x3 x4 x5), vi (q0_5 x0 x1 x2 x3 x4 x5), vr a21, vr a22, vr a221, vj ((f11 s238) - (q0_2 x0 x1 x2 x3 x4 x5).toInt64), s2, us]) rfl (Nat.le_of_eq rfl) (by decide) (by decide) (by decide) (by decide)
        obtain ⟨rfl, M259, K259, H259_0, H259_1, H259_2, H259_3, H259_4, H259_5, H259_6, H259_7, H259_8, H259_9, H259_10⟩ := Q259
        have N259 := Fr.app N238 M259
        have s259 : n0 ≤ T259.heap.size := Nat.le_trans s241 K259.1
        refine c259 ?_
        show OG p.tables e below _ (T259.setTop (mkF m 229 #[vi x0, vi x1, vj x2, s2, vj x3, s2, vj x4, s2, vi x5, vi 4, vi (q0_2 x0 x1 x2 x3 x4 x5), vi (q0_3 x0 x1 x2 x3 x4 x5), vi (q0_4 x0 x1 x2 x3 x4 x5), vi (q0_5 x0 x1 x2 x3 x4 x5), vr a21, vr a22, vr a221, vj ((f11 s238) - (q0_2 x0 x1 x2 x3 x4 x5).toInt64), s2, us] [(.ref a241)]))
        refine o_aload B259 229 231 (v := (.ref a221)) at_229 rfl rfl rfl ?_
        have F260 := ((Exa.ext E241 F239).keep K259)
        have F261 := ((Fld.ext E241 H238_1).keep K259 (ninS (Nat.ne_of_lt lt246) nin0))
        obtain ⟨v262, T262, L262, B262, Q262, c262⟩ := o_callV B259 231 234 at_231 rfl (hw _ (mi 66 rfl)) (hw _ (mi 67 rfl)) (hw _ (mi 69 rfl)) (hw _ (mi 68 rfl)) (hw _ (mi 13 rfl)) (hw _ (mi 70 rfl)) (by decide) F260 (rm13 l Z a0 hw a221 yw229 T259.heap n0 s259 F260 F261) 1 [] [(.ref a241)] pd____J rfl rfl (st := [(.ref a221), (.ref a241)]) rfl (Ls := #[vi x0, vi x1, vj x2, s2, vj x3, s2, vj x4, s2, vi x5, vi 4, vi (q0_2 x0 x1 x2 x3 x4 x5), vi (q0_3 x0 x1 x2 x3 x4 x5), vi (q0_4 x0 x1 x2 x3 x4 x5), vi (q0_5 x0 x1 x2 x3 x4 x5), vr a21, vr a22, vr a221, vj ((f11 s238) - (q0_2 x0 x1 x2 x3 x4 x5).toInt64), s2, us]) rfl (Nat.le_of_eq rfl) (by decide) (by decide) (by decide) (by decide)
        obtain ⟨rfl, M262, K262, H262⟩ := Q262
        have N262 := Fr.app N259 M262
        have zz262 : n0 ≤ T262.heap.size := Nat.le_trans s259 K262.1
        refine c262 ?_
        show OG p.tables e below _ (T262.setTop (mkF m 234 #[vi x0, vi x1, vj x2, s2, vj x3, s2, vj x4, s2, vi x5, vi 4, vi (q0_2 x0 x1 x2 x3 x4 x5), vi (q0_3 x0 x1 x2 x3 x4 x5), vi (q0_4 x0 x1 x2 x3 x4 x5), vi (q0_5 x0 x1 x2 x3 x4 x5), vr a21, vr a22, vr a221, vj ((f11 s238) - (q0_2 x0 x1 x2 x3 x4 x5).toInt64), s2, us] [(.ref yw229), (.ref a241)]))
        refine o_iload B262 234 236 (v := (q0_2 x0 x1 x2 x3 x4 x5)) at_234 rfl rfl ?_
        refine o_i2l B262 236 237 at_236 rfl ?_
        refine o_iload B262 237 239 (v := (4 : Int32)) at_237 rfl rfl ?_
        refine o_iload B262 239 241 (v := (q0_5 x0 x1 x2 x3 x4 x5)) at_239 rfl rfl ?_
        refine o_aload B262 241 243 (v := (.ref a21)) at_241 rfl rfl rfl ?_
        refine o_iload B262 243 245 (v := (4 : Int32)) at_243 rfl rfl ?_
        refine o_iconst B262 245 246 (1 : Int32) at_245 rfl (by decide) ?_
        refine o_isub B262 246 247 at_246 rfl ?_
        refine o_topI (show ((4 : Int32) - (1 : Int32)) = (3 : Int32) by decide) ?_
        have F264 := (((F242.ext E241).keep K259 (ninS (Nat.ne_of_lt lt243) nin0)).keep K262 nin0)
        refine o_iaload B262 247 248 F264 3 ((w0_13 x0 x1 x2 x3 x4 x5) 3) at_247 rfl (by decide) (by decide) (by decide) rfl ?_
        have F265 := ((X241.keep K259).keep K262)
        have F266 := (H259_0.keep K262 nin0)
        have F267 := (H259_1.keep K262 nin0)
        have F268 := (H259_2.keep K262 nin0)
        have F269 := (H259_3.keep K262 nin0)
        have F270 := (H259_4.keep K262 nin0)
        have F271 := (H259_5.keep K262 nin0)
        have F272 := (H259_6.keep K262 nin0)
        have F273 := (H259_7.keep K262 nin0)
        have F274 := (H259_8.keep K262 nin0)
        have F275 := (H259_9.keep K262 nin0)
        have F276 := (H259_10.keep K262 nin0)
        have F277 := (((J238.ext E241).keep K259 (ninS (Nat.ne_of_lt lt247) nin0)).keep K262 nin0)
        obtain ⟨v278, T278, L278, B278, Q278, c278⟩ := o_callV B262 248 251 at_248 rfl (hw _ (mi 71 rfl)) (hw _ (mi 72 rfl)) (hw _ (mi 74 rfl)) (hw _ (mi 73 rfl)) (hw _ (mi 36 rfl)) (hw _ (mi 75 rfl)) (by decide) F265 (rm14_4 l Z a0 hw a241 yw229 g238 (q0_2 x0 x1 x2 x3 x4 x5).toInt64 (q0_5 x0 x1 x2 x3 x4 x5) ((w0_13 x0 x1 x2 x3 x4 x5) 3) T262.heap n0 zz262 g241 F265 F266 F267 F268 F269 F270 F271 F272 F273 F274 F275 F276 F277 (Ne.symm (Nat.ne_of_lt lt247)) (own_pre64 x0 x1 x2 x3 x4 x5)) 0 [(.ref yw229), (.long (q0_2 x0 x1 x2 x3 x4 x5).toInt64), (.int (4 : Int32)), (.int (q0_5 x0 x1 x2 x3 x4 x5)), (.int ((w0_13 x0 x1 x2 x3 x4 x5) 3))] [] pd___JJIII_Lcom_example_micro_ranker_microranker_engine_Block_ rfl rfl (st := [(.int ((w0_13 x0 x1 x2 x3 x4 x5) 3)), (.int (q0_5 x0 x1 x2 x3 x4 x5)), (.int (4 : Int32)), (.long (q0_2 x0 x1 x2 x3 x4 x5).toInt64), (.ref yw229), (.ref a241)]) rfl (Ls := #[vi x0, vi x1, vj x2, s2, vj x3, s2, vj x4, s2, vi x5, vi 4, vi (q0_2 x0 x1 x2 x3 x4 x5), vi (q0_3 x0 x1 x2 x3 x4 x5), vi (q0_4 x0 x1 x2 x3 x4 x5), vi (q0_5 x0 x1 x2 x3 x4 x5), vr a21, vr a22, vr a221, vj ((f11 s238) - (q0_2 x0 x1 x2 x3 x4 x5).toInt64), s2, us]) rfl (Nat.le_of_eq rfl) (by decide) (by decide) (by decide) (by decide)
        obtain ⟨rfl, M278, K278, H278_0, H278_1, H278_2, H278_3, H278_4, H278_5⟩ := Q278
        have N278 := Fr.app N262 M278
        have zz278 : n0 ≤ T278.heap.size := Nat.le_trans zz262 K278.1
        refine c278 ?_
        show OG p.tables e below _ (T278.setTop (mkF m 251 #[vi x0, vi x1, vj x2, s2, vj x3, s2, vj x4, s2, vi x5, vi 4, vi (q0_2 x0 x1 x2 x3 x4 x5), vi (q0_3 x0 x1 x2 x3 x4 x5), vi (q0_4 x0 x1 x2 x3 x4 x5), vi (q0_5 x0 x1 x2 x3 x4 x5), vr a21, vr a22, vr a221, vj ((f11 s238) - (q0_2 x0 x1 x2 x3 x4 x5).toInt64), s2, us] [(.ref a241)]))
        refine o_astore B278 251 253 (l' := #[vi x0, vi x1, vj x2, s2, vj x3, s2, vj x4, s2, vi x5, vi 4, vi (q0_2 x0 x1 x2 x3 x4 x5), vi (q0_3 x0 x1 x2 x3 x4 x5), vi (q0_4 x0 x1 x2 x3 x4 x5), vi (q0_5 x0 x1 x2 x3 x4 x5), vr a21, vr a22, vr a221, vj ((f11 s238) - (q0_2 x0 x1 x2 x3 x4 x5).toInt64), s2, vr a241]) at_251 rfl rfl rfl ?_
        refine o_aload B278 253 255 (v := (.ref a241)) at_253 rfl rfl rfl ?_
        have F279 := (F265.keep K278)
        obtain ⟨T280, B280, c280⟩ := o_callVP B278 255 258 at_255 rfl (hw _ (mi 106 rfl)) (hw _ (mi 107 rfl)) (hw _ (mi 109 rfl)) (hw _ (mi 108 rfl)) (hw _ (mi 36 rfl)) (hw _ (mi 110 rfl)) (by decide) F279 (rm17 l Z a0 hw a241 (4 : Int32) ((w0_13 x0 x1 x2 x3 x4 x5) 3) (q0_5 x0 x1 x2 x3 x4 x5) (f18 (((w0_13 x0 x1 x2 x3 x4 x5) 3) - (q0_5 x0 x1 x2 x3 x4 x5)) (3 : Int32)) ((((q0_2 x0 x1 x2 x3 x4 x5).toInt64 + (5 : Int64)) + ((3 : Int64) * ((f18 (((w0_13 x0 x1 x2 x3 x4 x5) 3) - (q0_5 x0 x1 x2 x3 x4 x5)) (3 : Int32)) + (f15 g238 (q0_2 x0 x1 x2 x3 x4 x5).toInt64 (5 : Int32))).toInt64)) + (f15 g238 (q0_2 x0 x1 x2 x3 x4 x5).toInt64 (5 : Int32)).toInt64) ((q0_2 x0 x1 x2 x3 x4 x5).toInt64 + (5 : Int64)) T278.heap H278_0 H278_1 H278_2 H278_3 H278_4 H278_5) 0 [] [] pd___J rfl rfl (st := [(.ref a241)]) rfl (Ls := #[vi x0, vi x1, vj x2, s2, vj x3, s2, vj x4, s2, vi x5, vi 4, vi (q0_2 x0 x1 x2 x3 x4 x5), vi (q0_3 x0 x1 x2 x3 x4 x5), vi (q0_4 x0 x1 x2 x3 x4 x5), vi (q0_5 x0 x1 x2 x3 x4 x5), vr a21, vr a22, vr a221, vj ((f11 s238) - (q0_2 x0 x1 x2 x3 x4 x5).toInt64), s2, vr a241]) rfl (Nat.le_of_eq rfl) (by decide) (by decide) (by decide) (by decide)
        refine c280 ?_
        refine o_lload B280 258 260 (v := ((f11 s238) - (q0_2 x0 x1 x2 x3 x4 x5).toInt64)) at_258 rfl rfl ?_
        refine o_lcmp B280 260 261 at_260 rfl ?_
        have hfin : (f17 (4 : Int32) ((w0_13 x0 x1 x2 x3 x4 x5) 3) (q0_5 x0 x1 x2 x3 x4 x5) (f18 (((w0_13 x0 x1 x2 x3 x4 x5) 3) - (q0_5 x0 x1 x2 x3 x4 x5)) (3 : Int32)) ((((q0_2 x0 x1 x2 x3 x4 x5).toInt64 + (5 : Int64)) + ((3 : Int64) * ((f18 (((w0_13 x0 x1 x2 x3 x4 x5) 3) - (q0_5 x0 x1 x2 x3 x4 x5)) (3 : Int32)) + (f15 g238 (q0_2 x0 x1 x2 x3 x4 x5).toInt64 (5 : Int32))).toInt64)) + (f15 g238 (q0_2 x0 x1 x2 x3 x4 x5).toInt64 (5 : Int32)).toInt64) ((q0_2 x0 x1 x2 x3 x4 x5).toInt64 + (5 : Int64))) = ((f11 s238) - (q0_2 x0 x1 x2 x3 x4 x5).toInt64) := own_end4 (w0_13 x0 x1 x2 x3 x4 x5) (w0_23 x0 x1 x2 x3 x4 x5) (q0_5 x0 x1 x2 x3 x4 x5) (q0_2 x0 x1 x2 x3 x4 x5) g234 g238 s234 s238 x5.toInt64 (own_pre x0 x1 x2 x3 x4 x5) tA PA hBd tB PB
        refine o_ifN B280 261 264 at_261 rfl (XT.ll_ne_f hfin) ?_
        refine o_iconst B280 264 265 (1 : Int32) at_264 rfl (by decide) ?_
        refine o_goto B280 265 269 at_265 (by decide) (by decide) ?_
        refine o_retZ (t := .boolean) B280 269 at_269 hret hlk (by simp) (by decide) (by decide) ⟨(congrArg (fun z => some (Value.int z)) ((show nar .boolean (1 : Int32) = (1 : Int32) from rfl).trans (show f0 x0 x1 x2 x3 x4 x5 = (1 : Int32) from (if_neg k1).trans ((if_neg k2).trans ((if_neg k3).trans (rfl)))).symm)), N278⟩
theorem law_true (x0 x1 : Int32) (x2 x3 x4 : Int64) (x5 : Int32) : f0 x0 x1 x2 x3 x4 x5 = 1 := by
  unfold f0
  simp only [ite_self]
set_option maxRecDepth 65536 in
set_option maxHeartbeats 40000000 in
theorem comes_1 {Post : Tables → Env → Array Value → State → Outcome → State → Prop} (hpost : ∀ tb e args s v u, (limb_1_1.after args s (.returned v) u = true ∧ limb_1_2.after args s (.returned v) u = true ∧ True) → FrameEnd s (.returned v) u (Jvm.fieldLocs frame_1_writes args s ++ Jvm.arrayLocs frame_1_arrays args s ++ Jvm.staticLocs frame_1_statics s) 24 128 → Post tb e args s (.returned v) u) :
    ArmFor flags0 classFile x code maxLocals ret World_1 tables_1 room_1 Calls_1 rest_1 Pre_1 Post := by
  intro l hfl _ _ p e ha hc hk s m args below hf hA hF happ hP
  obtain ⟨hcalls, hrest, hpre⟩ := hP
  obtain ⟨-, -, -, hnamed, -, -, -, hat⟩ := (Spec.applies_iff hf).mp happ
  obtain ⟨hg, hn⟩ := and_e (Cond.before_iff.mp (show (Jvm.Cond.and given_1 narrow_1).before args s = true from hpre))
  obtain ⟨g0, hg⟩ := and_e hg
  obtain ⟨g1, hg⟩ := and_e hg
  obtain ⟨g2, hg⟩ := and_e hg
  obtain ⟨g3, hg⟩ := and_e hg
  obtain ⟨g4, hg⟩ := and_e hg
  obtain ⟨g5, hg⟩ := and_e hg
  obtain ⟨w0, w1, w2, w3, w4, w5, rfl⟩ : ∃ w0 w1 w2 w3 w4 w5 : Value, args = #[w0, w1, w2, w3, w4, w5] := by
    have hs : args.size = 6 := by simpa [Cond.value, given_1] using g0
    obtain ⟨L⟩ := args
    match L, hs with
    | [w0, w1, w2, w3, w4, w5], _ => exact ⟨w0, w1, w2, w3, w4, w5, rfl⟩
  have hw := fun d (hd : d ∈ tables_1) => atoms_spec (ws := Jvm.Cond.code x code maxLocals ret :: tables_1) hat d (List.mem_cons_of_mem _ hd)
  obtain ⟨i0, e0⟩ := is_v g1
  obtain rfl : w0 = (.int i0) := Option.some.inj e0
  obtain ⟨i1, e1⟩ := is_v g2
  obtain rfl : w1 = (.int i1) := Option.some.inj e1
  obtain ⟨i2, e2⟩ := isL_v g3
  obtain rfl : w2 = (.long i2) := Option.some.inj e2
  obtain ⟨i3, e3⟩ := isL_v g4
  obtain rfl : w3 = (.long i3) := Option.some.inj e3
  obtain ⟨i4, e4⟩ := isL_v g5
  obtain rfl : w4 = (.long i4) := Option.some.inj e4
  obtain ⟨i5, e5⟩ := is_v hg
  obtain rfl : w5 = (.int i5) := Option.some.inj e5
  obtain ⟨n, o, h1, h2, h3, v, L, rfl, ⟨rfl, N⟩, hq⟩ := rm0 l s _ hw tables_1 i0 i1 i2 i3 i4 i5 s.heap s.heap.size (Nat.le_refl _) p e ha hc hk s m _ below hf ((Spec.applies_iff_loose hf).mp happ).1 ⟨rfl, State.Warmed39.refl s, rfl⟩ trivial
  rw [law_true] at h3 hq
  refine ⟨n, _, h1, h2, h3, hpost _ _ _ _ _ _ ⟨Cond.after_iff.mpr rfl, Cond.after_iff.mpr (eq_i res_at (Term.int_eval (1)) rfl), trivial⟩ ⟨hq.1, hq.2.1, (hq.2.2.sift fun y hy => Or.inr (N y hy)).mono (by decide) (by decide)⟩⟩
theorem main_1_1 : Claimed_1_1 := comes_1 fun _ _ _ _ _ _ h hF => ⟨h.1, hF⟩
theorem main_1_2 : Claimed_1_2 := comes_1 fun _ _ _ _ _ _ h hF => ⟨h.2.1, hF⟩
end Jvm.Pilot.@@N@@
namespace Jvm.Pilot.@@N@@
open Jvm Jvm.ClassFile Sem Op Lib Jvm.Free Jvm.Stand Jvm.Pilot.@@N@@.Jvm.D
/-! MADE BY PROGRAM (witnessworld.py) out of the Statement's table words and the real class files: 20 classes; the members and pool entries that the words name. The judged class is class 1, her method 1. -/
namespace start1
open Jvm.ClassFile
def u (s : String) : CpInfo := .utf8 (stringToUtf16 s)
/-- a pool by its gaps: so many unusable entries, then the entry; so many at the end -/
def gap : Nat → List CpInfo → List CpInfo
  | 0, r => r
  | n + 1, r => .unusable :: gap n r
def poolList (es : List (Nat × CpInfo)) (last : Nat) : List CpInfo := es.foldr (fun e r => gap e.1 (e.2 :: r)) (gap last [])
def pool (es : List (Nat × CpInfo)) (last : Nat) : Array CpInfo := ⟨poolList es last⟩
def fileOf (pool : Array CpInfo) (this : Nat) (attrs : Array Attribute := #[]) (ms : Array MethodInfo := #[]) (fl : Nat := 33) (sup : Nat := 0) (ifs : Array Nat := #[]) (fds : Array FieldInfo := #[]) : ClassFile where
  minorVersion := 0
  majorVersion := 65
  constantPool := pool
  accessFlags := fl
  thisClass := this
  superClass := sup
  interfaces := ifs
  fields := fds
  methods := ms
  attributes := attrs
def plain (name : String) (sup : Option ClassId) : Class where
  name := name
  kind := .ordinary
  loader := none
  accessFlags := 33
  super := sup
  interfaces := #[]
  cf := none
  fields := #[]
  methods := #[]
  instanceTypes := #[]
  staticTypes := #[]
  resolved := #[]
  callSites := []
  init := .initialized
  statics := none
  mirror := none

def pool0 : Array CpInfo := pool [(5, u "<init>"), (0, u "()V"), (1, .class_ 10), (1, u "java/lang/Object")] 113

def k0c0 : Code := { maxStack := 0, maxLocals := 1, code := object_method_1_code, exceptionTable := #[], attributes := #[] }
def k0m0 : Method := { name := "<init>", desc := "()V", sig := { parameters := [], returnType := none }, accessFlags := 1, code := some k0c0 }
/-- java/lang/Object -/
def k0 : Class := { plain "java/lang/Object" none with
  accessFlags := 33
  interfaces := #[]
  cf := some (fileOf pool0 8 #[] #[{ accessFlags := 1, nameIndex := 5, descriptorIndex := 6, attributes := #[] }] 33 0 #[] #[])
  fields := #[]
  methods := #[k0m0]
  instanceTypes := #[]
  staticTypes := #[]
  resolved := Array.replicate 124 none
  statics := none }

def pool1 : Array CpInfo := pool [(2, .class_ 4), (0, .nameAndType 5 6), (0, u "java/lang/Object"), (0, u "<init>"), (0, u "()V"), (0, .integer 268435455), (0, .methodref 9 10), (0, .class_ 11), (0, .nameAndType 12 13), (0, u "com/example/micro_ranker/microranker/engine/BlockSizePinLaw"), (0, u "freq"), (0, u "(II)I"), (0, .class_ 15), (0, u "com/example/micro_ranker/microranker/engine/BitWriter"), (0, .methodref 14 3), (0, .methodref 14 18), (0, .nameAndType 19 20), (0, u "write"), (0, u "(JI)V"), (0, .methodref 22 23), (0, .class_ 24), (0, .nameAndType 19 25), (0, u "com/example/micro_ranker/microranker/engine/Block"), (0, u "(Lcom/example/micro_ranker/microranker/engine/BitWriter;[I[IIII)V"), (0, .methodref 14 27), (0, .nameAndType 28 29), (0, u "size"), (0, u "()J"), (0, .methodref 22 3), (0, .methodref 14 32), (0, .nameAndType 33 34), (0, u "words"), (0, u "()[J"), (0, .methodref 22 36), (0, .nameAndType 37 38), (0, u "load"), (0, u "([JJIII)Lcom/example/micro_ranker/microranker/engine/Block;"), (0, .methodref 22 27), (0, .integer 2147483647), (0, .methodref 42 43), (0, .class_ 44), (0, .nameAndType 45 13), (0, u "java/lang/Math"), (0, u "max"), (2, u "law"), (0, u "(IIJJJI)Z")] 5

def k1m0 : Method := { name := "<init>", desc := "()V", sig := { parameters := [], returnType := none }, accessFlags := 1, code := none }
def k1c1 : Code := { maxStack := 9, maxLocals := 20, code := code, exceptionTable := #[], attributes := #[] }
def k1m1 : Method := { name := "law", desc := "(IIJJJI)Z", sig := { parameters := [.int, .int, .long, .long, .long, .int], returnType := some .boolean }, accessFlags := 9, code := some k1c1 }
def k1c2 : Code := { maxStack := 3, maxLocals := 2, code := method_3_code, exceptionTable := #[], attributes := #[] }
def k1m2 : Method := { name := "freq", desc := "(II)I", sig := { parameters := [.int, .int], returnType := some .int }, accessFlags := 10, code := some k1c2 }
/-- com/example/micro_ranker/microranker/engine/BlockSizePinLaw -/
def k1 : Class := { plain "com/example/micro_ranker/microranker/engine/BlockSizePinLaw" (some 0) with
  accessFlags := 49
  interfaces := #[]
  cf := some (fileOf pool1 9 #[] #[{ accessFlags := 1, nameIndex := 5, descriptorIndex := 6, attributes := #[] }, { accessFlags := 9, nameIndex := 48, descriptorIndex := 49, attributes := #[] }, { accessFlags := 10, nameIndex := 12, descriptorIndex := 13, attributes := #[] }] 49 2 #[] #[])
  fields := #[]
  methods := #[k1m0, k1m1, k1m2]
  instanceTypes := #[]
  staticTypes := #[]
  resolved := Array.replicate 55 none
  statics := none }

def pool2 : Array CpInfo := pool [(1, .class_ 2), (0, u "java/lang/Math"), (1, .class_ 6), (1, u "java/lang/Object"), (0, u "<init>"), (0, u "()V"), (89, .class_ 100), (1, u "java/lang/Math$RandomNumberGeneratorHolder"), (71, u "negativeZeroFloatBits"), (0, u "J"), (2, u "negativeZeroDoubleBits"), (21, u "max"), (46, u "$assertionsDisabled"), (0, u "Z"), (88, u "(II)I"), (2, u "twoToTheDoubleScaleDown"), (0, u "D"), (4, u "twoToTheDoubleScaleUp"), (9, u "E"), (3, u "PI"), (2, u "TAU"), (2, u "DEGREES_TO_RADIANS"), (0, u "RADIANS_TO_DEGREES")] 94

def k2m0 : Method := { name := "<init>", desc := "()V", sig := { parameters := [], returnType := none }, accessFlags := 2, code := none }
def k2c1 : Code := { maxStack := 2, maxLocals := 2, code := jdk_29_method_65_code, exceptionTable := #[], attributes := #[] }
def k2m1 : Method := { name := "max", desc := "(II)I", sig := { parameters := [.int, .int], returnType := some .int }, accessFlags := 9, code := some k2c1 }
/-- java/lang/Math -/
def k2 : Class := { plain "java/lang/Math" (some 0) with
  accessFlags := 49
  interfaces := #[]
  cf := some (fileOf pool2 1 #[.nestMembers #[98]] #[{ accessFlags := 2, nameIndex := 7, descriptorIndex := 8, attributes := #[] }, { accessFlags := 9, nameIndex := 198, descriptorIndex := 335, attributes := #[] }] 49 4 #[] #[{ accessFlags := 25, nameIndex := 354, descriptorIndex := 339, attributes := #[] }, { accessFlags := 25, nameIndex := 358, descriptorIndex := 339, attributes := #[] }, { accessFlags := 25, nameIndex := 361, descriptorIndex := 339, attributes := #[] }, { accessFlags := 26, nameIndex := 364, descriptorIndex := 339, attributes := #[] }, { accessFlags := 26, nameIndex := 365, descriptorIndex := 339, attributes := #[] }, { accessFlags := 26, nameIndex := 172, descriptorIndex := 173, attributes := #[] }, { accessFlags := 26, nameIndex := 176, descriptorIndex := 173, attributes := #[] }, { accessFlags := 8, nameIndex := 344, descriptorIndex := 339, attributes := #[] }, { accessFlags := 8, nameIndex := 338, descriptorIndex := 339, attributes := #[] }, { accessFlags := 4120, nameIndex := 245, descriptorIndex := 246, attributes := #[] }])
  fields := #[{ name := "E", type := .double, accessFlags := 25, slot := 0, constantValue := 0 }, { name := "PI", type := .double, accessFlags := 25, slot := 1, constantValue := 0 }, { name := "TAU", type := .double, accessFlags := 25, slot := 2, constantValue := 0 }, { name := "DEGREES_TO_RADIANS", type := .double, accessFlags := 26, slot := 3, constantValue := 0 }, { name := "RADIANS_TO_DEGREES", type := .double, accessFlags := 26, slot := 4, constantValue := 0 }, { name := "negativeZeroFloatBits", type := .long, accessFlags := 26, slot := 5, constantValue := 0 }, { name := "negativeZeroDoubleBits", type := .long, accessFlags := 26, slot := 6, constantValue := 0 }, { name := "twoToTheDoubleScaleUp", type := .double, accessFlags := 8, slot := 7, constantValue := 0 }, { name := "twoToTheDoubleScaleDown", type := .double, accessFlags := 8, slot := 8, constantValue := 0 }, { name := "$assertionsDisabled", type := .boolean, accessFlags := 4120, slot := 9, constantValue := 0 }]
  methods := #[k2m0, k2m1]
  instanceTypes := #[]
  staticTypes := #[.double, .double, .double, .double, .double, .long, .long, .double, .double, .boolean]
  resolved := Array.replicate 460 none
  statics := none }

def pool3 : Array CpInfo := pool [(3, .methodref 4 5), (0, .class_ 6), (0, .nameAndType 7 8), (0, u "java/lang/Object"), (0, u "<init>"), (0, u "()V"), (0, .fieldref 10 11), (0, .class_ 12), (0, .nameAndType 13 14), (0, u "com/example/micro_ranker/microranker/engine/BitWriter"), (0, u "words"), (0, u "[J"), (0, .fieldref 10 16), (0, .nameAndType 17 18), (0, u "size"), (0, u "J"), (0, .methodref 10 20), (0, .nameAndType 21 22), (0, u "reserve"), (0, u "(J)V"), (2, .long 18446744073709551615), (11, u "write"), (0, u "(JI)V"), (20, .long 2147483639), (8, .long 2), (8, u "LONGEST_ARRAY"), (0, u "I"), (4, u "()J"), (0, u "()[J"), (3, u "skip"), (0, u "set")] 7

def k3c0 : Code := { maxStack := 2, maxLocals := 1, code := prog_16_method_1_code, exceptionTable := #[], attributes := #[] }
def k3m0 : Method := { name := "<init>", desc := "()V", sig := { parameters := [], returnType := none }, accessFlags := 0, code := some k3c0 }
def k3c1 : Code := { maxStack := 2, maxLocals := 1, code := prog_16_method_2_code, exceptionTable := #[], attributes := #[] }
def k3m1 : Method := { name := "size", desc := "()J", sig := { parameters := [], returnType := some .long }, accessFlags := 0, code := some k3c1 }
def k3c2 : Code := { maxStack := 1, maxLocals := 1, code := prog_16_method_3_code, exceptionTable := #[], attributes := #[] }
def k3m2 : Method := { name := "words", desc := "()[J", sig := { parameters := [], returnType := some (.array .long) }, accessFlags := 0, code := some k3c2 }
def k3c3 : Code := { maxStack := 8, maxLocals := 8, code := prog_16_method_4_code, exceptionTable := #[], attributes := #[] }
def k3m3 : Method := { name := "write", desc := "(JI)V", sig := { parameters := [.long, .int], returnType := none }, accessFlags := 0, code := some k3c3 }
def k3c4 : Code := { maxStack := 5, maxLocals := 3, code := prog_16_method_6_code, exceptionTable := #[], attributes := #[] }
def k3m4 : Method := { name := "skip", desc := "(J)V", sig := { parameters := [.long], returnType := none }, accessFlags := 0, code := some k3c4 }
def k3c5 : Code := { maxStack := 8, maxLocals := 3, code := prog_16_method_7_code, exceptionTable := #[], attributes := #[] }
def k3m5 : Method := { name := "set", desc := "(J)V", sig := { parameters := [.long], returnType := none }, accessFlags := 0, code := some k3c5 }
def k3c6 : Code := { maxStack := 10, maxLocals := 5, code := prog_16_method_11_code, exceptionTable := #[], attributes := #[] }
def k3m6 : Method := { name := "reserve", desc := "(J)V", sig := { parameters := [.long], returnType := none }, accessFlags := 2, code := some k3c6 }
/-- com/example/micro_ranker/microranker/engine/BitWriter -/
def k3 : Class := { plain "com/example/micro_ranker/microranker/engine/BitWriter" (some 0) with
  accessFlags := 32
  interfaces := #[]
  cf := some (fileOf pool3 10 #[] #[{ accessFlags := 0, nameIndex := 7, descriptorIndex := 8, attributes := #[] }, { accessFlags := 0, nameIndex := 17, descriptorIndex := 83, attributes := #[] }, { accessFlags := 0, nameIndex := 13, descriptorIndex := 84, attributes := #[] }, { accessFlags := 0, nameIndex := 37, descriptorIndex := 38, attributes := #[] }, { accessFlags := 0, nameIndex := 88, descriptorIndex := 22, attributes := #[] }, { accessFlags := 0, nameIndex := 89, descriptorIndex := 22, attributes := #[] }, { accessFlags := 2, nameIndex := 21, descriptorIndex := 22, attributes := #[] }] 32 4 #[] #[{ accessFlags := 26, nameIndex := 77, descriptorIndex := 78, attributes := #[] }, { accessFlags := 2, nameIndex := 13, descriptorIndex := 14, attributes := #[] }, { accessFlags := 2, nameIndex := 17, descriptorIndex := 18, attributes := #[] }])
  fields := #[{ name := "LONGEST_ARRAY", type := .int, accessFlags := 26, slot := 0, constantValue := 0 }, { name := "words", type := (.array .long), accessFlags := 2, slot := 0, constantValue := 0 }, { name := "size", type := .long, accessFlags := 2, slot := 1, constantValue := 0 }]
  methods := #[k3m0, k3m1, k3m2, k3m3, k3m4, k3m5, k3m6]
  instanceTypes := #[(.array .long), .long]
  staticTypes := #[.int]
  resolved := Array.replicate 97 none
  statics := none }

def pool4 : Array CpInfo := pool [(1, .class_ 2), (0, u "com/example/micro_ranker/microranker/engine/Block"), (2, .methodref 6 7), (0, .class_ 8), (0, .nameAndType 9 10), (0, u "java/lang/Object"), (0, u "<init>"), (0, u "()V"), (0, .methodref 12 13), (0, .class_ 14), (0, .nameAndType 15 16), (0, u "java/lang/Math"), (0, u "max"), (0, u "(II)I"), (0, .methodref 18 19), (0, .class_ 20), (0, .nameAndType 21 22), (0, u "com/example/micro_ranker/microranker/engine/Bits"), (0, u "width"), (0, u "(J)I"), (0, .methodref 24 25), (0, .class_ 26), (0, .nameAndType 27 28), (0, u "com/example/micro_ranker/microranker/engine/BitWriter"), (0, u "write"), (0, u "(JI)V"), (0, .methodref 1 30), (0, .nameAndType 31 16), (0, u "lowWidth"), (0, .long 18446744073709551615), (1, .methodref 24 35), (0, .nameAndType 36 37), (0, u "size"), (0, u "()J"), (0, .methodref 24 39), (0, .nameAndType 40 41), (0, u "skip"), (0, u "(J)V"), (0, .methodref 24 43), (0, .nameAndType 44 41), (0, u "set"), (0, .fieldref 1 46), (0, .nameAndType 47 48), (0, u "words"), (0, u "[J"), (0, .fieldref 1 50), (0, .nameAndType 51 52), (0, u "count"), (0, u "I"), (0, .fieldref 1 54), (0, .nameAndType 55 52), (0, u "base"), (0, .fieldref 1 57), (0, .nameAndType 58 52), (0, u "last"), (0, .methodref 18 60), (0, .nameAndType 61 62), (0, u "read"), (0, u "([JJI)I"), (0, .fieldref 1 64), (0, .nameAndType 65 52), (0, u "frequencyWidth"), (0, .fieldref 1 67), (0, .nameAndType 31 52), (0, .long 5), (1, .fieldref 1 71), (0, .nameAndType 72 73), (0, u "entries"), (0, u "J"), (0, .fieldref 1 75), (0, .nameAndType 76 73), (0, u "highs"), (0, .fieldref 1 78), (0, .nameAndType 79 52), (0, u "entry"), (0, .fieldref 1 81), (0, .nameAndType 82 73), (0, u "position"), (0, .fieldref 1 84), (0, .nameAndType 85 52), (0, u "document"), (51, u "SHIFT"), (2, u "SIZE"), (1, u "WIDTH_BITS"), (1, u "WINDOW"), (3, u "(Lcom/example/micro_ranker/microranker/engine/BitWriter;[I[IIII)V"), (3, u "load"), (0, u "([JJIII)Lcom/example/micro_ranker/microranker/engine/Block;")] 6

def k4c0 : Code := { maxStack := 1, maxLocals := 1, code := prog_18_method_1_code, exceptionTable := #[], attributes := #[] }
def k4m0 : Method := { name := "<init>", desc := "()V", sig := { parameters := [], returnType := none }, accessFlags := 0, code := some k4c0 }
def k4c1 : Code := { maxStack := 7, maxLocals := 20, code := prog_18_method_2_code, exceptionTable := #[], attributes := #[] }
def k4m1 : Method := { name := "write", desc := "(Lcom/example/micro_ranker/microranker/engine/BitWriter;[I[IIII)V", sig := { parameters := [(.object "com/example/micro_ranker/microranker/engine/BitWriter"), (.array .int), (.array .int), .int, .int, .int], returnType := none }, accessFlags := 8, code := some k4c1 }
def k4c2 : Code := { maxStack := 7, maxLocals := 7, code := prog_18_method_3_code, exceptionTable := #[], attributes := #[] }
def k4m2 : Method := { name := "load", desc := "([JJIII)Lcom/example/micro_ranker/microranker/engine/Block;", sig := { parameters := [(.array .long), .long, .int, .int, .int], returnType := some (.object "com/example/micro_ranker/microranker/engine/Block") }, accessFlags := 0, code := some k4c2 }
def k4c3 : Code := { maxStack := 6, maxLocals := 3, code := prog_18_method_6_code, exceptionTable := #[], attributes := #[] }
def k4m3 : Method := { name := "size", desc := "()J", sig := { parameters := [], returnType := some .long }, accessFlags := 0, code := some k4c3 }
def k4c4 : Code := { maxStack := 4, maxLocals := 3, code := prog_18_method_18_code, exceptionTable := #[], attributes := #[] }
def k4m4 : Method := { name := "lowWidth", desc := "(II)I", sig := { parameters := [.int, .int], returnType := some .int }, accessFlags := 10, code := some k4c4 }
/-- com/example/micro_ranker/microranker/engine/Block -/
def k4 : Class := { plain "com/example/micro_ranker/microranker/engine/Block" (some 0) with
  accessFlags := 32
  interfaces := #[]
  cf := some (fileOf pool4 1 #[] #[{ accessFlags := 0, nameIndex := 9, descriptorIndex := 10, attributes := #[] }, { accessFlags := 8, nameIndex := 27, descriptorIndex := 148, attributes := #[] }, { accessFlags := 0, nameIndex := 152, descriptorIndex := 153, attributes := #[] }, { accessFlags := 0, nameIndex := 36, descriptorIndex := 37, attributes := #[] }, { accessFlags := 10, nameIndex := 31, descriptorIndex := 16, attributes := #[] }] 32 6 #[] #[{ accessFlags := 24, nameIndex := 137, descriptorIndex := 52, attributes := #[] }, { accessFlags := 24, nameIndex := 140, descriptorIndex := 52, attributes := #[] }, { accessFlags := 26, nameIndex := 142, descriptorIndex := 52, attributes := #[] }, { accessFlags := 26, nameIndex := 144, descriptorIndex := 52, attributes := #[] }, { accessFlags := 2, nameIndex := 47, descriptorIndex := 48, attributes := #[] }, { accessFlags := 2, nameIndex := 51, descriptorIndex := 52, attributes := #[] }, { accessFlags := 2, nameIndex := 55, descriptorIndex := 52, attributes := #[] }, { accessFlags := 2, nameIndex := 58, descriptorIndex := 52, attributes := #[] }, { accessFlags := 2, nameIndex := 65, descriptorIndex := 52, attributes := #[] }, { accessFlags := 2, nameIndex := 31, descriptorIndex := 52, attributes := #[] }, { accessFlags := 2, nameIndex := 72, descriptorIndex := 73, attributes := #[] }, { accessFlags := 2, nameIndex := 76, descriptorIndex := 73, attributes := #[] }, { accessFlags := 2, nameIndex := 79, descriptorIndex := 52, attributes := #[] }, { accessFlags := 2, nameIndex := 82, descriptorIndex := 73, attributes := #[] }, { accessFlags := 2, nameIndex := 85, descriptorIndex := 52, attributes := #[] }])
  fields := #[{ name := "SHIFT", type := .int, accessFlags := 24, slot := 0, constantValue := 0 }, { name := "SIZE", type := .int, accessFlags := 24, slot := 1, constantValue := 0 }, { name := "WIDTH_BITS", type := .int, accessFlags := 26, slot := 2, constantValue := 0 }, { name := "WINDOW", type := .int, accessFlags := 26, slot := 3, constantValue := 0 }, { name := "words", type := (.array .long), accessFlags := 2, slot := 0, constantValue := 0 }, { name := "count", type := .int, accessFlags := 2, slot := 1, constantValue := 0 }, { name := "base", type := .int, accessFlags := 2, slot := 2, constantValue := 0 }, { name := "last", type := .int, accessFlags := 2, slot := 3, constantValue := 0 }, { name := "frequencyWidth", type := .int, accessFlags := 2, slot := 4, constantValue := 0 }, { name := "lowWidth", type := .int, accessFlags := 2, slot := 5, constantValue := 0 }, { name := "entries", type := .long, accessFlags := 2, slot := 6, constantValue := 0 }, { name := "highs", type := .long, accessFlags := 2, slot := 7, constantValue := 0 }, { name := "entry", type := .int, accessFlags := 2, slot := 8, constantValue := 0 }, { name := "position", type := .long, accessFlags := 2, slot := 9, constantValue := 0 }, { name := "document", type := .int, accessFlags := 2, slot := 10, constantValue := 0 }]
  methods := #[k4m0, k4m1, k4m2, k4m3, k4m4]
  instanceTypes := #[(.array .long), .int, .int, .int, .int, .int, .long, .long, .int, .long, .int]
  staticTypes := #[.int, .int, .int, .int]
  resolved := Array.replicate 160 none
  statics := none }

def pool5 : Array CpInfo := pool [(2, .class_ 4), (1, u "java/lang/Object"), (0, u "<init>"), (0, u "()V"), (0, .class_ 8), (0, u "java/lang/Long"), (0, .methodref 7 10), (0, .nameAndType 11 12), (0, u "numberOfLeadingZeros"), (0, u "(J)I"), (0, .methodref 14 15), (0, .class_ 16), (0, .nameAndType 17 18), (0, u "com/example/micro_ranker/microranker/engine/Bits"), (0, u "window"), (0, u "([JJ)J"), (0, .long 18446744073709551615), (10, u "PADDING"), (0, u "I"), (4, u "width"), (0, u "read"), (0, u "([JJI)I")] 7

def k5m0 : Method := { name := "<init>", desc := "()V", sig := { parameters := [], returnType := none }, accessFlags := 2, code := none }
def k5c1 : Code := { maxStack := 3, maxLocals := 2, code := prog_17_method_2_code, exceptionTable := #[], attributes := #[] }
def k5m1 : Method := { name := "width", desc := "(J)I", sig := { parameters := [.long], returnType := some .int }, accessFlags := 8, code := some k5c1 }
def k5c2 : Code := { maxStack := 6, maxLocals := 4, code := prog_17_method_3_code, exceptionTable := #[], attributes := #[] }
def k5m2 : Method := { name := "read", desc := "([JJI)I", sig := { parameters := [(.array .long), .long, .int], returnType := some .int }, accessFlags := 8, code := some k5c2 }
def k5c3 : Code := { maxStack := 6, maxLocals := 5, code := prog_17_method_5_code, exceptionTable := #[], attributes := #[] }
def k5m3 : Method := { name := "window", desc := "([JJ)J", sig := { parameters := [(.array .long), .long], returnType := some .long }, accessFlags := 8, code := some k5c3 }
/-- com/example/micro_ranker/microranker/engine/Bits -/
def k5 : Class := { plain "com/example/micro_ranker/microranker/engine/Bits" (some 0) with
  accessFlags := 32
  interfaces := #[]
  cf := some (fileOf pool5 14 #[] #[{ accessFlags := 2, nameIndex := 5, descriptorIndex := 6, attributes := #[] }, { accessFlags := 8, nameIndex := 36, descriptorIndex := 12, attributes := #[] }, { accessFlags := 8, nameIndex := 37, descriptorIndex := 38, attributes := #[] }, { accessFlags := 8, nameIndex := 17, descriptorIndex := 18, attributes := #[] }] 32 2 #[] #[{ accessFlags := 24, nameIndex := 30, descriptorIndex := 31, attributes := #[] }])
  fields := #[{ name := "PADDING", type := .int, accessFlags := 24, slot := 0, constantValue := 0 }]
  methods := #[k5m0, k5m1, k5m2, k5m3]
  instanceTypes := #[]
  staticTypes := #[.int]
  resolved := Array.replicate 46 none
  statics := none }

def pool6 : Array CpInfo := pool [(1, .class_ 2), (0, u "java/io/Serializable"), (0, .class_ 4), (0, u "java/lang/Object")] 2

/-- java/io/Serializable -/
def k6 : Class := { plain "java/io/Serializable" (some 0) with
  accessFlags := 1537
  interfaces := #[]
  cf := some (fileOf pool6 1 #[] #[] 1537 3 #[] #[])
  fields := #[]
  methods := #[]
  instanceTypes := #[]
  staticTypes := #[]
  resolved := Array.replicate 7 none
  statics := none }

def pool7 : Array CpInfo := pool [(2, .class_ 4), (1, u "java/lang/Object"), (0, u "<init>"), (0, u "()V"), (1, .class_ 10), (1, u "java/lang/Number"), (2, .class_ 14), (0, u "java/io/Serializable"), (0, u "serialVersionUID"), (0, u "J")] 20

def k7m0 : Method := { name := "<init>", desc := "()V", sig := { parameters := [], returnType := none }, accessFlags := 1, code := none }
/-- java/lang/Number -/
def k7 : Class := { plain "java/lang/Number" (some 0) with
  accessFlags := 1057
  interfaces := #[6]
  cf := some (fileOf pool7 8 #[] #[{ accessFlags := 1, nameIndex := 5, descriptorIndex := 6, attributes := #[] }] 1057 2 #[13] #[{ accessFlags := 26, nameIndex := 15, descriptorIndex := 16, attributes := #[] }])
  fields := #[{ name := "serialVersionUID", type := .long, accessFlags := 26, slot := 0, constantValue := 0 }]
  methods := #[k7m0]
  instanceTypes := #[]
  staticTypes := #[.long]
  resolved := Array.replicate 37 none
  statics := none }

def pool8 : Array CpInfo := pool [(1, .class_ 2), (0, u "java/lang/Comparable"), (0, .class_ 4), (0, u "java/lang/Object")] 7

/-- java/lang/Comparable -/
def k8 : Class := { plain "java/lang/Comparable" (some 0) with
  accessFlags := 1537
  interfaces := #[]
  cf := some (fileOf pool8 1 #[] #[] 1537 3 #[] #[])
  fields := #[]
  methods := #[]
  instanceTypes := #[]
  staticTypes := #[]
  resolved := Array.replicate 12 none
  statics := none }

def pool9 : Array CpInfo := pool [(1, .class_ 2), (0, u "java/lang/constant/Constable"), (0, .class_ 4), (0, u "java/lang/Object")] 6

/-- java/lang/constant/Constable -/
def k9 : Class := { plain "java/lang/constant/Constable" (some 0) with
  accessFlags := 1537
  interfaces := #[]
  cf := some (fileOf pool9 1 #[] #[] 1537 3 #[] #[])
  fields := #[]
  methods := #[]
  instanceTypes := #[]
  staticTypes := #[]
  resolved := Array.replicate 11 none
  statics := none }

def pool10 : Array CpInfo := pool [(1, .class_ 2), (0, u "java/lang/constant/ConstantDesc"), (0, .class_ 4), (0, u "java/lang/Object")] 32

/-- java/lang/constant/ConstantDesc -/
def k10 : Class := { plain "java/lang/constant/ConstantDesc" (some 0) with
  accessFlags := 1537
  interfaces := #[]
  cf := some (fileOf pool10 1 #[] #[] 1537 3 #[] #[])
  fields := #[]
  methods := #[]
  instanceTypes := #[]
  staticTypes := #[]
  resolved := Array.replicate 37 none
  statics := none }

def pool11 : Array CpInfo := pool [(1, .class_ 2), (0, u "java/lang/Long"), (15, .class_ 20), (1, u "java/lang/Integer"), (79, u "numberOfLeadingZeros"), (0, u "(J)I"), (133, .class_ 237), (1, u "java/lang/Long$LongCache"), (33, .class_ 272), (0, u "java/lang/Number"), (2, u "value"), (0, u "J"), (31, .methodref 18 309), (0, .nameAndType 100 310), (0, u "(I)I"), (50, u "TYPE"), (0, u "Ljava/lang/Class;"), (0, .class_ 364), (0, u "java/lang/Comparable"), (0, .class_ 366), (0, u "java/lang/constant/Constable"), (0, .class_ 368), (0, u "java/lang/constant/ConstantDesc"), (0, u "MIN_VALUE"), (1, u "MAX_VALUE"), (4, u "SIZE"), (0, u "I"), (1, u "BYTES"), (1, u "serialVersionUID")] 142

def k11c0 : Code := { maxStack := 3, maxLocals := 3, code := jdk_35_method_48_code, exceptionTable := #[], attributes := #[] }
def k11m0 : Method := { name := "numberOfLeadingZeros", desc := "(J)I", sig := { parameters := [.long], returnType := some .int }, accessFlags := 9, code := some k11c0 }
/-- java/lang/Long -/
def k11 : Class := { plain "java/lang/Long" (some 7) with
  accessFlags := 49
  interfaces := #[8, 9, 10]
  cf := some (fileOf pool11 1 #[.nestMembers #[235]] #[{ accessFlags := 9, nameIndex := 100, descriptorIndex := 101, attributes := #[] }] 49 271 #[363, 365, 367] #[{ accessFlags := 25, nameIndex := 369, descriptorIndex := 276, attributes := #[] }, { accessFlags := 25, nameIndex := 371, descriptorIndex := 276, attributes := #[] }, { accessFlags := 25, nameIndex := 361, descriptorIndex := 362, attributes := #[] }, { accessFlags := 18, nameIndex := 275, descriptorIndex := 276, attributes := #[] }, { accessFlags := 25, nameIndex := 376, descriptorIndex := 377, attributes := #[] }, { accessFlags := 25, nameIndex := 379, descriptorIndex := 377, attributes := #[] }, { accessFlags := 26, nameIndex := 381, descriptorIndex := 276, attributes := #[] }])
  fields := #[{ name := "MIN_VALUE", type := .long, accessFlags := 25, slot := 0, constantValue := 0 }, { name := "MAX_VALUE", type := .long, accessFlags := 25, slot := 1, constantValue := 0 }, { name := "TYPE", type := (.object "java/lang/Class"), accessFlags := 25, slot := 2, constantValue := 0 }, { name := "value", type := .long, accessFlags := 18, slot := 0, constantValue := 0 }, { name := "SIZE", type := .int, accessFlags := 25, slot := 3, constantValue := 0 }, { name := "BYTES", type := .int, accessFlags := 25, slot := 4, constantValue := 0 }, { name := "serialVersionUID", type := .long, accessFlags := 26, slot := 5, constantValue := 0 }]
  methods := #[k11m0]
  instanceTypes := #[.long]
  staticTypes := #[.long, .long, (.object "java/lang/Class"), .int, .int, .long]
  resolved := Array.replicate 524 none
  statics := none }

def pool12 : Array CpInfo := pool [(1, .class_ 2), (0, u "java/lang/Integer"), (16, u "digits"), (0, u "[C"), (32, u "numberOfLeadingZeros"), (0, u "(I)I"), (30, u "DigitOnes"), (0, u "[B"), (2, u "DigitTens"), (99, .class_ 190), (0, u "java/lang/Integer$IntegerCache"), (3, u "I"), (8, .class_ 204), (0, u "java/lang/Number"), (2, u "value"), (56, .integer 65536), (37, u "TYPE"), (0, u "Ljava/lang/Class;"), (0, .class_ 305), (0, u "java/lang/Comparable"), (0, .class_ 307), (0, u "java/lang/constant/Constable"), (0, .class_ 309), (0, u "java/lang/constant/ConstantDesc"), (0, u "MIN_VALUE"), (1, u "MAX_VALUE"), (3, u "SIZE"), (1, u "BYTES"), (1, u "serialVersionUID"), (0, u "J")] 131

def k12c0 : Code := { maxStack := 3, maxLocals := 2, code := jdk_33_method_47_code, exceptionTable := #[], attributes := #[] }
def k12m0 : Method := { name := "numberOfLeadingZeros", desc := "(I)I", sig := { parameters := [.int], returnType := some .int }, accessFlags := 9, code := some k12c0 }
/-- java/lang/Integer -/
def k12 : Class := { plain "java/lang/Integer" (some 7) with
  accessFlags := 49
  interfaces := #[8, 9, 10]
  cf := some (fileOf pool12 1 #[.nestMembers #[189]] #[{ accessFlags := 9, nameIndex := 53, descriptorIndex := 54, attributes := #[] }] 49 203 #[304, 306, 308] #[{ accessFlags := 25, nameIndex := 310, descriptorIndex := 194, attributes := #[] }, { accessFlags := 25, nameIndex := 312, descriptorIndex := 194, attributes := #[] }, { accessFlags := 25, nameIndex := 302, descriptorIndex := 303, attributes := #[] }, { accessFlags := 24, nameIndex := 19, descriptorIndex := 20, attributes := #[] }, { accessFlags := 24, nameIndex := 89, descriptorIndex := 86, attributes := #[] }, { accessFlags := 24, nameIndex := 85, descriptorIndex := 86, attributes := #[] }, { accessFlags := 18, nameIndex := 207, descriptorIndex := 194, attributes := #[] }, { accessFlags := 25, nameIndex := 316, descriptorIndex := 194, attributes := #[] }, { accessFlags := 25, nameIndex := 318, descriptorIndex := 194, attributes := #[] }, { accessFlags := 26, nameIndex := 320, descriptorIndex := 321, attributes := #[] }])
  fields := #[{ name := "MIN_VALUE", type := .int, accessFlags := 25, slot := 0, constantValue := 0 }, { name := "MAX_VALUE", type := .int, accessFlags := 25, slot := 1, constantValue := 0 }, { name := "TYPE", type := (.object "java/lang/Class"), accessFlags := 25, slot := 2, constantValue := 0 }, { name := "digits", type := (.array .char), accessFlags := 24, slot := 3, constantValue := 0 }, { name := "DigitTens", type := (.array .byte), accessFlags := 24, slot := 4, constantValue := 0 }, { name := "DigitOnes", type := (.array .byte), accessFlags := 24, slot := 5, constantValue := 0 }, { name := "value", type := .int, accessFlags := 18, slot := 0, constantValue := 0 }, { name := "SIZE", type := .int, accessFlags := 25, slot := 6, constantValue := 0 }, { name := "BYTES", type := .int, accessFlags := 25, slot := 7, constantValue := 0 }, { name := "serialVersionUID", type := .long, accessFlags := 26, slot := 8, constantValue := 0 }]
  methods := #[k12m0]
  instanceTypes := #[.int]
  staticTypes := #[.int, .int, (.object "java/lang/Class"), (.array .char), (.array .byte), (.array .byte), .int, .int, .long]
  resolved := Array.replicate 453 none
  statics := none }

def pool13 : Array CpInfo := pool [(1, u "java/lang/Cloneable"), (0, .class_ 1), (0, u "java/lang/Object"), (0, .class_ 3)] 3

/-- java/lang/Cloneable -/
def k13 : Class := { plain "java/lang/Cloneable" (some 0) with
  accessFlags := 1537
  interfaces := #[]
  cf := some (fileOf pool13 2 #[] #[] 1537 4 #[] #[])
  fields := #[]
  methods := #[]
  instanceTypes := #[]
  staticTypes := #[]
  resolved := Array.replicate 8 none
  statics := none }

/-- the primitive byte -/
def k14 : Class := { plain "byte" none with kind := .primitive 'B', accessFlags := 0x411 }
/-- [B -/
def k15 : Class := { plain "[B" (some 0) with kind := .array 14 .byte, interfaces := #[13, 6], accessFlags := 1041 }

/-- the primitive int -/
def k16 : Class := { plain "int" none with kind := .primitive 'I', accessFlags := 0x411 }
/-- [I -/
def k17 : Class := { plain "[I" (some 0) with kind := .array 16 .int, interfaces := #[13, 6], accessFlags := 1041 }

/-- the primitive long -/
def k18 : Class := { plain "long" none with kind := .primitive 'J', accessFlags := 0x411 }
/-- [J -/
def k19 : Class := { plain "[J" (some 0) with kind := .array 18 .long, interfaces := #[13, 6], accessFlags := 1041 }

def heap : Heap := #[]
def classes : Array Class := #[k0, k1, k2, k3, k4, k5, k6, k7, k8, k9, k10, k11, k12, k13, k14, k15, k16, k17, k18, k19]
def interned : List (Array UInt16 × Addr) := []
def slotsUsed : Nat := 0
def theMethod : MethodId := ⟨1, 1⟩
def args0 : Array Value := #[.int 5, .int 3, .long 7, .long 1, .long 2, .int 9]
def aboutOver (below : List Frame) : State where
  vm := { classes := classes, interned := interned.toArray }
  heap := heap
  slotsUsed := slotsUsed
  threads := #[{ frames := .invoking theMethod args0 :: below }]
def below0 : List Frame := [.native { method := ⟨0, 0⟩, args := #[] }]
def about1 : State := aboutOver below0
def p0 : Program := .bare "" "" ""
def e0 : Env := launch0.env 0 0 0
theorem w_frames : about1.frames = Frame.invoking theMethod args0 :: below0 := rfl
set_option maxRecDepth 65536 in
theorem w_args : argsFit about1.vm theMethod args0 = true := by decide +kernel
set_option maxRecDepth 65536 in
theorem w_heap : heapFits about1 = true := by decide +kernel
set_option maxRecDepth 65536 in
theorem w_runnable : about1.curStatus? = some .runnable := by decide +kernel
set_option maxRecDepth 65536 in
theorem w_alone : about1.alone = true := by decide +kernel
set_option maxRecDepth 65536 in
theorem w_named : about1.methodNamed? x = some theMethod := by decide +kernel
set_option maxRecDepth 65536 in
theorem w_hears : about1.hears theMethod below0 = true := by decide +kernel
set_option maxRecDepth 65536 in
theorem w_ripe : about1.ripe theMethod args0 below0 = true := by decide +kernel
theorem w_running : about1.status = .running := rfl
set_option maxRecDepth 65536 in
theorem w_room : about1.hasRoom e0.platform room_1 = true :=
  launch0.hasRoom_least _ room_1 (by decide +kernel) (by decide +kernel) (by decide +kernel) (by decide +kernel) (by decide +kernel) (by decide +kernel)
theorem allAtoms_all (ts : List Jvm.Cond) (a : Array Jvm.Value) (st : Jvm.State) : (allAtoms ts).before a st = ts.all (fun c => c.before a st) := by
  induction ts with
  | nil => rfl
  | cons c t ih =>
    show (Jvm.Cond.and c (allAtoms t)).before a st = _
    rw [Jvm.Cond.before_and, ih, List.all_cons]
def words1 : List Jvm.Cond := Jvm.Cond.code x code maxLocals ret :: tables_1
/-- a 'code' word, met by the world's own term for the bytes: nothing is compared byte by byte -/
theorem code_word {y : MethodName} {bytes : ByteArray} {mx : Nat} {rt : Option FieldType} {a : Array Value} {s : State} {m : MethodId} {meth : Method} {c : Code} (h1 : s.methodNamed? y = some m) (h2 : s.vm.method? m = some meth) (h3 : meth.code = some c) (h4 : c.code = bytes)
    (h5 : (c.maxLocals == mx && c.exceptionTable.isEmpty && decide (c.maxStack ≤ mostOperands) && decide (meth.sig.returnType = rt) && !meth.locks && decide (parseMethodDescriptor y.desc = some meth.sig)) = true) : (Jvm.Cond.code y bytes mx rt).before a s = true := by
  simp only [Bool.and_eq_true, beq_iff_eq, Bool.not_eq_true', decide_eq_true_eq] at h5
  obtain ⟨⟨⟨⟨⟨g1, g2⟩, g3⟩, g4⟩, g5⟩, g6⟩ := h5
  simp [Cond.before, Cond.holds, Cond.value, h1, h2, h3, h4, g1, g2, g3, g4, g5, g6]
def isCode : Jvm.Cond → Bool
  | .code _ _ _ _ => true
  | _ => false
theorem all_split {L : List Jvm.Cond} {P : Jvm.Cond → Bool} (h1 : L.all (fun c => isCode c || P c) = true) (h2 : ∀ c ∈ L.filter isCode, P c = true) : L.all P = true := by
  refine List.all_eq_true.mpr fun c hc => ?_
  have h := List.all_eq_true.mp h1 c hc
  rcases Bool.eq_false_or_eq_true (isCode c) with hi | hi
  · exact h2 c (List.mem_filter.mpr ⟨hc, hi⟩)
  · simpa [hi] using h
set_option maxRecDepth 65536 in
theorem w_c0 : (Jvm.Cond.code x code maxLocals ret).before args0 about1 = true := code_word (m := ⟨1, 1⟩) (meth := k1m1) (c := k1c1) (by decide +kernel) rfl rfl rfl (by decide +kernel)
set_option maxRecDepth 65536 in
theorem w_c1 : (Jvm.Cond.code ({ cls := "com/example/micro_ranker/microranker/engine/BlockSizePinLaw", name := "freq", desc := "(II)I" } : Jvm.MethodName) method_3_code (2 : Nat) (Option.some Jvm.ClassFile.FieldType.int)).before args0 about1 = true := code_word (m := ⟨1, 2⟩) (meth := k1m2) (c := k1c2) (by decide +kernel) rfl rfl rfl (by decide +kernel)
set_option maxRecDepth 65536 in
theorem w_c2 : (Jvm.Cond.code ({ cls := "java/lang/Math", name := "max", desc := "(II)I" } : Jvm.MethodName) jdk_29_method_65_code (2 : Nat) (Option.some Jvm.ClassFile.FieldType.int)).before args0 about1 = true := code_word (m := ⟨2, 1⟩) (meth := k2m1) (c := k2c1) (by decide +kernel) rfl rfl rfl (by decide +kernel)
set_option maxRecDepth 65536 in
theorem w_c3 : (Jvm.Cond.code ({ cls := "com/example/micro_ranker/microranker/engine/BitWriter", name := "<init>", desc := "()V" } : Jvm.MethodName) prog_16_method_1_code (1 : Nat) (Option.none : Option Jvm.ClassFile.FieldType)).before args0 about1 = true := code_word (m := ⟨3, 0⟩) (meth := k3m0) (c := k3c0) (by decide +kernel) rfl rfl rfl (by decide +kernel)
set_option maxRecDepth 65536 in
theorem w_c4 : (Jvm.Cond.code ({ cls := "java/lang/Object", name := "<init>", desc := "()V" } : Jvm.MethodName) object_method_1_code (1 : Nat) (Option.none : Option Jvm.ClassFile.FieldType)).before args0 about1 = true := code_word (m := ⟨0, 0⟩) (meth := k0m0) (c := k0c0) (by decide +kernel) rfl rfl rfl (by decide +kernel)
set_option maxRecDepth 65536 in
theorem w_c5 : (Jvm.Cond.code ({ cls := "com/example/micro_ranker/microranker/engine/BitWriter", name := "write", desc := "(JI)V" } : Jvm.MethodName) prog_16_method_4_code (8 : Nat) (Option.none : Option Jvm.ClassFile.FieldType)).before args0 about1 = true := code_word (m := ⟨3, 3⟩) (meth := k3m3) (c := k3c3) (by decide +kernel) rfl rfl rfl (by decide +kernel)
set_option maxRecDepth 65536 in
theorem w_c6 : (Jvm.Cond.code ({ cls := "com/example/micro_ranker/microranker/engine/BitWriter", name := "reserve", desc := "(J)V" } : Jvm.MethodName) prog_16_method_11_code (5 : Nat) (Option.none : Option Jvm.ClassFile.FieldType)).before args0 about1 = true := code_word (m := ⟨3, 6⟩) (meth := k3m6) (c := k3c6) (by decide +kernel) rfl rfl rfl (by decide +kernel)
set_option maxRecDepth 65536 in
theorem w_c7 : (Jvm.Cond.code ({ cls := "com/example/micro_ranker/microranker/engine/Block", name := "write", desc := "(Lcom/example/micro_ranker/microranker/engine/BitWriter;[I[IIII)V" } : Jvm.MethodName) prog_18_method_2_code (20 : Nat) (Option.none : Option Jvm.ClassFile.FieldType)).before args0 about1 = true := code_word (m := ⟨4, 1⟩) (meth := k4m1) (c := k4c1) (by decide +kernel) rfl rfl rfl (by decide +kernel)
set_option maxRecDepth 65536 in
theorem w_c8 : (Jvm.Cond.code ({ cls := "com/example/micro_ranker/microranker/engine/Bits", name := "width", desc := "(J)I" } : Jvm.MethodName) prog_17_method_2_code (2 : Nat) (Option.some Jvm.ClassFile.FieldType.int)).before args0 about1 = true := code_word (m := ⟨5, 1⟩) (meth := k5m1) (c := k5c1) (by decide +kernel) rfl rfl rfl (by decide +kernel)
set_option maxRecDepth 65536 in
theorem w_c9 : (Jvm.Cond.code ({ cls := "java/lang/Long", name := "numberOfLeadingZeros", desc := "(J)I" } : Jvm.MethodName) jdk_35_method_48_code (3 : Nat) (Option.some Jvm.ClassFile.FieldType.int)).before args0 about1 = true := code_word (m := ⟨11, 0⟩) (meth := k11m0) (c := k11c0) (by decide +kernel) rfl rfl rfl (by decide +kernel)
set_option maxRecDepth 65536 in
theorem w_c10 : (Jvm.Cond.code ({ cls := "java/lang/Integer", name := "numberOfLeadingZeros", desc := "(I)I" } : Jvm.MethodName) jdk_33_method_47_code (2 : Nat) (Option.some Jvm.ClassFile.FieldType.int)).before args0 about1 = true := code_word (m := ⟨12, 0⟩) (meth := k12m0) (c := k12c0) (by decide +kernel) rfl rfl rfl (by decide +kernel)
set_option maxRecDepth 65536 in
theorem w_c11 : (Jvm.Cond.code ({ cls := "com/example/micro_ranker/microranker/engine/BitWriter", name := "size", desc := "()J" } : Jvm.MethodName) prog_16_method_2_code (1 : Nat) (Option.some Jvm.ClassFile.FieldType.long)).before args0 about1 = true := code_word (m := ⟨3, 1⟩) (meth := k3m1) (c := k3c1) (by decide +kernel) rfl rfl rfl (by decide +kernel)
set_option maxRecDepth 65536 in
theorem w_c12 : (Jvm.Cond.code ({ cls := "com/example/micro_ranker/microranker/engine/Block", name := "<init>", desc := "()V" } : Jvm.MethodName) prog_18_method_1_code (1 : Nat) (Option.none : Option Jvm.ClassFile.FieldType)).before args0 about1 = true := code_word (m := ⟨4, 0⟩) (meth := k4m0) (c := k4c0) (by decide +kernel) rfl rfl rfl (by decide +kernel)
set_option maxRecDepth 65536 in
theorem w_c13 : (Jvm.Cond.code ({ cls := "com/example/micro_ranker/microranker/engine/BitWriter", name := "words", desc := "()[J" } : Jvm.MethodName) prog_16_method_3_code (1 : Nat) (Option.some (Jvm.ClassFile.FieldType.array Jvm.ClassFile.FieldType.long))).before args0 about1 = true := code_word (m := ⟨3, 2⟩) (meth := k3m2) (c := k3c2) (by decide +kernel) rfl rfl rfl (by decide +kernel)
set_option maxRecDepth 65536 in
theorem w_c14 : (Jvm.Cond.code ({ cls := "com/example/micro_ranker/microranker/engine/Block", name := "load", desc := "([JJIII)Lcom/example/micro_ranker/microranker/engine/Block;" } : Jvm.MethodName) prog_18_method_3_code (7 : Nat) (Option.some (Jvm.ClassFile.FieldType.object "com/example/micro_ranker/microranker/engine/Block"))).before args0 about1 = true := code_word (m := ⟨4, 2⟩) (meth := k4m2) (c := k4c2) (by decide +kernel) rfl rfl rfl (by decide +kernel)
set_option maxRecDepth 65536 in
theorem w_c15 : (Jvm.Cond.code ({ cls := "com/example/micro_ranker/microranker/engine/Bits", name := "read", desc := "([JJI)I" } : Jvm.MethodName) prog_17_method_3_code (4 : Nat) (Option.some Jvm.ClassFile.FieldType.int)).before args0 about1 = true := code_word (m := ⟨5, 2⟩) (meth := k5m2) (c := k5c2) (by decide +kernel) rfl rfl rfl (by decide +kernel)
set_option maxRecDepth 65536 in
theorem w_c16 : (Jvm.Cond.code ({ cls := "com/example/micro_ranker/microranker/engine/Bits", name := "window", desc := "([JJ)J" } : Jvm.MethodName) prog_17_method_5_code (5 : Nat) (Option.some Jvm.ClassFile.FieldType.long)).before args0 about1 = true := code_word (m := ⟨5, 3⟩) (meth := k5m3) (c := k5c3) (by decide +kernel) rfl rfl rfl (by decide +kernel)
set_option maxRecDepth 65536 in
theorem w_c17 : (Jvm.Cond.code ({ cls := "com/example/micro_ranker/microranker/engine/Block", name := "size", desc := "()J" } : Jvm.MethodName) prog_18_method_6_code (3 : Nat) (Option.some Jvm.ClassFile.FieldType.long)).before args0 about1 = true := code_word (m := ⟨4, 3⟩) (meth := k4m3) (c := k4c3) (by decide +kernel) rfl rfl rfl (by decide +kernel)
set_option maxRecDepth 65536 in
theorem w_c18 : (Jvm.Cond.code ({ cls := "com/example/micro_ranker/microranker/engine/Block", name := "lowWidth", desc := "(II)I" } : Jvm.MethodName) prog_18_method_18_code (3 : Nat) (Option.some Jvm.ClassFile.FieldType.int)).before args0 about1 = true := code_word (m := ⟨4, 4⟩) (meth := k4m4) (c := k4c4) (by decide +kernel) rfl rfl rfl (by decide +kernel)
set_option maxRecDepth 65536 in
theorem w_c19 : (Jvm.Cond.code ({ cls := "com/example/micro_ranker/microranker/engine/BitWriter", name := "skip", desc := "(J)V" } : Jvm.MethodName) prog_16_method_6_code (3 : Nat) (Option.none : Option Jvm.ClassFile.FieldType)).before args0 about1 = true := code_word (m := ⟨3, 4⟩) (meth := k3m4) (c := k3c4) (by decide +kernel) rfl rfl rfl (by decide +kernel)
set_option maxRecDepth 65536 in
theorem w_c20 : (Jvm.Cond.code ({ cls := "com/example/micro_ranker/microranker/engine/BitWriter", name := "set", desc := "(J)V" } : Jvm.MethodName) prog_16_method_7_code (3 : Nat) (Option.none : Option Jvm.ClassFile.FieldType)).before args0 about1 = true := code_word (m := ⟨3, 5⟩) (meth := k3m5) (c := k3c5) (by decide +kernel) rfl rfl rfl (by decide +kernel)
def codes1 : List Jvm.Cond := [Jvm.Cond.code x code maxLocals ret, Jvm.Cond.code ({ cls := "com/example/micro_ranker/microranker/engine/BlockSizePinLaw", name := "freq", desc := "(II)I" } : Jvm.MethodName) method_3_code (2 : Nat) (Option.some Jvm.ClassFile.FieldType.int), Jvm.Cond.code ({ cls := "java/lang/Math", name := "max", desc := "(II)I" } : Jvm.MethodName) jdk_29_method_65_code (2 : Nat) (Option.some Jvm.ClassFile.FieldType.int), Jvm.Cond.code ({ cls := "com/example/micro_ranker/microranker/engine/BitWriter", name := "<init>", desc := "()V" } : Jvm.MethodName) prog_16_method_1_code (1 : Nat) (Option.none : Option Jvm.ClassFile.FieldType), Jvm.Cond.code ({ cls := "java/lang/Object", name := "<init>", desc := "()V" } : Jvm.MethodName) object_method_1_code (1 : Nat) (Option.none : Option Jvm.ClassFile.FieldType), Jvm.Cond.code ({ cls := "com/example/micro_ranker/microranker/engine/BitWriter", name := "write", desc := "(JI)V" } : Jvm.MethodName) prog_16_method_4_code (8 : Nat) (Option.none : Option Jvm.ClassFile.FieldType), Jvm.Cond.code ({ cls := "com/example/micro_ranker/microranker/engine/BitWriter", name := "reserve", desc := "(J)V" } : Jvm.MethodName) prog_16_method_11_code (5 : Nat) (Option.none : Option Jvm.ClassFile.FieldType), Jvm.Cond.code ({ cls := "com/example/micro_ranker/microranker/engine/Block", name := "write", desc := "(Lcom/example/micro_ranker/microranker/engine/BitWriter;[I[IIII)V" } : Jvm.MethodName) prog_18_method_2_code (20 : Nat) (Option.none : Option Jvm.ClassFile.FieldType), Jvm.Cond.code ({ cls := "com/example/micro_ranker/microranker/engine/Bits", name := "width", desc := "(J)I" } : Jvm.MethodName) prog_17_method_2_code (2 : Nat) (Option.some Jvm.ClassFile.FieldType.int), Jvm.Cond.code ({ cls := "java/lang/Long", name := "numberOfLeadingZeros", desc := "(J)I" } : Jvm.MethodName) jdk_35_method_48_code (3 : Nat) (Option.some Jvm.ClassFile.FieldType.int), Jvm.Cond.code ({ cls := "java/lang/Integer", name := "numberOfLeadingZeros", desc := "(I)I" } : Jvm.MethodName) jdk_33_method_47_code (2 : Nat) (Option.some Jvm.ClassFile.FieldType.int), Jvm.Cond.code ({ cls := "com/example/micro_ranker/microranker/engine/BitWriter", name := "size", desc := "()J" } : Jvm.MethodName) prog_16_method_2_code (1 : Nat) (Option.some Jvm.ClassFile.FieldType.long), Jvm.Cond.code ({ cls := "com/example/micro_ranker/microranker/engine/Block", name := "<init>", desc := "()V" } : Jvm.MethodName) prog_18_method_1_code (1 : Nat) (Option.none : Option Jvm.ClassFile.FieldType), Jvm.Cond.code ({ cls := "com/example/micro_ranker/microranker/engine/BitWriter", name := "words", desc := "()[J" } : Jvm.MethodName) prog_16_method_3_code (1 : Nat) (Option.some (Jvm.ClassFile.FieldType.array Jvm.ClassFile.FieldType.long)), Jvm.Cond.code ({ cls := "com/example/micro_ranker/microranker/engine/Block", name := "load", desc := "([JJIII)Lcom/example/micro_ranker/microranker/engine/Block;" } : Jvm.MethodName) prog_18_method_3_code (7 : Nat) (Option.some (Jvm.ClassFile.FieldType.object "com/example/micro_ranker/microranker/engine/Block")), Jvm.Cond.code ({ cls := "com/example/micro_ranker/microranker/engine/Bits", name := "read", desc := "([JJI)I" } : Jvm.MethodName) prog_17_method_3_code (4 : Nat) (Option.some Jvm.ClassFile.FieldType.int), Jvm.Cond.code ({ cls := "com/example/micro_ranker/microranker/engine/Bits", name := "window", desc := "([JJ)J" } : Jvm.MethodName) prog_17_method_5_code (5 : Nat) (Option.some Jvm.ClassFile.FieldType.long), Jvm.Cond.code ({ cls := "com/example/micro_ranker/microranker/engine/Block", name := "size", desc := "()J" } : Jvm.MethodName) prog_18_method_6_code (3 : Nat) (Option.some Jvm.ClassFile.FieldType.long), Jvm.Cond.code ({ cls := "com/example/micro_ranker/microranker/engine/Block", name := "lowWidth", desc := "(II)I" } : Jvm.MethodName) prog_18_method_18_code (3 : Nat) (Option.some Jvm.ClassFile.FieldType.int), Jvm.Cond.code ({ cls := "com/example/micro_ranker/microranker/engine/BitWriter", name := "skip", desc := "(J)V" } : Jvm.MethodName) prog_16_method_6_code (3 : Nat) (Option.none : Option Jvm.ClassFile.FieldType), Jvm.Cond.code ({ cls := "com/example/micro_ranker/microranker/engine/BitWriter", name := "set", desc := "(J)V" } : Jvm.MethodName) prog_16_method_7_code (3 : Nat) (Option.none : Option Jvm.ClassFile.FieldType)]
set_option maxRecDepth 65536 in
theorem codes_eq : words1.filter isCode = codes1 := rfl
theorem w_codes : ∀ c ∈ words1.filter isCode, c.before args0 about1 = true := by
  rw [codes_eq]
  intro c hc
  simp only [codes1, List.mem_cons, List.not_mem_nil, or_false] at hc
  rcases hc with rfl | rfl | rfl | rfl | rfl | rfl | rfl | rfl | rfl | rfl | rfl | rfl | rfl | rfl | rfl | rfl | rfl | rfl | rfl | rfl | rfl
  · exact w_c0
  · exact w_c1
  · exact w_c2
  · exact w_c3
  · exact w_c4
  · exact w_c5
  · exact w_c6
  · exact w_c7
  · exact w_c8
  · exact w_c9
  · exact w_c10
  · exact w_c11
  · exact w_c12
  · exact w_c13
  · exact w_c14
  · exact w_c15
  · exact w_c16
  · exact w_c17
  · exact w_c18
  · exact w_c19
  · exact w_c20
set_option maxRecDepth 65536 in
theorem w_t1 : (words1.take 24).all (fun c => isCode c || c.before args0 about1) = true := by decide +kernel
set_option maxRecDepth 65536 in
theorem w_t2 : ((words1.drop 24).take 24).all (fun c => isCode c || c.before args0 about1) = true := by decide +kernel
set_option maxRecDepth 65536 in
theorem w_t3 : (((words1.drop 24).drop 24).take 24).all (fun c => isCode c || c.before args0 about1) = true := by decide +kernel
set_option maxRecDepth 65536 in
theorem w_t4 : ((((words1.drop 24).drop 24).drop 24).take 24).all (fun c => isCode c || c.before args0 about1) = true := by decide +kernel
set_option maxRecDepth 65536 in
theorem w_t5 : (((((words1.drop 24).drop 24).drop 24).drop 24).take 24).all (fun c => isCode c || c.before args0 about1) = true := by decide +kernel
set_option maxRecDepth 65536 in
theorem w_t6 : (((((words1.drop 24).drop 24).drop 24).drop 24).drop 24).all (fun c => isCode c || c.before args0 about1) = true := by decide +kernel
theorem w_tables : (allAtoms (Jvm.Cond.code x code maxLocals ret :: tables_1)).before args0 about1 = true := by
  rw [allAtoms_all]
  show words1.all (fun c => c.before args0 about1) = true
  refine all_split ?_ w_codes
  rw [← List.take_append_drop 24 words1, List.all_append, w_t1, ← List.take_append_drop 24 (words1.drop 24), List.all_append, w_t2, ← List.take_append_drop 24 ((words1.drop 24).drop 24), List.all_append, w_t3, ← List.take_append_drop 24 (((words1.drop 24).drop 24).drop 24), List.all_append, w_t4, ← List.take_append_drop 24 ((((words1.drop 24).drop 24).drop 24).drop 24), List.all_append, w_t5, w_t6]
  rfl
set_option maxRecDepth 65536 in
theorem w_case : (Jvm.Cond.and given_1 narrow_1).before args0 about1 = true := by decide +kernel
theorem w_applies : (headSpec (Jvm.Cond.code x code maxLocals ret :: tables_1) room_1).applies x e0.platform about1 = true :=
  (Spec.applies_iff w_frames).mpr ⟨w_running, w_runnable, w_alone, w_named, w_hears, w_ripe, w_room, w_tables⟩
theorem atStart : AtStart classFile x code maxLocals ret World_1 tables_1 room_1 Calls_1 rest_1 Pre_1 launch0 p0 e0 about1 theMethod args0 below0 :=
  ⟨lists_1, trivial, launch0.admits_env _ _ _, launch0.least_env, fairChoices_fair.cas, fairChoices_fair.clock, w_frames, w_args, w_heap, w_applies, trivial, trivial, w_case⟩
end start1
theorem witness_1 : WitnessClaimed_1 := ⟨start1.p0, start1.e0, start1.about1, start1.theMethod, start1.args0, start1.below0, start1.atStart⟩
end Jvm.Pilot.@@N@@
