import JvmDerived
import JvmDerived.Pilot.@@N@@Statement
import JvmDerived.Pilot.@@N@@Code
set_option linter.unusedVariables false
set_option linter.unusedSimpArgs false
namespace Jvm.Pilot.@@N@@
open Jvm Jvm.ClassFile Sem Op Lib Jvm.Free Jvm.Stand Jvm.LawKit Jvm.RoadKit Bundle Jvm.Pilot.@@N@@.Jvm.D
/-! 1. the walk's own words -/
def OG (tb : Tables) (e : Env) (below : List Frame) (P : Outcome → State → Prop) (A : State) : Prop :=
  ∃ s₂ o, Steps tb e below A s₂ ∧ s₂.status = .running ∧ Ended s₂ below o ∧ P o s₂
theorem mi {α : Type} {L : List α} {x : α} (i : Nat) (h : L[i]? = some x) : x ∈ L := List.mem_of_getElem? h
abbrev vi (x : Int32) : Slot := .val (.int x)
abbrev vj (x : Int64) : Slot := .val (.long x)
abbrev vr (x : Addr) : Slot := .val (.ref x)
abbrev us : Slot := .unset
abbrev s2 : Slot := .second
theorem OG.of {tb : Tables} {e : Env} {below : List Frame} {P : Outcome → State → Prop} {A B : State} (h : OG tb e below P B) (k : ∀ t, Steps tb e below B t → Steps tb e below A t) : OG tb e below P A := by
  obtain ⟨t, o, st, r⟩ := h
  exact ⟨t, o, k t st, r⟩
def Bx (own : String) (bs : ByteArray) (ml : Nat) (Z : State) (p : Program) (l : Launch) (e : Env) (R : Room) (s : State) (m : MethodId) (args : Array Value) (below : List Frame) (meth : Method) (c : Code) (T : State) (h : Heap) (locs : List Loc) (cells slots : Nat) : Prop :=
  Stand p l e R s m args below meth c T locs cells slots ∧ p.tables.exec = Jvm.exec ∧ c.code = bs ∧ c.maxLocals = ml ∧ s.vm.findClass own = some m.cls ∧ Z.Warmed39 s.vm ∧ T.heap = h
section Walk
variable {own : String} {bs : ByteArray} {ml : Nat} {Z : State} {p : Program} {l : Launch} {e : Env} {R : Room} {s : State} {m : MethodId} {args : Array Value} {below : List Frame} {meth : Method} {c : Code} {T : State} {h : Heap} {locs : List Loc} {cells slots : Nat} {P : Outcome → State → Prop} {Ls : Array Slot} {rest : List Value} {a0 : Array Value}
theorem o_iadd (B : Bx own bs ml Z p l e R s m args below meth c T h locs cells slots) (pc pc' : Nat) {x y : Int32} (hd : decode bs pc = .ok (.iadd, 1)) (hp : pc + 1 = pc') 
    (hr : OG p.tables e below P (T.setTop (mkF m pc' Ls (.int (x + y) :: rest)))) : OG p.tables e below P (T.setTop (mkF m pc Ls (.int y :: .int x :: rest))) := by
  subst hp
  obtain ⟨X, hx, hby, hml, hown, hZ, eT⟩ := B
  exact hr.of fun t k => XS.iadd X.here hx rfl (hb hby hd) rfl k
theorem o_isub (B : Bx own bs ml Z p l e R s m args below meth c T h locs cells slots) (pc pc' : Nat) {x y : Int32} (hd : decode bs pc = .ok (.isub, 1)) (hp : pc + 1 = pc') 
    (hr : OG p.tables e below P (T.setTop (mkF m pc' Ls (.int (x - y) :: rest)))) : OG p.tables e below P (T.setTop (mkF m pc Ls (.int y :: .int x :: rest))) := by
  subst hp
  obtain ⟨X, hx, hby, hml, hown, hZ, eT⟩ := B
  exact hr.of fun t k => XS.isub X.here hx rfl (hb hby hd) rfl k
theorem o_imul (B : Bx own bs ml Z p l e R s m args below meth c T h locs cells slots) (pc pc' : Nat) {x y : Int32} (hd : decode bs pc = .ok (.imul, 1)) (hp : pc + 1 = pc') 
    (hr : OG p.tables e below P (T.setTop (mkF m pc' Ls (.int (x * y) :: rest)))) : OG p.tables e below P (T.setTop (mkF m pc Ls (.int y :: .int x :: rest))) := by
  subst hp
  obtain ⟨X, hx, hby, hml, hown, hZ, eT⟩ := B
  exact hr.of fun t k => XS.imul X.here hx rfl (hb hby hd) rfl k
theorem o_iand (B : Bx own bs ml Z p l e R s m args below meth c T h locs cells slots) (pc pc' : Nat) {x y : Int32} (hd : decode bs pc = .ok (.iand, 1)) (hp : pc + 1 = pc') 
    (hr : OG p.tables e below P (T.setTop (mkF m pc' Ls (.int (x &&& y) :: rest)))) : OG p.tables e below P (T.setTop (mkF m pc Ls (.int y :: .int x :: rest))) := by
  subst hp
  obtain ⟨X, hx, hby, hml, hown, hZ, eT⟩ := B
  exact hr.of fun t k => XS.iand X.here hx rfl (hb hby hd) rfl k
theorem o_ior (B : Bx own bs ml Z p l e R s m args below meth c T h locs cells slots) (pc pc' : Nat) {x y : Int32} (hd : decode bs pc = .ok (.ior, 1)) (hp : pc + 1 = pc') 
    (hr : OG p.tables e below P (T.setTop (mkF m pc' Ls (.int (x ||| y) :: rest)))) : OG p.tables e below P (T.setTop (mkF m pc Ls (.int y :: .int x :: rest))) := by
  subst hp
  obtain ⟨X, hx, hby, hml, hown, hZ, eT⟩ := B
  exact hr.of fun t k => XT.ior X.here hx rfl (hb hby hd) rfl k
theorem o_ixor (B : Bx own bs ml Z p l e R s m args below meth c T h locs cells slots) (pc pc' : Nat) {x y : Int32} (hd : decode bs pc = .ok (.ixor, 1)) (hp : pc + 1 = pc') 
    (hr : OG p.tables e below P (T.setTop (mkF m pc' Ls (.int (x ^^^ y) :: rest)))) : OG p.tables e below P (T.setTop (mkF m pc Ls (.int y :: .int x :: rest))) := by
  subst hp
  obtain ⟨X, hx, hby, hml, hown, hZ, eT⟩ := B
  exact hr.of fun t k => XT.ixor X.here hx rfl (hb hby hd) rfl k
theorem o_ishl (B : Bx own bs ml Z p l e R s m args below meth c T h locs cells slots) (pc pc' : Nat) {x y : Int32} (hd : decode bs pc = .ok (.ishl, 1)) (hp : pc + 1 = pc') 
    (hr : OG p.tables e below P (T.setTop (mkF m pc' Ls (.int (x <<< (y &&& 31)) :: rest)))) : OG p.tables e below P (T.setTop (mkF m pc Ls (.int y :: .int x :: rest))) := by
  subst hp
  obtain ⟨X, hx, hby, hml, hown, hZ, eT⟩ := B
  exact hr.of fun t k => XT.ishl X.here hx rfl (hb hby hd) rfl k
theorem o_ishr (B : Bx own bs ml Z p l e R s m args below meth c T h locs cells slots) (pc pc' : Nat) {x y : Int32} (hd : decode bs pc = .ok (.ishr, 1)) (hp : pc + 1 = pc') 
    (hr : OG p.tables e below P (T.setTop (mkF m pc' Ls (.int (x >>> (y &&& 31)) :: rest)))) : OG p.tables e below P (T.setTop (mkF m pc Ls (.int y :: .int x :: rest))) := by
  subst hp
  obtain ⟨X, hx, hby, hml, hown, hZ, eT⟩ := B
  exact hr.of fun t k => XT.ishr X.here hx rfl (hb hby hd) rfl k
theorem o_iushr (B : Bx own bs ml Z p l e R s m args below meth c T h locs cells slots) (pc pc' : Nat) {x y : Int32} (hd : decode bs pc = .ok (.iushr, 1)) (hp : pc + 1 = pc') 
    (hr : OG p.tables e below P (T.setTop (mkF m pc' Ls (.int (XT.ushr x y) :: rest)))) : OG p.tables e below P (T.setTop (mkF m pc Ls (.int y :: .int x :: rest))) := by
  subst hp
  obtain ⟨X, hx, hby, hml, hown, hZ, eT⟩ := B
  exact hr.of fun t k => XT.iushr X.here hx rfl (hb hby hd) rfl k
theorem o_idiv (B : Bx own bs ml Z p l e R s m args below meth c T h locs cells slots) (pc pc' : Nat) {x y : Int32} (hd : decode bs pc = .ok (.idiv, 1)) (hp : pc + 1 = pc') (hy : y ≠ 0)
    (hr : OG p.tables e below P (T.setTop (mkF m pc' Ls (.int (x / y) :: rest)))) : OG p.tables e below P (T.setTop (mkF m pc Ls (.int y :: .int x :: rest))) := by
  subst hp
  obtain ⟨X, hx, hby, hml, hown, hZ, eT⟩ := B
  exact hr.of fun t k => XS.idiv X.here hx rfl (hb hby hd) rfl hy k
theorem o_irem (B : Bx own bs ml Z p l e R s m args below meth c T h locs cells slots) (pc pc' : Nat) {x y : Int32} (hd : decode bs pc = .ok (.irem, 1)) (hp : pc + 1 = pc') (hy : y ≠ 0)
    (hr : OG p.tables e below P (T.setTop (mkF m pc' Ls (.int (x % y) :: rest)))) : OG p.tables e below P (T.setTop (mkF m pc Ls (.int y :: .int x :: rest))) := by
  subst hp
  obtain ⟨X, hx, hby, hml, hown, hZ, eT⟩ := B
  exact hr.of fun t k => XS.irem X.here hx rfl (hb hby hd) rfl hy (by rw [irem_eq_mod]; exact k)
theorem o_ladd (B : Bx own bs ml Z p l e R s m args below meth c T h locs cells slots) (pc pc' : Nat) {x y : Int64} (hd : decode bs pc = .ok (.ladd, 1)) (hp : pc + 1 = pc') 
    (hr : OG p.tables e below P (T.setTop (mkF m pc' Ls (.long (x + y) :: rest)))) : OG p.tables e below P (T.setTop (mkF m pc Ls (.long y :: .long x :: rest))) := by
  subst hp
  obtain ⟨X, hx, hby, hml, hown, hZ, eT⟩ := B
  exact hr.of fun t k => XT.ladd X.here hx rfl (hb hby hd) rfl k
theorem o_lsub (B : Bx own bs ml Z p l e R s m args below meth c T h locs cells slots) (pc pc' : Nat) {x y : Int64} (hd : decode bs pc = .ok (.lsub, 1)) (hp : pc + 1 = pc') 
    (hr : OG p.tables e below P (T.setTop (mkF m pc' Ls (.long (x - y) :: rest)))) : OG p.tables e below P (T.setTop (mkF m pc Ls (.long y :: .long x :: rest))) := by
  subst hp
  obtain ⟨X, hx, hby, hml, hown, hZ, eT⟩ := B
  exact hr.of fun t k => XT.lsub X.here hx rfl (hb hby hd) rfl k
theorem o_lmul (B : Bx own bs ml Z p l e R s m args below meth c T h locs cells slots) (pc pc' : Nat) {x y : Int64} (hd : decode bs pc = .ok (.lmul, 1)) (hp : pc + 1 = pc') 
    (hr : OG p.tables e below P (T.setTop (mkF m pc' Ls (.long (x * y) :: rest)))) : OG p.tables e below P (T.setTop (mkF m pc Ls (.long y :: .long x :: rest))) := by
  subst hp
  obtain ⟨X, hx, hby, hml, hown, hZ, eT⟩ := B
  exact hr.of fun t k => XT.lmul X.here hx rfl (hb hby hd) rfl k
theorem o_land (B : Bx own bs ml Z p l e R s m args below meth c T h locs cells slots) (pc pc' : Nat) {x y : Int64} (hd : decode bs pc = .ok (.land, 1)) (hp : pc + 1 = pc') 
    (hr : OG p.tables e below P (T.setTop (mkF m pc' Ls (.long (x &&& y) :: rest)))) : OG p.tables e below P (T.setTop (mkF m pc Ls (.long y :: .long x :: rest))) := by
  subst hp
  obtain ⟨X, hx, hby, hml, hown, hZ, eT⟩ := B
  exact hr.of fun t k => XT.land X.here hx rfl (hb hby hd) rfl k
theorem o_lor (B : Bx own bs ml Z p l e R s m args below meth c T h locs cells slots) (pc pc' : Nat) {x y : Int64} (hd : decode bs pc = .ok (.lor, 1)) (hp : pc + 1 = pc') 
    (hr : OG p.tables e below P (T.setTop (mkF m pc' Ls (.long (x ||| y) :: rest)))) : OG p.tables e below P (T.setTop (mkF m pc Ls (.long y :: .long x :: rest))) := by
  subst hp
  obtain ⟨X, hx, hby, hml, hown, hZ, eT⟩ := B
  exact hr.of fun t k => XT.lor X.here hx rfl (hb hby hd) rfl k
theorem o_lxor (B : Bx own bs ml Z p l e R s m args below meth c T h locs cells slots) (pc pc' : Nat) {x y : Int64} (hd : decode bs pc = .ok (.lxor, 1)) (hp : pc + 1 = pc') 
    (hr : OG p.tables e below P (T.setTop (mkF m pc' Ls (.long (x ^^^ y) :: rest)))) : OG p.tables e below P (T.setTop (mkF m pc Ls (.long y :: .long x :: rest))) := by
  subst hp
  obtain ⟨X, hx, hby, hml, hown, hZ, eT⟩ := B
  exact hr.of fun t k => XT.lxor X.here hx rfl (hb hby hd) rfl k
theorem o_ldiv (B : Bx own bs ml Z p l e R s m args below meth c T h locs cells slots) (pc pc' : Nat) {x y : Int64} (hd : decode bs pc = .ok (.ldiv, 1)) (hp : pc + 1 = pc') (hy : y ≠ 0)
    (hr : OG p.tables e below P (T.setTop (mkF m pc' Ls (.long (x / y) :: rest)))) : OG p.tables e below P (T.setTop (mkF m pc Ls (.long y :: .long x :: rest))) := by
  subst hp
  obtain ⟨X, hx, hby, hml, hown, hZ, eT⟩ := B
  exact hr.of fun t k => XT.ldiv X.here hx rfl (hb hby hd) rfl hy k
theorem o_lrem (B : Bx own bs ml Z p l e R s m args below meth c T h locs cells slots) (pc pc' : Nat) {x y : Int64} (hd : decode bs pc = .ok (.lrem, 1)) (hp : pc + 1 = pc') (hy : y ≠ 0)
    (hr : OG p.tables e below P (T.setTop (mkF m pc' Ls (.long (x % y) :: rest)))) : OG p.tables e below P (T.setTop (mkF m pc Ls (.long y :: .long x :: rest))) := by
  subst hp
  obtain ⟨X, hx, hby, hml, hown, hZ, eT⟩ := B
  exact hr.of fun t k => XT.lrem X.here hx rfl (hb hby hd) rfl hy (by rw [lrem_mod]; exact k)
theorem o_lshl (B : Bx own bs ml Z p l e R s m args below meth c T h locs cells slots) (pc pc' : Nat) {x : Int64} {y : Int32} (hd : decode bs pc = .ok (.lshl, 1)) (hp : pc + 1 = pc') 
    (hr : OG p.tables e below P (T.setTop (mkF m pc' Ls (.long (x <<< (y.toInt64 &&& 63)) :: rest)))) : OG p.tables e below P (T.setTop (mkF m pc Ls (.int y :: .long x :: rest))) := by
  subst hp
  obtain ⟨X, hx, hby, hml, hown, hZ, eT⟩ := B
  exact hr.of fun t k => XT.lshl X.here hx rfl (hb hby hd) rfl k
theorem o_lshr (B : Bx own bs ml Z p l e R s m args below meth c T h locs cells slots) (pc pc' : Nat) {x : Int64} {y : Int32} (hd : decode bs pc = .ok (.lshr, 1)) (hp : pc + 1 = pc') 
    (hr : OG p.tables e below P (T.setTop (mkF m pc' Ls (.long (x >>> (y.toInt64 &&& 63)) :: rest)))) : OG p.tables e below P (T.setTop (mkF m pc Ls (.int y :: .long x :: rest))) := by
  subst hp
  obtain ⟨X, hx, hby, hml, hown, hZ, eT⟩ := B
  exact hr.of fun t k => XT.lshr X.here hx rfl (hb hby hd) rfl k
theorem o_lushr (B : Bx own bs ml Z p l e R s m args below meth c T h locs cells slots) (pc pc' : Nat) {x : Int64} {y : Int32} (hd : decode bs pc = .ok (.lushr, 1)) (hp : pc + 1 = pc') 
    (hr : OG p.tables e below P (T.setTop (mkF m pc' Ls (.long (XT.ushrL x y) :: rest)))) : OG p.tables e below P (T.setTop (mkF m pc Ls (.int y :: .long x :: rest))) := by
  subst hp
  obtain ⟨X, hx, hby, hml, hown, hZ, eT⟩ := B
  exact hr.of fun t k => XT.lushr X.here hx rfl (hb hby hd) rfl k
theorem o_lcmp (B : Bx own bs ml Z p l e R s m args below meth c T h locs cells slots) (pc pc' : Nat) {x y : Int64} (hd : decode bs pc = .ok (.lcmp, 1)) (hp : pc + 1 = pc') 
    (hr : OG p.tables e below P (T.setTop (mkF m pc' Ls (.int (XT.cmpL x y) :: rest)))) : OG p.tables e below P (T.setTop (mkF m pc Ls (.long y :: .long x :: rest))) := by
  subst hp
  obtain ⟨X, hx, hby, hml, hown, hZ, eT⟩ := B
  exact hr.of fun t k => XT.lcmp X.here hx rfl (hb hby hd) rfl k
theorem o_ineg (B : Bx own bs ml Z p l e R s m args below meth c T h locs cells slots) (pc pc' : Nat) {x : Int32} (hd : decode bs pc = .ok (.ineg, 1)) (hp : pc + 1 = pc') 
    (hr : OG p.tables e below P (T.setTop (mkF m pc' Ls (.int (-x) :: rest)))) : OG p.tables e below P (T.setTop (mkF m pc Ls (.int x :: rest))) := by
  subst hp
  obtain ⟨X, hx, hby, hml, hown, hZ, eT⟩ := B
  exact hr.of fun t k => XS.ineg X.here hx rfl (hb hby hd) rfl k
theorem o_lneg (B : Bx own bs ml Z p l e R s m args below meth c T h locs cells slots) (pc pc' : Nat) {x : Int64} (hd : decode bs pc = .ok (.lneg, 1)) (hp : pc + 1 = pc') 
    (hr : OG p.tables e below P (T.setTop (mkF m pc' Ls (.long (-x) :: rest)))) : OG p.tables e below P (T.setTop (mkF m pc Ls (.long x :: rest))) := by
  subst hp
  obtain ⟨X, hx, hby, hml, hown, hZ, eT⟩ := B
  exact hr.of fun t k => XT.lneg X.here hx rfl (hb hby hd) rfl k
theorem o_i2l (B : Bx own bs ml Z p l e R s m args below meth c T h locs cells slots) (pc pc' : Nat) {x : Int32} (hd : decode bs pc = .ok (.i2l, 1)) (hp : pc + 1 = pc') 
    (hr : OG p.tables e below P (T.setTop (mkF m pc' Ls (.long (x.toInt64) :: rest)))) : OG p.tables e below P (T.setTop (mkF m pc Ls (.int x :: rest))) := by
  subst hp
  obtain ⟨X, hx, hby, hml, hown, hZ, eT⟩ := B
  exact hr.of fun t k => XT.i2l X.here hx rfl (hb hby hd) rfl k
theorem o_l2i (B : Bx own bs ml Z p l e R s m args below meth c T h locs cells slots) (pc pc' : Nat) {x : Int64} (hd : decode bs pc = .ok (.l2i, 1)) (hp : pc + 1 = pc') 
    (hr : OG p.tables e below P (T.setTop (mkF m pc' Ls (.int (x.toInt32) :: rest)))) : OG p.tables e below P (T.setTop (mkF m pc Ls (.long x :: rest))) := by
  subst hp
  obtain ⟨X, hx, hby, hml, hown, hZ, eT⟩ := B
  exact hr.of fun t k => XT.l2i X.here hx rfl (hb hby hd) rfl k
theorem o_i2b (B : Bx own bs ml Z p l e R s m args below meth c T h locs cells slots) (pc pc' : Nat) {x : Int32} (hd : decode bs pc = .ok (.i2b, 1)) (hp : pc + 1 = pc') 
    (hr : OG p.tables e below P (T.setTop (mkF m pc' Ls (.int (x.toInt8.toInt32) :: rest)))) : OG p.tables e below P (T.setTop (mkF m pc Ls (.int x :: rest))) := by
  subst hp
  obtain ⟨X, hx, hby, hml, hown, hZ, eT⟩ := B
  exact hr.of fun t k => XT.i2b X.here hx rfl (hb hby hd) rfl k
theorem o_i2c (B : Bx own bs ml Z p l e R s m args below meth c T h locs cells slots) (pc pc' : Nat) {x : Int32} (hd : decode bs pc = .ok (.i2c, 1)) (hp : pc + 1 = pc') 
    (hr : OG p.tables e below P (T.setTop (mkF m pc' Ls (.int (x.toUInt32.toUInt16.toUInt32.toInt32) :: rest)))) : OG p.tables e below P (T.setTop (mkF m pc Ls (.int x :: rest))) := by
  subst hp
  obtain ⟨X, hx, hby, hml, hown, hZ, eT⟩ := B
  exact hr.of fun t k => XT.i2c X.here hx rfl (hb hby hd) rfl k
theorem o_i2s (B : Bx own bs ml Z p l e R s m args below meth c T h locs cells slots) (pc pc' : Nat) {x : Int32} (hd : decode bs pc = .ok (.i2s, 1)) (hp : pc + 1 = pc') 
    (hr : OG p.tables e below P (T.setTop (mkF m pc' Ls (.int (x.toInt16.toInt32) :: rest)))) : OG p.tables e below P (T.setTop (mkF m pc Ls (.int x :: rest))) := by
  subst hp
  obtain ⟨X, hx, hby, hml, hown, hZ, eT⟩ := B
  exact hr.of fun t k => XT.i2s X.here hx rfl (hb hby hd) rfl k
theorem o_iconst (B : Bx own bs ml Z p l e R s m args below meth c T h locs cells slots) (pc pc' : Nat) {i : Int} (v : Int32) (hd : decode bs pc = .ok (.iconst i, 1)) (hp : pc + 1 = pc') (hv : Int32.ofInt i = v)
    (hr : OG p.tables e below P (T.setTop (mkF m pc' Ls (.int v :: rest)))) : OG p.tables e below P (T.setTop (mkF m pc Ls rest)) := by
  subst hp
  obtain ⟨X, hx, hby, hml, hown, hZ, eT⟩ := B
  exact hr.of fun t k => XT.iconstV X.here hx rfl v (hb hby hd) hv k
theorem o_bipush (B : Bx own bs ml Z p l e R s m args below meth c T h locs cells slots) (pc pc' : Nat) {i : Int} (v : Int32) (hd : decode bs pc = .ok (.bipush i, 2)) (hp : pc + 2 = pc') (hv : (Int8.ofInt i).toInt32 = v)
    (hr : OG p.tables e below P (T.setTop (mkF m pc' Ls (.int v :: rest)))) : OG p.tables e below P (T.setTop (mkF m pc Ls rest)) := by
  subst hp
  obtain ⟨X, hx, hby, hml, hown, hZ, eT⟩ := B
  exact hr.of fun t k => XT.bipushV X.here hx rfl v (hb hby hd) hv k
theorem o_sipush (B : Bx own bs ml Z p l e R s m args below meth c T h locs cells slots) (pc pc' : Nat) {i : Int} (v : Int32) (hd : decode bs pc = .ok (.sipush i, 3)) (hp : pc + 3 = pc') (hv : (Int16.ofInt i).toInt32 = v)
    (hr : OG p.tables e below P (T.setTop (mkF m pc' Ls (.int v :: rest)))) : OG p.tables e below P (T.setTop (mkF m pc Ls rest)) := by
  subst hp
  obtain ⟨X, hx, hby, hml, hown, hZ, eT⟩ := B
  exact hr.of fun t k => XT.sipushV X.here hx rfl v (hb hby hd) hv k
theorem o_lconst (B : Bx own bs ml Z p l e R s m args below meth c T h locs cells slots) (pc pc' : Nat) {i : Fin 2} (v : Int64) (hd : decode bs pc = .ok (.lconst i, 1)) (hp : pc + 1 = pc') (hv : Int64.ofNat i = v)
    (hr : OG p.tables e below P (T.setTop (mkF m pc' Ls (.long v :: rest)))) : OG p.tables e below P (T.setTop (mkF m pc Ls rest)) := by
  subst hp
  obtain ⟨X, hx, hby, hml, hown, hZ, eT⟩ := B
  exact hr.of fun t k => XT.lconstV X.here hx rfl v (hb hby hd) hv k
theorem o_aconst_null (B : Bx own bs ml Z p l e R s m args below meth c T h locs cells slots) (pc pc' : Nat)  (hd : decode bs pc = .ok (.aconst_null, 1)) (hp : pc + 1 = pc') 
    (hr : OG p.tables e below P (T.setTop (mkF m pc' Ls (.null :: rest)))) : OG p.tables e below P (T.setTop (mkF m pc Ls rest)) := by
  subst hp
  obtain ⟨X, hx, hby, hml, hown, hZ, eT⟩ := B
  exact hr.of fun t k => XS.aconstNull X.here hx rfl (hb hby hd) k
theorem o_iloadN (B : Bx own bs ml Z p l e R s m args below meth c T h locs cells slots) (pc pc' : Nat) {k : Fin 4} {v : Int32} (hd : decode bs pc = .ok (.iload_n k, 1)) (hp : pc + 1 = pc') (hl : Ls[k.val]? = some (.val (.int v)))
    (hr : OG p.tables e below P (T.setTop (mkF m pc' Ls (.int v :: rest)))) : OG p.tables e below P (T.setTop (mkF m pc Ls rest)) := by
  subst hp
  obtain ⟨X, hx, hby, hml, hown, hZ, eT⟩ := B
  exact hr.of fun t k => XS.iloadN X.here hx rfl (hb hby hd) hl k
theorem o_iload (B : Bx own bs ml Z p l e R s m args below meth c T h locs cells slots) (pc pc' : Nat) {k : Nat} {v : Int32} (hd : decode bs pc = .ok (.iload k, 2)) (hp : pc + 2 = pc') (hl : Ls[k]? = some (.val (.int v)))
    (hr : OG p.tables e below P (T.setTop (mkF m pc' Ls (.int v :: rest)))) : OG p.tables e below P (T.setTop (mkF m pc Ls rest)) := by
  subst hp
  obtain ⟨X, hx, hby, hml, hown, hZ, eT⟩ := B
  exact hr.of fun t k => XS.iload X.here hx rfl (hb hby hd) hl k
theorem o_lloadN (B : Bx own bs ml Z p l e R s m args below meth c T h locs cells slots) (pc pc' : Nat) {k : Fin 4} {v : Int64} (hd : decode bs pc = .ok (.lload_n k, 1)) (hp : pc + 1 = pc') (hl : Ls[k.val]? = some (.val (.long v)))
    (hr : OG p.tables e below P (T.setTop (mkF m pc' Ls (.long v :: rest)))) : OG p.tables e below P (T.setTop (mkF m pc Ls rest)) := by
  subst hp
  obtain ⟨X, hx, hby, hml, hown, hZ, eT⟩ := B
  exact hr.of fun t k => XT.lloadN X.here hx rfl (hb hby hd) hl k
theorem o_lload (B : Bx own bs ml Z p l e R s m args below meth c T h locs cells slots) (pc pc' : Nat) {k : Nat} {v : Int64} (hd : decode bs pc = .ok (.lload k, 2)) (hp : pc + 2 = pc') (hl : Ls[k]? = some (.val (.long v)))
    (hr : OG p.tables e below P (T.setTop (mkF m pc' Ls (.long v :: rest)))) : OG p.tables e below P (T.setTop (mkF m pc Ls rest)) := by
  subst hp
  obtain ⟨X, hx, hby, hml, hown, hZ, eT⟩ := B
  exact hr.of fun t k => XT.lload X.here hx rfl (hb hby hd) hl k
theorem o_aloadN (B : Bx own bs ml Z p l e R s m args below meth c T h locs cells slots) (pc pc' : Nat) {k : Fin 4} {v : Value} (hd : decode bs pc = .ok (.aload_n k, 1)) (hp : pc + 1 = pc') (hl : Ls[k.val]? = some (.val v)) (hv : v.isRef = true)
    (hr : OG p.tables e below P (T.setTop (mkF m pc' Ls (v :: rest)))) : OG p.tables e below P (T.setTop (mkF m pc Ls rest)) := by
  subst hp
  obtain ⟨X, hx, hby, hml, hown, hZ, eT⟩ := B
  exact hr.of fun t k => XS.aloadN X.here hx rfl (hb hby hd) hl hv k
theorem o_aload (B : Bx own bs ml Z p l e R s m args below meth c T h locs cells slots) (pc pc' : Nat) {k : Nat} {v : Value} (hd : decode bs pc = .ok (.aload k, 2)) (hp : pc + 2 = pc') (hl : Ls[k]? = some (.val v)) (hv : v.isRef = true)
    (hr : OG p.tables e below P (T.setTop (mkF m pc' Ls (v :: rest)))) : OG p.tables e below P (T.setTop (mkF m pc Ls rest)) := by
  subst hp
  obtain ⟨X, hx, hby, hml, hown, hZ, eT⟩ := B
  exact hr.of fun t k => XS.aload X.here hx rfl (hb hby hd) hl hv k
theorem o_istoreN (B : Bx own bs ml Z p l e R s m args below meth c T h locs cells slots) (pc pc' : Nat) {k : Fin 4} {x : Int32} {l' : Array Slot} (hd : decode bs pc = .ok (.istore_n k, 1)) (hp : pc + 1 = pc') (hl : storeLocals Ls k.val (.int x) = some l')
    (hr : OG p.tables e below P (T.setTop (mkF m pc' l' rest))) : OG p.tables e below P (T.setTop (mkF m pc Ls (.int x :: rest))) := by
  subst hp
  obtain ⟨X, hx, hby, hml, hown, hZ, eT⟩ := B
  exact hr.of fun t k => XS.istoreN X.here hx rfl (hb hby hd) rfl hl k
theorem o_istore (B : Bx own bs ml Z p l e R s m args below meth c T h locs cells slots) (pc pc' : Nat) {k : Nat} {x : Int32} {l' : Array Slot} (hd : decode bs pc = .ok (.istore k, 2)) (hp : pc + 2 = pc') (hl : storeLocals Ls k (.int x) = some l')
    (hr : OG p.tables e below P (T.setTop (mkF m pc' l' rest))) : OG p.tables e below P (T.setTop (mkF m pc Ls (.int x :: rest))) := by
  subst hp
  obtain ⟨X, hx, hby, hml, hown, hZ, eT⟩ := B
  exact hr.of fun t k => XS.istore X.here hx rfl (hb hby hd) rfl hl k
theorem o_lstoreN (B : Bx own bs ml Z p l e R s m args below meth c T h locs cells slots) (pc pc' : Nat) {k : Fin 4} {x : Int64} {l' : Array Slot} (hd : decode bs pc = .ok (.lstore_n k, 1)) (hp : pc + 1 = pc') (hl : storeLocals Ls k.val (.long x) = some l')
    (hr : OG p.tables e below P (T.setTop (mkF m pc' l' rest))) : OG p.tables e below P (T.setTop (mkF m pc Ls (.long x :: rest))) := by
  subst hp
  obtain ⟨X, hx, hby, hml, hown, hZ, eT⟩ := B
  exact hr.of fun t k => XT.lstoreN X.here hx rfl (hb hby hd) rfl hl k
theorem o_lstore (B : Bx own bs ml Z p l e R s m args below meth c T h locs cells slots) (pc pc' : Nat) {k : Nat} {x : Int64} {l' : Array Slot} (hd : decode bs pc = .ok (.lstore k, 2)) (hp : pc + 2 = pc') (hl : storeLocals Ls k (.long x) = some l')
    (hr : OG p.tables e below P (T.setTop (mkF m pc' l' rest))) : OG p.tables e below P (T.setTop (mkF m pc Ls (.long x :: rest))) := by
  subst hp
  obtain ⟨X, hx, hby, hml, hown, hZ, eT⟩ := B
  exact hr.of fun t k => XT.lstore X.here hx rfl (hb hby hd) rfl hl k
theorem o_astoreN (B : Bx own bs ml Z p l e R s m args below meth c T h locs cells slots) (pc pc' : Nat) {k : Fin 4} {x : Value} {l' : Array Slot} (hd : decode bs pc = .ok (.astore_n k, 1)) (hp : pc + 1 = pc') (hv : x.isRef = true) (hl : storeLocals Ls k.val x = some l')
    (hr : OG p.tables e below P (T.setTop (mkF m pc' l' rest))) : OG p.tables e below P (T.setTop (mkF m pc Ls (x :: rest))) := by
  subst hp
  obtain ⟨X, hx, hby, hml, hown, hZ, eT⟩ := B
  exact hr.of fun t k => XS.astoreN X.here hx rfl (hb hby hd) rfl hv hl k
theorem o_astore (B : Bx own bs ml Z p l e R s m args below meth c T h locs cells slots) (pc pc' : Nat) {k : Nat} {x : Value} {l' : Array Slot} (hd : decode bs pc = .ok (.astore k, 2)) (hp : pc + 2 = pc') (hv : x.isRef = true) (hl : storeLocals Ls k x = some l')
    (hr : OG p.tables e below P (T.setTop (mkF m pc' l' rest))) : OG p.tables e below P (T.setTop (mkF m pc Ls (x :: rest))) := by
  subst hp
  obtain ⟨X, hx, hby, hml, hown, hZ, eT⟩ := B
  exact hr.of fun t k => XS.astore X.here hx rfl (hb hby hd) rfl hv hl k
theorem o_iinc (B : Bx own bs ml Z p l e R s m args below meth c T h locs cells slots) (pc pc' : Nat) {k : Nat} {cst : Int} {x : Int32} {l' : Array Slot} (v : Int32) (hd : decode bs pc = .ok (.iinc k cst, 3)) (hp : pc + 3 = pc') (hv : Int32.ofInt cst = v) (hl : Ls[k]? = some (.val (.int x))) (hl' : storeLocals Ls k (.int (x + v)) = some l')
    (hr : OG p.tables e below P (T.setTop (mkF m pc' l' rest))) : OG p.tables e below P (T.setTop (mkF m pc Ls rest)) := by
  subst hp
  obtain ⟨X, hx, hby, hml, hown, hZ, eT⟩ := B
  exact hr.of fun t k => XT.iincV X.here hx rfl v (hb hby hd) hv hl hl' k
theorem o_goto (B : Bx own bs ml Z p l e R s m args below meth c T h locs cells slots) (pc pc' : Nat) {o : Int} (hd : decode bs pc = .ok (.goto o, 3))  (ho : 0 ≤ (pc : Int) + o) (hp : ((pc : Int) + o).toNat = pc')
    (hr : OG p.tables e below P (T.setTop (mkF m pc' Ls rest))) : OG p.tables e below P (T.setTop (mkF m pc Ls rest)) := by
  obtain ⟨X, hx, hby, hml, hown, hZ, eT⟩ := B
  exact hr.of fun t k => XS.goto X.here hx rfl (pc0 := pc) (pc' := pc') rfl (hb hby hd) ho hp k
theorem o_ifY (B : Bx own bs ml Z p l e R s m args below meth c T h locs cells slots) (pc pc' : Nat) {cd : ClassFile.Cond} {o : Int} {x : Int32} (hd : decode bs pc = .ok (.ifCond cd o, 3))  (hc : ifCond.holds cd x = true) (ho : 0 ≤ (pc : Int) + o) (hp : ((pc : Int) + o).toNat = pc')
    (hr : OG p.tables e below P (T.setTop (mkF m pc' Ls rest))) : OG p.tables e below P (T.setTop (mkF m pc Ls (.int x :: rest))) := by
  obtain ⟨X, hx, hby, hml, hown, hZ, eT⟩ := B
  exact hr.of fun t k => XS.ifYes X.here hx rfl (pc0 := pc) (pc' := pc') rfl (hb hby hd) rfl hc ho hp k
theorem o_ifN (B : Bx own bs ml Z p l e R s m args below meth c T h locs cells slots) (pc pc' : Nat) {cd : ClassFile.Cond} {o : Int} {x : Int32} (hd : decode bs pc = .ok (.ifCond cd o, 3)) (hp : pc + 3 = pc') (hc : ifCond.holds cd x = false)
    (hr : OG p.tables e below P (T.setTop (mkF m pc' Ls rest))) : OG p.tables e below P (T.setTop (mkF m pc Ls (.int x :: rest))) := by
  subst hp
  obtain ⟨X, hx, hby, hml, hown, hZ, eT⟩ := B
  exact hr.of fun t k => XS.ifNo X.here hx rfl (hb hby hd) rfl hc k
theorem o_icY (B : Bx own bs ml Z p l e R s m args below meth c T h locs cells slots) (pc pc' : Nat) {cd : ClassFile.Cond} {o : Int} {x y : Int32} (hd : decode bs pc = .ok (.if_icmp cd o, 3))  (hc : if_icmp.holds cd x y = true) (ho : 0 ≤ (pc : Int) + o) (hp : ((pc : Int) + o).toNat = pc')
    (hr : OG p.tables e below P (T.setTop (mkF m pc' Ls rest))) : OG p.tables e below P (T.setTop (mkF m pc Ls (.int y :: .int x :: rest))) := by
  obtain ⟨X, hx, hby, hml, hown, hZ, eT⟩ := B
  exact hr.of fun t k => XS.icmpYes X.here hx rfl (pc0 := pc) (pc' := pc') rfl (hb hby hd) rfl hc ho hp k
theorem o_icN (B : Bx own bs ml Z p l e R s m args below meth c T h locs cells slots) (pc pc' : Nat) {cd : ClassFile.Cond} {o : Int} {x y : Int32} (hd : decode bs pc = .ok (.if_icmp cd o, 3)) (hp : pc + 3 = pc') (hc : if_icmp.holds cd x y = false)
    (hr : OG p.tables e below P (T.setTop (mkF m pc' Ls rest))) : OG p.tables e below P (T.setTop (mkF m pc Ls (.int y :: .int x :: rest))) := by
  subst hp
  obtain ⟨X, hx, hby, hml, hown, hZ, eT⟩ := B
  exact hr.of fun t k => XS.icmpNo X.here hx rfl (hb hby hd) rfl hc k
theorem o_dup (B : Bx own bs ml Z p l e R s m args below meth c T h locs cells slots) (pc pc' : Nat) {x : Value} (hd : decode bs pc = .ok (.dup, 1)) (hp : pc + 1 = pc') (hc : x.category = 1)
    (hr : OG p.tables e below P (T.setTop (mkF m pc' Ls (x :: x :: rest)))) : OG p.tables e below P (T.setTop (mkF m pc Ls (x :: rest))) := by
  subst hp
  obtain ⟨X, hx, hby, hml, hown, hZ, eT⟩ := B
  exact hr.of fun t k => XS.dup X.here hx rfl (hb hby hd) rfl hc k
theorem o_pop (B : Bx own bs ml Z p l e R s m args below meth c T h locs cells slots) (pc pc' : Nat) {x : Value} (hd : decode bs pc = .ok (.pop, 1)) (hp : pc + 1 = pc') (hc : x.category = 1)
    (hr : OG p.tables e below P (T.setTop (mkF m pc' Ls rest))) : OG p.tables e below P (T.setTop (mkF m pc Ls (x :: rest))) := by
  subst hp
  obtain ⟨X, hx, hby, hml, hown, hZ, eT⟩ := B
  exact hr.of fun t k => XT.pop X.here hx rfl (hb hby hd) rfl hc k
theorem o_dup_x1 (B : Bx own bs ml Z p l e R s m args below meth c T h locs cells slots) (pc pc' : Nat) {x y : Value} (hd : decode bs pc = .ok (.dup_x1, 1)) (hp : pc + 1 = pc') (hc : x.category = 1) (hc' : y.category = 1)
    (hr : OG p.tables e below P (T.setTop (mkF m pc' Ls (x :: y :: x :: rest)))) : OG p.tables e below P (T.setTop (mkF m pc Ls (x :: y :: rest))) := by
  subst hp
  obtain ⟨X, hx, hby, hml, hown, hZ, eT⟩ := B
  exact hr.of fun t k => XT.dupX1 X.here hx rfl (hb hby hd) rfl hc hc' k
theorem o_dup2 (B : Bx own bs ml Z p l e R s m args below meth c T h locs cells slots) (pc pc' : Nat) {x y : Value} (hd : decode bs pc = .ok (.dup2, 1)) (hp : pc + 1 = pc') (hc : x.category = 1) (hc' : y.category = 1)
    (hr : OG p.tables e below P (T.setTop (mkF m pc' Ls (x :: y :: x :: y :: rest)))) : OG p.tables e below P (T.setTop (mkF m pc Ls (x :: y :: rest))) := by
  subst hp
  obtain ⟨X, hx, hby, hml, hown, hZ, eT⟩ := B
  exact hr.of fun t k => XT.dup2 X.here hx rfl (hb hby hd) rfl hc hc' k
theorem o_dup2L (B : Bx own bs ml Z p l e R s m args below meth c T h locs cells slots) (pc pc' : Nat) {x : Int64} (hd : decode bs pc = .ok (.dup2, 1)) (hp : pc + 1 = pc') 
    (hr : OG p.tables e below P (T.setTop (mkF m pc' Ls (.long x :: .long x :: rest)))) : OG p.tables e below P (T.setTop (mkF m pc Ls (.long x :: rest))) := by
  subst hp
  obtain ⟨X, hx, hby, hml, hown, hZ, eT⟩ := B
  exact hr.of fun t k => XT.dup2L X.here hx rfl (hb hby hd) rfl k
theorem o_ldc (B : Bx own bs ml Z p l e R s m args below meth c T h locs cells slots) (pc pc' : Nat) {i : Nat} {v : Int32} (hd : decode bs pc = .ok (.ldc i, 2)) (hp : pc + 2 = pc') (w : (Cond.constant own i v).before a0 Z = true)
    (hr : OG p.tables e below P (T.setTop (mkF m pc' Ls (.int v :: rest)))) : OG p.tables e below P (T.setTop (mkF m pc Ls rest)) := by
  subst hp
  obtain ⟨X, hx, hby, hml, hown, hZ, eT⟩ := B
  exact hr.of fun t k => X.ldcI hx hown (mv hZ w) rfl (hb hby hd) k
theorem o_ldc_w (B : Bx own bs ml Z p l e R s m args below meth c T h locs cells slots) (pc pc' : Nat) {i : Nat} {v : Int32} (hd : decode bs pc = .ok (.ldc_w i, 3)) (hp : pc + 3 = pc') (w : (Cond.constant own i v).before a0 Z = true)
    (hr : OG p.tables e below P (T.setTop (mkF m pc' Ls (.int v :: rest)))) : OG p.tables e below P (T.setTop (mkF m pc Ls rest)) := by
  subst hp
  obtain ⟨X, hx, hby, hml, hown, hZ, eT⟩ := B
  exact hr.of fun t k => X.ldcWI hx hown (mv hZ w) rfl (hb hby hd) k
theorem o_ldc2 (B : Bx own bs ml Z p l e R s m args below meth c T h locs cells slots) (pc pc' : Nat) {i : Nat} {v : Int64} (hd : decode bs pc = .ok (.ldc2_w i, 3)) (hp : pc + 3 = pc') (w : (Cond.constantLong own i v).before a0 Z = true)
    (hr : OG p.tables e below P (T.setTop (mkF m pc' Ls (.long v :: rest)))) : OG p.tables e below P (T.setTop (mkF m pc Ls rest)) := by
  subst hp
  obtain ⟨X, hx, hby, hml, hown, hZ, eT⟩ := B
  exact hr.of fun t k => X.ldc2J hx hown (mv hZ w) rfl (hb hby hd) k
theorem o_topI {pc : Nat} {x y : Int32} (q : x = y) (hr : OG p.tables e below P (T.setTop (mkF m pc Ls (.int y :: rest)))) : OG p.tables e below P (T.setTop (mkF m pc Ls (.int x :: rest))) := q ▸ hr
theorem o_topJ {pc : Nat} {x y : Int64} (q : x = y) (hr : OG p.tables e below P (T.setTop (mkF m pc Ls (.long y :: rest)))) : OG p.tables e below P (T.setTop (mkF m pc Ls (.long x :: rest))) := q ▸ hr
theorem o_iincC (B : Bx own bs ml Z p l e R s m args below meth c T h locs cells slots) (pc pc' : Nat) {k : Nat} {cst : Int} {x : Int32} {l' : Array Slot} (v y : Int32) (hd : decode bs pc = .ok (.iinc k cst, 3)) (hp : pc + 3 = pc') (hv : Int32.ofInt cst = v) (hl : Ls[k]? = some (.val (.int x))) (hy : x + v = y) (hl' : storeLocals Ls k (.int y) = some l')
    (hr : OG p.tables e below P (T.setTop (mkF m pc' l' rest))) : OG p.tables e below P (T.setTop (mkF m pc Ls rest)) := by
  subst hp
  obtain ⟨X, hx, hby, hml, hown, hZ, eT⟩ := B
  exact hr.of fun t k => XT.iincV X.here hx rfl v (hb hby hd) hv hl (hy ▸ hl') k
theorem o_retZ {Q : Option Value → Heap → List Loc → Prop} {kc ks : Nat} (B : Bx own bs ml Z p l e R s m args below meth c T h locs cells slots) (pc : Nat) {z : Int32} {t : FieldType} (hd : decode bs pc = .ok (.ireturn, 1)) (hret : meth.sig.returnType = some t) (hlk : meth.locks = false) (ht : t = .boolean ∨ t = .byte ∨ t = .char ∨ t = .short) (hc : cells ≤ kc) (hs : slots ≤ ks) (hq : Q (some (.int (nar t z))) h locs) :
    OG p.tables e below (fun o s₂ => ∃ v L, o = .returned v ∧ Q v s₂.heap L ∧ FrameEnd s o s₂ L kc ks) (T.setTop (mkF m pc Ls (.int z :: rest))) := by
  obtain ⟨X, hx, hby, hml, hown, hZ, eT⟩ := B
  subst eT
  obtain ⟨fs, hr, hrun, hended, hW, hsame⟩ := X.leave (v := some (.int (nar t z))) (fun hn => by rw [hret] at hn; cases hn) hlk
  exact ⟨_, _, retN X hx hret ht (hb hby hd) hr, hrun, hended, _, _, rfl, hq, ⟨_, rfl⟩, hW, hsame.mono hc hs⟩
theorem o_retI0 (X : Stand p l e R s m args below meth c T locs cells slots) (hx : p.tables.exec = Jvm.exec) {pc : Nat} {z : Int32} (hret : meth.sig.returnType = some .int) (hd : decode c.code pc = .ok (.ireturn, 1)) {fs : List Frame}
    (hl : ∀ (f : JFrame) (acts : List Action), f.method = m → f.locked = none → f.entered = [] → (doReturn e (T.setTop f) acts (some (.int z))).1 = T.setFrames fs) : Steps p.tables e below (T.setTop (mkF m pc Ls (.int z :: rest))) (T.setFrames fs) :=
  retOut X hx hret rfl (Or.inl ⟨rfl, Or.inl rfl, _, rfl⟩) hd hl
theorem o_retI {Q : Option Value → Heap → List Loc → Prop} {kc ks : Nat} (B : Bx own bs ml Z p l e R s m args below meth c T h locs cells slots) (pc : Nat) {z : Int32} (hd : decode bs pc = .ok (.ireturn, 1)) (hret : meth.sig.returnType = some .int) (hlk : meth.locks = false)  (hc : cells ≤ kc) (hs : slots ≤ ks) (hq : Q (some (.int z)) h locs) :
    OG p.tables e below (fun o s₂ => ∃ v L, o = .returned v ∧ Q v s₂.heap L ∧ FrameEnd s o s₂ L kc ks) (T.setTop (mkF m pc Ls (.int z :: rest))) := by
  obtain ⟨X, hx, hby, hml, hown, hZ, eT⟩ := B
  subst eT
  obtain ⟨fs, hr, hrun, hended, hW, hsame⟩ := X.leave (v := some (.int z)) (fun hn => by rw [hret] at hn; cases hn) hlk
  exact ⟨_, _, o_retI0 X hx hret (hb hby hd) hr, hrun, hended, _, _, rfl, hq, ⟨_, rfl⟩, hW, hsame.mono hc hs⟩
theorem o_retL {Q : Option Value → Heap → List Loc → Prop} {kc ks : Nat} (B : Bx own bs ml Z p l e R s m args below meth c T h locs cells slots) (pc : Nat) {z : Int64} (hd : decode bs pc = .ok (.lreturn, 1)) (hret : meth.sig.returnType = some .long) (hlk : meth.locks = false)  (hc : cells ≤ kc) (hs : slots ≤ ks) (hq : Q (some (.long z)) h locs) :
    OG p.tables e below (fun o s₂ => ∃ v L, o = .returned v ∧ Q v s₂.heap L ∧ FrameEnd s o s₂ L kc ks) (T.setTop (mkF m pc Ls [.long z])) := by
  obtain ⟨X, hx, hby, hml, hown, hZ, eT⟩ := B
  subst eT
  obtain ⟨fs, hr, hrun, hended, hW, hsame⟩ := X.leave (v := some (.long z)) (fun hn => by rw [hret] at hn; cases hn) hlk
  exact ⟨_, _, X.lreturnOut hx hret (hb hby hd) hr, hrun, hended, _, _, rfl, hq, ⟨_, rfl⟩, hW, hsame.mono hc hs⟩
theorem o_retA {Q : Option Value → Heap → List Loc → Prop} {kc ks : Nat} (B : Bx own bs ml Z p l e R s m args below meth c T h locs cells slots) (pc : Nat) {z : Value} {t : FieldType} (hd : decode bs pc = .ok (.areturn, 1)) (hret : meth.sig.returnType = some t) (hlk : meth.locks = false) (ht : t.isReference = true) (hz : z.isRef = true) (hc : cells ≤ kc) (hs : slots ≤ ks) (hq : Q (some z) h locs) :
    OG p.tables e below (fun o s₂ => ∃ v L, o = .returned v ∧ Q v s₂.heap L ∧ FrameEnd s o s₂ L kc ks) (T.setTop (mkF m pc Ls [z])) := by
  obtain ⟨X, hx, hby, hml, hown, hZ, eT⟩ := B
  subst eT
  obtain ⟨fs, hr, hrun, hended, hW, hsame⟩ := X.leave (v := some z) (fun hn => by rw [hret] at hn; cases hn) hlk
  exact ⟨_, _, X.areturnOut hx hz hret ht (hb hby hd) hr, hrun, hended, _, _, rfl, hq, ⟨_, rfl⟩, hW, hsame.mono hc hs⟩
theorem o_retV {Q : Option Value → Heap → List Loc → Prop} {kc ks : Nat} (B : Bx own bs ml Z p l e R s m args below meth c T h locs cells slots) (pc : Nat)  (hd : decode bs pc = .ok (.return_, 1)) (hret : meth.sig.returnType = none) (hlk : meth.locks = false)  (hc : cells ≤ kc) (hs : slots ≤ ks) (hq : Q (none) h locs) :
    OG p.tables e below (fun o s₂ => ∃ v L, o = .returned v ∧ Q v s₂.heap L ∧ FrameEnd s o s₂ L kc ks) (T.setTop (mkF m pc Ls [])) := by
  obtain ⟨X, hx, hby, hml, hown, hZ, eT⟩ := B
  subst eT
  obtain ⟨fs, hr, hrun, hended, hW, hsame⟩ := X.leave (v := none) (fun _ => rfl) hlk
  exact ⟨_, _, X.returnOut hx hret (hb hby hd) hr, hrun, hended, _, _, rfl, hq, ⟨_, rfl⟩, hW, hsame.mono hc hs⟩
/-- a body's contract, out of its walk -/
theorem enter {y : MethodName} {ret : Option FieldType} {rm : Room} {ws : List Jvm.Cond} {as' : Array Value} {h0 : Heap} {Q : Option Value → Heap → List Loc → Prop} {kc ks : Nat} (hpl : plainFor y = true) (Ls : Array Slot)
    (hL : Jvm.Sym.laidSlots as'.toList ++ List.replicate (ml - (Jvm.Sym.laidSlots as'.toList).length) .unset = Ls.toList)
    (body : ∀ (p : Program) (e : Env) (s : State) (m : MethodId) (below : List Frame) (meth : Method) (c : Code) (T : State), Bx y.cls bs ml Z p l e rm s m as' below meth c T h0 [] 0 0 → meth.sig.returnType = ret → meth.locks = false → meth.name = y.name →
      OG p.tables e below (fun o s₂ => ∃ v L, o = .returned v ∧ Q v s₂.heap L ∧ FrameEnd s o s₂ L kc ks) (T.setTop (mkF m 0 Ls []))) :
    MetFree l y (head1 (Jvm.Cond.code y bs ml ret :: ws) rm) (fun a U => a = as' ∧ Z.Warmed39 U.vm ∧ U.heap = h0) (fun _ _ _ _ _ => True) (fun _ U o U' => ∃ v L, o = .returned v ∧ Q v U'.heap L ∧ FrameEnd U o U' L kc ks) := by
  refine MetFree.of_bodySF hpl hisR ?_
  intro p e s m args below meth c s₁ Bd hml0 hP hK
  obtain ⟨rfl, hZ, hh⟩ := hP
  have e0 : s₁.heap = h0 := by rw [← hh, Bd.state]; rfl
  have r := body p e s m below meth c s₁ ⟨Stand.of_body Bd, Bd.exec, Bd.bytes, hml0, findClass_of_methodNamed Bd.named, hZ, e0⟩ Bd.returns (BodyLoose.notSynchronized Bd) (name_of_methodNamed Bd.named Bd.method).1
  exact OG.of r fun t k => (XT.entry hL).trans k
/-- what a callee owes -/
abbrev Met (l : Launch) (Z : State) (y : MethodName) (bytes : ByteArray) (maxL : Nat) (ret : Option FieldType) (rm : Room) (as' : Array Value) (h : Heap) (Q : Option Value → Heap → List Loc → Prop) : Prop :=
  MetFree l y (head1 [Jvm.Cond.code y bytes maxL ret] rm) (fun a U => a = as' ∧ Z.Warmed39 U.vm ∧ U.heap = h) (fun _ _ _ _ _ => True) (fun _ U o U' => ∃ v L, o = .returned v ∧ Q v U'.heap L ∧ FrameEnd U o U' L rm.cells rm.slots)
theorem o_callS {index : Nat} {y : MethodName} {bytes : ByteArray} {maxL : Nat} {ret : Option FieldType} {rm : Room} {as' : Array Value} {Q : Option Value → Heap → List Loc → Prop} {ps : List FieldType} {rt : Option FieldType}
    (B : Bx own bs ml Z p l e R s m args below meth c T h locs cells slots) (pc pc' : Nat) (hd : decode bs pc = .ok (.invokestatic index, 3)) (hp : pc + 3 = pc')
    (w1 : (Cond.methodLink own index y).before a0 Z = true) (w2 : (Cond.static y).before a0 Z = true) (w3 : (Cond.initialized y.cls).before a0 Z = true) (w4 : (Cond.code y bytes maxL ret).before a0 Z = true) (hy : y.cls ≠ "java/lang/invoke/MethodHandle" ∧ y.cls ≠ "java/lang/invoke/VarHandle")
    (hM : Met l Z y bytes maxL ret rm as' h Q) (W : Nat) (argsL rest : List Value) (hpd : parseMethodDescriptor y.desc = some ⟨ps, rt⟩) (hlen : argsL.length = ps.length) (has : argsL.toArray = as') {st : List Value} (hst : st = argsL.reverse ++ rest) (hsz : Ls.size = ml)
    (hW : (rest.map fun v => v.category).sum ≤ W) (hf : rm.frames + 1 ≤ R.frames) (hl : W + (maxL + 11) + rm.locals ≤ R.locals) (hcl : cells + rm.cells ≤ R.cells) (hsl : slots + rm.slots ≤ R.slots) :
    ∃ v T' L, Bx own bs ml Z p l e R s m args below meth c T' T'.heap (locs ++ L) (cells + rm.cells) (slots + rm.slots) ∧ Q v T'.heap L ∧
      ∀ {P : Outcome → State → Prop}, OG p.tables e below P (T'.setTop (mkF m pc' Ls (v.toList ++ rest))) → OG p.tables e below P (T.setTop (mkF m pc Ls st)) := by
  subst hp hst
  obtain ⟨X, hx, hby, hml, hown, hZ, eT⟩ := B
  obtain ⟨v, vm1, ⟨T', L', k', n'⟩, -, X', ⟨Lc, hQ, l', y', z'⟩, st⟩ := Jvm.LawKit.callS X hx (y := y) hown (mvT hZ w1) (mvT hZ w2) (mvT hZ w3) (mvT hZ w4) hy (backOf (W := W) hM hZ w4 w3 hf hl) (g := mkF m pc Ls (argsL.reverse ++ rest)) rfl (by rw [hml]; exact hsz) (argsL := argsL) (rest := rest) (lenOf hpd hlen) rfl (by simpa using hW) (hb hby hd) (fun _ _ => ⟨has, eT, hcl, hsl⟩)
  dsimp only [Pt.U, Pt.locs, Pt.cells, Pt.slots] at X' l' y' z' st hQ
  subst l' y' z'
  exact ⟨v, T', Lc, ⟨X', hx, hby, hml, hown, hZ, rfl⟩, hQ, fun k => k.of st⟩
/-- a callee that writes and makes nothing -/
def Pu (r : Option Value) (h : Heap) (v : Option Value) (h' : Heap) (L : List Loc) : Prop := v = r ∧ L = [] ∧ h' = h
theorem o_callP {index : Nat} {y : MethodName} {bytes : ByteArray} {maxL : Nat} {ret : Option FieldType} {fr lo : Nat} {as' : Array Value} {r : Value} {ps : List FieldType} {rt : Option FieldType}
    (B : Bx own bs ml Z p l e R s m args below meth c T h locs cells slots) (pc pc' : Nat) (hd : decode bs pc = .ok (.invokestatic index, 3)) (hp : pc + 3 = pc')
    (w1 : (Cond.methodLink own index y).before a0 Z = true) (w2 : (Cond.static y).before a0 Z = true) (w3 : (Cond.initialized y.cls).before a0 Z = true) (w4 : (Cond.code y bytes maxL ret).before a0 Z = true) (hy : y.cls ≠ "java/lang/invoke/MethodHandle" ∧ y.cls ≠ "java/lang/invoke/VarHandle")
    (hM : Met l Z y bytes maxL ret ({ frames := fr, cells := 0, slots := 0, locals := lo } : Room) as' h (Pu (some r) h)) (W : Nat) (argsL rest : List Value) (hpd : parseMethodDescriptor y.desc = some ⟨ps, rt⟩) (hlen : argsL.length = ps.length) (has : argsL.toArray = as') {st : List Value} (hst : st = argsL.reverse ++ rest) (hsz : Ls.size = ml)
    (hW : (rest.map fun v => v.category).sum ≤ W) (hf : fr + 1 ≤ R.frames) (hl : W + (maxL + 11) + lo ≤ R.locals) (hcl : cells ≤ R.cells) (hsl : slots ≤ R.slots) :
    ∃ T', Bx own bs ml Z p l e R s m args below meth c T' h locs cells slots ∧
      ∀ {P : Outcome → State → Prop}, OG p.tables e below P (T'.setTop (mkF m pc' Ls (r :: rest))) → OG p.tables e below P (T.setTop (mkF m pc Ls st)) := by
  obtain ⟨v, T', L, B', ⟨rfl, rfl, hh⟩, st⟩ := o_callS B pc pc' hd hp w1 w2 w3 w4 hy hM W argsL rest hpd hlen has hst hsz hW hf hl hcl hsl
  rw [hh, List.append_nil] at B'
  exact ⟨T', B', st⟩
end Walk
theorem b_ne_t {c : Prop} [Decidable c] (h : c) : ifCond.holds .ne (if c then (1 : Int32) else 0) = true := by rw [if_pos h]; rfl
theorem b_ne_f {c : Prop} [Decidable c] (h : ¬ c) : ifCond.holds .ne (if c then (1 : Int32) else 0) = false := by rw [if_neg h]; rfl
theorem b_eq_t {c : Prop} [Decidable c] (h : ¬ c) : ifCond.holds .eq (if c then (1 : Int32) else 0) = true := by rw [if_neg h]; rfl
theorem b_eq_f {c : Prop} [Decidable c] (h : c) : ifCond.holds .eq (if c then (1 : Int32) else 0) = false := by rw [if_pos h]; rfl
/-! 2. arrays by a function of the place -/
def AI (Z : State) (h : Heap) (a : Addr) (ty : FieldType) (n : Nat) (g : Nat → Int32) : Prop := ∃ c : Cell, Arr Z h a c ty ∧ c.slots.size = n ∧ n < 2147483648 ∧ ∀ j, j < n → c.slots[j]? = some (.int (g j))
def AJ (Z : State) (h : Heap) (a : Addr) (n : Nat) (g : Nat → Int64) : Prop := ∃ c : Cell, Arr Z h a c .long ∧ c.slots.size = n ∧ n < 2147483648 ∧ ∀ j, j < n → c.slots[j]? = some (.long (g j))
section Arrays
variable {Z : State} {h h' : Heap} {a b : Addr} {ty : FieldType} {n i : Nat} {v : Value} {ws : List Addr}
theorem AI.ext {g : Nat → Int32} (A : AI Z h a ty n g) (E : Ext h h') : AI Z h' a ty n g := by obtain ⟨c, A, r⟩ := A; exact ⟨c, A.ext E, r⟩
theorem AI.other {g : Nat → Int32} (A : AI Z h a ty n g) (W : Wr h h' b i v) (q : a ≠ b) : AI Z h' a ty n g := by obtain ⟨c, A, r⟩ := A; exact ⟨c, A.other W q, r⟩
theorem AI.keep {g : Nat → Int32} (A : AI Z h a ty n g) (K : Keep h h' ws) (q : a ∉ ws) : AI Z h' a ty n g := by obtain ⟨c, A, r⟩ := A; exact ⟨c, ⟨K.2.1 a c A.1 q, A.2⟩, r⟩
theorem AI.lt {g : Nat → Int32} (A : AI Z h a ty n g) : a < h.size := by obtain ⟨c, A, r⟩ := A; exact A.lt
theorem AI.len {g : Nat → Int32} (A : AI Z h a ty n g) : n < 2147483648 := by obtain ⟨c, A, r, q, _⟩ := A; exact q
theorem AI.alt {g g' : Nat → Int32} (A : AI Z h a ty n g) (q : ∀ j, j < n → g' j = g j) : AI Z h a ty n g' := by obtain ⟨c, A, r, s, H⟩ := A; exact ⟨c, A, r, s, fun j hj => by rw [q j hj]; exact H j hj⟩
theorem AI.set {g : Nat → Int32} {x : Int32} (A : AI Z h a ty n g) (W : Wr h h' a i (.int x)) : AI Z h' a ty n (fun j => if j = i then x else g j) := by
  obtain ⟨c, A, S, hn, H⟩ := A
  refine ⟨c.setSlot i (.int x), Arr.same W A, by simp [Cell.setSlot, S], hn, fun j hj => ?_⟩
  show (c.slots.setIfInBounds i (.int x))[j]? = some (.int (if j = i then x else g j))
  by_cases e : j = i
  · subst e; rw [if_pos rfl]; simp [S, hj]
  · rw [if_neg e, Array.getElem?_setIfInBounds_ne (Ne.symm e)]; exact H j hj
theorem AJ.ext {g : Nat → Int64} (A : AJ Z h a n g) (E : Ext h h') : AJ Z h' a n g := by obtain ⟨c, A, r⟩ := A; exact ⟨c, A.ext E, r⟩
theorem AJ.other {g : Nat → Int64} (A : AJ Z h a n g) (W : Wr h h' b i v) (q : a ≠ b) : AJ Z h' a n g := by obtain ⟨c, A, r⟩ := A; exact ⟨c, A.other W q, r⟩
theorem AJ.keep {g : Nat → Int64} (A : AJ Z h a n g) (K : Keep h h' ws) (q : a ∉ ws) : AJ Z h' a n g := by obtain ⟨c, A, r⟩ := A; exact ⟨c, ⟨K.2.1 a c A.1 q, A.2⟩, r⟩
theorem AJ.lt {g : Nat → Int64} (A : AJ Z h a n g) : a < h.size := by obtain ⟨c, A, r⟩ := A; exact A.lt
theorem AJ.len {g : Nat → Int64} (A : AJ Z h a n g) : n < 2147483648 := by obtain ⟨c, A, r, q, _⟩ := A; exact q
theorem AJ.alt {g g' : Nat → Int64} (A : AJ Z h a n g) (q : ∀ j, j < n → g' j = g j) : AJ Z h a n g' := by obtain ⟨c, A, r, s, H⟩ := A; exact ⟨c, A, r, s, fun j hj => by rw [q j hj]; exact H j hj⟩
theorem AJ.set {g : Nat → Int64} {x : Int64} (A : AJ Z h a n g) (W : Wr h h' a i (.long x)) : AJ Z h' a n (fun j => if j = i then x else g j) := by
  obtain ⟨c, A, S, hn, H⟩ := A
  refine ⟨c.setSlot i (.long x), Arr.same W A, by simp [Cell.setSlot, S], hn, fun j hj => ?_⟩
  show (c.slots.setIfInBounds i (.long x))[j]? = some (.long (if j = i then x else g j))
  by_cases e : j = i
  · subst e; rw [if_pos rfl]; simp [S, hj]
  · rw [if_neg e, Array.getElem?_setIfInBounds_ne (Ne.symm e)]; exact H j hj
theorem in_of {c : Cell} {j : Int32} (S : c.slots.size = n) (h0 : ¬ j < 0) (hj : j.toNatClampNeg = i) (hi : i < n) : ¬ (j < 0 ∨ c.slots.size ≤ j.toNatClampNeg) := by rw [S, hj]; rintro (q | q); exact h0 q; omega
end Arrays
theorem ix_of {j : Int32} {k : Nat} (h : j.toInt = k) : ¬ j < 0 ∧ j.toNatClampNeg = k := by
  rw [Int32.lt_iff_toInt_lt, Int32.toInt_zero]
  simp only [Int32.toNatClampNeg, h]
  omega
theorem ix_add {j : Int32} {k : Nat} (c : Int32) (n : Nat) (h : j.toInt = k) (hc : c.toInt = n) (hk : k + n < 2147483648) : (j + c).toInt = (k + n : Nat) := by
  have a := c_iadd j c
  have r := rng32 (j + c)
  omega
theorem nar_bb (x : Int32) : nar .byte x.toInt8.toInt32 = x.toInt8.toInt32 := by simp [nar]
theorem nar_cc (x : Int32) : nar .char x.toUInt32.toUInt16.toUInt32.toInt32 = x.toUInt32.toUInt16.toUInt32.toInt32 := by simp only [nar, UInt32.toUInt32_toInt32, UInt16.toUInt16_toUInt32]
def Lw (n0 : Nat) (r : Option Value) (v : Option Value) (h : Heap) (L : List Loc) : Prop := v = r ∧ Fr n0 L
theorem st1 {l l' : Array Slot} {i : Nat} {v : Value} {o : Slot} (hold : l[i]? = some o) (ho : One o) (hv : v.category = 1) (hl : l.setIfInBounds i (.val v) = l') : storeLocals l i v = some l' := by
  rw [← hl]; exact XS.store1 hold ho hv
theorem st2 {l l' : Array Slot} {i : Nat} {x : Int64} {o o' : Slot} (hold : l[i]? = some o) (ho : One o) (hold' : l[i + 1]? = some o') (ho' : One o') (hl : (l.setIfInBounds i (.val (.long x))).setIfInBounds (i + 1) .second = l') : storeLocals l i (.long x) = some l' := by
  rw [← hl]
  have hi := (Array.getElem?_eq_some_iff.mp hold).1
  have hi' := (Array.getElem?_eq_some_iff.mp hold').1
  have e : (l.setIfInBounds i (.val (.long x)))[i + 1]? = some o' := by rw [Array.getElem?_setIfInBounds_ne (by omega)]; exact hold'
  rcases ho with rfl | ⟨w, rfl, hw⟩ <;> rcases ho' with rfl | ⟨w', rfl, hw'⟩ <;> simp [storeLocals, storeSelf, setAt, hold, hi, hi', *, Value.category] <;> simp_all [Value.category]
section Walk2
variable {own : String} {bs : ByteArray} {ml : Nat} {Z : State} {p : Program} {l : Launch} {e : Env} {R : Room} {s : State} {m : MethodId} {args : Array Value} {below : List Frame} {meth : Method} {c : Code} {T : State} {h : Heap} {locs : List Loc} {cells slots n0 : Nat} {P : Outcome → State → Prop} {Ls : Array Slot} {rest : List Value} {a0 : Array Value} {a : Addr} {n : Nat}
theorem o_iaload (B : Bx own bs ml Z p l e R s m args below meth c T h locs cells slots) (pc pc' : Nat) {g : Nat → Int32} (A : AI Z h a .int n g) {j : Int32} (i : Nat) (v : Int32) (hd : decode bs pc = .ok (.iaload, 1)) (hp : pc + 1 = pc') (h0 : ¬ j < 0) (hj : j.toNatClampNeg = i) (hi : i < n) (hv : g i = v)
    (hr : OG p.tables e below P (T.setTop (mkF m pc' Ls (.int v :: rest)))) : OG p.tables e below P (T.setTop (mkF m pc Ls (.int j :: .ref a :: rest))) := by
  subst hp hv
  obtain ⟨X, hx, hby, hml, hown, hZ, eT⟩ := B
  obtain ⟨cl, A, S, hn, H⟩ := A
  exact hr.of fun t k => X.iaload hx (by rw [eT]; exact A.1) (State.isArrayOf_alike hZ.alike A.2.1) A.2.2 (in_of S h0 hj hi) (by rw [hj]; exact H i hi) (g := mkF m pc Ls (.int j :: .ref a :: rest)) rfl rfl (hb hby hd) t k
theorem o_caload (B : Bx own bs ml Z p l e R s m args below meth c T h locs cells slots) (pc pc' : Nat) {g : Nat → Int32} (A : AI Z h a .char n g) {j : Int32} (i : Nat) (v : Int32) (hd : decode bs pc = .ok (.caload, 1)) (hp : pc + 1 = pc') (h0 : ¬ j < 0) (hj : j.toNatClampNeg = i) (hi : i < n) (hv : g i = v)
    (hr : OG p.tables e below P (T.setTop (mkF m pc' Ls (.int v :: rest)))) : OG p.tables e below P (T.setTop (mkF m pc Ls (.int j :: .ref a :: rest))) := by
  subst hp hv
  obtain ⟨X, hx, hby, hml, hown, hZ, eT⟩ := B
  obtain ⟨cl, A, S, hn, H⟩ := A
  exact hr.of fun t k => X.caload hx (by rw [eT]; exact A.1) (State.isArrayOf_alike hZ.alike A.2.1) A.2.2 (in_of S h0 hj hi) (by rw [hj]; exact H i hi) (g := mkF m pc Ls (.int j :: .ref a :: rest)) rfl rfl (hb hby hd) t k
theorem o_baload (B : Bx own bs ml Z p l e R s m args below meth c T h locs cells slots) (pc pc' : Nat) {g : Nat → Int32} (A : AI Z h a .byte n g) {j : Int32} (i : Nat) (v : Int32) (hd : decode bs pc = .ok (.baload, 1)) (hp : pc + 1 = pc') (h0 : ¬ j < 0) (hj : j.toNatClampNeg = i) (hi : i < n) (hv : g i = v)
    (hr : OG p.tables e below P (T.setTop (mkF m pc' Ls (.int v :: rest)))) : OG p.tables e below P (T.setTop (mkF m pc Ls (.int j :: .ref a :: rest))) := by
  subst hp hv
  obtain ⟨X, hx, hby, hml, hown, hZ, eT⟩ := B
  obtain ⟨cl, A, S, hn, H⟩ := A
  exact hr.of fun t k => X.baloadBytes hx (by rw [eT]; exact A.1) (State.isArrayOf_alike hZ.alike A.2.1) A.2.2 (in_of S h0 hj hi) (by rw [hj]; exact H i hi) (g := mkF m pc Ls (.int j :: .ref a :: rest)) rfl rfl (hb hby hd) t k
theorem o_zaload (B : Bx own bs ml Z p l e R s m args below meth c T h locs cells slots) (pc pc' : Nat) {g : Nat → Int32} (A : AI Z h a .boolean n g) {j : Int32} (i : Nat) (v : Int32) (hd : decode bs pc = .ok (.baload, 1)) (hp : pc + 1 = pc') (h0 : ¬ j < 0) (hj : j.toNatClampNeg = i) (hi : i < n) (hv : g i = v)
    (hr : OG p.tables e below P (T.setTop (mkF m pc' Ls (.int v :: rest)))) : OG p.tables e below P (T.setTop (mkF m pc Ls (.int j :: .ref a :: rest))) := by
  subst hp hv
  obtain ⟨X, hx, hby, hml, hown, hZ, eT⟩ := B
  obtain ⟨cl, A, S, hn, H⟩ := A
  exact hr.of fun t k => X.baloadBooleans hx (by rw [eT]; exact A.1) (State.isArrayOf_alike hZ.alike A.2.1) A.2.2 (in_of S h0 hj hi) (by rw [hj]; exact H i hi) (g := mkF m pc Ls (.int j :: .ref a :: rest)) rfl rfl (hb hby hd) t k
theorem o_laload (B : Bx own bs ml Z p l e R s m args below meth c T h locs cells slots) (pc pc' : Nat) {g : Nat → Int64} (A : AJ Z h a n g) {j : Int32} (i : Nat) (v : Int64) (hd : decode bs pc = .ok (.laload, 1)) (hp : pc + 1 = pc') (h0 : ¬ j < 0) (hj : j.toNatClampNeg = i) (hi : i < n) (hv : g i = v)
    (hr : OG p.tables e below P (T.setTop (mkF m pc' Ls (.long v :: rest)))) : OG p.tables e below P (T.setTop (mkF m pc Ls (.int j :: .ref a :: rest))) := by
  subst hp hv
  obtain ⟨X, hx, hby, hml, hown, hZ, eT⟩ := B
  obtain ⟨cl, A, S, hn, H⟩ := A
  exact hr.of fun t k => X.laload hx (by rw [eT]; exact A.1) (State.isArrayOf_alike hZ.alike A.2.1) A.2.2 (in_of S h0 hj hi) (by rw [hj]; exact H i hi) (g := mkF m pc Ls (.int j :: .ref a :: rest)) rfl rfl (hb hby hd) t k
theorem o_alenI (B : Bx own bs ml Z p l e R s m args below meth c T h locs cells slots) (pc pc' : Nat) {ty : FieldType} {g : Nat → Int32} (A : AI Z h a ty n g) (v : Int32) (hd : decode bs pc = .ok (.arraylength, 1)) (hp : pc + 1 = pc') (hv : n.toInt32 = v)
    (hr : OG p.tables e below P (T.setTop (mkF m pc' Ls (.int v :: rest)))) : OG p.tables e below P (T.setTop (mkF m pc Ls (.ref a :: rest))) := by
  subst hp hv
  obtain ⟨X, hx, hby, hml, hown, hZ, eT⟩ := B
  obtain ⟨cl, A, S, hn, H⟩ := A
  exact hr.of fun t k => X.arraylength hx (by rw [eT]; exact A.1) (State.isArrayOf_alike hZ.alike A.2.1) (g := mkF m pc Ls (.ref a :: rest)) rfl rfl (hb hby hd) t (by rw [S]; exact k)
theorem o_alenJ (B : Bx own bs ml Z p l e R s m args below meth c T h locs cells slots) (pc pc' : Nat) {g : Nat → Int64} (A : AJ Z h a n g) (v : Int32) (hd : decode bs pc = .ok (.arraylength, 1)) (hp : pc + 1 = pc') (hv : n.toInt32 = v)
    (hr : OG p.tables e below P (T.setTop (mkF m pc' Ls (.int v :: rest)))) : OG p.tables e below P (T.setTop (mkF m pc Ls (.ref a :: rest))) := by
  subst hp hv
  obtain ⟨X, hx, hby, hml, hown, hZ, eT⟩ := B
  obtain ⟨cl, A, S, hn, H⟩ := A
  exact hr.of fun t k => X.arraylength hx (by rw [eT]; exact A.1) (State.isArrayOf_alike hZ.alike A.2.1) (g := mkF m pc Ls (.ref a :: rest)) rfl rfl (hb hby hd) t (by rw [S]; exact k)
theorem o_iastore (B : Bx own bs ml Z p l e R s m args below meth c T h locs cells slots) (N : Fr n0 locs) (ge : n0 ≤ a) (pc pc' : Nat) {g : Nat → Int32} (A : AI Z h a .int n g) {j : Int32} {x : Int32} (i : Nat) (y : Int32) (hd : decode bs pc = .ok (.iastore, 1)) (hp : pc + 1 = pc') (h0 : ¬ j < 0) (hj : j.toNatClampNeg = i) (hi : i < n) (hy : x = y) :
    ∃ T' h' L', Bx own bs ml Z p l e R s m args below meth c T' h' L' cells slots ∧ Fr n0 L' ∧ Wr h h' a i (.int y) ∧ AI Z h' a .int n (fun j => if j = i then y else g j) ∧ ∀ {P : Outcome → State → Prop}, OG p.tables e below P (T'.setTop (mkF m pc' Ls rest)) → OG p.tables e below P (T.setTop (mkF m pc Ls (.int x :: .int j :: .ref a :: rest))) := by
  subst hp hj hy
  obtain ⟨X, hx, hby, hml, hown, hZ, eT⟩ := B
  have A' := A
  obtain ⟨cl, A, S, hn, H⟩ := A
  obtain ⟨T', h', X', e', W, st⟩ := stI X hx hZ eT A (in_of S h0 rfl hi) (g := mkF m pc Ls (.int x :: .int j :: .ref a :: rest)) rfl rfl (hb hby hd)
  exact ⟨T', h', _, ⟨X', hx, hby, hml, hown, hZ, e'⟩, Fr.snoc X' N ge, W, A'.set W, fun k => k.of st⟩
theorem o_castore (B : Bx own bs ml Z p l e R s m args below meth c T h locs cells slots) (N : Fr n0 locs) (ge : n0 ≤ a) (pc pc' : Nat) {g : Nat → Int32} (A : AI Z h a .char n g) {j : Int32} {x : Int32} (i : Nat) (y : Int32) (hd : decode bs pc = .ok (.castore, 1)) (hp : pc + 1 = pc') (h0 : ¬ j < 0) (hj : j.toNatClampNeg = i) (hi : i < n) (hy : nar .char x = y) :
    ∃ T' h' L', Bx own bs ml Z p l e R s m args below meth c T' h' L' cells slots ∧ Fr n0 L' ∧ Wr h h' a i (.int y) ∧ AI Z h' a .char n (fun j => if j = i then y else g j) ∧ ∀ {P : Outcome → State → Prop}, OG p.tables e below P (T'.setTop (mkF m pc' Ls rest)) → OG p.tables e below P (T.setTop (mkF m pc Ls (.int x :: .int j :: .ref a :: rest))) := by
  subst hp hj hy
  obtain ⟨X, hx, hby, hml, hown, hZ, eT⟩ := B
  have A' := A
  obtain ⟨cl, A, S, hn, H⟩ := A
  obtain ⟨T', h', X', e', W, st⟩ := stC X hx hZ eT A (in_of S h0 rfl hi) (g := mkF m pc Ls (.int x :: .int j :: .ref a :: rest)) rfl rfl (hb hby hd)
  exact ⟨T', h', _, ⟨X', hx, hby, hml, hown, hZ, e'⟩, Fr.snoc X' N ge, W, A'.set W, fun k => k.of st⟩
theorem o_bastore (B : Bx own bs ml Z p l e R s m args below meth c T h locs cells slots) (N : Fr n0 locs) (ge : n0 ≤ a) (pc pc' : Nat) {g : Nat → Int32} (A : AI Z h a .byte n g) {j : Int32} {x : Int32} (i : Nat) (y : Int32) (hd : decode bs pc = .ok (.bastore, 1)) (hp : pc + 1 = pc') (h0 : ¬ j < 0) (hj : j.toNatClampNeg = i) (hi : i < n) (hy : nar .byte x = y) :
    ∃ T' h' L', Bx own bs ml Z p l e R s m args below meth c T' h' L' cells slots ∧ Fr n0 L' ∧ Wr h h' a i (.int y) ∧ AI Z h' a .byte n (fun j => if j = i then y else g j) ∧ ∀ {P : Outcome → State → Prop}, OG p.tables e below P (T'.setTop (mkF m pc' Ls rest)) → OG p.tables e below P (T.setTop (mkF m pc Ls (.int x :: .int j :: .ref a :: rest))) := by
  subst hp hj hy
  obtain ⟨X, hx, hby, hml, hown, hZ, eT⟩ := B
  have A' := A
  obtain ⟨cl, A, S, hn, H⟩ := A
  obtain ⟨T', h', X', e', W, st⟩ := stB X hx hZ eT A (in_of S h0 rfl hi) (g := mkF m pc Ls (.int x :: .int j :: .ref a :: rest)) rfl rfl (hb hby hd)
  exact ⟨T', h', _, ⟨X', hx, hby, hml, hown, hZ, e'⟩, Fr.snoc X' N ge, W, A'.set W, fun k => k.of st⟩
theorem o_zastore (B : Bx own bs ml Z p l e R s m args below meth c T h locs cells slots) (N : Fr n0 locs) (ge : n0 ≤ a) (pc pc' : Nat) {g : Nat → Int32} (A : AI Z h a .boolean n g) {j : Int32} {x : Int32} (i : Nat) (y : Int32) (hd : decode bs pc = .ok (.bastore, 1)) (hp : pc + 1 = pc') (h0 : ¬ j < 0) (hj : j.toNatClampNeg = i) (hi : i < n) (hy : nar .boolean x = y) :
    ∃ T' h' L', Bx own bs ml Z p l e R s m args below meth c T' h' L' cells slots ∧ Fr n0 L' ∧ Wr h h' a i (.int y) ∧ AI Z h' a .boolean n (fun j => if j = i then y else g j) ∧ ∀ {P : Outcome → State → Prop}, OG p.tables e below P (T'.setTop (mkF m pc' Ls rest)) → OG p.tables e below P (T.setTop (mkF m pc Ls (.int x :: .int j :: .ref a :: rest))) := by
  subst hp hj hy
  obtain ⟨X, hx, hby, hml, hown, hZ, eT⟩ := B
  have A' := A
  obtain ⟨cl, A, S, hn, H⟩ := A
  obtain ⟨T', h', X', e', W, st⟩ := stZ X hx hZ eT A (in_of S h0 rfl hi) (g := mkF m pc Ls (.int x :: .int j :: .ref a :: rest)) rfl rfl (hb hby hd)
  exact ⟨T', h', _, ⟨X', hx, hby, hml, hown, hZ, e'⟩, Fr.snoc X' N ge, W, A'.set W, fun k => k.of st⟩
theorem o_lastore (B : Bx own bs ml Z p l e R s m args below meth c T h locs cells slots) (N : Fr n0 locs) (ge : n0 ≤ a) (pc pc' : Nat) {g : Nat → Int64} (A : AJ Z h a n g) {j : Int32} {x : Int64} (i : Nat) (y : Int64) (hd : decode bs pc = .ok (.lastore, 1)) (hp : pc + 1 = pc') (h0 : ¬ j < 0) (hj : j.toNatClampNeg = i) (hi : i < n) (hy : x = y) :
    ∃ T' h' L', Bx own bs ml Z p l e R s m args below meth c T' h' L' cells slots ∧ Fr n0 L' ∧ Wr h h' a i (.long y) ∧ AJ Z h' a n (fun j => if j = i then y else g j) ∧ ∀ {P : Outcome → State → Prop}, OG p.tables e below P (T'.setTop (mkF m pc' Ls rest)) → OG p.tables e below P (T.setTop (mkF m pc Ls (.long x :: .int j :: .ref a :: rest))) := by
  subst hp hj hy
  obtain ⟨X, hx, hby, hml, hown, hZ, eT⟩ := B
  have A' := A
  obtain ⟨cl, A, S, hn, H⟩ := A
  obtain ⟨T', h', X', e', W, st⟩ := stJ X hx hZ eT A (in_of S h0 rfl hi) (g := mkF m pc Ls (.long x :: .int j :: .ref a :: rest)) rfl rfl (hb hby hd)
  exact ⟨T', h', _, ⟨X', hx, hby, hml, hown, hZ, e'⟩, Fr.snoc X' N ge, W, A'.set W, fun k => k.of st⟩
theorem o_newI (B : Bx own bs ml Z p l e R s m args below meth c T h locs cells slots) (pc pc' : Nat) {aty : ArrayType} {ty : FieldType} {z : Int32} (k cap : Nat) (w : (Cond.arrayClass (newarray.typeOf aty)).before a0 Z = true) (hd : decode bs pc = .ok (.newarray aty, 2)) (hp : pc + 2 = pc') (hty : newarray.typeOf aty = ty) (hdv : defaultValue ty = .int 0) (hz : ¬ z < 0) (hk : z.toNatClampNeg = k) (hcap : k ≤ cap) (hb8 : cap * 8 ≤ 536870912) (hc : cells + 1 ≤ R.cells) (hl : slots + cap ≤ R.slots) :
    ∃ a T' h', a = h.size ∧ Bx own bs ml Z p l e R s m args below meth c T' h' locs (cells + 1) (slots + cap) ∧ Ext h h' ∧ AI Z h' a ty k (fun _ => 0) ∧ ∀ {P : Outcome → State → Prop}, OG p.tables e below P (T'.setTop (mkF m pc' Ls (.ref a :: rest))) → OG p.tables e below P (T.setTop (mkF m pc Ls (.int z :: rest))) := by
  subst hp hk
  obtain ⟨X, hx, hby, hml, hown, hZ, eT⟩ := B
  obtain ⟨T', h', cA, X', e', E, A, st⟩ := newP X hx hZ w eT (g := mkF m pc Ls (.int z :: rest)) rfl (hb hby hd) rfl hz (cap := cap) hcap hb8 hc hl
  rw [hty] at A
  refine ⟨h.size, T', h', rfl, ⟨X', hx, hby, hml, hown, hZ, e'⟩, E, ⟨_, A, sz_new _ _ _, (back32 hz).2, fun j hj => ?_⟩, fun k => k.of st⟩
  simp [newA, hj, hdv]
theorem o_newJ (B : Bx own bs ml Z p l e R s m args below meth c T h locs cells slots) (pc pc' : Nat) {aty : ArrayType} {z : Int32} (k cap : Nat) (w : (Cond.arrayClass (newarray.typeOf aty)).before a0 Z = true) (hd : decode bs pc = .ok (.newarray aty, 2)) (hp : pc + 2 = pc') (hty : newarray.typeOf aty = .long) (hz : ¬ z < 0) (hk : z.toNatClampNeg = k) (hcap : k ≤ cap) (hb8 : cap * 8 ≤ 536870912) (hc : cells + 1 ≤ R.cells) (hl : slots + cap ≤ R.slots) :
    ∃ a T' h', a = h.size ∧ Bx own bs ml Z p l e R s m args below meth c T' h' locs (cells + 1) (slots + cap) ∧ Ext h h' ∧ AJ Z h' a k (fun _ => 0) ∧ ∀ {P : Outcome → State → Prop}, OG p.tables e below P (T'.setTop (mkF m pc' Ls (.ref a :: rest))) → OG p.tables e below P (T.setTop (mkF m pc Ls (.int z :: rest))) := by
  subst hp hk
  obtain ⟨X, hx, hby, hml, hown, hZ, eT⟩ := B
  obtain ⟨T', h', cA, X', e', E, A, st⟩ := newP X hx hZ w eT (g := mkF m pc Ls (.int z :: rest)) rfl (hb hby hd) rfl hz (cap := cap) hcap hb8 hc hl
  rw [hty] at A
  refine ⟨h.size, T', h', rfl, ⟨X', hx, hby, hml, hown, hZ, e'⟩, E, ⟨_, A, sz_new _ _ _, (back32 hz).2, fun j hj => ?_⟩, fun k => k.of st⟩
  simp [newA, hj, defaultValue]
theorem o_getfield (B : Bx own bs ml Z p l e R s m args below meth c T h locs cells slots) {R0 O f d host : String} {index : Nat} {v : Value} (pc pc' : Nat) (hd : decode bs pc = .ok (.getfield index, 3)) (hp : pc + 3 = pc') (w : (Cond.fieldLink own index R0 f d).before a0 Z = true ∨ (Cond.fieldLinkNest own index R0 f d host).before a0 Z = true) (via : Via Z R0 O f d) (F : Fld Z h a O f d v) :
    ∃ T', Bx own bs ml Z p l e R s m args below meth c T' h locs cells slots ∧ ∀ {P : Outcome → State → Prop}, OG p.tables e below P (T'.setTop (mkF m pc' Ls (v :: rest))) → OG p.tables e below P (T.setTop (mkF m pc Ls (.ref a :: rest))) := by
  subst hp
  obtain ⟨X, hx, hby, hml, hown, hZ, eT⟩ := B
  obtain ⟨T', X', e', st⟩ := getF X hx hZ hown w via eT F (g := mkF m pc Ls (.ref a :: rest)) rfl rfl (hb hby hd)
  exact ⟨T', ⟨X', hx, hby, hml, hown, hZ, e'⟩, fun k => k.of st⟩
theorem o_putfield (B : Bx own bs ml Z p l e R s m args below meth c T h locs cells slots) (N : Fr n0 locs) (ge : n0 ≤ a) {R0 O f d host C : String} {index kk : Nat} {v old : Value} {ty : FieldType} (pc pc' : Nat) (hd : decode bs pc = .ok (.putfield index, 3)) (hp : pc + 3 = pc') (w : (Cond.fieldLink own index R0 f d).before a0 Z = true ∨ (Cond.fieldLinkNest own index R0 f d host).before a0 Z = true) (via : Via Z R0 O f d) (F : Fld Z h a O f d old) (E : Exa Z h a C) (L : (Cond.lays C O f d).before a0 Z = true ∨ ((Cond.laysFinal C O f d).before a0 Z = true ∧ own = O ∧ meth.name = "<init>")) (wi : (Cond.instantiable C kk).before a0 Z = true) (hty : parseFieldDescriptor d = some ty) (hn : narrow ty v = v) (hf : fits ty v = true) :
    ∃ T' h' L', Bx own bs ml Z p l e R s m args below meth c T' h' L' cells slots ∧ Fr n0 L' ∧ Wr h h' a (Jvm.RoadKit.slotOf Z O f d) v ∧ ∀ {P : Outcome → State → Prop}, OG p.tables e below P (T'.setTop (mkF m pc' Ls rest)) → OG p.tables e below P (T.setTop (mkF m pc Ls (v :: .ref a :: rest))) := by
  subst hp
  obtain ⟨X, hx, hby, hml, hown, hZ, eT⟩ := B
  obtain ⟨T', h', X', e', W, st⟩ := putF X hx hZ hown w via eT F E L wi hty hn hf (g := mkF m pc Ls (v :: .ref a :: rest)) rfl rfl (hb hby hd)
  exact ⟨T', h', _, ⟨X', hx, hby, hml, hown, hZ, e'⟩, Fr.snoc X' N ge, W, fun k => k.of st⟩
theorem o_new (B : Bx own bs ml Z p l e R s m args below meth c T h locs cells slots) {C : String} {index : Nat} (pc pc' : Nat) (hd : decode bs pc = .ok (.new index, 3)) (hp : pc + 3 = pc') (w : (Cond.classLink own index C).before a0 Z = true) (wi : (Cond.instantiable C n).before a0 Z = true) (wz : (Cond.initialized C).before a0 Z = true) (hc : cells + 1 ≤ R.cells) (hl : slots + n ≤ R.slots) :
    ∃ a T' h', a = h.size ∧ Bx own bs ml Z p l e R s m args below meth c T' h' locs (cells + 1) (slots + n) ∧ Ext h h' ∧ Exa Z h' a C ∧ (∀ {O nm d : String} {ty : FieldType}, Laid Z a0 C O nm d → parseFieldDescriptor d = some ty → Fld Z h' a O nm d (defaultValue ty)) ∧ ∀ {P : Outcome → State → Prop}, OG p.tables e below P (T'.setTop (mkF m pc' Ls (.ref a :: rest))) → OG p.tables e below P (T.setTop (mkF m pc Ls rest)) := by
  subst hp
  obtain ⟨X, hx, hby, hml, hown, hZ, eT⟩ := B
  obtain ⟨T', h', X', e', E, A, D, -, st⟩ := newO X hx hZ hown w wi wz eT (g := mkF m pc Ls rest) rfl (hb hby hd) hc hl
  exact ⟨h.size, T', h', rfl, ⟨X', hx, hby, hml, hown, hZ, e'⟩, E, A, D, fun k => k.of st⟩
theorem o_initO (B : Bx own bs ml Z p l e R s m args below meth c T h locs cells slots) {index : Nat} (pc pc' : Nat) (hd : decode bs pc = .ok (.invokespecial index, 3)) (hp : pc + 3 = pc') (w1 : (Cond.methodLink own index Lib.objectInit).before a0 Z = true) (w2 : (Cond.instanceMethod Lib.objectInit).before a0 Z = true) (w3 : (Cond.code Lib.objectInit ⟨#[0xb1]⟩ 1 none).before a0 Z = true) (hsz : Ls.size = ml) (W : Nat) (hW : (rest.map fun v => v.category).sum ≤ W) (hf : 1 ≤ R.frames) (hl : W + 12 ≤ R.locals) :
    ∃ T', Bx own bs ml Z p l e R s m args below meth c T' h locs cells slots ∧ ∀ {P : Outcome → State → Prop}, OG p.tables e below P (T'.setTop (mkF m pc' Ls rest)) → OG p.tables e below P (T.setTop (mkF m pc Ls (.ref a :: rest))) := by
  subst hp
  obtain ⟨X, hx, hby, hml, hown, hZ, eT⟩ := B
  obtain ⟨T', X', e', st⟩ := initO X hx hZ hown w1 w2 w3 eT (g := mkF m pc Ls (.ref a :: rest)) rfl (by rw [hml]; exact hsz) rfl (hb hby hd) hf (W := W) (by simpa using hW) hl
  exact ⟨T', ⟨X', hx, hby, hml, hown, hZ, e'⟩, fun k => k.of st⟩
theorem o_callN {index : Nat} {y : MethodName} {bytes : ByteArray} {maxL : Nat} {rm : Room} {as' : Array Value} {Q : Option Value → Heap → List Loc → Prop} {ps : List FieldType} {rt : Option FieldType}
    (B : Bx own bs ml Z p l e R s m args below meth c T h locs cells slots) (pc pc' : Nat) (hd : decode bs pc = .ok (.invokespecial index, 3)) (hp : pc + 3 = pc') (hy1 : y.name = "<init>")
    (w1 : (Cond.methodLink own index y).before a0 Z = true) (w2 : (Cond.instanceMethod y).before a0 Z = true) (w3 : (Cond.initialized y.cls).before a0 Z = true) (w4 : (Cond.code y bytes maxL none).before a0 Z = true) (hy : y.cls ≠ "java/lang/invoke/MethodHandle" ∧ y.cls ≠ "java/lang/invoke/VarHandle")
    (hM : Met l Z y bytes maxL none rm as' h Q) (W : Nat) (argsL rest : List Value) (hpd : parseMethodDescriptor y.desc = some ⟨ps, rt⟩) (hlen : argsL.length = ps.length) (has : (.ref a :: argsL).toArray = as') {st : List Value} (hst : st = argsL.reverse ++ .ref a :: rest) (hsz : Ls.size = ml)
    (hW : (rest.map fun v => v.category).sum ≤ W) (hf : rm.frames + 1 ≤ R.frames) (hl : W + (maxL + 11) + rm.locals ≤ R.locals) (hcl : cells + rm.cells ≤ R.cells) (hsl : slots + rm.slots ≤ R.slots) :
    ∃ v T' L, Bx own bs ml Z p l e R s m args below meth c T' T'.heap (locs ++ L) (cells + rm.cells) (slots + rm.slots) ∧ Q v T'.heap L ∧
      ∀ {P : Outcome → State → Prop}, OG p.tables e below P (T'.setTop (mkF m pc' Ls (v.toList ++ rest))) → OG p.tables e below P (T.setTop (mkF m pc Ls st)) := by
  subst hp hst
  obtain ⟨X, hx, hby, hml, hown, hZ, eT⟩ := B
  obtain ⟨v, vm1, ⟨T', L', k', n'⟩, -, X', ⟨Lc, hQ, l', y', z'⟩, st⟩ := X.specialBack hx (y := y) hy1 hown (mvT hZ w1) (mvT hZ w2) (mvT hZ w4) hy (backOf (W := W) hM hZ w4 w3 hf hl) (g := mkF m pc Ls (argsL.reverse ++ .ref a :: rest)) rfl (by rw [hml]; exact hsz) (Steps.refl _) (a := a) (argsL := argsL) (rest := rest) (lenOf hpd hlen) rfl (by simpa using hW) (hb hby hd) (fun _ _ => ⟨has, eT, hcl, hsl⟩)
  dsimp only [Pt.U, Pt.locs, Pt.cells, Pt.slots] at X' l' y' z' st hQ
  subst l' y' z'
  exact ⟨v, T', Lc, ⟨X', hx, hby, hml, hown, hZ, rfl⟩, hQ, fun k => k.of fun t q => st.trans q⟩
theorem o_callV {index : Nat} {y : MethodName} {C : String} {bytes : ByteArray} {maxL : Nat} {ret : Option FieldType} {rm : Room} {as' : Array Value} {Q : Option Value → Heap → List Loc → Prop} {ps : List FieldType} {rt : Option FieldType}
    (B : Bx own bs ml Z p l e R s m args below meth c T h locs cells slots) (pc pc' : Nat) (hd : decode bs pc = .ok (.invokevirtual index, 3)) (hp : pc + 3 = pc')
    (w1 : (Cond.methodLink own index y).before a0 Z = true) (w2 : (Cond.declares y).before a0 Z = true) (w5 : (Cond.selects C y y).before a0 Z = true) (w6 : (Cond.instanceMethod y).before a0 Z = true) (w3 : (Cond.initialized y.cls).before a0 Z = true) (w4 : (Cond.code y bytes maxL ret).before a0 Z = true) (hy : y.cls ≠ "java/lang/invoke/MethodHandle" ∧ y.cls ≠ "java/lang/invoke/VarHandle") (E : Exa Z h a C)
    (hM : Met l Z y bytes maxL ret rm as' h Q) (W : Nat) (argsL rest : List Value) (hpd : parseMethodDescriptor y.desc = some ⟨ps, rt⟩) (hlen : argsL.length = ps.length) (has : (.ref a :: argsL).toArray = as') {st : List Value} (hst : st = argsL.reverse ++ .ref a :: rest) (hsz : Ls.size = ml)
    (hW : (rest.map fun v => v.category).sum ≤ W) (hf : rm.frames + 1 ≤ R.frames) (hl : W + (maxL + 11) + rm.locals ≤ R.locals) (hcl : cells + rm.cells ≤ R.cells) (hsl : slots + rm.slots ≤ R.slots) :
    ∃ v T' L, Bx own bs ml Z p l e R s m args below meth c T' T'.heap (locs ++ L) (cells + rm.cells) (slots + rm.slots) ∧ Q v T'.heap L ∧
      ∀ {P : Outcome → State → Prop}, OG p.tables e below P (T'.setTop (mkF m pc' Ls (v.toList ++ rest))) → OG p.tables e below P (T.setTop (mkF m pc Ls st)) := by
  subst hp hst
  obtain ⟨X, hx, hby, hml, hown, hZ, eT⟩ := B
  obtain ⟨cq, kq, qa, qb, qc⟩ := isOf hZ eT E
  obtain ⟨v, vm1, ⟨T', L', k', n'⟩, -, X', ⟨Lc, hQ, l', y', z'⟩, st⟩ := X.virtualBack hx (y := y) (z := y) hown (mvT hZ w1) (mvT hZ w2) (notFace_of_selects (args := #[]) (mvT hZ w5)) (mvT hZ w5) (mvT hZ w6) hy (backOf (W := W) hM hZ w4 w3 hf hl) qa qc (g := mkF m pc Ls (argsL.reverse ++ .ref a :: rest)) rfl (by rw [hml]; exact hsz) (Steps.refl _) (argsL := argsL) (rest := rest) (lenOf hpd hlen) rfl (by simpa using hW) (hb hby hd) (fun _ _ => ⟨has, eT, hcl, hsl⟩)
  dsimp only [Pt.U, Pt.locs, Pt.cells, Pt.slots] at X' l' y' z' st hQ
  subst l' y' z'
  exact ⟨v, T', Lc, ⟨X', hx, hby, hml, hown, hZ, rfl⟩, hQ, fun k => k.of fun t q => st.trans q⟩
theorem o_callVP {index : Nat} {y : MethodName} {C : String} {bytes : ByteArray} {maxL : Nat} {ret : Option FieldType} {fr lo : Nat} {as' : Array Value} {r : Value} {ps : List FieldType} {rt : Option FieldType}
    (B : Bx own bs ml Z p l e R s m args below meth c T h locs cells slots) (pc pc' : Nat) (hd : decode bs pc = .ok (.invokevirtual index, 3)) (hp : pc + 3 = pc')
    (w1 : (Cond.methodLink own index y).before a0 Z = true) (w2 : (Cond.declares y).before a0 Z = true) (w5 : (Cond.selects C y y).before a0 Z = true) (w6 : (Cond.instanceMethod y).before a0 Z = true) (w3 : (Cond.initialized y.cls).before a0 Z = true) (w4 : (Cond.code y bytes maxL ret).before a0 Z = true) (hy : y.cls ≠ "java/lang/invoke/MethodHandle" ∧ y.cls ≠ "java/lang/invoke/VarHandle") (E : Exa Z h a C)
    (hM : Met l Z y bytes maxL ret ({ frames := fr, cells := 0, slots := 0, locals := lo } : Room) as' h (Pu (some r) h)) (W : Nat) (argsL rest : List Value) (hpd : parseMethodDescriptor y.desc = some ⟨ps, rt⟩) (hlen : argsL.length = ps.length) (has : (.ref a :: argsL).toArray = as') {st : List Value} (hst : st = argsL.reverse ++ .ref a :: rest) (hsz : Ls.size = ml)
    (hW : (rest.map fun v => v.category).sum ≤ W) (hf : fr + 1 ≤ R.frames) (hl : W + (maxL + 11) + lo ≤ R.locals) (hcl : cells ≤ R.cells) (hsl : slots ≤ R.slots) :
    ∃ T', Bx own bs ml Z p l e R s m args below meth c T' h locs cells slots ∧
      ∀ {P : Outcome → State → Prop}, OG p.tables e below P (T'.setTop (mkF m pc' Ls (r :: rest))) → OG p.tables e below P (T.setTop (mkF m pc Ls st)) := by
  obtain ⟨v, T', L, B', ⟨rfl, rfl, hh⟩, st⟩ := o_callV B pc pc' hd hp w1 w2 w5 w6 w3 w4 hy E hM W argsL rest hpd hlen has hst hsz hW hf hl hcl hsl
  rw [hh, List.append_nil] at B'
  exact ⟨T', B', st⟩
theorem o_callNP {index : Nat} {y : MethodName} {bytes : ByteArray} {maxL : Nat} {fr lo : Nat} {as' : Array Value} {ps : List FieldType} {rt : Option FieldType}
    (B : Bx own bs ml Z p l e R s m args below meth c T h locs cells slots) (pc pc' : Nat) (hd : decode bs pc = .ok (.invokespecial index, 3)) (hp : pc + 3 = pc') (hy1 : y.name = "<init>")
    (w1 : (Cond.methodLink own index y).before a0 Z = true) (w2 : (Cond.instanceMethod y).before a0 Z = true) (w3 : (Cond.initialized y.cls).before a0 Z = true) (w4 : (Cond.code y bytes maxL none).before a0 Z = true) (hy : y.cls ≠ "java/lang/invoke/MethodHandle" ∧ y.cls ≠ "java/lang/invoke/VarHandle")
    (hM : Met l Z y bytes maxL none ({ frames := fr, cells := 0, slots := 0, locals := lo } : Room) as' h (Pu none h)) (W : Nat) (argsL rest : List Value) (hpd : parseMethodDescriptor y.desc = some ⟨ps, rt⟩) (hlen : argsL.length = ps.length) (has : (.ref a :: argsL).toArray = as') {st : List Value} (hst : st = argsL.reverse ++ .ref a :: rest) (hsz : Ls.size = ml)
    (hW : (rest.map fun v => v.category).sum ≤ W) (hf : fr + 1 ≤ R.frames) (hl : W + (maxL + 11) + lo ≤ R.locals) (hcl : cells ≤ R.cells) (hsl : slots ≤ R.slots) :
    ∃ T', Bx own bs ml Z p l e R s m args below meth c T' h locs cells slots ∧
      ∀ {P : Outcome → State → Prop}, OG p.tables e below P (T'.setTop (mkF m pc' Ls rest)) → OG p.tables e below P (T.setTop (mkF m pc Ls st)) := by
  obtain ⟨v, T', L, B', ⟨rfl, rfl, hh⟩, st⟩ := o_callN B pc pc' hd hp hy1 w1 w2 w3 w4 hy hM W argsL rest hpd hlen has hst hsz hW hf hl hcl hsl
  rw [hh, List.append_nil] at B'
  exact ⟨T', B', st⟩
end Walk2
theorem d1_0 : decode method_2_code 0 = .ok (.iload_n 0, 1) := by decide +kernel
theorem d1_1 : decode method_2_code 1 = .ok (.ifCond .ne 33, 3) := by decide +kernel
theorem d1_4 : decode method_2_code 4 = .ok (.iload_n 1, 1) := by decide +kernel
theorem d1_5 : decode method_2_code 5 = .ok (.ifCond .ne 7, 3) := by decide +kernel
theorem d1_8 : decode method_2_code 8 = .ok (.ldc2_w 7, 3) := by decide +kernel
theorem d1_11 : decode method_2_code 11 = .ok (.lreturn, 1) := by decide +kernel
theorem d1_12 : decode method_2_code 12 = .ok (.iload_n 1, 1) := by decide +kernel
theorem d1_13 : decode method_2_code 13 = .ok (.iconst 1, 1) := by decide +kernel
theorem d1_14 : decode method_2_code 14 = .ok (.if_icmp .ne 7, 3) := by decide +kernel
theorem d1_17 : decode method_2_code 17 = .ok (.ldc2_w 9, 3) := by decide +kernel
theorem d1_20 : decode method_2_code 20 = .ok (.lreturn, 1) := by decide +kernel
theorem d1_21 : decode method_2_code 21 = .ok (.iload_n 1, 1) := by decide +kernel
theorem d1_22 : decode method_2_code 22 = .ok (.iconst 2, 1) := by decide +kernel
theorem d1_23 : decode method_2_code 23 = .ok (.if_icmp .ne 7, 3) := by decide +kernel
theorem d1_26 : decode method_2_code 26 = .ok (.ldc2_w 11, 3) := by decide +kernel
theorem d1_29 : decode method_2_code 29 = .ok (.lreturn, 1) := by decide +kernel
theorem d1_30 : decode method_2_code 30 = .ok (.ldc2_w 13, 3) := by decide +kernel
theorem d1_33 : decode method_2_code 33 = .ok (.lreturn, 1) := by decide +kernel
theorem d1_34 : decode method_2_code 34 = .ok (.iload_n 1, 1) := by decide +kernel
theorem d1_35 : decode method_2_code 35 = .ok (.ifCond .ne 7, 3) := by decide +kernel
theorem d1_38 : decode method_2_code 38 = .ok (.ldc2_w 7, 3) := by decide +kernel
theorem d1_41 : decode method_2_code 41 = .ok (.lreturn, 1) := by decide +kernel
theorem d1_42 : decode method_2_code 42 = .ok (.iload_n 1, 1) := by decide +kernel
theorem d1_43 : decode method_2_code 43 = .ok (.iconst 1, 1) := by decide +kernel
theorem d1_44 : decode method_2_code 44 = .ok (.if_icmp .ne 7, 3) := by decide +kernel
theorem d1_47 : decode method_2_code 47 = .ok (.ldc2_w 15, 3) := by decide +kernel
theorem d1_50 : decode method_2_code 50 = .ok (.lreturn, 1) := by decide +kernel
theorem d1_51 : decode method_2_code 51 = .ok (.iload_n 1, 1) := by decide +kernel
theorem d1_52 : decode method_2_code 52 = .ok (.iconst 2, 1) := by decide +kernel
theorem d1_53 : decode method_2_code 53 = .ok (.if_icmp .ne 7, 3) := by decide +kernel
theorem d1_56 : decode method_2_code 56 = .ok (.ldc2_w 17, 3) := by decide +kernel
theorem d1_59 : decode method_2_code 59 = .ok (.lreturn, 1) := by decide +kernel
theorem d1_60 : decode method_2_code 60 = .ok (.ldc2_w 19, 3) := by decide +kernel
theorem d1_63 : decode method_2_code 63 = .ok (.lreturn, 1) := by decide +kernel
theorem pl1 : plainFor (⟨"com/example/hyperplane/hyperplane/BlocksKeyAgreeingPinLaw", "mask", "(II)J"⟩ : MethodName) = true := by first | exact plainFor_of_name (by first | (simp [plainName, overriddenIn]; done) | decide +kernel) | decide +kernel
def f1 (x0 x1 : Int32) : Int64 := (if x0 = 0 then (if x1 = 0 then (63 : Int64) else (if x1 = (1 : Int32) then (4032 : Int64) else (if x1 = (2 : Int32) then (126976 : Int64) else (4063232 : Int64)))) else (if x1 = 0 then (63 : Int64) else (if x1 = (1 : Int32) then (1984 : Int64) else (if x1 = (2 : Int32) then (63488 : Int64) else (2031616 : Int64)))))
set_option maxRecDepth 65536 in
set_option maxHeartbeats 40000000 in
theorem rm1 (l : Launch) (Z : State) (a0 : Array Value) (hw : ∀ d ∈ tables_1, d.before a0 Z = true) (x0 : Int32) (x1 : Int32) (h0 : Heap) :
    Met l Z (⟨"com/example/hyperplane/hyperplane/BlocksKeyAgreeingPinLaw", "mask", "(II)J"⟩ : MethodName) method_2_code 2 (some .long) ({ frames := 0, cells := 0, slots := 0, locals := 0 } : Room) #[(.int x0), (.int x1)] h0 (Pu (some (.long (f1 x0 x1))) h0) := by
  refine enter pl1 #[vi x0, vi x1] rfl ?_
  intro p e s m below meth c T B hret hlk hnm
  · refine o_iloadN B 0 1 (v := x0) d1_0 rfl rfl ?_
    by_cases k1 : x0 = 0
    · refine o_ifN B 1 4 d1_1 rfl (XT.i0_ne_f k1) ?_
      refine o_iloadN B 4 5 (v := x1) d1_4 rfl rfl ?_
      by_cases k2 : x1 = 0
      · refine o_ifN B 5 8 d1_5 rfl (XT.i0_ne_f k2) ?_
        refine o_ldc2 B 8 11 d1_8 rfl (hw _ (mi 5 rfl)) ?_
        refine o_retL B 11 d1_11 hret hlk (by decide) (by decide) ⟨(congrArg (fun z => some (Value.long z)) (show f1 x0 x1 = (63 : Int64) from (if_pos k1).trans ((if_pos k2).trans (rfl)))).symm, rfl, rfl⟩
      · refine o_ifY B 5 12 d1_5 (XT.i0_ne_t k2) (by decide) (by decide) ?_
        refine o_iloadN B 12 13 (v := x1) d1_12 rfl rfl ?_
        refine o_iconst B 13 14 (1 : Int32) d1_13 rfl (by decide) ?_
        by_cases k3 : x1 = (1 : Int32)
        · refine o_icN B 14 17 d1_14 rfl (XT.ii_ne_f k3) ?_
          refine o_ldc2 B 17 20 d1_17 rfl (hw _ (mi 6 rfl)) ?_
          refine o_retL B 20 d1_20 hret hlk (by decide) (by decide) ⟨(congrArg (fun z => some (Value.long z)) (show f1 x0 x1 = (4032 : Int64) from (if_pos k1).trans ((if_neg k2).trans ((if_pos k3).trans (rfl))))).symm, rfl, rfl⟩
        · refine o_icY B 14 21 d1_14 (XT.ii_ne_t k3) (by decide) (by decide) ?_
          refine o_iloadN B 21 22 (v := x1) d1_21 rfl rfl ?_
          refine o_iconst B 22 23 (2 : Int32) d1_22 rfl (by decide) ?_
          by_cases k4 : x1 = (2 : Int32)
          · refine o_icN B 23 26 d1_23 rfl (XT.ii_ne_f k4) ?_
            refine o_ldc2 B 26 29 d1_26 rfl (hw _ (mi 7 rfl)) ?_
            refine o_retL B 29 d1_29 hret hlk (by decide) (by decide) ⟨(congrArg (fun z => some (Value.long z)) (show f1 x0 x1 = (126976 : Int64) from (if_pos k1).trans ((if_neg k2).trans ((if_neg k3).trans ((if_pos k4).trans (rfl)))))).symm, rfl, rfl⟩
          · refine o_icY B 23 30 d1_23 (XT.ii_ne_t k4) (by decide) (by decide) ?_
            refine o_ldc2 B 30 33 d1_30 rfl (hw _ (mi 8 rfl)) ?_
            refine o_retL B 33 d1_33 hret hlk (by decide) (by decide) ⟨(congrArg (fun z => some (Value.long z)) (show f1 x0 x1 = (4063232 : Int64) from (if_pos k1).trans ((if_neg k2).trans ((if_neg k3).trans ((if_neg k4).trans (rfl)))))).symm, rfl, rfl⟩
    · refine o_ifY B 1 34 d1_1 (XT.i0_ne_t k1) (by decide) (by decide) ?_
      refine o_iloadN B 34 35 (v := x1) d1_34 rfl rfl ?_
      by_cases k5 : x1 = 0
      · refine o_ifN B 35 38 d1_35 rfl (XT.i0_ne_f k5) ?_
        refine o_ldc2 B 38 41 d1_38 rfl (hw _ (mi 5 rfl)) ?_
        refine o_retL B 41 d1_41 hret hlk (by decide) (by decide) ⟨(congrArg (fun z => some (Value.long z)) (show f1 x0 x1 = (63 : Int64) from (if_neg k1).trans ((if_pos k5).trans (rfl)))).symm, rfl, rfl⟩
      · refine o_ifY B 35 42 d1_35 (XT.i0_ne_t k5) (by decide) (by decide) ?_
        refine o_iloadN B 42 43 (v := x1) d1_42 rfl rfl ?_
        refine o_iconst B 43 44 (1 : Int32) d1_43 rfl (by decide) ?_
        by_cases k6 : x1 = (1 : Int32)
        · refine o_icN B 44 47 d1_44 rfl (XT.ii_ne_f k6) ?_
          refine o_ldc2 B 47 50 d1_47 rfl (hw _ (mi 9 rfl)) ?_
          refine o_retL B 50 d1_50 hret hlk (by decide) (by decide) ⟨(congrArg (fun z => some (Value.long z)) (show f1 x0 x1 = (1984 : Int64) from (if_neg k1).trans ((if_neg k5).trans ((if_pos k6).trans (rfl))))).symm, rfl, rfl⟩
        · refine o_icY B 44 51 d1_44 (XT.ii_ne_t k6) (by decide) (by decide) ?_
          refine o_iloadN B 51 52 (v := x1) d1_51 rfl rfl ?_
          refine o_iconst B 52 53 (2 : Int32) d1_52 rfl (by decide) ?_
          by_cases k7 : x1 = (2 : Int32)
          · refine o_icN B 53 56 d1_53 rfl (XT.ii_ne_f k7) ?_
            refine o_ldc2 B 56 59 d1_56 rfl (hw _ (mi 10 rfl)) ?_
            refine o_retL B 59 d1_59 hret hlk (by decide) (by decide) ⟨(congrArg (fun z => some (Value.long z)) (show f1 x0 x1 = (63488 : Int64) from (if_neg k1).trans ((if_neg k5).trans ((if_neg k6).trans ((if_pos k7).trans (rfl)))))).symm, rfl, rfl⟩
          · refine o_icY B 53 60 d1_53 (XT.ii_ne_t k7) (by decide) (by decide) ?_
            refine o_ldc2 B 60 63 d1_60 rfl (hw _ (mi 11 rfl)) ?_
            refine o_retL B 63 d1_63 hret hlk (by decide) (by decide) ⟨(congrArg (fun z => some (Value.long z)) (show f1 x0 x1 = (2031616 : Int64) from (if_neg k1).trans ((if_neg k5).trans ((if_neg k6).trans ((if_neg k7).trans (rfl)))))).symm, rfl, rfl⟩
theorem d4_0 : decode prog_12_method_2_code 0 = .ok (.iload_n 0, 1) := by decide +kernel
theorem d4_1 : decode prog_12_method_2_code 1 = .ok (.bipush 64, 2) := by decide +kernel
theorem d4_3 : decode prog_12_method_2_code 3 = .ok (.if_icmp .lt 17, 3) := by decide +kernel
theorem d4_6 : decode prog_12_method_2_code 6 = .ok (.iload_n 0, 1) := by decide +kernel
theorem d4_7 : decode prog_12_method_2_code 7 = .ok (.sipush 1024, 3) := by decide +kernel
theorem d4_10 : decode prog_12_method_2_code 10 = .ok (.if_icmp .gt 10, 3) := by decide +kernel
theorem d4_13 : decode prog_12_method_2_code 13 = .ok (.iload_n 0, 1) := by decide +kernel
theorem d4_14 : decode prog_12_method_2_code 14 = .ok (.bipush 64, 2) := by decide +kernel
theorem d4_16 : decode prog_12_method_2_code 16 = .ok (.irem, 1) := by decide +kernel
theorem d4_17 : decode prog_12_method_2_code 17 = .ok (.ifCond .eq 17, 3) := by decide +kernel
theorem d4_20 : decode prog_12_method_2_code 20 = .ok (.new 11, 3) := by decide +kernel
theorem d4_23 : decode prog_12_method_2_code 23 = .ok (.dup, 1) := by decide +kernel
theorem d4_24 : decode prog_12_method_2_code 24 = .ok (.iload_n 0, 1) := by decide +kernel
theorem d4_30 : decode prog_12_method_2_code 30 = .ok (.invokespecial 17, 3) := by decide +kernel
theorem d4_33 : decode prog_12_method_2_code 33 = .ok (.athrow, 1) := by decide +kernel
theorem d4_34 : decode prog_12_method_2_code 34 = .ok (.iload_n 0, 1) := by decide +kernel
theorem d4_35 : decode prog_12_method_2_code 35 = .ok (.bipush 64, 2) := by decide +kernel
theorem d4_37 : decode prog_12_method_2_code 37 = .ok (.idiv, 1) := by decide +kernel
theorem d4_38 : decode prog_12_method_2_code 38 = .ok (.ireturn, 1) := by decide +kernel
theorem pl4 : plainFor (⟨"com/example/hyperplane/hyperplane/Fingerprint", "words", "(I)I"⟩ : MethodName) = true := by first | exact plainFor_of_name (by first | (simp [plainName, overriddenIn]; done) | decide +kernel) | decide +kernel
def f4 (x0 : Int32) : Int32 := (x0 / (64 : Int32))
set_option maxRecDepth 65536 in
set_option maxHeartbeats 40000000 in
theorem rm4 (l : Launch) (Z : State) (a0 : Array Value) (hw : ∀ d ∈ tables_1, d.before a0 Z = true) (x0 : Int32) (h0 : Heap) (h1 : ¬ x0 < 64) (h2 : ¬ 1024 < x0) (h3 : x0 % 64 = 0) :
    Met l Z (⟨"com/example/hyperplane/hyperplane/Fingerprint", "words", "(I)I"⟩ : MethodName) prog_12_method_2_code 1 (some .int) ({ frames := 0, cells := 0, slots := 0, locals := 0 } : Room) #[(.int x0)] h0 (Pu (some (.int (f4 x0))) h0) := by
  refine enter pl4 #[vi x0] rfl ?_
  intro p e s m below meth c T B hret hlk hnm
  · refine o_iloadN B 0 1 (v := x0) d4_0 rfl rfl ?_
    refine o_bipush B 1 3 (64 : Int32) d4_1 rfl (by decide) ?_
    refine o_icN B 3 6 d4_3 rfl (XT.ii_lt_f h1) ?_
    refine o_iloadN B 6 7 (v := x0) d4_6 rfl rfl ?_
    refine o_sipush B 7 10 (1024 : Int32) d4_7 rfl (by decide) ?_
    refine o_icN B 10 13 d4_10 rfl (XT.ii_gt_f h2) ?_
    refine o_iloadN B 13 14 (v := x0) d4_13 rfl rfl ?_
    refine o_bipush B 14 16 (64 : Int32) d4_14 rfl (by decide) ?_
    refine o_irem B 16 17 d4_16 rfl (by decide) ?_
    refine o_ifY B 17 34 d4_17 (XT.i0_eq_t h3) (by decide) (by decide) ?_
    refine o_iloadN B 34 35 (v := x0) d4_34 rfl rfl ?_
    refine o_bipush B 35 37 (64 : Int32) d4_35 rfl (by decide) ?_
    refine o_idiv B 37 38 d4_37 rfl (by decide) ?_
    refine o_retI B 38 d4_38 hret hlk (by decide) (by decide) ⟨(congrArg (fun z => some (Value.int z)) (show f4 x0 = (x0 / (64 : Int32)) from rfl)).symm, rfl, rfl⟩
theorem d6_0 : decode prog_2_method_11_code 0 = .ok (.iload_n 0, 1) := by decide +kernel
theorem d6_1 : decode prog_2_method_11_code 1 = .ok (.iconst 2, 1) := by decide +kernel
theorem d6_2 : decode prog_2_method_11_code 2 = .ok (.idiv, 1) := by decide +kernel
theorem d6_3 : decode prog_2_method_11_code 3 = .ok (.ireturn, 1) := by decide +kernel
theorem pl6 : plainFor (⟨"com/example/hyperplane/hyperplane/Blocks", "maxThreshold", "(I)I"⟩ : MethodName) = true := by first | exact plainFor_of_name (by first | (simp [plainName, overriddenIn]; done) | decide +kernel) | decide +kernel
def f6 (x0 : Int32) : Int32 := (x0 / (2 : Int32))
set_option maxRecDepth 65536 in
set_option maxHeartbeats 40000000 in
theorem rm6 (l : Launch) (Z : State) (a0 : Array Value) (hw : ∀ d ∈ tables_1, d.before a0 Z = true) (x0 : Int32) (h0 : Heap) :
    Met l Z (⟨"com/example/hyperplane/hyperplane/Blocks", "maxThreshold", "(I)I"⟩ : MethodName) prog_2_method_11_code 1 (some .int) ({ frames := 0, cells := 0, slots := 0, locals := 0 } : Room) #[(.int x0)] h0 (Pu (some (.int (f6 x0))) h0) := by
  refine enter pl6 #[vi x0] rfl ?_
  intro p e s m below meth c T B hret hlk hnm
  · refine o_iloadN B 0 1 (v := x0) d6_0 rfl rfl ?_
    refine o_iconst B 1 2 (2 : Int32) d6_1 rfl (by decide) ?_
    refine o_idiv B 2 3 d6_2 rfl (by decide) ?_
    refine o_retI B 3 d6_3 hret hlk (by decide) (by decide) ⟨(congrArg (fun z => some (Value.int z)) (show f6 x0 = (x0 / (2 : Int32)) from rfl)).symm, rfl, rfl⟩
theorem d5_0 : decode prog_2_method_13_code 0 = .ok (.iload_n 0, 1) := by decide +kernel
theorem d5_1 : decode prog_2_method_13_code 1 = .ok (.invokestatic 170, 3) := by decide +kernel
theorem d5_4 : decode prog_2_method_13_code 4 = .ok (.istore_n 2, 1) := by decide +kernel
theorem d5_5 : decode prog_2_method_13_code 5 = .ok (.iload_n 1, 1) := by decide +kernel
theorem d5_6 : decode prog_2_method_13_code 6 = .ok (.ifCond .lt 8, 3) := by decide +kernel
theorem d5_9 : decode prog_2_method_13_code 9 = .ok (.iload_n 1, 1) := by decide +kernel
theorem d5_10 : decode prog_2_method_13_code 10 = .ok (.iload_n 2, 1) := by decide +kernel
theorem d5_11 : decode prog_2_method_13_code 11 = .ok (.if_icmp .le 19, 3) := by decide +kernel
theorem d5_14 : decode prog_2_method_13_code 14 = .ok (.new 33, 3) := by decide +kernel
theorem d5_17 : decode prog_2_method_13_code 17 = .ok (.dup, 1) := by decide +kernel
theorem d5_18 : decode prog_2_method_13_code 18 = .ok (.iload_n 2, 1) := by decide +kernel
theorem d5_19 : decode prog_2_method_13_code 19 = .ok (.iload_n 1, 1) := by decide +kernel
theorem d5_20 : decode prog_2_method_13_code 20 = .ok (.iload_n 0, 1) := by decide +kernel
theorem d5_26 : decode prog_2_method_13_code 26 = .ok (.invokespecial 39, 3) := by decide +kernel
theorem d5_29 : decode prog_2_method_13_code 29 = .ok (.athrow, 1) := by decide +kernel
theorem d5_30 : decode prog_2_method_13_code 30 = .ok (.iload_n 1, 1) := by decide +kernel
theorem d5_31 : decode prog_2_method_13_code 31 = .ok (.ireturn, 1) := by decide +kernel
theorem pl5 : plainFor (⟨"com/example/hyperplane/hyperplane/Blocks", "requireThreshold", "(II)I"⟩ : MethodName) = true := by first | exact plainFor_of_name (by first | (simp [plainName, overriddenIn]; done) | decide +kernel) | decide +kernel
theorem pd__I_I : parseMethodDescriptor "(I)I" = some ⟨[.int], some .int⟩ := by decide +kernel
def f5 (x0 x1 : Int32) : Int32 := x1
set_option maxRecDepth 65536 in
set_option maxHeartbeats 40000000 in
theorem rm5 (l : Launch) (Z : State) (a0 : Array Value) (hw : ∀ d ∈ tables_1, d.before a0 Z = true) (x0 : Int32) (x1 : Int32) (h0 : Heap) (h1 : ¬ x1 < 0) (h2 : ¬ f6 x0 < x1) :
    Met l Z (⟨"com/example/hyperplane/hyperplane/Blocks", "requireThreshold", "(II)I"⟩ : MethodName) prog_2_method_13_code 3 (some .int) ({ frames := 1, cells := 0, slots := 0, locals := 12 } : Room) #[(.int x0), (.int x1)] h0 (Pu (some (.int (f5 x0 x1))) h0) := by
  refine enter pl5 #[vi x0, vi x1, us] rfl ?_
  intro p e s m below meth c T B hret hlk hnm
  · refine o_iloadN B 0 1 (v := x0) d5_0 rfl rfl ?_
    obtain ⟨T1, B1, c1⟩ := o_callP B 1 4 d5_1 rfl (hw _ (mi 33 rfl)) (hw _ (mi 34 rfl)) (hw _ (mi 17 rfl)) (hw _ (mi 35 rfl)) (by decide) (rm6 l Z a0 hw x0 h0 ) 0 [(.int x0)] [] pd__I_I rfl rfl (st := [(.int x0)]) rfl (Ls := #[vi x0, vi x1, us]) rfl (Nat.le_of_eq rfl) (by decide) (by decide) (by decide) (by decide)
    refine c1 ?_
    refine o_istoreN B1 4 5 (l' := #[vi x0, vi x1, vi (f6 x0)]) d5_4 rfl rfl ?_
    refine o_iloadN B1 5 6 (v := x1) d5_5 rfl rfl ?_
    refine o_ifN B1 6 9 d5_6 rfl (XT.i0_lt_f h1) ?_
    refine o_iloadN B1 9 10 (v := x1) d5_9 rfl rfl ?_
    refine o_iloadN B1 10 11 (v := (f6 x0)) d5_10 rfl rfl ?_
    refine o_icY B1 11 30 d5_11 (XT.ii_le_t h2) (by decide) (by decide) ?_
    refine o_iloadN B1 30 31 (v := x1) d5_30 rfl rfl ?_
    refine o_retI B1 31 d5_31 hret hlk (by decide) (by decide) ⟨(congrArg (fun z => some (Value.int z)) (show f5 x0 x1 = x1 from rfl)).symm, rfl, rfl⟩
theorem d9_0 : decode jdk_33_method_48_code 0 = .ok (.iload_n 0, 1) := by decide +kernel
theorem d9_1 : decode jdk_33_method_48_code 1 = .ok (.iconst (-1), 1) := by decide +kernel
theorem d9_2 : decode jdk_33_method_48_code 2 = .ok (.ixor, 1) := by decide +kernel
theorem d9_3 : decode jdk_33_method_48_code 3 = .ok (.iload_n 0, 1) := by decide +kernel
theorem d9_4 : decode jdk_33_method_48_code 4 = .ok (.iconst 1, 1) := by decide +kernel
theorem d9_5 : decode jdk_33_method_48_code 5 = .ok (.isub, 1) := by decide +kernel
theorem d9_6 : decode jdk_33_method_48_code 6 = .ok (.iand, 1) := by decide +kernel
theorem d9_7 : decode jdk_33_method_48_code 7 = .ok (.istore_n 0, 1) := by decide +kernel
theorem d9_8 : decode jdk_33_method_48_code 8 = .ok (.iload_n 0, 1) := by decide +kernel
theorem d9_9 : decode jdk_33_method_48_code 9 = .ok (.ifCond .gt 8, 3) := by decide +kernel
theorem d9_12 : decode jdk_33_method_48_code 12 = .ok (.iload_n 0, 1) := by decide +kernel
theorem d9_13 : decode jdk_33_method_48_code 13 = .ok (.bipush 32, 2) := by decide +kernel
theorem d9_15 : decode jdk_33_method_48_code 15 = .ok (.iand, 1) := by decide +kernel
theorem d9_16 : decode jdk_33_method_48_code 16 = .ok (.ireturn, 1) := by decide +kernel
theorem d9_17 : decode jdk_33_method_48_code 17 = .ok (.iconst 1, 1) := by decide +kernel
theorem d9_18 : decode jdk_33_method_48_code 18 = .ok (.istore_n 1, 1) := by decide +kernel
theorem d9_19 : decode jdk_33_method_48_code 19 = .ok (.iload_n 0, 1) := by decide +kernel
theorem d9_20 : decode jdk_33_method_48_code 20 = .ok (.ldc_w 264, 3) := by decide +kernel
theorem d9_23 : decode jdk_33_method_48_code 23 = .ok (.if_icmp .le 11, 3) := by decide +kernel
theorem d9_26 : decode jdk_33_method_48_code 26 = .ok (.iinc 1 16, 3) := by decide +kernel
theorem d9_29 : decode jdk_33_method_48_code 29 = .ok (.iload_n 0, 1) := by decide +kernel
theorem d9_30 : decode jdk_33_method_48_code 30 = .ok (.bipush 16, 2) := by decide +kernel
theorem d9_32 : decode jdk_33_method_48_code 32 = .ok (.iushr, 1) := by decide +kernel
theorem d9_33 : decode jdk_33_method_48_code 33 = .ok (.istore_n 0, 1) := by decide +kernel
theorem d9_34 : decode jdk_33_method_48_code 34 = .ok (.iload_n 0, 1) := by decide +kernel
theorem d9_35 : decode jdk_33_method_48_code 35 = .ok (.sipush 256, 3) := by decide +kernel
theorem d9_38 : decode jdk_33_method_48_code 38 = .ok (.if_icmp .le 11, 3) := by decide +kernel
theorem d9_41 : decode jdk_33_method_48_code 41 = .ok (.iinc 1 8, 3) := by decide +kernel
theorem d9_44 : decode jdk_33_method_48_code 44 = .ok (.iload_n 0, 1) := by decide +kernel
theorem d9_45 : decode jdk_33_method_48_code 45 = .ok (.bipush 8, 2) := by decide +kernel
theorem d9_47 : decode jdk_33_method_48_code 47 = .ok (.iushr, 1) := by decide +kernel
theorem d9_48 : decode jdk_33_method_48_code 48 = .ok (.istore_n 0, 1) := by decide +kernel
theorem d9_49 : decode jdk_33_method_48_code 49 = .ok (.iload_n 0, 1) := by decide +kernel
theorem d9_50 : decode jdk_33_method_48_code 50 = .ok (.bipush 16, 2) := by decide +kernel
theorem d9_52 : decode jdk_33_method_48_code 52 = .ok (.if_icmp .le 10, 3) := by decide +kernel
theorem d9_55 : decode jdk_33_method_48_code 55 = .ok (.iinc 1 4, 3) := by decide +kernel
theorem d9_58 : decode jdk_33_method_48_code 58 = .ok (.iload_n 0, 1) := by decide +kernel
theorem d9_59 : decode jdk_33_method_48_code 59 = .ok (.iconst 4, 1) := by decide +kernel
theorem d9_60 : decode jdk_33_method_48_code 60 = .ok (.iushr, 1) := by decide +kernel
theorem d9_61 : decode jdk_33_method_48_code 61 = .ok (.istore_n 0, 1) := by decide +kernel
theorem d9_62 : decode jdk_33_method_48_code 62 = .ok (.iload_n 0, 1) := by decide +kernel
theorem d9_63 : decode jdk_33_method_48_code 63 = .ok (.iconst 4, 1) := by decide +kernel
theorem d9_64 : decode jdk_33_method_48_code 64 = .ok (.if_icmp .le 10, 3) := by decide +kernel
theorem d9_67 : decode jdk_33_method_48_code 67 = .ok (.iinc 1 2, 3) := by decide +kernel
theorem d9_70 : decode jdk_33_method_48_code 70 = .ok (.iload_n 0, 1) := by decide +kernel
theorem d9_71 : decode jdk_33_method_48_code 71 = .ok (.iconst 2, 1) := by decide +kernel
theorem d9_72 : decode jdk_33_method_48_code 72 = .ok (.iushr, 1) := by decide +kernel
theorem d9_73 : decode jdk_33_method_48_code 73 = .ok (.istore_n 0, 1) := by decide +kernel
theorem d9_74 : decode jdk_33_method_48_code 74 = .ok (.iload_n 1, 1) := by decide +kernel
theorem d9_75 : decode jdk_33_method_48_code 75 = .ok (.iload_n 0, 1) := by decide +kernel
theorem d9_76 : decode jdk_33_method_48_code 76 = .ok (.iconst 1, 1) := by decide +kernel
theorem d9_77 : decode jdk_33_method_48_code 77 = .ok (.iushr, 1) := by decide +kernel
theorem d9_78 : decode jdk_33_method_48_code 78 = .ok (.iadd, 1) := by decide +kernel
theorem d9_79 : decode jdk_33_method_48_code 79 = .ok (.ireturn, 1) := by decide +kernel
theorem pl9 : plainFor (⟨"java/lang/Integer", "numberOfTrailingZeros", "(I)I"⟩ : MethodName) = true := by first | exact plainFor_of_name (by first | (simp [plainName, overriddenIn]; done) | decide +kernel) | decide +kernel
def q9_1 (x0 : Int32) : Int32 := ((x0 ^^^ (-1 : Int32)) &&& (x0 - (1 : Int32)))
def q9_2 (x0 : Int32) : Int32 := (if (65536 : Int32) < (q9_1 x0) then (XT.ushr (q9_1 x0) (16 : Int32)) else (q9_1 x0))
def q9_3 (x0 : Int32) : Int32 := (if (65536 : Int32) < (q9_1 x0) then (17 : Int32) else (1 : Int32))
def q9_4 (x0 : Int32) : Int32 := (if (256 : Int32) < (q9_2 x0) then (XT.ushr (q9_2 x0) (8 : Int32)) else (q9_2 x0))
def q9_5 (x0 : Int32) : Int32 := (if (256 : Int32) < (q9_2 x0) then ((q9_3 x0) + (8 : Int32)) else (q9_3 x0))
def q9_6 (x0 : Int32) : Int32 := (if (16 : Int32) < (q9_4 x0) then (XT.ushr (q9_4 x0) (4 : Int32)) else (q9_4 x0))
def q9_7 (x0 : Int32) : Int32 := (if (16 : Int32) < (q9_4 x0) then ((q9_5 x0) + (4 : Int32)) else (q9_5 x0))
def q9_8 (x0 : Int32) : Int32 := (if (4 : Int32) < (q9_6 x0) then (XT.ushr (q9_6 x0) (2 : Int32)) else (q9_6 x0))
def q9_9 (x0 : Int32) : Int32 := (if (4 : Int32) < (q9_6 x0) then ((q9_7 x0) + (2 : Int32)) else (q9_7 x0))
def f9 (x0 : Int32) : Int32 := (if 0 < (q9_1 x0) then ((q9_9 x0) + (XT.ushr (q9_8 x0) (1 : Int32))) else ((q9_1 x0) &&& (32 : Int32)))
set_option maxRecDepth 65536 in
set_option maxHeartbeats 40000000 in
theorem rm9 (l : Launch) (Z : State) (a0 : Array Value) (hw : ∀ d ∈ tables_1, d.before a0 Z = true) (x0 : Int32) (h0 : Heap) :
    Met l Z (⟨"java/lang/Integer", "numberOfTrailingZeros", "(I)I"⟩ : MethodName) jdk_33_method_48_code 2 (some .int) ({ frames := 0, cells := 0, slots := 0, locals := 0 } : Room) #[(.int x0)] h0 (Pu (some (.int (f9 x0))) h0) := by
  refine enter pl9 #[vi x0, us] rfl ?_
  intro p e s m below meth c T B hret hlk hnm
  · refine o_iloadN B 0 1 (v := x0) d9_0 rfl rfl ?_
    refine o_iconst B 1 2 (-1 : Int32) d9_1 rfl (by decide) ?_
    refine o_ixor B 2 3 d9_2 rfl ?_
    refine o_iloadN B 3 4 (v := x0) d9_3 rfl rfl ?_
    refine o_iconst B 4 5 (1 : Int32) d9_4 rfl (by decide) ?_
    refine o_isub B 5 6 d9_5 rfl ?_
    refine o_iand B 6 7 d9_6 rfl ?_
    refine o_istoreN B 7 8 (l' := #[vi (q9_1 x0), us]) d9_7 rfl rfl ?_
    refine o_iloadN B 8 9 (v := (q9_1 x0)) d9_8 rfl rfl ?_
    by_cases k1 : 0 < (q9_1 x0)
    · refine o_ifY B 9 17 d9_9 (XT.i0_gt_t k1) (by decide) (by decide) ?_
      refine o_iconst B 17 18 (1 : Int32) d9_17 rfl (by decide) ?_
      refine o_istoreN B 18 19 (l' := #[vi (q9_1 x0), vi 1]) d9_18 rfl rfl ?_
      refine o_iloadN B 19 20 (v := (q9_1 x0)) d9_19 rfl rfl ?_
      refine o_ldc_w B 20 23 d9_20 rfl (hw _ (mi 86 rfl)) ?_
      have dm2 : ∀ {P : Outcome → State → Prop}, OG p.tables e below P (T.setTop (mkF m 34 #[vi (q9_2 x0), vi (q9_3 x0)] [])) → OG p.tables e below P (T.setTop (mkF m 23 #[vi (q9_1 x0), vi 1] [(.int (65536 : Int32)), (.int (q9_1 x0))])) := by
        intro P k
        by_cases k3 : (65536 : Int32) < (q9_1 x0)
        · refine o_icN B 23 26 d9_23 rfl (XT.ii_le_f k3) ?_
          refine o_iincC B 26 29 (l' := #[vi (q9_1 x0), vi 17]) (16 : Int32) (17 : Int32) d9_26 rfl (by decide) rfl (by decide) rfl ?_
          refine o_iloadN B 29 30 (v := (q9_1 x0)) d9_29 rfl rfl ?_
          refine o_bipush B 30 32 (16 : Int32) d9_30 rfl (by decide) ?_
          refine o_iushr B 32 33 d9_32 rfl ?_
          refine o_istoreN B 33 34 (l' := #[vi (XT.ushr (q9_1 x0) (16 : Int32)), vi 17]) d9_33 rfl rfl ?_
          have y0 : (q9_2 x0) = (XT.ushr (q9_1 x0) (16 : Int32)) := by simp only [q9_2, q9_3, if_pos k3]
          have y1 : (q9_3 x0) = (17 : Int32) := by simp only [q9_2, q9_3, if_pos k3]
          rw [y0, y1] at k
          exact k
        · refine o_icY B 23 34 d9_23 (XT.ii_le_t k3) (by decide) (by decide) ?_
          have y0 : (q9_2 x0) = (q9_1 x0) := by simp only [q9_2, q9_3, if_neg k3]
          have y1 : (q9_3 x0) = (1 : Int32) := by simp only [q9_2, q9_3, if_neg k3]
          rw [y0, y1] at k
          exact k
      refine dm2 ?_
      refine o_iloadN B 34 35 (v := (q9_2 x0)) d9_34 rfl rfl ?_
      refine o_sipush B 35 38 (256 : Int32) d9_35 rfl (by decide) ?_
      have dm4 : ∀ {P : Outcome → State → Prop}, OG p.tables e below P (T.setTop (mkF m 49 #[vi (q9_4 x0), vi (q9_5 x0)] [])) → OG p.tables e below P (T.setTop (mkF m 38 #[vi (q9_2 x0), vi (q9_3 x0)] [(.int (256 : Int32)), (.int (q9_2 x0))])) := by
        intro P k
        by_cases k5 : (256 : Int32) < (q9_2 x0)
        · refine o_icN B 38 41 d9_38 rfl (XT.ii_le_f k5) ?_
          refine o_iinc B 41 44 (l' := #[vi (q9_2 x0), vi ((q9_3 x0) + (8 : Int32))]) (8 : Int32) d9_41 rfl (by decide) rfl rfl ?_
          refine o_iloadN B 44 45 (v := (q9_2 x0)) d9_44 rfl rfl ?_
          refine o_bipush B 45 47 (8 : Int32) d9_45 rfl (by decide) ?_
          refine o_iushr B 47 48 d9_47 rfl ?_
          refine o_istoreN B 48 49 (l' := #[vi (XT.ushr (q9_2 x0) (8 : Int32)), vi ((q9_3 x0) + (8 : Int32))]) d9_48 rfl rfl ?_
          have y0 : (q9_4 x0) = (XT.ushr (q9_2 x0) (8 : Int32)) := by simp only [q9_4, q9_5, if_pos k5]
          have y1 : (q9_5 x0) = ((q9_3 x0) + (8 : Int32)) := by simp only [q9_4, q9_5, if_pos k5]
          rw [y0, y1] at k
          exact k
        · refine o_icY B 38 49 d9_38 (XT.ii_le_t k5) (by decide) (by decide) ?_
          have y0 : (q9_4 x0) = (q9_2 x0) := by simp only [q9_4, q9_5, if_neg k5]
          have y1 : (q9_5 x0) = (q9_3 x0) := by simp only [q9_4, q9_5, if_neg k5]
          rw [y0, y1] at k
          exact k
      refine dm4 ?_
      refine o_iloadN B 49 50 (v := (q9_4 x0)) d9_49 rfl rfl ?_
      refine o_bipush B 50 52 (16 : Int32) d9_50 rfl (by decide) ?_
      have dm6 : ∀ {P : Outcome → State → Prop}, OG p.tables e below P (T.setTop (mkF m 62 #[vi (q9_6 x0), vi (q9_7 x0)] [])) → OG p.tables e below P (T.setTop (mkF m 52 #[vi (q9_4 x0), vi (q9_5 x0)] [(.int (16 : Int32)), (.int (q9_4 x0))])) := by
        intro P k
        by_cases k7 : (16 : Int32) < (q9_4 x0)
        · refine o_icN B 52 55 d9_52 rfl (XT.ii_le_f k7) ?_
          refine o_iinc B 55 58 (l' := #[vi (q9_4 x0), vi ((q9_5 x0) + (4 : Int32))]) (4 : Int32) d9_55 rfl (by decide) rfl rfl ?_
          refine o_iloadN B 58 59 (v := (q9_4 x0)) d9_58 rfl rfl ?_
          refine o_iconst B 59 60 (4 : Int32) d9_59 rfl (by decide) ?_
          refine o_iushr B 60 61 d9_60 rfl ?_
          refine o_istoreN B 61 62 (l' := #[vi (XT.ushr (q9_4 x0) (4 : Int32)), vi ((q9_5 x0) + (4 : Int32))]) d9_61 rfl rfl ?_
          have y0 : (q9_6 x0) = (XT.ushr (q9_4 x0) (4 : Int32)) := by simp only [q9_6, q9_7, if_pos k7]
          have y1 : (q9_7 x0) = ((q9_5 x0) + (4 : Int32)) := by simp only [q9_6, q9_7, if_pos k7]
          rw [y0, y1] at k
          exact k
        · refine o_icY B 52 62 d9_52 (XT.ii_le_t k7) (by decide) (by decide) ?_
          have y0 : (q9_6 x0) = (q9_4 x0) := by simp only [q9_6, q9_7, if_neg k7]
          have y1 : (q9_7 x0) = (q9_5 x0) := by simp only [q9_6, q9_7, if_neg k7]
          rw [y0, y1] at k
          exact k
      refine dm6 ?_
      refine o_iloadN B 62 63 (v := (q9_6 x0)) d9_62 rfl rfl ?_
      refine o_iconst B 63 64 (4 : Int32) d9_63 rfl (by decide) ?_
      have dm8 : ∀ {P : Outcome → State → Prop}, OG p.tables e below P (T.setTop (mkF m 74 #[vi (q9_8 x0), vi (q9_9 x0)] [])) → OG p.tables e below P (T.setTop (mkF m 64 #[vi (q9_6 x0), vi (q9_7 x0)] [(.int (4 : Int32)), (.int (q9_6 x0))])) := by
        intro P k
        by_cases k9 : (4 : Int32) < (q9_6 x0)
        · refine o_icN B 64 67 d9_64 rfl (XT.ii_le_f k9) ?_
          refine o_iinc B 67 70 (l' := #[vi (q9_6 x0), vi ((q9_7 x0) + (2 : Int32))]) (2 : Int32) d9_67 rfl (by decide) rfl rfl ?_
          refine o_iloadN B 70 71 (v := (q9_6 x0)) d9_70 rfl rfl ?_
          refine o_iconst B 71 72 (2 : Int32) d9_71 rfl (by decide) ?_
          refine o_iushr B 72 73 d9_72 rfl ?_
          refine o_istoreN B 73 74 (l' := #[vi (XT.ushr (q9_6 x0) (2 : Int32)), vi ((q9_7 x0) + (2 : Int32))]) d9_73 rfl rfl ?_
          have y0 : (q9_8 x0) = (XT.ushr (q9_6 x0) (2 : Int32)) := by simp only [q9_8, q9_9, if_pos k9]
          have y1 : (q9_9 x0) = ((q9_7 x0) + (2 : Int32)) := by simp only [q9_8, q9_9, if_pos k9]
          rw [y0, y1] at k
          exact k
        · refine o_icY B 64 74 d9_64 (XT.ii_le_t k9) (by decide) (by decide) ?_
          have y0 : (q9_8 x0) = (q9_6 x0) := by simp only [q9_8, q9_9, if_neg k9]
          have y1 : (q9_9 x0) = (q9_7 x0) := by simp only [q9_8, q9_9, if_neg k9]
          rw [y0, y1] at k
          exact k
      refine dm8 ?_
      refine o_iloadN B 74 75 (v := (q9_9 x0)) d9_74 rfl rfl ?_
      refine o_iloadN B 75 76 (v := (q9_8 x0)) d9_75 rfl rfl ?_
      refine o_iconst B 76 77 (1 : Int32) d9_76 rfl (by decide) ?_
      refine o_iushr B 77 78 d9_77 rfl ?_
      refine o_iadd B 78 79 d9_78 rfl ?_
      refine o_retI B 79 d9_79 hret hlk (by decide) (by decide) ⟨(congrArg (fun z => some (Value.int z)) (show f9 x0 = ((q9_9 x0) + (XT.ushr (q9_8 x0) (1 : Int32))) from (if_pos k1).trans (rfl))).symm, rfl, rfl⟩
    · refine o_ifN B 9 12 d9_9 rfl (XT.i0_gt_f k1) ?_
      refine o_iloadN B 12 13 (v := (q9_1 x0)) d9_12 rfl rfl ?_
      refine o_bipush B 13 15 (32 : Int32) d9_13 rfl (by decide) ?_
      refine o_iand B 15 16 d9_15 rfl ?_
      refine o_retI B 16 d9_16 hret hlk (by decide) (by decide) ⟨(congrArg (fun z => some (Value.int z)) (show f9 x0 = ((q9_1 x0) &&& (32 : Int32)) from (if_neg k1).trans (rfl))).symm, rfl, rfl⟩
theorem d8_0 : decode jdk_35_method_49_code 0 = .ok (.lload_n 0, 1) := by decide +kernel
theorem d8_1 : decode jdk_35_method_49_code 1 = .ok (.l2i, 1) := by decide +kernel
theorem d8_2 : decode jdk_35_method_49_code 2 = .ok (.istore_n 2, 1) := by decide +kernel
theorem d8_3 : decode jdk_35_method_49_code 3 = .ok (.iload_n 2, 1) := by decide +kernel
theorem d8_4 : decode jdk_35_method_49_code 4 = .ok (.ifCond .ne 17, 3) := by decide +kernel
theorem d8_7 : decode jdk_35_method_49_code 7 = .ok (.bipush 32, 2) := by decide +kernel
theorem d8_9 : decode jdk_35_method_49_code 9 = .ok (.lload_n 0, 1) := by decide +kernel
theorem d8_10 : decode jdk_35_method_49_code 10 = .ok (.bipush 32, 2) := by decide +kernel
theorem d8_12 : decode jdk_35_method_49_code 12 = .ok (.lushr, 1) := by decide +kernel
theorem d8_13 : decode jdk_35_method_49_code 13 = .ok (.l2i, 1) := by decide +kernel
theorem d8_14 : decode jdk_35_method_49_code 14 = .ok (.invokestatic 311, 3) := by decide +kernel
theorem d8_17 : decode jdk_35_method_49_code 17 = .ok (.iadd, 1) := by decide +kernel
theorem d8_18 : decode jdk_35_method_49_code 18 = .ok (.goto 7, 3) := by decide +kernel
theorem d8_21 : decode jdk_35_method_49_code 21 = .ok (.iload_n 2, 1) := by decide +kernel
theorem d8_22 : decode jdk_35_method_49_code 22 = .ok (.invokestatic 311, 3) := by decide +kernel
theorem d8_25 : decode jdk_35_method_49_code 25 = .ok (.ireturn, 1) := by decide +kernel
theorem pl8 : plainFor (⟨"java/lang/Long", "numberOfTrailingZeros", "(J)I"⟩ : MethodName) = true := by first | exact plainFor_of_name (by first | (simp [plainName, overriddenIn]; done) | decide +kernel) | decide +kernel
def f8 (x0 : Int64) : Int32 := (if x0.toInt32 = 0 then ((32 : Int32) + (f9 (XT.ushrL x0 (32 : Int32)).toInt32)) else (f9 x0.toInt32))
set_option maxRecDepth 65536 in
set_option maxHeartbeats 40000000 in
theorem rm8 (l : Launch) (Z : State) (a0 : Array Value) (hw : ∀ d ∈ tables_1, d.before a0 Z = true) (x0 : Int64) (h0 : Heap) :
    Met l Z (⟨"java/lang/Long", "numberOfTrailingZeros", "(J)I"⟩ : MethodName) jdk_35_method_49_code 3 (some .int) ({ frames := 1, cells := 0, slots := 0, locals := 14 } : Room) #[(.long x0)] h0 (Pu (some (.int (f8 x0))) h0) := by
  refine enter pl8 #[vj x0, s2, us] rfl ?_
  intro p e s m below meth c T B hret hlk hnm
  · refine o_lloadN B 0 1 (v := x0) d8_0 rfl rfl ?_
    refine o_l2i B 1 2 d8_1 rfl ?_
    refine o_istoreN B 2 3 (l' := #[vj x0, s2, vi x0.toInt32]) d8_2 rfl rfl ?_
    refine o_iloadN B 3 4 (v := x0.toInt32) d8_3 rfl rfl ?_
    by_cases k1 : x0.toInt32 = 0
    · refine o_ifN B 4 7 d8_4 rfl (XT.i0_ne_f k1) ?_
      refine o_bipush B 7 9 (32 : Int32) d8_7 rfl (by decide) ?_
      refine o_lloadN B 9 10 (v := x0) d8_9 rfl rfl ?_
      refine o_bipush B 10 12 (32 : Int32) d8_10 rfl (by decide) ?_
      refine o_lushr B 12 13 d8_12 rfl ?_
      refine o_l2i B 13 14 d8_13 rfl ?_
      obtain ⟨T1, B1, c1⟩ := o_callP B 14 17 d8_14 rfl (hw _ (mi 72 rfl)) (hw _ (mi 73 rfl)) (hw _ (mi 74 rfl)) (hw _ (mi 75 rfl)) (by decide) (rm9 l Z a0 hw (XT.ushrL x0 (32 : Int32)).toInt32 h0 ) 1 [(.int (XT.ushrL x0 (32 : Int32)).toInt32)] [(.int (32 : Int32))] pd__I_I rfl rfl (st := [(.int (XT.ushrL x0 (32 : Int32)).toInt32), (.int (32 : Int32))]) rfl (Ls := #[vj x0, s2, vi x0.toInt32]) rfl (Nat.le_of_eq rfl) (by decide) (by decide) (by decide) (by decide)
      refine c1 ?_
      refine o_iadd B1 17 18 d8_17 rfl ?_
      refine o_goto B1 18 25 d8_18 (by decide) (by decide) ?_
      refine o_retI B1 25 d8_25 hret hlk (by decide) (by decide) ⟨(congrArg (fun z => some (Value.int z)) (show f8 x0 = ((32 : Int32) + (f9 (XT.ushrL x0 (32 : Int32)).toInt32)) from (if_pos k1).trans (rfl))).symm, rfl, rfl⟩
    · refine o_ifY B 4 21 d8_4 (XT.i0_ne_t k1) (by decide) (by decide) ?_
      refine o_iloadN B 21 22 (v := x0.toInt32) d8_21 rfl rfl ?_
      obtain ⟨T2, B2, c2⟩ := o_callP B 22 25 d8_22 rfl (hw _ (mi 72 rfl)) (hw _ (mi 73 rfl)) (hw _ (mi 74 rfl)) (hw _ (mi 75 rfl)) (by decide) (rm9 l Z a0 hw x0.toInt32 h0 ) 0 [(.int x0.toInt32)] [] pd__I_I rfl rfl (st := [(.int x0.toInt32)]) rfl (Ls := #[vj x0, s2, vi x0.toInt32]) rfl (Nat.le_of_eq rfl) (by decide) (by decide) (by decide) (by decide)
      refine c2 ?_
      refine o_retI B2 25 d8_25 hret hlk (by decide) (by decide) ⟨(congrArg (fun z => some (Value.int z)) (show f8 x0 = (f9 x0.toInt32) from (if_neg k1).trans (rfl))).symm, rfl, rfl⟩
/-- what the constructor asks of width and groups, for P blocks a group -/
def Hp (P : Int) (xW xG : Int32) : Prop := (64 ≤ xW.toInt ∧ xW.toInt ≤ 64 ∧ xW.toInt % 64 = 0) ∧ (xW.toInt / 64 ≤ xG.toInt ∧ xG.toInt ≤ xW.toInt ∧ xG.toInt ≤ 3) ∧ P ≤ xW.toInt / xG.toInt
theorem own_hw {P : Int} {xW xG : Int32} (h : Hp P xW xG) : ¬ xW < 64 ∧ ¬ 1024 < xW ∧ xW % 64 = 0 := by
  unfold Hp at h
  have r := c_irem xW 64 64 (by decide)
  rw [Int32.lt_iff_toInt_lt, Int32.lt_iff_toInt_lt, ← Int32.toInt_inj, show (64 : Int32).toInt = 64 by decide, show (1024 : Int32).toInt = 1024 by decide, Int32.toInt_zero]
  omega
theorem own_hm {P : Int} {xW xG : Int32} (h : Hp P xW xG) : ¬ f6 xW < 0 := by
  unfold Hp at h
  have r := c_idiv xW 2 2 (by decide) (by decide)
  unfold f6
  rw [Int32.lt_iff_toInt_lt, Int32.toInt_zero]
  omega
theorem own_ho {P : Int} {xW xG : Int32} (h : Hp P xW xG) : ¬ xG < f4 xW ∧ ¬ xW < xG ∧ xG ≠ 0 ∧ 1 ≤ xG.toInt := by
  unfold Hp at h
  have r := c_idiv xW 64 64 (by decide) (by decide)
  unfold f4
  rw [Int32.lt_iff_toInt_lt, Int32.lt_iff_toInt_lt, ne_eq, ← Int32.toInt_inj, Int32.toInt_zero]
  omega
theorem own_hq {P : Int} {xW xG c : Int32} (hc : c.toInt = P) (h : Hp P xW xG) : ¬ xW / xG < c := by
  have o := own_ho h
  unfold Hp at h
  have r := c_idiv xW xG xG.toInt rfl (fun e => by rw [e] at o; exact absurd o.2.2.2 (by decide))
  rw [Int32.lt_iff_toInt_lt]
  omega
theorem own_gl {P : Int} {xW xG : Int32} (h : Hp P xW xG) : xG.toInt.toNat ≤ 3 ∧ xG.toInt = (xG.toInt.toNat : Nat) ∧ 1 ≤ xG.toInt.toNat := by
  have o := own_ho h
  unfold Hp at h
  omega
theorem own_gt {P : Int} {xW xG : Int32} (h : Hp P xW xG) (c : Int64) (n : Int) (hc : c.toInt = n) (h1 : 1 ≤ n) (h2 : n ≤ 6) : (xG.toInt64 * c).toInt = xG.toInt * n := by
  have o := own_ho h
  unfold Hp at h
  have a := c_lmul xG.toInt64 c
  have b := rng64 (xG.toInt64 * c)
  have e := c_i2l xG
  rw [e, hc] at a
  have p : xG.toInt * n ≤ 1024 * 6 := Int.mul_le_mul (by omega) (by omega) (by omega) (by omega)
  have p2 : 0 ≤ xG.toInt * n := Int.mul_nonneg (by omega) (by omega)
  omega
theorem own_tg {P : Int} {xW xG : Int32} (h : Hp P xW xG) (c : Int64) (n : Int) (hc : c.toInt = n) (h1 : 1 ≤ n) (h2 : n ≤ 6) : (xG.toInt64 * c) / xG.toInt64 = c := by
  have o := own_ho h
  have e := own_gt h c n hc h1 h2
  have g := c_i2l xG
  have p2 : 0 ≤ xG.toInt * n := Int.mul_nonneg (by omega) (by omega)
  have d := (c_ldiv (xG.toInt64 * c) xG.toInt64 xG.toInt g (fun z => by rw [z] at g; rw [show (-1 : Int64).toInt = -1 by decide] at g; omega)).1 (by omega)
  apply Int64.toInt_inj.mp
  rw [d, e, hc, Int.mul_ediv_cancel_left _ (by omega)]
theorem own_gz {P : Int} {xW xG : Int32} (h : Hp P xW xG) : xG.toInt64 ≠ 0 := by
  have o := own_ho h
  have g := c_i2l xG
  intro z
  rw [z, Int64.toInt_zero] at g
  omega
theorem own_inc (g : Nat) : Int32.ofNat g + 1 = Int32.ofNat (g + 1) := Int32.ofNat_succ g
theorem own_on (g : Nat) (h : g < 100000) : (Int32.ofNat g).toInt = g := Int32.toInt_ofNat_of_lt (by omega)
def own_bits (xW xG : Int32) (g : Nat) : Int32 := (xW / xG) + (if Int32.ofNat g < xW % xG then (1 : Int32) else 0)
def own_start (xW xG : Int32) : Nat → Int32
  | 0 => 0
  | g + 1 => own_start xW xG g + own_bits xW xG g
def own_low (w s : Int32) : Int64 := (if w = (64 : Int32) then (-1 : Int64) else (((1 : Int64) <<< (w.toInt64 &&& 63)) - (1 : Int64))) <<< (s.toInt64 &&& 63)
def own_sh (xW xG : Int32) (g : Nat) : Int32 := own_start xW xG g % 64
def own_hb (xW xG : Int32) (g : Nat) : Int32 := (own_sh xW xG g + own_bits xW xG g) - 64
def own_hi (xW xG : Int32) (g : Nat) : Int64 := if 0 < own_hb xW xG g then ((1 : Int64) <<< ((own_hb xW xG g).toInt64 &&& 63)) - (1 : Int64) else (0 : Int64)
def own_bw (xW xG xP : Int32) (g b : Nat) : Int32 := (own_bits xW xG g / xP) + (if Int32.ofNat b < own_bits xW xG g % xP then (1 : Int32) else 0)
def own_off (xW xG xP : Int32) (g : Nat) : Nat → Int32
  | 0 => 0
  | b + 1 => own_off xW xG xP g b + own_bw xW xG xP g b
def own_bm (xW xG xP : Int32) (g b : Nat) : Int64 := own_low (own_bw xW xG xP g b) (own_off xW xG xP g b)
def UpI (g : Nat) (f : Nat → Int32) : Nat → Int32 := fun j => if j < g then f j else 0
def UpJ (g : Nat) (f : Nat → Int64) : Nat → Int64 := fun j => if j < g then f j else 0
theorem own_upI (g : Nat) (f : Nat → Int32) (j : Nat) : UpI (g + 1) f j = if j = g then f g else UpI g f j := by
  unfold UpI
  by_cases e : j = g
  · subst e; rw [if_pos (by omega), if_pos rfl]
  · rw [if_neg e]
    by_cases q : j < g
    · rw [if_pos q, if_pos (by omega)]
    · rw [if_neg q, if_neg (by omega)]
theorem own_upJ (g : Nat) (f : Nat → Int64) (j : Nat) : UpJ (g + 1) f j = if j = g then f g else UpJ g f j := by
  unfold UpJ
  by_cases e : j = g
  · subst e; rw [if_pos (by omega), if_pos rfl]
  · rw [if_neg e]
    by_cases q : j < g
    · rw [if_pos q, if_pos (by omega)]
    · rw [if_neg q, if_neg (by omega)]
def own_bmf (xW xG xP : Int32) (P : Nat) (j : Nat) : Int64 := own_bm xW xG xP (j / P) (j % P)
theorem own_bmq (xW xG xP : Int32) (P g b : Nat) (h : b < P) : own_bmf xW xG xP P (g * P + b) = own_bm xW xG xP g b := by
  unfold own_bmf
  rw [show (g * P + b) / P = g by rw [Nat.add_comm, Nat.add_mul_div_right _ _ (by omega), Nat.div_eq_of_lt h, Nat.zero_add], show (g * P + b) % P = b by rw [Nat.add_comm, Nat.add_mul_mod_self_right, Nat.mod_eq_of_lt h]]
theorem d10_0 : decode prog_2_method_23_code 0 = .ok (.aload_n 0, 1) := by decide +kernel
theorem d10_1 : decode prog_2_method_23_code 1 = .ok (.getfield 79, 3) := by decide +kernel
theorem d10_4 : decode prog_2_method_23_code 4 = .ok (.iload_n 1, 1) := by decide +kernel
theorem d10_5 : decode prog_2_method_23_code 5 = .ok (.aload_n 0, 1) := by decide +kernel
theorem d10_6 : decode prog_2_method_23_code 6 = .ok (.getfield 56, 3) := by decide +kernel
theorem d10_9 : decode prog_2_method_23_code 9 = .ok (.imul, 1) := by decide +kernel
theorem d10_10 : decode prog_2_method_23_code 10 = .ok (.iload_n 2, 1) := by decide +kernel
theorem d10_11 : decode prog_2_method_23_code 11 = .ok (.iadd, 1) := by decide +kernel
theorem d10_12 : decode prog_2_method_23_code 12 = .ok (.iaload, 1) := by decide +kernel
theorem d10_13 : decode prog_2_method_23_code 13 = .ok (.ireturn, 1) := by decide +kernel
theorem pl10 : plainFor (⟨"com/example/hyperplane/hyperplane/Blocks", "blockOffset", "(II)I"⟩ : MethodName) = true := by first | exact plainFor_of_name (by first | (simp [plainName, overriddenIn]; done) | decide +kernel) | decide +kernel
def f10 (nb : Nat) (g : Nat → Int32) (y x0 x1 : Int32) : Int32 := (g (x0.toInt.toNat * y.toInt.toNat + x1.toInt.toNat))
set_option maxRecDepth 65536 in
set_option maxHeartbeats 40000000 in
theorem rm10 (l : Launch) (Z : State) (a0 : Array Value) (hw : ∀ d ∈ tables_1, d.before a0 Z = true) (a : Addr) (nb : Nat) (g : Nat → Int32) (yb : Addr) (y : Int32) (x0 : Int32) (x1 : Int32) (h0 : Heap) (G0 : Fld Z h0 a "com/example/hyperplane/hyperplane/Blocks" "blockOffsets" "[I" (.ref yb)) (G1 : Fld Z h0 a "com/example/hyperplane/hyperplane/Blocks" "blocksPerGroup" "I" (.int y)) (A0 : AI Z h0 yb .int nb g) (hx : ((x0 * y) + x1).toInt = (x0.toInt.toNat * y.toInt.toNat + x1.toInt.toNat : Nat) ∧ x0.toInt.toNat * y.toInt.toNat + x1.toInt.toNat < nb) :
    Met l Z (⟨"com/example/hyperplane/hyperplane/Blocks", "blockOffset", "(II)I"⟩ : MethodName) prog_2_method_23_code 3 (some .int) ({ frames := 0, cells := 0, slots := 0, locals := 0 } : Room) #[(.ref a), (.int x0), (.int x1)] h0 (Pu (some (.int (f10 nb g y x0 x1))) h0) := by
  refine enter pl10 #[vr a, vi x0, vi x1] rfl ?_
  intro p e s m below meth c T B hret hlk hnm
  · refine o_aloadN B 0 1 (v := (.ref a)) d10_0 rfl rfl rfl ?_
    obtain ⟨T1, B1, c1⟩ := o_getfield B 1 4 d10_1 rfl (host := "") (Or.inl (hw _ (mi 56 rfl))) Via.refl G0 (Ls := #[vr a, vi x0, vi x1]) (rest := [])
    refine c1 ?_
    refine o_iloadN B1 4 5 (v := x0) d10_4 rfl rfl ?_
    refine o_aloadN B1 5 6 (v := (.ref a)) d10_5 rfl rfl rfl ?_
    obtain ⟨T2, B2, c2⟩ := o_getfield B1 6 9 d10_6 rfl (host := "") (Or.inl (hw _ (mi 40 rfl))) Via.refl G1 (Ls := #[vr a, vi x0, vi x1]) (rest := [(.int x0), (.ref yb)])
    refine c2 ?_
    refine o_imul B2 9 10 d10_9 rfl ?_
    refine o_iloadN B2 10 11 (v := x1) d10_10 rfl rfl ?_
    refine o_iadd B2 11 12 d10_11 rfl ?_
    refine o_iaload B2 12 13 A0 (x0.toInt.toNat * y.toInt.toNat + x1.toInt.toNat) (g (x0.toInt.toNat * y.toInt.toNat + x1.toInt.toNat)) d10_12 rfl (ix_of hx.1).1 (ix_of hx.1).2 hx.2 rfl ?_
    refine o_retI B2 13 d10_13 hret hlk (by decide) (by decide) ⟨(congrArg (fun z => some (Value.int z)) (show f10 nb g y x0 x1 = (g (x0.toInt.toNat * y.toInt.toNat + x1.toInt.toNat)) from rfl)).symm, rfl, rfl⟩
theorem d11_0 : decode prog_2_method_24_code 0 = .ok (.aload_n 0, 1) := by decide +kernel
theorem d11_1 : decode prog_2_method_24_code 1 = .ok (.getfield 82, 3) := by decide +kernel
theorem d11_4 : decode prog_2_method_24_code 4 = .ok (.iload_n 1, 1) := by decide +kernel
theorem d11_5 : decode prog_2_method_24_code 5 = .ok (.aload_n 0, 1) := by decide +kernel
theorem d11_6 : decode prog_2_method_24_code 6 = .ok (.getfield 56, 3) := by decide +kernel
theorem d11_9 : decode prog_2_method_24_code 9 = .ok (.imul, 1) := by decide +kernel
theorem d11_10 : decode prog_2_method_24_code 10 = .ok (.iload_n 2, 1) := by decide +kernel
theorem d11_11 : decode prog_2_method_24_code 11 = .ok (.iadd, 1) := by decide +kernel
theorem d11_12 : decode prog_2_method_24_code 12 = .ok (.iaload, 1) := by decide +kernel
theorem d11_13 : decode prog_2_method_24_code 13 = .ok (.ireturn, 1) := by decide +kernel
theorem pl11 : plainFor (⟨"com/example/hyperplane/hyperplane/Blocks", "blockWidth", "(II)I"⟩ : MethodName) = true := by first | exact plainFor_of_name (by first | (simp [plainName, overriddenIn]; done) | decide +kernel) | decide +kernel
def f11 (nb : Nat) (g : Nat → Int32) (y x0 x1 : Int32) : Int32 := (g (x0.toInt.toNat * y.toInt.toNat + x1.toInt.toNat))
set_option maxRecDepth 65536 in
set_option maxHeartbeats 40000000 in
theorem rm11 (l : Launch) (Z : State) (a0 : Array Value) (hw : ∀ d ∈ tables_1, d.before a0 Z = true) (a : Addr) (nb : Nat) (g : Nat → Int32) (yb : Addr) (y : Int32) (x0 : Int32) (x1 : Int32) (h0 : Heap) (G0 : Fld Z h0 a "com/example/hyperplane/hyperplane/Blocks" "blockWidths" "[I" (.ref yb)) (G1 : Fld Z h0 a "com/example/hyperplane/hyperplane/Blocks" "blocksPerGroup" "I" (.int y)) (A0 : AI Z h0 yb .int nb g) (hx : ((x0 * y) + x1).toInt = (x0.toInt.toNat * y.toInt.toNat + x1.toInt.toNat : Nat) ∧ x0.toInt.toNat * y.toInt.toNat + x1.toInt.toNat < nb) :
    Met l Z (⟨"com/example/hyperplane/hyperplane/Blocks", "blockWidth", "(II)I"⟩ : MethodName) prog_2_method_24_code 3 (some .int) ({ frames := 0, cells := 0, slots := 0, locals := 0 } : Room) #[(.ref a), (.int x0), (.int x1)] h0 (Pu (some (.int (f11 nb g y x0 x1))) h0) := by
  refine enter pl11 #[vr a, vi x0, vi x1] rfl ?_
  intro p e s m below meth c T B hret hlk hnm
  · refine o_aloadN B 0 1 (v := (.ref a)) d11_0 rfl rfl rfl ?_
    obtain ⟨T1, B1, c1⟩ := o_getfield B 1 4 d11_1 rfl (host := "") (Or.inl (hw _ (mi 58 rfl))) Via.refl G0 (Ls := #[vr a, vi x0, vi x1]) (rest := [])
    refine c1 ?_
    refine o_iloadN B1 4 5 (v := x0) d11_4 rfl rfl ?_
    refine o_aloadN B1 5 6 (v := (.ref a)) d11_5 rfl rfl rfl ?_
    obtain ⟨T2, B2, c2⟩ := o_getfield B1 6 9 d11_6 rfl (host := "") (Or.inl (hw _ (mi 40 rfl))) Via.refl G1 (Ls := #[vr a, vi x0, vi x1]) (rest := [(.int x0), (.ref yb)])
    refine c2 ?_
    refine o_imul B2 9 10 d11_9 rfl ?_
    refine o_iloadN B2 10 11 (v := x1) d11_10 rfl rfl ?_
    refine o_iadd B2 11 12 d11_11 rfl ?_
    refine o_iaload B2 12 13 A0 (x0.toInt.toNat * y.toInt.toNat + x1.toInt.toNat) (g (x0.toInt.toNat * y.toInt.toNat + x1.toInt.toNat)) d11_12 rfl (ix_of hx.1).1 (ix_of hx.1).2 hx.2 rfl ?_
    refine o_retI B2 13 d11_13 hret hlk (by decide) (by decide) ⟨(congrArg (fun z => some (Value.int z)) (show f11 nb g y x0 x1 = (g (x0.toInt.toNat * y.toInt.toNat + x1.toInt.toNat)) from rfl)).symm, rfl, rfl⟩
theorem d2_0 : decode prog_2_method_3_code 0 = .ok (.aload_n 0, 1) := by decide +kernel
theorem d2_1 : decode prog_2_method_3_code 1 = .ok (.invokespecial 25, 3) := by decide +kernel
theorem d2_4 : decode prog_2_method_3_code 4 = .ok (.aload_n 0, 1) := by decide +kernel
theorem d2_5 : decode prog_2_method_3_code 5 = .ok (.iload_n 1, 1) := by decide +kernel
theorem d2_6 : decode prog_2_method_3_code 6 = .ok (.invokestatic 14, 3) := by decide +kernel
theorem d2_9 : decode prog_2_method_3_code 9 = .ok (.putfield 30, 3) := by decide +kernel
theorem d2_12 : decode prog_2_method_3_code 12 = .ok (.iload_n 1, 1) := by decide +kernel
theorem d2_13 : decode prog_2_method_3_code 13 = .ok (.iload_n 2, 1) := by decide +kernel
theorem d2_14 : decode prog_2_method_3_code 14 = .ok (.invokestatic 11, 3) := by decide +kernel
theorem d2_17 : decode prog_2_method_3_code 17 = .ok (.pop, 1) := by decide +kernel
theorem d2_18 : decode prog_2_method_3_code 18 = .ok (.iload_n 3, 1) := by decide +kernel
theorem d2_19 : decode prog_2_method_3_code 19 = .ok (.aload_n 0, 1) := by decide +kernel
theorem d2_20 : decode prog_2_method_3_code 20 = .ok (.getfield 30, 3) := by decide +kernel
theorem d2_23 : decode prog_2_method_3_code 23 = .ok (.if_icmp .lt 8, 3) := by decide +kernel
theorem d2_26 : decode prog_2_method_3_code 26 = .ok (.iload_n 3, 1) := by decide +kernel
theorem d2_27 : decode prog_2_method_3_code 27 = .ok (.iload_n 1, 1) := by decide +kernel
theorem d2_28 : decode prog_2_method_3_code 28 = .ok (.if_icmp .le 18, 3) := by decide +kernel
theorem d2_31 : decode prog_2_method_3_code 31 = .ok (.new 33, 3) := by decide +kernel
theorem d2_34 : decode prog_2_method_3_code 34 = .ok (.dup, 1) := by decide +kernel
theorem d2_35 : decode prog_2_method_3_code 35 = .ok (.iload_n 3, 1) := by decide +kernel
theorem d2_36 : decode prog_2_method_3_code 36 = .ok (.iload_n 1, 1) := by decide +kernel
theorem d2_42 : decode prog_2_method_3_code 42 = .ok (.invokespecial 39, 3) := by decide +kernel
theorem d2_45 : decode prog_2_method_3_code 45 = .ok (.athrow, 1) := by decide +kernel
theorem d2_46 : decode prog_2_method_3_code 46 = .ok (.iload 4, 2) := by decide +kernel
theorem d2_48 : decode prog_2_method_3_code 48 = .ok (.iconst 1, 1) := by decide +kernel
theorem d2_49 : decode prog_2_method_3_code 49 = .ok (.if_icmp .lt 11, 3) := by decide +kernel
theorem d2_52 : decode prog_2_method_3_code 52 = .ok (.iload 4, 2) := by decide +kernel
theorem d2_54 : decode prog_2_method_3_code 54 = .ok (.iload_n 1, 1) := by decide +kernel
theorem d2_55 : decode prog_2_method_3_code 55 = .ok (.iload_n 3, 1) := by decide +kernel
theorem d2_56 : decode prog_2_method_3_code 56 = .ok (.idiv, 1) := by decide +kernel
theorem d2_57 : decode prog_2_method_3_code 57 = .ok (.if_icmp .le 21, 3) := by decide +kernel
theorem d2_60 : decode prog_2_method_3_code 60 = .ok (.new 33, 3) := by decide +kernel
theorem d2_63 : decode prog_2_method_3_code 63 = .ok (.dup, 1) := by decide +kernel
theorem d2_64 : decode prog_2_method_3_code 64 = .ok (.iload 4, 2) := by decide +kernel
theorem d2_66 : decode prog_2_method_3_code 66 = .ok (.iload_n 1, 1) := by decide +kernel
theorem d2_67 : decode prog_2_method_3_code 67 = .ok (.iload_n 3, 1) := by decide +kernel
theorem d2_68 : decode prog_2_method_3_code 68 = .ok (.idiv, 1) := by decide +kernel
theorem d2_74 : decode prog_2_method_3_code 74 = .ok (.invokespecial 39, 3) := by decide +kernel
theorem d2_77 : decode prog_2_method_3_code 77 = .ok (.athrow, 1) := by decide +kernel
theorem d2_78 : decode prog_2_method_3_code 78 = .ok (.iload 5, 2) := by decide +kernel
theorem d2_80 : decode prog_2_method_3_code 80 = .ok (.iconst 1, 1) := by decide +kernel
theorem d2_81 : decode prog_2_method_3_code 81 = .ok (.if_icmp .lt 10, 3) := by decide +kernel
theorem d2_84 : decode prog_2_method_3_code 84 = .ok (.iload 5, 2) := by decide +kernel
theorem d2_86 : decode prog_2_method_3_code 86 = .ok (.iload 4, 2) := by decide +kernel
theorem d2_88 : decode prog_2_method_3_code 88 = .ok (.if_icmp .le 20, 3) := by decide +kernel
theorem d2_91 : decode prog_2_method_3_code 91 = .ok (.new 33, 3) := by decide +kernel
theorem d2_94 : decode prog_2_method_3_code 94 = .ok (.dup, 1) := by decide +kernel
theorem d2_95 : decode prog_2_method_3_code 95 = .ok (.iload 5, 2) := by decide +kernel
theorem d2_97 : decode prog_2_method_3_code 97 = .ok (.iload 4, 2) := by decide +kernel
theorem d2_104 : decode prog_2_method_3_code 104 = .ok (.invokespecial 39, 3) := by decide +kernel
theorem d2_107 : decode prog_2_method_3_code 107 = .ok (.athrow, 1) := by decide +kernel
theorem d2_108 : decode prog_2_method_3_code 108 = .ok (.iload 4, 2) := by decide +kernel
theorem d2_110 : decode prog_2_method_3_code 110 = .ok (.iload 5, 2) := by decide +kernel
theorem d2_112 : decode prog_2_method_3_code 112 = .ok (.isub, 1) := by decide +kernel
theorem d2_113 : decode prog_2_method_3_code 113 = .ok (.istore 6, 2) := by decide +kernel
theorem d2_115 : decode prog_2_method_3_code 115 = .ok (.iload_n 3, 1) := by decide +kernel
theorem d2_116 : decode prog_2_method_3_code 116 = .ok (.i2l, 1) := by decide +kernel
theorem d2_117 : decode prog_2_method_3_code 117 = .ok (.iload 6, 2) := by decide +kernel
theorem d2_119 : decode prog_2_method_3_code 119 = .ok (.iconst 1, 1) := by decide +kernel
theorem d2_120 : decode prog_2_method_3_code 120 = .ok (.iadd, 1) := by decide +kernel
theorem d2_121 : decode prog_2_method_3_code 121 = .ok (.i2l, 1) := by decide +kernel
theorem d2_122 : decode prog_2_method_3_code 122 = .ok (.lmul, 1) := by decide +kernel
theorem d2_123 : decode prog_2_method_3_code 123 = .ok (.iload_n 2, 1) := by decide +kernel
theorem d2_124 : decode prog_2_method_3_code 124 = .ok (.i2l, 1) := by decide +kernel
theorem d2_125 : decode prog_2_method_3_code 125 = .ok (.lcmp, 1) := by decide +kernel
theorem d2_126 : decode prog_2_method_3_code 126 = .ok (.ifCond .gt 20, 3) := by decide +kernel
theorem d2_129 : decode prog_2_method_3_code 129 = .ok (.new 33, 3) := by decide +kernel
theorem d2_132 : decode prog_2_method_3_code 132 = .ok (.dup, 1) := by decide +kernel
theorem d2_133 : decode prog_2_method_3_code 133 = .ok (.iload_n 3, 1) := by decide +kernel
theorem d2_134 : decode prog_2_method_3_code 134 = .ok (.iload 6, 2) := by decide +kernel
theorem d2_136 : decode prog_2_method_3_code 136 = .ok (.iload_n 2, 1) := by decide +kernel
theorem d2_142 : decode prog_2_method_3_code 142 = .ok (.invokespecial 39, 3) := by decide +kernel
theorem d2_145 : decode prog_2_method_3_code 145 = .ok (.athrow, 1) := by decide +kernel
theorem d2_146 : decode prog_2_method_3_code 146 = .ok (.iload_n 3, 1) := by decide +kernel
theorem d2_147 : decode prog_2_method_3_code 147 = .ok (.i2l, 1) := by decide +kernel
theorem d2_148 : decode prog_2_method_3_code 148 = .ok (.iload 4, 2) := by decide +kernel
theorem d2_150 : decode prog_2_method_3_code 150 = .ok (.iload 5, 2) := by decide +kernel
theorem d2_152 : decode prog_2_method_3_code 152 = .ok (.invokestatic 47, 3) := by decide +kernel
theorem d2_155 : decode prog_2_method_3_code 155 = .ok (.lmul, 1) := by decide +kernel
theorem d2_156 : decode prog_2_method_3_code 156 = .ok (.lstore 7, 2) := by decide +kernel
theorem d2_158 : decode prog_2_method_3_code 158 = .ok (.lload 7, 2) := by decide +kernel
theorem d2_160 : decode prog_2_method_3_code 160 = .ok (.ldc2_w 51, 3) := by decide +kernel
theorem d2_163 : decode prog_2_method_3_code 163 = .ok (.lcmp, 1) := by decide +kernel
theorem d2_164 : decode prog_2_method_3_code 164 = .ok (.ifCond .le 18, 3) := by decide +kernel
theorem d2_167 : decode prog_2_method_3_code 167 = .ok (.new 33, 3) := by decide +kernel
theorem d2_170 : decode prog_2_method_3_code 170 = .ok (.dup, 1) := by decide +kernel
theorem d2_171 : decode prog_2_method_3_code 171 = .ok (.lload 7, 2) := by decide +kernel
theorem d2_178 : decode prog_2_method_3_code 178 = .ok (.invokespecial 39, 3) := by decide +kernel
theorem d2_181 : decode prog_2_method_3_code 181 = .ok (.athrow, 1) := by decide +kernel
theorem d2_182 : decode prog_2_method_3_code 182 = .ok (.aload_n 0, 1) := by decide +kernel
theorem d2_183 : decode prog_2_method_3_code 183 = .ok (.iload 4, 2) := by decide +kernel
theorem d2_185 : decode prog_2_method_3_code 185 = .ok (.putfield 56, 3) := by decide +kernel
theorem d2_188 : decode prog_2_method_3_code 188 = .ok (.aload_n 0, 1) := by decide +kernel
theorem d2_189 : decode prog_2_method_3_code 189 = .ok (.iload 5, 2) := by decide +kernel
theorem d2_191 : decode prog_2_method_3_code 191 = .ok (.putfield 59, 3) := by decide +kernel
theorem d2_194 : decode prog_2_method_3_code 194 = .ok (.aload_n 0, 1) := by decide +kernel
theorem d2_195 : decode prog_2_method_3_code 195 = .ok (.iload_n 3, 1) := by decide +kernel
theorem d2_196 : decode prog_2_method_3_code 196 = .ok (.newarray .int, 2) := by decide +kernel
theorem d2_198 : decode prog_2_method_3_code 198 = .ok (.putfield 62, 3) := by decide +kernel
theorem d2_201 : decode prog_2_method_3_code 201 = .ok (.aload_n 0, 1) := by decide +kernel
theorem d2_202 : decode prog_2_method_3_code 202 = .ok (.iload_n 3, 1) := by decide +kernel
theorem d2_203 : decode prog_2_method_3_code 203 = .ok (.newarray .int, 2) := by decide +kernel
theorem d2_205 : decode prog_2_method_3_code 205 = .ok (.putfield 66, 3) := by decide +kernel
theorem d2_208 : decode prog_2_method_3_code 208 = .ok (.aload_n 0, 1) := by decide +kernel
theorem d2_209 : decode prog_2_method_3_code 209 = .ok (.iload_n 3, 1) := by decide +kernel
theorem d2_210 : decode prog_2_method_3_code 210 = .ok (.newarray .int, 2) := by decide +kernel
theorem d2_212 : decode prog_2_method_3_code 212 = .ok (.putfield 69, 3) := by decide +kernel
theorem d2_215 : decode prog_2_method_3_code 215 = .ok (.aload_n 0, 1) := by decide +kernel
theorem d2_216 : decode prog_2_method_3_code 216 = .ok (.iload_n 3, 1) := by decide +kernel
theorem d2_217 : decode prog_2_method_3_code 217 = .ok (.newarray .long, 2) := by decide +kernel
theorem d2_219 : decode prog_2_method_3_code 219 = .ok (.putfield 72, 3) := by decide +kernel
theorem d2_222 : decode prog_2_method_3_code 222 = .ok (.aload_n 0, 1) := by decide +kernel
theorem d2_223 : decode prog_2_method_3_code 223 = .ok (.iload_n 3, 1) := by decide +kernel
theorem d2_224 : decode prog_2_method_3_code 224 = .ok (.newarray .long, 2) := by decide +kernel
theorem d2_226 : decode prog_2_method_3_code 226 = .ok (.putfield 76, 3) := by decide +kernel
theorem d2_229 : decode prog_2_method_3_code 229 = .ok (.aload_n 0, 1) := by decide +kernel
theorem d2_230 : decode prog_2_method_3_code 230 = .ok (.iload_n 3, 1) := by decide +kernel
theorem d2_231 : decode prog_2_method_3_code 231 = .ok (.iload 4, 2) := by decide +kernel
theorem d2_233 : decode prog_2_method_3_code 233 = .ok (.imul, 1) := by decide +kernel
theorem d2_234 : decode prog_2_method_3_code 234 = .ok (.newarray .int, 2) := by decide +kernel
theorem d2_236 : decode prog_2_method_3_code 236 = .ok (.putfield 79, 3) := by decide +kernel
theorem d2_239 : decode prog_2_method_3_code 239 = .ok (.aload_n 0, 1) := by decide +kernel
theorem d2_240 : decode prog_2_method_3_code 240 = .ok (.iload_n 3, 1) := by decide +kernel
theorem d2_241 : decode prog_2_method_3_code 241 = .ok (.iload 4, 2) := by decide +kernel
theorem d2_243 : decode prog_2_method_3_code 243 = .ok (.imul, 1) := by decide +kernel
theorem d2_244 : decode prog_2_method_3_code 244 = .ok (.newarray .int, 2) := by decide +kernel
theorem d2_246 : decode prog_2_method_3_code 246 = .ok (.putfield 82, 3) := by decide +kernel
theorem d2_249 : decode prog_2_method_3_code 249 = .ok (.aload_n 0, 1) := by decide +kernel
theorem d2_250 : decode prog_2_method_3_code 250 = .ok (.iload_n 3, 1) := by decide +kernel
theorem d2_251 : decode prog_2_method_3_code 251 = .ok (.iload 4, 2) := by decide +kernel
theorem d2_253 : decode prog_2_method_3_code 253 = .ok (.imul, 1) := by decide +kernel
theorem d2_254 : decode prog_2_method_3_code 254 = .ok (.newarray .long, 2) := by decide +kernel
theorem d2_256 : decode prog_2_method_3_code 256 = .ok (.putfield 85, 3) := by decide +kernel
theorem d2_259 : decode prog_2_method_3_code 259 = .ok (.iconst 0, 1) := by decide +kernel
theorem d2_260 : decode prog_2_method_3_code 260 = .ok (.istore 9, 2) := by decide +kernel
theorem d2_262 : decode prog_2_method_3_code 262 = .ok (.iconst 0, 1) := by decide +kernel
theorem d2_263 : decode prog_2_method_3_code 263 = .ok (.istore 10, 2) := by decide +kernel
theorem d2_265 : decode prog_2_method_3_code 265 = .ok (.iload 10, 2) := by decide +kernel
theorem d2_267 : decode prog_2_method_3_code 267 = .ok (.iload_n 3, 1) := by decide +kernel
theorem d2_268 : decode prog_2_method_3_code 268 = .ok (.if_icmp .ge 247, 3) := by decide +kernel
theorem d2_271 : decode prog_2_method_3_code 271 = .ok (.iload_n 1, 1) := by decide +kernel
theorem d2_272 : decode prog_2_method_3_code 272 = .ok (.iload_n 3, 1) := by decide +kernel
theorem d2_273 : decode prog_2_method_3_code 273 = .ok (.idiv, 1) := by decide +kernel
theorem d2_274 : decode prog_2_method_3_code 274 = .ok (.iload 10, 2) := by decide +kernel
theorem d2_276 : decode prog_2_method_3_code 276 = .ok (.iload_n 1, 1) := by decide +kernel
theorem d2_277 : decode prog_2_method_3_code 277 = .ok (.iload_n 3, 1) := by decide +kernel
theorem d2_278 : decode prog_2_method_3_code 278 = .ok (.irem, 1) := by decide +kernel
theorem d2_279 : decode prog_2_method_3_code 279 = .ok (.if_icmp .ge 7, 3) := by decide +kernel
theorem d2_282 : decode prog_2_method_3_code 282 = .ok (.iconst 1, 1) := by decide +kernel
theorem d2_283 : decode prog_2_method_3_code 283 = .ok (.goto 4, 3) := by decide +kernel
theorem d2_286 : decode prog_2_method_3_code 286 = .ok (.iconst 0, 1) := by decide +kernel
theorem d2_287 : decode prog_2_method_3_code 287 = .ok (.iadd, 1) := by decide +kernel
theorem d2_288 : decode prog_2_method_3_code 288 = .ok (.istore 11, 2) := by decide +kernel
theorem d2_290 : decode prog_2_method_3_code 290 = .ok (.iload 9, 2) := by decide +kernel
theorem d2_292 : decode prog_2_method_3_code 292 = .ok (.bipush 64, 2) := by decide +kernel
theorem d2_294 : decode prog_2_method_3_code 294 = .ok (.irem, 1) := by decide +kernel
theorem d2_295 : decode prog_2_method_3_code 295 = .ok (.istore 12, 2) := by decide +kernel
theorem d2_297 : decode prog_2_method_3_code 297 = .ok (.aload_n 0, 1) := by decide +kernel
theorem d2_298 : decode prog_2_method_3_code 298 = .ok (.getfield 62, 3) := by decide +kernel
theorem d2_301 : decode prog_2_method_3_code 301 = .ok (.iload 10, 2) := by decide +kernel
theorem d2_303 : decode prog_2_method_3_code 303 = .ok (.iload 11, 2) := by decide +kernel
theorem d2_305 : decode prog_2_method_3_code 305 = .ok (.iastore, 1) := by decide +kernel
theorem d2_306 : decode prog_2_method_3_code 306 = .ok (.aload_n 0, 1) := by decide +kernel
theorem d2_307 : decode prog_2_method_3_code 307 = .ok (.getfield 66, 3) := by decide +kernel
theorem d2_310 : decode prog_2_method_3_code 310 = .ok (.iload 10, 2) := by decide +kernel
theorem d2_312 : decode prog_2_method_3_code 312 = .ok (.iload 9, 2) := by decide +kernel
theorem d2_314 : decode prog_2_method_3_code 314 = .ok (.bipush 64, 2) := by decide +kernel
theorem d2_316 : decode prog_2_method_3_code 316 = .ok (.idiv, 1) := by decide +kernel
theorem d2_317 : decode prog_2_method_3_code 317 = .ok (.iastore, 1) := by decide +kernel
theorem d2_318 : decode prog_2_method_3_code 318 = .ok (.aload_n 0, 1) := by decide +kernel
theorem d2_319 : decode prog_2_method_3_code 319 = .ok (.getfield 69, 3) := by decide +kernel
theorem d2_322 : decode prog_2_method_3_code 322 = .ok (.iload 10, 2) := by decide +kernel
theorem d2_324 : decode prog_2_method_3_code 324 = .ok (.iload 12, 2) := by decide +kernel
theorem d2_326 : decode prog_2_method_3_code 326 = .ok (.iastore, 1) := by decide +kernel
theorem d2_327 : decode prog_2_method_3_code 327 = .ok (.aload_n 0, 1) := by decide +kernel
theorem d2_328 : decode prog_2_method_3_code 328 = .ok (.getfield 72, 3) := by decide +kernel
theorem d2_331 : decode prog_2_method_3_code 331 = .ok (.iload 10, 2) := by decide +kernel
theorem d2_333 : decode prog_2_method_3_code 333 = .ok (.iload 11, 2) := by decide +kernel
theorem d2_335 : decode prog_2_method_3_code 335 = .ok (.bipush 64, 2) := by decide +kernel
theorem d2_337 : decode prog_2_method_3_code 337 = .ok (.if_icmp .ne 9, 3) := by decide +kernel
theorem d2_340 : decode prog_2_method_3_code 340 = .ok (.ldc2_w 90, 3) := by decide +kernel
theorem d2_343 : decode prog_2_method_3_code 343 = .ok (.goto 9, 3) := by decide +kernel
theorem d2_346 : decode prog_2_method_3_code 346 = .ok (.lconst 1, 1) := by decide +kernel
theorem d2_347 : decode prog_2_method_3_code 347 = .ok (.iload 11, 2) := by decide +kernel
theorem d2_349 : decode prog_2_method_3_code 349 = .ok (.lshl, 1) := by decide +kernel
theorem d2_350 : decode prog_2_method_3_code 350 = .ok (.lconst 1, 1) := by decide +kernel
theorem d2_351 : decode prog_2_method_3_code 351 = .ok (.lsub, 1) := by decide +kernel
theorem d2_352 : decode prog_2_method_3_code 352 = .ok (.iload 12, 2) := by decide +kernel
theorem d2_354 : decode prog_2_method_3_code 354 = .ok (.lshl, 1) := by decide +kernel
theorem d2_355 : decode prog_2_method_3_code 355 = .ok (.lastore, 1) := by decide +kernel
theorem d2_356 : decode prog_2_method_3_code 356 = .ok (.iload 12, 2) := by decide +kernel
theorem d2_358 : decode prog_2_method_3_code 358 = .ok (.iload 11, 2) := by decide +kernel
theorem d2_360 : decode prog_2_method_3_code 360 = .ok (.iadd, 1) := by decide +kernel
theorem d2_361 : decode prog_2_method_3_code 361 = .ok (.bipush 64, 2) := by decide +kernel
theorem d2_363 : decode prog_2_method_3_code 363 = .ok (.isub, 1) := by decide +kernel
theorem d2_364 : decode prog_2_method_3_code 364 = .ok (.istore 13, 2) := by decide +kernel
theorem d2_366 : decode prog_2_method_3_code 366 = .ok (.aload_n 0, 1) := by decide +kernel
theorem d2_367 : decode prog_2_method_3_code 367 = .ok (.getfield 76, 3) := by decide +kernel
theorem d2_370 : decode prog_2_method_3_code 370 = .ok (.iload 10, 2) := by decide +kernel
theorem d2_372 : decode prog_2_method_3_code 372 = .ok (.iload 13, 2) := by decide +kernel
theorem d2_374 : decode prog_2_method_3_code 374 = .ok (.ifCond .le 12, 3) := by decide +kernel
theorem d2_377 : decode prog_2_method_3_code 377 = .ok (.lconst 1, 1) := by decide +kernel
theorem d2_378 : decode prog_2_method_3_code 378 = .ok (.iload 13, 2) := by decide +kernel
theorem d2_380 : decode prog_2_method_3_code 380 = .ok (.lshl, 1) := by decide +kernel
theorem d2_381 : decode prog_2_method_3_code 381 = .ok (.lconst 1, 1) := by decide +kernel
theorem d2_382 : decode prog_2_method_3_code 382 = .ok (.lsub, 1) := by decide +kernel
theorem d2_383 : decode prog_2_method_3_code 383 = .ok (.goto 4, 3) := by decide +kernel
theorem d2_386 : decode prog_2_method_3_code 386 = .ok (.lconst 0, 1) := by decide +kernel
theorem d2_387 : decode prog_2_method_3_code 387 = .ok (.lastore, 1) := by decide +kernel
theorem d2_388 : decode prog_2_method_3_code 388 = .ok (.iconst 0, 1) := by decide +kernel
theorem d2_389 : decode prog_2_method_3_code 389 = .ok (.istore 14, 2) := by decide +kernel
theorem d2_391 : decode prog_2_method_3_code 391 = .ok (.iconst 0, 1) := by decide +kernel
theorem d2_392 : decode prog_2_method_3_code 392 = .ok (.istore 15, 2) := by decide +kernel
theorem d2_394 : decode prog_2_method_3_code 394 = .ok (.iload 15, 2) := by decide +kernel
theorem d2_396 : decode prog_2_method_3_code 396 = .ok (.iload 4, 2) := by decide +kernel
theorem d2_398 : decode prog_2_method_3_code 398 = .ok (.if_icmp .ge 104, 3) := by decide +kernel
theorem d2_401 : decode prog_2_method_3_code 401 = .ok (.iload 11, 2) := by decide +kernel
theorem d2_403 : decode prog_2_method_3_code 403 = .ok (.iload 4, 2) := by decide +kernel
theorem d2_405 : decode prog_2_method_3_code 405 = .ok (.idiv, 1) := by decide +kernel
theorem d2_406 : decode prog_2_method_3_code 406 = .ok (.iload 15, 2) := by decide +kernel
theorem d2_408 : decode prog_2_method_3_code 408 = .ok (.iload 11, 2) := by decide +kernel
theorem d2_410 : decode prog_2_method_3_code 410 = .ok (.iload 4, 2) := by decide +kernel
theorem d2_412 : decode prog_2_method_3_code 412 = .ok (.irem, 1) := by decide +kernel
theorem d2_413 : decode prog_2_method_3_code 413 = .ok (.if_icmp .ge 7, 3) := by decide +kernel
theorem d2_416 : decode prog_2_method_3_code 416 = .ok (.iconst 1, 1) := by decide +kernel
theorem d2_417 : decode prog_2_method_3_code 417 = .ok (.goto 4, 3) := by decide +kernel
theorem d2_420 : decode prog_2_method_3_code 420 = .ok (.iconst 0, 1) := by decide +kernel
theorem d2_421 : decode prog_2_method_3_code 421 = .ok (.iadd, 1) := by decide +kernel
theorem d2_422 : decode prog_2_method_3_code 422 = .ok (.istore 16, 2) := by decide +kernel
theorem d2_424 : decode prog_2_method_3_code 424 = .ok (.aload_n 0, 1) := by decide +kernel
theorem d2_425 : decode prog_2_method_3_code 425 = .ok (.getfield 79, 3) := by decide +kernel
theorem d2_428 : decode prog_2_method_3_code 428 = .ok (.iload 10, 2) := by decide +kernel
theorem d2_430 : decode prog_2_method_3_code 430 = .ok (.iload 4, 2) := by decide +kernel
theorem d2_432 : decode prog_2_method_3_code 432 = .ok (.imul, 1) := by decide +kernel
theorem d2_433 : decode prog_2_method_3_code 433 = .ok (.iload 15, 2) := by decide +kernel
theorem d2_435 : decode prog_2_method_3_code 435 = .ok (.iadd, 1) := by decide +kernel
theorem d2_436 : decode prog_2_method_3_code 436 = .ok (.iload 14, 2) := by decide +kernel
theorem d2_438 : decode prog_2_method_3_code 438 = .ok (.iastore, 1) := by decide +kernel
theorem d2_439 : decode prog_2_method_3_code 439 = .ok (.aload_n 0, 1) := by decide +kernel
theorem d2_440 : decode prog_2_method_3_code 440 = .ok (.getfield 82, 3) := by decide +kernel
theorem d2_443 : decode prog_2_method_3_code 443 = .ok (.iload 10, 2) := by decide +kernel
theorem d2_445 : decode prog_2_method_3_code 445 = .ok (.iload 4, 2) := by decide +kernel
theorem d2_447 : decode prog_2_method_3_code 447 = .ok (.imul, 1) := by decide +kernel
theorem d2_448 : decode prog_2_method_3_code 448 = .ok (.iload 15, 2) := by decide +kernel
theorem d2_450 : decode prog_2_method_3_code 450 = .ok (.iadd, 1) := by decide +kernel
theorem d2_451 : decode prog_2_method_3_code 451 = .ok (.iload 16, 2) := by decide +kernel
theorem d2_453 : decode prog_2_method_3_code 453 = .ok (.iastore, 1) := by decide +kernel
theorem d2_454 : decode prog_2_method_3_code 454 = .ok (.aload_n 0, 1) := by decide +kernel
theorem d2_455 : decode prog_2_method_3_code 455 = .ok (.getfield 85, 3) := by decide +kernel
theorem d2_458 : decode prog_2_method_3_code 458 = .ok (.iload 10, 2) := by decide +kernel
theorem d2_460 : decode prog_2_method_3_code 460 = .ok (.iload 4, 2) := by decide +kernel
theorem d2_462 : decode prog_2_method_3_code 462 = .ok (.imul, 1) := by decide +kernel
theorem d2_463 : decode prog_2_method_3_code 463 = .ok (.iload 15, 2) := by decide +kernel
theorem d2_465 : decode prog_2_method_3_code 465 = .ok (.iadd, 1) := by decide +kernel
theorem d2_466 : decode prog_2_method_3_code 466 = .ok (.iload 16, 2) := by decide +kernel
theorem d2_468 : decode prog_2_method_3_code 468 = .ok (.bipush 64, 2) := by decide +kernel
theorem d2_470 : decode prog_2_method_3_code 470 = .ok (.if_icmp .ne 9, 3) := by decide +kernel
theorem d2_473 : decode prog_2_method_3_code 473 = .ok (.ldc2_w 90, 3) := by decide +kernel
theorem d2_476 : decode prog_2_method_3_code 476 = .ok (.goto 9, 3) := by decide +kernel
theorem d2_479 : decode prog_2_method_3_code 479 = .ok (.lconst 1, 1) := by decide +kernel
theorem d2_480 : decode prog_2_method_3_code 480 = .ok (.iload 16, 2) := by decide +kernel
theorem d2_482 : decode prog_2_method_3_code 482 = .ok (.lshl, 1) := by decide +kernel
theorem d2_483 : decode prog_2_method_3_code 483 = .ok (.lconst 1, 1) := by decide +kernel
theorem d2_484 : decode prog_2_method_3_code 484 = .ok (.lsub, 1) := by decide +kernel
theorem d2_485 : decode prog_2_method_3_code 485 = .ok (.iload 14, 2) := by decide +kernel
theorem d2_487 : decode prog_2_method_3_code 487 = .ok (.lshl, 1) := by decide +kernel
theorem d2_488 : decode prog_2_method_3_code 488 = .ok (.lastore, 1) := by decide +kernel
theorem d2_489 : decode prog_2_method_3_code 489 = .ok (.iload 14, 2) := by decide +kernel
theorem d2_491 : decode prog_2_method_3_code 491 = .ok (.iload 16, 2) := by decide +kernel
theorem d2_493 : decode prog_2_method_3_code 493 = .ok (.iadd, 1) := by decide +kernel
theorem d2_494 : decode prog_2_method_3_code 494 = .ok (.istore 14, 2) := by decide +kernel
theorem d2_496 : decode prog_2_method_3_code 496 = .ok (.iinc 15 1, 3) := by decide +kernel
theorem d2_499 : decode prog_2_method_3_code 499 = .ok (.goto (-105), 3) := by decide +kernel
theorem d2_502 : decode prog_2_method_3_code 502 = .ok (.iload 9, 2) := by decide +kernel
theorem d2_504 : decode prog_2_method_3_code 504 = .ok (.iload 11, 2) := by decide +kernel
theorem d2_506 : decode prog_2_method_3_code 506 = .ok (.iadd, 1) := by decide +kernel
theorem d2_507 : decode prog_2_method_3_code 507 = .ok (.istore 9, 2) := by decide +kernel
theorem d2_509 : decode prog_2_method_3_code 509 = .ok (.iinc 10 1, 3) := by decide +kernel
theorem d2_512 : decode prog_2_method_3_code 512 = .ok (.goto (-247), 3) := by decide +kernel
theorem d2_515 : decode prog_2_method_3_code 515 = .ok (.aload_n 0, 1) := by decide +kernel
theorem d2_516 : decode prog_2_method_3_code 516 = .ok (.lload 7, 2) := by decide +kernel
theorem d2_518 : decode prog_2_method_3_code 518 = .ok (.iload_n 3, 1) := by decide +kernel
theorem d2_519 : decode prog_2_method_3_code 519 = .ok (.i2l, 1) := by decide +kernel
theorem d2_520 : decode prog_2_method_3_code 520 = .ok (.ldiv, 1) := by decide +kernel
theorem d2_521 : decode prog_2_method_3_code 521 = .ok (.l2i, 1) := by decide +kernel
theorem d2_522 : decode prog_2_method_3_code 522 = .ok (.newarray .long, 2) := by decide +kernel
theorem d2_524 : decode prog_2_method_3_code 524 = .ok (.putfield 92, 3) := by decide +kernel
theorem d2_527 : decode prog_2_method_3_code 527 = .ok (.iload 5, 2) := by decide +kernel
theorem d2_529 : decode prog_2_method_3_code 529 = .ok (.bipush 64, 2) := by decide +kernel
theorem d2_531 : decode prog_2_method_3_code 531 = .ok (.if_icmp .ne 7, 3) := by decide +kernel
theorem d2_534 : decode prog_2_method_3_code 534 = .ok (.lconst 0, 1) := by decide +kernel
theorem d2_535 : decode prog_2_method_3_code 535 = .ok (.goto 7, 3) := by decide +kernel
theorem d2_538 : decode prog_2_method_3_code 538 = .ok (.lconst 1, 1) := by decide +kernel
theorem d2_539 : decode prog_2_method_3_code 539 = .ok (.iload 5, 2) := by decide +kernel
theorem d2_541 : decode prog_2_method_3_code 541 = .ok (.lshl, 1) := by decide +kernel
theorem d2_542 : decode prog_2_method_3_code 542 = .ok (.lconst 1, 1) := by decide +kernel
theorem d2_543 : decode prog_2_method_3_code 543 = .ok (.lsub, 1) := by decide +kernel
theorem d2_544 : decode prog_2_method_3_code 544 = .ok (.lstore 10, 2) := by decide +kernel
theorem d2_546 : decode prog_2_method_3_code 546 = .ok (.iconst 0, 1) := by decide +kernel
theorem d2_547 : decode prog_2_method_3_code 547 = .ok (.istore 12, 2) := by decide +kernel
theorem d2_549 : decode prog_2_method_3_code 549 = .ok (.iload 12, 2) := by decide +kernel
theorem d2_551 : decode prog_2_method_3_code 551 = .ok (.aload_n 0, 1) := by decide +kernel
theorem d2_552 : decode prog_2_method_3_code 552 = .ok (.getfield 92, 3) := by decide +kernel
theorem d2_555 : decode prog_2_method_3_code 555 = .ok (.arraylength, 1) := by decide +kernel
theorem d2_556 : decode prog_2_method_3_code 556 = .ok (.if_icmp .ge 48, 3) := by decide +kernel
theorem d2_559 : decode prog_2_method_3_code 559 = .ok (.aload_n 0, 1) := by decide +kernel
theorem d2_560 : decode prog_2_method_3_code 560 = .ok (.getfield 92, 3) := by decide +kernel
theorem d2_563 : decode prog_2_method_3_code 563 = .ok (.iload 12, 2) := by decide +kernel
theorem d2_565 : decode prog_2_method_3_code 565 = .ok (.lload 10, 2) := by decide +kernel
theorem d2_567 : decode prog_2_method_3_code 567 = .ok (.lastore, 1) := by decide +kernel
theorem d2_568 : decode prog_2_method_3_code 568 = .ok (.lload 10, 2) := by decide +kernel
theorem d2_570 : decode prog_2_method_3_code 570 = .ok (.lload 10, 2) := by decide +kernel
theorem d2_572 : decode prog_2_method_3_code 572 = .ok (.lneg, 1) := by decide +kernel
theorem d2_573 : decode prog_2_method_3_code 573 = .ok (.land, 1) := by decide +kernel
theorem d2_574 : decode prog_2_method_3_code 574 = .ok (.lstore 13, 2) := by decide +kernel
theorem d2_576 : decode prog_2_method_3_code 576 = .ok (.lload 10, 2) := by decide +kernel
theorem d2_578 : decode prog_2_method_3_code 578 = .ok (.lload 13, 2) := by decide +kernel
theorem d2_580 : decode prog_2_method_3_code 580 = .ok (.ladd, 1) := by decide +kernel
theorem d2_581 : decode prog_2_method_3_code 581 = .ok (.lstore 15, 2) := by decide +kernel
theorem d2_583 : decode prog_2_method_3_code 583 = .ok (.lload 15, 2) := by decide +kernel
theorem d2_585 : decode prog_2_method_3_code 585 = .ok (.lload 10, 2) := by decide +kernel
theorem d2_587 : decode prog_2_method_3_code 587 = .ok (.lload 15, 2) := by decide +kernel
theorem d2_589 : decode prog_2_method_3_code 589 = .ok (.lxor, 1) := by decide +kernel
theorem d2_590 : decode prog_2_method_3_code 590 = .ok (.iconst 2, 1) := by decide +kernel
theorem d2_591 : decode prog_2_method_3_code 591 = .ok (.lushr, 1) := by decide +kernel
theorem d2_592 : decode prog_2_method_3_code 592 = .ok (.lload 13, 2) := by decide +kernel
theorem d2_594 : decode prog_2_method_3_code 594 = .ok (.ldiv, 1) := by decide +kernel
theorem d2_595 : decode prog_2_method_3_code 595 = .ok (.lor, 1) := by decide +kernel
theorem d2_596 : decode prog_2_method_3_code 596 = .ok (.lstore 10, 2) := by decide +kernel
theorem d2_598 : decode prog_2_method_3_code 598 = .ok (.iinc 12 1, 3) := by decide +kernel
theorem d2_601 : decode prog_2_method_3_code 601 = .ok (.goto (-52), 3) := by decide +kernel
theorem d2_604 : decode prog_2_method_3_code 604 = .ok (.aload_n 0, 1) := by decide +kernel
theorem d2_605 : decode prog_2_method_3_code 605 = .ok (.lload 7, 2) := by decide +kernel
theorem d2_607 : decode prog_2_method_3_code 607 = .ok (.l2i, 1) := by decide +kernel
theorem d2_608 : decode prog_2_method_3_code 608 = .ok (.newarray .int, 2) := by decide +kernel
theorem d2_610 : decode prog_2_method_3_code 610 = .ok (.putfield 95, 3) := by decide +kernel
theorem d2_613 : decode prog_2_method_3_code 613 = .ok (.aload_n 0, 1) := by decide +kernel
theorem d2_614 : decode prog_2_method_3_code 614 = .ok (.lload 7, 2) := by decide +kernel
theorem d2_616 : decode prog_2_method_3_code 616 = .ok (.l2i, 1) := by decide +kernel
theorem d2_617 : decode prog_2_method_3_code 617 = .ok (.newarray .int, 2) := by decide +kernel
theorem d2_619 : decode prog_2_method_3_code 619 = .ok (.putfield 98, 3) := by decide +kernel
theorem d2_622 : decode prog_2_method_3_code 622 = .ok (.iconst 0, 1) := by decide +kernel
theorem d2_623 : decode prog_2_method_3_code 623 = .ok (.istore 12, 2) := by decide +kernel
theorem d2_625 : decode prog_2_method_3_code 625 = .ok (.iload 12, 2) := by decide +kernel
theorem d2_627 : decode prog_2_method_3_code 627 = .ok (.i2l, 1) := by decide +kernel
theorem d2_628 : decode prog_2_method_3_code 628 = .ok (.lload 7, 2) := by decide +kernel
theorem d2_630 : decode prog_2_method_3_code 630 = .ok (.lcmp, 1) := by decide +kernel
theorem d2_631 : decode prog_2_method_3_code 631 = .ok (.ifCond .ge 70, 3) := by decide +kernel
theorem d2_634 : decode prog_2_method_3_code 634 = .ok (.iload 12, 2) := by decide +kernel
theorem d2_636 : decode prog_2_method_3_code 636 = .ok (.aload_n 0, 1) := by decide +kernel
theorem d2_637 : decode prog_2_method_3_code 637 = .ok (.getfield 92, 3) := by decide +kernel
theorem d2_640 : decode prog_2_method_3_code 640 = .ok (.arraylength, 1) := by decide +kernel
theorem d2_641 : decode prog_2_method_3_code 641 = .ok (.idiv, 1) := by decide +kernel
theorem d2_642 : decode prog_2_method_3_code 642 = .ok (.istore 13, 2) := by decide +kernel
theorem d2_644 : decode prog_2_method_3_code 644 = .ok (.aload_n 0, 1) := by decide +kernel
theorem d2_645 : decode prog_2_method_3_code 645 = .ok (.getfield 92, 3) := by decide +kernel
theorem d2_648 : decode prog_2_method_3_code 648 = .ok (.iload 12, 2) := by decide +kernel
theorem d2_650 : decode prog_2_method_3_code 650 = .ok (.aload_n 0, 1) := by decide +kernel
theorem d2_651 : decode prog_2_method_3_code 651 = .ok (.getfield 92, 3) := by decide +kernel
theorem d2_654 : decode prog_2_method_3_code 654 = .ok (.arraylength, 1) := by decide +kernel
theorem d2_655 : decode prog_2_method_3_code 655 = .ok (.irem, 1) := by decide +kernel
theorem d2_656 : decode prog_2_method_3_code 656 = .ok (.laload, 1) := by decide +kernel
theorem d2_657 : decode prog_2_method_3_code 657 = .ok (.invokestatic 101, 3) := by decide +kernel
theorem d2_660 : decode prog_2_method_3_code 660 = .ok (.istore 14, 2) := by decide +kernel
theorem d2_662 : decode prog_2_method_3_code 662 = .ok (.aload_n 0, 1) := by decide +kernel
theorem d2_663 : decode prog_2_method_3_code 663 = .ok (.getfield 95, 3) := by decide +kernel
theorem d2_666 : decode prog_2_method_3_code 666 = .ok (.iload 12, 2) := by decide +kernel
theorem d2_668 : decode prog_2_method_3_code 668 = .ok (.iload 13, 2) := by decide +kernel
theorem d2_670 : decode prog_2_method_3_code 670 = .ok (.iastore, 1) := by decide +kernel
theorem d2_671 : decode prog_2_method_3_code 671 = .ok (.aload_n 0, 1) := by decide +kernel
theorem d2_672 : decode prog_2_method_3_code 672 = .ok (.getfield 98, 3) := by decide +kernel
theorem d2_675 : decode prog_2_method_3_code 675 = .ok (.iload 12, 2) := by decide +kernel
theorem d2_677 : decode prog_2_method_3_code 677 = .ok (.aload_n 0, 1) := by decide +kernel
theorem d2_678 : decode prog_2_method_3_code 678 = .ok (.iload 13, 2) := by decide +kernel
theorem d2_680 : decode prog_2_method_3_code 680 = .ok (.iload 14, 2) := by decide +kernel
theorem d2_682 : decode prog_2_method_3_code 682 = .ok (.invokevirtual 105, 3) := by decide +kernel
theorem d2_685 : decode prog_2_method_3_code 685 = .ok (.aload_n 0, 1) := by decide +kernel
theorem d2_686 : decode prog_2_method_3_code 686 = .ok (.iload 13, 2) := by decide +kernel
theorem d2_688 : decode prog_2_method_3_code 688 = .ok (.iload 14, 2) := by decide +kernel
theorem d2_690 : decode prog_2_method_3_code 690 = .ok (.invokevirtual 108, 3) := by decide +kernel
theorem d2_693 : decode prog_2_method_3_code 693 = .ok (.iadd, 1) := by decide +kernel
theorem d2_694 : decode prog_2_method_3_code 694 = .ok (.iastore, 1) := by decide +kernel
theorem d2_695 : decode prog_2_method_3_code 695 = .ok (.iinc 12 1, 3) := by decide +kernel
theorem d2_698 : decode prog_2_method_3_code 698 = .ok (.goto (-73), 3) := by decide +kernel
theorem d2_701 : decode prog_2_method_3_code 701 = .ok (.return_, 1) := by decide +kernel
theorem own_gb (g P b : Nat) (hg : g < 10000) (hP : P ≤ 4 ∧ b ≤ 4) : ((Int32.ofNat g * Int32.ofNat P) + Int32.ofNat b).toInt = (g * P + b : Nat) := by
  have a := c_imul (Int32.ofNat g) (Int32.ofNat P)
  have r := rng32 (Int32.ofNat g * Int32.ofNat P)
  have c := c_iadd (Int32.ofNat g * Int32.ofNat P) (Int32.ofNat b)
  have d := rng32 (Int32.ofNat g * Int32.ofNat P + Int32.ofNat b)
  rw [own_on g (by omega), own_on P (by omega)] at a
  rw [own_on b (by omega)] at c
  have p : (g : Int) * (P : Int) ≤ 10000 * 4 := Int.mul_le_mul (by omega) (by omega) (by omega) (by omega)
  have p2 : (0 : Int) ≤ (g : Int) * (P : Int) := Int.mul_nonneg (by omega) (by omega)
  rw [Int.natCast_add, Int.natCast_mul]
  omega
def q2_4s_1 (xW xG xK rd : Int32) (tb : Int64) (g : Nat) (g1 g6 g7 : Nat → Int32) : Int32 := (if (Int32.ofNat g) < (xW % xG) then (1 : Int32) else 0)
def q2_4s_2 (xW xG xK rd : Int32) (tb : Int64) (g : Nat) (g1 g6 g7 : Nat → Int32) : Int32 := ((xW / xG) + (q2_4s_1 xW xG xK rd tb g g1 g6 g7))
def q2_4s_3 (xW xG xK rd : Int32) (tb : Int64) (g : Nat) (g1 g6 g7 : Nat → Int32) : Int32 := ((own_start xW xG g) % (64 : Int32))
def w2_4s_4 (xW xG xK rd : Int32) (tb : Int64) (g : Nat) (g1 g6 g7 : Nat → Int32) : Nat → Int32 := fun j => if j = g then (own_bits xW xG g) else g1 j
def w2_4s_5 (xW xG xK rd : Int32) (tb : Int64) (g : Nat) (g1 g6 g7 : Nat → Int32) : Nat → Int32 := fun j => if j = g then ((own_start xW xG g) / (64 : Int32)) else (UpI g (fun j => own_start xW xG j / 64)) j
def w2_4s_6 (xW xG xK rd : Int32) (tb : Int64) (g : Nat) (g1 g6 g7 : Nat → Int32) : Nat → Int32 := fun j => if j = g then (own_sh xW xG g) else (UpI g (own_sh xW xG)) j
def q2_4s_7 (xW xG xK rd : Int32) (tb : Int64) (g : Nat) (g1 g6 g7 : Nat → Int32) : Int64 := (if (own_bits xW xG g) = (64 : Int32) then (-1 : Int64) else (((1 : Int64) <<< ((own_bits xW xG g).toInt64 &&& 63)) - (1 : Int64)))
def q2_4s_8 (xW xG xK rd : Int32) (tb : Int64) (g : Nat) (g1 g6 g7 : Nat → Int32) : Int64 := ((q2_4s_7 xW xG xK rd tb g g1 g6 g7) <<< ((own_sh xW xG g).toInt64 &&& 63))
def w2_4s_9 (xW xG xK rd : Int32) (tb : Int64) (g : Nat) (g1 g6 g7 : Nat → Int32) : Nat → Int64 := fun j => if j = g then (q2_4s_8 xW xG xK rd tb g g1 g6 g7) else (UpJ g (fun j => own_low (own_bits xW xG j) (own_sh xW xG j))) j
def q2_4s_10 (xW xG xK rd : Int32) (tb : Int64) (g : Nat) (g1 g6 g7 : Nat → Int32) : Int32 := (((own_sh xW xG g) + (own_bits xW xG g)) - (64 : Int32))
def q2_4s_11 (xW xG xK rd : Int32) (tb : Int64) (g : Nat) (g1 g6 g7 : Nat → Int32) : Int64 := (if 0 < (own_hb xW xG g) then (((1 : Int64) <<< ((own_hb xW xG g).toInt64 &&& 63)) - (1 : Int64)) else (0 : Int64))
def w2_4s_12 (xW xG xK rd : Int32) (tb : Int64) (g : Nat) (g1 g6 g7 : Nat → Int32) : Nat → Int64 := fun j => if j = g then (q2_4s_11 xW xG xK rd tb g g1 g6 g7) else (UpJ g (own_hi xW xG)) j
def q2_4s_13 (xW xG xK rd : Int32) (tb : Int64) (g : Nat) (g1 g6 g7 : Nat → Int32) : Int32 := (if (0 : Int32) < ((own_bits xW xG g) % (4 : Int32)) then (1 : Int32) else 0)
def q2_4s_14 (xW xG xK rd : Int32) (tb : Int64) (g : Nat) (g1 g6 g7 : Nat → Int32) : Int32 := (((own_bits xW xG g) / (4 : Int32)) + (q2_4s_13 xW xG xK rd tb g g1 g6 g7))
def w2_4s_15 (xW xG xK rd : Int32) (tb : Int64) (g : Nat) (g1 g6 g7 : Nat → Int32) : Nat → Int32 := fun j => if j = (g * 4 + 0) then (0 : Int32) else g6 j
def w2_4s_16 (xW xG xK rd : Int32) (tb : Int64) (g : Nat) (g1 g6 g7 : Nat → Int32) : Nat → Int32 := fun j => if j = (g * 4 + 0) then (own_bw xW xG 4 g 0) else g7 j
def q2_4s_17 (xW xG xK rd : Int32) (tb : Int64) (g : Nat) (g1 g6 g7 : Nat → Int32) : Int64 := (if (own_bw xW xG 4 g 0) = (64 : Int32) then (-1 : Int64) else (((1 : Int64) <<< ((own_bw xW xG 4 g 0).toInt64 &&& 63)) - (1 : Int64)))
def q2_4s_18 (xW xG xK rd : Int32) (tb : Int64) (g : Nat) (g1 g6 g7 : Nat → Int32) : Int64 := ((q2_4s_17 xW xG xK rd tb g g1 g6 g7) <<< ((0 : Int32).toInt64 &&& 63))
def w2_4s_19 (xW xG xK rd : Int32) (tb : Int64) (g : Nat) (g1 g6 g7 : Nat → Int32) : Nat → Int64 := fun j => if j = (g * 4 + 0) then (q2_4s_18 xW xG xK rd tb g g1 g6 g7) else (UpJ (g * 4) (own_bmf xW xG 4 4)) j
def q2_4s_20 (xW xG xK rd : Int32) (tb : Int64) (g : Nat) (g1 g6 g7 : Nat → Int32) : Int32 := ((0 : Int32) + (own_bw xW xG 4 g 0))
def q2_4s_21 (xW xG xK rd : Int32) (tb : Int64) (g : Nat) (g1 g6 g7 : Nat → Int32) : Int32 := (if (1 : Int32) < ((own_bits xW xG g) % (4 : Int32)) then (1 : Int32) else 0)
def q2_4s_22 (xW xG xK rd : Int32) (tb : Int64) (g : Nat) (g1 g6 g7 : Nat → Int32) : Int32 := (((own_bits xW xG g) / (4 : Int32)) + (q2_4s_21 xW xG xK rd tb g g1 g6 g7))
def w2_4s_23 (xW xG xK rd : Int32) (tb : Int64) (g : Nat) (g1 g6 g7 : Nat → Int32) : Nat → Int32 := fun j => if j = (g * 4 + 1) then (own_off xW xG 4 g 1) else (w2_4s_15 xW xG xK rd tb g g1 g6 g7) j
def w2_4s_24 (xW xG xK rd : Int32) (tb : Int64) (g : Nat) (g1 g6 g7 : Nat → Int32) : Nat → Int32 := fun j => if j = (g * 4 + 1) then (own_bw xW xG 4 g 1) else (w2_4s_16 xW xG xK rd tb g g1 g6 g7) j
def q2_4s_25 (xW xG xK rd : Int32) (tb : Int64) (g : Nat) (g1 g6 g7 : Nat → Int32) : Int64 := (if (own_bw xW xG 4 g 1) = (64 : Int32) then (-1 : Int64) else (((1 : Int64) <<< ((own_bw xW xG 4 g 1).toInt64 &&& 63)) - (1 : Int64)))
def q2_4s_26 (xW xG xK rd : Int32) (tb : Int64) (g : Nat) (g1 g6 g7 : Nat → Int32) : Int64 := ((q2_4s_25 xW xG xK rd tb g g1 g6 g7) <<< ((own_off xW xG 4 g 1).toInt64 &&& 63))
def w2_4s_27 (xW xG xK rd : Int32) (tb : Int64) (g : Nat) (g1 g6 g7 : Nat → Int32) : Nat → Int64 := fun j => if j = (g * 4 + 1) then (q2_4s_26 xW xG xK rd tb g g1 g6 g7) else (w2_4s_19 xW xG xK rd tb g g1 g6 g7) j
def q2_4s_28 (xW xG xK rd : Int32) (tb : Int64) (g : Nat) (g1 g6 g7 : Nat → Int32) : Int32 := ((own_off xW xG 4 g 1) + (own_bw xW xG 4 g 1))
def q2_4s_29 (xW xG xK rd : Int32) (tb : Int64) (g : Nat) (g1 g6 g7 : Nat → Int32) : Int32 := (if (2 : Int32) < ((own_bits xW xG g) % (4 : Int32)) then (1 : Int32) else 0)
def q2_4s_30 (xW xG xK rd : Int32) (tb : Int64) (g : Nat) (g1 g6 g7 : Nat → Int32) : Int32 := (((own_bits xW xG g) / (4 : Int32)) + (q2_4s_29 xW xG xK rd tb g g1 g6 g7))
def w2_4s_31 (xW xG xK rd : Int32) (tb : Int64) (g : Nat) (g1 g6 g7 : Nat → Int32) : Nat → Int32 := fun j => if j = (g * 4 + 2) then (own_off xW xG 4 g 2) else (w2_4s_23 xW xG xK rd tb g g1 g6 g7) j
def w2_4s_32 (xW xG xK rd : Int32) (tb : Int64) (g : Nat) (g1 g6 g7 : Nat → Int32) : Nat → Int32 := fun j => if j = (g * 4 + 2) then (own_bw xW xG 4 g 2) else (w2_4s_24 xW xG xK rd tb g g1 g6 g7) j
def q2_4s_33 (xW xG xK rd : Int32) (tb : Int64) (g : Nat) (g1 g6 g7 : Nat → Int32) : Int64 := (if (own_bw xW xG 4 g 2) = (64 : Int32) then (-1 : Int64) else (((1 : Int64) <<< ((own_bw xW xG 4 g 2).toInt64 &&& 63)) - (1 : Int64)))
def q2_4s_34 (xW xG xK rd : Int32) (tb : Int64) (g : Nat) (g1 g6 g7 : Nat → Int32) : Int64 := ((q2_4s_33 xW xG xK rd tb g g1 g6 g7) <<< ((own_off xW xG 4 g 2).toInt64 &&& 63))
def w2_4s_35 (xW xG xK rd : Int32) (tb : Int64) (g : Nat) (g1 g6 g7 : Nat → Int32) : Nat → Int64 := fun j => if j = (g * 4 + 2) then (q2_4s_34 xW xG xK rd tb g g1 g6 g7) else (w2_4s_27 xW xG xK rd tb g g1 g6 g7) j
def q2_4s_36 (xW xG xK rd : Int32) (tb : Int64) (g : Nat) (g1 g6 g7 : Nat → Int32) : Int32 := ((own_off xW xG 4 g 2) + (own_bw xW xG 4 g 2))
def q2_4s_37 (xW xG xK rd : Int32) (tb : Int64) (g : Nat) (g1 g6 g7 : Nat → Int32) : Int32 := (if (3 : Int32) < ((own_bits xW xG g) % (4 : Int32)) then (1 : Int32) else 0)
def q2_4s_38 (xW xG xK rd : Int32) (tb : Int64) (g : Nat) (g1 g6 g7 : Nat → Int32) : Int32 := (((own_bits xW xG g) / (4 : Int32)) + (q2_4s_37 xW xG xK rd tb g g1 g6 g7))
def w2_4s_39 (xW xG xK rd : Int32) (tb : Int64) (g : Nat) (g1 g6 g7 : Nat → Int32) : Nat → Int32 := fun j => if j = (g * 4 + 3) then (own_off xW xG 4 g 3) else (w2_4s_31 xW xG xK rd tb g g1 g6 g7) j
def w2_4s_40 (xW xG xK rd : Int32) (tb : Int64) (g : Nat) (g1 g6 g7 : Nat → Int32) : Nat → Int32 := fun j => if j = (g * 4 + 3) then (own_bw xW xG 4 g 3) else (w2_4s_32 xW xG xK rd tb g g1 g6 g7) j
def q2_4s_41 (xW xG xK rd : Int32) (tb : Int64) (g : Nat) (g1 g6 g7 : Nat → Int32) : Int64 := (if (own_bw xW xG 4 g 3) = (64 : Int32) then (-1 : Int64) else (((1 : Int64) <<< ((own_bw xW xG 4 g 3).toInt64 &&& 63)) - (1 : Int64)))
def q2_4s_42 (xW xG xK rd : Int32) (tb : Int64) (g : Nat) (g1 g6 g7 : Nat → Int32) : Int64 := ((q2_4s_41 xW xG xK rd tb g g1 g6 g7) <<< ((own_off xW xG 4 g 3).toInt64 &&& 63))
def w2_4s_43 (xW xG xK rd : Int32) (tb : Int64) (g : Nat) (g1 g6 g7 : Nat → Int32) : Nat → Int64 := fun j => if j = (g * 4 + 3) then (q2_4s_42 xW xG xK rd tb g g1 g6 g7) else (w2_4s_35 xW xG xK rd tb g g1 g6 g7) j
def q2_4s_44 (xW xG xK rd : Int32) (tb : Int64) (g : Nat) (g1 g6 g7 : Nat → Int32) : Int32 := ((own_off xW xG 4 g 3) + (own_bw xW xG 4 g 3))
theorem own_ub4 (xW xG : Int32) {xK rd : Int32} {tb : Int64} {g1 g6 g7 : Nat → Int32} (g j : Nat) : UpJ ((g + 1) * 4) (own_bmf xW xG 4 4) j = w2_4s_43 xW xG xK rd tb g g1 g6 g7 j := by
  show _ = (if j = g * 4 + 3 then own_bm xW xG 4 g 3 else (if j = g * 4 + 2 then own_bm xW xG 4 g 2 else (if j = g * 4 + 1 then own_bm xW xG 4 g 1 else (if j = g * 4 + 0 then own_bm xW xG 4 g 0 else UpJ (g * 4) (own_bmf xW xG 4 4) j))))
  unfold UpJ
  by_cases q3 : j = g * 4 + 3
  · rw [if_pos q3, if_pos (by omega), q3, own_bmq xW xG 4 4 g 3 (by decide)]
  · rw [if_neg q3]
    by_cases q2 : j = g * 4 + 2
    · rw [if_pos q2, if_pos (by omega), q2, own_bmq xW xG 4 4 g 2 (by decide)]
    · rw [if_neg q2]
      by_cases q1 : j = g * 4 + 1
      · rw [if_pos q1, if_pos (by omega), q1, own_bmq xW xG 4 4 g 1 (by decide)]
      · rw [if_neg q1]
        by_cases q0 : j = g * 4 + 0
        · rw [if_pos q0, if_pos (by omega), q0, own_bmq xW xG 4 4 g 0 (by decide)]
        · rw [if_neg q0]
          by_cases q : j < g * 4
          · rw [if_pos q, if_pos (by omega)]
          · rw [if_neg q, if_neg (by omega)]
set_option maxRecDepth 65536 in
set_option maxHeartbeats 400000000 in
theorem lpO_4 {p : Program} {l : Launch} {e : Env} {R : Room} {s : State} {m : MethodId} {args : Array Value} {below : List Frame} {meth : Method} {c : Code} {Z : State} {cells slots n0 : Nat} {P : Outcome → State → Prop} (a0 : Array Value) (hw : ∀ d ∈ tables_1, d.before a0 Z = true) (xW xG xK rd : Int32) (tb : Int64) (a gw fw sh lm hm bo bw bm : Nat) (o1 : (a : Nat) < (gw : Nat)) (o2 : (gw : Nat) < (fw : Nat)) (o3 : (fw : Nat) < (sh : Nat)) (o4 : (sh : Nat) < (lm : Nat)) (o5 : (lm : Nat) < (hm : Nat)) (o6 : (hm : Nat) < (bo : Nat)) (o7 : (bo : Nat) < (bw : Nat)) (o8 : (bw : Nat) < (bm : Nat)) (ga : n0 ≤ a) (hp : Hp 4 xW xG) (hl : xG.toInt.toNat ≤ 2000 ∧ xG.toInt = (xG.toInt.toNat : Nat)) : ∀ (k : Nat) (g : Nat) (T : State) (h : Heap) (locs : List Loc) (u11 u12 u13 u14 u15 u16 : Slot) (g1 g6 g7 : Nat → Int32),
    g + k = xG.toInt.toNat → One u11 → One u12 → One u13 → One u14 → One u15 → One u16 → Bx "com/example/hyperplane/hyperplane/Blocks" prog_2_method_3_code 17 Z p l e R s m args below meth c T h locs cells slots → Fr n0 locs → n0 ≤ h.size → Exa Z h a "com/example/hyperplane/hyperplane/Blocks" → Fld Z h a "com/example/hyperplane/hyperplane/Blocks" "groupWidths" "[I" (.ref gw) → Fld Z h a "com/example/hyperplane/hyperplane/Blocks" "firstWords" "[I" (.ref fw) → Fld Z h a "com/example/hyperplane/hyperplane/Blocks" "shifts" "[I" (.ref sh) → Fld Z h a "com/example/hyperplane/hyperplane/Blocks" "lowMasks" "[J" (.ref lm) → Fld Z h a "com/example/hyperplane/hyperplane/Blocks" "highMasks" "[J" (.ref hm) → Fld Z h a "com/example/hyperplane/hyperplane/Blocks" "blockOffsets" "[I" (.ref bo) → Fld Z h a "com/example/hyperplane/hyperplane/Blocks" "blockWidths" "[I" (.ref bw) → Fld Z h a "com/example/hyperplane/hyperplane/Blocks" "blockMasks" "[J" (.ref bm) → AI Z h gw .int xG.toInt.toNat g1 → AI Z h fw .int xG.toInt.toNat (UpI g (fun j => own_start xW xG j / 64)) → AI Z h sh .int xG.toInt.toNat (UpI g (own_sh xW xG)) → AJ Z h lm xG.toInt.toNat (UpJ g (fun j => own_low (own_bits xW xG j) (own_sh xW xG j))) → AJ Z h hm xG.toInt.toNat (UpJ g (own_hi xW xG)) → AI Z h bo .int (xG.toInt.toNat * 4) g6 → AI Z h bw .int (xG.toInt.toNat * 4) g7 → AJ Z h bm (xG.toInt.toNat * 4) (UpJ (g * 4) (own_bmf xW xG 4 4)) →
    (∀ (T' : State) (h' : Heap) (locs' : List Loc) (s' i' : Int32) (u11' u12' u13' u14' u15' u16' : Slot), One u11' → One u12' → One u13' → One u14' → One u15' → One u16' → ∀ (g1 g6 g7 : Nat → Int32), Bx "com/example/hyperplane/hyperplane/Blocks" prog_2_method_3_code 17 Z p l e R s m args below meth c T' h' locs' cells slots → Fr n0 locs' → Keep h h' [gw, fw, sh, lm, hm, bo, bw, bm] → AI Z h' gw .int xG.toInt.toNat g1 → AI Z h' fw .int xG.toInt.toNat (UpI xG.toInt.toNat (fun j => own_start xW xG j / 64)) → AI Z h' sh .int xG.toInt.toNat (UpI xG.toInt.toNat (own_sh xW xG)) → AJ Z h' lm xG.toInt.toNat (UpJ xG.toInt.toNat (fun j => own_low (own_bits xW xG j) (own_sh xW xG j))) → AJ Z h' hm xG.toInt.toNat (UpJ xG.toInt.toNat (own_hi xW xG)) → AI Z h' bo .int (xG.toInt.toNat * 4) g6 → AI Z h' bw .int (xG.toInt.toNat * 4) g7 → AJ Z h' bm (xG.toInt.toNat * 4) (UpJ (xG.toInt.toNat * 4) (own_bmf xW xG 4 4)) → OG p.tables e below P (T'.setTop (mkF m 515 #[vr a, vi xW, vi 0, vi xG, vi 4, vi xK, vi rd, vj tb, s2, vi s', vi i', u11', u12', u13', u14', u15', u16'] []))) →
    OG p.tables e below P (T.setTop (mkF m 265 #[vr a, vi xW, vi 0, vi xG, vi 4, vi xK, vi rd, vj tb, s2, vi (own_start xW xG g), vi (Int32.ofNat g), u11, u12, u13, u14, u15, u16] [])) := by
  intro k
  induction k with
  | zero =>
    intro g T h locs u11 u12 u13 u14 u15 u16 g1 g6 g7 hg e11 e12 e13 e14 e15 e16 B N hz hE F_gw F_fw F_sh F_lm F_hm F_bo F_bw F_bm A_gw A_fw A_sh A_lm A_hm A_bo A_bw A_bm cont
    rw [Nat.add_zero] at hg
    refine o_iload B 265 267 (v := (Int32.ofNat g)) d2_265 rfl rfl ?_
    refine o_iloadN B 267 268 (v := xG) d2_267 rfl rfl ?_
    refine o_icY B 268 515 d2_268 (XT.ii_ge_t (by rw [Int32.lt_iff_toInt_lt, own_on g (by omega)]; omega)) (by decide) (by decide) ?_
    exact cont T h locs (own_start xW xG g) (Int32.ofNat g) u11 u12 u13 u14 u15 u16 e11 e12 e13 e14 e15 e16 g1 g6 g7 B N (Keep.refl _ _) A_gw (by have q := A_fw; rw [hg] at q; exact q) (by have q := A_sh; rw [hg] at q; exact q) (by have q := A_lm; rw [hg] at q; exact q) (by have q := A_hm; rw [hg] at q; exact q) A_bo A_bw (by have q := A_bm; rw [hg] at q; exact q)
  | succ k ih =>
    intro g T h locs u11 u12 u13 u14 u15 u16 g1 g6 g7 hg e11 e12 e13 e14 e15 e16 B N hz hE F_gw F_fw F_sh F_lm F_hm F_bo F_bw F_bm A_gw A_fw A_sh A_lm A_hm A_bo A_bw A_bm cont
    have hgx := ix_of (own_on g (by omega))
    have hb0 := ix_of (own_gb g 4 0 (by omega) (by omega))
    have hb1 := ix_of (own_gb g 4 1 (by omega) (by omega))
    have hb2 := ix_of (own_gb g 4 2 (by omega) (by omega))
    have hb3 := ix_of (own_gb g 4 3 (by omega) (by omega))
    refine o_iload B 265 267 (v := (Int32.ofNat g)) d2_265 rfl rfl ?_
    refine o_iloadN B 267 268 (v := xG) d2_267 rfl rfl ?_
    refine o_icN B 268 271 d2_268 rfl (XT.ii_ge_f (by rw [Int32.lt_iff_toInt_lt, own_on g (by omega)]; omega)) ?_
    refine o_iloadN B 271 272 (v := xW) d2_271 rfl rfl ?_
    refine o_iloadN B 272 273 (v := xG) d2_272 rfl rfl ?_
    refine o_idiv B 273 274 d2_273 rfl (own_ho hp).2.2.1 ?_
    refine o_iload B 274 276 (v := (Int32.ofNat g)) d2_274 rfl rfl ?_
    refine o_iloadN B 276 277 (v := xW) d2_276 rfl rfl ?_
    refine o_iloadN B 277 278 (v := xG) d2_277 rfl rfl ?_
    refine o_irem B 278 279 d2_278 rfl (own_ho hp).2.2.1 ?_
    have dm1 : ∀ {P : Outcome → State → Prop}, OG p.tables e below P (T.setTop (mkF m 287 #[vr a, vi xW, vi 0, vi xG, vi 4, vi xK, vi rd, vj tb, s2, vi (own_start xW xG g), vi (Int32.ofNat g), u11, u12, u13, u14, u15, u16] [(.int (q2_4s_1 xW xG xK rd tb g g1 g6 g7)), (.int (xW / xG))])) → OG p.tables e below P (T.setTop (mkF m 279 #[vr a, vi xW, vi 0, vi xG, vi 4, vi xK, vi rd, vj tb, s2, vi (own_start xW xG g), vi (Int32.ofNat g), u11, u12, u13, u14, u15, u16] [(.int (xW % xG)), (.int (Int32.ofNat g)), (.int (xW / xG))])) := by
      intro P k
      by_cases k2 : (Int32.ofNat g) < (xW % xG)
      · refine o_icN B 279 282 d2_279 rfl (XT.ii_ge_f k2) ?_
        refine o_iconst B 282 283 (1 : Int32) d2_282 rfl (by decide) ?_
        refine o_goto B 283 287 d2_283 (by decide) (by decide) ?_
        have y0 : (q2_4s_1 xW xG xK rd tb g g1 g6 g7) = (1 : Int32) := by simp only [q2_4s_1, if_pos k2]
        rw [y0] at k
        exact k
      · refine o_icY B 279 286 d2_279 (XT.ii_ge_t k2) (by decide) (by decide) ?_
        refine o_iconst B 286 287 (0 : Int32) d2_286 rfl (by decide) ?_
        have y0 : (q2_4s_1 xW xG xK rd tb g g1 g6 g7) = (0 : Int32) := by simp only [q2_4s_1, if_neg k2]
        rw [y0] at k
        exact k
    refine dm1 ?_
    refine o_iadd B 287 288 d2_287 rfl ?_
    refine o_istore B 288 290 (l' := #[vr a, vi xW, vi 0, vi xG, vi 4, vi xK, vi rd, vj tb, s2, vi (own_start xW xG g), vi (Int32.ofNat g), vi (own_bits xW xG g), u12, u13, u14, u15, u16]) d2_288 rfl (st1 rfl e11 rfl rfl) ?_
    refine o_iload B 290 292 (v := (own_start xW xG g)) d2_290 rfl rfl ?_
    refine o_bipush B 292 294 (64 : Int32) d2_292 rfl (by decide) ?_
    refine o_irem B 294 295 d2_294 rfl (by decide) ?_
    refine o_istore B 295 297 (l' := #[vr a, vi xW, vi 0, vi xG, vi 4, vi xK, vi rd, vj tb, s2, vi (own_start xW xG g), vi (Int32.ofNat g), vi (own_bits xW xG g), vi (own_sh xW xG g), u13, u14, u15, u16]) d2_295 rfl (st1 rfl e12 rfl rfl) ?_
    refine o_aloadN B 297 298 (v := (.ref a)) d2_297 rfl rfl rfl ?_
    obtain ⟨T3, B3, c3⟩ := o_getfield B 298 301 d2_298 rfl (host := "") (Or.inl (hw _ (mi 45 rfl))) Via.refl F_gw (Ls := #[vr a, vi xW, vi 0, vi xG, vi 4, vi xK, vi rd, vj tb, s2, vi (own_start xW xG g), vi (Int32.ofNat g), vi (own_bits xW xG g), vi (own_sh xW xG g), u13, u14, u15, u16]) (rest := [])
    refine c3 ?_
    refine o_iload B3 301 303 (v := (Int32.ofNat g)) d2_301 rfl rfl ?_
    refine o_iload B3 303 305 (v := (own_bits xW xG g)) d2_303 rfl rfl ?_
    obtain ⟨T4, h4, L4, B4, N4, W4, Q4, c4⟩ := o_iastore B3 N (show n0 ≤ gw by omega) 305 306 A_gw (j := (Int32.ofNat g)) (x := (own_bits xW xG g)) g (own_bits xW xG g) d2_305 rfl hgx.1 hgx.2 (by omega) rfl (Ls := #[vr a, vi xW, vi 0, vi xG, vi 4, vi xK, vi rd, vj tb, s2, vi (own_start xW xG g), vi (Int32.ofNat g), vi (own_bits xW xG g), vi (own_sh xW xG g), u13, u14, u15, u16]) (rest := [])
    have A4 : AI Z h4 gw .int xG.toInt.toNat (w2_4s_4 xW xG xK rd tb g g1 g6 g7) := Q4
    refine c4 ?_
    refine o_aloadN B4 306 307 (v := (.ref a)) d2_306 rfl rfl rfl ?_
    have F6 := (Fld.other W4 F_fw (Or.inl (Nat.ne_of_lt (by omega))))
    obtain ⟨T5, B5, c5⟩ := o_getfield B4 307 310 d2_307 rfl (host := "") (Or.inl (hw _ (mi 47 rfl))) Via.refl F6 (Ls := #[vr a, vi xW, vi 0, vi xG, vi 4, vi xK, vi rd, vj tb, s2, vi (own_start xW xG g), vi (Int32.ofNat g), vi (own_bits xW xG g), vi (own_sh xW xG g), u13, u14, u15, u16]) (rest := [])
    refine c5 ?_
    refine o_iload B5 310 312 (v := (Int32.ofNat g)) d2_310 rfl rfl ?_
    refine o_iload B5 312 314 (v := (own_start xW xG g)) d2_312 rfl rfl ?_
    refine o_bipush B5 314 316 (64 : Int32) d2_314 rfl (by decide) ?_
    refine o_idiv B5 316 317 d2_316 rfl (by decide) ?_
    have F8 := (A_fw.other W4 (Nat.ne_of_gt (by omega)))
    obtain ⟨T7, h7, L7, B7, N7, W7, Q7, c7⟩ := o_iastore B5 N4 (show n0 ≤ fw by omega) 317 318 F8 (j := (Int32.ofNat g)) (x := ((own_start xW xG g) / (64 : Int32))) g ((own_start xW xG g) / (64 : Int32)) d2_317 rfl hgx.1 hgx.2 (by omega) rfl (Ls := #[vr a, vi xW, vi 0, vi xG, vi 4, vi xK, vi rd, vj tb, s2, vi (own_start xW xG g), vi (Int32.ofNat g), vi (own_bits xW xG g), vi (own_sh xW xG g), u13, u14, u15, u16]) (rest := [])
    have A7 : AI Z h7 fw .int xG.toInt.toNat (w2_4s_5 xW xG xK rd tb g g1 g6 g7) := Q7
    refine c7 ?_
    refine o_aloadN B7 318 319 (v := (.ref a)) d2_318 rfl rfl rfl ?_
    have F10 := (Fld.other W7 (Fld.other W4 F_sh (Or.inl (Nat.ne_of_lt (by omega)))) (Or.inl (Nat.ne_of_lt (by omega))))
    obtain ⟨T9, B9, c9⟩ := o_getfield B7 319 322 d2_319 rfl (host := "") (Or.inl (hw _ (mi 49 rfl))) Via.refl F10 (Ls := #[vr a, vi xW, vi 0, vi xG, vi 4, vi xK, vi rd, vj tb, s2, vi (own_start xW xG g), vi (Int32.ofNat g), vi (own_bits xW xG g), vi (own_sh xW xG g), u13, u14, u15, u16]) (rest := [])
    refine c9 ?_
    refine o_iload B9 322 324 (v := (Int32.ofNat g)) d2_322 rfl rfl ?_
    refine o_iload B9 324 326 (v := (own_sh xW xG g)) d2_324 rfl rfl ?_
    have F12 := ((A_sh.other W4 (Nat.ne_of_gt (by omega))).other W7 (Nat.ne_of_gt (by omega)))
    obtain ⟨T11, h11, L11, B11, N11, W11, Q11, c11⟩ := o_iastore B9 N7 (show n0 ≤ sh by omega) 326 327 F12 (j := (Int32.ofNat g)) (x := (own_sh xW xG g)) g (own_sh xW xG g) d2_326 rfl hgx.1 hgx.2 (by omega) rfl (Ls := #[vr a, vi xW, vi 0, vi xG, vi 4, vi xK, vi rd, vj tb, s2, vi (own_start xW xG g), vi (Int32.ofNat g), vi (own_bits xW xG g), vi (own_sh xW xG g), u13, u14, u15, u16]) (rest := [])
    have A11 : AI Z h11 sh .int xG.toInt.toNat (w2_4s_6 xW xG xK rd tb g g1 g6 g7) := Q11
    refine c11 ?_
    refine o_aloadN B11 327 328 (v := (.ref a)) d2_327 rfl rfl rfl ?_
    have F14 := (Fld.other W11 (Fld.other W7 (Fld.other W4 F_lm (Or.inl (Nat.ne_of_lt (by omega)))) (Or.inl (Nat.ne_of_lt (by omega)))) (Or.inl (Nat.ne_of_lt (by omega))))
    obtain ⟨T13, B13, c13⟩ := o_getfield B11 328 331 d2_328 rfl (host := "") (Or.inl (hw _ (mi 52 rfl))) Via.refl F14 (Ls := #[vr a, vi xW, vi 0, vi xG, vi 4, vi xK, vi rd, vj tb, s2, vi (own_start xW xG g), vi (Int32.ofNat g), vi (own_bits xW xG g), vi (own_sh xW xG g), u13, u14, u15, u16]) (rest := [])
    refine c13 ?_
    refine o_iload B13 331 333 (v := (Int32.ofNat g)) d2_331 rfl rfl ?_
    refine o_iload B13 333 335 (v := (own_bits xW xG g)) d2_333 rfl rfl ?_
    refine o_bipush B13 335 337 (64 : Int32) d2_335 rfl (by decide) ?_
    have dm3 : ∀ {P : Outcome → State → Prop}, OG p.tables e below P (T13.setTop (mkF m 352 #[vr a, vi xW, vi 0, vi xG, vi 4, vi xK, vi rd, vj tb, s2, vi (own_start xW xG g), vi (Int32.ofNat g), vi (own_bits xW xG g), vi (own_sh xW xG g), u13, u14, u15, u16] [(.long (q2_4s_7 xW xG xK rd tb g g1 g6 g7)), (.int (Int32.ofNat g)), (.ref lm)])) → OG p.tables e below P (T13.setTop (mkF m 337 #[vr a, vi xW, vi 0, vi xG, vi 4, vi xK, vi rd, vj tb, s2, vi (own_start xW xG g), vi (Int32.ofNat g), vi (own_bits xW xG g), vi (own_sh xW xG g), u13, u14, u15, u16] [(.int (64 : Int32)), (.int (own_bits xW xG g)), (.int (Int32.ofNat g)), (.ref lm)])) := by
      intro P k
      by_cases k4 : (own_bits xW xG g) = (64 : Int32)
      · refine o_icN B13 337 340 d2_337 rfl (XT.ii_ne_f k4) ?_
        refine o_ldc2 B13 340 343 d2_340 rfl (hw _ (mi 92 rfl)) ?_
        refine o_goto B13 343 352 d2_343 (by decide) (by decide) ?_
        have y0 : (q2_4s_7 xW xG xK rd tb g g1 g6 g7) = (-1 : Int64) := by simp only [q2_4s_7, if_pos k4]
        rw [y0] at k
        exact k
      · refine o_icY B13 337 346 d2_337 (XT.ii_ne_t k4) (by decide) (by decide) ?_
        refine o_lconst B13 346 347 (1 : Int64) d2_346 rfl (by decide) ?_
        refine o_iload B13 347 349 (v := (own_bits xW xG g)) d2_347 rfl rfl ?_
        refine o_lshl B13 349 350 d2_349 rfl ?_
        refine o_lconst B13 350 351 (1 : Int64) d2_350 rfl (by decide) ?_
        refine o_lsub B13 351 352 d2_351 rfl ?_
        have y0 : (q2_4s_7 xW xG xK rd tb g g1 g6 g7) = (((1 : Int64) <<< ((own_bits xW xG g).toInt64 &&& 63)) - (1 : Int64)) := by simp only [q2_4s_7, if_neg k4]
        rw [y0] at k
        exact k
    refine dm3 ?_
    refine o_iload B13 352 354 (v := (own_sh xW xG g)) d2_352 rfl rfl ?_
    refine o_lshl B13 354 355 d2_354 rfl ?_
    have F18 := (((A_lm.other W4 (Nat.ne_of_gt (by omega))).other W7 (Nat.ne_of_gt (by omega))).other W11 (Nat.ne_of_gt (by omega)))
    obtain ⟨T17, h17, L17, B17, N17, W17, Q17, c17⟩ := o_lastore B13 N11 (show n0 ≤ lm by omega) 355 356 F18 (j := (Int32.ofNat g)) (x := ((q2_4s_7 xW xG xK rd tb g g1 g6 g7) <<< ((own_sh xW xG g).toInt64 &&& 63))) g (q2_4s_8 xW xG xK rd tb g g1 g6 g7) d2_355 rfl hgx.1 hgx.2 (by omega) rfl (Ls := #[vr a, vi xW, vi 0, vi xG, vi 4, vi xK, vi rd, vj tb, s2, vi (own_start xW xG g), vi (Int32.ofNat g), vi (own_bits xW xG g), vi (own_sh xW xG g), u13, u14, u15, u16]) (rest := [])
    have A17 : AJ Z h17 lm xG.toInt.toNat (w2_4s_9 xW xG xK rd tb g g1 g6 g7) := Q17
    refine c17 ?_
    refine o_iload B17 356 358 (v := (own_sh xW xG g)) d2_356 rfl rfl ?_
    refine o_iload B17 358 360 (v := (own_bits xW xG g)) d2_358 rfl rfl ?_
    refine o_iadd B17 360 361 d2_360 rfl ?_
    refine o_bipush B17 361 363 (64 : Int32) d2_361 rfl (by decide) ?_
    refine o_isub B17 363 364 d2_363 rfl ?_
    refine o_istore B17 364 366 (l' := #[vr a, vi xW, vi 0, vi xG, vi 4, vi xK, vi rd, vj tb, s2, vi (own_start xW xG g), vi (Int32.ofNat g), vi (own_bits xW xG g), vi (own_sh xW xG g), vi (own_hb xW xG g), u14, u15, u16]) d2_364 rfl (st1 rfl e13 rfl rfl) ?_
    refine o_aloadN B17 366 367 (v := (.ref a)) d2_366 rfl rfl rfl ?_
    have F20 := (Fld.other W17 (Fld.other W11 (Fld.other W7 (Fld.other W4 F_hm (Or.inl (Nat.ne_of_lt (by omega)))) (Or.inl (Nat.ne_of_lt (by omega)))) (Or.inl (Nat.ne_of_lt (by omega)))) (Or.inl (Nat.ne_of_lt (by omega))))
    obtain ⟨T19, B19, c19⟩ := o_getfield B17 367 370 d2_367 rfl (host := "") (Or.inl (hw _ (mi 54 rfl))) Via.refl F20 (Ls := #[vr a, vi xW, vi 0, vi xG, vi 4, vi xK, vi rd, vj tb, s2, vi (own_start xW xG g), vi (Int32.ofNat g), vi (own_bits xW xG g), vi (own_sh xW xG g), vi (own_hb xW xG g), u14, u15, u16]) (rest := [])
    refine c19 ?_
    refine o_iload B19 370 372 (v := (Int32.ofNat g)) d2_370 rfl rfl ?_
    refine o_iload B19 372 374 (v := (own_hb xW xG g)) d2_372 rfl rfl ?_
    have dm5 : ∀ {P : Outcome → State → Prop}, OG p.tables e below P (T19.setTop (mkF m 387 #[vr a, vi xW, vi 0, vi xG, vi 4, vi xK, vi rd, vj tb, s2, vi (own_start xW xG g), vi (Int32.ofNat g), vi (own_bits xW xG g), vi (own_sh xW xG g), vi (own_hb xW xG g), u14, u15, u16] [(.long (q2_4s_11 xW xG xK rd tb g g1 g6 g7)), (.int (Int32.ofNat g)), (.ref hm)])) → OG p.tables e below P (T19.setTop (mkF m 374 #[vr a, vi xW, vi 0, vi xG, vi 4, vi xK, vi rd, vj tb, s2, vi (own_start xW xG g), vi (Int32.ofNat g), vi (own_bits xW xG g), vi (own_sh xW xG g), vi (own_hb xW xG g), u14, u15, u16] [(.int (own_hb xW xG g)), (.int (Int32.ofNat g)), (.ref hm)])) := by
      intro P k
      by_cases k6 : 0 < (own_hb xW xG g)
      · refine o_ifN B19 374 377 d2_374 rfl (XT.i0_le_f k6) ?_
        refine o_lconst B19 377 378 (1 : Int64) d2_377 rfl (by decide) ?_
        refine o_iload B19 378 380 (v := (own_hb xW xG g)) d2_378 rfl rfl ?_
        refine o_lshl B19 380 381 d2_380 rfl ?_
        refine o_lconst B19 381 382 (1 : Int64) d2_381 rfl (by decide) ?_
        refine o_lsub B19 382 383 d2_382 rfl ?_
        refine o_goto B19 383 387 d2_383 (by decide) (by decide) ?_
        have y0 : (q2_4s_11 xW xG xK rd tb g g1 g6 g7) = (((1 : Int64) <<< ((own_hb xW xG g).toInt64 &&& 63)) - (1 : Int64)) := by simp only [q2_4s_11, if_pos k6]
        rw [y0] at k
        exact k
      · refine o_ifY B19 374 386 d2_374 (XT.i0_le_t k6) (by decide) (by decide) ?_
        refine o_lconst B19 386 387 (0 : Int64) d2_386 rfl (by decide) ?_
        have y0 : (q2_4s_11 xW xG xK rd tb g g1 g6 g7) = (0 : Int64) := by simp only [q2_4s_11, if_neg k6]
        rw [y0] at k
        exact k
    refine dm5 ?_
    have F24 := ((((A_hm.other W4 (Nat.ne_of_gt (by omega))).other W7 (Nat.ne_of_gt (by omega))).other W11 (Nat.ne_of_gt (by omega))).other W17 (Nat.ne_of_gt (by omega)))
    obtain ⟨T23, h23, L23, B23, N23, W23, Q23, c23⟩ := o_lastore B19 N17 (show n0 ≤ hm by omega) 387 388 F24 (j := (Int32.ofNat g)) (x := (q2_4s_11 xW xG xK rd tb g g1 g6 g7)) g (q2_4s_11 xW xG xK rd tb g g1 g6 g7) d2_387 rfl hgx.1 hgx.2 (by omega) rfl (Ls := #[vr a, vi xW, vi 0, vi xG, vi 4, vi xK, vi rd, vj tb, s2, vi (own_start xW xG g), vi (Int32.ofNat g), vi (own_bits xW xG g), vi (own_sh xW xG g), vi (own_hb xW xG g), u14, u15, u16]) (rest := [])
    have A23 : AJ Z h23 hm xG.toInt.toNat (w2_4s_12 xW xG xK rd tb g g1 g6 g7) := Q23
    refine c23 ?_
    refine o_iconst B23 388 389 (0 : Int32) d2_388 rfl (by decide) ?_
    refine o_istore B23 389 391 (l' := #[vr a, vi xW, vi 0, vi xG, vi 4, vi xK, vi rd, vj tb, s2, vi (own_start xW xG g), vi (Int32.ofNat g), vi (own_bits xW xG g), vi (own_sh xW xG g), vi (own_hb xW xG g), vi 0, u15, u16]) d2_389 rfl (st1 rfl e14 rfl rfl) ?_
    refine o_iconst B23 391 392 (0 : Int32) d2_391 rfl (by decide) ?_
    refine o_istore B23 392 394 (l' := #[vr a, vi xW, vi 0, vi xG, vi 4, vi xK, vi rd, vj tb, s2, vi (own_start xW xG g), vi (Int32.ofNat g), vi (own_bits xW xG g), vi (own_sh xW xG g), vi (own_hb xW xG g), vi 0, vi 0, u16]) d2_392 rfl (st1 rfl e15 rfl rfl) ?_
    refine o_iload B23 394 396 (v := (0 : Int32)) d2_394 rfl rfl ?_
    refine o_iload B23 396 398 (v := (4 : Int32)) d2_396 rfl rfl ?_
    refine o_icN B23 398 401 d2_398 rfl (XT.ii_ge_f (by decide)) ?_
    refine o_iload B23 401 403 (v := (own_bits xW xG g)) d2_401 rfl rfl ?_
    refine o_iload B23 403 405 (v := (4 : Int32)) d2_403 rfl rfl ?_
    refine o_idiv B23 405 406 d2_405 rfl (by decide) ?_
    refine o_iload B23 406 408 (v := (0 : Int32)) d2_406 rfl rfl ?_
    refine o_iload B23 408 410 (v := (own_bits xW xG g)) d2_408 rfl rfl ?_
    refine o_iload B23 410 412 (v := (4 : Int32)) d2_410 rfl rfl ?_
    refine o_irem B23 412 413 d2_412 rfl (by decide) ?_
    have dm7 : ∀ {P : Outcome → State → Prop}, OG p.tables e below P (T23.setTop (mkF m 421 #[vr a, vi xW, vi 0, vi xG, vi 4, vi xK, vi rd, vj tb, s2, vi (own_start xW xG g), vi (Int32.ofNat g), vi (own_bits xW xG g), vi (own_sh xW xG g), vi (own_hb xW xG g), vi 0, vi 0, u16] [(.int (q2_4s_13 xW xG xK rd tb g g1 g6 g7)), (.int ((own_bits xW xG g) / (4 : Int32)))])) → OG p.tables e below P (T23.setTop (mkF m 413 #[vr a, vi xW, vi 0, vi xG, vi 4, vi xK, vi rd, vj tb, s2, vi (own_start xW xG g), vi (Int32.ofNat g), vi (own_bits xW xG g), vi (own_sh xW xG g), vi (own_hb xW xG g), vi 0, vi 0, u16] [(.int ((own_bits xW xG g) % (4 : Int32))), (.int (0 : Int32)), (.int ((own_bits xW xG g) / (4 : Int32)))])) := by
      intro P k
      by_cases k8 : (0 : Int32) < ((own_bits xW xG g) % (4 : Int32))
      · refine o_icN B23 413 416 d2_413 rfl (XT.ii_ge_f k8) ?_
        refine o_iconst B23 416 417 (1 : Int32) d2_416 rfl (by decide) ?_
        refine o_goto B23 417 421 d2_417 (by decide) (by decide) ?_
        have y0 : (q2_4s_13 xW xG xK rd tb g g1 g6 g7) = (1 : Int32) := by simp only [q2_4s_13, if_pos k8]
        rw [y0] at k
        exact k
      · refine o_icY B23 413 420 d2_413 (XT.ii_ge_t k8) (by decide) (by decide) ?_
        refine o_iconst B23 420 421 (0 : Int32) d2_420 rfl (by decide) ?_
        have y0 : (q2_4s_13 xW xG xK rd tb g g1 g6 g7) = (0 : Int32) := by simp only [q2_4s_13, if_neg k8]
        rw [y0] at k
        exact k
    refine dm7 ?_
    refine o_iadd B23 421 422 d2_421 rfl ?_
    refine o_istore B23 422 424 (l' := #[vr a, vi xW, vi 0, vi xG, vi 4, vi xK, vi rd, vj tb, s2, vi (own_start xW xG g), vi (Int32.ofNat g), vi (own_bits xW xG g), vi (own_sh xW xG g), vi (own_hb xW xG g), vi 0, vi 0, vi (own_bw xW xG 4 g 0)]) d2_422 rfl (st1 rfl e16 rfl rfl) ?_
    refine o_aloadN B23 424 425 (v := (.ref a)) d2_424 rfl rfl rfl ?_
    have F28 := (Fld.other W23 (Fld.other W17 (Fld.other W11 (Fld.other W7 (Fld.other W4 F_bo (Or.inl (Nat.ne_of_lt (by omega)))) (Or.inl (Nat.ne_of_lt (by omega)))) (Or.inl (Nat.ne_of_lt (by omega)))) (Or.inl (Nat.ne_of_lt (by omega)))) (Or.inl (Nat.ne_of_lt (by omega))))
    obtain ⟨T27, B27, c27⟩ := o_getfield B23 425 428 d2_425 rfl (host := "") (Or.inl (hw _ (mi 56 rfl))) Via.refl F28 (Ls := #[vr a, vi xW, vi 0, vi xG, vi 4, vi xK, vi rd, vj tb, s2, vi (own_start xW xG g), vi (Int32.ofNat g), vi (own_bits xW xG g), vi (own_sh xW xG g), vi (own_hb xW xG g), vi 0, vi 0, vi (own_bw xW xG 4 g 0)]) (rest := [])
    refine c27 ?_
    refine o_iload B27 428 430 (v := (Int32.ofNat g)) d2_428 rfl rfl ?_
    refine o_iload B27 430 432 (v := (4 : Int32)) d2_430 rfl rfl ?_
    refine o_imul B27 432 433 d2_432 rfl ?_
    refine o_iload B27 433 435 (v := (0 : Int32)) d2_433 rfl rfl ?_
    refine o_iadd B27 435 436 d2_435 rfl ?_
    refine o_iload B27 436 438 (v := (0 : Int32)) d2_436 rfl rfl ?_
    have F30 := (((((A_bo.other W4 (Nat.ne_of_gt (by omega))).other W7 (Nat.ne_of_gt (by omega))).other W11 (Nat.ne_of_gt (by omega))).other W17 (Nat.ne_of_gt (by omega))).other W23 (Nat.ne_of_gt (by omega)))
    obtain ⟨T29, h29, L29, B29, N29, W29, Q29, c29⟩ := o_iastore B27 N23 (show n0 ≤ bo by omega) 438 439 F30 (j := (((Int32.ofNat g) * (4 : Int32)) + (0 : Int32))) (x := (0 : Int32)) (g * 4 + 0) (0 : Int32) d2_438 rfl hb0.1 hb0.2 (by omega) rfl (Ls := #[vr a, vi xW, vi 0, vi xG, vi 4, vi xK, vi rd, vj tb, s2, vi (own_start xW xG g), vi (Int32.ofNat g), vi (own_bits xW xG g), vi (own_sh xW xG g), vi (own_hb xW xG g), vi 0, vi 0, vi (own_bw xW xG 4 g 0)]) (rest := [])
    have A29 : AI Z h29 bo .int (xG.toInt.toNat * 4) (w2_4s_15 xW xG xK rd tb g g1 g6 g7) := Q29
    refine c29 ?_
    refine o_aloadN B29 439 440 (v := (.ref a)) d2_439 rfl rfl rfl ?_
    have F32 := (Fld.other W29 (Fld.other W23 (Fld.other W17 (Fld.other W11 (Fld.other W7 (Fld.other W4 F_bw (Or.inl (Nat.ne_of_lt (by omega)))) (Or.inl (Nat.ne_of_lt (by omega)))) (Or.inl (Nat.ne_of_lt (by omega)))) (Or.inl (Nat.ne_of_lt (by omega)))) (Or.inl (Nat.ne_of_lt (by omega)))) (Or.inl (Nat.ne_of_lt (by omega))))
    obtain ⟨T31, B31, c31⟩ := o_getfield B29 440 443 d2_440 rfl (host := "") (Or.inl (hw _ (mi 58 rfl))) Via.refl F32 (Ls := #[vr a, vi xW, vi 0, vi xG, vi 4, vi xK, vi rd, vj tb, s2, vi (own_start xW xG g), vi (Int32.ofNat g), vi (own_bits xW xG g), vi (own_sh xW xG g), vi (own_hb xW xG g), vi 0, vi 0, vi (own_bw xW xG 4 g 0)]) (rest := [])
    refine c31 ?_
    refine o_iload B31 443 445 (v := (Int32.ofNat g)) d2_443 rfl rfl ?_
    refine o_iload B31 445 447 (v := (4 : Int32)) d2_445 rfl rfl ?_
    refine o_imul B31 447 448 d2_447 rfl ?_
    refine o_iload B31 448 450 (v := (0 : Int32)) d2_448 rfl rfl ?_
    refine o_iadd B31 450 451 d2_450 rfl ?_
    refine o_iload B31 451 453 (v := (own_bw xW xG 4 g 0)) d2_451 rfl rfl ?_
    have F34 := ((((((A_bw.other W4 (Nat.ne_of_gt (by omega))).other W7 (Nat.ne_of_gt (by omega))).other W11 (Nat.ne_of_gt (by omega))).other W17 (Nat.ne_of_gt (by omega))).other W23 (Nat.ne_of_gt (by omega))).other W29 (Nat.ne_of_gt (by omega)))
    obtain ⟨T33, h33, L33, B33, N33, W33, Q33, c33⟩ := o_iastore B31 N29 (show n0 ≤ bw by omega) 453 454 F34 (j := (((Int32.ofNat g) * (4 : Int32)) + (0 : Int32))) (x := (own_bw xW xG 4 g 0)) (g * 4 + 0) (own_bw xW xG 4 g 0) d2_453 rfl hb0.1 hb0.2 (by omega) rfl (Ls := #[vr a, vi xW, vi 0, vi xG, vi 4, vi xK, vi rd, vj tb, s2, vi (own_start xW xG g), vi (Int32.ofNat g), vi (own_bits xW xG g), vi (own_sh xW xG g), vi (own_hb xW xG g), vi 0, vi 0, vi (own_bw xW xG 4 g 0)]) (rest := [])
    have A33 : AI Z h33 bw .int (xG.toInt.toNat * 4) (w2_4s_16 xW xG xK rd tb g g1 g6 g7) := Q33
    refine c33 ?_
    refine o_aloadN B33 454 455 (v := (.ref a)) d2_454 rfl rfl rfl ?_
    have F36 := (Fld.other W33 (Fld.other W29 (Fld.other W23 (Fld.other W17 (Fld.other W11 (Fld.other W7 (Fld.other W4 F_bm (Or.inl (Nat.ne_of_lt (by omega)))) (Or.inl (Nat.ne_of_lt (by omega)))) (Or.inl (Nat.ne_of_lt (by omega)))) (Or.inl (Nat.ne_of_lt (by omega)))) (Or.inl (Nat.ne_of_lt (by omega)))) (Or.inl (Nat.ne_of_lt (by omega)))) (Or.inl (Nat.ne_of_lt (by omega))))
    obtain ⟨T35, B35, c35⟩ := o_getfield B33 455 458 d2_455 rfl (host := "") (Or.inl (hw _ (mi 60 rfl))) Via.refl F36 (Ls := #[vr a, vi xW, vi 0, vi xG, vi 4, vi xK, vi rd, vj tb, s2, vi (own_start xW xG g), vi (Int32.ofNat g), vi (own_bits xW xG g), vi (own_sh xW xG g), vi (own_hb xW xG g), vi 0, vi 0, vi (own_bw xW xG 4 g 0)]) (rest := [])
    refine c35 ?_
    refine o_iload B35 458 460 (v := (Int32.ofNat g)) d2_458 rfl rfl ?_
    refine o_iload B35 460 462 (v := (4 : Int32)) d2_460 rfl rfl ?_
    refine o_imul B35 462 463 d2_462 rfl ?_
    refine o_iload B35 463 465 (v := (0 : Int32)) d2_463 rfl rfl ?_
    refine o_iadd B35 465 466 d2_465 rfl ?_
    refine o_iload B35 466 468 (v := (own_bw xW xG 4 g 0)) d2_466 rfl rfl ?_
    refine o_bipush B35 468 470 (64 : Int32) d2_468 rfl (by decide) ?_
    have dm9 : ∀ {P : Outcome → State → Prop}, OG p.tables e below P (T35.setTop (mkF m 485 #[vr a, vi xW, vi 0, vi xG, vi 4, vi xK, vi rd, vj tb, s2, vi (own_start xW xG g), vi (Int32.ofNat g), vi (own_bits xW xG g), vi (own_sh xW xG g), vi (own_hb xW xG g), vi 0, vi 0, vi (own_bw xW xG 4 g 0)] [(.long (q2_4s_17 xW xG xK rd tb g g1 g6 g7)), (.int (((Int32.ofNat g) * (4 : Int32)) + (0 : Int32))), (.ref bm)])) → OG p.tables e below P (T35.setTop (mkF m 470 #[vr a, vi xW, vi 0, vi xG, vi 4, vi xK, vi rd, vj tb, s2, vi (own_start xW xG g), vi (Int32.ofNat g), vi (own_bits xW xG g), vi (own_sh xW xG g), vi (own_hb xW xG g), vi 0, vi 0, vi (own_bw xW xG 4 g 0)] [(.int (64 : Int32)), (.int (own_bw xW xG 4 g 0)), (.int (((Int32.ofNat g) * (4 : Int32)) + (0 : Int32))), (.ref bm)])) := by
      intro P k
      by_cases k10 : (own_bw xW xG 4 g 0) = (64 : Int32)
      · refine o_icN B35 470 473 d2_470 rfl (XT.ii_ne_f k10) ?_
        refine o_ldc2 B35 473 476 d2_473 rfl (hw _ (mi 92 rfl)) ?_
        refine o_goto B35 476 485 d2_476 (by decide) (by decide) ?_
        have y0 : (q2_4s_17 xW xG xK rd tb g g1 g6 g7) = (-1 : Int64) := by simp only [q2_4s_17, if_pos k10]
        rw [y0] at k
        exact k
      · refine o_icY B35 470 479 d2_470 (XT.ii_ne_t k10) (by decide) (by decide) ?_
        refine o_lconst B35 479 480 (1 : Int64) d2_479 rfl (by decide) ?_
        refine o_iload B35 480 482 (v := (own_bw xW xG 4 g 0)) d2_480 rfl rfl ?_
        refine o_lshl B35 482 483 d2_482 rfl ?_
        refine o_lconst B35 483 484 (1 : Int64) d2_483 rfl (by decide) ?_
        refine o_lsub B35 484 485 d2_484 rfl ?_
        have y0 : (q2_4s_17 xW xG xK rd tb g g1 g6 g7) = (((1 : Int64) <<< ((own_bw xW xG 4 g 0).toInt64 &&& 63)) - (1 : Int64)) := by simp only [q2_4s_17, if_neg k10]
        rw [y0] at k
        exact k
    refine dm9 ?_
    refine o_iload B35 485 487 (v := (0 : Int32)) d2_485 rfl rfl ?_
    refine o_lshl B35 487 488 d2_487 rfl ?_
    have F40 := (((((((A_bm.other W4 (Nat.ne_of_gt (by omega))).other W7 (Nat.ne_of_gt (by omega))).other W11 (Nat.ne_of_gt (by omega))).other W17 (Nat.ne_of_gt (by omega))).other W23 (Nat.ne_of_gt (by omega))).other W29 (Nat.ne_of_gt (by omega))).other W33 (Nat.ne_of_gt (by omega)))
    obtain ⟨T39, h39, L39, B39, N39, W39, Q39, c39⟩ := o_lastore B35 N33 (show n0 ≤ bm by omega) 488 489 F40 (j := (((Int32.ofNat g) * (4 : Int32)) + (0 : Int32))) (x := ((q2_4s_17 xW xG xK rd tb g g1 g6 g7) <<< ((0 : Int32).toInt64 &&& 63))) (g * 4 + 0) (q2_4s_18 xW xG xK rd tb g g1 g6 g7) d2_488 rfl hb0.1 hb0.2 (by omega) rfl (Ls := #[vr a, vi xW, vi 0, vi xG, vi 4, vi xK, vi rd, vj tb, s2, vi (own_start xW xG g), vi (Int32.ofNat g), vi (own_bits xW xG g), vi (own_sh xW xG g), vi (own_hb xW xG g), vi 0, vi 0, vi (own_bw xW xG 4 g 0)]) (rest := [])
    have A39 : AJ Z h39 bm (xG.toInt.toNat * 4) (w2_4s_19 xW xG xK rd tb g g1 g6 g7) := Q39
    refine c39 ?_
    refine o_iload B39 489 491 (v := (0 : Int32)) d2_489 rfl rfl ?_
    refine o_iload B39 491 493 (v := (own_bw xW xG 4 g 0)) d2_491 rfl rfl ?_
    refine o_iadd B39 493 494 d2_493 rfl ?_
    refine o_istore B39 494 496 (l' := #[vr a, vi xW, vi 0, vi xG, vi 4, vi xK, vi rd, vj tb, s2, vi (own_start xW xG g), vi (Int32.ofNat g), vi (own_bits xW xG g), vi (own_sh xW xG g), vi (own_hb xW xG g), vi (own_off xW xG 4 g 1), vi 0, vi (own_bw xW xG 4 g 0)]) d2_494 rfl rfl ?_
    refine o_iincC B39 496 499 (l' := #[vr a, vi xW, vi 0, vi xG, vi 4, vi xK, vi rd, vj tb, s2, vi (own_start xW xG g), vi (Int32.ofNat g), vi (own_bits xW xG g), vi (own_sh xW xG g), vi (own_hb xW xG g), vi (own_off xW xG 4 g 1), vi 1, vi (own_bw xW xG 4 g 0)]) (1 : Int32) (1 : Int32) d2_496 rfl (by decide) rfl (by decide) rfl ?_
    refine o_goto B39 499 394 d2_499 (by decide) (by decide) ?_
    refine o_iload B39 394 396 (v := (1 : Int32)) d2_394 rfl rfl ?_
    refine o_iload B39 396 398 (v := (4 : Int32)) d2_396 rfl rfl ?_
    refine o_icN B39 398 401 d2_398 rfl (XT.ii_ge_f (by decide)) ?_
    refine o_iload B39 401 403 (v := (own_bits xW xG g)) d2_401 rfl rfl ?_
    refine o_iload B39 403 405 (v := (4 : Int32)) d2_403 rfl rfl ?_
    refine o_idiv B39 405 406 d2_405 rfl (by decide) ?_
    refine o_iload B39 406 408 (v := (1 : Int32)) d2_406 rfl rfl ?_
    refine o_iload B39 408 410 (v := (own_bits xW xG g)) d2_408 rfl rfl ?_
    refine o_iload B39 410 412 (v := (4 : Int32)) d2_410 rfl rfl ?_
    refine o_irem B39 412 413 d2_412 rfl (by decide) ?_
    have dm11 : ∀ {P : Outcome → State → Prop}, OG p.tables e below P (T39.setTop (mkF m 421 #[vr a, vi xW, vi 0, vi xG, vi 4, vi xK, vi rd, vj tb, s2, vi (own_start xW xG g), vi (Int32.ofNat g), vi (own_bits xW xG g), vi (own_sh xW xG g), vi (own_hb xW xG g), vi (own_off xW xG 4 g 1), vi 1, vi (own_bw xW xG 4 g 0)] [(.int (q2_4s_21 xW xG xK rd tb g g1 g6 g7)), (.int ((own_bits xW xG g) / (4 : Int32)))])) → OG p.tables e below P (T39.setTop (mkF m 413 #[vr a, vi xW, vi 0, vi xG, vi 4, vi xK, vi rd, vj tb, s2, vi (own_start xW xG g), vi (Int32.ofNat g), vi (own_bits xW xG g), vi (own_sh xW xG g), vi (own_hb xW xG g), vi (own_off xW xG 4 g 1), vi 1, vi (own_bw xW xG 4 g 0)] [(.int ((own_bits xW xG g) % (4 : Int32))), (.int (1 : Int32)), (.int ((own_bits xW xG g) / (4 : Int32)))])) := by
      intro P k
      by_cases k12 : (1 : Int32) < ((own_bits xW xG g) % (4 : Int32))
      · refine o_icN B39 413 416 d2_413 rfl (XT.ii_ge_f k12) ?_
        refine o_iconst B39 416 417 (1 : Int32) d2_416 rfl (by decide) ?_
        refine o_goto B39 417 421 d2_417 (by decide) (by decide) ?_
        have y0 : (q2_4s_21 xW xG xK rd tb g g1 g6 g7) = (1 : Int32) := by simp only [q2_4s_21, if_pos k12]
        rw [y0] at k
        exact k
      · refine o_icY B39 413 420 d2_413 (XT.ii_ge_t k12) (by decide) (by decide) ?_
        refine o_iconst B39 420 421 (0 : Int32) d2_420 rfl (by decide) ?_
        have y0 : (q2_4s_21 xW xG xK rd tb g g1 g6 g7) = (0 : Int32) := by simp only [q2_4s_21, if_neg k12]
        rw [y0] at k
        exact k
    refine dm11 ?_
    refine o_iadd B39 421 422 d2_421 rfl ?_
    refine o_istore B39 422 424 (l' := #[vr a, vi xW, vi 0, vi xG, vi 4, vi xK, vi rd, vj tb, s2, vi (own_start xW xG g), vi (Int32.ofNat g), vi (own_bits xW xG g), vi (own_sh xW xG g), vi (own_hb xW xG g), vi (own_off xW xG 4 g 1), vi 1, vi (own_bw xW xG 4 g 1)]) d2_422 rfl rfl ?_
    refine o_aloadN B39 424 425 (v := (.ref a)) d2_424 rfl rfl rfl ?_
    have F44 := (Fld.other W39 (Fld.other W33 (Fld.other W29 F28 (Or.inl (Nat.ne_of_lt (by omega)))) (Or.inl (Nat.ne_of_lt (by omega)))) (Or.inl (Nat.ne_of_lt (by omega))))
    obtain ⟨T43, B43, c43⟩ := o_getfield B39 425 428 d2_425 rfl (host := "") (Or.inl (hw _ (mi 56 rfl))) Via.refl F44 (Ls := #[vr a, vi xW, vi 0, vi xG, vi 4, vi xK, vi rd, vj tb, s2, vi (own_start xW xG g), vi (Int32.ofNat g), vi (own_bits xW xG g), vi (own_sh xW xG g), vi (own_hb xW xG g), vi (own_off xW xG 4 g 1), vi 1, vi (own_bw xW xG 4 g 1)]) (rest := [])
    refine c43 ?_
    refine o_iload B43 428 430 (v := (Int32.ofNat g)) d2_428 rfl rfl ?_
    refine o_iload B43 430 432 (v := (4 : Int32)) d2_430 rfl rfl ?_
    refine o_imul B43 432 433 d2_432 rfl ?_
    refine o_iload B43 433 435 (v := (1 : Int32)) d2_433 rfl rfl ?_
    refine o_iadd B43 435 436 d2_435 rfl ?_
    refine o_iload B43 436 438 (v := (own_off xW xG 4 g 1)) d2_436 rfl rfl ?_
    have F46 := ((A29.other W33 (Nat.ne_of_lt (by omega))).other W39 (Nat.ne_of_lt (by omega)))
    obtain ⟨T45, h45, L45, B45, N45, W45, Q45, c45⟩ := o_iastore B43 N39 (show n0 ≤ bo by omega) 438 439 F46 (j := (((Int32.ofNat g) * (4 : Int32)) + (1 : Int32))) (x := (own_off xW xG 4 g 1)) (g * 4 + 1) (own_off xW xG 4 g 1) d2_438 rfl hb1.1 hb1.2 (by omega) rfl (Ls := #[vr a, vi xW, vi 0, vi xG, vi 4, vi xK, vi rd, vj tb, s2, vi (own_start xW xG g), vi (Int32.ofNat g), vi (own_bits xW xG g), vi (own_sh xW xG g), vi (own_hb xW xG g), vi (own_off xW xG 4 g 1), vi 1, vi (own_bw xW xG 4 g 1)]) (rest := [])
    have A45 : AI Z h45 bo .int (xG.toInt.toNat * 4) (w2_4s_23 xW xG xK rd tb g g1 g6 g7) := Q45
    refine c45 ?_
    refine o_aloadN B45 439 440 (v := (.ref a)) d2_439 rfl rfl rfl ?_
    have F48 := (Fld.other W45 (Fld.other W39 (Fld.other W33 F32 (Or.inl (Nat.ne_of_lt (by omega)))) (Or.inl (Nat.ne_of_lt (by omega)))) (Or.inl (Nat.ne_of_lt (by omega))))
    obtain ⟨T47, B47, c47⟩ := o_getfield B45 440 443 d2_440 rfl (host := "") (Or.inl (hw _ (mi 58 rfl))) Via.refl F48 (Ls := #[vr a, vi xW, vi 0, vi xG, vi 4, vi xK, vi rd, vj tb, s2, vi (own_start xW xG g), vi (Int32.ofNat g), vi (own_bits xW xG g), vi (own_sh xW xG g), vi (own_hb xW xG g), vi (own_off xW xG 4 g 1), vi 1, vi (own_bw xW xG 4 g 1)]) (rest := [])
    refine c47 ?_
    refine o_iload B47 443 445 (v := (Int32.ofNat g)) d2_443 rfl rfl ?_
    refine o_iload B47 445 447 (v := (4 : Int32)) d2_445 rfl rfl ?_
    refine o_imul B47 447 448 d2_447 rfl ?_
    refine o_iload B47 448 450 (v := (1 : Int32)) d2_448 rfl rfl ?_
    refine o_iadd B47 450 451 d2_450 rfl ?_
    refine o_iload B47 451 453 (v := (own_bw xW xG 4 g 1)) d2_451 rfl rfl ?_
    have F50 := ((A33.other W39 (Nat.ne_of_lt (by omega))).other W45 (Nat.ne_of_gt (by omega)))
    obtain ⟨T49, h49, L49, B49, N49, W49, Q49, c49⟩ := o_iastore B47 N45 (show n0 ≤ bw by omega) 453 454 F50 (j := (((Int32.ofNat g) * (4 : Int32)) + (1 : Int32))) (x := (own_bw xW xG 4 g 1)) (g * 4 + 1) (own_bw xW xG 4 g 1) d2_453 rfl hb1.1 hb1.2 (by omega) rfl (Ls := #[vr a, vi xW, vi 0, vi xG, vi 4, vi xK, vi rd, vj tb, s2, vi (own_start xW xG g), vi (Int32.ofNat g), vi (own_bits xW xG g), vi (own_sh xW xG g), vi (own_hb xW xG g), vi (own_off xW xG 4 g 1), vi 1, vi (own_bw xW xG 4 g 1)]) (rest := [])
    have A49 : AI Z h49 bw .int (xG.toInt.toNat * 4) (w2_4s_24 xW xG xK rd tb g g1 g6 g7) := Q49
    refine c49 ?_
    refine o_aloadN B49 454 455 (v := (.ref a)) d2_454 rfl rfl rfl ?_
    have F52 := (Fld.other W49 (Fld.other W45 (Fld.other W39 F36 (Or.inl (Nat.ne_of_lt (by omega)))) (Or.inl (Nat.ne_of_lt (by omega)))) (Or.inl (Nat.ne_of_lt (by omega))))
    obtain ⟨T51, B51, c51⟩ := o_getfield B49 455 458 d2_455 rfl (host := "") (Or.inl (hw _ (mi 60 rfl))) Via.refl F52 (Ls := #[vr a, vi xW, vi 0, vi xG, vi 4, vi xK, vi rd, vj tb, s2, vi (own_start xW xG g), vi (Int32.ofNat g), vi (own_bits xW xG g), vi (own_sh xW xG g), vi (own_hb xW xG g), vi (own_off xW xG 4 g 1), vi 1, vi (own_bw xW xG 4 g 1)]) (rest := [])
    refine c51 ?_
    refine o_iload B51 458 460 (v := (Int32.ofNat g)) d2_458 rfl rfl ?_
    refine o_iload B51 460 462 (v := (4 : Int32)) d2_460 rfl rfl ?_
    refine o_imul B51 462 463 d2_462 rfl ?_
    refine o_iload B51 463 465 (v := (1 : Int32)) d2_463 rfl rfl ?_
    refine o_iadd B51 465 466 d2_465 rfl ?_
    refine o_iload B51 466 468 (v := (own_bw xW xG 4 g 1)) d2_466 rfl rfl ?_
    refine o_bipush B51 468 470 (64 : Int32) d2_468 rfl (by decide) ?_
    have dm13 : ∀ {P : Outcome → State → Prop}, OG p.tables e below P (T51.setTop (mkF m 485 #[vr a, vi xW, vi 0, vi xG, vi 4, vi xK, vi rd, vj tb, s2, vi (own_start xW xG g), vi (Int32.ofNat g), vi (own_bits xW xG g), vi (own_sh xW xG g), vi (own_hb xW xG g), vi (own_off xW xG 4 g 1), vi 1, vi (own_bw xW xG 4 g 1)] [(.long (q2_4s_25 xW xG xK rd tb g g1 g6 g7)), (.int (((Int32.ofNat g) * (4 : Int32)) + (1 : Int32))), (.ref bm)])) → OG p.tables e below P (T51.setTop (mkF m 470 #[vr a, vi xW, vi 0, vi xG, vi 4, vi xK, vi rd, vj tb, s2, vi (own_start xW xG g), vi (Int32.ofNat g), vi (own_bits xW xG g), vi (own_sh xW xG g), vi (own_hb xW xG g), vi (own_off xW xG 4 g 1), vi 1, vi (own_bw xW xG 4 g 1)] [(.int (64 : Int32)), (.int (own_bw xW xG 4 g 1)), (.int (((Int32.ofNat g) * (4 : Int32)) + (1 : Int32))), (.ref bm)])) := by
      intro P k
      by_cases k14 : (own_bw xW xG 4 g 1) = (64 : Int32)
      · refine o_icN B51 470 473 d2_470 rfl (XT.ii_ne_f k14) ?_
        refine o_ldc2 B51 473 476 d2_473 rfl (hw _ (mi 92 rfl)) ?_
        refine o_goto B51 476 485 d2_476 (by decide) (by decide) ?_
        have y0 : (q2_4s_25 xW xG xK rd tb g g1 g6 g7) = (-1 : Int64) := by simp only [q2_4s_25, if_pos k14]
        rw [y0] at k
        exact k
      · refine o_icY B51 470 479 d2_470 (XT.ii_ne_t k14) (by decide) (by decide) ?_
        refine o_lconst B51 479 480 (1 : Int64) d2_479 rfl (by decide) ?_
        refine o_iload B51 480 482 (v := (own_bw xW xG 4 g 1)) d2_480 rfl rfl ?_
        refine o_lshl B51 482 483 d2_482 rfl ?_
        refine o_lconst B51 483 484 (1 : Int64) d2_483 rfl (by decide) ?_
        refine o_lsub B51 484 485 d2_484 rfl ?_
        have y0 : (q2_4s_25 xW xG xK rd tb g g1 g6 g7) = (((1 : Int64) <<< ((own_bw xW xG 4 g 1).toInt64 &&& 63)) - (1 : Int64)) := by simp only [q2_4s_25, if_neg k14]
        rw [y0] at k
        exact k
    refine dm13 ?_
    refine o_iload B51 485 487 (v := (own_off xW xG 4 g 1)) d2_485 rfl rfl ?_
    refine o_lshl B51 487 488 d2_487 rfl ?_
    have F56 := ((A39.other W45 (Nat.ne_of_gt (by omega))).other W49 (Nat.ne_of_gt (by omega)))
    obtain ⟨T55, h55, L55, B55, N55, W55, Q55, c55⟩ := o_lastore B51 N49 (show n0 ≤ bm by omega) 488 489 F56 (j := (((Int32.ofNat g) * (4 : Int32)) + (1 : Int32))) (x := ((q2_4s_25 xW xG xK rd tb g g1 g6 g7) <<< ((own_off xW xG 4 g 1).toInt64 &&& 63))) (g * 4 + 1) (q2_4s_26 xW xG xK rd tb g g1 g6 g7) d2_488 rfl hb1.1 hb1.2 (by omega) rfl (Ls := #[vr a, vi xW, vi 0, vi xG, vi 4, vi xK, vi rd, vj tb, s2, vi (own_start xW xG g), vi (Int32.ofNat g), vi (own_bits xW xG g), vi (own_sh xW xG g), vi (own_hb xW xG g), vi (own_off xW xG 4 g 1), vi 1, vi (own_bw xW xG 4 g 1)]) (rest := [])
    have A55 : AJ Z h55 bm (xG.toInt.toNat * 4) (w2_4s_27 xW xG xK rd tb g g1 g6 g7) := Q55
    refine c55 ?_
    refine o_iload B55 489 491 (v := (own_off xW xG 4 g 1)) d2_489 rfl rfl ?_
    refine o_iload B55 491 493 (v := (own_bw xW xG 4 g 1)) d2_491 rfl rfl ?_
    refine o_iadd B55 493 494 d2_493 rfl ?_
    refine o_istore B55 494 496 (l' := #[vr a, vi xW, vi 0, vi xG, vi 4, vi xK, vi rd, vj tb, s2, vi (own_start xW xG g), vi (Int32.ofNat g), vi (own_bits xW xG g), vi (own_sh xW xG g), vi (own_hb xW xG g), vi (own_off xW xG 4 g 2), vi 1, vi (own_bw xW xG 4 g 1)]) d2_494 rfl rfl ?_
    refine o_iincC B55 496 499 (l' := #[vr a, vi xW, vi 0, vi xG, vi 4, vi xK, vi rd, vj tb, s2, vi (own_start xW xG g), vi (Int32.ofNat g), vi (own_bits xW xG g), vi (own_sh xW xG g), vi (own_hb xW xG g), vi (own_off xW xG 4 g 2), vi 2, vi (own_bw xW xG 4 g 1)]) (1 : Int32) (2 : Int32) d2_496 rfl (by decide) rfl (by decide) rfl ?_
    refine o_goto B55 499 394 d2_499 (by decide) (by decide) ?_
    refine o_iload B55 394 396 (v := (2 : Int32)) d2_394 rfl rfl ?_
    refine o_iload B55 396 398 (v := (4 : Int32)) d2_396 rfl rfl ?_
    refine o_icN B55 398 401 d2_398 rfl (XT.ii_ge_f (by decide)) ?_
    refine o_iload B55 401 403 (v := (own_bits xW xG g)) d2_401 rfl rfl ?_
    refine o_iload B55 403 405 (v := (4 : Int32)) d2_403 rfl rfl ?_
    refine o_idiv B55 405 406 d2_405 rfl (by decide) ?_
    refine o_iload B55 406 408 (v := (2 : Int32)) d2_406 rfl rfl ?_
    refine o_iload B55 408 410 (v := (own_bits xW xG g)) d2_408 rfl rfl ?_
    refine o_iload B55 410 412 (v := (4 : Int32)) d2_410 rfl rfl ?_
    refine o_irem B55 412 413 d2_412 rfl (by decide) ?_
    have dm15 : ∀ {P : Outcome → State → Prop}, OG p.tables e below P (T55.setTop (mkF m 421 #[vr a, vi xW, vi 0, vi xG, vi 4, vi xK, vi rd, vj tb, s2, vi (own_start xW xG g), vi (Int32.ofNat g), vi (own_bits xW xG g), vi (own_sh xW xG g), vi (own_hb xW xG g), vi (own_off xW xG 4 g 2), vi 2, vi (own_bw xW xG 4 g 1)] [(.int (q2_4s_29 xW xG xK rd tb g g1 g6 g7)), (.int ((own_bits xW xG g) / (4 : Int32)))])) → OG p.tables e below P (T55.setTop (mkF m 413 #[vr a, vi xW, vi 0, vi xG, vi 4, vi xK, vi rd, vj tb, s2, vi (own_start xW xG g), vi (Int32.ofNat g), vi (own_bits xW xG g), vi (own_sh xW xG g), vi (own_hb xW xG g), vi (own_off xW xG 4 g 2), vi 2, vi (own_bw xW xG 4 g 1)] [(.int ((own_bits xW xG g) % (4 : Int32))), (.int (2 : Int32)), (.int ((own_bits xW xG g) / (4 : Int32)))])) := by
      intro P k
      by_cases k16 : (2 : Int32) < ((own_bits xW xG g) % (4 : Int32))
      · refine o_icN B55 413 416 d2_413 rfl (XT.ii_ge_f k16) ?_
        refine o_iconst B55 416 417 (1 : Int32) d2_416 rfl (by decide) ?_
        refine o_goto B55 417 421 d2_417 (by decide) (by decide) ?_
        have y0 : (q2_4s_29 xW xG xK rd tb g g1 g6 g7) = (1 : Int32) := by simp only [q2_4s_29, if_pos k16]
        rw [y0] at k
        exact k
      · refine o_icY B55 413 420 d2_413 (XT.ii_ge_t k16) (by decide) (by decide) ?_
        refine o_iconst B55 420 421 (0 : Int32) d2_420 rfl (by decide) ?_
        have y0 : (q2_4s_29 xW xG xK rd tb g g1 g6 g7) = (0 : Int32) := by simp only [q2_4s_29, if_neg k16]
        rw [y0] at k
        exact k
    refine dm15 ?_
    refine o_iadd B55 421 422 d2_421 rfl ?_
    refine o_istore B55 422 424 (l' := #[vr a, vi xW, vi 0, vi xG, vi 4, vi xK, vi rd, vj tb, s2, vi (own_start xW xG g), vi (Int32.ofNat g), vi (own_bits xW xG g), vi (own_sh xW xG g), vi (own_hb xW xG g), vi (own_off xW xG 4 g 2), vi 2, vi (own_bw xW xG 4 g 2)]) d2_422 rfl rfl ?_
    refine o_aloadN B55 424 425 (v := (.ref a)) d2_424 rfl rfl rfl ?_
    have F60 := (Fld.other W55 (Fld.other W49 (Fld.other W45 F44 (Or.inl (Nat.ne_of_lt (by omega)))) (Or.inl (Nat.ne_of_lt (by omega)))) (Or.inl (Nat.ne_of_lt (by omega))))
    obtain ⟨T59, B59, c59⟩ := o_getfield B55 425 428 d2_425 rfl (host := "") (Or.inl (hw _ (mi 56 rfl))) Via.refl F60 (Ls := #[vr a, vi xW, vi 0, vi xG, vi 4, vi xK, vi rd, vj tb, s2, vi (own_start xW xG g), vi (Int32.ofNat g), vi (own_bits xW xG g), vi (own_sh xW xG g), vi (own_hb xW xG g), vi (own_off xW xG 4 g 2), vi 2, vi (own_bw xW xG 4 g 2)]) (rest := [])
    refine c59 ?_
    refine o_iload B59 428 430 (v := (Int32.ofNat g)) d2_428 rfl rfl ?_
    refine o_iload B59 430 432 (v := (4 : Int32)) d2_430 rfl rfl ?_
    refine o_imul B59 432 433 d2_432 rfl ?_
    refine o_iload B59 433 435 (v := (2 : Int32)) d2_433 rfl rfl ?_
    refine o_iadd B59 435 436 d2_435 rfl ?_
    refine o_iload B59 436 438 (v := (own_off xW xG 4 g 2)) d2_436 rfl rfl ?_
    have F62 := ((A45.other W49 (Nat.ne_of_lt (by omega))).other W55 (Nat.ne_of_lt (by omega)))
    obtain ⟨T61, h61, L61, B61, N61, W61, Q61, c61⟩ := o_iastore B59 N55 (show n0 ≤ bo by omega) 438 439 F62 (j := (((Int32.ofNat g) * (4 : Int32)) + (2 : Int32))) (x := (own_off xW xG 4 g 2)) (g * 4 + 2) (own_off xW xG 4 g 2) d2_438 rfl hb2.1 hb2.2 (by omega) rfl (Ls := #[vr a, vi xW, vi 0, vi xG, vi 4, vi xK, vi rd, vj tb, s2, vi (own_start xW xG g), vi (Int32.ofNat g), vi (own_bits xW xG g), vi (own_sh xW xG g), vi (own_hb xW xG g), vi (own_off xW xG 4 g 2), vi 2, vi (own_bw xW xG 4 g 2)]) (rest := [])
    have A61 : AI Z h61 bo .int (xG.toInt.toNat * 4) (w2_4s_31 xW xG xK rd tb g g1 g6 g7) := Q61
    refine c61 ?_
    refine o_aloadN B61 439 440 (v := (.ref a)) d2_439 rfl rfl rfl ?_
    have F64 := (Fld.other W61 (Fld.other W55 (Fld.other W49 F48 (Or.inl (Nat.ne_of_lt (by omega)))) (Or.inl (Nat.ne_of_lt (by omega)))) (Or.inl (Nat.ne_of_lt (by omega))))
    obtain ⟨T63, B63, c63⟩ := o_getfield B61 440 443 d2_440 rfl (host := "") (Or.inl (hw _ (mi 58 rfl))) Via.refl F64 (Ls := #[vr a, vi xW, vi 0, vi xG, vi 4, vi xK, vi rd, vj tb, s2, vi (own_start xW xG g), vi (Int32.ofNat g), vi (own_bits xW xG g), vi (own_sh xW xG g), vi (own_hb xW xG g), vi (own_off xW xG 4 g 2), vi 2, vi (own_bw xW xG 4 g 2)]) (rest := [])
    refine c63 ?_
    refine o_iload B63 443 445 (v := (Int32.ofNat g)) d2_443 rfl rfl ?_
    refine o_iload B63 445 447 (v := (4 : Int32)) d2_445 rfl rfl ?_
    refine o_imul B63 447 448 d2_447 rfl ?_
    refine o_iload B63 448 450 (v := (2 : Int32)) d2_448 rfl rfl ?_
    refine o_iadd B63 450 451 d2_450 rfl ?_
    refine o_iload B63 451 453 (v := (own_bw xW xG 4 g 2)) d2_451 rfl rfl ?_
    have F66 := ((A49.other W55 (Nat.ne_of_lt (by omega))).other W61 (Nat.ne_of_gt (by omega)))
    obtain ⟨T65, h65, L65, B65, N65, W65, Q65, c65⟩ := o_iastore B63 N61 (show n0 ≤ bw by omega) 453 454 F66 (j := (((Int32.ofNat g) * (4 : Int32)) + (2 : Int32))) (x := (own_bw xW xG 4 g 2)) (g * 4 + 2) (own_bw xW xG 4 g 2) d2_453 rfl hb2.1 hb2.2 (by omega) rfl (Ls := #[vr a, vi xW, vi 0, vi xG, vi 4, vi xK, vi rd, vj tb, s2, vi (own_start xW xG g), vi (Int32.ofNat g), vi (own_bits xW xG g), vi (own_sh xW xG g), vi (own_hb xW xG g), vi (own_off xW xG 4 g 2), vi 2, vi (own_bw xW xG 4 g 2)]) (rest := [])
    have A65 : AI Z h65 bw .int (xG.toInt.toNat * 4) (w2_4s_32 xW xG xK rd tb g g1 g6 g7) := Q65
    refine c65 ?_
    refine o_aloadN B65 454 455 (v := (.ref a)) d2_454 rfl rfl rfl ?_
    have F68 := (Fld.other W65 (Fld.other W61 (Fld.other W55 F52 (Or.inl (Nat.ne_of_lt (by omega)))) (Or.inl (Nat.ne_of_lt (by omega)))) (Or.inl (Nat.ne_of_lt (by omega))))
    obtain ⟨T67, B67, c67⟩ := o_getfield B65 455 458 d2_455 rfl (host := "") (Or.inl (hw _ (mi 60 rfl))) Via.refl F68 (Ls := #[vr a, vi xW, vi 0, vi xG, vi 4, vi xK, vi rd, vj tb, s2, vi (own_start xW xG g), vi (Int32.ofNat g), vi (own_bits xW xG g), vi (own_sh xW xG g), vi (own_hb xW xG g), vi (own_off xW xG 4 g 2), vi 2, vi (own_bw xW xG 4 g 2)]) (rest := [])
    refine c67 ?_
    refine o_iload B67 458 460 (v := (Int32.ofNat g)) d2_458 rfl rfl ?_
    refine o_iload B67 460 462 (v := (4 : Int32)) d2_460 rfl rfl ?_
    refine o_imul B67 462 463 d2_462 rfl ?_
    refine o_iload B67 463 465 (v := (2 : Int32)) d2_463 rfl rfl ?_
    refine o_iadd B67 465 466 d2_465 rfl ?_
    refine o_iload B67 466 468 (v := (own_bw xW xG 4 g 2)) d2_466 rfl rfl ?_
    refine o_bipush B67 468 470 (64 : Int32) d2_468 rfl (by decide) ?_
    have dm17 : ∀ {P : Outcome → State → Prop}, OG p.tables e below P (T67.setTop (mkF m 485 #[vr a, vi xW, vi 0, vi xG, vi 4, vi xK, vi rd, vj tb, s2, vi (own_start xW xG g), vi (Int32.ofNat g), vi (own_bits xW xG g), vi (own_sh xW xG g), vi (own_hb xW xG g), vi (own_off xW xG 4 g 2), vi 2, vi (own_bw xW xG 4 g 2)] [(.long (q2_4s_33 xW xG xK rd tb g g1 g6 g7)), (.int (((Int32.ofNat g) * (4 : Int32)) + (2 : Int32))), (.ref bm)])) → OG p.tables e below P (T67.setTop (mkF m 470 #[vr a, vi xW, vi 0, vi xG, vi 4, vi xK, vi rd, vj tb, s2, vi (own_start xW xG g), vi (Int32.ofNat g), vi (own_bits xW xG g), vi (own_sh xW xG g), vi (own_hb xW xG g), vi (own_off xW xG 4 g 2), vi 2, vi (own_bw xW xG 4 g 2)] [(.int (64 : Int32)), (.int (own_bw xW xG 4 g 2)), (.int (((Int32.ofNat g) * (4 : Int32)) + (2 : Int32))), (.ref bm)])) := by
      intro P k
      by_cases k18 : (own_bw xW xG 4 g 2) = (64 : Int32)
      · refine o_icN B67 470 473 d2_470 rfl (XT.ii_ne_f k18) ?_
        refine o_ldc2 B67 473 476 d2_473 rfl (hw _ (mi 92 rfl)) ?_
        refine o_goto B67 476 485 d2_476 (by decide) (by decide) ?_
        have y0 : (q2_4s_33 xW xG xK rd tb g g1 g6 g7) = (-1 : Int64) := by simp only [q2_4s_33, if_pos k18]
        rw [y0] at k
        exact k
      · refine o_icY B67 470 479 d2_470 (XT.ii_ne_t k18) (by decide) (by decide) ?_
        refine o_lconst B67 479 480 (1 : Int64) d2_479 rfl (by decide) ?_
        refine o_iload B67 480 482 (v := (own_bw xW xG 4 g 2)) d2_480 rfl rfl ?_
        refine o_lshl B67 482 483 d2_482 rfl ?_
        refine o_lconst B67 483 484 (1 : Int64) d2_483 rfl (by decide) ?_
        refine o_lsub B67 484 485 d2_484 rfl ?_
        have y0 : (q2_4s_33 xW xG xK rd tb g g1 g6 g7) = (((1 : Int64) <<< ((own_bw xW xG 4 g 2).toInt64 &&& 63)) - (1 : Int64)) := by simp only [q2_4s_33, if_neg k18]
        rw [y0] at k
        exact k
    refine dm17 ?_
    refine o_iload B67 485 487 (v := (own_off xW xG 4 g 2)) d2_485 rfl rfl ?_
    refine o_lshl B67 487 488 d2_487 rfl ?_
    have F72 := ((A55.other W61 (Nat.ne_of_gt (by omega))).other W65 (Nat.ne_of_gt (by omega)))
    obtain ⟨T71, h71, L71, B71, N71, W71, Q71, c71⟩ := o_lastore B67 N65 (show n0 ≤ bm by omega) 488 489 F72 (j := (((Int32.ofNat g) * (4 : Int32)) + (2 : Int32))) (x := ((q2_4s_33 xW xG xK rd tb g g1 g6 g7) <<< ((own_off xW xG 4 g 2).toInt64 &&& 63))) (g * 4 + 2) (q2_4s_34 xW xG xK rd tb g g1 g6 g7) d2_488 rfl hb2.1 hb2.2 (by omega) rfl (Ls := #[vr a, vi xW, vi 0, vi xG, vi 4, vi xK, vi rd, vj tb, s2, vi (own_start xW xG g), vi (Int32.ofNat g), vi (own_bits xW xG g), vi (own_sh xW xG g), vi (own_hb xW xG g), vi (own_off xW xG 4 g 2), vi 2, vi (own_bw xW xG 4 g 2)]) (rest := [])
    have A71 : AJ Z h71 bm (xG.toInt.toNat * 4) (w2_4s_35 xW xG xK rd tb g g1 g6 g7) := Q71
    refine c71 ?_
    refine o_iload B71 489 491 (v := (own_off xW xG 4 g 2)) d2_489 rfl rfl ?_
    refine o_iload B71 491 493 (v := (own_bw xW xG 4 g 2)) d2_491 rfl rfl ?_
    refine o_iadd B71 493 494 d2_493 rfl ?_
    refine o_istore B71 494 496 (l' := #[vr a, vi xW, vi 0, vi xG, vi 4, vi xK, vi rd, vj tb, s2, vi (own_start xW xG g), vi (Int32.ofNat g), vi (own_bits xW xG g), vi (own_sh xW xG g), vi (own_hb xW xG g), vi (own_off xW xG 4 g 3), vi 2, vi (own_bw xW xG 4 g 2)]) d2_494 rfl rfl ?_
    refine o_iincC B71 496 499 (l' := #[vr a, vi xW, vi 0, vi xG, vi 4, vi xK, vi rd, vj tb, s2, vi (own_start xW xG g), vi (Int32.ofNat g), vi (own_bits xW xG g), vi (own_sh xW xG g), vi (own_hb xW xG g), vi (own_off xW xG 4 g 3), vi 3, vi (own_bw xW xG 4 g 2)]) (1 : Int32) (3 : Int32) d2_496 rfl (by decide) rfl (by decide) rfl ?_
    refine o_goto B71 499 394 d2_499 (by decide) (by decide) ?_
    refine o_iload B71 394 396 (v := (3 : Int32)) d2_394 rfl rfl ?_
    refine o_iload B71 396 398 (v := (4 : Int32)) d2_396 rfl rfl ?_
    refine o_icN B71 398 401 d2_398 rfl (XT.ii_ge_f (by decide)) ?_
    refine o_iload B71 401 403 (v := (own_bits xW xG g)) d2_401 rfl rfl ?_
    refine o_iload B71 403 405 (v := (4 : Int32)) d2_403 rfl rfl ?_
    refine o_idiv B71 405 406 d2_405 rfl (by decide) ?_
    refine o_iload B71 406 408 (v := (3 : Int32)) d2_406 rfl rfl ?_
    refine o_iload B71 408 410 (v := (own_bits xW xG g)) d2_408 rfl rfl ?_
    refine o_iload B71 410 412 (v := (4 : Int32)) d2_410 rfl rfl ?_
    refine o_irem B71 412 413 d2_412 rfl (by decide) ?_
    have dm19 : ∀ {P : Outcome → State → Prop}, OG p.tables e below P (T71.setTop (mkF m 421 #[vr a, vi xW, vi 0, vi xG, vi 4, vi xK, vi rd, vj tb, s2, vi (own_start xW xG g), vi (Int32.ofNat g), vi (own_bits xW xG g), vi (own_sh xW xG g), vi (own_hb xW xG g), vi (own_off xW xG 4 g 3), vi 3, vi (own_bw xW xG 4 g 2)] [(.int (q2_4s_37 xW xG xK rd tb g g1 g6 g7)), (.int ((own_bits xW xG g) / (4 : Int32)))])) → OG p.tables e below P (T71.setTop (mkF m 413 #[vr a, vi xW, vi 0, vi xG, vi 4, vi xK, vi rd, vj tb, s2, vi (own_start xW xG g), vi (Int32.ofNat g), vi (own_bits xW xG g), vi (own_sh xW xG g), vi (own_hb xW xG g), vi (own_off xW xG 4 g 3), vi 3, vi (own_bw xW xG 4 g 2)] [(.int ((own_bits xW xG g) % (4 : Int32))), (.int (3 : Int32)), (.int ((own_bits xW xG g) / (4 : Int32)))])) := by
      intro P k
      by_cases k20 : (3 : Int32) < ((own_bits xW xG g) % (4 : Int32))
      · refine o_icN B71 413 416 d2_413 rfl (XT.ii_ge_f k20) ?_
        refine o_iconst B71 416 417 (1 : Int32) d2_416 rfl (by decide) ?_
        refine o_goto B71 417 421 d2_417 (by decide) (by decide) ?_
        have y0 : (q2_4s_37 xW xG xK rd tb g g1 g6 g7) = (1 : Int32) := by simp only [q2_4s_37, if_pos k20]
        rw [y0] at k
        exact k
      · refine o_icY B71 413 420 d2_413 (XT.ii_ge_t k20) (by decide) (by decide) ?_
        refine o_iconst B71 420 421 (0 : Int32) d2_420 rfl (by decide) ?_
        have y0 : (q2_4s_37 xW xG xK rd tb g g1 g6 g7) = (0 : Int32) := by simp only [q2_4s_37, if_neg k20]
        rw [y0] at k
        exact k
    refine dm19 ?_
    refine o_iadd B71 421 422 d2_421 rfl ?_
    refine o_istore B71 422 424 (l' := #[vr a, vi xW, vi 0, vi xG, vi 4, vi xK, vi rd, vj tb, s2, vi (own_start xW xG g), vi (Int32.ofNat g), vi (own_bits xW xG g), vi (own_sh xW xG g), vi (own_hb xW xG g), vi (own_off xW xG 4 g 3), vi 3, vi (own_bw xW xG 4 g 3)]) d2_422 rfl rfl ?_
    refine o_aloadN B71 424 425 (v := (.ref a)) d2_424 rfl rfl rfl ?_
    have F76 := (Fld.other W71 (Fld.other W65 (Fld.other W61 F60 (Or.inl (Nat.ne_of_lt (by omega)))) (Or.inl (Nat.ne_of_lt (by omega)))) (Or.inl (Nat.ne_of_lt (by omega))))
    obtain ⟨T75, B75, c75⟩ := o_getfield B71 425 428 d2_425 rfl (host := "") (Or.inl (hw _ (mi 56 rfl))) Via.refl F76 (Ls := #[vr a, vi xW, vi 0, vi xG, vi 4, vi xK, vi rd, vj tb, s2, vi (own_start xW xG g), vi (Int32.ofNat g), vi (own_bits xW xG g), vi (own_sh xW xG g), vi (own_hb xW xG g), vi (own_off xW xG 4 g 3), vi 3, vi (own_bw xW xG 4 g 3)]) (rest := [])
    refine c75 ?_
    refine o_iload B75 428 430 (v := (Int32.ofNat g)) d2_428 rfl rfl ?_
    refine o_iload B75 430 432 (v := (4 : Int32)) d2_430 rfl rfl ?_
    refine o_imul B75 432 433 d2_432 rfl ?_
    refine o_iload B75 433 435 (v := (3 : Int32)) d2_433 rfl rfl ?_
    refine o_iadd B75 435 436 d2_435 rfl ?_
    refine o_iload B75 436 438 (v := (own_off xW xG 4 g 3)) d2_436 rfl rfl ?_
    have F78 := ((A61.other W65 (Nat.ne_of_lt (by omega))).other W71 (Nat.ne_of_lt (by omega)))
    obtain ⟨T77, h77, L77, B77, N77, W77, Q77, c77⟩ := o_iastore B75 N71 (show n0 ≤ bo by omega) 438 439 F78 (j := (((Int32.ofNat g) * (4 : Int32)) + (3 : Int32))) (x := (own_off xW xG 4 g 3)) (g * 4 + 3) (own_off xW xG 4 g 3) d2_438 rfl hb3.1 hb3.2 (by omega) rfl (Ls := #[vr a, vi xW, vi 0, vi xG, vi 4, vi xK, vi rd, vj tb, s2, vi (own_start xW xG g), vi (Int32.ofNat g), vi (own_bits xW xG g), vi (own_sh xW xG g), vi (own_hb xW xG g), vi (own_off xW xG 4 g 3), vi 3, vi (own_bw xW xG 4 g 3)]) (rest := [])
    have A77 : AI Z h77 bo .int (xG.toInt.toNat * 4) (w2_4s_39 xW xG xK rd tb g g1 g6 g7) := Q77
    refine c77 ?_
    refine o_aloadN B77 439 440 (v := (.ref a)) d2_439 rfl rfl rfl ?_
    have F80 := (Fld.other W77 (Fld.other W71 (Fld.other W65 F64 (Or.inl (Nat.ne_of_lt (by omega)))) (Or.inl (Nat.ne_of_lt (by omega)))) (Or.inl (Nat.ne_of_lt (by omega))))
    obtain ⟨T79, B79, c79⟩ := o_getfield B77 440 443 d2_440 rfl (host := "") (Or.inl (hw _ (mi 58 rfl))) Via.refl F80 (Ls := #[vr a, vi xW, vi 0, vi xG, vi 4, vi xK, vi rd, vj tb, s2, vi (own_start xW xG g), vi (Int32.ofNat g), vi (own_bits xW xG g), vi (own_sh xW xG g), vi (own_hb xW xG g), vi (own_off xW xG 4 g 3), vi 3, vi (own_bw xW xG 4 g 3)]) (rest := [])
    refine c79 ?_
    refine o_iload B79 443 445 (v := (Int32.ofNat g)) d2_443 rfl rfl ?_
    refine o_iload B79 445 447 (v := (4 : Int32)) d2_445 rfl rfl ?_
    refine o_imul B79 447 448 d2_447 rfl ?_
    refine o_iload B79 448 450 (v := (3 : Int32)) d2_448 rfl rfl ?_
    refine o_iadd B79 450 451 d2_450 rfl ?_
    refine o_iload B79 451 453 (v := (own_bw xW xG 4 g 3)) d2_451 rfl rfl ?_
    have F82 := ((A65.other W71 (Nat.ne_of_lt (by omega))).other W77 (Nat.ne_of_gt (by omega)))
    obtain ⟨T81, h81, L81, B81, N81, W81, Q81, c81⟩ := o_iastore B79 N77 (show n0 ≤ bw by omega) 453 454 F82 (j := (((Int32.ofNat g) * (4 : Int32)) + (3 : Int32))) (x := (own_bw xW xG 4 g 3)) (g * 4 + 3) (own_bw xW xG 4 g 3) d2_453 rfl hb3.1 hb3.2 (by omega) rfl (Ls := #[vr a, vi xW, vi 0, vi xG, vi 4, vi xK, vi rd, vj tb, s2, vi (own_start xW xG g), vi (Int32.ofNat g), vi (own_bits xW xG g), vi (own_sh xW xG g), vi (own_hb xW xG g), vi (own_off xW xG 4 g 3), vi 3, vi (own_bw xW xG 4 g 3)]) (rest := [])
    have A81 : AI Z h81 bw .int (xG.toInt.toNat * 4) (w2_4s_40 xW xG xK rd tb g g1 g6 g7) := Q81
    refine c81 ?_
    refine o_aloadN B81 454 455 (v := (.ref a)) d2_454 rfl rfl rfl ?_
    have F84 := (Fld.other W81 (Fld.other W77 (Fld.other W71 F68 (Or.inl (Nat.ne_of_lt (by omega)))) (Or.inl (Nat.ne_of_lt (by omega)))) (Or.inl (Nat.ne_of_lt (by omega))))
    obtain ⟨T83, B83, c83⟩ := o_getfield B81 455 458 d2_455 rfl (host := "") (Or.inl (hw _ (mi 60 rfl))) Via.refl F84 (Ls := #[vr a, vi xW, vi 0, vi xG, vi 4, vi xK, vi rd, vj tb, s2, vi (own_start xW xG g), vi (Int32.ofNat g), vi (own_bits xW xG g), vi (own_sh xW xG g), vi (own_hb xW xG g), vi (own_off xW xG 4 g 3), vi 3, vi (own_bw xW xG 4 g 3)]) (rest := [])
    refine c83 ?_
    refine o_iload B83 458 460 (v := (Int32.ofNat g)) d2_458 rfl rfl ?_
    refine o_iload B83 460 462 (v := (4 : Int32)) d2_460 rfl rfl ?_
    refine o_imul B83 462 463 d2_462 rfl ?_
    refine o_iload B83 463 465 (v := (3 : Int32)) d2_463 rfl rfl ?_
    refine o_iadd B83 465 466 d2_465 rfl ?_
    refine o_iload B83 466 468 (v := (own_bw xW xG 4 g 3)) d2_466 rfl rfl ?_
    refine o_bipush B83 468 470 (64 : Int32) d2_468 rfl (by decide) ?_
    have dm21 : ∀ {P : Outcome → State → Prop}, OG p.tables e below P (T83.setTop (mkF m 485 #[vr a, vi xW, vi 0, vi xG, vi 4, vi xK, vi rd, vj tb, s2, vi (own_start xW xG g), vi (Int32.ofNat g), vi (own_bits xW xG g), vi (own_sh xW xG g), vi (own_hb xW xG g), vi (own_off xW xG 4 g 3), vi 3, vi (own_bw xW xG 4 g 3)] [(.long (q2_4s_41 xW xG xK rd tb g g1 g6 g7)), (.int (((Int32.ofNat g) * (4 : Int32)) + (3 : Int32))), (.ref bm)])) → OG p.tables e below P (T83.setTop (mkF m 470 #[vr a, vi xW, vi 0, vi xG, vi 4, vi xK, vi rd, vj tb, s2, vi (own_start xW xG g), vi (Int32.ofNat g), vi (own_bits xW xG g), vi (own_sh xW xG g), vi (own_hb xW xG g), vi (own_off xW xG 4 g 3), vi 3, vi (own_bw xW xG 4 g 3)] [(.int (64 : Int32)), (.int (own_bw xW xG 4 g 3)), (.int (((Int32.ofNat g) * (4 : Int32)) + (3 : Int32))), (.ref bm)])) := by
      intro P k
      by_cases k22 : (own_bw xW xG 4 g 3) = (64 : Int32)
      · refine o_icN B83 470 473 d2_470 rfl (XT.ii_ne_f k22) ?_
        refine o_ldc2 B83 473 476 d2_473 rfl (hw _ (mi 92 rfl)) ?_
        refine o_goto B83 476 485 d2_476 (by decide) (by decide) ?_
        have y0 : (q2_4s_41 xW xG xK rd tb g g1 g6 g7) = (-1 : Int64) := by simp only [q2_4s_41, if_pos k22]
        rw [y0] at k
        exact k
      · refine o_icY B83 470 479 d2_470 (XT.ii_ne_t k22) (by decide) (by decide) ?_
        refine o_lconst B83 479 480 (1 : Int64) d2_479 rfl (by decide) ?_
        refine o_iload B83 480 482 (v := (own_bw xW xG 4 g 3)) d2_480 rfl rfl ?_
        refine o_lshl B83 482 483 d2_482 rfl ?_
        refine o_lconst B83 483 484 (1 : Int64) d2_483 rfl (by decide) ?_
        refine o_lsub B83 484 485 d2_484 rfl ?_
        have y0 : (q2_4s_41 xW xG xK rd tb g g1 g6 g7) = (((1 : Int64) <<< ((own_bw xW xG 4 g 3).toInt64 &&& 63)) - (1 : Int64)) := by simp only [q2_4s_41, if_neg k22]
        rw [y0] at k
        exact k
    refine dm21 ?_
    refine o_iload B83 485 487 (v := (own_off xW xG 4 g 3)) d2_485 rfl rfl ?_
    refine o_lshl B83 487 488 d2_487 rfl ?_
    have F88 := ((A71.other W77 (Nat.ne_of_gt (by omega))).other W81 (Nat.ne_of_gt (by omega)))
    obtain ⟨T87, h87, L87, B87, N87, W87, Q87, c87⟩ := o_lastore B83 N81 (show n0 ≤ bm by omega) 488 489 F88 (j := (((Int32.ofNat g) * (4 : Int32)) + (3 : Int32))) (x := ((q2_4s_41 xW xG xK rd tb g g1 g6 g7) <<< ((own_off xW xG 4 g 3).toInt64 &&& 63))) (g * 4 + 3) (q2_4s_42 xW xG xK rd tb g g1 g6 g7) d2_488 rfl hb3.1 hb3.2 (by omega) rfl (Ls := #[vr a, vi xW, vi 0, vi xG, vi 4, vi xK, vi rd, vj tb, s2, vi (own_start xW xG g), vi (Int32.ofNat g), vi (own_bits xW xG g), vi (own_sh xW xG g), vi (own_hb xW xG g), vi (own_off xW xG 4 g 3), vi 3, vi (own_bw xW xG 4 g 3)]) (rest := [])
    have A87 : AJ Z h87 bm (xG.toInt.toNat * 4) (w2_4s_43 xW xG xK rd tb g g1 g6 g7) := Q87
    refine c87 ?_
    refine o_iload B87 489 491 (v := (own_off xW xG 4 g 3)) d2_489 rfl rfl ?_
    refine o_iload B87 491 493 (v := (own_bw xW xG 4 g 3)) d2_491 rfl rfl ?_
    refine o_iadd B87 493 494 d2_493 rfl ?_
    refine o_istore B87 494 496 (l' := #[vr a, vi xW, vi 0, vi xG, vi 4, vi xK, vi rd, vj tb, s2, vi (own_start xW xG g), vi (Int32.ofNat g), vi (own_bits xW xG g), vi (own_sh xW xG g), vi (own_hb xW xG g), vi (own_off xW xG 4 g 4), vi 3, vi (own_bw xW xG 4 g 3)]) d2_494 rfl rfl ?_
    refine o_iincC B87 496 499 (l' := #[vr a, vi xW, vi 0, vi xG, vi 4, vi xK, vi rd, vj tb, s2, vi (own_start xW xG g), vi (Int32.ofNat g), vi (own_bits xW xG g), vi (own_sh xW xG g), vi (own_hb xW xG g), vi (own_off xW xG 4 g 4), vi 4, vi (own_bw xW xG 4 g 3)]) (1 : Int32) (4 : Int32) d2_496 rfl (by decide) rfl (by decide) rfl ?_
    refine o_goto B87 499 394 d2_499 (by decide) (by decide) ?_
    refine o_iload B87 394 396 (v := (4 : Int32)) d2_394 rfl rfl ?_
    refine o_iload B87 396 398 (v := (4 : Int32)) d2_396 rfl rfl ?_
    refine o_icY B87 398 502 d2_398 (XT.ii_ge_t (by decide)) (by decide) (by decide) ?_
    refine o_iload B87 502 504 (v := (own_start xW xG g)) d2_502 rfl rfl ?_
    refine o_iload B87 504 506 (v := (own_bits xW xG g)) d2_504 rfl rfl ?_
    refine o_iadd B87 506 507 d2_506 rfl ?_
    refine o_istore B87 507 509 (l' := #[vr a, vi xW, vi 0, vi xG, vi 4, vi xK, vi rd, vj tb, s2, vi (own_start xW xG (g + 1)), vi (Int32.ofNat g), vi (own_bits xW xG g), vi (own_sh xW xG g), vi (own_hb xW xG g), vi (own_off xW xG 4 g 4), vi 4, vi (own_bw xW xG 4 g 3)]) d2_507 rfl rfl ?_
    refine o_iincC B87 509 512 (l' := #[vr a, vi xW, vi 0, vi xG, vi 4, vi xK, vi rd, vj tb, s2, vi (own_start xW xG (g + 1)), vi (Int32.ofNat (g + 1)), vi (own_bits xW xG g), vi (own_sh xW xG g), vi (own_hb xW xG g), vi (own_off xW xG 4 g 4), vi 4, vi (own_bw xW xG 4 g 3)]) (1 : Int32) (Int32.ofNat (g + 1)) d2_509 rfl (by decide) rfl (own_inc g) rfl ?_
    refine o_goto B87 512 265 d2_512 (by decide) (by decide) ?_
    have F89 := ((((((((((((((((A4.other W7 (Nat.ne_of_lt (by omega))).other W11 (Nat.ne_of_lt (by omega))).other W17 (Nat.ne_of_lt (by omega))).other W23 (Nat.ne_of_lt (by omega))).other W29 (Nat.ne_of_lt (by omega))).other W33 (Nat.ne_of_lt (by omega))).other W39 (Nat.ne_of_lt (by omega))).other W45 (Nat.ne_of_lt (by omega))).other W49 (Nat.ne_of_lt (by omega))).other W55 (Nat.ne_of_lt (by omega))).other W61 (Nat.ne_of_lt (by omega))).other W65 (Nat.ne_of_lt (by omega))).other W71 (Nat.ne_of_lt (by omega))).other W77 (Nat.ne_of_lt (by omega))).other W81 (Nat.ne_of_lt (by omega))).other W87 (Nat.ne_of_lt (by omega)))
    have F90 := (((((((((((((((A7.other W11 (Nat.ne_of_lt (by omega))).other W17 (Nat.ne_of_lt (by omega))).other W23 (Nat.ne_of_lt (by omega))).other W29 (Nat.ne_of_lt (by omega))).other W33 (Nat.ne_of_lt (by omega))).other W39 (Nat.ne_of_lt (by omega))).other W45 (Nat.ne_of_lt (by omega))).other W49 (Nat.ne_of_lt (by omega))).other W55 (Nat.ne_of_lt (by omega))).other W61 (Nat.ne_of_lt (by omega))).other W65 (Nat.ne_of_lt (by omega))).other W71 (Nat.ne_of_lt (by omega))).other W77 (Nat.ne_of_lt (by omega))).other W81 (Nat.ne_of_lt (by omega))).other W87 (Nat.ne_of_lt (by omega)))
    have R_fw : AI Z h87 fw .int xG.toInt.toNat (UpI (g + 1) (fun j => own_start xW xG j / 64)) := F90.alt (fun j hj => own_upI g _ j)
    have F91 := ((((((((((((((A11.other W17 (Nat.ne_of_lt (by omega))).other W23 (Nat.ne_of_lt (by omega))).other W29 (Nat.ne_of_lt (by omega))).other W33 (Nat.ne_of_lt (by omega))).other W39 (Nat.ne_of_lt (by omega))).other W45 (Nat.ne_of_lt (by omega))).other W49 (Nat.ne_of_lt (by omega))).other W55 (Nat.ne_of_lt (by omega))).other W61 (Nat.ne_of_lt (by omega))).other W65 (Nat.ne_of_lt (by omega))).other W71 (Nat.ne_of_lt (by omega))).other W77 (Nat.ne_of_lt (by omega))).other W81 (Nat.ne_of_lt (by omega))).other W87 (Nat.ne_of_lt (by omega)))
    have R_sh : AI Z h87 sh .int xG.toInt.toNat (UpI (g + 1) (own_sh xW xG)) := F91.alt (fun j hj => own_upI g _ j)
    have F92 := (((((((((((((A17.other W23 (Nat.ne_of_lt (by omega))).other W29 (Nat.ne_of_lt (by omega))).other W33 (Nat.ne_of_lt (by omega))).other W39 (Nat.ne_of_lt (by omega))).other W45 (Nat.ne_of_lt (by omega))).other W49 (Nat.ne_of_lt (by omega))).other W55 (Nat.ne_of_lt (by omega))).other W61 (Nat.ne_of_lt (by omega))).other W65 (Nat.ne_of_lt (by omega))).other W71 (Nat.ne_of_lt (by omega))).other W77 (Nat.ne_of_lt (by omega))).other W81 (Nat.ne_of_lt (by omega))).other W87 (Nat.ne_of_lt (by omega)))
    have R_lm : AJ Z h87 lm xG.toInt.toNat (UpJ (g + 1) (fun j => own_low (own_bits xW xG j) (own_sh xW xG j))) := F92.alt (fun j hj => own_upJ g _ j)
    have F93 := ((((((((((((A23.other W29 (Nat.ne_of_lt (by omega))).other W33 (Nat.ne_of_lt (by omega))).other W39 (Nat.ne_of_lt (by omega))).other W45 (Nat.ne_of_lt (by omega))).other W49 (Nat.ne_of_lt (by omega))).other W55 (Nat.ne_of_lt (by omega))).other W61 (Nat.ne_of_lt (by omega))).other W65 (Nat.ne_of_lt (by omega))).other W71 (Nat.ne_of_lt (by omega))).other W77 (Nat.ne_of_lt (by omega))).other W81 (Nat.ne_of_lt (by omega))).other W87 (Nat.ne_of_lt (by omega)))
    have R_hm : AJ Z h87 hm xG.toInt.toNat (UpJ (g + 1) (own_hi xW xG)) := F93.alt (fun j hj => own_upJ g _ j)
    have F94 := ((A77.other W81 (Nat.ne_of_lt (by omega))).other W87 (Nat.ne_of_lt (by omega)))
    have F95 := (A81.other W87 (Nat.ne_of_lt (by omega)))
    have R_bm : AJ Z h87 bm (xG.toInt.toNat * 4) (UpJ ((g + 1) * 4) (own_bmf xW xG 4 4)) := A87.alt (fun j hj => own_ub4 xW xG g j)
    have F96 := (Fld.other W87 (Fld.other W81 (Fld.other W77 (Fld.other W71 (Fld.other W65 (Fld.other W61 (Fld.other W55 (Fld.other W49 (Fld.other W45 (Fld.other W39 (Fld.other W33 (Fld.other W29 (Fld.other W23 (Fld.other W17 (Fld.other W11 (Fld.other W7 (Fld.other W4 F_gw (Or.inl (Nat.ne_of_lt (by omega)))) (Or.inl (Nat.ne_of_lt (by omega)))) (Or.inl (Nat.ne_of_lt (by omega)))) (Or.inl (Nat.ne_of_lt (by omega)))) (Or.inl (Nat.ne_of_lt (by omega)))) (Or.inl (Nat.ne_of_lt (by omega)))) (Or.inl (Nat.ne_of_lt (by omega)))) (Or.inl (Nat.ne_of_lt (by omega)))) (Or.inl (Nat.ne_of_lt (by omega)))) (Or.inl (Nat.ne_of_lt (by omega)))) (Or.inl (Nat.ne_of_lt (by omega)))) (Or.inl (Nat.ne_of_lt (by omega)))) (Or.inl (Nat.ne_of_lt (by omega)))) (Or.inl (Nat.ne_of_lt (by omega)))) (Or.inl (Nat.ne_of_lt (by omega)))) (Or.inl (Nat.ne_of_lt (by omega)))) (Or.inl (Nat.ne_of_lt (by omega))))
    have F97 := (Fld.other W87 (Fld.other W81 (Fld.other W77 (Fld.other W71 (Fld.other W65 (Fld.other W61 (Fld.other W55 (Fld.other W49 (Fld.other W45 (Fld.other W39 (Fld.other W33 (Fld.other W29 (Fld.other W23 (Fld.other W17 (Fld.other W11 (Fld.other W7 F6 (Or.inl (Nat.ne_of_lt (by omega)))) (Or.inl (Nat.ne_of_lt (by omega)))) (Or.inl (Nat.ne_of_lt (by omega)))) (Or.inl (Nat.ne_of_lt (by omega)))) (Or.inl (Nat.ne_of_lt (by omega)))) (Or.inl (Nat.ne_of_lt (by omega)))) (Or.inl (Nat.ne_of_lt (by omega)))) (Or.inl (Nat.ne_of_lt (by omega)))) (Or.inl (Nat.ne_of_lt (by omega)))) (Or.inl (Nat.ne_of_lt (by omega)))) (Or.inl (Nat.ne_of_lt (by omega)))) (Or.inl (Nat.ne_of_lt (by omega)))) (Or.inl (Nat.ne_of_lt (by omega)))) (Or.inl (Nat.ne_of_lt (by omega)))) (Or.inl (Nat.ne_of_lt (by omega)))) (Or.inl (Nat.ne_of_lt (by omega))))
    have F98 := (Fld.other W87 (Fld.other W81 (Fld.other W77 (Fld.other W71 (Fld.other W65 (Fld.other W61 (Fld.other W55 (Fld.other W49 (Fld.other W45 (Fld.other W39 (Fld.other W33 (Fld.other W29 (Fld.other W23 (Fld.other W17 (Fld.other W11 F10 (Or.inl (Nat.ne_of_lt (by omega)))) (Or.inl (Nat.ne_of_lt (by omega)))) (Or.inl (Nat.ne_of_lt (by omega)))) (Or.inl (Nat.ne_of_lt (by omega)))) (Or.inl (Nat.ne_of_lt (by omega)))) (Or.inl (Nat.ne_of_lt (by omega)))) (Or.inl (Nat.ne_of_lt (by omega)))) (Or.inl (Nat.ne_of_lt (by omega)))) (Or.inl (Nat.ne_of_lt (by omega)))) (Or.inl (Nat.ne_of_lt (by omega)))) (Or.inl (Nat.ne_of_lt (by omega)))) (Or.inl (Nat.ne_of_lt (by omega)))) (Or.inl (Nat.ne_of_lt (by omega)))) (Or.inl (Nat.ne_of_lt (by omega)))) (Or.inl (Nat.ne_of_lt (by omega))))
    have F99 := (Fld.other W87 (Fld.other W81 (Fld.other W77 (Fld.other W71 (Fld.other W65 (Fld.other W61 (Fld.other W55 (Fld.other W49 (Fld.other W45 (Fld.other W39 (Fld.other W33 (Fld.other W29 (Fld.other W23 (Fld.other W17 F14 (Or.inl (Nat.ne_of_lt (by omega)))) (Or.inl (Nat.ne_of_lt (by omega)))) (Or.inl (Nat.ne_of_lt (by omega)))) (Or.inl (Nat.ne_of_lt (by omega)))) (Or.inl (Nat.ne_of_lt (by omega)))) (Or.inl (Nat.ne_of_lt (by omega)))) (Or.inl (Nat.ne_of_lt (by omega)))) (Or.inl (Nat.ne_of_lt (by omega)))) (Or.inl (Nat.ne_of_lt (by omega)))) (Or.inl (Nat.ne_of_lt (by omega)))) (Or.inl (Nat.ne_of_lt (by omega)))) (Or.inl (Nat.ne_of_lt (by omega)))) (Or.inl (Nat.ne_of_lt (by omega)))) (Or.inl (Nat.ne_of_lt (by omega))))
    have F100 := (Fld.other W87 (Fld.other W81 (Fld.other W77 (Fld.other W71 (Fld.other W65 (Fld.other W61 (Fld.other W55 (Fld.other W49 (Fld.other W45 (Fld.other W39 (Fld.other W33 (Fld.other W29 (Fld.other W23 F20 (Or.inl (Nat.ne_of_lt (by omega)))) (Or.inl (Nat.ne_of_lt (by omega)))) (Or.inl (Nat.ne_of_lt (by omega)))) (Or.inl (Nat.ne_of_lt (by omega)))) (Or.inl (Nat.ne_of_lt (by omega)))) (Or.inl (Nat.ne_of_lt (by omega)))) (Or.inl (Nat.ne_of_lt (by omega)))) (Or.inl (Nat.ne_of_lt (by omega)))) (Or.inl (Nat.ne_of_lt (by omega)))) (Or.inl (Nat.ne_of_lt (by omega)))) (Or.inl (Nat.ne_of_lt (by omega)))) (Or.inl (Nat.ne_of_lt (by omega)))) (Or.inl (Nat.ne_of_lt (by omega))))
    have F101 := (Fld.other W87 (Fld.other W81 (Fld.other W77 F76 (Or.inl (Nat.ne_of_lt (by omega)))) (Or.inl (Nat.ne_of_lt (by omega)))) (Or.inl (Nat.ne_of_lt (by omega))))
    have F102 := (Fld.other W87 (Fld.other W81 F80 (Or.inl (Nat.ne_of_lt (by omega)))) (Or.inl (Nat.ne_of_lt (by omega))))
    have F103 := (Fld.other W87 F84 (Or.inl (Nat.ne_of_lt (by omega))))
    have F104 := (Exa.wr W87 (Exa.wr W81 (Exa.wr W77 (Exa.wr W71 (Exa.wr W65 (Exa.wr W61 (Exa.wr W55 (Exa.wr W49 (Exa.wr W45 (Exa.wr W39 (Exa.wr W33 (Exa.wr W29 (Exa.wr W23 (Exa.wr W17 (Exa.wr W11 (Exa.wr W7 (Exa.wr W4 hE)))))))))))))))))
    have KT105 := ((((((((((((((((((Keep.refl h [gw, fw, sh, lm, hm, bo, bw, bm]).wr W4 (Or.inl (mi 0 rfl))).wr W7 (Or.inl (mi 1 rfl))).wr W11 (Or.inl (mi 2 rfl))).wr W17 (Or.inl (mi 3 rfl))).wr W23 (Or.inl (mi 4 rfl))).wr W29 (Or.inl (mi 5 rfl))).wr W33 (Or.inl (mi 6 rfl))).wr W39 (Or.inl (mi 7 rfl))).wr W45 (Or.inl (mi 5 rfl))).wr W49 (Or.inl (mi 6 rfl))).wr W55 (Or.inl (mi 7 rfl))).wr W61 (Or.inl (mi 5 rfl))).wr W65 (Or.inl (mi 6 rfl))).wr W71 (Or.inl (mi 7 rfl))).wr W77 (Or.inl (mi 5 rfl))).wr W81 (Or.inl (mi 6 rfl))).wr W87 (Or.inl (mi 7 rfl)))
    exact ih (g + 1) _ _ _ _ _ _ _ _ _ _ _ _ (by omega) (One.val rfl) (One.val rfl) (One.val rfl) (One.val rfl) (One.val rfl) (One.val rfl) B87 N87 (Nat.le_trans hz KT105.1) F104 F96 F97 F98 F99 F100 F101 F102 F103 F89 R_fw R_sh R_lm R_hm F94 F95 R_bm (fun T2 h2 L2 s2 i2 v11 v12 v13 v14 v15 v16 f11 f12 f13 f14 f15 f16 r1 r6 r7 B2 N2 K2 c0 c1 c2 c3 c4 c5 c6 c7 => cont T2 h2 L2 s2 i2 v11 v12 v13 v14 v15 v16 f11 f12 f13 f14 f15 f16 r1 r6 r7 B2 N2 (Keep.trans KT105 K2 (allS (Or.inl (mi 0 rfl)) (allS (Or.inl (mi 1 rfl)) (allS (Or.inl (mi 2 rfl)) (allS (Or.inl (mi 3 rfl)) (allS (Or.inl (mi 4 rfl)) (allS (Or.inl (mi 5 rfl)) (allS (Or.inl (mi 6 rfl)) (allS (Or.inl (mi 7 rfl)) all0))))))))) c0 c1 c2 c3 c4 c5 c6 c7)
theorem pd__II_I : parseMethodDescriptor "(II)I" = some ⟨[.int, .int], some .int⟩ := by decide +kernel
theorem pd__J_I : parseMethodDescriptor "(J)I" = some ⟨[.long], some .int⟩ := by decide +kernel
theorem own_ix2 {gi bi c : Int32} {P n : Nat} (hg : 0 ≤ gi.toInt ∧ gi.toInt < n) (hb : 0 ≤ bi.toInt ∧ bi.toInt < P) (hc : c.toInt = P) (hP : P ≤ 4 ∧ n ≤ 2000) : ((gi * c) + bi).toInt = (gi.toInt.toNat * c.toInt.toNat + bi.toInt.toNat : Nat) ∧ gi.toInt.toNat * c.toInt.toNat + bi.toInt.toNat < n * P := by
  obtain ⟨G, hG⟩ : ∃ G : Nat, gi.toInt = G := ⟨gi.toInt.toNat, by omega⟩
  obtain ⟨b, hb'⟩ : ∃ b : Nat, bi.toInt = b := ⟨bi.toInt.toNat, by omega⟩
  have a := c_imul gi c
  have r := rng32 (gi * c)
  have d := c_iadd (gi * c) bi
  have e := rng32 (gi * c + bi)
  rw [hc, hG] at a
  rw [hb'] at d
  rw [hG] at hg
  rw [hb'] at hb
  have p : (G : Int) * (P : Int) ≤ 2000 * 4 := Int.mul_le_mul (by omega) (by omega) (by omega) (by omega)
  have p2 : (0 : Int) ≤ (G : Int) * (P : Int) := Int.mul_nonneg (by omega) (by omega)
  have q : (G + 1) * P ≤ n * P := Nat.mul_le_mul_right _ (by omega)
  rw [Nat.add_mul, Nat.one_mul] at q
  rw [hc, hG, hb']
  simp only [Int.toNat_natCast]
  constructor
  · rw [Int.natCast_add, Int.natCast_mul]
    omega
  · omega
theorem own_dv (t c : Nat) (h : t < 100000) (hc : 1 ≤ c ∧ c ≤ 6) : (Int32.ofNat t / Int32.ofNat c).toInt = (t / c : Nat) ∧ (Int32.ofNat t % Int32.ofNat c).toInt = (t % c : Nat) := by
  have e := own_on t h
  have e2 := own_on c (by omega)
  have d := (c_idiv (Int32.ofNat t) (Int32.ofNat c) c e2 (fun z => by rw [z] at e2; rw [show (-1 : Int32).toInt = -1 by decide] at e2; omega)).1 (by omega)
  have r := (c_irem (Int32.ofNat t) (Int32.ofNat c) c e2).1 (by omega)
  rw [d, r, e]
  exact ⟨rfl, rfl⟩
theorem own_gg (t c n : Nat) (h : t < n * c) : (0 : Int) ≤ ((t / c : Nat) : Int) ∧ ((t / c : Nat) : Int) < n := by
  have q : t / c < n := Nat.div_lt_of_lt_mul (by rw [Nat.mul_comm]; exact h)
  exact ⟨Int.natCast_nonneg _, Int.ofNat_lt.mpr q⟩
def w2_4_1dz_1 (xG : Int32) (t : Nat) (gi bi : Int32) (gk : Nat → Int64) (g1 g2 g6 g7 : Nat → Int32) : Nat → Int32 := fun j => if j = t then gi else g1 j
def q2_4_1dz_2 (xG : Int32) (t : Nat) (gi bi : Int32) (gk : Nat → Int64) (g1 g2 g6 g7 : Nat → Int32) : Int32 := (f10 (xG.toInt.toNat * 4) g6 (4 : Int32) gi bi)
def q2_4_1dz_3 (xG : Int32) (t : Nat) (gi bi : Int32) (gk : Nat → Int64) (g1 g2 g6 g7 : Nat → Int32) : Int32 := (f11 (xG.toInt.toNat * 4) g7 (4 : Int32) gi bi)
def q2_4_1dz_4 (xG : Int32) (t : Nat) (gi bi : Int32) (gk : Nat → Int64) (g1 g2 g6 g7 : Nat → Int32) : Int32 := ((q2_4_1dz_2 xG t gi bi gk g1 g2 g6 g7) + (q2_4_1dz_3 xG t gi bi gk g1 g2 g6 g7))
def w2_4_1dz_5 (xG : Int32) (t : Nat) (gi bi : Int32) (gk : Nat → Int64) (g1 g2 g6 g7 : Nat → Int32) : Nat → Int32 := fun j => if j = t then (q2_4_1dz_4 xG t gi bi gk g1 g2 g6 g7) else g2 j
def w2_4_1ds_1 (xG : Int32) (t : Nat) (gi bi : Int32) (gk : Nat → Int64) (g1 g2 g6 g7 : Nat → Int32) : Nat → Int32 := fun j => if j = t then gi else g1 j
def q2_4_1ds_2 (xG : Int32) (t : Nat) (gi bi : Int32) (gk : Nat → Int64) (g1 g2 g6 g7 : Nat → Int32) : Int32 := (f10 (xG.toInt.toNat * 4) g6 (4 : Int32) gi bi)
def q2_4_1ds_3 (xG : Int32) (t : Nat) (gi bi : Int32) (gk : Nat → Int64) (g1 g2 g6 g7 : Nat → Int32) : Int32 := (f11 (xG.toInt.toNat * 4) g7 (4 : Int32) gi bi)
def q2_4_1ds_4 (xG : Int32) (t : Nat) (gi bi : Int32) (gk : Nat → Int64) (g1 g2 g6 g7 : Nat → Int32) : Int32 := ((q2_4_1ds_2 xG t gi bi gk g1 g2 g6 g7) + (q2_4_1ds_3 xG t gi bi gk g1 g2 g6 g7))
def w2_4_1ds_5 (xG : Int32) (t : Nat) (gi bi : Int32) (gk : Nat → Int64) (g1 g2 g6 g7 : Nat → Int32) : Nat → Int32 := fun j => if j = t then (q2_4_1ds_4 xG t gi bi gk g1 g2 g6 g7) else g2 j
set_option maxRecDepth 65536 in
set_option maxHeartbeats 400000000 in
theorem lpD_4_1 {p : Program} {l : Launch} {e : Env} {R : Room} {s : State} {m : MethodId} {args : Array Value} {below : List Frame} {meth : Method} {c : Code} {Z : State} {cells slots n0 : Nat} {P : Outcome → State → Prop} (hcc : cells ≤ R.cells ∧ slots ≤ R.slots ∧ 2 ≤ R.frames ∧ 100 ≤ R.locals) (a0 : Array Value) (hw : ∀ d ∈ tables_1, d.before a0 Z = true) (xW xG s9 : Int32) (ke ca : Int64) (a bo bw ky tg be : Nat) (o1 : a < bo) (o2 : bo < bw) (o3 : bw < ky) (o4 : ky < tg) (o5 : tg < be) (ga : n0 ≤ a) (gk : Nat → Int64) (g6 g7 : Nat → Int32) (hkb : ∀ i, i < 4 → 0 ≤ (f8 (gk i)).toInt ∧ (f8 (gk i)).toInt < 4) (hp : Hp 4 xW xG) (hl : xG.toInt.toNat ≤ 2000 ∧ xG.toInt = (xG.toInt.toNat : Nat)) : ∀ (k t : Nat) (T : State) (h : Heap) (locs : List Loc) (gi bi : Int32) (g1 g2 : Nat → Int32),
    t + k + 1 = (xG.toInt.toNat * 4) → (0 ≤ gi.toInt ∧ gi.toInt < xG.toInt.toNat) → (0 ≤ bi.toInt ∧ bi.toInt < 4) → Bx "com/example/hyperplane/hyperplane/Blocks" prog_2_method_3_code 17 Z p l e R s m args below meth c T h locs cells slots → Fr n0 locs → n0 ≤ h.size → Exa Z h a "com/example/hyperplane/hyperplane/Blocks" → Fld Z h a "com/example/hyperplane/hyperplane/Blocks" "keys" "[J" (.ref ky) → Fld Z h a "com/example/hyperplane/hyperplane/Blocks" "tableGroups" "[I" (.ref tg) → Fld Z h a "com/example/hyperplane/hyperplane/Blocks" "blockEnds" "[I" (.ref be) → Fld Z h a "com/example/hyperplane/hyperplane/Blocks" "blockOffsets" "[I" (.ref bo) → Fld Z h a "com/example/hyperplane/hyperplane/Blocks" "blockWidths" "[I" (.ref bw) → Fld Z h a "com/example/hyperplane/hyperplane/Blocks" "blocksPerGroup" "I" (.int (4 : Int32)) → AJ Z h ky 4 gk → AI Z h tg .int (xG.toInt.toNat * 4) g1 → AI Z h be .int (xG.toInt.toNat * 4) g2 → AI Z h bo .int (xG.toInt.toNat * 4) g6 → AI Z h bw .int (xG.toInt.toNat * 4) g7 →
    (∀ (T' : State) (h' : Heap) (locs' : List Loc) (t' i' b' : Int32), Bx "com/example/hyperplane/hyperplane/Blocks" prog_2_method_3_code 17 Z p l e R s m args below meth c T' h' locs' cells slots → Fr n0 locs' → Keep h h' [tg, be] → OG p.tables e below P (T'.setTop (mkF m 701 #[vr a, vi xW, vi 0, vi xG, vi 4, vi 1, vi 3, vj (xG.toInt64 * (4 : Int64)), s2, vi s9, vj ke, s2, vi t', vi i', vi b', vj ca, s2] []))) →
    OG p.tables e below P (T.setTop (mkF m 662 #[vr a, vi xW, vi 0, vi xG, vi 4, vi 1, vi 3, vj (xG.toInt64 * (4 : Int64)), s2, vi s9, vj ke, s2, vi (Int32.ofNat t), vi gi, vi bi, vj ca, s2] [])) := by
  intro k
  induction k with
  | zero =>
    intro t T h locs gi bi g1 g2 hg hgi hbi B N hz hE F_ky F_tg F_be F_bo F_bw F_P A_ky A_tg A_be A_bo A_bw cont
    have htx := ix_of (own_on t (by omega))
    have hix := own_ix2 (c := (4 : Int32)) (P := 4) (n := xG.toInt.toNat) hgi hbi (by decide) (by omega)
    refine o_aloadN B 662 663 (v := (.ref a)) d2_662 rfl rfl rfl ?_
    obtain ⟨T1, B1, c1⟩ := o_getfield B 663 666 d2_663 rfl (host := "") (Or.inl (hw _ (mi 64 rfl))) Via.refl F_tg (Ls := #[vr a, vi xW, vi 0, vi xG, vi 4, vi 1, vi 3, vj (xG.toInt64 * (4 : Int64)), s2, vi s9, vj ke, s2, vi (Int32.ofNat t), vi gi, vi bi, vj ca, s2]) (rest := [])
    refine c1 ?_
    refine o_iload B1 666 668 (v := (Int32.ofNat t)) d2_666 rfl rfl ?_
    refine o_iload B1 668 670 (v := gi) d2_668 rfl rfl ?_
    obtain ⟨T2, h2, L2, B2, N2, W2, Q2, c2⟩ := o_iastore B1 N (show n0 ≤ tg by omega) 670 671 A_tg (j := (Int32.ofNat t)) (x := gi) t gi d2_670 rfl htx.1 htx.2 (by omega) rfl (Ls := #[vr a, vi xW, vi 0, vi xG, vi 4, vi 1, vi 3, vj (xG.toInt64 * (4 : Int64)), s2, vi s9, vj ke, s2, vi (Int32.ofNat t), vi gi, vi bi, vj ca, s2]) (rest := [])
    have A2 : AI Z h2 tg .int (xG.toInt.toNat * 4) (w2_4_1dz_1 xG t gi bi gk g1 g2 g6 g7) := Q2
    refine c2 ?_
    refine o_aloadN B2 671 672 (v := (.ref a)) d2_671 rfl rfl rfl ?_
    have F4 := (Fld.other W2 F_be (Or.inl (Nat.ne_of_lt (by omega))))
    obtain ⟨T3, B3, c3⟩ := o_getfield B2 672 675 d2_672 rfl (host := "") (Or.inl (hw _ (mi 66 rfl))) Via.refl F4 (Ls := #[vr a, vi xW, vi 0, vi xG, vi 4, vi 1, vi 3, vj (xG.toInt64 * (4 : Int64)), s2, vi s9, vj ke, s2, vi (Int32.ofNat t), vi gi, vi bi, vj ca, s2]) (rest := [])
    refine c3 ?_
    refine o_iload B3 675 677 (v := (Int32.ofNat t)) d2_675 rfl rfl ?_
    refine o_aloadN B3 677 678 (v := (.ref a)) d2_677 rfl rfl rfl ?_
    refine o_iload B3 678 680 (v := gi) d2_678 rfl rfl ?_
    refine o_iload B3 680 682 (v := bi) d2_680 rfl rfl ?_
    have F5 := (Fld.other W2 F_bo (Or.inl (Nat.ne_of_lt (by omega))))
    have F6 := (Fld.other W2 F_P (Or.inl (Nat.ne_of_lt (by omega))))
    have F7 := (A_bo.other W2 (Nat.ne_of_lt (by omega)))
    have F8 := (Exa.wr W2 hE)
    obtain ⟨T9, B9, c9⟩ := o_callVP B3 682 685 d2_682 rfl (hw _ (mi 76 rfl)) (hw _ (mi 77 rfl)) (hw _ (mi 79 rfl)) (hw _ (mi 78 rfl)) (hw _ (mi 17 rfl)) (hw _ (mi 80 rfl)) (by decide) F8 (rm10 l Z a0 hw a (xG.toInt.toNat * 4) g6 bo (4 : Int32) gi bi h2 F5 F6 F7 hix) 2 [(.int gi), (.int bi)] [(.int (Int32.ofNat t)), (.ref be)] pd__II_I rfl rfl (st := [(.int bi), (.int gi), (.ref a), (.int (Int32.ofNat t)), (.ref be)]) rfl (Ls := #[vr a, vi xW, vi 0, vi xG, vi 4, vi 1, vi 3, vj (xG.toInt64 * (4 : Int64)), s2, vi s9, vj ke, s2, vi (Int32.ofNat t), vi gi, vi bi, vj ca, s2]) rfl (Nat.le_of_eq rfl) (by first | omega | (show _ + _ + _ ≤ _; omega) | (simp; omega)) (by first | omega | (show _ + _ + _ ≤ _; omega) | (simp; omega)) (by first | omega | (show _ + _ + _ ≤ _; omega) | (simp; omega)) (by first | omega | (show _ + _ + _ ≤ _; omega) | (simp; omega))
    refine c9 ?_
    refine o_aloadN B9 685 686 (v := (.ref a)) d2_685 rfl rfl rfl ?_
    refine o_iload B9 686 688 (v := gi) d2_686 rfl rfl ?_
    refine o_iload B9 688 690 (v := bi) d2_688 rfl rfl ?_
    have F10 := (Fld.other W2 F_bw (Or.inl (Nat.ne_of_lt (by omega))))
    have F11 := (A_bw.other W2 (Nat.ne_of_lt (by omega)))
    obtain ⟨T12, B12, c12⟩ := o_callVP B9 690 693 d2_690 rfl (hw _ (mi 81 rfl)) (hw _ (mi 82 rfl)) (hw _ (mi 84 rfl)) (hw _ (mi 83 rfl)) (hw _ (mi 17 rfl)) (hw _ (mi 85 rfl)) (by decide) F8 (rm11 l Z a0 hw a (xG.toInt.toNat * 4) g7 bw (4 : Int32) gi bi h2 F10 F6 F11 hix) 3 [(.int gi), (.int bi)] [(.int (q2_4_1dz_2 xG t gi bi gk g1 g2 g6 g7)), (.int (Int32.ofNat t)), (.ref be)] pd__II_I rfl rfl (st := [(.int bi), (.int gi), (.ref a), (.int (q2_4_1dz_2 xG t gi bi gk g1 g2 g6 g7)), (.int (Int32.ofNat t)), (.ref be)]) rfl (Ls := #[vr a, vi xW, vi 0, vi xG, vi 4, vi 1, vi 3, vj (xG.toInt64 * (4 : Int64)), s2, vi s9, vj ke, s2, vi (Int32.ofNat t), vi gi, vi bi, vj ca, s2]) rfl (Nat.le_of_eq rfl) (by first | omega | (show _ + _ + _ ≤ _; omega) | (simp; omega)) (by first | omega | (show _ + _ + _ ≤ _; omega) | (simp; omega)) (by first | omega | (show _ + _ + _ ≤ _; omega) | (simp; omega)) (by first | omega | (show _ + _ + _ ≤ _; omega) | (simp; omega))
    refine c12 ?_
    refine o_iadd B12 693 694 d2_693 rfl ?_
    have F14 := (A_be.other W2 (Nat.ne_of_gt (by omega)))
    obtain ⟨T13, h13, L13, B13, N13, W13, Q13, c13⟩ := o_iastore B12 N2 (show n0 ≤ be by omega) 694 695 F14 (j := (Int32.ofNat t)) (x := ((q2_4_1dz_2 xG t gi bi gk g1 g2 g6 g7) + (q2_4_1dz_3 xG t gi bi gk g1 g2 g6 g7))) t (q2_4_1dz_4 xG t gi bi gk g1 g2 g6 g7) d2_694 rfl htx.1 htx.2 (by omega) rfl (Ls := #[vr a, vi xW, vi 0, vi xG, vi 4, vi 1, vi 3, vj (xG.toInt64 * (4 : Int64)), s2, vi s9, vj ke, s2, vi (Int32.ofNat t), vi gi, vi bi, vj ca, s2]) (rest := [])
    have A13 : AI Z h13 be .int (xG.toInt.toNat * 4) (w2_4_1dz_5 xG t gi bi gk g1 g2 g6 g7) := Q13
    refine c13 ?_
    refine o_iincC B13 695 698 (l' := #[vr a, vi xW, vi 0, vi xG, vi 4, vi 1, vi 3, vj (xG.toInt64 * (4 : Int64)), s2, vi s9, vj ke, s2, vi (Int32.ofNat (t + 1)), vi gi, vi bi, vj ca, s2]) (1 : Int32) (Int32.ofNat (t + 1)) d2_695 rfl (by decide) rfl (own_inc t) rfl ?_
    refine o_goto B13 698 625 d2_698 (by decide) (by decide) ?_
    refine o_iload B13 625 627 (v := (Int32.ofNat (t + 1))) d2_625 rfl rfl ?_
    refine o_i2l B13 627 628 d2_627 rfl ?_
    refine o_lload B13 628 630 (v := (xG.toInt64 * (4 : Int64))) d2_628 rfl rfl ?_
    refine o_lcmp B13 630 631 d2_630 rfl ?_
    refine o_ifY B13 631 701 d2_631 (XT.ll_ge_t (by rw [Int64.lt_iff_toInt_lt, own_gt hp 4 4 (by decide) (by decide) (by decide), c_i2l, own_on _ (by omega)]; omega)) (by decide) (by decide) ?_
    have KT15 := (((Keep.refl h [tg, be]).wr W2 (Or.inl (mi 0 rfl))).wr W13 (Or.inl (mi 1 rfl)))
    exact cont _ _ _ _ _ _ B13 N13 KT15
  | succ k ih =>
    intro t T h locs gi bi g1 g2 hg hgi hbi B N hz hE F_ky F_tg F_be F_bo F_bw F_P A_ky A_tg A_be A_bo A_bw cont
    have htx := ix_of (own_on t (by omega))
    have hix := own_ix2 (c := (4 : Int32)) (P := 4) (n := xG.toInt.toNat) hgi hbi (by decide) (by omega)
    have hd := own_dv (t + 1) 4 (by omega) (by decide)
    have hm := ix_of hd.2
    refine o_aloadN B 662 663 (v := (.ref a)) d2_662 rfl rfl rfl ?_
    obtain ⟨T1, B1, c1⟩ := o_getfield B 663 666 d2_663 rfl (host := "") (Or.inl (hw _ (mi 64 rfl))) Via.refl F_tg (Ls := #[vr a, vi xW, vi 0, vi xG, vi 4, vi 1, vi 3, vj (xG.toInt64 * (4 : Int64)), s2, vi s9, vj ke, s2, vi (Int32.ofNat t), vi gi, vi bi, vj ca, s2]) (rest := [])
    refine c1 ?_
    refine o_iload B1 666 668 (v := (Int32.ofNat t)) d2_666 rfl rfl ?_
    refine o_iload B1 668 670 (v := gi) d2_668 rfl rfl ?_
    obtain ⟨T2, h2, L2, B2, N2, W2, Q2, c2⟩ := o_iastore B1 N (show n0 ≤ tg by omega) 670 671 A_tg (j := (Int32.ofNat t)) (x := gi) t gi d2_670 rfl htx.1 htx.2 (by omega) rfl (Ls := #[vr a, vi xW, vi 0, vi xG, vi 4, vi 1, vi 3, vj (xG.toInt64 * (4 : Int64)), s2, vi s9, vj ke, s2, vi (Int32.ofNat t), vi gi, vi bi, vj ca, s2]) (rest := [])
    have A2 : AI Z h2 tg .int (xG.toInt.toNat * 4) (w2_4_1ds_1 xG t gi bi gk g1 g2 g6 g7) := Q2
    refine c2 ?_
    refine o_aloadN B2 671 672 (v := (.ref a)) d2_671 rfl rfl rfl ?_
    have F4 := (Fld.other W2 F_be (Or.inl (Nat.ne_of_lt (by omega))))
    obtain ⟨T3, B3, c3⟩ := o_getfield B2 672 675 d2_672 rfl (host := "") (Or.inl (hw _ (mi 66 rfl))) Via.refl F4 (Ls := #[vr a, vi xW, vi 0, vi xG, vi 4, vi 1, vi 3, vj (xG.toInt64 * (4 : Int64)), s2, vi s9, vj ke, s2, vi (Int32.ofNat t), vi gi, vi bi, vj ca, s2]) (rest := [])
    refine c3 ?_
    refine o_iload B3 675 677 (v := (Int32.ofNat t)) d2_675 rfl rfl ?_
    refine o_aloadN B3 677 678 (v := (.ref a)) d2_677 rfl rfl rfl ?_
    refine o_iload B3 678 680 (v := gi) d2_678 rfl rfl ?_
    refine o_iload B3 680 682 (v := bi) d2_680 rfl rfl ?_
    have F5 := (Fld.other W2 F_bo (Or.inl (Nat.ne_of_lt (by omega))))
    have F6 := (Fld.other W2 F_P (Or.inl (Nat.ne_of_lt (by omega))))
    have F7 := (A_bo.other W2 (Nat.ne_of_lt (by omega)))
    have F8 := (Exa.wr W2 hE)
    obtain ⟨T9, B9, c9⟩ := o_callVP B3 682 685 d2_682 rfl (hw _ (mi 76 rfl)) (hw _ (mi 77 rfl)) (hw _ (mi 79 rfl)) (hw _ (mi 78 rfl)) (hw _ (mi 17 rfl)) (hw _ (mi 80 rfl)) (by decide) F8 (rm10 l Z a0 hw a (xG.toInt.toNat * 4) g6 bo (4 : Int32) gi bi h2 F5 F6 F7 hix) 2 [(.int gi), (.int bi)] [(.int (Int32.ofNat t)), (.ref be)] pd__II_I rfl rfl (st := [(.int bi), (.int gi), (.ref a), (.int (Int32.ofNat t)), (.ref be)]) rfl (Ls := #[vr a, vi xW, vi 0, vi xG, vi 4, vi 1, vi 3, vj (xG.toInt64 * (4 : Int64)), s2, vi s9, vj ke, s2, vi (Int32.ofNat t), vi gi, vi bi, vj ca, s2]) rfl (Nat.le_of_eq rfl) (by first | omega | (show _ + _ + _ ≤ _; omega) | (simp; omega)) (by first | omega | (show _ + _ + _ ≤ _; omega) | (simp; omega)) (by first | omega | (show _ + _ + _ ≤ _; omega) | (simp; omega)) (by first | omega | (show _ + _ + _ ≤ _; omega) | (simp; omega))
    refine c9 ?_
    refine o_aloadN B9 685 686 (v := (.ref a)) d2_685 rfl rfl rfl ?_
    refine o_iload B9 686 688 (v := gi) d2_686 rfl rfl ?_
    refine o_iload B9 688 690 (v := bi) d2_688 rfl rfl ?_
    have F10 := (Fld.other W2 F_bw (Or.inl (Nat.ne_of_lt (by omega))))
    have F11 := (A_bw.other W2 (Nat.ne_of_lt (by omega)))
    obtain ⟨T12, B12, c12⟩ := o_callVP B9 690 693 d2_690 rfl (hw _ (mi 81 rfl)) (hw _ (mi 82 rfl)) (hw _ (mi 84 rfl)) (hw _ (mi 83 rfl)) (hw _ (mi 17 rfl)) (hw _ (mi 85 rfl)) (by decide) F8 (rm11 l Z a0 hw a (xG.toInt.toNat * 4) g7 bw (4 : Int32) gi bi h2 F10 F6 F11 hix) 3 [(.int gi), (.int bi)] [(.int (q2_4_1ds_2 xG t gi bi gk g1 g2 g6 g7)), (.int (Int32.ofNat t)), (.ref be)] pd__II_I rfl rfl (st := [(.int bi), (.int gi), (.ref a), (.int (q2_4_1ds_2 xG t gi bi gk g1 g2 g6 g7)), (.int (Int32.ofNat t)), (.ref be)]) rfl (Ls := #[vr a, vi xW, vi 0, vi xG, vi 4, vi 1, vi 3, vj (xG.toInt64 * (4 : Int64)), s2, vi s9, vj ke, s2, vi (Int32.ofNat t), vi gi, vi bi, vj ca, s2]) rfl (Nat.le_of_eq rfl) (by first | omega | (show _ + _ + _ ≤ _; omega) | (simp; omega)) (by first | omega | (show _ + _ + _ ≤ _; omega) | (simp; omega)) (by first | omega | (show _ + _ + _ ≤ _; omega) | (simp; omega)) (by first | omega | (show _ + _ + _ ≤ _; omega) | (simp; omega))
    refine c12 ?_
    refine o_iadd B12 693 694 d2_693 rfl ?_
    have F14 := (A_be.other W2 (Nat.ne_of_gt (by omega)))
    obtain ⟨T13, h13, L13, B13, N13, W13, Q13, c13⟩ := o_iastore B12 N2 (show n0 ≤ be by omega) 694 695 F14 (j := (Int32.ofNat t)) (x := ((q2_4_1ds_2 xG t gi bi gk g1 g2 g6 g7) + (q2_4_1ds_3 xG t gi bi gk g1 g2 g6 g7))) t (q2_4_1ds_4 xG t gi bi gk g1 g2 g6 g7) d2_694 rfl htx.1 htx.2 (by omega) rfl (Ls := #[vr a, vi xW, vi 0, vi xG, vi 4, vi 1, vi 3, vj (xG.toInt64 * (4 : Int64)), s2, vi s9, vj ke, s2, vi (Int32.ofNat t), vi gi, vi bi, vj ca, s2]) (rest := [])
    have A13 : AI Z h13 be .int (xG.toInt.toNat * 4) (w2_4_1ds_5 xG t gi bi gk g1 g2 g6 g7) := Q13
    refine c13 ?_
    refine o_iincC B13 695 698 (l' := #[vr a, vi xW, vi 0, vi xG, vi 4, vi 1, vi 3, vj (xG.toInt64 * (4 : Int64)), s2, vi s9, vj ke, s2, vi (Int32.ofNat (t + 1)), vi gi, vi bi, vj ca, s2]) (1 : Int32) (Int32.ofNat (t + 1)) d2_695 rfl (by decide) rfl (own_inc t) rfl ?_
    refine o_goto B13 698 625 d2_698 (by decide) (by decide) ?_
    refine o_iload B13 625 627 (v := (Int32.ofNat (t + 1))) d2_625 rfl rfl ?_
    refine o_i2l B13 627 628 d2_627 rfl ?_
    refine o_lload B13 628 630 (v := (xG.toInt64 * (4 : Int64))) d2_628 rfl rfl ?_
    refine o_lcmp B13 630 631 d2_630 rfl ?_
    refine o_ifN B13 631 634 d2_631 rfl (XT.ll_ge_f (by rw [Int64.lt_iff_toInt_lt, own_gt hp 4 4 (by decide) (by decide) (by decide), c_i2l, own_on _ (by omega)]; omega)) ?_
    refine o_iload B13 634 636 (v := (Int32.ofNat (t + 1))) d2_634 rfl rfl ?_
    refine o_aloadN B13 636 637 (v := (.ref a)) d2_636 rfl rfl rfl ?_
    have F16 := (Fld.other W13 (Fld.other W2 F_ky (Or.inl (Nat.ne_of_lt (by omega)))) (Or.inl (Nat.ne_of_lt (by omega))))
    obtain ⟨T15, B15, c15⟩ := o_getfield B13 637 640 d2_637 rfl (host := "") (Or.inl (hw _ (mi 62 rfl))) Via.refl F16 (Ls := #[vr a, vi xW, vi 0, vi xG, vi 4, vi 1, vi 3, vj (xG.toInt64 * (4 : Int64)), s2, vi s9, vj ke, s2, vi (Int32.ofNat (t + 1)), vi gi, vi bi, vj ca, s2]) (rest := [(.int (Int32.ofNat (t + 1)))])
    refine c15 ?_
    have F18 := ((A_ky.other W2 (Nat.ne_of_lt (by omega))).other W13 (Nat.ne_of_lt (by omega)))
    refine o_alenJ B15 640 641 F18 (4 : Int32) d2_640 rfl (by decide) ?_
    refine o_idiv B15 641 642 d2_641 rfl (by decide) ?_
    refine o_istore B15 642 644 (l' := #[vr a, vi xW, vi 0, vi xG, vi 4, vi 1, vi 3, vj (xG.toInt64 * (4 : Int64)), s2, vi s9, vj ke, s2, vi (Int32.ofNat (t + 1)), vi ((Int32.ofNat (t + 1)) / (4 : Int32)), vi bi, vj ca, s2]) d2_642 rfl rfl ?_
    refine o_aloadN B15 644 645 (v := (.ref a)) d2_644 rfl rfl rfl ?_
    obtain ⟨T19, B19, c19⟩ := o_getfield B15 645 648 d2_645 rfl (host := "") (Or.inl (hw _ (mi 62 rfl))) Via.refl F16 (Ls := #[vr a, vi xW, vi 0, vi xG, vi 4, vi 1, vi 3, vj (xG.toInt64 * (4 : Int64)), s2, vi s9, vj ke, s2, vi (Int32.ofNat (t + 1)), vi ((Int32.ofNat (t + 1)) / (4 : Int32)), vi bi, vj ca, s2]) (rest := [])
    refine c19 ?_
    refine o_iload B19 648 650 (v := (Int32.ofNat (t + 1))) d2_648 rfl rfl ?_
    refine o_aloadN B19 650 651 (v := (.ref a)) d2_650 rfl rfl rfl ?_
    obtain ⟨T20, B20, c20⟩ := o_getfield B19 651 654 d2_651 rfl (host := "") (Or.inl (hw _ (mi 62 rfl))) Via.refl F16 (Ls := #[vr a, vi xW, vi 0, vi xG, vi 4, vi 1, vi 3, vj (xG.toInt64 * (4 : Int64)), s2, vi s9, vj ke, s2, vi (Int32.ofNat (t + 1)), vi ((Int32.ofNat (t + 1)) / (4 : Int32)), vi bi, vj ca, s2]) (rest := [(.int (Int32.ofNat (t + 1))), (.ref ky)])
    refine c20 ?_
    refine o_alenJ B20 654 655 F18 (4 : Int32) d2_654 rfl (by decide) ?_
    refine o_irem B20 655 656 d2_655 rfl (by decide) ?_
    refine o_laload B20 656 657 F18 ((t + 1) % 4) (gk ((t + 1) % 4)) d2_656 rfl hm.1 hm.2 (Nat.mod_lt _ (by decide)) rfl ?_
    obtain ⟨T23, B23, c23⟩ := o_callP B20 657 660 d2_657 rfl (hw _ (mi 68 rfl)) (hw _ (mi 69 rfl)) (hw _ (mi 70 rfl)) (hw _ (mi 71 rfl)) (by decide) (rm8 l Z a0 hw (gk ((t + 1) % 4)) h13 ) 0 [(.long (gk ((t + 1) % 4)))] [] pd__J_I rfl rfl (st := [(.long (gk ((t + 1) % 4)))]) rfl (Ls := #[vr a, vi xW, vi 0, vi xG, vi 4, vi 1, vi 3, vj (xG.toInt64 * (4 : Int64)), s2, vi s9, vj ke, s2, vi (Int32.ofNat (t + 1)), vi ((Int32.ofNat (t + 1)) / (4 : Int32)), vi bi, vj ca, s2]) rfl (Nat.le_of_eq rfl) (by first | omega | (show _ + _ + _ ≤ _; omega) | (simp; omega)) (by first | omega | (show _ + _ + _ ≤ _; omega) | (simp; omega)) (by first | omega | (show _ + _ + _ ≤ _; omega) | (simp; omega)) (by first | omega | (show _ + _ + _ ≤ _; omega) | (simp; omega))
    refine c23 ?_
    refine o_istore B23 660 662 (l' := #[vr a, vi xW, vi 0, vi xG, vi 4, vi 1, vi 3, vj (xG.toInt64 * (4 : Int64)), s2, vi s9, vj ke, s2, vi (Int32.ofNat (t + 1)), vi ((Int32.ofNat (t + 1)) / (4 : Int32)), vi (f8 (gk ((t + 1) % 4))), vj ca, s2]) d2_660 rfl rfl ?_
    have F24 := (A2.other W13 (Nat.ne_of_lt (by omega)))
    have F25 := (F7.other W13 (Nat.ne_of_lt (by omega)))
    have F26 := (F11.other W13 (Nat.ne_of_lt (by omega)))
    have F27 := (Fld.other W13 (Fld.other W2 F_tg (Or.inl (Nat.ne_of_lt (by omega)))) (Or.inl (Nat.ne_of_lt (by omega))))
    have F28 := (Fld.other W13 F4 (Or.inl (Nat.ne_of_lt (by omega))))
    have F29 := (Fld.other W13 F5 (Or.inl (Nat.ne_of_lt (by omega))))
    have F30 := (Fld.other W13 F10 (Or.inl (Nat.ne_of_lt (by omega))))
    have F31 := (Fld.other W13 F6 (Or.inl (Nat.ne_of_lt (by omega))))
    have F32 := (Exa.wr W13 F8)
    have KT33 := (((Keep.refl h [tg, be]).wr W2 (Or.inl (mi 0 rfl))).wr W13 (Or.inl (mi 1 rfl)))
    exact ih (t + 1) _ _ _ _ _ _ _ (by omega) (by have q := own_gg (t + 1) 4 xG.toInt.toNat (by omega); rw [← hd.1] at q; exact q) (hkb _ (Nat.mod_lt _ (by decide))) B23 N13 (Nat.le_trans hz KT33.1) F32 F16 F27 F28 F29 F30 F31 F18 F24 A13 F25 F26 (fun T2 h2 L2 t2 i2 b2 B2 N2 K2 => cont T2 h2 L2 t2 i2 b2 B2 N2 (Keep.trans KT33 K2 (allS (Or.inl (mi 0 rfl)) (allS (Or.inl (mi 1 rfl)) all0))))
theorem pl2 : plainFor (⟨"com/example/hyperplane/hyperplane/Blocks", "<init>", "(IIIII)V"⟩ : MethodName) = true := by first | exact plainFor_of_name (by first | (simp [plainName, overriddenIn]; done) | decide +kernel) | decide +kernel
theorem d7_0 : decode prog_2_method_10_code 0 = .ok (.lconst 1, 1) := by decide +kernel
theorem d7_1 : decode prog_2_method_10_code 1 = .ok (.lstore_n 2, 1) := by decide +kernel
theorem d7_2 : decode prog_2_method_10_code 2 = .ok (.iconst 1, 1) := by decide +kernel
theorem d7_3 : decode prog_2_method_10_code 3 = .ok (.istore 4, 2) := by decide +kernel
theorem d7_5 : decode prog_2_method_10_code 5 = .ok (.iload 4, 2) := by decide +kernel
theorem d7_7 : decode prog_2_method_10_code 7 = .ok (.iload_n 1, 1) := by decide +kernel
theorem d7_8 : decode prog_2_method_10_code 8 = .ok (.if_icmp .gt 33, 3) := by decide +kernel
theorem d7_11 : decode prog_2_method_10_code 11 = .ok (.lload_n 2, 1) := by decide +kernel
theorem d7_12 : decode prog_2_method_10_code 12 = .ok (.iload_n 0, 1) := by decide +kernel
theorem d7_13 : decode prog_2_method_10_code 13 = .ok (.iload_n 1, 1) := by decide +kernel
theorem d7_14 : decode prog_2_method_10_code 14 = .ok (.isub, 1) := by decide +kernel
theorem d7_15 : decode prog_2_method_10_code 15 = .ok (.iload 4, 2) := by decide +kernel
theorem d7_17 : decode prog_2_method_10_code 17 = .ok (.iadd, 1) := by decide +kernel
theorem d7_18 : decode prog_2_method_10_code 18 = .ok (.i2l, 1) := by decide +kernel
theorem d7_19 : decode prog_2_method_10_code 19 = .ok (.lmul, 1) := by decide +kernel
theorem d7_20 : decode prog_2_method_10_code 20 = .ok (.iload 4, 2) := by decide +kernel
theorem d7_22 : decode prog_2_method_10_code 22 = .ok (.i2l, 1) := by decide +kernel
theorem d7_23 : decode prog_2_method_10_code 23 = .ok (.ldiv, 1) := by decide +kernel
theorem d7_24 : decode prog_2_method_10_code 24 = .ok (.lstore_n 2, 1) := by decide +kernel
theorem d7_25 : decode prog_2_method_10_code 25 = .ok (.lload_n 2, 1) := by decide +kernel
theorem d7_26 : decode prog_2_method_10_code 26 = .ok (.ldc2_w 51, 3) := by decide +kernel
theorem d7_29 : decode prog_2_method_10_code 29 = .ok (.lcmp, 1) := by decide +kernel
theorem d7_30 : decode prog_2_method_10_code 30 = .ok (.ifCond .le 5, 3) := by decide +kernel
theorem d7_33 : decode prog_2_method_10_code 33 = .ok (.lload_n 2, 1) := by decide +kernel
theorem d7_34 : decode prog_2_method_10_code 34 = .ok (.lreturn, 1) := by decide +kernel
theorem d7_35 : decode prog_2_method_10_code 35 = .ok (.iinc 4 1, 3) := by decide +kernel
theorem d7_38 : decode prog_2_method_10_code 38 = .ok (.goto (-33), 3) := by decide +kernel
theorem d7_41 : decode prog_2_method_10_code 41 = .ok (.lload_n 2, 1) := by decide +kernel
theorem d7_42 : decode prog_2_method_10_code 42 = .ok (.lreturn, 1) := by decide +kernel
theorem pl7 : plainFor (⟨"com/example/hyperplane/hyperplane/Blocks", "binomial", "(II)J"⟩ : MethodName) = true := by first | exact plainFor_of_name (by first | (simp [plainName, overriddenIn]; done) | decide +kernel) | decide +kernel
def f7_4_1  : Int64 := (4 : Int64)
set_option maxRecDepth 65536 in
set_option maxHeartbeats 40000000 in
theorem rm7_4_1 (l : Launch) (Z : State) (a0 : Array Value) (hw : ∀ d ∈ tables_1, d.before a0 Z = true)  (h0 : Heap) :
    Met l Z (⟨"com/example/hyperplane/hyperplane/Blocks", "binomial", "(II)J"⟩ : MethodName) prog_2_method_10_code 5 (some .long) ({ frames := 0, cells := 0, slots := 0, locals := 0 } : Room) #[(.int (4 : Int32)), (.int (1 : Int32))] h0 (Pu (some (.long (f7_4_1 ))) h0) := by
  refine enter pl7 #[vi 4, vi 1, us, us, us] rfl ?_
  intro p e s m below meth c T B hret hlk hnm
  · refine o_lconst B 0 1 (1 : Int64) d7_0 rfl (by decide) ?_
    refine o_lstoreN B 1 2 (l' := #[vi 4, vi 1, vj 1, s2, us]) d7_1 rfl rfl ?_
    refine o_iconst B 2 3 (1 : Int32) d7_2 rfl (by decide) ?_
    refine o_istore B 3 5 (l' := #[vi 4, vi 1, vj 1, s2, vi 1]) d7_3 rfl rfl ?_
    refine o_iload B 5 7 (v := (1 : Int32)) d7_5 rfl rfl ?_
    refine o_iloadN B 7 8 (v := (1 : Int32)) d7_7 rfl rfl ?_
    refine o_icN B 8 11 d7_8 rfl (XT.ii_gt_f (by decide)) ?_
    refine o_lloadN B 11 12 (v := (1 : Int64)) d7_11 rfl rfl ?_
    refine o_iloadN B 12 13 (v := (4 : Int32)) d7_12 rfl rfl ?_
    refine o_iloadN B 13 14 (v := (1 : Int32)) d7_13 rfl rfl ?_
    refine o_isub B 14 15 d7_14 rfl ?_
    refine o_topI (show ((4 : Int32) - (1 : Int32)) = (3 : Int32) by decide) ?_
    refine o_iload B 15 17 (v := (1 : Int32)) d7_15 rfl rfl ?_
    refine o_iadd B 17 18 d7_17 rfl ?_
    refine o_topI (show ((3 : Int32) + (1 : Int32)) = (4 : Int32) by decide) ?_
    refine o_i2l B 18 19 d7_18 rfl ?_
    refine o_topJ (show (4 : Int32).toInt64 = (4 : Int64) by decide) ?_
    refine o_lmul B 19 20 d7_19 rfl ?_
    refine o_topJ (show ((1 : Int64) * (4 : Int64)) = (4 : Int64) by decide) ?_
    refine o_iload B 20 22 (v := (1 : Int32)) d7_20 rfl rfl ?_
    refine o_i2l B 22 23 d7_22 rfl ?_
    refine o_topJ (show (1 : Int32).toInt64 = (1 : Int64) by decide) ?_
    refine o_ldiv B 23 24 d7_23 rfl (by decide) ?_
    refine o_topJ (show ((4 : Int64) / (1 : Int64)) = (4 : Int64) by decide) ?_
    refine o_lstoreN B 24 25 (l' := #[vi 4, vi 1, vj 4, s2, vi 1]) d7_24 rfl rfl ?_
    refine o_lloadN B 25 26 (v := (4 : Int64)) d7_25 rfl rfl ?_
    refine o_ldc2 B 26 29 d7_26 rfl (hw _ (mi 39 rfl)) ?_
    refine o_lcmp B 29 30 d7_29 rfl ?_
    refine o_ifY B 30 35 d7_30 (XT.ll_le_t (by decide)) (by decide) (by decide) ?_
    refine o_iincC B 35 38 (l' := #[vi 4, vi 1, vj 4, s2, vi 2]) (1 : Int32) (2 : Int32) d7_35 rfl (by decide) rfl (by decide) rfl ?_
    refine o_goto B 38 5 d7_38 (by decide) (by decide) ?_
    refine o_iload B 5 7 (v := (2 : Int32)) d7_5 rfl rfl ?_
    refine o_iloadN B 7 8 (v := (1 : Int32)) d7_7 rfl rfl ?_
    refine o_icY B 8 41 d7_8 (XT.ii_gt_t (by decide)) (by decide) (by decide) ?_
    refine o_lloadN B 41 42 (v := (4 : Int64)) d7_41 rfl rfl ?_
    refine o_retL B 42 d7_42 hret hlk (by decide) (by decide) ⟨(congrArg (fun z => some (Value.long z)) (show f7_4_1  = (4 : Int64) from rfl)).symm, rfl, rfl⟩
theorem pd__II_J : parseMethodDescriptor "(II)J" = some ⟨[.int, .int], some .long⟩ := by decide +kernel
def HW (a0 : Array Value) (Z : State) : Prop := ∀ d ∈ tables_1, d.before a0 Z = true
def SN (Z : State) (C n d n' d' : String) : Prop := RoadKit.slotOf Z C n d ≠ RoadKit.slotOf Z C n' d'
theorem sn0 {a0 Z} (hw : HW a0 Z) : SN Z "com/example/hyperplane/hyperplane/Blocks" "blocksPerGroup" "I" "words" "I" := (slot_ne (a0 := a0) (C := "com/example/hyperplane/hyperplane/Blocks") (Or.inr (hw _ (mi 41 rfl))) (Or.inr (hw _ (mi 29 rfl))) (by decide) (t := .int) (t' := .int) rfl rfl)
theorem sn1 {a0 Z} (hw : HW a0 Z) : SN Z "com/example/hyperplane/hyperplane/Blocks" "keyBlocks" "I" "words" "I" := (slot_ne (a0 := a0) (C := "com/example/hyperplane/hyperplane/Blocks") (Or.inr (hw _ (mi 43 rfl))) (Or.inr (hw _ (mi 29 rfl))) (by decide) (t := .int) (t' := .int) rfl rfl)
theorem sn2 {a0 Z} (hw : HW a0 Z) : SN Z "com/example/hyperplane/hyperplane/Blocks" "keyBlocks" "I" "blocksPerGroup" "I" := (slot_ne (a0 := a0) (C := "com/example/hyperplane/hyperplane/Blocks") (Or.inr (hw _ (mi 43 rfl))) (Or.inr (hw _ (mi 41 rfl))) (by decide) (t := .int) (t' := .int) rfl rfl)
theorem sn3 {a0 Z} (hw : HW a0 Z) : SN Z "com/example/hyperplane/hyperplane/Blocks" "groupWidths" "[I" "words" "I" := (slot_ne (a0 := a0) (C := "com/example/hyperplane/hyperplane/Blocks") (Or.inr (hw _ (mi 46 rfl))) (Or.inr (hw _ (mi 29 rfl))) (by decide) (t := (.array .int)) (t' := .int) rfl rfl)
theorem sn4 {a0 Z} (hw : HW a0 Z) : SN Z "com/example/hyperplane/hyperplane/Blocks" "groupWidths" "[I" "blocksPerGroup" "I" := (slot_ne (a0 := a0) (C := "com/example/hyperplane/hyperplane/Blocks") (Or.inr (hw _ (mi 46 rfl))) (Or.inr (hw _ (mi 41 rfl))) (by decide) (t := (.array .int)) (t' := .int) rfl rfl)
theorem sn5 {a0 Z} (hw : HW a0 Z) : SN Z "com/example/hyperplane/hyperplane/Blocks" "groupWidths" "[I" "keyBlocks" "I" := (slot_ne (a0 := a0) (C := "com/example/hyperplane/hyperplane/Blocks") (Or.inr (hw _ (mi 46 rfl))) (Or.inr (hw _ (mi 43 rfl))) (by decide) (t := (.array .int)) (t' := .int) rfl rfl)
theorem sn6 {a0 Z} (hw : HW a0 Z) : SN Z "com/example/hyperplane/hyperplane/Blocks" "firstWords" "[I" "words" "I" := (slot_ne (a0 := a0) (C := "com/example/hyperplane/hyperplane/Blocks") (Or.inr (hw _ (mi 48 rfl))) (Or.inr (hw _ (mi 29 rfl))) (by decide) (t := (.array .int)) (t' := .int) rfl rfl)
theorem sn7 {a0 Z} (hw : HW a0 Z) : SN Z "com/example/hyperplane/hyperplane/Blocks" "firstWords" "[I" "blocksPerGroup" "I" := (slot_ne (a0 := a0) (C := "com/example/hyperplane/hyperplane/Blocks") (Or.inr (hw _ (mi 48 rfl))) (Or.inr (hw _ (mi 41 rfl))) (by decide) (t := (.array .int)) (t' := .int) rfl rfl)
theorem sn8 {a0 Z} (hw : HW a0 Z) : SN Z "com/example/hyperplane/hyperplane/Blocks" "firstWords" "[I" "keyBlocks" "I" := (slot_ne (a0 := a0) (C := "com/example/hyperplane/hyperplane/Blocks") (Or.inr (hw _ (mi 48 rfl))) (Or.inr (hw _ (mi 43 rfl))) (by decide) (t := (.array .int)) (t' := .int) rfl rfl)
theorem sn9 {a0 Z} (hw : HW a0 Z) : SN Z "com/example/hyperplane/hyperplane/Blocks" "firstWords" "[I" "groupWidths" "[I" := (slot_ne (a0 := a0) (C := "com/example/hyperplane/hyperplane/Blocks") (Or.inr (hw _ (mi 48 rfl))) (Or.inr (hw _ (mi 46 rfl))) (by decide) (t := (.array .int)) (t' := (.array .int)) rfl rfl)
theorem sn10 {a0 Z} (hw : HW a0 Z) : SN Z "com/example/hyperplane/hyperplane/Blocks" "shifts" "[I" "words" "I" := (slot_ne (a0 := a0) (C := "com/example/hyperplane/hyperplane/Blocks") (Or.inr (hw _ (mi 50 rfl))) (Or.inr (hw _ (mi 29 rfl))) (by decide) (t := (.array .int)) (t' := .int) rfl rfl)
theorem sn11 {a0 Z} (hw : HW a0 Z) : SN Z "com/example/hyperplane/hyperplane/Blocks" "shifts" "[I" "blocksPerGroup" "I" := (slot_ne (a0 := a0) (C := "com/example/hyperplane/hyperplane/Blocks") (Or.inr (hw _ (mi 50 rfl))) (Or.inr (hw _ (mi 41 rfl))) (by decide) (t := (.array .int)) (t' := .int) rfl rfl)
theorem sn12 {a0 Z} (hw : HW a0 Z) : SN Z "com/example/hyperplane/hyperplane/Blocks" "shifts" "[I" "keyBlocks" "I" := (slot_ne (a0 := a0) (C := "com/example/hyperplane/hyperplane/Blocks") (Or.inr (hw _ (mi 50 rfl))) (Or.inr (hw _ (mi 43 rfl))) (by decide) (t := (.array .int)) (t' := .int) rfl rfl)
theorem sn13 {a0 Z} (hw : HW a0 Z) : SN Z "com/example/hyperplane/hyperplane/Blocks" "shifts" "[I" "groupWidths" "[I" := (slot_ne (a0 := a0) (C := "com/example/hyperplane/hyperplane/Blocks") (Or.inr (hw _ (mi 50 rfl))) (Or.inr (hw _ (mi 46 rfl))) (by decide) (t := (.array .int)) (t' := (.array .int)) rfl rfl)
theorem sn14 {a0 Z} (hw : HW a0 Z) : SN Z "com/example/hyperplane/hyperplane/Blocks" "shifts" "[I" "firstWords" "[I" := (slot_ne (a0 := a0) (C := "com/example/hyperplane/hyperplane/Blocks") (Or.inr (hw _ (mi 50 rfl))) (Or.inr (hw _ (mi 48 rfl))) (by decide) (t := (.array .int)) (t' := (.array .int)) rfl rfl)
theorem sn15 {a0 Z} (hw : HW a0 Z) : SN Z "com/example/hyperplane/hyperplane/Blocks" "lowMasks" "[J" "words" "I" := (slot_ne (a0 := a0) (C := "com/example/hyperplane/hyperplane/Blocks") (Or.inr (hw _ (mi 53 rfl))) (Or.inr (hw _ (mi 29 rfl))) (by decide) (t := (.array .long)) (t' := .int) rfl rfl)
theorem sn16 {a0 Z} (hw : HW a0 Z) : SN Z "com/example/hyperplane/hyperplane/Blocks" "lowMasks" "[J" "blocksPerGroup" "I" := (slot_ne (a0 := a0) (C := "com/example/hyperplane/hyperplane/Blocks") (Or.inr (hw _ (mi 53 rfl))) (Or.inr (hw _ (mi 41 rfl))) (by decide) (t := (.array .long)) (t' := .int) rfl rfl)
theorem sn17 {a0 Z} (hw : HW a0 Z) : SN Z "com/example/hyperplane/hyperplane/Blocks" "lowMasks" "[J" "keyBlocks" "I" := (slot_ne (a0 := a0) (C := "com/example/hyperplane/hyperplane/Blocks") (Or.inr (hw _ (mi 53 rfl))) (Or.inr (hw _ (mi 43 rfl))) (by decide) (t := (.array .long)) (t' := .int) rfl rfl)
theorem sn18 {a0 Z} (hw : HW a0 Z) : SN Z "com/example/hyperplane/hyperplane/Blocks" "lowMasks" "[J" "groupWidths" "[I" := (slot_ne (a0 := a0) (C := "com/example/hyperplane/hyperplane/Blocks") (Or.inr (hw _ (mi 53 rfl))) (Or.inr (hw _ (mi 46 rfl))) (by decide) (t := (.array .long)) (t' := (.array .int)) rfl rfl)
theorem sn19 {a0 Z} (hw : HW a0 Z) : SN Z "com/example/hyperplane/hyperplane/Blocks" "lowMasks" "[J" "firstWords" "[I" := (slot_ne (a0 := a0) (C := "com/example/hyperplane/hyperplane/Blocks") (Or.inr (hw _ (mi 53 rfl))) (Or.inr (hw _ (mi 48 rfl))) (by decide) (t := (.array .long)) (t' := (.array .int)) rfl rfl)
theorem sn20 {a0 Z} (hw : HW a0 Z) : SN Z "com/example/hyperplane/hyperplane/Blocks" "lowMasks" "[J" "shifts" "[I" := (slot_ne (a0 := a0) (C := "com/example/hyperplane/hyperplane/Blocks") (Or.inr (hw _ (mi 53 rfl))) (Or.inr (hw _ (mi 50 rfl))) (by decide) (t := (.array .long)) (t' := (.array .int)) rfl rfl)
theorem sn21 {a0 Z} (hw : HW a0 Z) : SN Z "com/example/hyperplane/hyperplane/Blocks" "highMasks" "[J" "words" "I" := (slot_ne (a0 := a0) (C := "com/example/hyperplane/hyperplane/Blocks") (Or.inr (hw _ (mi 55 rfl))) (Or.inr (hw _ (mi 29 rfl))) (by decide) (t := (.array .long)) (t' := .int) rfl rfl)
theorem sn22 {a0 Z} (hw : HW a0 Z) : SN Z "com/example/hyperplane/hyperplane/Blocks" "highMasks" "[J" "blocksPerGroup" "I" := (slot_ne (a0 := a0) (C := "com/example/hyperplane/hyperplane/Blocks") (Or.inr (hw _ (mi 55 rfl))) (Or.inr (hw _ (mi 41 rfl))) (by decide) (t := (.array .long)) (t' := .int) rfl rfl)
theorem sn23 {a0 Z} (hw : HW a0 Z) : SN Z "com/example/hyperplane/hyperplane/Blocks" "highMasks" "[J" "keyBlocks" "I" := (slot_ne (a0 := a0) (C := "com/example/hyperplane/hyperplane/Blocks") (Or.inr (hw _ (mi 55 rfl))) (Or.inr (hw _ (mi 43 rfl))) (by decide) (t := (.array .long)) (t' := .int) rfl rfl)
theorem sn24 {a0 Z} (hw : HW a0 Z) : SN Z "com/example/hyperplane/hyperplane/Blocks" "highMasks" "[J" "groupWidths" "[I" := (slot_ne (a0 := a0) (C := "com/example/hyperplane/hyperplane/Blocks") (Or.inr (hw _ (mi 55 rfl))) (Or.inr (hw _ (mi 46 rfl))) (by decide) (t := (.array .long)) (t' := (.array .int)) rfl rfl)
theorem sn25 {a0 Z} (hw : HW a0 Z) : SN Z "com/example/hyperplane/hyperplane/Blocks" "highMasks" "[J" "firstWords" "[I" := (slot_ne (a0 := a0) (C := "com/example/hyperplane/hyperplane/Blocks") (Or.inr (hw _ (mi 55 rfl))) (Or.inr (hw _ (mi 48 rfl))) (by decide) (t := (.array .long)) (t' := (.array .int)) rfl rfl)
theorem sn26 {a0 Z} (hw : HW a0 Z) : SN Z "com/example/hyperplane/hyperplane/Blocks" "highMasks" "[J" "shifts" "[I" := (slot_ne (a0 := a0) (C := "com/example/hyperplane/hyperplane/Blocks") (Or.inr (hw _ (mi 55 rfl))) (Or.inr (hw _ (mi 50 rfl))) (by decide) (t := (.array .long)) (t' := (.array .int)) rfl rfl)
theorem sn27 {a0 Z} (hw : HW a0 Z) : SN Z "com/example/hyperplane/hyperplane/Blocks" "highMasks" "[J" "lowMasks" "[J" := (slot_ne (a0 := a0) (C := "com/example/hyperplane/hyperplane/Blocks") (Or.inr (hw _ (mi 55 rfl))) (Or.inr (hw _ (mi 53 rfl))) (by decide) (t := (.array .long)) (t' := (.array .long)) rfl rfl)
theorem sn28 {a0 Z} (hw : HW a0 Z) : SN Z "com/example/hyperplane/hyperplane/Blocks" "blockOffsets" "[I" "words" "I" := (slot_ne (a0 := a0) (C := "com/example/hyperplane/hyperplane/Blocks") (Or.inr (hw _ (mi 57 rfl))) (Or.inr (hw _ (mi 29 rfl))) (by decide) (t := (.array .int)) (t' := .int) rfl rfl)
theorem sn29 {a0 Z} (hw : HW a0 Z) : SN Z "com/example/hyperplane/hyperplane/Blocks" "blockOffsets" "[I" "blocksPerGroup" "I" := (slot_ne (a0 := a0) (C := "com/example/hyperplane/hyperplane/Blocks") (Or.inr (hw _ (mi 57 rfl))) (Or.inr (hw _ (mi 41 rfl))) (by decide) (t := (.array .int)) (t' := .int) rfl rfl)
theorem sn30 {a0 Z} (hw : HW a0 Z) : SN Z "com/example/hyperplane/hyperplane/Blocks" "blockOffsets" "[I" "keyBlocks" "I" := (slot_ne (a0 := a0) (C := "com/example/hyperplane/hyperplane/Blocks") (Or.inr (hw _ (mi 57 rfl))) (Or.inr (hw _ (mi 43 rfl))) (by decide) (t := (.array .int)) (t' := .int) rfl rfl)
theorem sn31 {a0 Z} (hw : HW a0 Z) : SN Z "com/example/hyperplane/hyperplane/Blocks" "blockOffsets" "[I" "groupWidths" "[I" := (slot_ne (a0 := a0) (C := "com/example/hyperplane/hyperplane/Blocks") (Or.inr (hw _ (mi 57 rfl))) (Or.inr (hw _ (mi 46 rfl))) (by decide) (t := (.array .int)) (t' := (.array .int)) rfl rfl)
theorem sn32 {a0 Z} (hw : HW a0 Z) : SN Z "com/example/hyperplane/hyperplane/Blocks" "blockOffsets" "[I" "firstWords" "[I" := (slot_ne (a0 := a0) (C := "com/example/hyperplane/hyperplane/Blocks") (Or.inr (hw _ (mi 57 rfl))) (Or.inr (hw _ (mi 48 rfl))) (by decide) (t := (.array .int)) (t' := (.array .int)) rfl rfl)
theorem sn33 {a0 Z} (hw : HW a0 Z) : SN Z "com/example/hyperplane/hyperplane/Blocks" "blockOffsets" "[I" "shifts" "[I" := (slot_ne (a0 := a0) (C := "com/example/hyperplane/hyperplane/Blocks") (Or.inr (hw _ (mi 57 rfl))) (Or.inr (hw _ (mi 50 rfl))) (by decide) (t := (.array .int)) (t' := (.array .int)) rfl rfl)
theorem sn34 {a0 Z} (hw : HW a0 Z) : SN Z "com/example/hyperplane/hyperplane/Blocks" "blockOffsets" "[I" "lowMasks" "[J" := (slot_ne (a0 := a0) (C := "com/example/hyperplane/hyperplane/Blocks") (Or.inr (hw _ (mi 57 rfl))) (Or.inr (hw _ (mi 53 rfl))) (by decide) (t := (.array .int)) (t' := (.array .long)) rfl rfl)
theorem sn35 {a0 Z} (hw : HW a0 Z) : SN Z "com/example/hyperplane/hyperplane/Blocks" "blockOffsets" "[I" "highMasks" "[J" := (slot_ne (a0 := a0) (C := "com/example/hyperplane/hyperplane/Blocks") (Or.inr (hw _ (mi 57 rfl))) (Or.inr (hw _ (mi 55 rfl))) (by decide) (t := (.array .int)) (t' := (.array .long)) rfl rfl)
theorem sn36 {a0 Z} (hw : HW a0 Z) : SN Z "com/example/hyperplane/hyperplane/Blocks" "blockWidths" "[I" "words" "I" := (slot_ne (a0 := a0) (C := "com/example/hyperplane/hyperplane/Blocks") (Or.inr (hw _ (mi 59 rfl))) (Or.inr (hw _ (mi 29 rfl))) (by decide) (t := (.array .int)) (t' := .int) rfl rfl)
theorem sn37 {a0 Z} (hw : HW a0 Z) : SN Z "com/example/hyperplane/hyperplane/Blocks" "blockWidths" "[I" "blocksPerGroup" "I" := (slot_ne (a0 := a0) (C := "com/example/hyperplane/hyperplane/Blocks") (Or.inr (hw _ (mi 59 rfl))) (Or.inr (hw _ (mi 41 rfl))) (by decide) (t := (.array .int)) (t' := .int) rfl rfl)
theorem sn38 {a0 Z} (hw : HW a0 Z) : SN Z "com/example/hyperplane/hyperplane/Blocks" "blockWidths" "[I" "keyBlocks" "I" := (slot_ne (a0 := a0) (C := "com/example/hyperplane/hyperplane/Blocks") (Or.inr (hw _ (mi 59 rfl))) (Or.inr (hw _ (mi 43 rfl))) (by decide) (t := (.array .int)) (t' := .int) rfl rfl)
theorem sn39 {a0 Z} (hw : HW a0 Z) : SN Z "com/example/hyperplane/hyperplane/Blocks" "blockWidths" "[I" "groupWidths" "[I" := (slot_ne (a0 := a0) (C := "com/example/hyperplane/hyperplane/Blocks") (Or.inr (hw _ (mi 59 rfl))) (Or.inr (hw _ (mi 46 rfl))) (by decide) (t := (.array .int)) (t' := (.array .int)) rfl rfl)
theorem sn40 {a0 Z} (hw : HW a0 Z) : SN Z "com/example/hyperplane/hyperplane/Blocks" "blockWidths" "[I" "firstWords" "[I" := (slot_ne (a0 := a0) (C := "com/example/hyperplane/hyperplane/Blocks") (Or.inr (hw _ (mi 59 rfl))) (Or.inr (hw _ (mi 48 rfl))) (by decide) (t := (.array .int)) (t' := (.array .int)) rfl rfl)
theorem sn41 {a0 Z} (hw : HW a0 Z) : SN Z "com/example/hyperplane/hyperplane/Blocks" "blockWidths" "[I" "shifts" "[I" := (slot_ne (a0 := a0) (C := "com/example/hyperplane/hyperplane/Blocks") (Or.inr (hw _ (mi 59 rfl))) (Or.inr (hw _ (mi 50 rfl))) (by decide) (t := (.array .int)) (t' := (.array .int)) rfl rfl)
theorem sn42 {a0 Z} (hw : HW a0 Z) : SN Z "com/example/hyperplane/hyperplane/Blocks" "blockWidths" "[I" "lowMasks" "[J" := (slot_ne (a0 := a0) (C := "com/example/hyperplane/hyperplane/Blocks") (Or.inr (hw _ (mi 59 rfl))) (Or.inr (hw _ (mi 53 rfl))) (by decide) (t := (.array .int)) (t' := (.array .long)) rfl rfl)
theorem sn43 {a0 Z} (hw : HW a0 Z) : SN Z "com/example/hyperplane/hyperplane/Blocks" "blockWidths" "[I" "highMasks" "[J" := (slot_ne (a0 := a0) (C := "com/example/hyperplane/hyperplane/Blocks") (Or.inr (hw _ (mi 59 rfl))) (Or.inr (hw _ (mi 55 rfl))) (by decide) (t := (.array .int)) (t' := (.array .long)) rfl rfl)
theorem sn44 {a0 Z} (hw : HW a0 Z) : SN Z "com/example/hyperplane/hyperplane/Blocks" "blockWidths" "[I" "blockOffsets" "[I" := (slot_ne (a0 := a0) (C := "com/example/hyperplane/hyperplane/Blocks") (Or.inr (hw _ (mi 59 rfl))) (Or.inr (hw _ (mi 57 rfl))) (by decide) (t := (.array .int)) (t' := (.array .int)) rfl rfl)
theorem sn45 {a0 Z} (hw : HW a0 Z) : SN Z "com/example/hyperplane/hyperplane/Blocks" "blockMasks" "[J" "words" "I" := (slot_ne (a0 := a0) (C := "com/example/hyperplane/hyperplane/Blocks") (Or.inr (hw _ (mi 61 rfl))) (Or.inr (hw _ (mi 29 rfl))) (by decide) (t := (.array .long)) (t' := .int) rfl rfl)
theorem sn46 {a0 Z} (hw : HW a0 Z) : SN Z "com/example/hyperplane/hyperplane/Blocks" "blockMasks" "[J" "blocksPerGroup" "I" := (slot_ne (a0 := a0) (C := "com/example/hyperplane/hyperplane/Blocks") (Or.inr (hw _ (mi 61 rfl))) (Or.inr (hw _ (mi 41 rfl))) (by decide) (t := (.array .long)) (t' := .int) rfl rfl)
theorem sn47 {a0 Z} (hw : HW a0 Z) : SN Z "com/example/hyperplane/hyperplane/Blocks" "blockMasks" "[J" "keyBlocks" "I" := (slot_ne (a0 := a0) (C := "com/example/hyperplane/hyperplane/Blocks") (Or.inr (hw _ (mi 61 rfl))) (Or.inr (hw _ (mi 43 rfl))) (by decide) (t := (.array .long)) (t' := .int) rfl rfl)
theorem sn48 {a0 Z} (hw : HW a0 Z) : SN Z "com/example/hyperplane/hyperplane/Blocks" "blockMasks" "[J" "groupWidths" "[I" := (slot_ne (a0 := a0) (C := "com/example/hyperplane/hyperplane/Blocks") (Or.inr (hw _ (mi 61 rfl))) (Or.inr (hw _ (mi 46 rfl))) (by decide) (t := (.array .long)) (t' := (.array .int)) rfl rfl)
theorem sn49 {a0 Z} (hw : HW a0 Z) : SN Z "com/example/hyperplane/hyperplane/Blocks" "blockMasks" "[J" "firstWords" "[I" := (slot_ne (a0 := a0) (C := "com/example/hyperplane/hyperplane/Blocks") (Or.inr (hw _ (mi 61 rfl))) (Or.inr (hw _ (mi 48 rfl))) (by decide) (t := (.array .long)) (t' := (.array .int)) rfl rfl)
theorem sn50 {a0 Z} (hw : HW a0 Z) : SN Z "com/example/hyperplane/hyperplane/Blocks" "blockMasks" "[J" "shifts" "[I" := (slot_ne (a0 := a0) (C := "com/example/hyperplane/hyperplane/Blocks") (Or.inr (hw _ (mi 61 rfl))) (Or.inr (hw _ (mi 50 rfl))) (by decide) (t := (.array .long)) (t' := (.array .int)) rfl rfl)
theorem sn51 {a0 Z} (hw : HW a0 Z) : SN Z "com/example/hyperplane/hyperplane/Blocks" "blockMasks" "[J" "lowMasks" "[J" := (slot_ne (a0 := a0) (C := "com/example/hyperplane/hyperplane/Blocks") (Or.inr (hw _ (mi 61 rfl))) (Or.inr (hw _ (mi 53 rfl))) (by decide) (t := (.array .long)) (t' := (.array .long)) rfl rfl)
theorem sn52 {a0 Z} (hw : HW a0 Z) : SN Z "com/example/hyperplane/hyperplane/Blocks" "blockMasks" "[J" "highMasks" "[J" := (slot_ne (a0 := a0) (C := "com/example/hyperplane/hyperplane/Blocks") (Or.inr (hw _ (mi 61 rfl))) (Or.inr (hw _ (mi 55 rfl))) (by decide) (t := (.array .long)) (t' := (.array .long)) rfl rfl)
theorem sn53 {a0 Z} (hw : HW a0 Z) : SN Z "com/example/hyperplane/hyperplane/Blocks" "blockMasks" "[J" "blockOffsets" "[I" := (slot_ne (a0 := a0) (C := "com/example/hyperplane/hyperplane/Blocks") (Or.inr (hw _ (mi 61 rfl))) (Or.inr (hw _ (mi 57 rfl))) (by decide) (t := (.array .long)) (t' := (.array .int)) rfl rfl)
theorem sn54 {a0 Z} (hw : HW a0 Z) : SN Z "com/example/hyperplane/hyperplane/Blocks" "blockMasks" "[J" "blockWidths" "[I" := (slot_ne (a0 := a0) (C := "com/example/hyperplane/hyperplane/Blocks") (Or.inr (hw _ (mi 61 rfl))) (Or.inr (hw _ (mi 59 rfl))) (by decide) (t := (.array .long)) (t' := (.array .int)) rfl rfl)
theorem sn55 {a0 Z} (hw : HW a0 Z) : SN Z "com/example/hyperplane/hyperplane/Blocks" "groupWidths" "[I" "firstWords" "[I" := (slot_ne (a0 := a0) (C := "com/example/hyperplane/hyperplane/Blocks") (Or.inr (hw _ (mi 46 rfl))) (Or.inr (hw _ (mi 48 rfl))) (by decide) (t := (.array .int)) (t' := (.array .int)) rfl rfl)
theorem sn56 {a0 Z} (hw : HW a0 Z) : SN Z "com/example/hyperplane/hyperplane/Blocks" "groupWidths" "[I" "shifts" "[I" := (slot_ne (a0 := a0) (C := "com/example/hyperplane/hyperplane/Blocks") (Or.inr (hw _ (mi 46 rfl))) (Or.inr (hw _ (mi 50 rfl))) (by decide) (t := (.array .int)) (t' := (.array .int)) rfl rfl)
theorem sn57 {a0 Z} (hw : HW a0 Z) : SN Z "com/example/hyperplane/hyperplane/Blocks" "groupWidths" "[I" "lowMasks" "[J" := (slot_ne (a0 := a0) (C := "com/example/hyperplane/hyperplane/Blocks") (Or.inr (hw _ (mi 46 rfl))) (Or.inr (hw _ (mi 53 rfl))) (by decide) (t := (.array .int)) (t' := (.array .long)) rfl rfl)
theorem sn58 {a0 Z} (hw : HW a0 Z) : SN Z "com/example/hyperplane/hyperplane/Blocks" "groupWidths" "[I" "highMasks" "[J" := (slot_ne (a0 := a0) (C := "com/example/hyperplane/hyperplane/Blocks") (Or.inr (hw _ (mi 46 rfl))) (Or.inr (hw _ (mi 55 rfl))) (by decide) (t := (.array .int)) (t' := (.array .long)) rfl rfl)
theorem sn59 {a0 Z} (hw : HW a0 Z) : SN Z "com/example/hyperplane/hyperplane/Blocks" "groupWidths" "[I" "blockOffsets" "[I" := (slot_ne (a0 := a0) (C := "com/example/hyperplane/hyperplane/Blocks") (Or.inr (hw _ (mi 46 rfl))) (Or.inr (hw _ (mi 57 rfl))) (by decide) (t := (.array .int)) (t' := (.array .int)) rfl rfl)
theorem sn60 {a0 Z} (hw : HW a0 Z) : SN Z "com/example/hyperplane/hyperplane/Blocks" "groupWidths" "[I" "blockWidths" "[I" := (slot_ne (a0 := a0) (C := "com/example/hyperplane/hyperplane/Blocks") (Or.inr (hw _ (mi 46 rfl))) (Or.inr (hw _ (mi 59 rfl))) (by decide) (t := (.array .int)) (t' := (.array .int)) rfl rfl)
theorem sn61 {a0 Z} (hw : HW a0 Z) : SN Z "com/example/hyperplane/hyperplane/Blocks" "groupWidths" "[I" "blockMasks" "[J" := (slot_ne (a0 := a0) (C := "com/example/hyperplane/hyperplane/Blocks") (Or.inr (hw _ (mi 46 rfl))) (Or.inr (hw _ (mi 61 rfl))) (by decide) (t := (.array .int)) (t' := (.array .long)) rfl rfl)
theorem sn62 {a0 Z} (hw : HW a0 Z) : SN Z "com/example/hyperplane/hyperplane/Blocks" "firstWords" "[I" "shifts" "[I" := (slot_ne (a0 := a0) (C := "com/example/hyperplane/hyperplane/Blocks") (Or.inr (hw _ (mi 48 rfl))) (Or.inr (hw _ (mi 50 rfl))) (by decide) (t := (.array .int)) (t' := (.array .int)) rfl rfl)
theorem sn63 {a0 Z} (hw : HW a0 Z) : SN Z "com/example/hyperplane/hyperplane/Blocks" "firstWords" "[I" "lowMasks" "[J" := (slot_ne (a0 := a0) (C := "com/example/hyperplane/hyperplane/Blocks") (Or.inr (hw _ (mi 48 rfl))) (Or.inr (hw _ (mi 53 rfl))) (by decide) (t := (.array .int)) (t' := (.array .long)) rfl rfl)
theorem sn64 {a0 Z} (hw : HW a0 Z) : SN Z "com/example/hyperplane/hyperplane/Blocks" "firstWords" "[I" "highMasks" "[J" := (slot_ne (a0 := a0) (C := "com/example/hyperplane/hyperplane/Blocks") (Or.inr (hw _ (mi 48 rfl))) (Or.inr (hw _ (mi 55 rfl))) (by decide) (t := (.array .int)) (t' := (.array .long)) rfl rfl)
theorem sn65 {a0 Z} (hw : HW a0 Z) : SN Z "com/example/hyperplane/hyperplane/Blocks" "firstWords" "[I" "blockOffsets" "[I" := (slot_ne (a0 := a0) (C := "com/example/hyperplane/hyperplane/Blocks") (Or.inr (hw _ (mi 48 rfl))) (Or.inr (hw _ (mi 57 rfl))) (by decide) (t := (.array .int)) (t' := (.array .int)) rfl rfl)
theorem sn66 {a0 Z} (hw : HW a0 Z) : SN Z "com/example/hyperplane/hyperplane/Blocks" "firstWords" "[I" "blockWidths" "[I" := (slot_ne (a0 := a0) (C := "com/example/hyperplane/hyperplane/Blocks") (Or.inr (hw _ (mi 48 rfl))) (Or.inr (hw _ (mi 59 rfl))) (by decide) (t := (.array .int)) (t' := (.array .int)) rfl rfl)
theorem sn67 {a0 Z} (hw : HW a0 Z) : SN Z "com/example/hyperplane/hyperplane/Blocks" "firstWords" "[I" "blockMasks" "[J" := (slot_ne (a0 := a0) (C := "com/example/hyperplane/hyperplane/Blocks") (Or.inr (hw _ (mi 48 rfl))) (Or.inr (hw _ (mi 61 rfl))) (by decide) (t := (.array .int)) (t' := (.array .long)) rfl rfl)
theorem sn68 {a0 Z} (hw : HW a0 Z) : SN Z "com/example/hyperplane/hyperplane/Blocks" "shifts" "[I" "lowMasks" "[J" := (slot_ne (a0 := a0) (C := "com/example/hyperplane/hyperplane/Blocks") (Or.inr (hw _ (mi 50 rfl))) (Or.inr (hw _ (mi 53 rfl))) (by decide) (t := (.array .int)) (t' := (.array .long)) rfl rfl)
theorem sn69 {a0 Z} (hw : HW a0 Z) : SN Z "com/example/hyperplane/hyperplane/Blocks" "shifts" "[I" "highMasks" "[J" := (slot_ne (a0 := a0) (C := "com/example/hyperplane/hyperplane/Blocks") (Or.inr (hw _ (mi 50 rfl))) (Or.inr (hw _ (mi 55 rfl))) (by decide) (t := (.array .int)) (t' := (.array .long)) rfl rfl)
theorem sn70 {a0 Z} (hw : HW a0 Z) : SN Z "com/example/hyperplane/hyperplane/Blocks" "shifts" "[I" "blockOffsets" "[I" := (slot_ne (a0 := a0) (C := "com/example/hyperplane/hyperplane/Blocks") (Or.inr (hw _ (mi 50 rfl))) (Or.inr (hw _ (mi 57 rfl))) (by decide) (t := (.array .int)) (t' := (.array .int)) rfl rfl)
theorem sn71 {a0 Z} (hw : HW a0 Z) : SN Z "com/example/hyperplane/hyperplane/Blocks" "shifts" "[I" "blockWidths" "[I" := (slot_ne (a0 := a0) (C := "com/example/hyperplane/hyperplane/Blocks") (Or.inr (hw _ (mi 50 rfl))) (Or.inr (hw _ (mi 59 rfl))) (by decide) (t := (.array .int)) (t' := (.array .int)) rfl rfl)
theorem sn72 {a0 Z} (hw : HW a0 Z) : SN Z "com/example/hyperplane/hyperplane/Blocks" "shifts" "[I" "blockMasks" "[J" := (slot_ne (a0 := a0) (C := "com/example/hyperplane/hyperplane/Blocks") (Or.inr (hw _ (mi 50 rfl))) (Or.inr (hw _ (mi 61 rfl))) (by decide) (t := (.array .int)) (t' := (.array .long)) rfl rfl)
theorem sn73 {a0 Z} (hw : HW a0 Z) : SN Z "com/example/hyperplane/hyperplane/Blocks" "lowMasks" "[J" "highMasks" "[J" := (slot_ne (a0 := a0) (C := "com/example/hyperplane/hyperplane/Blocks") (Or.inr (hw _ (mi 53 rfl))) (Or.inr (hw _ (mi 55 rfl))) (by decide) (t := (.array .long)) (t' := (.array .long)) rfl rfl)
theorem sn74 {a0 Z} (hw : HW a0 Z) : SN Z "com/example/hyperplane/hyperplane/Blocks" "lowMasks" "[J" "blockOffsets" "[I" := (slot_ne (a0 := a0) (C := "com/example/hyperplane/hyperplane/Blocks") (Or.inr (hw _ (mi 53 rfl))) (Or.inr (hw _ (mi 57 rfl))) (by decide) (t := (.array .long)) (t' := (.array .int)) rfl rfl)
theorem sn75 {a0 Z} (hw : HW a0 Z) : SN Z "com/example/hyperplane/hyperplane/Blocks" "lowMasks" "[J" "blockWidths" "[I" := (slot_ne (a0 := a0) (C := "com/example/hyperplane/hyperplane/Blocks") (Or.inr (hw _ (mi 53 rfl))) (Or.inr (hw _ (mi 59 rfl))) (by decide) (t := (.array .long)) (t' := (.array .int)) rfl rfl)
theorem sn76 {a0 Z} (hw : HW a0 Z) : SN Z "com/example/hyperplane/hyperplane/Blocks" "lowMasks" "[J" "blockMasks" "[J" := (slot_ne (a0 := a0) (C := "com/example/hyperplane/hyperplane/Blocks") (Or.inr (hw _ (mi 53 rfl))) (Or.inr (hw _ (mi 61 rfl))) (by decide) (t := (.array .long)) (t' := (.array .long)) rfl rfl)
theorem sn77 {a0 Z} (hw : HW a0 Z) : SN Z "com/example/hyperplane/hyperplane/Blocks" "highMasks" "[J" "blockOffsets" "[I" := (slot_ne (a0 := a0) (C := "com/example/hyperplane/hyperplane/Blocks") (Or.inr (hw _ (mi 55 rfl))) (Or.inr (hw _ (mi 57 rfl))) (by decide) (t := (.array .long)) (t' := (.array .int)) rfl rfl)
theorem sn78 {a0 Z} (hw : HW a0 Z) : SN Z "com/example/hyperplane/hyperplane/Blocks" "highMasks" "[J" "blockWidths" "[I" := (slot_ne (a0 := a0) (C := "com/example/hyperplane/hyperplane/Blocks") (Or.inr (hw _ (mi 55 rfl))) (Or.inr (hw _ (mi 59 rfl))) (by decide) (t := (.array .long)) (t' := (.array .int)) rfl rfl)
theorem sn79 {a0 Z} (hw : HW a0 Z) : SN Z "com/example/hyperplane/hyperplane/Blocks" "highMasks" "[J" "blockMasks" "[J" := (slot_ne (a0 := a0) (C := "com/example/hyperplane/hyperplane/Blocks") (Or.inr (hw _ (mi 55 rfl))) (Or.inr (hw _ (mi 61 rfl))) (by decide) (t := (.array .long)) (t' := (.array .long)) rfl rfl)
theorem sn80 {a0 Z} (hw : HW a0 Z) : SN Z "com/example/hyperplane/hyperplane/Blocks" "blockOffsets" "[I" "blockWidths" "[I" := (slot_ne (a0 := a0) (C := "com/example/hyperplane/hyperplane/Blocks") (Or.inr (hw _ (mi 57 rfl))) (Or.inr (hw _ (mi 59 rfl))) (by decide) (t := (.array .int)) (t' := (.array .int)) rfl rfl)
theorem sn81 {a0 Z} (hw : HW a0 Z) : SN Z "com/example/hyperplane/hyperplane/Blocks" "blockOffsets" "[I" "blockMasks" "[J" := (slot_ne (a0 := a0) (C := "com/example/hyperplane/hyperplane/Blocks") (Or.inr (hw _ (mi 57 rfl))) (Or.inr (hw _ (mi 61 rfl))) (by decide) (t := (.array .int)) (t' := (.array .long)) rfl rfl)
theorem sn82 {a0 Z} (hw : HW a0 Z) : SN Z "com/example/hyperplane/hyperplane/Blocks" "blockWidths" "[I" "blockMasks" "[J" := (slot_ne (a0 := a0) (C := "com/example/hyperplane/hyperplane/Blocks") (Or.inr (hw _ (mi 59 rfl))) (Or.inr (hw _ (mi 61 rfl))) (by decide) (t := (.array .int)) (t' := (.array .long)) rfl rfl)
theorem sn83 {a0 Z} (hw : HW a0 Z) : SN Z "com/example/hyperplane/hyperplane/Blocks" "keys" "[J" "words" "I" := (slot_ne (a0 := a0) (C := "com/example/hyperplane/hyperplane/Blocks") (Or.inr (hw _ (mi 63 rfl))) (Or.inr (hw _ (mi 29 rfl))) (by decide) (t := (.array .long)) (t' := .int) rfl rfl)
theorem sn84 {a0 Z} (hw : HW a0 Z) : SN Z "com/example/hyperplane/hyperplane/Blocks" "keys" "[J" "blocksPerGroup" "I" := (slot_ne (a0 := a0) (C := "com/example/hyperplane/hyperplane/Blocks") (Or.inr (hw _ (mi 63 rfl))) (Or.inr (hw _ (mi 41 rfl))) (by decide) (t := (.array .long)) (t' := .int) rfl rfl)
theorem sn85 {a0 Z} (hw : HW a0 Z) : SN Z "com/example/hyperplane/hyperplane/Blocks" "keys" "[J" "keyBlocks" "I" := (slot_ne (a0 := a0) (C := "com/example/hyperplane/hyperplane/Blocks") (Or.inr (hw _ (mi 63 rfl))) (Or.inr (hw _ (mi 43 rfl))) (by decide) (t := (.array .long)) (t' := .int) rfl rfl)
theorem sn86 {a0 Z} (hw : HW a0 Z) : SN Z "com/example/hyperplane/hyperplane/Blocks" "keys" "[J" "groupWidths" "[I" := (slot_ne (a0 := a0) (C := "com/example/hyperplane/hyperplane/Blocks") (Or.inr (hw _ (mi 63 rfl))) (Or.inr (hw _ (mi 46 rfl))) (by decide) (t := (.array .long)) (t' := (.array .int)) rfl rfl)
theorem sn87 {a0 Z} (hw : HW a0 Z) : SN Z "com/example/hyperplane/hyperplane/Blocks" "keys" "[J" "firstWords" "[I" := (slot_ne (a0 := a0) (C := "com/example/hyperplane/hyperplane/Blocks") (Or.inr (hw _ (mi 63 rfl))) (Or.inr (hw _ (mi 48 rfl))) (by decide) (t := (.array .long)) (t' := (.array .int)) rfl rfl)
theorem sn88 {a0 Z} (hw : HW a0 Z) : SN Z "com/example/hyperplane/hyperplane/Blocks" "keys" "[J" "shifts" "[I" := (slot_ne (a0 := a0) (C := "com/example/hyperplane/hyperplane/Blocks") (Or.inr (hw _ (mi 63 rfl))) (Or.inr (hw _ (mi 50 rfl))) (by decide) (t := (.array .long)) (t' := (.array .int)) rfl rfl)
theorem sn89 {a0 Z} (hw : HW a0 Z) : SN Z "com/example/hyperplane/hyperplane/Blocks" "keys" "[J" "lowMasks" "[J" := (slot_ne (a0 := a0) (C := "com/example/hyperplane/hyperplane/Blocks") (Or.inr (hw _ (mi 63 rfl))) (Or.inr (hw _ (mi 53 rfl))) (by decide) (t := (.array .long)) (t' := (.array .long)) rfl rfl)
theorem sn90 {a0 Z} (hw : HW a0 Z) : SN Z "com/example/hyperplane/hyperplane/Blocks" "keys" "[J" "highMasks" "[J" := (slot_ne (a0 := a0) (C := "com/example/hyperplane/hyperplane/Blocks") (Or.inr (hw _ (mi 63 rfl))) (Or.inr (hw _ (mi 55 rfl))) (by decide) (t := (.array .long)) (t' := (.array .long)) rfl rfl)
theorem sn91 {a0 Z} (hw : HW a0 Z) : SN Z "com/example/hyperplane/hyperplane/Blocks" "keys" "[J" "blockOffsets" "[I" := (slot_ne (a0 := a0) (C := "com/example/hyperplane/hyperplane/Blocks") (Or.inr (hw _ (mi 63 rfl))) (Or.inr (hw _ (mi 57 rfl))) (by decide) (t := (.array .long)) (t' := (.array .int)) rfl rfl)
theorem sn92 {a0 Z} (hw : HW a0 Z) : SN Z "com/example/hyperplane/hyperplane/Blocks" "keys" "[J" "blockWidths" "[I" := (slot_ne (a0 := a0) (C := "com/example/hyperplane/hyperplane/Blocks") (Or.inr (hw _ (mi 63 rfl))) (Or.inr (hw _ (mi 59 rfl))) (by decide) (t := (.array .long)) (t' := (.array .int)) rfl rfl)
theorem sn93 {a0 Z} (hw : HW a0 Z) : SN Z "com/example/hyperplane/hyperplane/Blocks" "keys" "[J" "blockMasks" "[J" := (slot_ne (a0 := a0) (C := "com/example/hyperplane/hyperplane/Blocks") (Or.inr (hw _ (mi 63 rfl))) (Or.inr (hw _ (mi 61 rfl))) (by decide) (t := (.array .long)) (t' := (.array .long)) rfl rfl)
theorem sn94 {a0 Z} (hw : HW a0 Z) : SN Z "com/example/hyperplane/hyperplane/Blocks" "tableGroups" "[I" "words" "I" := (slot_ne (a0 := a0) (C := "com/example/hyperplane/hyperplane/Blocks") (Or.inr (hw _ (mi 65 rfl))) (Or.inr (hw _ (mi 29 rfl))) (by decide) (t := (.array .int)) (t' := .int) rfl rfl)
theorem sn95 {a0 Z} (hw : HW a0 Z) : SN Z "com/example/hyperplane/hyperplane/Blocks" "tableGroups" "[I" "blocksPerGroup" "I" := (slot_ne (a0 := a0) (C := "com/example/hyperplane/hyperplane/Blocks") (Or.inr (hw _ (mi 65 rfl))) (Or.inr (hw _ (mi 41 rfl))) (by decide) (t := (.array .int)) (t' := .int) rfl rfl)
theorem sn96 {a0 Z} (hw : HW a0 Z) : SN Z "com/example/hyperplane/hyperplane/Blocks" "tableGroups" "[I" "keyBlocks" "I" := (slot_ne (a0 := a0) (C := "com/example/hyperplane/hyperplane/Blocks") (Or.inr (hw _ (mi 65 rfl))) (Or.inr (hw _ (mi 43 rfl))) (by decide) (t := (.array .int)) (t' := .int) rfl rfl)
theorem sn97 {a0 Z} (hw : HW a0 Z) : SN Z "com/example/hyperplane/hyperplane/Blocks" "tableGroups" "[I" "groupWidths" "[I" := (slot_ne (a0 := a0) (C := "com/example/hyperplane/hyperplane/Blocks") (Or.inr (hw _ (mi 65 rfl))) (Or.inr (hw _ (mi 46 rfl))) (by decide) (t := (.array .int)) (t' := (.array .int)) rfl rfl)
theorem sn98 {a0 Z} (hw : HW a0 Z) : SN Z "com/example/hyperplane/hyperplane/Blocks" "tableGroups" "[I" "firstWords" "[I" := (slot_ne (a0 := a0) (C := "com/example/hyperplane/hyperplane/Blocks") (Or.inr (hw _ (mi 65 rfl))) (Or.inr (hw _ (mi 48 rfl))) (by decide) (t := (.array .int)) (t' := (.array .int)) rfl rfl)
theorem sn99 {a0 Z} (hw : HW a0 Z) : SN Z "com/example/hyperplane/hyperplane/Blocks" "tableGroups" "[I" "shifts" "[I" := (slot_ne (a0 := a0) (C := "com/example/hyperplane/hyperplane/Blocks") (Or.inr (hw _ (mi 65 rfl))) (Or.inr (hw _ (mi 50 rfl))) (by decide) (t := (.array .int)) (t' := (.array .int)) rfl rfl)
theorem sn100 {a0 Z} (hw : HW a0 Z) : SN Z "com/example/hyperplane/hyperplane/Blocks" "tableGroups" "[I" "lowMasks" "[J" := (slot_ne (a0 := a0) (C := "com/example/hyperplane/hyperplane/Blocks") (Or.inr (hw _ (mi 65 rfl))) (Or.inr (hw _ (mi 53 rfl))) (by decide) (t := (.array .int)) (t' := (.array .long)) rfl rfl)
theorem sn101 {a0 Z} (hw : HW a0 Z) : SN Z "com/example/hyperplane/hyperplane/Blocks" "tableGroups" "[I" "highMasks" "[J" := (slot_ne (a0 := a0) (C := "com/example/hyperplane/hyperplane/Blocks") (Or.inr (hw _ (mi 65 rfl))) (Or.inr (hw _ (mi 55 rfl))) (by decide) (t := (.array .int)) (t' := (.array .long)) rfl rfl)
theorem sn102 {a0 Z} (hw : HW a0 Z) : SN Z "com/example/hyperplane/hyperplane/Blocks" "tableGroups" "[I" "blockOffsets" "[I" := (slot_ne (a0 := a0) (C := "com/example/hyperplane/hyperplane/Blocks") (Or.inr (hw _ (mi 65 rfl))) (Or.inr (hw _ (mi 57 rfl))) (by decide) (t := (.array .int)) (t' := (.array .int)) rfl rfl)
theorem sn103 {a0 Z} (hw : HW a0 Z) : SN Z "com/example/hyperplane/hyperplane/Blocks" "tableGroups" "[I" "blockWidths" "[I" := (slot_ne (a0 := a0) (C := "com/example/hyperplane/hyperplane/Blocks") (Or.inr (hw _ (mi 65 rfl))) (Or.inr (hw _ (mi 59 rfl))) (by decide) (t := (.array .int)) (t' := (.array .int)) rfl rfl)
theorem sn104 {a0 Z} (hw : HW a0 Z) : SN Z "com/example/hyperplane/hyperplane/Blocks" "tableGroups" "[I" "blockMasks" "[J" := (slot_ne (a0 := a0) (C := "com/example/hyperplane/hyperplane/Blocks") (Or.inr (hw _ (mi 65 rfl))) (Or.inr (hw _ (mi 61 rfl))) (by decide) (t := (.array .int)) (t' := (.array .long)) rfl rfl)
theorem sn105 {a0 Z} (hw : HW a0 Z) : SN Z "com/example/hyperplane/hyperplane/Blocks" "tableGroups" "[I" "keys" "[J" := (slot_ne (a0 := a0) (C := "com/example/hyperplane/hyperplane/Blocks") (Or.inr (hw _ (mi 65 rfl))) (Or.inr (hw _ (mi 63 rfl))) (by decide) (t := (.array .int)) (t' := (.array .long)) rfl rfl)
theorem sn106 {a0 Z} (hw : HW a0 Z) : SN Z "com/example/hyperplane/hyperplane/Blocks" "blockEnds" "[I" "words" "I" := (slot_ne (a0 := a0) (C := "com/example/hyperplane/hyperplane/Blocks") (Or.inr (hw _ (mi 67 rfl))) (Or.inr (hw _ (mi 29 rfl))) (by decide) (t := (.array .int)) (t' := .int) rfl rfl)
theorem sn107 {a0 Z} (hw : HW a0 Z) : SN Z "com/example/hyperplane/hyperplane/Blocks" "blockEnds" "[I" "blocksPerGroup" "I" := (slot_ne (a0 := a0) (C := "com/example/hyperplane/hyperplane/Blocks") (Or.inr (hw _ (mi 67 rfl))) (Or.inr (hw _ (mi 41 rfl))) (by decide) (t := (.array .int)) (t' := .int) rfl rfl)
theorem sn108 {a0 Z} (hw : HW a0 Z) : SN Z "com/example/hyperplane/hyperplane/Blocks" "blockEnds" "[I" "keyBlocks" "I" := (slot_ne (a0 := a0) (C := "com/example/hyperplane/hyperplane/Blocks") (Or.inr (hw _ (mi 67 rfl))) (Or.inr (hw _ (mi 43 rfl))) (by decide) (t := (.array .int)) (t' := .int) rfl rfl)
theorem sn109 {a0 Z} (hw : HW a0 Z) : SN Z "com/example/hyperplane/hyperplane/Blocks" "blockEnds" "[I" "groupWidths" "[I" := (slot_ne (a0 := a0) (C := "com/example/hyperplane/hyperplane/Blocks") (Or.inr (hw _ (mi 67 rfl))) (Or.inr (hw _ (mi 46 rfl))) (by decide) (t := (.array .int)) (t' := (.array .int)) rfl rfl)
theorem sn110 {a0 Z} (hw : HW a0 Z) : SN Z "com/example/hyperplane/hyperplane/Blocks" "blockEnds" "[I" "firstWords" "[I" := (slot_ne (a0 := a0) (C := "com/example/hyperplane/hyperplane/Blocks") (Or.inr (hw _ (mi 67 rfl))) (Or.inr (hw _ (mi 48 rfl))) (by decide) (t := (.array .int)) (t' := (.array .int)) rfl rfl)
theorem sn111 {a0 Z} (hw : HW a0 Z) : SN Z "com/example/hyperplane/hyperplane/Blocks" "blockEnds" "[I" "shifts" "[I" := (slot_ne (a0 := a0) (C := "com/example/hyperplane/hyperplane/Blocks") (Or.inr (hw _ (mi 67 rfl))) (Or.inr (hw _ (mi 50 rfl))) (by decide) (t := (.array .int)) (t' := (.array .int)) rfl rfl)
theorem sn112 {a0 Z} (hw : HW a0 Z) : SN Z "com/example/hyperplane/hyperplane/Blocks" "blockEnds" "[I" "lowMasks" "[J" := (slot_ne (a0 := a0) (C := "com/example/hyperplane/hyperplane/Blocks") (Or.inr (hw _ (mi 67 rfl))) (Or.inr (hw _ (mi 53 rfl))) (by decide) (t := (.array .int)) (t' := (.array .long)) rfl rfl)
theorem sn113 {a0 Z} (hw : HW a0 Z) : SN Z "com/example/hyperplane/hyperplane/Blocks" "blockEnds" "[I" "highMasks" "[J" := (slot_ne (a0 := a0) (C := "com/example/hyperplane/hyperplane/Blocks") (Or.inr (hw _ (mi 67 rfl))) (Or.inr (hw _ (mi 55 rfl))) (by decide) (t := (.array .int)) (t' := (.array .long)) rfl rfl)
theorem sn114 {a0 Z} (hw : HW a0 Z) : SN Z "com/example/hyperplane/hyperplane/Blocks" "blockEnds" "[I" "blockOffsets" "[I" := (slot_ne (a0 := a0) (C := "com/example/hyperplane/hyperplane/Blocks") (Or.inr (hw _ (mi 67 rfl))) (Or.inr (hw _ (mi 57 rfl))) (by decide) (t := (.array .int)) (t' := (.array .int)) rfl rfl)
theorem sn115 {a0 Z} (hw : HW a0 Z) : SN Z "com/example/hyperplane/hyperplane/Blocks" "blockEnds" "[I" "blockWidths" "[I" := (slot_ne (a0 := a0) (C := "com/example/hyperplane/hyperplane/Blocks") (Or.inr (hw _ (mi 67 rfl))) (Or.inr (hw _ (mi 59 rfl))) (by decide) (t := (.array .int)) (t' := (.array .int)) rfl rfl)
theorem sn116 {a0 Z} (hw : HW a0 Z) : SN Z "com/example/hyperplane/hyperplane/Blocks" "blockEnds" "[I" "blockMasks" "[J" := (slot_ne (a0 := a0) (C := "com/example/hyperplane/hyperplane/Blocks") (Or.inr (hw _ (mi 67 rfl))) (Or.inr (hw _ (mi 61 rfl))) (by decide) (t := (.array .int)) (t' := (.array .long)) rfl rfl)
theorem sn117 {a0 Z} (hw : HW a0 Z) : SN Z "com/example/hyperplane/hyperplane/Blocks" "blockEnds" "[I" "keys" "[J" := (slot_ne (a0 := a0) (C := "com/example/hyperplane/hyperplane/Blocks") (Or.inr (hw _ (mi 67 rfl))) (Or.inr (hw _ (mi 63 rfl))) (by decide) (t := (.array .int)) (t' := (.array .long)) rfl rfl)
theorem sn118 {a0 Z} (hw : HW a0 Z) : SN Z "com/example/hyperplane/hyperplane/Blocks" "blockEnds" "[I" "tableGroups" "[I" := (slot_ne (a0 := a0) (C := "com/example/hyperplane/hyperplane/Blocks") (Or.inr (hw _ (mi 67 rfl))) (Or.inr (hw _ (mi 65 rfl))) (by decide) (t := (.array .int)) (t' := (.array .int)) rfl rfl)
theorem sn119 {a0 Z} (hw : HW a0 Z) : SN Z "com/example/hyperplane/hyperplane/Blocks" "keys" "[J" "tableGroups" "[I" := (slot_ne (a0 := a0) (C := "com/example/hyperplane/hyperplane/Blocks") (Or.inr (hw _ (mi 63 rfl))) (Or.inr (hw _ (mi 65 rfl))) (by decide) (t := (.array .long)) (t' := (.array .int)) rfl rfl)
theorem sn120 {a0 Z} (hw : HW a0 Z) : SN Z "com/example/hyperplane/hyperplane/Blocks" "keys" "[J" "blockEnds" "[I" := (slot_ne (a0 := a0) (C := "com/example/hyperplane/hyperplane/Blocks") (Or.inr (hw _ (mi 63 rfl))) (Or.inr (hw _ (mi 67 rfl))) (by decide) (t := (.array .long)) (t' := (.array .int)) rfl rfl)
theorem sn121 {a0 Z} (hw : HW a0 Z) : SN Z "com/example/hyperplane/hyperplane/Blocks" "tableGroups" "[I" "blockEnds" "[I" := (slot_ne (a0 := a0) (C := "com/example/hyperplane/hyperplane/Blocks") (Or.inr (hw _ (mi 65 rfl))) (Or.inr (hw _ (mi 67 rfl))) (by decide) (t := (.array .int)) (t' := (.array .int)) rfl rfl)
theorem sn122 {a0 Z} (hw : HW a0 Z) : SN Z "com/example/hyperplane/hyperplane/Blocks" "blockOffsets" "[I" "keys" "[J" := (slot_ne (a0 := a0) (C := "com/example/hyperplane/hyperplane/Blocks") (Or.inr (hw _ (mi 57 rfl))) (Or.inr (hw _ (mi 63 rfl))) (by decide) (t := (.array .int)) (t' := (.array .long)) rfl rfl)
theorem sn123 {a0 Z} (hw : HW a0 Z) : SN Z "com/example/hyperplane/hyperplane/Blocks" "blockOffsets" "[I" "tableGroups" "[I" := (slot_ne (a0 := a0) (C := "com/example/hyperplane/hyperplane/Blocks") (Or.inr (hw _ (mi 57 rfl))) (Or.inr (hw _ (mi 65 rfl))) (by decide) (t := (.array .int)) (t' := (.array .int)) rfl rfl)
theorem sn124 {a0 Z} (hw : HW a0 Z) : SN Z "com/example/hyperplane/hyperplane/Blocks" "blockOffsets" "[I" "blockEnds" "[I" := (slot_ne (a0 := a0) (C := "com/example/hyperplane/hyperplane/Blocks") (Or.inr (hw _ (mi 57 rfl))) (Or.inr (hw _ (mi 67 rfl))) (by decide) (t := (.array .int)) (t' := (.array .int)) rfl rfl)
theorem sn125 {a0 Z} (hw : HW a0 Z) : SN Z "com/example/hyperplane/hyperplane/Blocks" "blockWidths" "[I" "keys" "[J" := (slot_ne (a0 := a0) (C := "com/example/hyperplane/hyperplane/Blocks") (Or.inr (hw _ (mi 59 rfl))) (Or.inr (hw _ (mi 63 rfl))) (by decide) (t := (.array .int)) (t' := (.array .long)) rfl rfl)
theorem sn126 {a0 Z} (hw : HW a0 Z) : SN Z "com/example/hyperplane/hyperplane/Blocks" "blockWidths" "[I" "tableGroups" "[I" := (slot_ne (a0 := a0) (C := "com/example/hyperplane/hyperplane/Blocks") (Or.inr (hw _ (mi 59 rfl))) (Or.inr (hw _ (mi 65 rfl))) (by decide) (t := (.array .int)) (t' := (.array .int)) rfl rfl)
theorem sn127 {a0 Z} (hw : HW a0 Z) : SN Z "com/example/hyperplane/hyperplane/Blocks" "blockWidths" "[I" "blockEnds" "[I" := (slot_ne (a0 := a0) (C := "com/example/hyperplane/hyperplane/Blocks") (Or.inr (hw _ (mi 59 rfl))) (Or.inr (hw _ (mi 67 rfl))) (by decide) (t := (.array .int)) (t' := (.array .int)) rfl rfl)
theorem sn128 {a0 Z} (hw : HW a0 Z) : SN Z "com/example/hyperplane/hyperplane/Blocks" "blocksPerGroup" "I" "keyBlocks" "I" := (slot_ne (a0 := a0) (C := "com/example/hyperplane/hyperplane/Blocks") (Or.inr (hw _ (mi 41 rfl))) (Or.inr (hw _ (mi 43 rfl))) (by decide) (t := .int) (t' := .int) rfl rfl)
theorem sn129 {a0 Z} (hw : HW a0 Z) : SN Z "com/example/hyperplane/hyperplane/Blocks" "blocksPerGroup" "I" "groupWidths" "[I" := (slot_ne (a0 := a0) (C := "com/example/hyperplane/hyperplane/Blocks") (Or.inr (hw _ (mi 41 rfl))) (Or.inr (hw _ (mi 46 rfl))) (by decide) (t := .int) (t' := (.array .int)) rfl rfl)
theorem sn130 {a0 Z} (hw : HW a0 Z) : SN Z "com/example/hyperplane/hyperplane/Blocks" "blocksPerGroup" "I" "firstWords" "[I" := (slot_ne (a0 := a0) (C := "com/example/hyperplane/hyperplane/Blocks") (Or.inr (hw _ (mi 41 rfl))) (Or.inr (hw _ (mi 48 rfl))) (by decide) (t := .int) (t' := (.array .int)) rfl rfl)
theorem sn131 {a0 Z} (hw : HW a0 Z) : SN Z "com/example/hyperplane/hyperplane/Blocks" "blocksPerGroup" "I" "shifts" "[I" := (slot_ne (a0 := a0) (C := "com/example/hyperplane/hyperplane/Blocks") (Or.inr (hw _ (mi 41 rfl))) (Or.inr (hw _ (mi 50 rfl))) (by decide) (t := .int) (t' := (.array .int)) rfl rfl)
theorem sn132 {a0 Z} (hw : HW a0 Z) : SN Z "com/example/hyperplane/hyperplane/Blocks" "blocksPerGroup" "I" "lowMasks" "[J" := (slot_ne (a0 := a0) (C := "com/example/hyperplane/hyperplane/Blocks") (Or.inr (hw _ (mi 41 rfl))) (Or.inr (hw _ (mi 53 rfl))) (by decide) (t := .int) (t' := (.array .long)) rfl rfl)
theorem sn133 {a0 Z} (hw : HW a0 Z) : SN Z "com/example/hyperplane/hyperplane/Blocks" "blocksPerGroup" "I" "highMasks" "[J" := (slot_ne (a0 := a0) (C := "com/example/hyperplane/hyperplane/Blocks") (Or.inr (hw _ (mi 41 rfl))) (Or.inr (hw _ (mi 55 rfl))) (by decide) (t := .int) (t' := (.array .long)) rfl rfl)
theorem sn134 {a0 Z} (hw : HW a0 Z) : SN Z "com/example/hyperplane/hyperplane/Blocks" "blocksPerGroup" "I" "blockOffsets" "[I" := (slot_ne (a0 := a0) (C := "com/example/hyperplane/hyperplane/Blocks") (Or.inr (hw _ (mi 41 rfl))) (Or.inr (hw _ (mi 57 rfl))) (by decide) (t := .int) (t' := (.array .int)) rfl rfl)
theorem sn135 {a0 Z} (hw : HW a0 Z) : SN Z "com/example/hyperplane/hyperplane/Blocks" "blocksPerGroup" "I" "blockWidths" "[I" := (slot_ne (a0 := a0) (C := "com/example/hyperplane/hyperplane/Blocks") (Or.inr (hw _ (mi 41 rfl))) (Or.inr (hw _ (mi 59 rfl))) (by decide) (t := .int) (t' := (.array .int)) rfl rfl)
theorem sn136 {a0 Z} (hw : HW a0 Z) : SN Z "com/example/hyperplane/hyperplane/Blocks" "blocksPerGroup" "I" "blockMasks" "[J" := (slot_ne (a0 := a0) (C := "com/example/hyperplane/hyperplane/Blocks") (Or.inr (hw _ (mi 41 rfl))) (Or.inr (hw _ (mi 61 rfl))) (by decide) (t := .int) (t' := (.array .long)) rfl rfl)
theorem sn137 {a0 Z} (hw : HW a0 Z) : SN Z "com/example/hyperplane/hyperplane/Blocks" "blocksPerGroup" "I" "keys" "[J" := (slot_ne (a0 := a0) (C := "com/example/hyperplane/hyperplane/Blocks") (Or.inr (hw _ (mi 41 rfl))) (Or.inr (hw _ (mi 63 rfl))) (by decide) (t := .int) (t' := (.array .long)) rfl rfl)
theorem sn138 {a0 Z} (hw : HW a0 Z) : SN Z "com/example/hyperplane/hyperplane/Blocks" "blocksPerGroup" "I" "tableGroups" "[I" := (slot_ne (a0 := a0) (C := "com/example/hyperplane/hyperplane/Blocks") (Or.inr (hw _ (mi 41 rfl))) (Or.inr (hw _ (mi 65 rfl))) (by decide) (t := .int) (t' := (.array .int)) rfl rfl)
theorem sn139 {a0 Z} (hw : HW a0 Z) : SN Z "com/example/hyperplane/hyperplane/Blocks" "blocksPerGroup" "I" "blockEnds" "[I" := (slot_ne (a0 := a0) (C := "com/example/hyperplane/hyperplane/Blocks") (Or.inr (hw _ (mi 41 rfl))) (Or.inr (hw _ (mi 67 rfl))) (by decide) (t := .int) (t' := (.array .int)) rfl rfl)
theorem sn140 {a0 Z} (hw : HW a0 Z) : SN Z "com/example/hyperplane/hyperplane/Blocks" "words" "I" "blocksPerGroup" "I" := (slot_ne (a0 := a0) (C := "com/example/hyperplane/hyperplane/Blocks") (Or.inr (hw _ (mi 29 rfl))) (Or.inr (hw _ (mi 41 rfl))) (by decide) (t := .int) (t' := .int) rfl rfl)
theorem sn141 {a0 Z} (hw : HW a0 Z) : SN Z "com/example/hyperplane/hyperplane/Blocks" "words" "I" "keyBlocks" "I" := (slot_ne (a0 := a0) (C := "com/example/hyperplane/hyperplane/Blocks") (Or.inr (hw _ (mi 29 rfl))) (Or.inr (hw _ (mi 43 rfl))) (by decide) (t := .int) (t' := .int) rfl rfl)
theorem sn142 {a0 Z} (hw : HW a0 Z) : SN Z "com/example/hyperplane/hyperplane/Blocks" "words" "I" "groupWidths" "[I" := (slot_ne (a0 := a0) (C := "com/example/hyperplane/hyperplane/Blocks") (Or.inr (hw _ (mi 29 rfl))) (Or.inr (hw _ (mi 46 rfl))) (by decide) (t := .int) (t' := (.array .int)) rfl rfl)
theorem sn143 {a0 Z} (hw : HW a0 Z) : SN Z "com/example/hyperplane/hyperplane/Blocks" "words" "I" "firstWords" "[I" := (slot_ne (a0 := a0) (C := "com/example/hyperplane/hyperplane/Blocks") (Or.inr (hw _ (mi 29 rfl))) (Or.inr (hw _ (mi 48 rfl))) (by decide) (t := .int) (t' := (.array .int)) rfl rfl)
theorem sn144 {a0 Z} (hw : HW a0 Z) : SN Z "com/example/hyperplane/hyperplane/Blocks" "words" "I" "shifts" "[I" := (slot_ne (a0 := a0) (C := "com/example/hyperplane/hyperplane/Blocks") (Or.inr (hw _ (mi 29 rfl))) (Or.inr (hw _ (mi 50 rfl))) (by decide) (t := .int) (t' := (.array .int)) rfl rfl)
theorem sn145 {a0 Z} (hw : HW a0 Z) : SN Z "com/example/hyperplane/hyperplane/Blocks" "words" "I" "lowMasks" "[J" := (slot_ne (a0 := a0) (C := "com/example/hyperplane/hyperplane/Blocks") (Or.inr (hw _ (mi 29 rfl))) (Or.inr (hw _ (mi 53 rfl))) (by decide) (t := .int) (t' := (.array .long)) rfl rfl)
theorem sn146 {a0 Z} (hw : HW a0 Z) : SN Z "com/example/hyperplane/hyperplane/Blocks" "words" "I" "highMasks" "[J" := (slot_ne (a0 := a0) (C := "com/example/hyperplane/hyperplane/Blocks") (Or.inr (hw _ (mi 29 rfl))) (Or.inr (hw _ (mi 55 rfl))) (by decide) (t := .int) (t' := (.array .long)) rfl rfl)
theorem sn147 {a0 Z} (hw : HW a0 Z) : SN Z "com/example/hyperplane/hyperplane/Blocks" "words" "I" "blockOffsets" "[I" := (slot_ne (a0 := a0) (C := "com/example/hyperplane/hyperplane/Blocks") (Or.inr (hw _ (mi 29 rfl))) (Or.inr (hw _ (mi 57 rfl))) (by decide) (t := .int) (t' := (.array .int)) rfl rfl)
theorem sn148 {a0 Z} (hw : HW a0 Z) : SN Z "com/example/hyperplane/hyperplane/Blocks" "words" "I" "blockWidths" "[I" := (slot_ne (a0 := a0) (C := "com/example/hyperplane/hyperplane/Blocks") (Or.inr (hw _ (mi 29 rfl))) (Or.inr (hw _ (mi 59 rfl))) (by decide) (t := .int) (t' := (.array .int)) rfl rfl)
theorem sn149 {a0 Z} (hw : HW a0 Z) : SN Z "com/example/hyperplane/hyperplane/Blocks" "words" "I" "blockMasks" "[J" := (slot_ne (a0 := a0) (C := "com/example/hyperplane/hyperplane/Blocks") (Or.inr (hw _ (mi 29 rfl))) (Or.inr (hw _ (mi 61 rfl))) (by decide) (t := .int) (t' := (.array .long)) rfl rfl)
theorem sn150 {a0 Z} (hw : HW a0 Z) : SN Z "com/example/hyperplane/hyperplane/Blocks" "words" "I" "keys" "[J" := (slot_ne (a0 := a0) (C := "com/example/hyperplane/hyperplane/Blocks") (Or.inr (hw _ (mi 29 rfl))) (Or.inr (hw _ (mi 63 rfl))) (by decide) (t := .int) (t' := (.array .long)) rfl rfl)
theorem sn151 {a0 Z} (hw : HW a0 Z) : SN Z "com/example/hyperplane/hyperplane/Blocks" "words" "I" "tableGroups" "[I" := (slot_ne (a0 := a0) (C := "com/example/hyperplane/hyperplane/Blocks") (Or.inr (hw _ (mi 29 rfl))) (Or.inr (hw _ (mi 65 rfl))) (by decide) (t := .int) (t' := (.array .int)) rfl rfl)
theorem sn152 {a0 Z} (hw : HW a0 Z) : SN Z "com/example/hyperplane/hyperplane/Blocks" "words" "I" "blockEnds" "[I" := (slot_ne (a0 := a0) (C := "com/example/hyperplane/hyperplane/Blocks") (Or.inr (hw _ (mi 29 rfl))) (Or.inr (hw _ (mi 67 rfl))) (by decide) (t := .int) (t' := (.array .int)) rfl rfl)
theorem sn153 {a0 Z} (hw : HW a0 Z) : SN Z "com/example/hyperplane/hyperplane/Blocks" "keyBlocks" "I" "groupWidths" "[I" := (slot_ne (a0 := a0) (C := "com/example/hyperplane/hyperplane/Blocks") (Or.inr (hw _ (mi 43 rfl))) (Or.inr (hw _ (mi 46 rfl))) (by decide) (t := .int) (t' := (.array .int)) rfl rfl)
theorem sn154 {a0 Z} (hw : HW a0 Z) : SN Z "com/example/hyperplane/hyperplane/Blocks" "keyBlocks" "I" "firstWords" "[I" := (slot_ne (a0 := a0) (C := "com/example/hyperplane/hyperplane/Blocks") (Or.inr (hw _ (mi 43 rfl))) (Or.inr (hw _ (mi 48 rfl))) (by decide) (t := .int) (t' := (.array .int)) rfl rfl)
theorem sn155 {a0 Z} (hw : HW a0 Z) : SN Z "com/example/hyperplane/hyperplane/Blocks" "keyBlocks" "I" "shifts" "[I" := (slot_ne (a0 := a0) (C := "com/example/hyperplane/hyperplane/Blocks") (Or.inr (hw _ (mi 43 rfl))) (Or.inr (hw _ (mi 50 rfl))) (by decide) (t := .int) (t' := (.array .int)) rfl rfl)
theorem sn156 {a0 Z} (hw : HW a0 Z) : SN Z "com/example/hyperplane/hyperplane/Blocks" "keyBlocks" "I" "lowMasks" "[J" := (slot_ne (a0 := a0) (C := "com/example/hyperplane/hyperplane/Blocks") (Or.inr (hw _ (mi 43 rfl))) (Or.inr (hw _ (mi 53 rfl))) (by decide) (t := .int) (t' := (.array .long)) rfl rfl)
theorem sn157 {a0 Z} (hw : HW a0 Z) : SN Z "com/example/hyperplane/hyperplane/Blocks" "keyBlocks" "I" "highMasks" "[J" := (slot_ne (a0 := a0) (C := "com/example/hyperplane/hyperplane/Blocks") (Or.inr (hw _ (mi 43 rfl))) (Or.inr (hw _ (mi 55 rfl))) (by decide) (t := .int) (t' := (.array .long)) rfl rfl)
theorem sn158 {a0 Z} (hw : HW a0 Z) : SN Z "com/example/hyperplane/hyperplane/Blocks" "keyBlocks" "I" "blockOffsets" "[I" := (slot_ne (a0 := a0) (C := "com/example/hyperplane/hyperplane/Blocks") (Or.inr (hw _ (mi 43 rfl))) (Or.inr (hw _ (mi 57 rfl))) (by decide) (t := .int) (t' := (.array .int)) rfl rfl)
theorem sn159 {a0 Z} (hw : HW a0 Z) : SN Z "com/example/hyperplane/hyperplane/Blocks" "keyBlocks" "I" "blockWidths" "[I" := (slot_ne (a0 := a0) (C := "com/example/hyperplane/hyperplane/Blocks") (Or.inr (hw _ (mi 43 rfl))) (Or.inr (hw _ (mi 59 rfl))) (by decide) (t := .int) (t' := (.array .int)) rfl rfl)
theorem sn160 {a0 Z} (hw : HW a0 Z) : SN Z "com/example/hyperplane/hyperplane/Blocks" "keyBlocks" "I" "blockMasks" "[J" := (slot_ne (a0 := a0) (C := "com/example/hyperplane/hyperplane/Blocks") (Or.inr (hw _ (mi 43 rfl))) (Or.inr (hw _ (mi 61 rfl))) (by decide) (t := .int) (t' := (.array .long)) rfl rfl)
theorem sn161 {a0 Z} (hw : HW a0 Z) : SN Z "com/example/hyperplane/hyperplane/Blocks" "keyBlocks" "I" "keys" "[J" := (slot_ne (a0 := a0) (C := "com/example/hyperplane/hyperplane/Blocks") (Or.inr (hw _ (mi 43 rfl))) (Or.inr (hw _ (mi 63 rfl))) (by decide) (t := .int) (t' := (.array .long)) rfl rfl)
theorem sn162 {a0 Z} (hw : HW a0 Z) : SN Z "com/example/hyperplane/hyperplane/Blocks" "keyBlocks" "I" "tableGroups" "[I" := (slot_ne (a0 := a0) (C := "com/example/hyperplane/hyperplane/Blocks") (Or.inr (hw _ (mi 43 rfl))) (Or.inr (hw _ (mi 65 rfl))) (by decide) (t := .int) (t' := (.array .int)) rfl rfl)
theorem sn163 {a0 Z} (hw : HW a0 Z) : SN Z "com/example/hyperplane/hyperplane/Blocks" "keyBlocks" "I" "blockEnds" "[I" := (slot_ne (a0 := a0) (C := "com/example/hyperplane/hyperplane/Blocks") (Or.inr (hw _ (mi 43 rfl))) (Or.inr (hw _ (mi 67 rfl))) (by decide) (t := .int) (t' := (.array .int)) rfl rfl)
theorem sn164 {a0 Z} (hw : HW a0 Z) : SN Z "com/example/hyperplane/hyperplane/Blocks" "firstWords" "[I" "keys" "[J" := (slot_ne (a0 := a0) (C := "com/example/hyperplane/hyperplane/Blocks") (Or.inr (hw _ (mi 48 rfl))) (Or.inr (hw _ (mi 63 rfl))) (by decide) (t := (.array .int)) (t' := (.array .long)) rfl rfl)
theorem sn165 {a0 Z} (hw : HW a0 Z) : SN Z "com/example/hyperplane/hyperplane/Blocks" "firstWords" "[I" "tableGroups" "[I" := (slot_ne (a0 := a0) (C := "com/example/hyperplane/hyperplane/Blocks") (Or.inr (hw _ (mi 48 rfl))) (Or.inr (hw _ (mi 65 rfl))) (by decide) (t := (.array .int)) (t' := (.array .int)) rfl rfl)
theorem sn166 {a0 Z} (hw : HW a0 Z) : SN Z "com/example/hyperplane/hyperplane/Blocks" "firstWords" "[I" "blockEnds" "[I" := (slot_ne (a0 := a0) (C := "com/example/hyperplane/hyperplane/Blocks") (Or.inr (hw _ (mi 48 rfl))) (Or.inr (hw _ (mi 67 rfl))) (by decide) (t := (.array .int)) (t' := (.array .int)) rfl rfl)
theorem sn167 {a0 Z} (hw : HW a0 Z) : SN Z "com/example/hyperplane/hyperplane/Blocks" "shifts" "[I" "keys" "[J" := (slot_ne (a0 := a0) (C := "com/example/hyperplane/hyperplane/Blocks") (Or.inr (hw _ (mi 50 rfl))) (Or.inr (hw _ (mi 63 rfl))) (by decide) (t := (.array .int)) (t' := (.array .long)) rfl rfl)
theorem sn168 {a0 Z} (hw : HW a0 Z) : SN Z "com/example/hyperplane/hyperplane/Blocks" "shifts" "[I" "tableGroups" "[I" := (slot_ne (a0 := a0) (C := "com/example/hyperplane/hyperplane/Blocks") (Or.inr (hw _ (mi 50 rfl))) (Or.inr (hw _ (mi 65 rfl))) (by decide) (t := (.array .int)) (t' := (.array .int)) rfl rfl)
theorem sn169 {a0 Z} (hw : HW a0 Z) : SN Z "com/example/hyperplane/hyperplane/Blocks" "shifts" "[I" "blockEnds" "[I" := (slot_ne (a0 := a0) (C := "com/example/hyperplane/hyperplane/Blocks") (Or.inr (hw _ (mi 50 rfl))) (Or.inr (hw _ (mi 67 rfl))) (by decide) (t := (.array .int)) (t' := (.array .int)) rfl rfl)
theorem sn170 {a0 Z} (hw : HW a0 Z) : SN Z "com/example/hyperplane/hyperplane/Blocks" "lowMasks" "[J" "keys" "[J" := (slot_ne (a0 := a0) (C := "com/example/hyperplane/hyperplane/Blocks") (Or.inr (hw _ (mi 53 rfl))) (Or.inr (hw _ (mi 63 rfl))) (by decide) (t := (.array .long)) (t' := (.array .long)) rfl rfl)
theorem sn171 {a0 Z} (hw : HW a0 Z) : SN Z "com/example/hyperplane/hyperplane/Blocks" "lowMasks" "[J" "tableGroups" "[I" := (slot_ne (a0 := a0) (C := "com/example/hyperplane/hyperplane/Blocks") (Or.inr (hw _ (mi 53 rfl))) (Or.inr (hw _ (mi 65 rfl))) (by decide) (t := (.array .long)) (t' := (.array .int)) rfl rfl)
theorem sn172 {a0 Z} (hw : HW a0 Z) : SN Z "com/example/hyperplane/hyperplane/Blocks" "lowMasks" "[J" "blockEnds" "[I" := (slot_ne (a0 := a0) (C := "com/example/hyperplane/hyperplane/Blocks") (Or.inr (hw _ (mi 53 rfl))) (Or.inr (hw _ (mi 67 rfl))) (by decide) (t := (.array .long)) (t' := (.array .int)) rfl rfl)
theorem sn173 {a0 Z} (hw : HW a0 Z) : SN Z "com/example/hyperplane/hyperplane/Blocks" "highMasks" "[J" "keys" "[J" := (slot_ne (a0 := a0) (C := "com/example/hyperplane/hyperplane/Blocks") (Or.inr (hw _ (mi 55 rfl))) (Or.inr (hw _ (mi 63 rfl))) (by decide) (t := (.array .long)) (t' := (.array .long)) rfl rfl)
theorem sn174 {a0 Z} (hw : HW a0 Z) : SN Z "com/example/hyperplane/hyperplane/Blocks" "highMasks" "[J" "tableGroups" "[I" := (slot_ne (a0 := a0) (C := "com/example/hyperplane/hyperplane/Blocks") (Or.inr (hw _ (mi 55 rfl))) (Or.inr (hw _ (mi 65 rfl))) (by decide) (t := (.array .long)) (t' := (.array .int)) rfl rfl)
theorem sn175 {a0 Z} (hw : HW a0 Z) : SN Z "com/example/hyperplane/hyperplane/Blocks" "highMasks" "[J" "blockEnds" "[I" := (slot_ne (a0 := a0) (C := "com/example/hyperplane/hyperplane/Blocks") (Or.inr (hw _ (mi 55 rfl))) (Or.inr (hw _ (mi 67 rfl))) (by decide) (t := (.array .long)) (t' := (.array .int)) rfl rfl)
theorem sn176 {a0 Z} (hw : HW a0 Z) : SN Z "com/example/hyperplane/hyperplane/Blocks" "blockMasks" "[J" "keys" "[J" := (slot_ne (a0 := a0) (C := "com/example/hyperplane/hyperplane/Blocks") (Or.inr (hw _ (mi 61 rfl))) (Or.inr (hw _ (mi 63 rfl))) (by decide) (t := (.array .long)) (t' := (.array .long)) rfl rfl)
theorem sn177 {a0 Z} (hw : HW a0 Z) : SN Z "com/example/hyperplane/hyperplane/Blocks" "blockMasks" "[J" "tableGroups" "[I" := (slot_ne (a0 := a0) (C := "com/example/hyperplane/hyperplane/Blocks") (Or.inr (hw _ (mi 61 rfl))) (Or.inr (hw _ (mi 65 rfl))) (by decide) (t := (.array .long)) (t' := (.array .int)) rfl rfl)
theorem sn178 {a0 Z} (hw : HW a0 Z) : SN Z "com/example/hyperplane/hyperplane/Blocks" "blockMasks" "[J" "blockEnds" "[I" := (slot_ne (a0 := a0) (C := "com/example/hyperplane/hyperplane/Blocks") (Or.inr (hw _ (mi 61 rfl))) (Or.inr (hw _ (mi 67 rfl))) (by decide) (t := (.array .long)) (t' := (.array .int)) rfl rfl)
theorem own_ps {P : Int} {xW xG : Int32} (h : Hp P xW xG) (c : Int64) (n : Int) (hc : c.toInt = n) (h1 : 1 ≤ n) (h2 : n ≤ 6) : 0 < xG.toInt64 * c := by
  have o := own_ho h
  rw [Int64.lt_iff_toInt_lt, own_gt h c n hc h1 h2, Int64.toInt_zero]
  exact Int.mul_pos (by omega) (by omega)
theorem own_tl {P : Int} {xW xG : Int32} (h : Hp P xW xG) (c : Int64) (n : Int) (hc : c.toInt = n) (h1 : 1 ≤ n) (h2 : n ≤ 6) : ¬ (4096 : Int64) < xG.toInt64 * c := by
  have o := own_ho h
  have q := (own_gl h).1
  have q2 := (own_gl h).2.1
  rw [Int64.lt_iff_toInt_lt, own_gt h c n hc h1 h2, show (4096 : Int64).toInt = 4096 by decide]
  have p : xG.toInt * n ≤ 200 * 6 := Int.mul_le_mul (by omega) (by omega) (by omega) (by omega)
  omega
theorem own_gp {P : Int} {xW xG : Int32} (h : Hp P xW xG) (c : Int32) (n : Nat) (hc : c.toInt = n) (h2 : n ≤ 6) : (xG * c).toInt = (xG.toInt.toNat * n : Nat) := by
  have q := (own_gl h).1
  have q2 := (own_gl h).2.1
  have a := c_imul xG c
  have b := rng32 (xG * c)
  rw [hc] at a
  generalize xG.toInt.toNat = G at *
  rw [q2] at a
  have p : (G : Int) * (n : Int) ≤ 200 * 6 := Int.mul_le_mul (by omega) (by omega) (by omega) (by omega)
  have p2 : (0 : Int) ≤ (G : Int) * (n : Int) := Int.mul_nonneg (by omega) (by omega)
  rw [Int.natCast_mul]
  omega
theorem own_tn {P : Int} {xW xG : Int32} (h : Hp P xW xG) (c : Int64) (n : Nat) (hc : c.toInt = n) (h2 : 1 ≤ n ∧ n ≤ 6) : (xG.toInt64 * c).toInt32.toInt = (xG.toInt.toNat * n : Nat) := by
  have q := (own_gl h).1
  have q2 := (own_gl h).2.1
  have e := own_gt h c n hc (by omega) (by omega)
  have a := c_l2i (xG.toInt64 * c)
  have b := rng32 (xG.toInt64 * c).toInt32
  generalize xG.toInt.toNat = G at *
  rw [e, q2] at a
  have p : (G : Int) * (n : Int) ≤ 200 * 6 := Int.mul_le_mul (by omega) (by omega) (by omega) (by omega)
  have p2 : (0 : Int) ≤ (G : Int) * (n : Int) := Int.mul_nonneg (by omega) (by omega)
  rw [Int.natCast_mul]
  omega
def w2_4_1c_1 (xW xG : Int32) : Nat → Int64 := fun j => if j = 0 then (1 : Int64) else (fun _ => 0) j
def w2_4_1c_2 (xW xG : Int32) : Nat → Int64 := fun j => if j = 1 then (2 : Int64) else (w2_4_1c_1 xW xG) j
def w2_4_1c_3 (xW xG : Int32) : Nat → Int64 := fun j => if j = 2 then (4 : Int64) else (w2_4_1c_2 xW xG) j
def w2_4_1c_4 (xW xG : Int32) : Nat → Int64 := fun j => if j = 3 then (8 : Int64) else (w2_4_1c_3 xW xG) j
theorem own_kb_4_1 (xW xG : Int32) : ∀ i, i < 4 → 0 ≤ (f8 ((w2_4_1c_4 xW xG) i)).toInt ∧ (f8 ((w2_4_1c_4 xW xG) i)).toInt < 4 := by
  intro i hi
  match i, hi with
  | 0, _ => exact (show 0 ≤ (f8 (1 : Int64)).toInt ∧ (f8 (1 : Int64)).toInt < 4 by decide)
  | 1, _ => exact (show 0 ≤ (f8 (2 : Int64)).toInt ∧ (f8 (2 : Int64)).toInt < 4 by decide)
  | 2, _ => exact (show 0 ≤ (f8 (4 : Int64)).toInt ∧ (f8 (4 : Int64)).toInt < 4 by decide)
  | 3, _ => exact (show 0 ≤ (f8 (8 : Int64)).toInt ∧ (f8 (8 : Int64)).toInt < 4 by decide)
def Qc_4_1 (Z : State) (a : Addr) (xW xG : Int32) (h0 : Heap) (n0 : Nat) (v : Option Value) (h : Heap) (L : List Loc) : Prop := v = none ∧ Fr n0 L ∧ Keep h0 h [a] ∧ Fld Z h a "com/example/hyperplane/hyperplane/Blocks" "words" "I" (.int (f4 xW)) ∧ Fld Z h a "com/example/hyperplane/hyperplane/Blocks" "blocksPerGroup" "I" (.int (4 : Int32)) ∧ Fld Z h a "com/example/hyperplane/hyperplane/Blocks" "keyBlocks" "I" (.int (1 : Int32)) ∧ ∃ fw sh lm hm bm : Addr, Fld Z h a "com/example/hyperplane/hyperplane/Blocks" "firstWords" "[I" (.ref fw) ∧ AI Z h fw .int xG.toInt.toNat (UpI xG.toInt.toNat (fun j => own_start xW xG j / 64)) ∧ Fld Z h a "com/example/hyperplane/hyperplane/Blocks" "shifts" "[I" (.ref sh) ∧ AI Z h sh .int xG.toInt.toNat (UpI xG.toInt.toNat (own_sh xW xG)) ∧ Fld Z h a "com/example/hyperplane/hyperplane/Blocks" "lowMasks" "[J" (.ref lm) ∧ AJ Z h lm xG.toInt.toNat (UpJ xG.toInt.toNat (fun j => own_low (own_bits xW xG j) (own_sh xW xG j))) ∧ Fld Z h a "com/example/hyperplane/hyperplane/Blocks" "highMasks" "[J" (.ref hm) ∧ AJ Z h hm xG.toInt.toNat (UpJ xG.toInt.toNat (own_hi xW xG)) ∧ Fld Z h a "com/example/hyperplane/hyperplane/Blocks" "blockMasks" "[J" (.ref bm) ∧ AJ Z h bm (xG.toInt.toNat * 4) (UpJ (xG.toInt.toNat * 4) (own_bmf xW xG 4 4))
set_option maxRecDepth 65536 in
set_option maxHeartbeats 400000000 in
theorem rm2_4_1 (l : Launch) (Z : State) (a0 : Array Value) (hw : ∀ d ∈ tables_1, d.before a0 Z = true) (a : Addr) (xW xG : Int32) (h0 : Heap) (n0 : Nat) (hz : n0 ≤ h0.size) (ga : n0 ≤ a) (hE : Exa Z h0 a "com/example/hyperplane/hyperplane/Blocks") (G0 : Fld Z h0 a "com/example/hyperplane/hyperplane/Blocks" "words" "I" (.int (0 : Int32))) (G1 : Fld Z h0 a "com/example/hyperplane/hyperplane/Blocks" "blocksPerGroup" "I" (.int (0 : Int32))) (G2 : Fld Z h0 a "com/example/hyperplane/hyperplane/Blocks" "keyBlocks" "I" (.int (0 : Int32))) (G3 : Fld Z h0 a "com/example/hyperplane/hyperplane/Blocks" "groupWidths" "[I" .null) (G4 : Fld Z h0 a "com/example/hyperplane/hyperplane/Blocks" "firstWords" "[I" .null) (G5 : Fld Z h0 a "com/example/hyperplane/hyperplane/Blocks" "shifts" "[I" .null) (G6 : Fld Z h0 a "com/example/hyperplane/hyperplane/Blocks" "lowMasks" "[J" .null) (G7 : Fld Z h0 a "com/example/hyperplane/hyperplane/Blocks" "highMasks" "[J" .null) (G8 : Fld Z h0 a "com/example/hyperplane/hyperplane/Blocks" "blockOffsets" "[I" .null) (G9 : Fld Z h0 a "com/example/hyperplane/hyperplane/Blocks" "blockWidths" "[I" .null) (G10 : Fld Z h0 a "com/example/hyperplane/hyperplane/Blocks" "blockMasks" "[J" .null) (G11 : Fld Z h0 a "com/example/hyperplane/hyperplane/Blocks" "keys" "[J" .null) (G12 : Fld Z h0 a "com/example/hyperplane/hyperplane/Blocks" "tableGroups" "[I" .null) (G13 : Fld Z h0 a "com/example/hyperplane/hyperplane/Blocks" "blockEnds" "[I" .null) (hp : Hp 4 xW xG) :
    Met l Z (⟨"com/example/hyperplane/hyperplane/Blocks", "<init>", "(IIIII)V"⟩ : MethodName) prog_2_method_3_code 17 none ({ frames := 2, cells := 11, slots := 79, locals := 100 } : Room) #[(.ref a), (.int xW), (.int (0 : Int32)), (.int xG), (.int (4 : Int32)), (.int (1 : Int32))] h0 (Qc_4_1 Z a xW xG h0 n0) := by
  refine enter pl2 #[vr a, vi xW, vi 0, vi xG, vi 4, vi 1, us, us, us, us, us, us, us, us, us, us, us] rfl ?_
  intro p e s m below meth c T B hret hlk hnm
  have N0 := Fr.nil n0
  have hl := own_gl hp
  have hgx := ix_of hl.2.1
  have hgp := ix_of (own_gp hp 4 4 (by decide) (by decide))
  have htn := ix_of (own_tn hp 4 4 (by decide) (by decide))
  refine o_aloadN B 0 1 (v := (.ref a)) d2_0 rfl rfl rfl ?_
  obtain ⟨T1, B1, c1⟩ := o_initO B 1 4 d2_1 rfl (hw _ (mi 21 rfl)) (hw _ (mi 22 rfl)) (hw _ (mi 23 rfl)) (a := a) (Ls := #[vr a, vi xW, vi 0, vi xG, vi 4, vi 1, us, us, us, us, us, us, us, us, us, us, us]) (rest := []) rfl 0 (Nat.le_of_eq rfl) (by decide) (by decide)
  refine c1 ?_
  refine o_aloadN B1 4 5 (v := (.ref a)) d2_4 rfl rfl rfl ?_
  refine o_iloadN B1 5 6 (v := xW) d2_5 rfl rfl ?_
  obtain ⟨T2, B2, c2⟩ := o_callP B1 6 9 d2_6 rfl (hw _ (mi 24 rfl)) (hw _ (mi 25 rfl)) (hw _ (mi 26 rfl)) (hw _ (mi 27 rfl)) (by decide) (rm4 l Z a0 hw xW h0  (own_hw hp).1 (own_hw hp).2.1 (own_hw hp).2.2) 1 [(.int xW)] [(.ref a)] pd__I_I rfl rfl (st := [(.int xW), (.ref a)]) rfl (Ls := #[vr a, vi xW, vi 0, vi xG, vi 4, vi 1, us, us, us, us, us, us, us, us, us, us, us]) rfl (Nat.le_of_eq rfl) (by decide) (by decide) (by decide) (by decide)
  refine c2 ?_
  obtain ⟨T3, h3, L3, B3, N3, W3, c3⟩ := o_putfield B2 N0 ga 9 12 (v := (.int (f4 xW))) d2_9 rfl (host := "") (Or.inl (hw _ (mi 28 rfl))) Via.refl G0 hE (Or.inr ⟨(hw _ (mi 29 rfl)), rfl, hnm⟩) (hw _ (mi 16 rfl)) (ty := .int) (by decide) rfl rfl (Ls := #[vr a, vi xW, vi 0, vi xG, vi 4, vi 1, us, us, us, us, us, us, us, us, us, us, us]) (rest := [])
  have F3 : Fld Z h3 a "com/example/hyperplane/hyperplane/Blocks" "words" "I" (.int (f4 xW)) := Fld.same W3 G0
  refine c3 ?_
  refine o_iloadN B3 12 13 (v := xW) d2_12 rfl rfl ?_
  refine o_iloadN B3 13 14 (v := (0 : Int32)) d2_13 rfl rfl ?_
  obtain ⟨T4, B4, c4⟩ := o_callP B3 14 17 d2_14 rfl (hw _ (mi 30 rfl)) (hw _ (mi 31 rfl)) (hw _ (mi 17 rfl)) (hw _ (mi 32 rfl)) (by decide) (rm5 l Z a0 hw xW (0 : Int32) h3  (by decide) (own_hm hp)) 0 [(.int xW), (.int (0 : Int32))] [] pd__II_I rfl rfl (st := [(.int (0 : Int32)), (.int xW)]) rfl (Ls := #[vr a, vi xW, vi 0, vi xG, vi 4, vi 1, us, us, us, us, us, us, us, us, us, us, us]) rfl (Nat.le_of_eq rfl) (by decide) (by decide) (by decide) (by decide)
  refine c4 ?_
  refine o_pop B4 17 18 d2_17 rfl rfl ?_
  refine o_iloadN B4 18 19 (v := xG) d2_18 rfl rfl ?_
  refine o_aloadN B4 19 20 (v := (.ref a)) d2_19 rfl rfl rfl ?_
  obtain ⟨T5, B5, c5⟩ := o_getfield B4 20 23 d2_20 rfl (host := "") (Or.inl (hw _ (mi 28 rfl))) Via.refl F3 (Ls := #[vr a, vi xW, vi 0, vi xG, vi 4, vi 1, us, us, us, us, us, us, us, us, us, us, us]) (rest := [(.int xG)])
  refine c5 ?_
  refine o_icN B5 23 26 d2_23 rfl (XT.ii_lt_f (own_ho hp).1) ?_
  refine o_iloadN B5 26 27 (v := xG) d2_26 rfl rfl ?_
  refine o_iloadN B5 27 28 (v := xW) d2_27 rfl rfl ?_
  refine o_icY B5 28 46 d2_28 (XT.ii_le_t (own_ho hp).2.1) (by decide) (by decide) ?_
  refine o_iload B5 46 48 (v := (4 : Int32)) d2_46 rfl rfl ?_
  refine o_iconst B5 48 49 (1 : Int32) d2_48 rfl (by decide) ?_
  refine o_icN B5 49 52 d2_49 rfl (XT.ii_lt_f (by decide)) ?_
  refine o_iload B5 52 54 (v := (4 : Int32)) d2_52 rfl rfl ?_
  refine o_iloadN B5 54 55 (v := xW) d2_54 rfl rfl ?_
  refine o_iloadN B5 55 56 (v := xG) d2_55 rfl rfl ?_
  refine o_idiv B5 56 57 d2_56 rfl (own_ho hp).2.2.1 ?_
  refine o_icY B5 57 78 d2_57 (XT.ii_le_t (own_hq (by decide) hp)) (by decide) (by decide) ?_
  refine o_iload B5 78 80 (v := (1 : Int32)) d2_78 rfl rfl ?_
  refine o_iconst B5 80 81 (1 : Int32) d2_80 rfl (by decide) ?_
  refine o_icN B5 81 84 d2_81 rfl (XT.ii_lt_f (by decide)) ?_
  refine o_iload B5 84 86 (v := (1 : Int32)) d2_84 rfl rfl ?_
  refine o_iload B5 86 88 (v := (4 : Int32)) d2_86 rfl rfl ?_
  refine o_icY B5 88 108 d2_88 (XT.ii_le_t (by decide)) (by decide) (by decide) ?_
  refine o_iload B5 108 110 (v := (4 : Int32)) d2_108 rfl rfl ?_
  refine o_iload B5 110 112 (v := (1 : Int32)) d2_110 rfl rfl ?_
  refine o_isub B5 112 113 d2_112 rfl ?_
  refine o_topI (show ((4 : Int32) - (1 : Int32)) = (3 : Int32) by decide) ?_
  refine o_istore B5 113 115 (l' := #[vr a, vi xW, vi 0, vi xG, vi 4, vi 1, vi 3, us, us, us, us, us, us, us, us, us, us]) d2_113 rfl rfl ?_
  refine o_iloadN B5 115 116 (v := xG) d2_115 rfl rfl ?_
  refine o_i2l B5 116 117 d2_116 rfl ?_
  refine o_iload B5 117 119 (v := (3 : Int32)) d2_117 rfl rfl ?_
  refine o_iconst B5 119 120 (1 : Int32) d2_119 rfl (by decide) ?_
  refine o_iadd B5 120 121 d2_120 rfl ?_
  refine o_topI (show ((3 : Int32) + (1 : Int32)) = (4 : Int32) by decide) ?_
  refine o_i2l B5 121 122 d2_121 rfl ?_
  refine o_topJ (show (4 : Int32).toInt64 = (4 : Int64) by decide) ?_
  refine o_lmul B5 122 123 d2_122 rfl ?_
  refine o_iloadN B5 123 124 (v := (0 : Int32)) d2_123 rfl rfl ?_
  refine o_i2l B5 124 125 d2_124 rfl ?_
  refine o_topJ (show (0 : Int32).toInt64 = (0 : Int64) by decide) ?_
  refine o_lcmp B5 125 126 d2_125 rfl ?_
  refine o_ifY B5 126 146 d2_126 (XT.ll_gt_t (own_ps hp 4 4 (by decide) (by decide) (by decide))) (by decide) (by decide) ?_
  refine o_iloadN B5 146 147 (v := xG) d2_146 rfl rfl ?_
  refine o_i2l B5 147 148 d2_147 rfl ?_
  refine o_iload B5 148 150 (v := (4 : Int32)) d2_148 rfl rfl ?_
  refine o_iload B5 150 152 (v := (1 : Int32)) d2_150 rfl rfl ?_
  obtain ⟨T6, B6, c6⟩ := o_callP B5 152 155 d2_152 rfl (hw _ (mi 36 rfl)) (hw _ (mi 37 rfl)) (hw _ (mi 17 rfl)) (hw _ (mi 38 rfl)) (by decide) (rm7_4_1 l Z a0 hw  h3 ) 2 [(.int (4 : Int32)), (.int (1 : Int32))] [(.long xG.toInt64)] pd__II_J rfl rfl (st := [(.int (1 : Int32)), (.int (4 : Int32)), (.long xG.toInt64)]) rfl (Ls := #[vr a, vi xW, vi 0, vi xG, vi 4, vi 1, vi 3, us, us, us, us, us, us, us, us, us, us]) rfl (Nat.le_of_eq rfl) (by decide) (by decide) (by decide) (by decide)
  refine c6 ?_
  refine o_topJ (show (f7_4_1 ) = (4 : Int64) by decide) ?_
  refine o_lmul B6 155 156 d2_155 rfl ?_
  refine o_lstore B6 156 158 (l' := #[vr a, vi xW, vi 0, vi xG, vi 4, vi 1, vi 3, vj (xG.toInt64 * (4 : Int64)), s2, us, us, us, us, us, us, us, us]) d2_156 rfl rfl ?_
  refine o_lload B6 158 160 (v := (xG.toInt64 * (4 : Int64))) d2_158 rfl rfl ?_
  refine o_ldc2 B6 160 163 d2_160 rfl (hw _ (mi 39 rfl)) ?_
  refine o_lcmp B6 163 164 d2_163 rfl ?_
  refine o_ifY B6 164 182 d2_164 (XT.ll_le_t (own_tl hp 4 4 (by decide) (by decide) (by decide))) (by decide) (by decide) ?_
  refine o_aloadN B6 182 183 (v := (.ref a)) d2_182 rfl rfl rfl ?_
  refine o_iload B6 183 185 (v := (4 : Int32)) d2_183 rfl rfl ?_
  have F8 := (Fld.other W3 G1 (Or.inr (sn0 hw)))
  have F9 := (Exa.wr W3 hE)
  obtain ⟨T7, h7, L7, B7, N7, W7, c7⟩ := o_putfield B6 N3 ga 185 188 (v := (.int (4 : Int32))) d2_185 rfl (host := "") (Or.inl (hw _ (mi 40 rfl))) Via.refl F8 F9 (Or.inr ⟨(hw _ (mi 41 rfl)), rfl, hnm⟩) (hw _ (mi 16 rfl)) (ty := .int) (by decide) rfl rfl (Ls := #[vr a, vi xW, vi 0, vi xG, vi 4, vi 1, vi 3, vj (xG.toInt64 * (4 : Int64)), s2, us, us, us, us, us, us, us, us]) (rest := [])
  have F7 : Fld Z h7 a "com/example/hyperplane/hyperplane/Blocks" "blocksPerGroup" "I" (.int (4 : Int32)) := Fld.same W7 F8
  refine c7 ?_
  refine o_aloadN B7 188 189 (v := (.ref a)) d2_188 rfl rfl rfl ?_
  refine o_iload B7 189 191 (v := (1 : Int32)) d2_189 rfl rfl ?_
  have F11 := (Fld.other W7 (Fld.other W3 G2 (Or.inr (sn1 hw))) (Or.inr (sn2 hw)))
  have F12 := (Exa.wr W7 F9)
  obtain ⟨T10, h10, L10, B10, N10, W10, c10⟩ := o_putfield B7 N7 ga 191 194 (v := (.int (1 : Int32))) d2_191 rfl (host := "") (Or.inl (hw _ (mi 42 rfl))) Via.refl F11 F12 (Or.inr ⟨(hw _ (mi 43 rfl)), rfl, hnm⟩) (hw _ (mi 16 rfl)) (ty := .int) (by decide) rfl rfl (Ls := #[vr a, vi xW, vi 0, vi xG, vi 4, vi 1, vi 3, vj (xG.toInt64 * (4 : Int64)), s2, us, us, us, us, us, us, us, us]) (rest := [])
  have F10 : Fld Z h10 a "com/example/hyperplane/hyperplane/Blocks" "keyBlocks" "I" (.int (1 : Int32)) := Fld.same W10 F11
  refine c10 ?_
  refine o_aloadN B10 194 195 (v := (.ref a)) d2_194 rfl rfl rfl ?_
  refine o_iloadN B10 195 196 (v := xG) d2_195 rfl rfl ?_
  obtain ⟨a13, T13, h13, z13, B13, E13, A13, c13⟩ := o_newI B10 196 198 (ty := .int) (z := xG) xG.toInt.toNat 3 (hw _ (mi 44 rfl)) d2_196 rfl rfl rfl hgx.1 hgx.2 hl.1 (by decide) (by decide) (by decide) (Ls := #[vr a, vi xW, vi 0, vi xG, vi 4, vi 1, vi 3, vj (xG.toInt64 * (4 : Int64)), s2, us, us, us, us, us, us, us, us]) (rest := [(.ref a)])
  have F14 := (Exa.wr W10 F12)
  have lt15 : (a : Nat) < a13 := by rw [z13]; exact F14.lt
  have g13 : n0 ≤ a13 := by rw [z13]; exact (W10.size ▸ (W7.size ▸ (W3.size ▸ hz)))
  have s13 : n0 ≤ h13.size := Nat.le_trans (W10.size ▸ (W7.size ▸ (W3.size ▸ hz))) E13.1
  have KT16 := ((((Keep.refl h0 [a]).wr W3 (Or.inl (mi 0 rfl))).wr W7 (Or.inl (mi 0 rfl))).wr W10 (Or.inl (mi 0 rfl)))
  have y13 : h0.size ≤ a13 := by rw [z13]; exact KT16.1
  refine c13 ?_
  have F18 := (Fld.ext E13 (Fld.other W10 (Fld.other W7 (Fld.other W3 G3 (Or.inr (sn3 hw))) (Or.inr (sn4 hw))) (Or.inr (sn5 hw))))
  have F19 := (Exa.ext E13 F14)
  obtain ⟨T17, h17, L17, B17, N17, W17, c17⟩ := o_putfield B13 N10 ga 198 201 (v := (.ref a13)) d2_198 rfl (host := "") (Or.inl (hw _ (mi 45 rfl))) Via.refl F18 F19 (Or.inr ⟨(hw _ (mi 46 rfl)), rfl, hnm⟩) (hw _ (mi 16 rfl)) (ty := (.array .int)) (by decide) rfl rfl (Ls := #[vr a, vi xW, vi 0, vi xG, vi 4, vi 1, vi 3, vj (xG.toInt64 * (4 : Int64)), s2, us, us, us, us, us, us, us, us]) (rest := [])
  have F17 : Fld Z h17 a "com/example/hyperplane/hyperplane/Blocks" "groupWidths" "[I" (.ref a13) := Fld.same W17 F18
  refine c17 ?_
  refine o_aloadN B17 201 202 (v := (.ref a)) d2_201 rfl rfl rfl ?_
  refine o_iloadN B17 202 203 (v := xG) d2_202 rfl rfl ?_
  obtain ⟨a20, T20, h20, z20, B20, E20, A20, c20⟩ := o_newI B17 203 205 (ty := .int) (z := xG) xG.toInt.toNat 3 (hw _ (mi 44 rfl)) d2_203 rfl rfl rfl hgx.1 hgx.2 hl.1 (by decide) (by decide) (by decide) (Ls := #[vr a, vi xW, vi 0, vi xG, vi 4, vi 1, vi 3, vj (xG.toInt64 * (4 : Int64)), s2, us, us, us, us, us, us, us, us]) (rest := [(.ref a)])
  have F21 := (Exa.wr W17 F19)
  have lt22 : (a : Nat) < a20 := by rw [z20]; exact F21.lt
  have F23 := (A13.other W17 (Ne.symm (Nat.ne_of_lt lt15)))
  have lt24 : (a13 : Nat) < a20 := by rw [z20]; exact F23.lt
  have g20 : n0 ≤ a20 := by rw [z20]; exact (W17.size ▸ s13)
  have s20 : n0 ≤ h20.size := Nat.le_trans (W17.size ▸ s13) E20.1
  have KT25 := ((KT16.ext E13).wr W17 (Or.inl (mi 0 rfl)))
  have y20 : h0.size ≤ a20 := by rw [z20]; exact KT25.1
  refine c20 ?_
  have F27 := (Fld.ext E20 (Fld.other W17 (Fld.ext E13 (Fld.other W10 (Fld.other W7 (Fld.other W3 G4 (Or.inr (sn6 hw))) (Or.inr (sn7 hw))) (Or.inr (sn8 hw)))) (Or.inr (sn9 hw))))
  have F28 := (Exa.ext E20 F21)
  obtain ⟨T26, h26, L26, B26, N26, W26, c26⟩ := o_putfield B20 N17 ga 205 208 (v := (.ref a20)) d2_205 rfl (host := "") (Or.inl (hw _ (mi 47 rfl))) Via.refl F27 F28 (Or.inr ⟨(hw _ (mi 48 rfl)), rfl, hnm⟩) (hw _ (mi 16 rfl)) (ty := (.array .int)) (by decide) rfl rfl (Ls := #[vr a, vi xW, vi 0, vi xG, vi 4, vi 1, vi 3, vj (xG.toInt64 * (4 : Int64)), s2, us, us, us, us, us, us, us, us]) (rest := [])
  have F26 : Fld Z h26 a "com/example/hyperplane/hyperplane/Blocks" "firstWords" "[I" (.ref a20) := Fld.same W26 F27
  refine c26 ?_
  refine o_aloadN B26 208 209 (v := (.ref a)) d2_208 rfl rfl rfl ?_
  refine o_iloadN B26 209 210 (v := xG) d2_209 rfl rfl ?_
  obtain ⟨a29, T29, h29, z29, B29, E29, A29, c29⟩ := o_newI B26 210 212 (ty := .int) (z := xG) xG.toInt.toNat 3 (hw _ (mi 44 rfl)) d2_210 rfl rfl rfl hgx.1 hgx.2 hl.1 (by decide) (by decide) (by decide) (Ls := #[vr a, vi xW, vi 0, vi xG, vi 4, vi 1, vi 3, vj (xG.toInt64 * (4 : Int64)), s2, us, us, us, us, us, us, us, us]) (rest := [(.ref a)])
  have F30 := (Exa.wr W26 F28)
  have lt31 : (a : Nat) < a29 := by rw [z29]; exact F30.lt
  have F32 := ((F23.ext E20).other W26 (Ne.symm (Nat.ne_of_lt lt15)))
  have lt33 : (a13 : Nat) < a29 := by rw [z29]; exact F32.lt
  have F34 := (A20.other W26 (Ne.symm (Nat.ne_of_lt lt22)))
  have lt35 : (a20 : Nat) < a29 := by rw [z29]; exact F34.lt
  have g29 : n0 ≤ a29 := by rw [z29]; exact (W26.size ▸ s20)
  have s29 : n0 ≤ h29.size := Nat.le_trans (W26.size ▸ s20) E29.1
  have KT36 := ((KT25.ext E20).wr W26 (Or.inl (mi 0 rfl)))
  have y29 : h0.size ≤ a29 := by rw [z29]; exact KT36.1
  refine c29 ?_
  have F38 := (Fld.ext E29 (Fld.other W26 (Fld.ext E20 (Fld.other W17 (Fld.ext E13 (Fld.other W10 (Fld.other W7 (Fld.other W3 G5 (Or.inr (sn10 hw))) (Or.inr (sn11 hw))) (Or.inr (sn12 hw)))) (Or.inr (sn13 hw)))) (Or.inr (sn14 hw))))
  have F39 := (Exa.ext E29 F30)
  obtain ⟨T37, h37, L37, B37, N37, W37, c37⟩ := o_putfield B29 N26 ga 212 215 (v := (.ref a29)) d2_212 rfl (host := "") (Or.inl (hw _ (mi 49 rfl))) Via.refl F38 F39 (Or.inr ⟨(hw _ (mi 50 rfl)), rfl, hnm⟩) (hw _ (mi 16 rfl)) (ty := (.array .int)) (by decide) rfl rfl (Ls := #[vr a, vi xW, vi 0, vi xG, vi 4, vi 1, vi 3, vj (xG.toInt64 * (4 : Int64)), s2, us, us, us, us, us, us, us, us]) (rest := [])
  have F37 : Fld Z h37 a "com/example/hyperplane/hyperplane/Blocks" "shifts" "[I" (.ref a29) := Fld.same W37 F38
  refine c37 ?_
  refine o_aloadN B37 215 216 (v := (.ref a)) d2_215 rfl rfl rfl ?_
  refine o_iloadN B37 216 217 (v := xG) d2_216 rfl rfl ?_
  obtain ⟨a40, T40, h40, z40, B40, E40, A40, c40⟩ := o_newJ B37 217 219 (z := xG) xG.toInt.toNat 3 (hw _ (mi 51 rfl)) d2_217 rfl rfl hgx.1 hgx.2 hl.1 (by decide) (by decide) (by decide) (Ls := #[vr a, vi xW, vi 0, vi xG, vi 4, vi 1, vi 3, vj (xG.toInt64 * (4 : Int64)), s2, us, us, us, us, us, us, us, us]) (rest := [(.ref a)])
  have F41 := (Exa.wr W37 F39)
  have lt42 : (a : Nat) < a40 := by rw [z40]; exact F41.lt
  have F43 := ((F32.ext E29).other W37 (Ne.symm (Nat.ne_of_lt lt15)))
  have lt44 : (a13 : Nat) < a40 := by rw [z40]; exact F43.lt
  have F45 := ((F34.ext E29).other W37 (Ne.symm (Nat.ne_of_lt lt22)))
  have lt46 : (a20 : Nat) < a40 := by rw [z40]; exact F45.lt
  have F47 := (A29.other W37 (Ne.symm (Nat.ne_of_lt lt31)))
  have lt48 : (a29 : Nat) < a40 := by rw [z40]; exact F47.lt
  have g40 : n0 ≤ a40 := by rw [z40]; exact (W37.size ▸ s29)
  have s40 : n0 ≤ h40.size := Nat.le_trans (W37.size ▸ s29) E40.1
  have KT49 := ((KT36.ext E29).wr W37 (Or.inl (mi 0 rfl)))
  have y40 : h0.size ≤ a40 := by rw [z40]; exact KT49.1
  refine c40 ?_
  have F51 := (Fld.ext E40 (Fld.other W37 (Fld.ext E29 (Fld.other W26 (Fld.ext E20 (Fld.other W17 (Fld.ext E13 (Fld.other W10 (Fld.other W7 (Fld.other W3 G6 (Or.inr (sn15 hw))) (Or.inr (sn16 hw))) (Or.inr (sn17 hw)))) (Or.inr (sn18 hw)))) (Or.inr (sn19 hw)))) (Or.inr (sn20 hw))))
  have F52 := (Exa.ext E40 F41)
  obtain ⟨T50, h50, L50, B50, N50, W50, c50⟩ := o_putfield B40 N37 ga 219 222 (v := (.ref a40)) d2_219 rfl (host := "") (Or.inl (hw _ (mi 52 rfl))) Via.refl F51 F52 (Or.inr ⟨(hw _ (mi 53 rfl)), rfl, hnm⟩) (hw _ (mi 16 rfl)) (ty := (.array .long)) (by decide) rfl rfl (Ls := #[vr a, vi xW, vi 0, vi xG, vi 4, vi 1, vi 3, vj (xG.toInt64 * (4 : Int64)), s2, us, us, us, us, us, us, us, us]) (rest := [])
  have F50 : Fld Z h50 a "com/example/hyperplane/hyperplane/Blocks" "lowMasks" "[J" (.ref a40) := Fld.same W50 F51
  refine c50 ?_
  refine o_aloadN B50 222 223 (v := (.ref a)) d2_222 rfl rfl rfl ?_
  refine o_iloadN B50 223 224 (v := xG) d2_223 rfl rfl ?_
  obtain ⟨a53, T53, h53, z53, B53, E53, A53, c53⟩ := o_newJ B50 224 226 (z := xG) xG.toInt.toNat 3 (hw _ (mi 51 rfl)) d2_224 rfl rfl hgx.1 hgx.2 hl.1 (by decide) (by decide) (by decide) (Ls := #[vr a, vi xW, vi 0, vi xG, vi 4, vi 1, vi 3, vj (xG.toInt64 * (4 : Int64)), s2, us, us, us, us, us, us, us, us]) (rest := [(.ref a)])
  have F54 := (Exa.wr W50 F52)
  have lt55 : (a : Nat) < a53 := by rw [z53]; exact F54.lt
  have F56 := ((F43.ext E40).other W50 (Ne.symm (Nat.ne_of_lt lt15)))
  have lt57 : (a13 : Nat) < a53 := by rw [z53]; exact F56.lt
  have F58 := ((F45.ext E40).other W50 (Ne.symm (Nat.ne_of_lt lt22)))
  have lt59 : (a20 : Nat) < a53 := by rw [z53]; exact F58.lt
  have F60 := ((F47.ext E40).other W50 (Ne.symm (Nat.ne_of_lt lt31)))
  have lt61 : (a29 : Nat) < a53 := by rw [z53]; exact F60.lt
  have F62 := (A40.other W50 (Ne.symm (Nat.ne_of_lt lt42)))
  have lt63 : (a40 : Nat) < a53 := by rw [z53]; exact F62.lt
  have g53 : n0 ≤ a53 := by rw [z53]; exact (W50.size ▸ s40)
  have s53 : n0 ≤ h53.size := Nat.le_trans (W50.size ▸ s40) E53.1
  have KT64 := ((KT49.ext E40).wr W50 (Or.inl (mi 0 rfl)))
  have y53 : h0.size ≤ a53 := by rw [z53]; exact KT64.1
  refine c53 ?_
  have F66 := (Fld.ext E53 (Fld.other W50 (Fld.ext E40 (Fld.other W37 (Fld.ext E29 (Fld.other W26 (Fld.ext E20 (Fld.other W17 (Fld.ext E13 (Fld.other W10 (Fld.other W7 (Fld.other W3 G7 (Or.inr (sn21 hw))) (Or.inr (sn22 hw))) (Or.inr (sn23 hw)))) (Or.inr (sn24 hw)))) (Or.inr (sn25 hw)))) (Or.inr (sn26 hw)))) (Or.inr (sn27 hw))))
  have F67 := (Exa.ext E53 F54)
  obtain ⟨T65, h65, L65, B65, N65, W65, c65⟩ := o_putfield B53 N50 ga 226 229 (v := (.ref a53)) d2_226 rfl (host := "") (Or.inl (hw _ (mi 54 rfl))) Via.refl F66 F67 (Or.inr ⟨(hw _ (mi 55 rfl)), rfl, hnm⟩) (hw _ (mi 16 rfl)) (ty := (.array .long)) (by decide) rfl rfl (Ls := #[vr a, vi xW, vi 0, vi xG, vi 4, vi 1, vi 3, vj (xG.toInt64 * (4 : Int64)), s2, us, us, us, us, us, us, us, us]) (rest := [])
  have F65 : Fld Z h65 a "com/example/hyperplane/hyperplane/Blocks" "highMasks" "[J" (.ref a53) := Fld.same W65 F66
  refine c65 ?_
  refine o_aloadN B65 229 230 (v := (.ref a)) d2_229 rfl rfl rfl ?_
  refine o_iloadN B65 230 231 (v := xG) d2_230 rfl rfl ?_
  refine o_iload B65 231 233 (v := (4 : Int32)) d2_231 rfl rfl ?_
  refine o_imul B65 233 234 d2_233 rfl ?_
  obtain ⟨a68, T68, h68, z68, B68, E68, A68, c68⟩ := o_newI B65 234 236 (ty := .int) (z := (xG * (4 : Int32))) (xG.toInt.toNat * 4) 12 (hw _ (mi 44 rfl)) d2_234 rfl rfl rfl hgp.1 hgp.2 (Nat.mul_le_mul_right _ hl.1) (by decide) (by decide) (by decide) (Ls := #[vr a, vi xW, vi 0, vi xG, vi 4, vi 1, vi 3, vj (xG.toInt64 * (4 : Int64)), s2, us, us, us, us, us, us, us, us]) (rest := [(.ref a)])
  have F69 := (Exa.wr W65 F67)
  have lt70 : (a : Nat) < a68 := by rw [z68]; exact F69.lt
  have F71 := ((F56.ext E53).other W65 (Ne.symm (Nat.ne_of_lt lt15)))
  have lt72 : (a13 : Nat) < a68 := by rw [z68]; exact F71.lt
  have F73 := ((F58.ext E53).other W65 (Ne.symm (Nat.ne_of_lt lt22)))
  have lt74 : (a20 : Nat) < a68 := by rw [z68]; exact F73.lt
  have F75 := ((F60.ext E53).other W65 (Ne.symm (Nat.ne_of_lt lt31)))
  have lt76 : (a29 : Nat) < a68 := by rw [z68]; exact F75.lt
  have F77 := ((F62.ext E53).other W65 (Ne.symm (Nat.ne_of_lt lt42)))
  have lt78 : (a40 : Nat) < a68 := by rw [z68]; exact F77.lt
  have F79 := (A53.other W65 (Ne.symm (Nat.ne_of_lt lt55)))
  have lt80 : (a53 : Nat) < a68 := by rw [z68]; exact F79.lt
  have g68 : n0 ≤ a68 := by rw [z68]; exact (W65.size ▸ s53)
  have s68 : n0 ≤ h68.size := Nat.le_trans (W65.size ▸ s53) E68.1
  have KT81 := ((KT64.ext E53).wr W65 (Or.inl (mi 0 rfl)))
  have y68 : h0.size ≤ a68 := by rw [z68]; exact KT81.1
  refine c68 ?_
  have F83 := (Fld.ext E68 (Fld.other W65 (Fld.ext E53 (Fld.other W50 (Fld.ext E40 (Fld.other W37 (Fld.ext E29 (Fld.other W26 (Fld.ext E20 (Fld.other W17 (Fld.ext E13 (Fld.other W10 (Fld.other W7 (Fld.other W3 G8 (Or.inr (sn28 hw))) (Or.inr (sn29 hw))) (Or.inr (sn30 hw)))) (Or.inr (sn31 hw)))) (Or.inr (sn32 hw)))) (Or.inr (sn33 hw)))) (Or.inr (sn34 hw)))) (Or.inr (sn35 hw))))
  have F84 := (Exa.ext E68 F69)
  obtain ⟨T82, h82, L82, B82, N82, W82, c82⟩ := o_putfield B68 N65 ga 236 239 (v := (.ref a68)) d2_236 rfl (host := "") (Or.inl (hw _ (mi 56 rfl))) Via.refl F83 F84 (Or.inr ⟨(hw _ (mi 57 rfl)), rfl, hnm⟩) (hw _ (mi 16 rfl)) (ty := (.array .int)) (by decide) rfl rfl (Ls := #[vr a, vi xW, vi 0, vi xG, vi 4, vi 1, vi 3, vj (xG.toInt64 * (4 : Int64)), s2, us, us, us, us, us, us, us, us]) (rest := [])
  have F82 : Fld Z h82 a "com/example/hyperplane/hyperplane/Blocks" "blockOffsets" "[I" (.ref a68) := Fld.same W82 F83
  refine c82 ?_
  refine o_aloadN B82 239 240 (v := (.ref a)) d2_239 rfl rfl rfl ?_
  refine o_iloadN B82 240 241 (v := xG) d2_240 rfl rfl ?_
  refine o_iload B82 241 243 (v := (4 : Int32)) d2_241 rfl rfl ?_
  refine o_imul B82 243 244 d2_243 rfl ?_
  obtain ⟨a85, T85, h85, z85, B85, E85, A85, c85⟩ := o_newI B82 244 246 (ty := .int) (z := (xG * (4 : Int32))) (xG.toInt.toNat * 4) 12 (hw _ (mi 44 rfl)) d2_244 rfl rfl rfl hgp.1 hgp.2 (Nat.mul_le_mul_right _ hl.1) (by decide) (by decide) (by decide) (Ls := #[vr a, vi xW, vi 0, vi xG, vi 4, vi 1, vi 3, vj (xG.toInt64 * (4 : Int64)), s2, us, us, us, us, us, us, us, us]) (rest := [(.ref a)])
  have F86 := (Exa.wr W82 F84)
  have lt87 : (a : Nat) < a85 := by rw [z85]; exact F86.lt
  have F88 := ((F71.ext E68).other W82 (Ne.symm (Nat.ne_of_lt lt15)))
  have lt89 : (a13 : Nat) < a85 := by rw [z85]; exact F88.lt
  have F90 := ((F73.ext E68).other W82 (Ne.symm (Nat.ne_of_lt lt22)))
  have lt91 : (a20 : Nat) < a85 := by rw [z85]; exact F90.lt
  have F92 := ((F75.ext E68).other W82 (Ne.symm (Nat.ne_of_lt lt31)))
  have lt93 : (a29 : Nat) < a85 := by rw [z85]; exact F92.lt
  have F94 := ((F77.ext E68).other W82 (Ne.symm (Nat.ne_of_lt lt42)))
  have lt95 : (a40 : Nat) < a85 := by rw [z85]; exact F94.lt
  have F96 := ((F79.ext E68).other W82 (Ne.symm (Nat.ne_of_lt lt55)))
  have lt97 : (a53 : Nat) < a85 := by rw [z85]; exact F96.lt
  have F98 := (A68.other W82 (Ne.symm (Nat.ne_of_lt lt70)))
  have lt99 : (a68 : Nat) < a85 := by rw [z85]; exact F98.lt
  have g85 : n0 ≤ a85 := by rw [z85]; exact (W82.size ▸ s68)
  have s85 : n0 ≤ h85.size := Nat.le_trans (W82.size ▸ s68) E85.1
  have KT100 := ((KT81.ext E68).wr W82 (Or.inl (mi 0 rfl)))
  have y85 : h0.size ≤ a85 := by rw [z85]; exact KT100.1
  refine c85 ?_
  have F102 := (Fld.ext E85 (Fld.other W82 (Fld.ext E68 (Fld.other W65 (Fld.ext E53 (Fld.other W50 (Fld.ext E40 (Fld.other W37 (Fld.ext E29 (Fld.other W26 (Fld.ext E20 (Fld.other W17 (Fld.ext E13 (Fld.other W10 (Fld.other W7 (Fld.other W3 G9 (Or.inr (sn36 hw))) (Or.inr (sn37 hw))) (Or.inr (sn38 hw)))) (Or.inr (sn39 hw)))) (Or.inr (sn40 hw)))) (Or.inr (sn41 hw)))) (Or.inr (sn42 hw)))) (Or.inr (sn43 hw)))) (Or.inr (sn44 hw))))
  have F103 := (Exa.ext E85 F86)
  obtain ⟨T101, h101, L101, B101, N101, W101, c101⟩ := o_putfield B85 N82 ga 246 249 (v := (.ref a85)) d2_246 rfl (host := "") (Or.inl (hw _ (mi 58 rfl))) Via.refl F102 F103 (Or.inr ⟨(hw _ (mi 59 rfl)), rfl, hnm⟩) (hw _ (mi 16 rfl)) (ty := (.array .int)) (by decide) rfl rfl (Ls := #[vr a, vi xW, vi 0, vi xG, vi 4, vi 1, vi 3, vj (xG.toInt64 * (4 : Int64)), s2, us, us, us, us, us, us, us, us]) (rest := [])
  have F101 : Fld Z h101 a "com/example/hyperplane/hyperplane/Blocks" "blockWidths" "[I" (.ref a85) := Fld.same W101 F102
  refine c101 ?_
  refine o_aloadN B101 249 250 (v := (.ref a)) d2_249 rfl rfl rfl ?_
  refine o_iloadN B101 250 251 (v := xG) d2_250 rfl rfl ?_
  refine o_iload B101 251 253 (v := (4 : Int32)) d2_251 rfl rfl ?_
  refine o_imul B101 253 254 d2_253 rfl ?_
  obtain ⟨a104, T104, h104, z104, B104, E104, A104, c104⟩ := o_newJ B101 254 256 (z := (xG * (4 : Int32))) (xG.toInt.toNat * 4) 12 (hw _ (mi 51 rfl)) d2_254 rfl rfl hgp.1 hgp.2 (Nat.mul_le_mul_right _ hl.1) (by decide) (by decide) (by decide) (Ls := #[vr a, vi xW, vi 0, vi xG, vi 4, vi 1, vi 3, vj (xG.toInt64 * (4 : Int64)), s2, us, us, us, us, us, us, us, us]) (rest := [(.ref a)])
  have F105 := (Exa.wr W101 F103)
  have lt106 : (a : Nat) < a104 := by rw [z104]; exact F105.lt
  have F107 := ((F88.ext E85).other W101 (Ne.symm (Nat.ne_of_lt lt15)))
  have lt108 : (a13 : Nat) < a104 := by rw [z104]; exact F107.lt
  have F109 := ((F90.ext E85).other W101 (Ne.symm (Nat.ne_of_lt lt22)))
  have lt110 : (a20 : Nat) < a104 := by rw [z104]; exact F109.lt
  have F111 := ((F92.ext E85).other W101 (Ne.symm (Nat.ne_of_lt lt31)))
  have lt112 : (a29 : Nat) < a104 := by rw [z104]; exact F111.lt
  have F113 := ((F94.ext E85).other W101 (Ne.symm (Nat.ne_of_lt lt42)))
  have lt114 : (a40 : Nat) < a104 := by rw [z104]; exact F113.lt
  have F115 := ((F96.ext E85).other W101 (Ne.symm (Nat.ne_of_lt lt55)))
  have lt116 : (a53 : Nat) < a104 := by rw [z104]; exact F115.lt
  have F117 := ((F98.ext E85).other W101 (Ne.symm (Nat.ne_of_lt lt70)))
  have lt118 : (a68 : Nat) < a104 := by rw [z104]; exact F117.lt
  have F119 := (A85.other W101 (Ne.symm (Nat.ne_of_lt lt87)))
  have lt120 : (a85 : Nat) < a104 := by rw [z104]; exact F119.lt
  have g104 : n0 ≤ a104 := by rw [z104]; exact (W101.size ▸ s85)
  have s104 : n0 ≤ h104.size := Nat.le_trans (W101.size ▸ s85) E104.1
  have KT121 := ((KT100.ext E85).wr W101 (Or.inl (mi 0 rfl)))
  have y104 : h0.size ≤ a104 := by rw [z104]; exact KT121.1
  refine c104 ?_
  have F123 := (Fld.ext E104 (Fld.other W101 (Fld.ext E85 (Fld.other W82 (Fld.ext E68 (Fld.other W65 (Fld.ext E53 (Fld.other W50 (Fld.ext E40 (Fld.other W37 (Fld.ext E29 (Fld.other W26 (Fld.ext E20 (Fld.other W17 (Fld.ext E13 (Fld.other W10 (Fld.other W7 (Fld.other W3 G10 (Or.inr (sn45 hw))) (Or.inr (sn46 hw))) (Or.inr (sn47 hw)))) (Or.inr (sn48 hw)))) (Or.inr (sn49 hw)))) (Or.inr (sn50 hw)))) (Or.inr (sn51 hw)))) (Or.inr (sn52 hw)))) (Or.inr (sn53 hw)))) (Or.inr (sn54 hw))))
  have F124 := (Exa.ext E104 F105)
  obtain ⟨T122, h122, L122, B122, N122, W122, c122⟩ := o_putfield B104 N101 ga 256 259 (v := (.ref a104)) d2_256 rfl (host := "") (Or.inl (hw _ (mi 60 rfl))) Via.refl F123 F124 (Or.inr ⟨(hw _ (mi 61 rfl)), rfl, hnm⟩) (hw _ (mi 16 rfl)) (ty := (.array .long)) (by decide) rfl rfl (Ls := #[vr a, vi xW, vi 0, vi xG, vi 4, vi 1, vi 3, vj (xG.toInt64 * (4 : Int64)), s2, us, us, us, us, us, us, us, us]) (rest := [])
  have F122 : Fld Z h122 a "com/example/hyperplane/hyperplane/Blocks" "blockMasks" "[J" (.ref a104) := Fld.same W122 F123
  refine c122 ?_
  refine o_iconst B122 259 260 (0 : Int32) d2_259 rfl (by decide) ?_
  refine o_istore B122 260 262 (l' := #[vr a, vi xW, vi 0, vi xG, vi 4, vi 1, vi 3, vj (xG.toInt64 * (4 : Int64)), s2, vi 0, us, us, us, us, us, us, us]) d2_260 rfl rfl ?_
  refine o_iconst B122 262 263 (0 : Int32) d2_262 rfl (by decide) ?_
  refine o_istore B122 263 265 (l' := #[vr a, vi xW, vi 0, vi xG, vi 4, vi 1, vi 3, vj (xG.toInt64 * (4 : Int64)), s2, vi 0, vi 0, us, us, us, us, us, us]) d2_263 rfl rfl ?_
  have F125 := (Exa.wr W122 F124)
  have F126 := (Fld.other W122 (Fld.ext E104 (Fld.other W101 (Fld.ext E85 (Fld.other W82 (Fld.ext E68 (Fld.other W65 (Fld.ext E53 (Fld.other W50 (Fld.ext E40 (Fld.other W37 (Fld.ext E29 (Fld.other W26 (Fld.ext E20 F17) (Or.inr (sn55 hw)))) (Or.inr (sn56 hw)))) (Or.inr (sn57 hw)))) (Or.inr (sn58 hw)))) (Or.inr (sn59 hw)))) (Or.inr (sn60 hw)))) (Or.inr (sn61 hw)))
  have F127 := (Fld.other W122 (Fld.ext E104 (Fld.other W101 (Fld.ext E85 (Fld.other W82 (Fld.ext E68 (Fld.other W65 (Fld.ext E53 (Fld.other W50 (Fld.ext E40 (Fld.other W37 (Fld.ext E29 F26) (Or.inr (sn62 hw)))) (Or.inr (sn63 hw)))) (Or.inr (sn64 hw)))) (Or.inr (sn65 hw)))) (Or.inr (sn66 hw)))) (Or.inr (sn67 hw)))
  have F128 := (Fld.other W122 (Fld.ext E104 (Fld.other W101 (Fld.ext E85 (Fld.other W82 (Fld.ext E68 (Fld.other W65 (Fld.ext E53 (Fld.other W50 (Fld.ext E40 F37) (Or.inr (sn68 hw)))) (Or.inr (sn69 hw)))) (Or.inr (sn70 hw)))) (Or.inr (sn71 hw)))) (Or.inr (sn72 hw)))
  have F129 := (Fld.other W122 (Fld.ext E104 (Fld.other W101 (Fld.ext E85 (Fld.other W82 (Fld.ext E68 (Fld.other W65 (Fld.ext E53 F50) (Or.inr (sn73 hw)))) (Or.inr (sn74 hw)))) (Or.inr (sn75 hw)))) (Or.inr (sn76 hw)))
  have F130 := (Fld.other W122 (Fld.ext E104 (Fld.other W101 (Fld.ext E85 (Fld.other W82 (Fld.ext E68 F65) (Or.inr (sn77 hw)))) (Or.inr (sn78 hw)))) (Or.inr (sn79 hw)))
  have F131 := (Fld.other W122 (Fld.ext E104 (Fld.other W101 (Fld.ext E85 F82) (Or.inr (sn80 hw)))) (Or.inr (sn81 hw)))
  have F132 := (Fld.other W122 (Fld.ext E104 F101) (Or.inr (sn82 hw)))
  have F133 := ((F107.ext E104).other W122 (Ne.symm (Nat.ne_of_lt lt15)))
  have F134 := ((F109.ext E104).other W122 (Ne.symm (Nat.ne_of_lt lt22)))
  have F135 := ((F111.ext E104).other W122 (Ne.symm (Nat.ne_of_lt lt31)))
  have F136 := ((F113.ext E104).other W122 (Ne.symm (Nat.ne_of_lt lt42)))
  have F137 := ((F115.ext E104).other W122 (Ne.symm (Nat.ne_of_lt lt55)))
  have F138 := ((F117.ext E104).other W122 (Ne.symm (Nat.ne_of_lt lt70)))
  have F139 := ((F119.ext E104).other W122 (Ne.symm (Nat.ne_of_lt lt87)))
  have F140 := (A104.other W122 (Ne.symm (Nat.ne_of_lt lt106)))
  refine lpO_4 a0 hw xW xG (1 : Int32) (3 : Int32) (xG.toInt64 * (4 : Int64)) a a13 a20 a29 a40 a53 a68 a85 a104 lt15 lt24 lt35 lt48 lt63 lt80 lt99 lt120 ga hp ⟨by omega, hl.2.1⟩ xG.toInt.toNat 0 _ _ _ _ _ _ _ _ _ _ _ _ (Nat.zero_add _) One.u One.u One.u One.u One.u One.u B122 N122 (W122.size ▸ s104) F125 F126 F127 F128 F129 F130 F131 F132 F122 F133 (F134.alt (fun j _ => if_neg (by omega))) (F135.alt (fun j _ => if_neg (by omega))) (F136.alt (fun j _ => if_neg (by omega))) (F137.alt (fun j _ => if_neg (by omega))) F138 F139 (F140.alt (fun j _ => if_neg (by omega))) (fun T9 h9 L9 s9 i9 u11 u12 u13 u14 u15 u16 e11 e12 e13 e14 e15 e16 g1 g6 g7 B9 N9 K9 C_gw C_fw C_sh C_lm C_hm C_bo C_bw C_bm => ?_)
  have z9 : n0 ≤ h9.size := Nat.le_trans (W122.size ▸ s104) K9.1
  refine o_aloadN B9 515 516 (v := (.ref a)) d2_515 rfl rfl rfl ?_
  refine o_lload B9 516 518 (v := (xG.toInt64 * (4 : Int64))) d2_516 rfl rfl ?_
  refine o_iloadN B9 518 519 (v := xG) d2_518 rfl rfl ?_
  refine o_i2l B9 519 520 d2_519 rfl ?_
  refine o_ldiv B9 520 521 d2_520 rfl (own_gz hp) ?_
  refine o_topJ (own_tg hp 4 4 (by decide) (by decide) (by decide)) ?_
  refine o_l2i B9 521 522 d2_521 rfl ?_
  refine o_topI (show (4 : Int64).toInt32 = (4 : Int32) by decide) ?_
  obtain ⟨a141, T141, h141, z141, B141, E141, A141, c141⟩ := o_newJ B9 522 524 (z := (4 : Int32)) 4 4 (hw _ (mi 51 rfl)) d2_522 rfl rfl (by decide) (by decide) (by decide) (by decide) (by decide) (by decide) (Ls := #[vr a, vi xW, vi 0, vi xG, vi 4, vi 1, vi 3, vj (xG.toInt64 * (4 : Int64)), s2, vi s9, vi i9, u11, u12, u13, u14, u15, u16]) (rest := [(.ref a)])
  have F142 := (F125.keep K9)
  have lt143 : (a : Nat) < a141 := by rw [z141]; exact F142.lt
  have lt144 : (a13 : Nat) < a141 := by rw [z141]; exact C_gw.lt
  have lt145 : (a20 : Nat) < a141 := by rw [z141]; exact C_fw.lt
  have lt146 : (a29 : Nat) < a141 := by rw [z141]; exact C_sh.lt
  have lt147 : (a40 : Nat) < a141 := by rw [z141]; exact C_lm.lt
  have lt148 : (a53 : Nat) < a141 := by rw [z141]; exact C_hm.lt
  have lt149 : (a68 : Nat) < a141 := by rw [z141]; exact C_bo.lt
  have lt150 : (a85 : Nat) < a141 := by rw [z141]; exact C_bw.lt
  have lt151 : (a104 : Nat) < a141 := by rw [z141]; exact C_bm.lt
  have g141 : n0 ≤ a141 := by rw [z141]; exact z9
  have s141 : n0 ≤ h141.size := Nat.le_trans z9 E141.1
  have KT152 := (((KT121.ext E104).wr W122 (Or.inl (mi 0 rfl))).trans K9 (allS (Or.inr y13) (allS (Or.inr y20) (allS (Or.inr y29) (allS (Or.inr y40) (allS (Or.inr y53) (allS (Or.inr y68) (allS (Or.inr y85) (allS (Or.inr y104) all0)))))))))
  have y141 : h0.size ≤ a141 := by rw [z141]; exact KT152.1
  refine c141 ?_
  have F154 := (Fld.ext E141 ((Fld.other W122 (Fld.ext E104 (Fld.other W101 (Fld.ext E85 (Fld.other W82 (Fld.ext E68 (Fld.other W65 (Fld.ext E53 (Fld.other W50 (Fld.ext E40 (Fld.other W37 (Fld.ext E29 (Fld.other W26 (Fld.ext E20 (Fld.other W17 (Fld.ext E13 (Fld.other W10 (Fld.other W7 (Fld.other W3 G11 (Or.inr (sn83 hw))) (Or.inr (sn84 hw))) (Or.inr (sn85 hw)))) (Or.inr (sn86 hw)))) (Or.inr (sn87 hw)))) (Or.inr (sn88 hw)))) (Or.inr (sn89 hw)))) (Or.inr (sn90 hw)))) (Or.inr (sn91 hw)))) (Or.inr (sn92 hw)))) (Or.inr (sn93 hw))).keep K9 (ninS (Nat.ne_of_lt lt15) (ninS (Nat.ne_of_lt lt22) (ninS (Nat.ne_of_lt lt31) (ninS (Nat.ne_of_lt lt42) (ninS (Nat.ne_of_lt lt55) (ninS (Nat.ne_of_lt lt70) (ninS (Nat.ne_of_lt lt87) (ninS (Nat.ne_of_lt lt106) nin0))))))))))
  have F155 := (Exa.ext E141 F142)
  obtain ⟨T153, h153, L153, B153, N153, W153, c153⟩ := o_putfield B141 N9 ga 524 527 (v := (.ref a141)) d2_524 rfl (host := "") (Or.inl (hw _ (mi 62 rfl))) Via.refl F154 F155 (Or.inr ⟨(hw _ (mi 63 rfl)), rfl, hnm⟩) (hw _ (mi 16 rfl)) (ty := (.array .long)) (by decide) rfl rfl (Ls := #[vr a, vi xW, vi 0, vi xG, vi 4, vi 1, vi 3, vj (xG.toInt64 * (4 : Int64)), s2, vi s9, vi i9, u11, u12, u13, u14, u15, u16]) (rest := [])
  have F153 : Fld Z h153 a "com/example/hyperplane/hyperplane/Blocks" "keys" "[J" (.ref a141) := Fld.same W153 F154
  refine c153 ?_
  refine o_iload B153 527 529 (v := (1 : Int32)) d2_527 rfl rfl ?_
  refine o_bipush B153 529 531 (64 : Int32) d2_529 rfl (by decide) ?_
  refine o_icY B153 531 538 d2_531 (XT.ii_ne_t (by decide)) (by decide) (by decide) ?_
  refine o_lconst B153 538 539 (1 : Int64) d2_538 rfl (by decide) ?_
  refine o_iload B153 539 541 (v := (1 : Int32)) d2_539 rfl rfl ?_
  refine o_lshl B153 541 542 d2_541 rfl ?_
  refine o_topJ (show ((1 : Int64) <<< ((1 : Int32).toInt64 &&& 63)) = (2 : Int64) by decide) ?_
  refine o_lconst B153 542 543 (1 : Int64) d2_542 rfl (by decide) ?_
  refine o_lsub B153 543 544 d2_543 rfl ?_
  refine o_topJ (show ((2 : Int64) - (1 : Int64)) = (1 : Int64) by decide) ?_
  refine o_lstore B153 544 546 (l' := #[vr a, vi xW, vi 0, vi xG, vi 4, vi 1, vi 3, vj (xG.toInt64 * (4 : Int64)), s2, vi s9, vj 1, s2, u12, u13, u14, u15, u16]) d2_544 rfl (st2 rfl (One.val rfl) rfl e11 rfl) ?_
  refine o_iconst B153 546 547 (0 : Int32) d2_546 rfl (by decide) ?_
  refine o_istore B153 547 549 (l' := #[vr a, vi xW, vi 0, vi xG, vi 4, vi 1, vi 3, vj (xG.toInt64 * (4 : Int64)), s2, vi s9, vj 1, s2, vi 0, u13, u14, u15, u16]) d2_547 rfl (st1 rfl e12 rfl rfl) ?_
  refine o_iload B153 549 551 (v := (0 : Int32)) d2_549 rfl rfl ?_
  refine o_aloadN B153 551 552 (v := (.ref a)) d2_551 rfl rfl rfl ?_
  obtain ⟨T156, B156, c156⟩ := o_getfield B153 552 555 d2_552 rfl (host := "") (Or.inl (hw _ (mi 62 rfl))) Via.refl F153 (Ls := #[vr a, vi xW, vi 0, vi xG, vi 4, vi 1, vi 3, vj (xG.toInt64 * (4 : Int64)), s2, vi s9, vj 1, s2, vi 0, u13, u14, u15, u16]) (rest := [(.int (0 : Int32))])
  refine c156 ?_
  have F158 := (A141.other W153 (Ne.symm (Nat.ne_of_lt lt143)))
  refine o_alenJ B156 555 556 F158 (4 : Int32) d2_555 rfl (by decide) ?_
  refine o_icN B156 556 559 d2_556 rfl (XT.ii_ge_f (by decide)) ?_
  refine o_aloadN B156 559 560 (v := (.ref a)) d2_559 rfl rfl rfl ?_
  obtain ⟨T159, B159, c159⟩ := o_getfield B156 560 563 d2_560 rfl (host := "") (Or.inl (hw _ (mi 62 rfl))) Via.refl F153 (Ls := #[vr a, vi xW, vi 0, vi xG, vi 4, vi 1, vi 3, vj (xG.toInt64 * (4 : Int64)), s2, vi s9, vj 1, s2, vi 0, u13, u14, u15, u16]) (rest := [])
  refine c159 ?_
  refine o_iload B159 563 565 (v := (0 : Int32)) d2_563 rfl rfl ?_
  refine o_lload B159 565 567 (v := (1 : Int64)) d2_565 rfl rfl ?_
  obtain ⟨T160, h160, L160, B160, N160, W160, Q160, c160⟩ := o_lastore B159 N153 g141 567 568 F158 (j := (0 : Int32)) (x := (1 : Int64)) 0 (1 : Int64) d2_567 rfl (by decide) (by decide) (by decide) rfl (Ls := #[vr a, vi xW, vi 0, vi xG, vi 4, vi 1, vi 3, vj (xG.toInt64 * (4 : Int64)), s2, vi s9, vj 1, s2, vi 0, u13, u14, u15, u16]) (rest := [])
  have A160 : AJ Z h160 a141 4 (w2_4_1c_1 xW xG) := Q160
  refine c160 ?_
  refine o_lload B160 568 570 (v := (1 : Int64)) d2_568 rfl rfl ?_
  refine o_lload B160 570 572 (v := (1 : Int64)) d2_570 rfl rfl ?_
  refine o_lneg B160 572 573 d2_572 rfl ?_
  refine o_topJ (show (-(1 : Int64)) = (-1 : Int64) by decide) ?_
  refine o_land B160 573 574 d2_573 rfl ?_
  refine o_topJ (show ((1 : Int64) &&& (-1 : Int64)) = (1 : Int64) by decide) ?_
  refine o_lstore B160 574 576 (l' := #[vr a, vi xW, vi 0, vi xG, vi 4, vi 1, vi 3, vj (xG.toInt64 * (4 : Int64)), s2, vi s9, vj 1, s2, vi 0, vj 1, s2, u15, u16]) d2_574 rfl (st2 rfl e13 rfl e14 rfl) ?_
  refine o_lload B160 576 578 (v := (1 : Int64)) d2_576 rfl rfl ?_
  refine o_lload B160 578 580 (v := (1 : Int64)) d2_578 rfl rfl ?_
  refine o_ladd B160 580 581 d2_580 rfl ?_
  refine o_topJ (show ((1 : Int64) + (1 : Int64)) = (2 : Int64) by decide) ?_
  refine o_lstore B160 581 583 (l' := #[vr a, vi xW, vi 0, vi xG, vi 4, vi 1, vi 3, vj (xG.toInt64 * (4 : Int64)), s2, vi s9, vj 1, s2, vi 0, vj 1, s2, vj 2, s2]) d2_581 rfl (st2 rfl e15 rfl e16 rfl) ?_
  refine o_lload B160 583 585 (v := (2 : Int64)) d2_583 rfl rfl ?_
  refine o_lload B160 585 587 (v := (1 : Int64)) d2_585 rfl rfl ?_
  refine o_lload B160 587 589 (v := (2 : Int64)) d2_587 rfl rfl ?_
  refine o_lxor B160 589 590 d2_589 rfl ?_
  refine o_topJ (show ((1 : Int64) ^^^ (2 : Int64)) = (3 : Int64) by decide) ?_
  refine o_iconst B160 590 591 (2 : Int32) d2_590 rfl (by decide) ?_
  refine o_lushr B160 591 592 d2_591 rfl ?_
  refine o_topJ (show (XT.ushrL (3 : Int64) (2 : Int32)) = (0 : Int64) by decide) ?_
  refine o_lload B160 592 594 (v := (1 : Int64)) d2_592 rfl rfl ?_
  refine o_ldiv B160 594 595 d2_594 rfl (by decide) ?_
  refine o_topJ (show ((0 : Int64) / (1 : Int64)) = (0 : Int64) by decide) ?_
  refine o_lor B160 595 596 d2_595 rfl ?_
  refine o_topJ (show ((2 : Int64) ||| (0 : Int64)) = (2 : Int64) by decide) ?_
  refine o_lstore B160 596 598 (l' := #[vr a, vi xW, vi 0, vi xG, vi 4, vi 1, vi 3, vj (xG.toInt64 * (4 : Int64)), s2, vi s9, vj 2, s2, vi 0, vj 1, s2, vj 2, s2]) d2_596 rfl rfl ?_
  refine o_iincC B160 598 601 (l' := #[vr a, vi xW, vi 0, vi xG, vi 4, vi 1, vi 3, vj (xG.toInt64 * (4 : Int64)), s2, vi s9, vj 2, s2, vi 1, vj 1, s2, vj 2, s2]) (1 : Int32) (1 : Int32) d2_598 rfl (by decide) rfl (by decide) rfl ?_
  refine o_goto B160 601 549 d2_601 (by decide) (by decide) ?_
  refine o_iload B160 549 551 (v := (1 : Int32)) d2_549 rfl rfl ?_
  refine o_aloadN B160 551 552 (v := (.ref a)) d2_551 rfl rfl rfl ?_
  have F162 := (Fld.other W160 F153 (Or.inl (Nat.ne_of_lt lt143)))
  obtain ⟨T161, B161, c161⟩ := o_getfield B160 552 555 d2_552 rfl (host := "") (Or.inl (hw _ (mi 62 rfl))) Via.refl F162 (Ls := #[vr a, vi xW, vi 0, vi xG, vi 4, vi 1, vi 3, vj (xG.toInt64 * (4 : Int64)), s2, vi s9, vj 2, s2, vi 1, vj 1, s2, vj 2, s2]) (rest := [(.int (1 : Int32))])
  refine c161 ?_
  refine o_alenJ B161 555 556 A160 (4 : Int32) d2_555 rfl (by decide) ?_
  refine o_icN B161 556 559 d2_556 rfl (XT.ii_ge_f (by decide)) ?_
  refine o_aloadN B161 559 560 (v := (.ref a)) d2_559 rfl rfl rfl ?_
  obtain ⟨T164, B164, c164⟩ := o_getfield B161 560 563 d2_560 rfl (host := "") (Or.inl (hw _ (mi 62 rfl))) Via.refl F162 (Ls := #[vr a, vi xW, vi 0, vi xG, vi 4, vi 1, vi 3, vj (xG.toInt64 * (4 : Int64)), s2, vi s9, vj 2, s2, vi 1, vj 1, s2, vj 2, s2]) (rest := [])
  refine c164 ?_
  refine o_iload B164 563 565 (v := (1 : Int32)) d2_563 rfl rfl ?_
  refine o_lload B164 565 567 (v := (2 : Int64)) d2_565 rfl rfl ?_
  obtain ⟨T165, h165, L165, B165, N165, W165, Q165, c165⟩ := o_lastore B164 N160 g141 567 568 A160 (j := (1 : Int32)) (x := (2 : Int64)) 1 (2 : Int64) d2_567 rfl (by decide) (by decide) (by decide) rfl (Ls := #[vr a, vi xW, vi 0, vi xG, vi 4, vi 1, vi 3, vj (xG.toInt64 * (4 : Int64)), s2, vi s9, vj 2, s2, vi 1, vj 1, s2, vj 2, s2]) (rest := [])
  have A165 : AJ Z h165 a141 4 (w2_4_1c_2 xW xG) := Q165
  refine c165 ?_
  refine o_lload B165 568 570 (v := (2 : Int64)) d2_568 rfl rfl ?_
  refine o_lload B165 570 572 (v := (2 : Int64)) d2_570 rfl rfl ?_
  refine o_lneg B165 572 573 d2_572 rfl ?_
  refine o_topJ (show (-(2 : Int64)) = (-2 : Int64) by decide) ?_
  refine o_land B165 573 574 d2_573 rfl ?_
  refine o_topJ (show ((2 : Int64) &&& (-2 : Int64)) = (2 : Int64) by decide) ?_
  refine o_lstore B165 574 576 (l' := #[vr a, vi xW, vi 0, vi xG, vi 4, vi 1, vi 3, vj (xG.toInt64 * (4 : Int64)), s2, vi s9, vj 2, s2, vi 1, vj 2, s2, vj 2, s2]) d2_574 rfl rfl ?_
  refine o_lload B165 576 578 (v := (2 : Int64)) d2_576 rfl rfl ?_
  refine o_lload B165 578 580 (v := (2 : Int64)) d2_578 rfl rfl ?_
  refine o_ladd B165 580 581 d2_580 rfl ?_
  refine o_topJ (show ((2 : Int64) + (2 : Int64)) = (4 : Int64) by decide) ?_
  refine o_lstore B165 581 583 (l' := #[vr a, vi xW, vi 0, vi xG, vi 4, vi 1, vi 3, vj (xG.toInt64 * (4 : Int64)), s2, vi s9, vj 2, s2, vi 1, vj 2, s2, vj 4, s2]) d2_581 rfl rfl ?_
  refine o_lload B165 583 585 (v := (4 : Int64)) d2_583 rfl rfl ?_
  refine o_lload B165 585 587 (v := (2 : Int64)) d2_585 rfl rfl ?_
  refine o_lload B165 587 589 (v := (4 : Int64)) d2_587 rfl rfl ?_
  refine o_lxor B165 589 590 d2_589 rfl ?_
  refine o_topJ (show ((2 : Int64) ^^^ (4 : Int64)) = (6 : Int64) by decide) ?_
  refine o_iconst B165 590 591 (2 : Int32) d2_590 rfl (by decide) ?_
  refine o_lushr B165 591 592 d2_591 rfl ?_
  refine o_topJ (show (XT.ushrL (6 : Int64) (2 : Int32)) = (1 : Int64) by decide) ?_
  refine o_lload B165 592 594 (v := (2 : Int64)) d2_592 rfl rfl ?_
  refine o_ldiv B165 594 595 d2_594 rfl (by decide) ?_
  refine o_topJ (show ((1 : Int64) / (2 : Int64)) = (0 : Int64) by decide) ?_
  refine o_lor B165 595 596 d2_595 rfl ?_
  refine o_topJ (show ((4 : Int64) ||| (0 : Int64)) = (4 : Int64) by decide) ?_
  refine o_lstore B165 596 598 (l' := #[vr a, vi xW, vi 0, vi xG, vi 4, vi 1, vi 3, vj (xG.toInt64 * (4 : Int64)), s2, vi s9, vj 4, s2, vi 1, vj 2, s2, vj 4, s2]) d2_596 rfl rfl ?_
  refine o_iincC B165 598 601 (l' := #[vr a, vi xW, vi 0, vi xG, vi 4, vi 1, vi 3, vj (xG.toInt64 * (4 : Int64)), s2, vi s9, vj 4, s2, vi 2, vj 2, s2, vj 4, s2]) (1 : Int32) (2 : Int32) d2_598 rfl (by decide) rfl (by decide) rfl ?_
  refine o_goto B165 601 549 d2_601 (by decide) (by decide) ?_
  refine o_iload B165 549 551 (v := (2 : Int32)) d2_549 rfl rfl ?_
  refine o_aloadN B165 551 552 (v := (.ref a)) d2_551 rfl rfl rfl ?_
  have F167 := (Fld.other W165 F162 (Or.inl (Nat.ne_of_lt lt143)))
  obtain ⟨T166, B166, c166⟩ := o_getfield B165 552 555 d2_552 rfl (host := "") (Or.inl (hw _ (mi 62 rfl))) Via.refl F167 (Ls := #[vr a, vi xW, vi 0, vi xG, vi 4, vi 1, vi 3, vj (xG.toInt64 * (4 : Int64)), s2, vi s9, vj 4, s2, vi 2, vj 2, s2, vj 4, s2]) (rest := [(.int (2 : Int32))])
  refine c166 ?_
  refine o_alenJ B166 555 556 A165 (4 : Int32) d2_555 rfl (by decide) ?_
  refine o_icN B166 556 559 d2_556 rfl (XT.ii_ge_f (by decide)) ?_
  refine o_aloadN B166 559 560 (v := (.ref a)) d2_559 rfl rfl rfl ?_
  obtain ⟨T169, B169, c169⟩ := o_getfield B166 560 563 d2_560 rfl (host := "") (Or.inl (hw _ (mi 62 rfl))) Via.refl F167 (Ls := #[vr a, vi xW, vi 0, vi xG, vi 4, vi 1, vi 3, vj (xG.toInt64 * (4 : Int64)), s2, vi s9, vj 4, s2, vi 2, vj 2, s2, vj 4, s2]) (rest := [])
  refine c169 ?_
  refine o_iload B169 563 565 (v := (2 : Int32)) d2_563 rfl rfl ?_
  refine o_lload B169 565 567 (v := (4 : Int64)) d2_565 rfl rfl ?_
  obtain ⟨T170, h170, L170, B170, N170, W170, Q170, c170⟩ := o_lastore B169 N165 g141 567 568 A165 (j := (2 : Int32)) (x := (4 : Int64)) 2 (4 : Int64) d2_567 rfl (by decide) (by decide) (by decide) rfl (Ls := #[vr a, vi xW, vi 0, vi xG, vi 4, vi 1, vi 3, vj (xG.toInt64 * (4 : Int64)), s2, vi s9, vj 4, s2, vi 2, vj 2, s2, vj 4, s2]) (rest := [])
  have A170 : AJ Z h170 a141 4 (w2_4_1c_3 xW xG) := Q170
  refine c170 ?_
  refine o_lload B170 568 570 (v := (4 : Int64)) d2_568 rfl rfl ?_
  refine o_lload B170 570 572 (v := (4 : Int64)) d2_570 rfl rfl ?_
  refine o_lneg B170 572 573 d2_572 rfl ?_
  refine o_topJ (show (-(4 : Int64)) = (-4 : Int64) by decide) ?_
  refine o_land B170 573 574 d2_573 rfl ?_
  refine o_topJ (show ((4 : Int64) &&& (-4 : Int64)) = (4 : Int64) by decide) ?_
  refine o_lstore B170 574 576 (l' := #[vr a, vi xW, vi 0, vi xG, vi 4, vi 1, vi 3, vj (xG.toInt64 * (4 : Int64)), s2, vi s9, vj 4, s2, vi 2, vj 4, s2, vj 4, s2]) d2_574 rfl rfl ?_
  refine o_lload B170 576 578 (v := (4 : Int64)) d2_576 rfl rfl ?_
  refine o_lload B170 578 580 (v := (4 : Int64)) d2_578 rfl rfl ?_
  refine o_ladd B170 580 581 d2_580 rfl ?_
  refine o_topJ (show ((4 : Int64) + (4 : Int64)) = (8 : Int64) by decide) ?_
  refine o_lstore B170 581 583 (l' := #[vr a, vi xW, vi 0, vi xG, vi 4, vi 1, vi 3, vj (xG.toInt64 * (4 : Int64)), s2, vi s9, vj 4, s2, vi 2, vj 4, s2, vj 8, s2]) d2_581 rfl rfl ?_
  refine o_lload B170 583 585 (v := (8 : Int64)) d2_583 rfl rfl ?_
  refine o_lload B170 585 587 (v := (4 : Int64)) d2_585 rfl rfl ?_
  refine o_lload B170 587 589 (v := (8 : Int64)) d2_587 rfl rfl ?_
  refine o_lxor B170 589 590 d2_589 rfl ?_
  refine o_topJ (show ((4 : Int64) ^^^ (8 : Int64)) = (12 : Int64) by decide) ?_
  refine o_iconst B170 590 591 (2 : Int32) d2_590 rfl (by decide) ?_
  refine o_lushr B170 591 592 d2_591 rfl ?_
  refine o_topJ (show (XT.ushrL (12 : Int64) (2 : Int32)) = (3 : Int64) by decide) ?_
  refine o_lload B170 592 594 (v := (4 : Int64)) d2_592 rfl rfl ?_
  refine o_ldiv B170 594 595 d2_594 rfl (by decide) ?_
  refine o_topJ (show ((3 : Int64) / (4 : Int64)) = (0 : Int64) by decide) ?_
  refine o_lor B170 595 596 d2_595 rfl ?_
  refine o_topJ (show ((8 : Int64) ||| (0 : Int64)) = (8 : Int64) by decide) ?_
  refine o_lstore B170 596 598 (l' := #[vr a, vi xW, vi 0, vi xG, vi 4, vi 1, vi 3, vj (xG.toInt64 * (4 : Int64)), s2, vi s9, vj 8, s2, vi 2, vj 4, s2, vj 8, s2]) d2_596 rfl rfl ?_
  refine o_iincC B170 598 601 (l' := #[vr a, vi xW, vi 0, vi xG, vi 4, vi 1, vi 3, vj (xG.toInt64 * (4 : Int64)), s2, vi s9, vj 8, s2, vi 3, vj 4, s2, vj 8, s2]) (1 : Int32) (3 : Int32) d2_598 rfl (by decide) rfl (by decide) rfl ?_
  refine o_goto B170 601 549 d2_601 (by decide) (by decide) ?_
  refine o_iload B170 549 551 (v := (3 : Int32)) d2_549 rfl rfl ?_
  refine o_aloadN B170 551 552 (v := (.ref a)) d2_551 rfl rfl rfl ?_
  have F172 := (Fld.other W170 F167 (Or.inl (Nat.ne_of_lt lt143)))
  obtain ⟨T171, B171, c171⟩ := o_getfield B170 552 555 d2_552 rfl (host := "") (Or.inl (hw _ (mi 62 rfl))) Via.refl F172 (Ls := #[vr a, vi xW, vi 0, vi xG, vi 4, vi 1, vi 3, vj (xG.toInt64 * (4 : Int64)), s2, vi s9, vj 8, s2, vi 3, vj 4, s2, vj 8, s2]) (rest := [(.int (3 : Int32))])
  refine c171 ?_
  refine o_alenJ B171 555 556 A170 (4 : Int32) d2_555 rfl (by decide) ?_
  refine o_icN B171 556 559 d2_556 rfl (XT.ii_ge_f (by decide)) ?_
  refine o_aloadN B171 559 560 (v := (.ref a)) d2_559 rfl rfl rfl ?_
  obtain ⟨T174, B174, c174⟩ := o_getfield B171 560 563 d2_560 rfl (host := "") (Or.inl (hw _ (mi 62 rfl))) Via.refl F172 (Ls := #[vr a, vi xW, vi 0, vi xG, vi 4, vi 1, vi 3, vj (xG.toInt64 * (4 : Int64)), s2, vi s9, vj 8, s2, vi 3, vj 4, s2, vj 8, s2]) (rest := [])
  refine c174 ?_
  refine o_iload B174 563 565 (v := (3 : Int32)) d2_563 rfl rfl ?_
  refine o_lload B174 565 567 (v := (8 : Int64)) d2_565 rfl rfl ?_
  obtain ⟨T175, h175, L175, B175, N175, W175, Q175, c175⟩ := o_lastore B174 N170 g141 567 568 A170 (j := (3 : Int32)) (x := (8 : Int64)) 3 (8 : Int64) d2_567 rfl (by decide) (by decide) (by decide) rfl (Ls := #[vr a, vi xW, vi 0, vi xG, vi 4, vi 1, vi 3, vj (xG.toInt64 * (4 : Int64)), s2, vi s9, vj 8, s2, vi 3, vj 4, s2, vj 8, s2]) (rest := [])
  have A175 : AJ Z h175 a141 4 (w2_4_1c_4 xW xG) := Q175
  refine c175 ?_
  refine o_lload B175 568 570 (v := (8 : Int64)) d2_568 rfl rfl ?_
  refine o_lload B175 570 572 (v := (8 : Int64)) d2_570 rfl rfl ?_
  refine o_lneg B175 572 573 d2_572 rfl ?_
  refine o_topJ (show (-(8 : Int64)) = (-8 : Int64) by decide) ?_
  refine o_land B175 573 574 d2_573 rfl ?_
  refine o_topJ (show ((8 : Int64) &&& (-8 : Int64)) = (8 : Int64) by decide) ?_
  refine o_lstore B175 574 576 (l' := #[vr a, vi xW, vi 0, vi xG, vi 4, vi 1, vi 3, vj (xG.toInt64 * (4 : Int64)), s2, vi s9, vj 8, s2, vi 3, vj 8, s2, vj 8, s2]) d2_574 rfl rfl ?_
  refine o_lload B175 576 578 (v := (8 : Int64)) d2_576 rfl rfl ?_
  refine o_lload B175 578 580 (v := (8 : Int64)) d2_578 rfl rfl ?_
  refine o_ladd B175 580 581 d2_580 rfl ?_
  refine o_topJ (show ((8 : Int64) + (8 : Int64)) = (16 : Int64) by decide) ?_
  refine o_lstore B175 581 583 (l' := #[vr a, vi xW, vi 0, vi xG, vi 4, vi 1, vi 3, vj (xG.toInt64 * (4 : Int64)), s2, vi s9, vj 8, s2, vi 3, vj 8, s2, vj 16, s2]) d2_581 rfl rfl ?_
  refine o_lload B175 583 585 (v := (16 : Int64)) d2_583 rfl rfl ?_
  refine o_lload B175 585 587 (v := (8 : Int64)) d2_585 rfl rfl ?_
  refine o_lload B175 587 589 (v := (16 : Int64)) d2_587 rfl rfl ?_
  refine o_lxor B175 589 590 d2_589 rfl ?_
  refine o_topJ (show ((8 : Int64) ^^^ (16 : Int64)) = (24 : Int64) by decide) ?_
  refine o_iconst B175 590 591 (2 : Int32) d2_590 rfl (by decide) ?_
  refine o_lushr B175 591 592 d2_591 rfl ?_
  refine o_topJ (show (XT.ushrL (24 : Int64) (2 : Int32)) = (6 : Int64) by decide) ?_
  refine o_lload B175 592 594 (v := (8 : Int64)) d2_592 rfl rfl ?_
  refine o_ldiv B175 594 595 d2_594 rfl (by decide) ?_
  refine o_topJ (show ((6 : Int64) / (8 : Int64)) = (0 : Int64) by decide) ?_
  refine o_lor B175 595 596 d2_595 rfl ?_
  refine o_topJ (show ((16 : Int64) ||| (0 : Int64)) = (16 : Int64) by decide) ?_
  refine o_lstore B175 596 598 (l' := #[vr a, vi xW, vi 0, vi xG, vi 4, vi 1, vi 3, vj (xG.toInt64 * (4 : Int64)), s2, vi s9, vj 16, s2, vi 3, vj 8, s2, vj 16, s2]) d2_596 rfl rfl ?_
  refine o_iincC B175 598 601 (l' := #[vr a, vi xW, vi 0, vi xG, vi 4, vi 1, vi 3, vj (xG.toInt64 * (4 : Int64)), s2, vi s9, vj 16, s2, vi 4, vj 8, s2, vj 16, s2]) (1 : Int32) (4 : Int32) d2_598 rfl (by decide) rfl (by decide) rfl ?_
  refine o_goto B175 601 549 d2_601 (by decide) (by decide) ?_
  refine o_iload B175 549 551 (v := (4 : Int32)) d2_549 rfl rfl ?_
  refine o_aloadN B175 551 552 (v := (.ref a)) d2_551 rfl rfl rfl ?_
  have F177 := (Fld.other W175 F172 (Or.inl (Nat.ne_of_lt lt143)))
  obtain ⟨T176, B176, c176⟩ := o_getfield B175 552 555 d2_552 rfl (host := "") (Or.inl (hw _ (mi 62 rfl))) Via.refl F177 (Ls := #[vr a, vi xW, vi 0, vi xG, vi 4, vi 1, vi 3, vj (xG.toInt64 * (4 : Int64)), s2, vi s9, vj 16, s2, vi 4, vj 8, s2, vj 16, s2]) (rest := [(.int (4 : Int32))])
  refine c176 ?_
  refine o_alenJ B176 555 556 A175 (4 : Int32) d2_555 rfl (by decide) ?_
  refine o_icY B176 556 604 d2_556 (XT.ii_ge_t (by decide)) (by decide) (by decide) ?_
  refine o_aloadN B176 604 605 (v := (.ref a)) d2_604 rfl rfl rfl ?_
  refine o_lload B176 605 607 (v := (xG.toInt64 * (4 : Int64))) d2_605 rfl rfl ?_
  refine o_l2i B176 607 608 d2_607 rfl ?_
  obtain ⟨a179, T179, h179, z179, B179, E179, A179, c179⟩ := o_newI B176 608 610 (ty := .int) (z := (xG.toInt64 * (4 : Int64)).toInt32) (xG.toInt.toNat * 4) 12 (hw _ (mi 44 rfl)) d2_608 rfl rfl rfl htn.1 htn.2 (Nat.mul_le_mul_right _ hl.1) (by decide) (by decide) (by decide) (Ls := #[vr a, vi xW, vi 0, vi xG, vi 4, vi 1, vi 3, vj (xG.toInt64 * (4 : Int64)), s2, vi s9, vj 16, s2, vi 4, vj 8, s2, vj 16, s2]) (rest := [(.ref a)])
  have F180 := (Exa.wr W175 (Exa.wr W170 (Exa.wr W165 (Exa.wr W160 (Exa.wr W153 F155)))))
  have lt181 : (a : Nat) < a179 := by rw [z179]; exact F180.lt
  have F182 := ((((((C_gw.ext E141).other W153 (Ne.symm (Nat.ne_of_lt lt15))).other W160 (Nat.ne_of_lt lt144)).other W165 (Nat.ne_of_lt lt144)).other W170 (Nat.ne_of_lt lt144)).other W175 (Nat.ne_of_lt lt144))
  have lt183 : (a13 : Nat) < a179 := by rw [z179]; exact F182.lt
  have F184 := ((((((C_fw.ext E141).other W153 (Ne.symm (Nat.ne_of_lt lt22))).other W160 (Nat.ne_of_lt lt145)).other W165 (Nat.ne_of_lt lt145)).other W170 (Nat.ne_of_lt lt145)).other W175 (Nat.ne_of_lt lt145))
  have lt185 : (a20 : Nat) < a179 := by rw [z179]; exact F184.lt
  have F186 := ((((((C_sh.ext E141).other W153 (Ne.symm (Nat.ne_of_lt lt31))).other W160 (Nat.ne_of_lt lt146)).other W165 (Nat.ne_of_lt lt146)).other W170 (Nat.ne_of_lt lt146)).other W175 (Nat.ne_of_lt lt146))
  have lt187 : (a29 : Nat) < a179 := by rw [z179]; exact F186.lt
  have F188 := ((((((C_lm.ext E141).other W153 (Ne.symm (Nat.ne_of_lt lt42))).other W160 (Nat.ne_of_lt lt147)).other W165 (Nat.ne_of_lt lt147)).other W170 (Nat.ne_of_lt lt147)).other W175 (Nat.ne_of_lt lt147))
  have lt189 : (a40 : Nat) < a179 := by rw [z179]; exact F188.lt
  have F190 := ((((((C_hm.ext E141).other W153 (Ne.symm (Nat.ne_of_lt lt55))).other W160 (Nat.ne_of_lt lt148)).other W165 (Nat.ne_of_lt lt148)).other W170 (Nat.ne_of_lt lt148)).other W175 (Nat.ne_of_lt lt148))
  have lt191 : (a53 : Nat) < a179 := by rw [z179]; exact F190.lt
  have F192 := ((((((C_bo.ext E141).other W153 (Ne.symm (Nat.ne_of_lt lt70))).other W160 (Nat.ne_of_lt lt149)).other W165 (Nat.ne_of_lt lt149)).other W170 (Nat.ne_of_lt lt149)).other W175 (Nat.ne_of_lt lt149))
  have lt193 : (a68 : Nat) < a179 := by rw [z179]; exact F192.lt
  have F194 := ((((((C_bw.ext E141).other W153 (Ne.symm (Nat.ne_of_lt lt87))).other W160 (Nat.ne_of_lt lt150)).other W165 (Nat.ne_of_lt lt150)).other W170 (Nat.ne_of_lt lt150)).other W175 (Nat.ne_of_lt lt150))
  have lt195 : (a85 : Nat) < a179 := by rw [z179]; exact F194.lt
  have F196 := ((((((C_bm.ext E141).other W153 (Ne.symm (Nat.ne_of_lt lt106))).other W160 (Nat.ne_of_lt lt151)).other W165 (Nat.ne_of_lt lt151)).other W170 (Nat.ne_of_lt lt151)).other W175 (Nat.ne_of_lt lt151))
  have lt197 : (a104 : Nat) < a179 := by rw [z179]; exact F196.lt
  have lt198 : (a141 : Nat) < a179 := by rw [z179]; exact A175.lt
  have g179 : n0 ≤ a179 := by rw [z179]; exact (W175.size ▸ (W170.size ▸ (W165.size ▸ (W160.size ▸ (W153.size ▸ s141)))))
  have s179 : n0 ≤ h179.size := Nat.le_trans (W175.size ▸ (W170.size ▸ (W165.size ▸ (W160.size ▸ (W153.size ▸ s141))))) E179.1
  have KT199 := ((((((KT152.ext E141).wr W153 (Or.inl (mi 0 rfl))).wr W160 (Or.inr y141)).wr W165 (Or.inr y141)).wr W170 (Or.inr y141)).wr W175 (Or.inr y141))
  have y179 : h0.size ≤ a179 := by rw [z179]; exact KT199.1
  refine c179 ?_
  have F201 := (Fld.ext E179 (Fld.other W175 (Fld.other W170 (Fld.other W165 (Fld.other W160 (Fld.other W153 (Fld.ext E141 ((Fld.other W122 (Fld.ext E104 (Fld.other W101 (Fld.ext E85 (Fld.other W82 (Fld.ext E68 (Fld.other W65 (Fld.ext E53 (Fld.other W50 (Fld.ext E40 (Fld.other W37 (Fld.ext E29 (Fld.other W26 (Fld.ext E20 (Fld.other W17 (Fld.ext E13 (Fld.other W10 (Fld.other W7 (Fld.other W3 G12 (Or.inr (sn94 hw))) (Or.inr (sn95 hw))) (Or.inr (sn96 hw)))) (Or.inr (sn97 hw)))) (Or.inr (sn98 hw)))) (Or.inr (sn99 hw)))) (Or.inr (sn100 hw)))) (Or.inr (sn101 hw)))) (Or.inr (sn102 hw)))) (Or.inr (sn103 hw)))) (Or.inr (sn104 hw))).keep K9 (ninS (Nat.ne_of_lt lt15) (ninS (Nat.ne_of_lt lt22) (ninS (Nat.ne_of_lt lt31) (ninS (Nat.ne_of_lt lt42) (ninS (Nat.ne_of_lt lt55) (ninS (Nat.ne_of_lt lt70) (ninS (Nat.ne_of_lt lt87) (ninS (Nat.ne_of_lt lt106) nin0)))))))))) (Or.inr (sn105 hw))) (Or.inl (Nat.ne_of_lt lt143))) (Or.inl (Nat.ne_of_lt lt143))) (Or.inl (Nat.ne_of_lt lt143))) (Or.inl (Nat.ne_of_lt lt143))))
  have F202 := (Exa.ext E179 F180)
  obtain ⟨T200, h200, L200, B200, N200, W200, c200⟩ := o_putfield B179 N175 ga 610 613 (v := (.ref a179)) d2_610 rfl (host := "") (Or.inl (hw _ (mi 64 rfl))) Via.refl F201 F202 (Or.inr ⟨(hw _ (mi 65 rfl)), rfl, hnm⟩) (hw _ (mi 16 rfl)) (ty := (.array .int)) (by decide) rfl rfl (Ls := #[vr a, vi xW, vi 0, vi xG, vi 4, vi 1, vi 3, vj (xG.toInt64 * (4 : Int64)), s2, vi s9, vj 16, s2, vi 4, vj 8, s2, vj 16, s2]) (rest := [])
  have F200 : Fld Z h200 a "com/example/hyperplane/hyperplane/Blocks" "tableGroups" "[I" (.ref a179) := Fld.same W200 F201
  refine c200 ?_
  refine o_aloadN B200 613 614 (v := (.ref a)) d2_613 rfl rfl rfl ?_
  refine o_lload B200 614 616 (v := (xG.toInt64 * (4 : Int64))) d2_614 rfl rfl ?_
  refine o_l2i B200 616 617 d2_616 rfl ?_
  obtain ⟨a203, T203, h203, z203, B203, E203, A203, c203⟩ := o_newI B200 617 619 (ty := .int) (z := (xG.toInt64 * (4 : Int64)).toInt32) (xG.toInt.toNat * 4) 12 (hw _ (mi 44 rfl)) d2_617 rfl rfl rfl htn.1 htn.2 (Nat.mul_le_mul_right _ hl.1) (by decide) (by decide) (by decide) (Ls := #[vr a, vi xW, vi 0, vi xG, vi 4, vi 1, vi 3, vj (xG.toInt64 * (4 : Int64)), s2, vi s9, vj 16, s2, vi 4, vj 8, s2, vj 16, s2]) (rest := [(.ref a)])
  have F204 := (Exa.wr W200 F202)
  have lt205 : (a : Nat) < a203 := by rw [z203]; exact F204.lt
  have F206 := ((F182.ext E179).other W200 (Ne.symm (Nat.ne_of_lt lt15)))
  have lt207 : (a13 : Nat) < a203 := by rw [z203]; exact F206.lt
  have F208 := ((F184.ext E179).other W200 (Ne.symm (Nat.ne_of_lt lt22)))
  have lt209 : (a20 : Nat) < a203 := by rw [z203]; exact F208.lt
  have F210 := ((F186.ext E179).other W200 (Ne.symm (Nat.ne_of_lt lt31)))
  have lt211 : (a29 : Nat) < a203 := by rw [z203]; exact F210.lt
  have F212 := ((F188.ext E179).other W200 (Ne.symm (Nat.ne_of_lt lt42)))
  have lt213 : (a40 : Nat) < a203 := by rw [z203]; exact F212.lt
  have F214 := ((F190.ext E179).other W200 (Ne.symm (Nat.ne_of_lt lt55)))
  have lt215 : (a53 : Nat) < a203 := by rw [z203]; exact F214.lt
  have F216 := ((F192.ext E179).other W200 (Ne.symm (Nat.ne_of_lt lt70)))
  have lt217 : (a68 : Nat) < a203 := by rw [z203]; exact F216.lt
  have F218 := ((F194.ext E179).other W200 (Ne.symm (Nat.ne_of_lt lt87)))
  have lt219 : (a85 : Nat) < a203 := by rw [z203]; exact F218.lt
  have F220 := ((F196.ext E179).other W200 (Ne.symm (Nat.ne_of_lt lt106)))
  have lt221 : (a104 : Nat) < a203 := by rw [z203]; exact F220.lt
  have F222 := ((A175.ext E179).other W200 (Ne.symm (Nat.ne_of_lt lt143)))
  have lt223 : (a141 : Nat) < a203 := by rw [z203]; exact F222.lt
  have F224 := (A179.other W200 (Ne.symm (Nat.ne_of_lt lt181)))
  have lt225 : (a179 : Nat) < a203 := by rw [z203]; exact F224.lt
  have g203 : n0 ≤ a203 := by rw [z203]; exact (W200.size ▸ s179)
  have s203 : n0 ≤ h203.size := Nat.le_trans (W200.size ▸ s179) E203.1
  have KT226 := ((KT199.ext E179).wr W200 (Or.inl (mi 0 rfl)))
  have y203 : h0.size ≤ a203 := by rw [z203]; exact KT226.1
  refine c203 ?_
  have F228 := (Fld.ext E203 (Fld.other W200 (Fld.ext E179 (Fld.other W175 (Fld.other W170 (Fld.other W165 (Fld.other W160 (Fld.other W153 (Fld.ext E141 ((Fld.other W122 (Fld.ext E104 (Fld.other W101 (Fld.ext E85 (Fld.other W82 (Fld.ext E68 (Fld.other W65 (Fld.ext E53 (Fld.other W50 (Fld.ext E40 (Fld.other W37 (Fld.ext E29 (Fld.other W26 (Fld.ext E20 (Fld.other W17 (Fld.ext E13 (Fld.other W10 (Fld.other W7 (Fld.other W3 G13 (Or.inr (sn106 hw))) (Or.inr (sn107 hw))) (Or.inr (sn108 hw)))) (Or.inr (sn109 hw)))) (Or.inr (sn110 hw)))) (Or.inr (sn111 hw)))) (Or.inr (sn112 hw)))) (Or.inr (sn113 hw)))) (Or.inr (sn114 hw)))) (Or.inr (sn115 hw)))) (Or.inr (sn116 hw))).keep K9 (ninS (Nat.ne_of_lt lt15) (ninS (Nat.ne_of_lt lt22) (ninS (Nat.ne_of_lt lt31) (ninS (Nat.ne_of_lt lt42) (ninS (Nat.ne_of_lt lt55) (ninS (Nat.ne_of_lt lt70) (ninS (Nat.ne_of_lt lt87) (ninS (Nat.ne_of_lt lt106) nin0)))))))))) (Or.inr (sn117 hw))) (Or.inl (Nat.ne_of_lt lt143))) (Or.inl (Nat.ne_of_lt lt143))) (Or.inl (Nat.ne_of_lt lt143))) (Or.inl (Nat.ne_of_lt lt143)))) (Or.inr (sn118 hw))))
  have F229 := (Exa.ext E203 F204)
  obtain ⟨T227, h227, L227, B227, N227, W227, c227⟩ := o_putfield B203 N200 ga 619 622 (v := (.ref a203)) d2_619 rfl (host := "") (Or.inl (hw _ (mi 66 rfl))) Via.refl F228 F229 (Or.inr ⟨(hw _ (mi 67 rfl)), rfl, hnm⟩) (hw _ (mi 16 rfl)) (ty := (.array .int)) (by decide) rfl rfl (Ls := #[vr a, vi xW, vi 0, vi xG, vi 4, vi 1, vi 3, vj (xG.toInt64 * (4 : Int64)), s2, vi s9, vj 16, s2, vi 4, vj 8, s2, vj 16, s2]) (rest := [])
  have F227 : Fld Z h227 a "com/example/hyperplane/hyperplane/Blocks" "blockEnds" "[I" (.ref a203) := Fld.same W227 F228
  refine c227 ?_
  refine o_iconst B227 622 623 (0 : Int32) d2_622 rfl (by decide) ?_
  refine o_istore B227 623 625 (l' := #[vr a, vi xW, vi 0, vi xG, vi 4, vi 1, vi 3, vj (xG.toInt64 * (4 : Int64)), s2, vi s9, vj 16, s2, vi 0, vj 8, s2, vj 16, s2]) d2_623 rfl rfl ?_
  refine o_iload B227 625 627 (v := (0 : Int32)) d2_625 rfl rfl ?_
  refine o_i2l B227 627 628 d2_627 rfl ?_
  refine o_topJ (show (0 : Int32).toInt64 = (0 : Int64) by decide) ?_
  refine o_lload B227 628 630 (v := (xG.toInt64 * (4 : Int64))) d2_628 rfl rfl ?_
  refine o_lcmp B227 630 631 d2_630 rfl ?_
  refine o_ifN B227 631 634 d2_631 rfl (XT.ll_ge_f (own_ps hp 4 4 (by decide) (by decide) (by decide))) ?_
  refine o_iload B227 634 636 (v := (0 : Int32)) d2_634 rfl rfl ?_
  refine o_aloadN B227 636 637 (v := (.ref a)) d2_636 rfl rfl rfl ?_
  have F231 := (Fld.other W227 (Fld.ext E203 (Fld.other W200 (Fld.ext E179 F177) (Or.inr (sn119 hw)))) (Or.inr (sn120 hw)))
  obtain ⟨T230, B230, c230⟩ := o_getfield B227 637 640 d2_637 rfl (host := "") (Or.inl (hw _ (mi 62 rfl))) Via.refl F231 (Ls := #[vr a, vi xW, vi 0, vi xG, vi 4, vi 1, vi 3, vj (xG.toInt64 * (4 : Int64)), s2, vi s9, vj 16, s2, vi 0, vj 8, s2, vj 16, s2]) (rest := [(.int (0 : Int32))])
  refine c230 ?_
  have F233 := ((F222.ext E203).other W227 (Ne.symm (Nat.ne_of_lt lt143)))
  refine o_alenJ B230 640 641 F233 (4 : Int32) d2_640 rfl (by decide) ?_
  refine o_idiv B230 641 642 d2_641 rfl (by decide) ?_
  refine o_topI (show ((0 : Int32) / (4 : Int32)) = (0 : Int32) by decide) ?_
  refine o_istore B230 642 644 (l' := #[vr a, vi xW, vi 0, vi xG, vi 4, vi 1, vi 3, vj (xG.toInt64 * (4 : Int64)), s2, vi s9, vj 16, s2, vi 0, vi 0, us, vj 16, s2]) d2_642 rfl rfl ?_
  refine o_aloadN B230 644 645 (v := (.ref a)) d2_644 rfl rfl rfl ?_
  obtain ⟨T234, B234, c234⟩ := o_getfield B230 645 648 d2_645 rfl (host := "") (Or.inl (hw _ (mi 62 rfl))) Via.refl F231 (Ls := #[vr a, vi xW, vi 0, vi xG, vi 4, vi 1, vi 3, vj (xG.toInt64 * (4 : Int64)), s2, vi s9, vj 16, s2, vi 0, vi 0, us, vj 16, s2]) (rest := [])
  refine c234 ?_
  refine o_iload B234 648 650 (v := (0 : Int32)) d2_648 rfl rfl ?_
  refine o_aloadN B234 650 651 (v := (.ref a)) d2_650 rfl rfl rfl ?_
  obtain ⟨T235, B235, c235⟩ := o_getfield B234 651 654 d2_651 rfl (host := "") (Or.inl (hw _ (mi 62 rfl))) Via.refl F231 (Ls := #[vr a, vi xW, vi 0, vi xG, vi 4, vi 1, vi 3, vj (xG.toInt64 * (4 : Int64)), s2, vi s9, vj 16, s2, vi 0, vi 0, us, vj 16, s2]) (rest := [(.int (0 : Int32)), (.ref a141)])
  refine c235 ?_
  refine o_alenJ B235 654 655 F233 (4 : Int32) d2_654 rfl (by decide) ?_
  refine o_irem B235 655 656 d2_655 rfl (by decide) ?_
  refine o_topI (show ((0 : Int32) % (4 : Int32)) = (0 : Int32) by decide) ?_
  refine o_laload B235 656 657 F233 0 (1 : Int64) d2_656 rfl (by decide) (by decide) (by decide) rfl ?_
  obtain ⟨T238, B238, c238⟩ := o_callP B235 657 660 d2_657 rfl (hw _ (mi 68 rfl)) (hw _ (mi 69 rfl)) (hw _ (mi 70 rfl)) (hw _ (mi 71 rfl)) (by decide) (rm8 l Z a0 hw (1 : Int64) h227 ) 0 [(.long (1 : Int64))] [] pd__J_I rfl rfl (st := [(.long (1 : Int64))]) rfl (Ls := #[vr a, vi xW, vi 0, vi xG, vi 4, vi 1, vi 3, vj (xG.toInt64 * (4 : Int64)), s2, vi s9, vj 16, s2, vi 0, vi 0, us, vj 16, s2]) rfl (Nat.le_of_eq rfl) (by decide) (by decide) (by decide) (by decide)
  refine c238 ?_
  refine o_topI (show (f8 (1 : Int64)) = (0 : Int32) by decide) ?_
  refine o_istore B238 660 662 (l' := #[vr a, vi xW, vi 0, vi xG, vi 4, vi 1, vi 3, vj (xG.toInt64 * (4 : Int64)), s2, vi s9, vj 16, s2, vi 0, vi 0, vi 0, vj 16, s2]) d2_660 rfl rfl ?_
  have F239 := (Exa.wr W227 F229)
  have F240 := (Fld.other W227 (Fld.ext E203 F200) (Or.inr (sn121 hw)))
  have F241 := (Fld.other W227 (Fld.ext E203 (Fld.other W200 (Fld.ext E179 (Fld.other W175 (Fld.other W170 (Fld.other W165 (Fld.other W160 (Fld.other W153 (Fld.ext E141 (F131.keep K9 (ninS (Nat.ne_of_lt lt15) (ninS (Nat.ne_of_lt lt22) (ninS (Nat.ne_of_lt lt31) (ninS (Nat.ne_of_lt lt42) (ninS (Nat.ne_of_lt lt55) (ninS (Nat.ne_of_lt lt70) (ninS (Nat.ne_of_lt lt87) (ninS (Nat.ne_of_lt lt106) nin0)))))))))) (Or.inr (sn122 hw))) (Or.inl (Nat.ne_of_lt lt143))) (Or.inl (Nat.ne_of_lt lt143))) (Or.inl (Nat.ne_of_lt lt143))) (Or.inl (Nat.ne_of_lt lt143)))) (Or.inr (sn123 hw)))) (Or.inr (sn124 hw)))
  have F242 := (Fld.other W227 (Fld.ext E203 (Fld.other W200 (Fld.ext E179 (Fld.other W175 (Fld.other W170 (Fld.other W165 (Fld.other W160 (Fld.other W153 (Fld.ext E141 (F132.keep K9 (ninS (Nat.ne_of_lt lt15) (ninS (Nat.ne_of_lt lt22) (ninS (Nat.ne_of_lt lt31) (ninS (Nat.ne_of_lt lt42) (ninS (Nat.ne_of_lt lt55) (ninS (Nat.ne_of_lt lt70) (ninS (Nat.ne_of_lt lt87) (ninS (Nat.ne_of_lt lt106) nin0)))))))))) (Or.inr (sn125 hw))) (Or.inl (Nat.ne_of_lt lt143))) (Or.inl (Nat.ne_of_lt lt143))) (Or.inl (Nat.ne_of_lt lt143))) (Or.inl (Nat.ne_of_lt lt143)))) (Or.inr (sn126 hw)))) (Or.inr (sn127 hw)))
  have F243 := (Fld.other W227 (Fld.ext E203 (Fld.other W200 (Fld.ext E179 (Fld.other W175 (Fld.other W170 (Fld.other W165 (Fld.other W160 (Fld.other W153 (Fld.ext E141 ((Fld.other W122 (Fld.ext E104 (Fld.other W101 (Fld.ext E85 (Fld.other W82 (Fld.ext E68 (Fld.other W65 (Fld.ext E53 (Fld.other W50 (Fld.ext E40 (Fld.other W37 (Fld.ext E29 (Fld.other W26 (Fld.ext E20 (Fld.other W17 (Fld.ext E13 (Fld.other W10 F7 (Or.inr (sn128 hw)))) (Or.inr (sn129 hw)))) (Or.inr (sn130 hw)))) (Or.inr (sn131 hw)))) (Or.inr (sn132 hw)))) (Or.inr (sn133 hw)))) (Or.inr (sn134 hw)))) (Or.inr (sn135 hw)))) (Or.inr (sn136 hw))).keep K9 (ninS (Nat.ne_of_lt lt15) (ninS (Nat.ne_of_lt lt22) (ninS (Nat.ne_of_lt lt31) (ninS (Nat.ne_of_lt lt42) (ninS (Nat.ne_of_lt lt55) (ninS (Nat.ne_of_lt lt70) (ninS (Nat.ne_of_lt lt87) (ninS (Nat.ne_of_lt lt106) nin0)))))))))) (Or.inr (sn137 hw))) (Or.inl (Nat.ne_of_lt lt143))) (Or.inl (Nat.ne_of_lt lt143))) (Or.inl (Nat.ne_of_lt lt143))) (Or.inl (Nat.ne_of_lt lt143)))) (Or.inr (sn138 hw)))) (Or.inr (sn139 hw)))
  have F244 := ((F224.ext E203).other W227 (Ne.symm (Nat.ne_of_lt lt181)))
  have F245 := (A203.other W227 (Ne.symm (Nat.ne_of_lt lt205)))
  have F246 := ((F216.ext E203).other W227 (Ne.symm (Nat.ne_of_lt lt70)))
  have F247 := ((F218.ext E203).other W227 (Ne.symm (Nat.ne_of_lt lt87)))
  refine lpD_4_1 ⟨by decide, by decide, by decide, by decide⟩ a0 hw xW xG s9 (16 : Int64) (16 : Int64) a a68 a85 a141 a179 a203 lt70 lt99 lt150 lt198 lt225 ga (w2_4_1c_4 xW xG) g6 g7 (own_kb_4_1 xW xG) hp ⟨by omega, hl.2.1⟩ (xG.toInt.toNat * 4 - 1) 0 _ _ _ _ _ _ _ (by omega) (by rw [show (0 : Int32).toInt = 0 by decide]; omega) (by decide) B238 N227 (W227.size ▸ s203) F239 F231 F240 F227 F241 F242 F243 F233 F244 F245 F246 F247 (fun T8 h8 L8 t8 i8 b8 B8 N8 K8 => ?_)
  have F248 := ((Fld.other W227 (Fld.ext E203 (Fld.other W200 (Fld.ext E179 (Fld.other W175 (Fld.other W170 (Fld.other W165 (Fld.other W160 (Fld.other W153 (Fld.ext E141 ((Fld.other W122 (Fld.ext E104 (Fld.other W101 (Fld.ext E85 (Fld.other W82 (Fld.ext E68 (Fld.other W65 (Fld.ext E53 (Fld.other W50 (Fld.ext E40 (Fld.other W37 (Fld.ext E29 (Fld.other W26 (Fld.ext E20 (Fld.other W17 (Fld.ext E13 (Fld.other W10 (Fld.other W7 F3 (Or.inr (sn140 hw))) (Or.inr (sn141 hw)))) (Or.inr (sn142 hw)))) (Or.inr (sn143 hw)))) (Or.inr (sn144 hw)))) (Or.inr (sn145 hw)))) (Or.inr (sn146 hw)))) (Or.inr (sn147 hw)))) (Or.inr (sn148 hw)))) (Or.inr (sn149 hw))).keep K9 (ninS (Nat.ne_of_lt lt15) (ninS (Nat.ne_of_lt lt22) (ninS (Nat.ne_of_lt lt31) (ninS (Nat.ne_of_lt lt42) (ninS (Nat.ne_of_lt lt55) (ninS (Nat.ne_of_lt lt70) (ninS (Nat.ne_of_lt lt87) (ninS (Nat.ne_of_lt lt106) nin0)))))))))) (Or.inr (sn150 hw))) (Or.inl (Nat.ne_of_lt lt143))) (Or.inl (Nat.ne_of_lt lt143))) (Or.inl (Nat.ne_of_lt lt143))) (Or.inl (Nat.ne_of_lt lt143)))) (Or.inr (sn151 hw)))) (Or.inr (sn152 hw))).keep K8 (ninS (Nat.ne_of_lt lt181) (ninS (Nat.ne_of_lt lt205) nin0)))
  have F249 := (F243.keep K8 (ninS (Nat.ne_of_lt lt181) (ninS (Nat.ne_of_lt lt205) nin0)))
  have F250 := ((Fld.other W227 (Fld.ext E203 (Fld.other W200 (Fld.ext E179 (Fld.other W175 (Fld.other W170 (Fld.other W165 (Fld.other W160 (Fld.other W153 (Fld.ext E141 ((Fld.other W122 (Fld.ext E104 (Fld.other W101 (Fld.ext E85 (Fld.other W82 (Fld.ext E68 (Fld.other W65 (Fld.ext E53 (Fld.other W50 (Fld.ext E40 (Fld.other W37 (Fld.ext E29 (Fld.other W26 (Fld.ext E20 (Fld.other W17 (Fld.ext E13 F10) (Or.inr (sn153 hw)))) (Or.inr (sn154 hw)))) (Or.inr (sn155 hw)))) (Or.inr (sn156 hw)))) (Or.inr (sn157 hw)))) (Or.inr (sn158 hw)))) (Or.inr (sn159 hw)))) (Or.inr (sn160 hw))).keep K9 (ninS (Nat.ne_of_lt lt15) (ninS (Nat.ne_of_lt lt22) (ninS (Nat.ne_of_lt lt31) (ninS (Nat.ne_of_lt lt42) (ninS (Nat.ne_of_lt lt55) (ninS (Nat.ne_of_lt lt70) (ninS (Nat.ne_of_lt lt87) (ninS (Nat.ne_of_lt lt106) nin0)))))))))) (Or.inr (sn161 hw))) (Or.inl (Nat.ne_of_lt lt143))) (Or.inl (Nat.ne_of_lt lt143))) (Or.inl (Nat.ne_of_lt lt143))) (Or.inl (Nat.ne_of_lt lt143)))) (Or.inr (sn162 hw)))) (Or.inr (sn163 hw))).keep K8 (ninS (Nat.ne_of_lt lt181) (ninS (Nat.ne_of_lt lt205) nin0)))
  have F251 := ((Fld.other W227 (Fld.ext E203 (Fld.other W200 (Fld.ext E179 (Fld.other W175 (Fld.other W170 (Fld.other W165 (Fld.other W160 (Fld.other W153 (Fld.ext E141 (F127.keep K9 (ninS (Nat.ne_of_lt lt15) (ninS (Nat.ne_of_lt lt22) (ninS (Nat.ne_of_lt lt31) (ninS (Nat.ne_of_lt lt42) (ninS (Nat.ne_of_lt lt55) (ninS (Nat.ne_of_lt lt70) (ninS (Nat.ne_of_lt lt87) (ninS (Nat.ne_of_lt lt106) nin0)))))))))) (Or.inr (sn164 hw))) (Or.inl (Nat.ne_of_lt lt143))) (Or.inl (Nat.ne_of_lt lt143))) (Or.inl (Nat.ne_of_lt lt143))) (Or.inl (Nat.ne_of_lt lt143)))) (Or.inr (sn165 hw)))) (Or.inr (sn166 hw))).keep K8 (ninS (Nat.ne_of_lt lt181) (ninS (Nat.ne_of_lt lt205) nin0)))
  have F252 := (((F208.ext E203).other W227 (Ne.symm (Nat.ne_of_lt lt22))).keep K8 (ninS (Nat.ne_of_lt lt185) (ninS (Nat.ne_of_lt lt209) nin0)))
  have F253 := ((Fld.other W227 (Fld.ext E203 (Fld.other W200 (Fld.ext E179 (Fld.other W175 (Fld.other W170 (Fld.other W165 (Fld.other W160 (Fld.other W153 (Fld.ext E141 (F128.keep K9 (ninS (Nat.ne_of_lt lt15) (ninS (Nat.ne_of_lt lt22) (ninS (Nat.ne_of_lt lt31) (ninS (Nat.ne_of_lt lt42) (ninS (Nat.ne_of_lt lt55) (ninS (Nat.ne_of_lt lt70) (ninS (Nat.ne_of_lt lt87) (ninS (Nat.ne_of_lt lt106) nin0)))))))))) (Or.inr (sn167 hw))) (Or.inl (Nat.ne_of_lt lt143))) (Or.inl (Nat.ne_of_lt lt143))) (Or.inl (Nat.ne_of_lt lt143))) (Or.inl (Nat.ne_of_lt lt143)))) (Or.inr (sn168 hw)))) (Or.inr (sn169 hw))).keep K8 (ninS (Nat.ne_of_lt lt181) (ninS (Nat.ne_of_lt lt205) nin0)))
  have F254 := (((F210.ext E203).other W227 (Ne.symm (Nat.ne_of_lt lt31))).keep K8 (ninS (Nat.ne_of_lt lt187) (ninS (Nat.ne_of_lt lt211) nin0)))
  have F255 := ((Fld.other W227 (Fld.ext E203 (Fld.other W200 (Fld.ext E179 (Fld.other W175 (Fld.other W170 (Fld.other W165 (Fld.other W160 (Fld.other W153 (Fld.ext E141 (F129.keep K9 (ninS (Nat.ne_of_lt lt15) (ninS (Nat.ne_of_lt lt22) (ninS (Nat.ne_of_lt lt31) (ninS (Nat.ne_of_lt lt42) (ninS (Nat.ne_of_lt lt55) (ninS (Nat.ne_of_lt lt70) (ninS (Nat.ne_of_lt lt87) (ninS (Nat.ne_of_lt lt106) nin0)))))))))) (Or.inr (sn170 hw))) (Or.inl (Nat.ne_of_lt lt143))) (Or.inl (Nat.ne_of_lt lt143))) (Or.inl (Nat.ne_of_lt lt143))) (Or.inl (Nat.ne_of_lt lt143)))) (Or.inr (sn171 hw)))) (Or.inr (sn172 hw))).keep K8 (ninS (Nat.ne_of_lt lt181) (ninS (Nat.ne_of_lt lt205) nin0)))
  have F256 := (((F212.ext E203).other W227 (Ne.symm (Nat.ne_of_lt lt42))).keep K8 (ninS (Nat.ne_of_lt lt189) (ninS (Nat.ne_of_lt lt213) nin0)))
  have F257 := ((Fld.other W227 (Fld.ext E203 (Fld.other W200 (Fld.ext E179 (Fld.other W175 (Fld.other W170 (Fld.other W165 (Fld.other W160 (Fld.other W153 (Fld.ext E141 (F130.keep K9 (ninS (Nat.ne_of_lt lt15) (ninS (Nat.ne_of_lt lt22) (ninS (Nat.ne_of_lt lt31) (ninS (Nat.ne_of_lt lt42) (ninS (Nat.ne_of_lt lt55) (ninS (Nat.ne_of_lt lt70) (ninS (Nat.ne_of_lt lt87) (ninS (Nat.ne_of_lt lt106) nin0)))))))))) (Or.inr (sn173 hw))) (Or.inl (Nat.ne_of_lt lt143))) (Or.inl (Nat.ne_of_lt lt143))) (Or.inl (Nat.ne_of_lt lt143))) (Or.inl (Nat.ne_of_lt lt143)))) (Or.inr (sn174 hw)))) (Or.inr (sn175 hw))).keep K8 (ninS (Nat.ne_of_lt lt181) (ninS (Nat.ne_of_lt lt205) nin0)))
  have F258 := (((F214.ext E203).other W227 (Ne.symm (Nat.ne_of_lt lt55))).keep K8 (ninS (Nat.ne_of_lt lt191) (ninS (Nat.ne_of_lt lt215) nin0)))
  have F259 := ((Fld.other W227 (Fld.ext E203 (Fld.other W200 (Fld.ext E179 (Fld.other W175 (Fld.other W170 (Fld.other W165 (Fld.other W160 (Fld.other W153 (Fld.ext E141 (F122.keep K9 (ninS (Nat.ne_of_lt lt15) (ninS (Nat.ne_of_lt lt22) (ninS (Nat.ne_of_lt lt31) (ninS (Nat.ne_of_lt lt42) (ninS (Nat.ne_of_lt lt55) (ninS (Nat.ne_of_lt lt70) (ninS (Nat.ne_of_lt lt87) (ninS (Nat.ne_of_lt lt106) nin0)))))))))) (Or.inr (sn176 hw))) (Or.inl (Nat.ne_of_lt lt143))) (Or.inl (Nat.ne_of_lt lt143))) (Or.inl (Nat.ne_of_lt lt143))) (Or.inl (Nat.ne_of_lt lt143)))) (Or.inr (sn177 hw)))) (Or.inr (sn178 hw))).keep K8 (ninS (Nat.ne_of_lt lt181) (ninS (Nat.ne_of_lt lt205) nin0)))
  have F260 := (((F220.ext E203).other W227 (Ne.symm (Nat.ne_of_lt lt106))).keep K8 (ninS (Nat.ne_of_lt lt197) (ninS (Nat.ne_of_lt lt221) nin0)))
  have KT261 := (((KT226.ext E203).wr W227 (Or.inl (mi 0 rfl))).trans K8 (allS (Or.inr y179) (allS (Or.inr y203) all0)))
  exact o_retV B8 701 d2_701 hret hlk (by decide) (by decide) ⟨rfl, N8, KT261, F248, F249, F250, a20, a29, a40, a53, a104, F251, F252, F253, F254, F255, F256, F257, F258, F259, F260⟩
def w2_4_2dz_1 (xG : Int32) (t : Nat) (gi bi : Int32) (gk : Nat → Int64) (g1 g2 g6 g7 : Nat → Int32) : Nat → Int32 := fun j => if j = t then gi else g1 j
def q2_4_2dz_2 (xG : Int32) (t : Nat) (gi bi : Int32) (gk : Nat → Int64) (g1 g2 g6 g7 : Nat → Int32) : Int32 := (f10 (xG.toInt.toNat * 4) g6 (4 : Int32) gi bi)
def q2_4_2dz_3 (xG : Int32) (t : Nat) (gi bi : Int32) (gk : Nat → Int64) (g1 g2 g6 g7 : Nat → Int32) : Int32 := (f11 (xG.toInt.toNat * 4) g7 (4 : Int32) gi bi)
def q2_4_2dz_4 (xG : Int32) (t : Nat) (gi bi : Int32) (gk : Nat → Int64) (g1 g2 g6 g7 : Nat → Int32) : Int32 := ((q2_4_2dz_2 xG t gi bi gk g1 g2 g6 g7) + (q2_4_2dz_3 xG t gi bi gk g1 g2 g6 g7))
def w2_4_2dz_5 (xG : Int32) (t : Nat) (gi bi : Int32) (gk : Nat → Int64) (g1 g2 g6 g7 : Nat → Int32) : Nat → Int32 := fun j => if j = t then (q2_4_2dz_4 xG t gi bi gk g1 g2 g6 g7) else g2 j
def w2_4_2ds_1 (xG : Int32) (t : Nat) (gi bi : Int32) (gk : Nat → Int64) (g1 g2 g6 g7 : Nat → Int32) : Nat → Int32 := fun j => if j = t then gi else g1 j
def q2_4_2ds_2 (xG : Int32) (t : Nat) (gi bi : Int32) (gk : Nat → Int64) (g1 g2 g6 g7 : Nat → Int32) : Int32 := (f10 (xG.toInt.toNat * 4) g6 (4 : Int32) gi bi)
def q2_4_2ds_3 (xG : Int32) (t : Nat) (gi bi : Int32) (gk : Nat → Int64) (g1 g2 g6 g7 : Nat → Int32) : Int32 := (f11 (xG.toInt.toNat * 4) g7 (4 : Int32) gi bi)
def q2_4_2ds_4 (xG : Int32) (t : Nat) (gi bi : Int32) (gk : Nat → Int64) (g1 g2 g6 g7 : Nat → Int32) : Int32 := ((q2_4_2ds_2 xG t gi bi gk g1 g2 g6 g7) + (q2_4_2ds_3 xG t gi bi gk g1 g2 g6 g7))
def w2_4_2ds_5 (xG : Int32) (t : Nat) (gi bi : Int32) (gk : Nat → Int64) (g1 g2 g6 g7 : Nat → Int32) : Nat → Int32 := fun j => if j = t then (q2_4_2ds_4 xG t gi bi gk g1 g2 g6 g7) else g2 j
set_option maxRecDepth 65536 in
set_option maxHeartbeats 400000000 in
theorem lpD_4_2 {p : Program} {l : Launch} {e : Env} {R : Room} {s : State} {m : MethodId} {args : Array Value} {below : List Frame} {meth : Method} {c : Code} {Z : State} {cells slots n0 : Nat} {P : Outcome → State → Prop} (hcc : cells ≤ R.cells ∧ slots ≤ R.slots ∧ 2 ≤ R.frames ∧ 100 ≤ R.locals) (a0 : Array Value) (hw : ∀ d ∈ tables_1, d.before a0 Z = true) (xW xG s9 : Int32) (ke ca : Int64) (a bo bw ky tg be : Nat) (o1 : a < bo) (o2 : bo < bw) (o3 : bw < ky) (o4 : ky < tg) (o5 : tg < be) (ga : n0 ≤ a) (gk : Nat → Int64) (g6 g7 : Nat → Int32) (hkb : ∀ i, i < 6 → 0 ≤ (f8 (gk i)).toInt ∧ (f8 (gk i)).toInt < 4) (hp : Hp 4 xW xG) (hl : xG.toInt.toNat ≤ 2000 ∧ xG.toInt = (xG.toInt.toNat : Nat)) : ∀ (k t : Nat) (T : State) (h : Heap) (locs : List Loc) (gi bi : Int32) (g1 g2 : Nat → Int32),
    t + k + 1 = (xG.toInt.toNat * 6) → (0 ≤ gi.toInt ∧ gi.toInt < xG.toInt.toNat) → (0 ≤ bi.toInt ∧ bi.toInt < 4) → Bx "com/example/hyperplane/hyperplane/Blocks" prog_2_method_3_code 17 Z p l e R s m args below meth c T h locs cells slots → Fr n0 locs → n0 ≤ h.size → Exa Z h a "com/example/hyperplane/hyperplane/Blocks" → Fld Z h a "com/example/hyperplane/hyperplane/Blocks" "keys" "[J" (.ref ky) → Fld Z h a "com/example/hyperplane/hyperplane/Blocks" "tableGroups" "[I" (.ref tg) → Fld Z h a "com/example/hyperplane/hyperplane/Blocks" "blockEnds" "[I" (.ref be) → Fld Z h a "com/example/hyperplane/hyperplane/Blocks" "blockOffsets" "[I" (.ref bo) → Fld Z h a "com/example/hyperplane/hyperplane/Blocks" "blockWidths" "[I" (.ref bw) → Fld Z h a "com/example/hyperplane/hyperplane/Blocks" "blocksPerGroup" "I" (.int (4 : Int32)) → AJ Z h ky 6 gk → AI Z h tg .int (xG.toInt.toNat * 6) g1 → AI Z h be .int (xG.toInt.toNat * 6) g2 → AI Z h bo .int (xG.toInt.toNat * 4) g6 → AI Z h bw .int (xG.toInt.toNat * 4) g7 →
    (∀ (T' : State) (h' : Heap) (locs' : List Loc) (t' i' b' : Int32), Bx "com/example/hyperplane/hyperplane/Blocks" prog_2_method_3_code 17 Z p l e R s m args below meth c T' h' locs' cells slots → Fr n0 locs' → Keep h h' [tg, be] → OG p.tables e below P (T'.setTop (mkF m 701 #[vr a, vi xW, vi 0, vi xG, vi 4, vi 2, vi 2, vj (xG.toInt64 * (6 : Int64)), s2, vi s9, vj ke, s2, vi t', vi i', vi b', vj ca, s2] []))) →
    OG p.tables e below P (T.setTop (mkF m 662 #[vr a, vi xW, vi 0, vi xG, vi 4, vi 2, vi 2, vj (xG.toInt64 * (6 : Int64)), s2, vi s9, vj ke, s2, vi (Int32.ofNat t), vi gi, vi bi, vj ca, s2] [])) := by
  intro k
  induction k with
  | zero =>
    intro t T h locs gi bi g1 g2 hg hgi hbi B N hz hE F_ky F_tg F_be F_bo F_bw F_P A_ky A_tg A_be A_bo A_bw cont
    have htx := ix_of (own_on t (by omega))
    have hix := own_ix2 (c := (4 : Int32)) (P := 4) (n := xG.toInt.toNat) hgi hbi (by decide) (by omega)
    refine o_aloadN B 662 663 (v := (.ref a)) d2_662 rfl rfl rfl ?_
    obtain ⟨T1, B1, c1⟩ := o_getfield B 663 666 d2_663 rfl (host := "") (Or.inl (hw _ (mi 64 rfl))) Via.refl F_tg (Ls := #[vr a, vi xW, vi 0, vi xG, vi 4, vi 2, vi 2, vj (xG.toInt64 * (6 : Int64)), s2, vi s9, vj ke, s2, vi (Int32.ofNat t), vi gi, vi bi, vj ca, s2]) (rest := [])
    refine c1 ?_
    refine o_iload B1 666 668 (v := (Int32.ofNat t)) d2_666 rfl rfl ?_
    refine o_iload B1 668 670 (v := gi) d2_668 rfl rfl ?_
    obtain ⟨T2, h2, L2, B2, N2, W2, Q2, c2⟩ := o_iastore B1 N (show n0 ≤ tg by omega) 670 671 A_tg (j := (Int32.ofNat t)) (x := gi) t gi d2_670 rfl htx.1 htx.2 (by omega) rfl (Ls := #[vr a, vi xW, vi 0, vi xG, vi 4, vi 2, vi 2, vj (xG.toInt64 * (6 : Int64)), s2, vi s9, vj ke, s2, vi (Int32.ofNat t), vi gi, vi bi, vj ca, s2]) (rest := [])
    have A2 : AI Z h2 tg .int (xG.toInt.toNat * 6) (w2_4_2dz_1 xG t gi bi gk g1 g2 g6 g7) := Q2
    refine c2 ?_
    refine o_aloadN B2 671 672 (v := (.ref a)) d2_671 rfl rfl rfl ?_
    have F4 := (Fld.other W2 F_be (Or.inl (Nat.ne_of_lt (by omega))))
    obtain ⟨T3, B3, c3⟩ := o_getfield B2 672 675 d2_672 rfl (host := "") (Or.inl (hw _ (mi 66 rfl))) Via.refl F4 (Ls := #[vr a, vi xW, vi 0, vi xG, vi 4, vi 2, vi 2, vj (xG.toInt64 * (6 : Int64)), s2, vi s9, vj ke, s2, vi (Int32.ofNat t), vi gi, vi bi, vj ca, s2]) (rest := [])
    refine c3 ?_
    refine o_iload B3 675 677 (v := (Int32.ofNat t)) d2_675 rfl rfl ?_
    refine o_aloadN B3 677 678 (v := (.ref a)) d2_677 rfl rfl rfl ?_
    refine o_iload B3 678 680 (v := gi) d2_678 rfl rfl ?_
    refine o_iload B3 680 682 (v := bi) d2_680 rfl rfl ?_
    have F5 := (Fld.other W2 F_bo (Or.inl (Nat.ne_of_lt (by omega))))
    have F6 := (Fld.other W2 F_P (Or.inl (Nat.ne_of_lt (by omega))))
    have F7 := (A_bo.other W2 (Nat.ne_of_lt (by omega)))
    have F8 := (Exa.wr W2 hE)
    obtain ⟨T9, B9, c9⟩ := o_callVP B3 682 685 d2_682 rfl (hw _ (mi 76 rfl)) (hw _ (mi 77 rfl)) (hw _ (mi 79 rfl)) (hw _ (mi 78 rfl)) (hw _ (mi 17 rfl)) (hw _ (mi 80 rfl)) (by decide) F8 (rm10 l Z a0 hw a (xG.toInt.toNat * 4) g6 bo (4 : Int32) gi bi h2 F5 F6 F7 hix) 2 [(.int gi), (.int bi)] [(.int (Int32.ofNat t)), (.ref be)] pd__II_I rfl rfl (st := [(.int bi), (.int gi), (.ref a), (.int (Int32.ofNat t)), (.ref be)]) rfl (Ls := #[vr a, vi xW, vi 0, vi xG, vi 4, vi 2, vi 2, vj (xG.toInt64 * (6 : Int64)), s2, vi s9, vj ke, s2, vi (Int32.ofNat t), vi gi, vi bi, vj ca, s2]) rfl (Nat.le_of_eq rfl) (by first | omega | (show _ + _ + _ ≤ _; omega) | (simp; omega)) (by first | omega | (show _ + _ + _ ≤ _; omega) | (simp; omega)) (by first | omega | (show _ + _ + _ ≤ _; omega) | (simp; omega)) (by first | omega | (show _ + _ + _ ≤ _; omega) | (simp; omega))
    refine c9 ?_
    refine o_aloadN B9 685 686 (v := (.ref a)) d2_685 rfl rfl rfl ?_
    refine o_iload B9 686 688 (v := gi) d2_686 rfl rfl ?_
    refine o_iload B9 688 690 (v := bi) d2_688 rfl rfl ?_
    have F10 := (Fld.other W2 F_bw (Or.inl (Nat.ne_of_lt (by omega))))
    have F11 := (A_bw.other W2 (Nat.ne_of_lt (by omega)))
    obtain ⟨T12, B12, c12⟩ := o_callVP B9 690 693 d2_690 rfl (hw _ (mi 81 rfl)) (hw _ (mi 82 rfl)) (hw _ (mi 84 rfl)) (hw _ (mi 83 rfl)) (hw _ (mi 17 rfl)) (hw _ (mi 85 rfl)) (by decide) F8 (rm11 l Z a0 hw a (xG.toInt.toNat * 4) g7 bw (4 : Int32) gi bi h2 F10 F6 F11 hix) 3 [(.int gi), (.int bi)] [(.int (q2_4_2dz_2 xG t gi bi gk g1 g2 g6 g7)), (.int (Int32.ofNat t)), (.ref be)] pd__II_I rfl rfl (st := [(.int bi), (.int gi), (.ref a), (.int (q2_4_2dz_2 xG t gi bi gk g1 g2 g6 g7)), (.int (Int32.ofNat t)), (.ref be)]) rfl (Ls := #[vr a, vi xW, vi 0, vi xG, vi 4, vi 2, vi 2, vj (xG.toInt64 * (6 : Int64)), s2, vi s9, vj ke, s2, vi (Int32.ofNat t), vi gi, vi bi, vj ca, s2]) rfl (Nat.le_of_eq rfl) (by first | omega | (show _ + _ + _ ≤ _; omega) | (simp; omega)) (by first | omega | (show _ + _ + _ ≤ _; omega) | (simp; omega)) (by first | omega | (show _ + _ + _ ≤ _; omega) | (simp; omega)) (by first | omega | (show _ + _ + _ ≤ _; omega) | (simp; omega))
    refine c12 ?_
    refine o_iadd B12 693 694 d2_693 rfl ?_
    have F14 := (A_be.other W2 (Nat.ne_of_gt (by omega)))
    obtain ⟨T13, h13, L13, B13, N13, W13, Q13, c13⟩ := o_iastore B12 N2 (show n0 ≤ be by omega) 694 695 F14 (j := (Int32.ofNat t)) (x := ((q2_4_2dz_2 xG t gi bi gk g1 g2 g6 g7) + (q2_4_2dz_3 xG t gi bi gk g1 g2 g6 g7))) t (q2_4_2dz_4 xG t gi bi gk g1 g2 g6 g7) d2_694 rfl htx.1 htx.2 (by omega) rfl (Ls := #[vr a, vi xW, vi 0, vi xG, vi 4, vi 2, vi 2, vj (xG.toInt64 * (6 : Int64)), s2, vi s9, vj ke, s2, vi (Int32.ofNat t), vi gi, vi bi, vj ca, s2]) (rest := [])
    have A13 : AI Z h13 be .int (xG.toInt.toNat * 6) (w2_4_2dz_5 xG t gi bi gk g1 g2 g6 g7) := Q13
    refine c13 ?_
    refine o_iincC B13 695 698 (l' := #[vr a, vi xW, vi 0, vi xG, vi 4, vi 2, vi 2, vj (xG.toInt64 * (6 : Int64)), s2, vi s9, vj ke, s2, vi (Int32.ofNat (t + 1)), vi gi, vi bi, vj ca, s2]) (1 : Int32) (Int32.ofNat (t + 1)) d2_695 rfl (by decide) rfl (own_inc t) rfl ?_
    refine o_goto B13 698 625 d2_698 (by decide) (by decide) ?_
    refine o_iload B13 625 627 (v := (Int32.ofNat (t + 1))) d2_625 rfl rfl ?_
    refine o_i2l B13 627 628 d2_627 rfl ?_
    refine o_lload B13 628 630 (v := (xG.toInt64 * (6 : Int64))) d2_628 rfl rfl ?_
    refine o_lcmp B13 630 631 d2_630 rfl ?_
    refine o_ifY B13 631 701 d2_631 (XT.ll_ge_t (by rw [Int64.lt_iff_toInt_lt, own_gt hp 6 6 (by decide) (by decide) (by decide), c_i2l, own_on _ (by omega)]; omega)) (by decide) (by decide) ?_
    have KT15 := (((Keep.refl h [tg, be]).wr W2 (Or.inl (mi 0 rfl))).wr W13 (Or.inl (mi 1 rfl)))
    exact cont _ _ _ _ _ _ B13 N13 KT15
  | succ k ih =>
    intro t T h locs gi bi g1 g2 hg hgi hbi B N hz hE F_ky F_tg F_be F_bo F_bw F_P A_ky A_tg A_be A_bo A_bw cont
    have htx := ix_of (own_on t (by omega))
    have hix := own_ix2 (c := (4 : Int32)) (P := 4) (n := xG.toInt.toNat) hgi hbi (by decide) (by omega)
    have hd := own_dv (t + 1) 6 (by omega) (by decide)
    have hm := ix_of hd.2
    refine o_aloadN B 662 663 (v := (.ref a)) d2_662 rfl rfl rfl ?_
    obtain ⟨T1, B1, c1⟩ := o_getfield B 663 666 d2_663 rfl (host := "") (Or.inl (hw _ (mi 64 rfl))) Via.refl F_tg (Ls := #[vr a, vi xW, vi 0, vi xG, vi 4, vi 2, vi 2, vj (xG.toInt64 * (6 : Int64)), s2, vi s9, vj ke, s2, vi (Int32.ofNat t), vi gi, vi bi, vj ca, s2]) (rest := [])
    refine c1 ?_
    refine o_iload B1 666 668 (v := (Int32.ofNat t)) d2_666 rfl rfl ?_
    refine o_iload B1 668 670 (v := gi) d2_668 rfl rfl ?_
    obtain ⟨T2, h2, L2, B2, N2, W2, Q2, c2⟩ := o_iastore B1 N (show n0 ≤ tg by omega) 670 671 A_tg (j := (Int32.ofNat t)) (x := gi) t gi d2_670 rfl htx.1 htx.2 (by omega) rfl (Ls := #[vr a, vi xW, vi 0, vi xG, vi 4, vi 2, vi 2, vj (xG.toInt64 * (6 : Int64)), s2, vi s9, vj ke, s2, vi (Int32.ofNat t), vi gi, vi bi, vj ca, s2]) (rest := [])
    have A2 : AI Z h2 tg .int (xG.toInt.toNat * 6) (w2_4_2ds_1 xG t gi bi gk g1 g2 g6 g7) := Q2
    refine c2 ?_
    refine o_aloadN B2 671 672 (v := (.ref a)) d2_671 rfl rfl rfl ?_
    have F4 := (Fld.other W2 F_be (Or.inl (Nat.ne_of_lt (by omega))))
    obtain ⟨T3, B3, c3⟩ := o_getfield B2 672 675 d2_672 rfl (host := "") (Or.inl (hw _ (mi 66 rfl))) Via.refl F4 (Ls := #[vr a, vi xW, vi 0, vi xG, vi 4, vi 2, vi 2, vj (xG.toInt64 * (6 : Int64)), s2, vi s9, vj ke, s2, vi (Int32.ofNat t), vi gi, vi bi, vj ca, s2]) (rest := [])
    refine c3 ?_
    refine o_iload B3 675 677 (v := (Int32.ofNat t)) d2_675 rfl rfl ?_
    refine o_aloadN B3 677 678 (v := (.ref a)) d2_677 rfl rfl rfl ?_
    refine o_iload B3 678 680 (v := gi) d2_678 rfl rfl ?_
    refine o_iload B3 680 682 (v := bi) d2_680 rfl rfl ?_
    have F5 := (Fld.other W2 F_bo (Or.inl (Nat.ne_of_lt (by omega))))
    have F6 := (Fld.other W2 F_P (Or.inl (Nat.ne_of_lt (by omega))))
    have F7 := (A_bo.other W2 (Nat.ne_of_lt (by omega)))
    have F8 := (Exa.wr W2 hE)
    obtain ⟨T9, B9, c9⟩ := o_callVP B3 682 685 d2_682 rfl (hw _ (mi 76 rfl)) (hw _ (mi 77 rfl)) (hw _ (mi 79 rfl)) (hw _ (mi 78 rfl)) (hw _ (mi 17 rfl)) (hw _ (mi 80 rfl)) (by decide) F8 (rm10 l Z a0 hw a (xG.toInt.toNat * 4) g6 bo (4 : Int32) gi bi h2 F5 F6 F7 hix) 2 [(.int gi), (.int bi)] [(.int (Int32.ofNat t)), (.ref be)] pd__II_I rfl rfl (st := [(.int bi), (.int gi), (.ref a), (.int (Int32.ofNat t)), (.ref be)]) rfl (Ls := #[vr a, vi xW, vi 0, vi xG, vi 4, vi 2, vi 2, vj (xG.toInt64 * (6 : Int64)), s2, vi s9, vj ke, s2, vi (Int32.ofNat t), vi gi, vi bi, vj ca, s2]) rfl (Nat.le_of_eq rfl) (by first | omega | (show _ + _ + _ ≤ _; omega) | (simp; omega)) (by first | omega | (show _ + _ + _ ≤ _; omega) | (simp; omega)) (by first | omega | (show _ + _ + _ ≤ _; omega) | (simp; omega)) (by first | omega | (show _ + _ + _ ≤ _; omega) | (simp; omega))
    refine c9 ?_
    refine o_aloadN B9 685 686 (v := (.ref a)) d2_685 rfl rfl rfl ?_
    refine o_iload B9 686 688 (v := gi) d2_686 rfl rfl ?_
    refine o_iload B9 688 690 (v := bi) d2_688 rfl rfl ?_
    have F10 := (Fld.other W2 F_bw (Or.inl (Nat.ne_of_lt (by omega))))
    have F11 := (A_bw.other W2 (Nat.ne_of_lt (by omega)))
    obtain ⟨T12, B12, c12⟩ := o_callVP B9 690 693 d2_690 rfl (hw _ (mi 81 rfl)) (hw _ (mi 82 rfl)) (hw _ (mi 84 rfl)) (hw _ (mi 83 rfl)) (hw _ (mi 17 rfl)) (hw _ (mi 85 rfl)) (by decide) F8 (rm11 l Z a0 hw a (xG.toInt.toNat * 4) g7 bw (4 : Int32) gi bi h2 F10 F6 F11 hix) 3 [(.int gi), (.int bi)] [(.int (q2_4_2ds_2 xG t gi bi gk g1 g2 g6 g7)), (.int (Int32.ofNat t)), (.ref be)] pd__II_I rfl rfl (st := [(.int bi), (.int gi), (.ref a), (.int (q2_4_2ds_2 xG t gi bi gk g1 g2 g6 g7)), (.int (Int32.ofNat t)), (.ref be)]) rfl (Ls := #[vr a, vi xW, vi 0, vi xG, vi 4, vi 2, vi 2, vj (xG.toInt64 * (6 : Int64)), s2, vi s9, vj ke, s2, vi (Int32.ofNat t), vi gi, vi bi, vj ca, s2]) rfl (Nat.le_of_eq rfl) (by first | omega | (show _ + _ + _ ≤ _; omega) | (simp; omega)) (by first | omega | (show _ + _ + _ ≤ _; omega) | (simp; omega)) (by first | omega | (show _ + _ + _ ≤ _; omega) | (simp; omega)) (by first | omega | (show _ + _ + _ ≤ _; omega) | (simp; omega))
    refine c12 ?_
    refine o_iadd B12 693 694 d2_693 rfl ?_
    have F14 := (A_be.other W2 (Nat.ne_of_gt (by omega)))
    obtain ⟨T13, h13, L13, B13, N13, W13, Q13, c13⟩ := o_iastore B12 N2 (show n0 ≤ be by omega) 694 695 F14 (j := (Int32.ofNat t)) (x := ((q2_4_2ds_2 xG t gi bi gk g1 g2 g6 g7) + (q2_4_2ds_3 xG t gi bi gk g1 g2 g6 g7))) t (q2_4_2ds_4 xG t gi bi gk g1 g2 g6 g7) d2_694 rfl htx.1 htx.2 (by omega) rfl (Ls := #[vr a, vi xW, vi 0, vi xG, vi 4, vi 2, vi 2, vj (xG.toInt64 * (6 : Int64)), s2, vi s9, vj ke, s2, vi (Int32.ofNat t), vi gi, vi bi, vj ca, s2]) (rest := [])
    have A13 : AI Z h13 be .int (xG.toInt.toNat * 6) (w2_4_2ds_5 xG t gi bi gk g1 g2 g6 g7) := Q13
    refine c13 ?_
    refine o_iincC B13 695 698 (l' := #[vr a, vi xW, vi 0, vi xG, vi 4, vi 2, vi 2, vj (xG.toInt64 * (6 : Int64)), s2, vi s9, vj ke, s2, vi (Int32.ofNat (t + 1)), vi gi, vi bi, vj ca, s2]) (1 : Int32) (Int32.ofNat (t + 1)) d2_695 rfl (by decide) rfl (own_inc t) rfl ?_
    refine o_goto B13 698 625 d2_698 (by decide) (by decide) ?_
    refine o_iload B13 625 627 (v := (Int32.ofNat (t + 1))) d2_625 rfl rfl ?_
    refine o_i2l B13 627 628 d2_627 rfl ?_
    refine o_lload B13 628 630 (v := (xG.toInt64 * (6 : Int64))) d2_628 rfl rfl ?_
    refine o_lcmp B13 630 631 d2_630 rfl ?_
    refine o_ifN B13 631 634 d2_631 rfl (XT.ll_ge_f (by rw [Int64.lt_iff_toInt_lt, own_gt hp 6 6 (by decide) (by decide) (by decide), c_i2l, own_on _ (by omega)]; omega)) ?_
    refine o_iload B13 634 636 (v := (Int32.ofNat (t + 1))) d2_634 rfl rfl ?_
    refine o_aloadN B13 636 637 (v := (.ref a)) d2_636 rfl rfl rfl ?_
    have F16 := (Fld.other W13 (Fld.other W2 F_ky (Or.inl (Nat.ne_of_lt (by omega)))) (Or.inl (Nat.ne_of_lt (by omega))))
    obtain ⟨T15, B15, c15⟩ := o_getfield B13 637 640 d2_637 rfl (host := "") (Or.inl (hw _ (mi 62 rfl))) Via.refl F16 (Ls := #[vr a, vi xW, vi 0, vi xG, vi 4, vi 2, vi 2, vj (xG.toInt64 * (6 : Int64)), s2, vi s9, vj ke, s2, vi (Int32.ofNat (t + 1)), vi gi, vi bi, vj ca, s2]) (rest := [(.int (Int32.ofNat (t + 1)))])
    refine c15 ?_
    have F18 := ((A_ky.other W2 (Nat.ne_of_lt (by omega))).other W13 (Nat.ne_of_lt (by omega)))
    refine o_alenJ B15 640 641 F18 (6 : Int32) d2_640 rfl (by decide) ?_
    refine o_idiv B15 641 642 d2_641 rfl (by decide) ?_
    refine o_istore B15 642 644 (l' := #[vr a, vi xW, vi 0, vi xG, vi 4, vi 2, vi 2, vj (xG.toInt64 * (6 : Int64)), s2, vi s9, vj ke, s2, vi (Int32.ofNat (t + 1)), vi ((Int32.ofNat (t + 1)) / (6 : Int32)), vi bi, vj ca, s2]) d2_642 rfl rfl ?_
    refine o_aloadN B15 644 645 (v := (.ref a)) d2_644 rfl rfl rfl ?_
    obtain ⟨T19, B19, c19⟩ := o_getfield B15 645 648 d2_645 rfl (host := "") (Or.inl (hw _ (mi 62 rfl))) Via.refl F16 (Ls := #[vr a, vi xW, vi 0, vi xG, vi 4, vi 2, vi 2, vj (xG.toInt64 * (6 : Int64)), s2, vi s9, vj ke, s2, vi (Int32.ofNat (t + 1)), vi ((Int32.ofNat (t + 1)) / (6 : Int32)), vi bi, vj ca, s2]) (rest := [])
    refine c19 ?_
    refine o_iload B19 648 650 (v := (Int32.ofNat (t + 1))) d2_648 rfl rfl ?_
    refine o_aloadN B19 650 651 (v := (.ref a)) d2_650 rfl rfl rfl ?_
    obtain ⟨T20, B20, c20⟩ := o_getfield B19 651 654 d2_651 rfl (host := "") (Or.inl (hw _ (mi 62 rfl))) Via.refl F16 (Ls := #[vr a, vi xW, vi 0, vi xG, vi 4, vi 2, vi 2, vj (xG.toInt64 * (6 : Int64)), s2, vi s9, vj ke, s2, vi (Int32.ofNat (t + 1)), vi ((Int32.ofNat (t + 1)) / (6 : Int32)), vi bi, vj ca, s2]) (rest := [(.int (Int32.ofNat (t + 1))), (.ref ky)])
    refine c20 ?_
    refine o_alenJ B20 654 655 F18 (6 : Int32) d2_654 rfl (by decide) ?_
    refine o_irem B20 655 656 d2_655 rfl (by decide) ?_
    refine o_laload B20 656 657 F18 ((t + 1) % 6) (gk ((t + 1) % 6)) d2_656 rfl hm.1 hm.2 (Nat.mod_lt _ (by decide)) rfl ?_
    obtain ⟨T23, B23, c23⟩ := o_callP B20 657 660 d2_657 rfl (hw _ (mi 68 rfl)) (hw _ (mi 69 rfl)) (hw _ (mi 70 rfl)) (hw _ (mi 71 rfl)) (by decide) (rm8 l Z a0 hw (gk ((t + 1) % 6)) h13 ) 0 [(.long (gk ((t + 1) % 6)))] [] pd__J_I rfl rfl (st := [(.long (gk ((t + 1) % 6)))]) rfl (Ls := #[vr a, vi xW, vi 0, vi xG, vi 4, vi 2, vi 2, vj (xG.toInt64 * (6 : Int64)), s2, vi s9, vj ke, s2, vi (Int32.ofNat (t + 1)), vi ((Int32.ofNat (t + 1)) / (6 : Int32)), vi bi, vj ca, s2]) rfl (Nat.le_of_eq rfl) (by first | omega | (show _ + _ + _ ≤ _; omega) | (simp; omega)) (by first | omega | (show _ + _ + _ ≤ _; omega) | (simp; omega)) (by first | omega | (show _ + _ + _ ≤ _; omega) | (simp; omega)) (by first | omega | (show _ + _ + _ ≤ _; omega) | (simp; omega))
    refine c23 ?_
    refine o_istore B23 660 662 (l' := #[vr a, vi xW, vi 0, vi xG, vi 4, vi 2, vi 2, vj (xG.toInt64 * (6 : Int64)), s2, vi s9, vj ke, s2, vi (Int32.ofNat (t + 1)), vi ((Int32.ofNat (t + 1)) / (6 : Int32)), vi (f8 (gk ((t + 1) % 6))), vj ca, s2]) d2_660 rfl rfl ?_
    have F24 := (A2.other W13 (Nat.ne_of_lt (by omega)))
    have F25 := (F7.other W13 (Nat.ne_of_lt (by omega)))
    have F26 := (F11.other W13 (Nat.ne_of_lt (by omega)))
    have F27 := (Fld.other W13 (Fld.other W2 F_tg (Or.inl (Nat.ne_of_lt (by omega)))) (Or.inl (Nat.ne_of_lt (by omega))))
    have F28 := (Fld.other W13 F4 (Or.inl (Nat.ne_of_lt (by omega))))
    have F29 := (Fld.other W13 F5 (Or.inl (Nat.ne_of_lt (by omega))))
    have F30 := (Fld.other W13 F10 (Or.inl (Nat.ne_of_lt (by omega))))
    have F31 := (Fld.other W13 F6 (Or.inl (Nat.ne_of_lt (by omega))))
    have F32 := (Exa.wr W13 F8)
    have KT33 := (((Keep.refl h [tg, be]).wr W2 (Or.inl (mi 0 rfl))).wr W13 (Or.inl (mi 1 rfl)))
    exact ih (t + 1) _ _ _ _ _ _ _ (by omega) (by have q := own_gg (t + 1) 6 xG.toInt.toNat (by omega); rw [← hd.1] at q; exact q) (hkb _ (Nat.mod_lt _ (by decide))) B23 N13 (Nat.le_trans hz KT33.1) F32 F16 F27 F28 F29 F30 F31 F18 F24 A13 F25 F26 (fun T2 h2 L2 t2 i2 b2 B2 N2 K2 => cont T2 h2 L2 t2 i2 b2 B2 N2 (Keep.trans KT33 K2 (allS (Or.inl (mi 0 rfl)) (allS (Or.inl (mi 1 rfl)) all0))))
def f7_4_2  : Int64 := (6 : Int64)
set_option maxRecDepth 65536 in
set_option maxHeartbeats 40000000 in
theorem rm7_4_2 (l : Launch) (Z : State) (a0 : Array Value) (hw : ∀ d ∈ tables_1, d.before a0 Z = true)  (h0 : Heap) :
    Met l Z (⟨"com/example/hyperplane/hyperplane/Blocks", "binomial", "(II)J"⟩ : MethodName) prog_2_method_10_code 5 (some .long) ({ frames := 0, cells := 0, slots := 0, locals := 0 } : Room) #[(.int (4 : Int32)), (.int (2 : Int32))] h0 (Pu (some (.long (f7_4_2 ))) h0) := by
  refine enter pl7 #[vi 4, vi 2, us, us, us] rfl ?_
  intro p e s m below meth c T B hret hlk hnm
  · refine o_lconst B 0 1 (1 : Int64) d7_0 rfl (by decide) ?_
    refine o_lstoreN B 1 2 (l' := #[vi 4, vi 2, vj 1, s2, us]) d7_1 rfl rfl ?_
    refine o_iconst B 2 3 (1 : Int32) d7_2 rfl (by decide) ?_
    refine o_istore B 3 5 (l' := #[vi 4, vi 2, vj 1, s2, vi 1]) d7_3 rfl rfl ?_
    refine o_iload B 5 7 (v := (1 : Int32)) d7_5 rfl rfl ?_
    refine o_iloadN B 7 8 (v := (2 : Int32)) d7_7 rfl rfl ?_
    refine o_icN B 8 11 d7_8 rfl (XT.ii_gt_f (by decide)) ?_
    refine o_lloadN B 11 12 (v := (1 : Int64)) d7_11 rfl rfl ?_
    refine o_iloadN B 12 13 (v := (4 : Int32)) d7_12 rfl rfl ?_
    refine o_iloadN B 13 14 (v := (2 : Int32)) d7_13 rfl rfl ?_
    refine o_isub B 14 15 d7_14 rfl ?_
    refine o_topI (show ((4 : Int32) - (2 : Int32)) = (2 : Int32) by decide) ?_
    refine o_iload B 15 17 (v := (1 : Int32)) d7_15 rfl rfl ?_
    refine o_iadd B 17 18 d7_17 rfl ?_
    refine o_topI (show ((2 : Int32) + (1 : Int32)) = (3 : Int32) by decide) ?_
    refine o_i2l B 18 19 d7_18 rfl ?_
    refine o_topJ (show (3 : Int32).toInt64 = (3 : Int64) by decide) ?_
    refine o_lmul B 19 20 d7_19 rfl ?_
    refine o_topJ (show ((1 : Int64) * (3 : Int64)) = (3 : Int64) by decide) ?_
    refine o_iload B 20 22 (v := (1 : Int32)) d7_20 rfl rfl ?_
    refine o_i2l B 22 23 d7_22 rfl ?_
    refine o_topJ (show (1 : Int32).toInt64 = (1 : Int64) by decide) ?_
    refine o_ldiv B 23 24 d7_23 rfl (by decide) ?_
    refine o_topJ (show ((3 : Int64) / (1 : Int64)) = (3 : Int64) by decide) ?_
    refine o_lstoreN B 24 25 (l' := #[vi 4, vi 2, vj 3, s2, vi 1]) d7_24 rfl rfl ?_
    refine o_lloadN B 25 26 (v := (3 : Int64)) d7_25 rfl rfl ?_
    refine o_ldc2 B 26 29 d7_26 rfl (hw _ (mi 39 rfl)) ?_
    refine o_lcmp B 29 30 d7_29 rfl ?_
    refine o_ifY B 30 35 d7_30 (XT.ll_le_t (by decide)) (by decide) (by decide) ?_
    refine o_iincC B 35 38 (l' := #[vi 4, vi 2, vj 3, s2, vi 2]) (1 : Int32) (2 : Int32) d7_35 rfl (by decide) rfl (by decide) rfl ?_
    refine o_goto B 38 5 d7_38 (by decide) (by decide) ?_
    refine o_iload B 5 7 (v := (2 : Int32)) d7_5 rfl rfl ?_
    refine o_iloadN B 7 8 (v := (2 : Int32)) d7_7 rfl rfl ?_
    refine o_icN B 8 11 d7_8 rfl (XT.ii_gt_f (by decide)) ?_
    refine o_lloadN B 11 12 (v := (3 : Int64)) d7_11 rfl rfl ?_
    refine o_iloadN B 12 13 (v := (4 : Int32)) d7_12 rfl rfl ?_
    refine o_iloadN B 13 14 (v := (2 : Int32)) d7_13 rfl rfl ?_
    refine o_isub B 14 15 d7_14 rfl ?_
    refine o_topI (show ((4 : Int32) - (2 : Int32)) = (2 : Int32) by decide) ?_
    refine o_iload B 15 17 (v := (2 : Int32)) d7_15 rfl rfl ?_
    refine o_iadd B 17 18 d7_17 rfl ?_
    refine o_topI (show ((2 : Int32) + (2 : Int32)) = (4 : Int32) by decide) ?_
    refine o_i2l B 18 19 d7_18 rfl ?_
    refine o_topJ (show (4 : Int32).toInt64 = (4 : Int64) by decide) ?_
    refine o_lmul B 19 20 d7_19 rfl ?_
    refine o_topJ (show ((3 : Int64) * (4 : Int64)) = (12 : Int64) by decide) ?_
    refine o_iload B 20 22 (v := (2 : Int32)) d7_20 rfl rfl ?_
    refine o_i2l B 22 23 d7_22 rfl ?_
    refine o_topJ (show (2 : Int32).toInt64 = (2 : Int64) by decide) ?_
    refine o_ldiv B 23 24 d7_23 rfl (by decide) ?_
    refine o_topJ (show ((12 : Int64) / (2 : Int64)) = (6 : Int64) by decide) ?_
    refine o_lstoreN B 24 25 (l' := #[vi 4, vi 2, vj 6, s2, vi 2]) d7_24 rfl rfl ?_
    refine o_lloadN B 25 26 (v := (6 : Int64)) d7_25 rfl rfl ?_
    refine o_ldc2 B 26 29 d7_26 rfl (hw _ (mi 39 rfl)) ?_
    refine o_lcmp B 29 30 d7_29 rfl ?_
    refine o_ifY B 30 35 d7_30 (XT.ll_le_t (by decide)) (by decide) (by decide) ?_
    refine o_iincC B 35 38 (l' := #[vi 4, vi 2, vj 6, s2, vi 3]) (1 : Int32) (3 : Int32) d7_35 rfl (by decide) rfl (by decide) rfl ?_
    refine o_goto B 38 5 d7_38 (by decide) (by decide) ?_
    refine o_iload B 5 7 (v := (3 : Int32)) d7_5 rfl rfl ?_
    refine o_iloadN B 7 8 (v := (2 : Int32)) d7_7 rfl rfl ?_
    refine o_icY B 8 41 d7_8 (XT.ii_gt_t (by decide)) (by decide) (by decide) ?_
    refine o_lloadN B 41 42 (v := (6 : Int64)) d7_41 rfl rfl ?_
    refine o_retL B 42 d7_42 hret hlk (by decide) (by decide) ⟨(congrArg (fun z => some (Value.long z)) (show f7_4_2  = (6 : Int64) from rfl)).symm, rfl, rfl⟩
def w2_4_2c_1 (xW xG : Int32) : Nat → Int64 := fun j => if j = 0 then (3 : Int64) else (fun _ => 0) j
def w2_4_2c_2 (xW xG : Int32) : Nat → Int64 := fun j => if j = 1 then (5 : Int64) else (w2_4_2c_1 xW xG) j
def w2_4_2c_3 (xW xG : Int32) : Nat → Int64 := fun j => if j = 2 then (6 : Int64) else (w2_4_2c_2 xW xG) j
def w2_4_2c_4 (xW xG : Int32) : Nat → Int64 := fun j => if j = 3 then (9 : Int64) else (w2_4_2c_3 xW xG) j
def w2_4_2c_5 (xW xG : Int32) : Nat → Int64 := fun j => if j = 4 then (10 : Int64) else (w2_4_2c_4 xW xG) j
def w2_4_2c_6 (xW xG : Int32) : Nat → Int64 := fun j => if j = 5 then (12 : Int64) else (w2_4_2c_5 xW xG) j
theorem own_kb_4_2 (xW xG : Int32) : ∀ i, i < 6 → 0 ≤ (f8 ((w2_4_2c_6 xW xG) i)).toInt ∧ (f8 ((w2_4_2c_6 xW xG) i)).toInt < 4 := by
  intro i hi
  match i, hi with
  | 0, _ => exact (show 0 ≤ (f8 (3 : Int64)).toInt ∧ (f8 (3 : Int64)).toInt < 4 by decide)
  | 1, _ => exact (show 0 ≤ (f8 (5 : Int64)).toInt ∧ (f8 (5 : Int64)).toInt < 4 by decide)
  | 2, _ => exact (show 0 ≤ (f8 (6 : Int64)).toInt ∧ (f8 (6 : Int64)).toInt < 4 by decide)
  | 3, _ => exact (show 0 ≤ (f8 (9 : Int64)).toInt ∧ (f8 (9 : Int64)).toInt < 4 by decide)
  | 4, _ => exact (show 0 ≤ (f8 (10 : Int64)).toInt ∧ (f8 (10 : Int64)).toInt < 4 by decide)
  | 5, _ => exact (show 0 ≤ (f8 (12 : Int64)).toInt ∧ (f8 (12 : Int64)).toInt < 4 by decide)
def Qc_4_2 (Z : State) (a : Addr) (xW xG : Int32) (h0 : Heap) (n0 : Nat) (v : Option Value) (h : Heap) (L : List Loc) : Prop := v = none ∧ Fr n0 L ∧ Keep h0 h [a] ∧ Fld Z h a "com/example/hyperplane/hyperplane/Blocks" "words" "I" (.int (f4 xW)) ∧ Fld Z h a "com/example/hyperplane/hyperplane/Blocks" "blocksPerGroup" "I" (.int (4 : Int32)) ∧ Fld Z h a "com/example/hyperplane/hyperplane/Blocks" "keyBlocks" "I" (.int (2 : Int32)) ∧ ∃ fw sh lm hm bm : Addr, Fld Z h a "com/example/hyperplane/hyperplane/Blocks" "firstWords" "[I" (.ref fw) ∧ AI Z h fw .int xG.toInt.toNat (UpI xG.toInt.toNat (fun j => own_start xW xG j / 64)) ∧ Fld Z h a "com/example/hyperplane/hyperplane/Blocks" "shifts" "[I" (.ref sh) ∧ AI Z h sh .int xG.toInt.toNat (UpI xG.toInt.toNat (own_sh xW xG)) ∧ Fld Z h a "com/example/hyperplane/hyperplane/Blocks" "lowMasks" "[J" (.ref lm) ∧ AJ Z h lm xG.toInt.toNat (UpJ xG.toInt.toNat (fun j => own_low (own_bits xW xG j) (own_sh xW xG j))) ∧ Fld Z h a "com/example/hyperplane/hyperplane/Blocks" "highMasks" "[J" (.ref hm) ∧ AJ Z h hm xG.toInt.toNat (UpJ xG.toInt.toNat (own_hi xW xG)) ∧ Fld Z h a "com/example/hyperplane/hyperplane/Blocks" "blockMasks" "[J" (.ref bm) ∧ AJ Z h bm (xG.toInt.toNat * 4) (UpJ (xG.toInt.toNat * 4) (own_bmf xW xG 4 4))
set_option maxRecDepth 65536 in
set_option maxHeartbeats 400000000 in
theorem rm2_4_2 (l : Launch) (Z : State) (a0 : Array Value) (hw : ∀ d ∈ tables_1, d.before a0 Z = true) (a : Addr) (xW xG : Int32) (h0 : Heap) (n0 : Nat) (hz : n0 ≤ h0.size) (ga : n0 ≤ a) (hE : Exa Z h0 a "com/example/hyperplane/hyperplane/Blocks") (G0 : Fld Z h0 a "com/example/hyperplane/hyperplane/Blocks" "words" "I" (.int (0 : Int32))) (G1 : Fld Z h0 a "com/example/hyperplane/hyperplane/Blocks" "blocksPerGroup" "I" (.int (0 : Int32))) (G2 : Fld Z h0 a "com/example/hyperplane/hyperplane/Blocks" "keyBlocks" "I" (.int (0 : Int32))) (G3 : Fld Z h0 a "com/example/hyperplane/hyperplane/Blocks" "groupWidths" "[I" .null) (G4 : Fld Z h0 a "com/example/hyperplane/hyperplane/Blocks" "firstWords" "[I" .null) (G5 : Fld Z h0 a "com/example/hyperplane/hyperplane/Blocks" "shifts" "[I" .null) (G6 : Fld Z h0 a "com/example/hyperplane/hyperplane/Blocks" "lowMasks" "[J" .null) (G7 : Fld Z h0 a "com/example/hyperplane/hyperplane/Blocks" "highMasks" "[J" .null) (G8 : Fld Z h0 a "com/example/hyperplane/hyperplane/Blocks" "blockOffsets" "[I" .null) (G9 : Fld Z h0 a "com/example/hyperplane/hyperplane/Blocks" "blockWidths" "[I" .null) (G10 : Fld Z h0 a "com/example/hyperplane/hyperplane/Blocks" "blockMasks" "[J" .null) (G11 : Fld Z h0 a "com/example/hyperplane/hyperplane/Blocks" "keys" "[J" .null) (G12 : Fld Z h0 a "com/example/hyperplane/hyperplane/Blocks" "tableGroups" "[I" .null) (G13 : Fld Z h0 a "com/example/hyperplane/hyperplane/Blocks" "blockEnds" "[I" .null) (hp : Hp 4 xW xG) :
    Met l Z (⟨"com/example/hyperplane/hyperplane/Blocks", "<init>", "(IIIII)V"⟩ : MethodName) prog_2_method_3_code 17 none ({ frames := 2, cells := 11, slots := 93, locals := 100 } : Room) #[(.ref a), (.int xW), (.int (0 : Int32)), (.int xG), (.int (4 : Int32)), (.int (2 : Int32))] h0 (Qc_4_2 Z a xW xG h0 n0) := by
  refine enter pl2 #[vr a, vi xW, vi 0, vi xG, vi 4, vi 2, us, us, us, us, us, us, us, us, us, us, us] rfl ?_
  intro p e s m below meth c T B hret hlk hnm
  have N0 := Fr.nil n0
  have hl := own_gl hp
  have hgx := ix_of hl.2.1
  have hgp := ix_of (own_gp hp 4 4 (by decide) (by decide))
  have htn := ix_of (own_tn hp 6 6 (by decide) (by decide))
  refine o_aloadN B 0 1 (v := (.ref a)) d2_0 rfl rfl rfl ?_
  obtain ⟨T1, B1, c1⟩ := o_initO B 1 4 d2_1 rfl (hw _ (mi 21 rfl)) (hw _ (mi 22 rfl)) (hw _ (mi 23 rfl)) (a := a) (Ls := #[vr a, vi xW, vi 0, vi xG, vi 4, vi 2, us, us, us, us, us, us, us, us, us, us, us]) (rest := []) rfl 0 (Nat.le_of_eq rfl) (by decide) (by decide)
  refine c1 ?_
  refine o_aloadN B1 4 5 (v := (.ref a)) d2_4 rfl rfl rfl ?_
  refine o_iloadN B1 5 6 (v := xW) d2_5 rfl rfl ?_
  obtain ⟨T2, B2, c2⟩ := o_callP B1 6 9 d2_6 rfl (hw _ (mi 24 rfl)) (hw _ (mi 25 rfl)) (hw _ (mi 26 rfl)) (hw _ (mi 27 rfl)) (by decide) (rm4 l Z a0 hw xW h0  (own_hw hp).1 (own_hw hp).2.1 (own_hw hp).2.2) 1 [(.int xW)] [(.ref a)] pd__I_I rfl rfl (st := [(.int xW), (.ref a)]) rfl (Ls := #[vr a, vi xW, vi 0, vi xG, vi 4, vi 2, us, us, us, us, us, us, us, us, us, us, us]) rfl (Nat.le_of_eq rfl) (by decide) (by decide) (by decide) (by decide)
  refine c2 ?_
  obtain ⟨T3, h3, L3, B3, N3, W3, c3⟩ := o_putfield B2 N0 ga 9 12 (v := (.int (f4 xW))) d2_9 rfl (host := "") (Or.inl (hw _ (mi 28 rfl))) Via.refl G0 hE (Or.inr ⟨(hw _ (mi 29 rfl)), rfl, hnm⟩) (hw _ (mi 16 rfl)) (ty := .int) (by decide) rfl rfl (Ls := #[vr a, vi xW, vi 0, vi xG, vi 4, vi 2, us, us, us, us, us, us, us, us, us, us, us]) (rest := [])
  have F3 : Fld Z h3 a "com/example/hyperplane/hyperplane/Blocks" "words" "I" (.int (f4 xW)) := Fld.same W3 G0
  refine c3 ?_
  refine o_iloadN B3 12 13 (v := xW) d2_12 rfl rfl ?_
  refine o_iloadN B3 13 14 (v := (0 : Int32)) d2_13 rfl rfl ?_
  obtain ⟨T4, B4, c4⟩ := o_callP B3 14 17 d2_14 rfl (hw _ (mi 30 rfl)) (hw _ (mi 31 rfl)) (hw _ (mi 17 rfl)) (hw _ (mi 32 rfl)) (by decide) (rm5 l Z a0 hw xW (0 : Int32) h3  (by decide) (own_hm hp)) 0 [(.int xW), (.int (0 : Int32))] [] pd__II_I rfl rfl (st := [(.int (0 : Int32)), (.int xW)]) rfl (Ls := #[vr a, vi xW, vi 0, vi xG, vi 4, vi 2, us, us, us, us, us, us, us, us, us, us, us]) rfl (Nat.le_of_eq rfl) (by decide) (by decide) (by decide) (by decide)
  refine c4 ?_
  refine o_pop B4 17 18 d2_17 rfl rfl ?_
  refine o_iloadN B4 18 19 (v := xG) d2_18 rfl rfl ?_
  refine o_aloadN B4 19 20 (v := (.ref a)) d2_19 rfl rfl rfl ?_
  obtain ⟨T5, B5, c5⟩ := o_getfield B4 20 23 d2_20 rfl (host := "") (Or.inl (hw _ (mi 28 rfl))) Via.refl F3 (Ls := #[vr a, vi xW, vi 0, vi xG, vi 4, vi 2, us, us, us, us, us, us, us, us, us, us, us]) (rest := [(.int xG)])
  refine c5 ?_
  refine o_icN B5 23 26 d2_23 rfl (XT.ii_lt_f (own_ho hp).1) ?_
  refine o_iloadN B5 26 27 (v := xG) d2_26 rfl rfl ?_
  refine o_iloadN B5 27 28 (v := xW) d2_27 rfl rfl ?_
  refine o_icY B5 28 46 d2_28 (XT.ii_le_t (own_ho hp).2.1) (by decide) (by decide) ?_
  refine o_iload B5 46 48 (v := (4 : Int32)) d2_46 rfl rfl ?_
  refine o_iconst B5 48 49 (1 : Int32) d2_48 rfl (by decide) ?_
  refine o_icN B5 49 52 d2_49 rfl (XT.ii_lt_f (by decide)) ?_
  refine o_iload B5 52 54 (v := (4 : Int32)) d2_52 rfl rfl ?_
  refine o_iloadN B5 54 55 (v := xW) d2_54 rfl rfl ?_
  refine o_iloadN B5 55 56 (v := xG) d2_55 rfl rfl ?_
  refine o_idiv B5 56 57 d2_56 rfl (own_ho hp).2.2.1 ?_
  refine o_icY B5 57 78 d2_57 (XT.ii_le_t (own_hq (by decide) hp)) (by decide) (by decide) ?_
  refine o_iload B5 78 80 (v := (2 : Int32)) d2_78 rfl rfl ?_
  refine o_iconst B5 80 81 (1 : Int32) d2_80 rfl (by decide) ?_
  refine o_icN B5 81 84 d2_81 rfl (XT.ii_lt_f (by decide)) ?_
  refine o_iload B5 84 86 (v := (2 : Int32)) d2_84 rfl rfl ?_
  refine o_iload B5 86 88 (v := (4 : Int32)) d2_86 rfl rfl ?_
  refine o_icY B5 88 108 d2_88 (XT.ii_le_t (by decide)) (by decide) (by decide) ?_
  refine o_iload B5 108 110 (v := (4 : Int32)) d2_108 rfl rfl ?_
  refine o_iload B5 110 112 (v := (2 : Int32)) d2_110 rfl rfl ?_
  refine o_isub B5 112 113 d2_112 rfl ?_
  refine o_topI (show ((4 : Int32) - (2 : Int32)) = (2 : Int32) by decide) ?_
  refine o_istore B5 113 115 (l' := #[vr a, vi xW, vi 0, vi xG, vi 4, vi 2, vi 2, us, us, us, us, us, us, us, us, us, us]) d2_113 rfl rfl ?_
  refine o_iloadN B5 115 116 (v := xG) d2_115 rfl rfl ?_
  refine o_i2l B5 116 117 d2_116 rfl ?_
  refine o_iload B5 117 119 (v := (2 : Int32)) d2_117 rfl rfl ?_
  refine o_iconst B5 119 120 (1 : Int32) d2_119 rfl (by decide) ?_
  refine o_iadd B5 120 121 d2_120 rfl ?_
  refine o_topI (show ((2 : Int32) + (1 : Int32)) = (3 : Int32) by decide) ?_
  refine o_i2l B5 121 122 d2_121 rfl ?_
  refine o_topJ (show (3 : Int32).toInt64 = (3 : Int64) by decide) ?_
  refine o_lmul B5 122 123 d2_122 rfl ?_
  refine o_iloadN B5 123 124 (v := (0 : Int32)) d2_123 rfl rfl ?_
  refine o_i2l B5 124 125 d2_124 rfl ?_
  refine o_topJ (show (0 : Int32).toInt64 = (0 : Int64) by decide) ?_
  refine o_lcmp B5 125 126 d2_125 rfl ?_
  refine o_ifY B5 126 146 d2_126 (XT.ll_gt_t (own_ps hp 3 3 (by decide) (by decide) (by decide))) (by decide) (by decide) ?_
  refine o_iloadN B5 146 147 (v := xG) d2_146 rfl rfl ?_
  refine o_i2l B5 147 148 d2_147 rfl ?_
  refine o_iload B5 148 150 (v := (4 : Int32)) d2_148 rfl rfl ?_
  refine o_iload B5 150 152 (v := (2 : Int32)) d2_150 rfl rfl ?_
  obtain ⟨T6, B6, c6⟩ := o_callP B5 152 155 d2_152 rfl (hw _ (mi 36 rfl)) (hw _ (mi 37 rfl)) (hw _ (mi 17 rfl)) (hw _ (mi 38 rfl)) (by decide) (rm7_4_2 l Z a0 hw  h3 ) 2 [(.int (4 : Int32)), (.int (2 : Int32))] [(.long xG.toInt64)] pd__II_J rfl rfl (st := [(.int (2 : Int32)), (.int (4 : Int32)), (.long xG.toInt64)]) rfl (Ls := #[vr a, vi xW, vi 0, vi xG, vi 4, vi 2, vi 2, us, us, us, us, us, us, us, us, us, us]) rfl (Nat.le_of_eq rfl) (by decide) (by decide) (by decide) (by decide)
  refine c6 ?_
  refine o_topJ (show (f7_4_2 ) = (6 : Int64) by decide) ?_
  refine o_lmul B6 155 156 d2_155 rfl ?_
  refine o_lstore B6 156 158 (l' := #[vr a, vi xW, vi 0, vi xG, vi 4, vi 2, vi 2, vj (xG.toInt64 * (6 : Int64)), s2, us, us, us, us, us, us, us, us]) d2_156 rfl rfl ?_
  refine o_lload B6 158 160 (v := (xG.toInt64 * (6 : Int64))) d2_158 rfl rfl ?_
  refine o_ldc2 B6 160 163 d2_160 rfl (hw _ (mi 39 rfl)) ?_
  refine o_lcmp B6 163 164 d2_163 rfl ?_
  refine o_ifY B6 164 182 d2_164 (XT.ll_le_t (own_tl hp 6 6 (by decide) (by decide) (by decide))) (by decide) (by decide) ?_
  refine o_aloadN B6 182 183 (v := (.ref a)) d2_182 rfl rfl rfl ?_
  refine o_iload B6 183 185 (v := (4 : Int32)) d2_183 rfl rfl ?_
  have F8 := (Fld.other W3 G1 (Or.inr (sn0 hw)))
  have F9 := (Exa.wr W3 hE)
  obtain ⟨T7, h7, L7, B7, N7, W7, c7⟩ := o_putfield B6 N3 ga 185 188 (v := (.int (4 : Int32))) d2_185 rfl (host := "") (Or.inl (hw _ (mi 40 rfl))) Via.refl F8 F9 (Or.inr ⟨(hw _ (mi 41 rfl)), rfl, hnm⟩) (hw _ (mi 16 rfl)) (ty := .int) (by decide) rfl rfl (Ls := #[vr a, vi xW, vi 0, vi xG, vi 4, vi 2, vi 2, vj (xG.toInt64 * (6 : Int64)), s2, us, us, us, us, us, us, us, us]) (rest := [])
  have F7 : Fld Z h7 a "com/example/hyperplane/hyperplane/Blocks" "blocksPerGroup" "I" (.int (4 : Int32)) := Fld.same W7 F8
  refine c7 ?_
  refine o_aloadN B7 188 189 (v := (.ref a)) d2_188 rfl rfl rfl ?_
  refine o_iload B7 189 191 (v := (2 : Int32)) d2_189 rfl rfl ?_
  have F11 := (Fld.other W7 (Fld.other W3 G2 (Or.inr (sn1 hw))) (Or.inr (sn2 hw)))
  have F12 := (Exa.wr W7 F9)
  obtain ⟨T10, h10, L10, B10, N10, W10, c10⟩ := o_putfield B7 N7 ga 191 194 (v := (.int (2 : Int32))) d2_191 rfl (host := "") (Or.inl (hw _ (mi 42 rfl))) Via.refl F11 F12 (Or.inr ⟨(hw _ (mi 43 rfl)), rfl, hnm⟩) (hw _ (mi 16 rfl)) (ty := .int) (by decide) rfl rfl (Ls := #[vr a, vi xW, vi 0, vi xG, vi 4, vi 2, vi 2, vj (xG.toInt64 * (6 : Int64)), s2, us, us, us, us, us, us, us, us]) (rest := [])
  have F10 : Fld Z h10 a "com/example/hyperplane/hyperplane/Blocks" "keyBlocks" "I" (.int (2 : Int32)) := Fld.same W10 F11
  refine c10 ?_
  refine o_aloadN B10 194 195 (v := (.ref a)) d2_194 rfl rfl rfl ?_
  refine o_iloadN B10 195 196 (v := xG) d2_195 rfl rfl ?_
  obtain ⟨a13, T13, h13, z13, B13, E13, A13, c13⟩ := o_newI B10 196 198 (ty := .int) (z := xG) xG.toInt.toNat 3 (hw _ (mi 44 rfl)) d2_196 rfl rfl rfl hgx.1 hgx.2 hl.1 (by decide) (by decide) (by decide) (Ls := #[vr a, vi xW, vi 0, vi xG, vi 4, vi 2, vi 2, vj (xG.toInt64 * (6 : Int64)), s2, us, us, us, us, us, us, us, us]) (rest := [(.ref a)])
  have F14 := (Exa.wr W10 F12)
  have lt15 : (a : Nat) < a13 := by rw [z13]; exact F14.lt
  have g13 : n0 ≤ a13 := by rw [z13]; exact (W10.size ▸ (W7.size ▸ (W3.size ▸ hz)))
  have s13 : n0 ≤ h13.size := Nat.le_trans (W10.size ▸ (W7.size ▸ (W3.size ▸ hz))) E13.1
  have KT16 := ((((Keep.refl h0 [a]).wr W3 (Or.inl (mi 0 rfl))).wr W7 (Or.inl (mi 0 rfl))).wr W10 (Or.inl (mi 0 rfl)))
  have y13 : h0.size ≤ a13 := by rw [z13]; exact KT16.1
  refine c13 ?_
  have F18 := (Fld.ext E13 (Fld.other W10 (Fld.other W7 (Fld.other W3 G3 (Or.inr (sn3 hw))) (Or.inr (sn4 hw))) (Or.inr (sn5 hw))))
  have F19 := (Exa.ext E13 F14)
  obtain ⟨T17, h17, L17, B17, N17, W17, c17⟩ := o_putfield B13 N10 ga 198 201 (v := (.ref a13)) d2_198 rfl (host := "") (Or.inl (hw _ (mi 45 rfl))) Via.refl F18 F19 (Or.inr ⟨(hw _ (mi 46 rfl)), rfl, hnm⟩) (hw _ (mi 16 rfl)) (ty := (.array .int)) (by decide) rfl rfl (Ls := #[vr a, vi xW, vi 0, vi xG, vi 4, vi 2, vi 2, vj (xG.toInt64 * (6 : Int64)), s2, us, us, us, us, us, us, us, us]) (rest := [])
  have F17 : Fld Z h17 a "com/example/hyperplane/hyperplane/Blocks" "groupWidths" "[I" (.ref a13) := Fld.same W17 F18
  refine c17 ?_
  refine o_aloadN B17 201 202 (v := (.ref a)) d2_201 rfl rfl rfl ?_
  refine o_iloadN B17 202 203 (v := xG) d2_202 rfl rfl ?_
  obtain ⟨a20, T20, h20, z20, B20, E20, A20, c20⟩ := o_newI B17 203 205 (ty := .int) (z := xG) xG.toInt.toNat 3 (hw _ (mi 44 rfl)) d2_203 rfl rfl rfl hgx.1 hgx.2 hl.1 (by decide) (by decide) (by decide) (Ls := #[vr a, vi xW, vi 0, vi xG, vi 4, vi 2, vi 2, vj (xG.toInt64 * (6 : Int64)), s2, us, us, us, us, us, us, us, us]) (rest := [(.ref a)])
  have F21 := (Exa.wr W17 F19)
  have lt22 : (a : Nat) < a20 := by rw [z20]; exact F21.lt
  have F23 := (A13.other W17 (Ne.symm (Nat.ne_of_lt lt15)))
  have lt24 : (a13 : Nat) < a20 := by rw [z20]; exact F23.lt
  have g20 : n0 ≤ a20 := by rw [z20]; exact (W17.size ▸ s13)
  have s20 : n0 ≤ h20.size := Nat.le_trans (W17.size ▸ s13) E20.1
  have KT25 := ((KT16.ext E13).wr W17 (Or.inl (mi 0 rfl)))
  have y20 : h0.size ≤ a20 := by rw [z20]; exact KT25.1
  refine c20 ?_
  have F27 := (Fld.ext E20 (Fld.other W17 (Fld.ext E13 (Fld.other W10 (Fld.other W7 (Fld.other W3 G4 (Or.inr (sn6 hw))) (Or.inr (sn7 hw))) (Or.inr (sn8 hw)))) (Or.inr (sn9 hw))))
  have F28 := (Exa.ext E20 F21)
  obtain ⟨T26, h26, L26, B26, N26, W26, c26⟩ := o_putfield B20 N17 ga 205 208 (v := (.ref a20)) d2_205 rfl (host := "") (Or.inl (hw _ (mi 47 rfl))) Via.refl F27 F28 (Or.inr ⟨(hw _ (mi 48 rfl)), rfl, hnm⟩) (hw _ (mi 16 rfl)) (ty := (.array .int)) (by decide) rfl rfl (Ls := #[vr a, vi xW, vi 0, vi xG, vi 4, vi 2, vi 2, vj (xG.toInt64 * (6 : Int64)), s2, us, us, us, us, us, us, us, us]) (rest := [])
  have F26 : Fld Z h26 a "com/example/hyperplane/hyperplane/Blocks" "firstWords" "[I" (.ref a20) := Fld.same W26 F27
  refine c26 ?_
  refine o_aloadN B26 208 209 (v := (.ref a)) d2_208 rfl rfl rfl ?_
  refine o_iloadN B26 209 210 (v := xG) d2_209 rfl rfl ?_
  obtain ⟨a29, T29, h29, z29, B29, E29, A29, c29⟩ := o_newI B26 210 212 (ty := .int) (z := xG) xG.toInt.toNat 3 (hw _ (mi 44 rfl)) d2_210 rfl rfl rfl hgx.1 hgx.2 hl.1 (by decide) (by decide) (by decide) (Ls := #[vr a, vi xW, vi 0, vi xG, vi 4, vi 2, vi 2, vj (xG.toInt64 * (6 : Int64)), s2, us, us, us, us, us, us, us, us]) (rest := [(.ref a)])
  have F30 := (Exa.wr W26 F28)
  have lt31 : (a : Nat) < a29 := by rw [z29]; exact F30.lt
  have F32 := ((F23.ext E20).other W26 (Ne.symm (Nat.ne_of_lt lt15)))
  have lt33 : (a13 : Nat) < a29 := by rw [z29]; exact F32.lt
  have F34 := (A20.other W26 (Ne.symm (Nat.ne_of_lt lt22)))
  have lt35 : (a20 : Nat) < a29 := by rw [z29]; exact F34.lt
  have g29 : n0 ≤ a29 := by rw [z29]; exact (W26.size ▸ s20)
  have s29 : n0 ≤ h29.size := Nat.le_trans (W26.size ▸ s20) E29.1
  have KT36 := ((KT25.ext E20).wr W26 (Or.inl (mi 0 rfl)))
  have y29 : h0.size ≤ a29 := by rw [z29]; exact KT36.1
  refine c29 ?_
  have F38 := (Fld.ext E29 (Fld.other W26 (Fld.ext E20 (Fld.other W17 (Fld.ext E13 (Fld.other W10 (Fld.other W7 (Fld.other W3 G5 (Or.inr (sn10 hw))) (Or.inr (sn11 hw))) (Or.inr (sn12 hw)))) (Or.inr (sn13 hw)))) (Or.inr (sn14 hw))))
  have F39 := (Exa.ext E29 F30)
  obtain ⟨T37, h37, L37, B37, N37, W37, c37⟩ := o_putfield B29 N26 ga 212 215 (v := (.ref a29)) d2_212 rfl (host := "") (Or.inl (hw _ (mi 49 rfl))) Via.refl F38 F39 (Or.inr ⟨(hw _ (mi 50 rfl)), rfl, hnm⟩) (hw _ (mi 16 rfl)) (ty := (.array .int)) (by decide) rfl rfl (Ls := #[vr a, vi xW, vi 0, vi xG, vi 4, vi 2, vi 2, vj (xG.toInt64 * (6 : Int64)), s2, us, us, us, us, us, us, us, us]) (rest := [])
  have F37 : Fld Z h37 a "com/example/hyperplane/hyperplane/Blocks" "shifts" "[I" (.ref a29) := Fld.same W37 F38
  refine c37 ?_
  refine o_aloadN B37 215 216 (v := (.ref a)) d2_215 rfl rfl rfl ?_
  refine o_iloadN B37 216 217 (v := xG) d2_216 rfl rfl ?_
  obtain ⟨a40, T40, h40, z40, B40, E40, A40, c40⟩ := o_newJ B37 217 219 (z := xG) xG.toInt.toNat 3 (hw _ (mi 51 rfl)) d2_217 rfl rfl hgx.1 hgx.2 hl.1 (by decide) (by decide) (by decide) (Ls := #[vr a, vi xW, vi 0, vi xG, vi 4, vi 2, vi 2, vj (xG.toInt64 * (6 : Int64)), s2, us, us, us, us, us, us, us, us]) (rest := [(.ref a)])
  have F41 := (Exa.wr W37 F39)
  have lt42 : (a : Nat) < a40 := by rw [z40]; exact F41.lt
  have F43 := ((F32.ext E29).other W37 (Ne.symm (Nat.ne_of_lt lt15)))
  have lt44 : (a13 : Nat) < a40 := by rw [z40]; exact F43.lt
  have F45 := ((F34.ext E29).other W37 (Ne.symm (Nat.ne_of_lt lt22)))
  have lt46 : (a20 : Nat) < a40 := by rw [z40]; exact F45.lt
  have F47 := (A29.other W37 (Ne.symm (Nat.ne_of_lt lt31)))
  have lt48 : (a29 : Nat) < a40 := by rw [z40]; exact F47.lt
  have g40 : n0 ≤ a40 := by rw [z40]; exact (W37.size ▸ s29)
  have s40 : n0 ≤ h40.size := Nat.le_trans (W37.size ▸ s29) E40.1
  have KT49 := ((KT36.ext E29).wr W37 (Or.inl (mi 0 rfl)))
  have y40 : h0.size ≤ a40 := by rw [z40]; exact KT49.1
  refine c40 ?_
  have F51 := (Fld.ext E40 (Fld.other W37 (Fld.ext E29 (Fld.other W26 (Fld.ext E20 (Fld.other W17 (Fld.ext E13 (Fld.other W10 (Fld.other W7 (Fld.other W3 G6 (Or.inr (sn15 hw))) (Or.inr (sn16 hw))) (Or.inr (sn17 hw)))) (Or.inr (sn18 hw)))) (Or.inr (sn19 hw)))) (Or.inr (sn20 hw))))
  have F52 := (Exa.ext E40 F41)
  obtain ⟨T50, h50, L50, B50, N50, W50, c50⟩ := o_putfield B40 N37 ga 219 222 (v := (.ref a40)) d2_219 rfl (host := "") (Or.inl (hw _ (mi 52 rfl))) Via.refl F51 F52 (Or.inr ⟨(hw _ (mi 53 rfl)), rfl, hnm⟩) (hw _ (mi 16 rfl)) (ty := (.array .long)) (by decide) rfl rfl (Ls := #[vr a, vi xW, vi 0, vi xG, vi 4, vi 2, vi 2, vj (xG.toInt64 * (6 : Int64)), s2, us, us, us, us, us, us, us, us]) (rest := [])
  have F50 : Fld Z h50 a "com/example/hyperplane/hyperplane/Blocks" "lowMasks" "[J" (.ref a40) := Fld.same W50 F51
  refine c50 ?_
  refine o_aloadN B50 222 223 (v := (.ref a)) d2_222 rfl rfl rfl ?_
  refine o_iloadN B50 223 224 (v := xG) d2_223 rfl rfl ?_
  obtain ⟨a53, T53, h53, z53, B53, E53, A53, c53⟩ := o_newJ B50 224 226 (z := xG) xG.toInt.toNat 3 (hw _ (mi 51 rfl)) d2_224 rfl rfl hgx.1 hgx.2 hl.1 (by decide) (by decide) (by decide) (Ls := #[vr a, vi xW, vi 0, vi xG, vi 4, vi 2, vi 2, vj (xG.toInt64 * (6 : Int64)), s2, us, us, us, us, us, us, us, us]) (rest := [(.ref a)])
  have F54 := (Exa.wr W50 F52)
  have lt55 : (a : Nat) < a53 := by rw [z53]; exact F54.lt
  have F56 := ((F43.ext E40).other W50 (Ne.symm (Nat.ne_of_lt lt15)))
  have lt57 : (a13 : Nat) < a53 := by rw [z53]; exact F56.lt
  have F58 := ((F45.ext E40).other W50 (Ne.symm (Nat.ne_of_lt lt22)))
  have lt59 : (a20 : Nat) < a53 := by rw [z53]; exact F58.lt
  have F60 := ((F47.ext E40).other W50 (Ne.symm (Nat.ne_of_lt lt31)))
  have lt61 : (a29 : Nat) < a53 := by rw [z53]; exact F60.lt
  have F62 := (A40.other W50 (Ne.symm (Nat.ne_of_lt lt42)))
  have lt63 : (a40 : Nat) < a53 := by rw [z53]; exact F62.lt
  have g53 : n0 ≤ a53 := by rw [z53]; exact (W50.size ▸ s40)
  have s53 : n0 ≤ h53.size := Nat.le_trans (W50.size ▸ s40) E53.1
  have KT64 := ((KT49.ext E40).wr W50 (Or.inl (mi 0 rfl)))
  have y53 : h0.size ≤ a53 := by rw [z53]; exact KT64.1
  refine c53 ?_
  have F66 := (Fld.ext E53 (Fld.other W50 (Fld.ext E40 (Fld.other W37 (Fld.ext E29 (Fld.other W26 (Fld.ext E20 (Fld.other W17 (Fld.ext E13 (Fld.other W10 (Fld.other W7 (Fld.other W3 G7 (Or.inr (sn21 hw))) (Or.inr (sn22 hw))) (Or.inr (sn23 hw)))) (Or.inr (sn24 hw)))) (Or.inr (sn25 hw)))) (Or.inr (sn26 hw)))) (Or.inr (sn27 hw))))
  have F67 := (Exa.ext E53 F54)
  obtain ⟨T65, h65, L65, B65, N65, W65, c65⟩ := o_putfield B53 N50 ga 226 229 (v := (.ref a53)) d2_226 rfl (host := "") (Or.inl (hw _ (mi 54 rfl))) Via.refl F66 F67 (Or.inr ⟨(hw _ (mi 55 rfl)), rfl, hnm⟩) (hw _ (mi 16 rfl)) (ty := (.array .long)) (by decide) rfl rfl (Ls := #[vr a, vi xW, vi 0, vi xG, vi 4, vi 2, vi 2, vj (xG.toInt64 * (6 : Int64)), s2, us, us, us, us, us, us, us, us]) (rest := [])
  have F65 : Fld Z h65 a "com/example/hyperplane/hyperplane/Blocks" "highMasks" "[J" (.ref a53) := Fld.same W65 F66
  refine c65 ?_
  refine o_aloadN B65 229 230 (v := (.ref a)) d2_229 rfl rfl rfl ?_
  refine o_iloadN B65 230 231 (v := xG) d2_230 rfl rfl ?_
  refine o_iload B65 231 233 (v := (4 : Int32)) d2_231 rfl rfl ?_
  refine o_imul B65 233 234 d2_233 rfl ?_
  obtain ⟨a68, T68, h68, z68, B68, E68, A68, c68⟩ := o_newI B65 234 236 (ty := .int) (z := (xG * (4 : Int32))) (xG.toInt.toNat * 4) 12 (hw _ (mi 44 rfl)) d2_234 rfl rfl rfl hgp.1 hgp.2 (Nat.mul_le_mul_right _ hl.1) (by decide) (by decide) (by decide) (Ls := #[vr a, vi xW, vi 0, vi xG, vi 4, vi 2, vi 2, vj (xG.toInt64 * (6 : Int64)), s2, us, us, us, us, us, us, us, us]) (rest := [(.ref a)])
  have F69 := (Exa.wr W65 F67)
  have lt70 : (a : Nat) < a68 := by rw [z68]; exact F69.lt
  have F71 := ((F56.ext E53).other W65 (Ne.symm (Nat.ne_of_lt lt15)))
  have lt72 : (a13 : Nat) < a68 := by rw [z68]; exact F71.lt
  have F73 := ((F58.ext E53).other W65 (Ne.symm (Nat.ne_of_lt lt22)))
  have lt74 : (a20 : Nat) < a68 := by rw [z68]; exact F73.lt
  have F75 := ((F60.ext E53).other W65 (Ne.symm (Nat.ne_of_lt lt31)))
  have lt76 : (a29 : Nat) < a68 := by rw [z68]; exact F75.lt
  have F77 := ((F62.ext E53).other W65 (Ne.symm (Nat.ne_of_lt lt42)))
  have lt78 : (a40 : Nat) < a68 := by rw [z68]; exact F77.lt
  have F79 := (A53.other W65 (Ne.symm (Nat.ne_of_lt lt55)))
  have lt80 : (a53 : Nat) < a68 := by rw [z68]; exact F79.lt
  have g68 : n0 ≤ a68 := by rw [z68]; exact (W65.size ▸ s53)
  have s68 : n0 ≤ h68.size := Nat.le_trans (W65.size ▸ s53) E68.1
  have KT81 := ((KT64.ext E53).wr W65 (Or.inl (mi 0 rfl)))
  have y68 : h0.size ≤ a68 := by rw [z68]; exact KT81.1
  refine c68 ?_
  have F83 := (Fld.ext E68 (Fld.other W65 (Fld.ext E53 (Fld.other W50 (Fld.ext E40 (Fld.other W37 (Fld.ext E29 (Fld.other W26 (Fld.ext E20 (Fld.other W17 (Fld.ext E13 (Fld.other W10 (Fld.other W7 (Fld.other W3 G8 (Or.inr (sn28 hw))) (Or.inr (sn29 hw))) (Or.inr (sn30 hw)))) (Or.inr (sn31 hw)))) (Or.inr (sn32 hw)))) (Or.inr (sn33 hw)))) (Or.inr (sn34 hw)))) (Or.inr (sn35 hw))))
  have F84 := (Exa.ext E68 F69)
  obtain ⟨T82, h82, L82, B82, N82, W82, c82⟩ := o_putfield B68 N65 ga 236 239 (v := (.ref a68)) d2_236 rfl (host := "") (Or.inl (hw _ (mi 56 rfl))) Via.refl F83 F84 (Or.inr ⟨(hw _ (mi 57 rfl)), rfl, hnm⟩) (hw _ (mi 16 rfl)) (ty := (.array .int)) (by decide) rfl rfl (Ls := #[vr a, vi xW, vi 0, vi xG, vi 4, vi 2, vi 2, vj (xG.toInt64 * (6 : Int64)), s2, us, us, us, us, us, us, us, us]) (rest := [])
  have F82 : Fld Z h82 a "com/example/hyperplane/hyperplane/Blocks" "blockOffsets" "[I" (.ref a68) := Fld.same W82 F83
  refine c82 ?_
  refine o_aloadN B82 239 240 (v := (.ref a)) d2_239 rfl rfl rfl ?_
  refine o_iloadN B82 240 241 (v := xG) d2_240 rfl rfl ?_
  refine o_iload B82 241 243 (v := (4 : Int32)) d2_241 rfl rfl ?_
  refine o_imul B82 243 244 d2_243 rfl ?_
  obtain ⟨a85, T85, h85, z85, B85, E85, A85, c85⟩ := o_newI B82 244 246 (ty := .int) (z := (xG * (4 : Int32))) (xG.toInt.toNat * 4) 12 (hw _ (mi 44 rfl)) d2_244 rfl rfl rfl hgp.1 hgp.2 (Nat.mul_le_mul_right _ hl.1) (by decide) (by decide) (by decide) (Ls := #[vr a, vi xW, vi 0, vi xG, vi 4, vi 2, vi 2, vj (xG.toInt64 * (6 : Int64)), s2, us, us, us, us, us, us, us, us]) (rest := [(.ref a)])
  have F86 := (Exa.wr W82 F84)
  have lt87 : (a : Nat) < a85 := by rw [z85]; exact F86.lt
  have F88 := ((F71.ext E68).other W82 (Ne.symm (Nat.ne_of_lt lt15)))
  have lt89 : (a13 : Nat) < a85 := by rw [z85]; exact F88.lt
  have F90 := ((F73.ext E68).other W82 (Ne.symm (Nat.ne_of_lt lt22)))
  have lt91 : (a20 : Nat) < a85 := by rw [z85]; exact F90.lt
  have F92 := ((F75.ext E68).other W82 (Ne.symm (Nat.ne_of_lt lt31)))
  have lt93 : (a29 : Nat) < a85 := by rw [z85]; exact F92.lt
  have F94 := ((F77.ext E68).other W82 (Ne.symm (Nat.ne_of_lt lt42)))
  have lt95 : (a40 : Nat) < a85 := by rw [z85]; exact F94.lt
  have F96 := ((F79.ext E68).other W82 (Ne.symm (Nat.ne_of_lt lt55)))
  have lt97 : (a53 : Nat) < a85 := by rw [z85]; exact F96.lt
  have F98 := (A68.other W82 (Ne.symm (Nat.ne_of_lt lt70)))
  have lt99 : (a68 : Nat) < a85 := by rw [z85]; exact F98.lt
  have g85 : n0 ≤ a85 := by rw [z85]; exact (W82.size ▸ s68)
  have s85 : n0 ≤ h85.size := Nat.le_trans (W82.size ▸ s68) E85.1
  have KT100 := ((KT81.ext E68).wr W82 (Or.inl (mi 0 rfl)))
  have y85 : h0.size ≤ a85 := by rw [z85]; exact KT100.1
  refine c85 ?_
  have F102 := (Fld.ext E85 (Fld.other W82 (Fld.ext E68 (Fld.other W65 (Fld.ext E53 (Fld.other W50 (Fld.ext E40 (Fld.other W37 (Fld.ext E29 (Fld.other W26 (Fld.ext E20 (Fld.other W17 (Fld.ext E13 (Fld.other W10 (Fld.other W7 (Fld.other W3 G9 (Or.inr (sn36 hw))) (Or.inr (sn37 hw))) (Or.inr (sn38 hw)))) (Or.inr (sn39 hw)))) (Or.inr (sn40 hw)))) (Or.inr (sn41 hw)))) (Or.inr (sn42 hw)))) (Or.inr (sn43 hw)))) (Or.inr (sn44 hw))))
  have F103 := (Exa.ext E85 F86)
  obtain ⟨T101, h101, L101, B101, N101, W101, c101⟩ := o_putfield B85 N82 ga 246 249 (v := (.ref a85)) d2_246 rfl (host := "") (Or.inl (hw _ (mi 58 rfl))) Via.refl F102 F103 (Or.inr ⟨(hw _ (mi 59 rfl)), rfl, hnm⟩) (hw _ (mi 16 rfl)) (ty := (.array .int)) (by decide) rfl rfl (Ls := #[vr a, vi xW, vi 0, vi xG, vi 4, vi 2, vi 2, vj (xG.toInt64 * (6 : Int64)), s2, us, us, us, us, us, us, us, us]) (rest := [])
  have F101 : Fld Z h101 a "com/example/hyperplane/hyperplane/Blocks" "blockWidths" "[I" (.ref a85) := Fld.same W101 F102
  refine c101 ?_
  refine o_aloadN B101 249 250 (v := (.ref a)) d2_249 rfl rfl rfl ?_
  refine o_iloadN B101 250 251 (v := xG) d2_250 rfl rfl ?_
  refine o_iload B101 251 253 (v := (4 : Int32)) d2_251 rfl rfl ?_
  refine o_imul B101 253 254 d2_253 rfl ?_
  obtain ⟨a104, T104, h104, z104, B104, E104, A104, c104⟩ := o_newJ B101 254 256 (z := (xG * (4 : Int32))) (xG.toInt.toNat * 4) 12 (hw _ (mi 51 rfl)) d2_254 rfl rfl hgp.1 hgp.2 (Nat.mul_le_mul_right _ hl.1) (by decide) (by decide) (by decide) (Ls := #[vr a, vi xW, vi 0, vi xG, vi 4, vi 2, vi 2, vj (xG.toInt64 * (6 : Int64)), s2, us, us, us, us, us, us, us, us]) (rest := [(.ref a)])
  have F105 := (Exa.wr W101 F103)
  have lt106 : (a : Nat) < a104 := by rw [z104]; exact F105.lt
  have F107 := ((F88.ext E85).other W101 (Ne.symm (Nat.ne_of_lt lt15)))
  have lt108 : (a13 : Nat) < a104 := by rw [z104]; exact F107.lt
  have F109 := ((F90.ext E85).other W101 (Ne.symm (Nat.ne_of_lt lt22)))
  have lt110 : (a20 : Nat) < a104 := by rw [z104]; exact F109.lt
  have F111 := ((F92.ext E85).other W101 (Ne.symm (Nat.ne_of_lt lt31)))
  have lt112 : (a29 : Nat) < a104 := by rw [z104]; exact F111.lt
  have F113 := ((F94.ext E85).other W101 (Ne.symm (Nat.ne_of_lt lt42)))
  have lt114 : (a40 : Nat) < a104 := by rw [z104]; exact F113.lt
  have F115 := ((F96.ext E85).other W101 (Ne.symm (Nat.ne_of_lt lt55)))
  have lt116 : (a53 : Nat) < a104 := by rw [z104]; exact F115.lt
  have F117 := ((F98.ext E85).other W101 (Ne.symm (Nat.ne_of_lt lt70)))
  have lt118 : (a68 : Nat) < a104 := by rw [z104]; exact F117.lt
  have F119 := (A85.other W101 (Ne.symm (Nat.ne_of_lt lt87)))
  have lt120 : (a85 : Nat) < a104 := by rw [z104]; exact F119.lt
  have g104 : n0 ≤ a104 := by rw [z104]; exact (W101.size ▸ s85)
  have s104 : n0 ≤ h104.size := Nat.le_trans (W101.size ▸ s85) E104.1
  have KT121 := ((KT100.ext E85).wr W101 (Or.inl (mi 0 rfl)))
  have y104 : h0.size ≤ a104 := by rw [z104]; exact KT121.1
  refine c104 ?_
  have F123 := (Fld.ext E104 (Fld.other W101 (Fld.ext E85 (Fld.other W82 (Fld.ext E68 (Fld.other W65 (Fld.ext E53 (Fld.other W50 (Fld.ext E40 (Fld.other W37 (Fld.ext E29 (Fld.other W26 (Fld.ext E20 (Fld.other W17 (Fld.ext E13 (Fld.other W10 (Fld.other W7 (Fld.other W3 G10 (Or.inr (sn45 hw))) (Or.inr (sn46 hw))) (Or.inr (sn47 hw)))) (Or.inr (sn48 hw)))) (Or.inr (sn49 hw)))) (Or.inr (sn50 hw)))) (Or.inr (sn51 hw)))) (Or.inr (sn52 hw)))) (Or.inr (sn53 hw)))) (Or.inr (sn54 hw))))
  have F124 := (Exa.ext E104 F105)
  obtain ⟨T122, h122, L122, B122, N122, W122, c122⟩ := o_putfield B104 N101 ga 256 259 (v := (.ref a104)) d2_256 rfl (host := "") (Or.inl (hw _ (mi 60 rfl))) Via.refl F123 F124 (Or.inr ⟨(hw _ (mi 61 rfl)), rfl, hnm⟩) (hw _ (mi 16 rfl)) (ty := (.array .long)) (by decide) rfl rfl (Ls := #[vr a, vi xW, vi 0, vi xG, vi 4, vi 2, vi 2, vj (xG.toInt64 * (6 : Int64)), s2, us, us, us, us, us, us, us, us]) (rest := [])
  have F122 : Fld Z h122 a "com/example/hyperplane/hyperplane/Blocks" "blockMasks" "[J" (.ref a104) := Fld.same W122 F123
  refine c122 ?_
  refine o_iconst B122 259 260 (0 : Int32) d2_259 rfl (by decide) ?_
  refine o_istore B122 260 262 (l' := #[vr a, vi xW, vi 0, vi xG, vi 4, vi 2, vi 2, vj (xG.toInt64 * (6 : Int64)), s2, vi 0, us, us, us, us, us, us, us]) d2_260 rfl rfl ?_
  refine o_iconst B122 262 263 (0 : Int32) d2_262 rfl (by decide) ?_
  refine o_istore B122 263 265 (l' := #[vr a, vi xW, vi 0, vi xG, vi 4, vi 2, vi 2, vj (xG.toInt64 * (6 : Int64)), s2, vi 0, vi 0, us, us, us, us, us, us]) d2_263 rfl rfl ?_
  have F125 := (Exa.wr W122 F124)
  have F126 := (Fld.other W122 (Fld.ext E104 (Fld.other W101 (Fld.ext E85 (Fld.other W82 (Fld.ext E68 (Fld.other W65 (Fld.ext E53 (Fld.other W50 (Fld.ext E40 (Fld.other W37 (Fld.ext E29 (Fld.other W26 (Fld.ext E20 F17) (Or.inr (sn55 hw)))) (Or.inr (sn56 hw)))) (Or.inr (sn57 hw)))) (Or.inr (sn58 hw)))) (Or.inr (sn59 hw)))) (Or.inr (sn60 hw)))) (Or.inr (sn61 hw)))
  have F127 := (Fld.other W122 (Fld.ext E104 (Fld.other W101 (Fld.ext E85 (Fld.other W82 (Fld.ext E68 (Fld.other W65 (Fld.ext E53 (Fld.other W50 (Fld.ext E40 (Fld.other W37 (Fld.ext E29 F26) (Or.inr (sn62 hw)))) (Or.inr (sn63 hw)))) (Or.inr (sn64 hw)))) (Or.inr (sn65 hw)))) (Or.inr (sn66 hw)))) (Or.inr (sn67 hw)))
  have F128 := (Fld.other W122 (Fld.ext E104 (Fld.other W101 (Fld.ext E85 (Fld.other W82 (Fld.ext E68 (Fld.other W65 (Fld.ext E53 (Fld.other W50 (Fld.ext E40 F37) (Or.inr (sn68 hw)))) (Or.inr (sn69 hw)))) (Or.inr (sn70 hw)))) (Or.inr (sn71 hw)))) (Or.inr (sn72 hw)))
  have F129 := (Fld.other W122 (Fld.ext E104 (Fld.other W101 (Fld.ext E85 (Fld.other W82 (Fld.ext E68 (Fld.other W65 (Fld.ext E53 F50) (Or.inr (sn73 hw)))) (Or.inr (sn74 hw)))) (Or.inr (sn75 hw)))) (Or.inr (sn76 hw)))
  have F130 := (Fld.other W122 (Fld.ext E104 (Fld.other W101 (Fld.ext E85 (Fld.other W82 (Fld.ext E68 F65) (Or.inr (sn77 hw)))) (Or.inr (sn78 hw)))) (Or.inr (sn79 hw)))
  have F131 := (Fld.other W122 (Fld.ext E104 (Fld.other W101 (Fld.ext E85 F82) (Or.inr (sn80 hw)))) (Or.inr (sn81 hw)))
  have F132 := (Fld.other W122 (Fld.ext E104 F101) (Or.inr (sn82 hw)))
  have F133 := ((F107.ext E104).other W122 (Ne.symm (Nat.ne_of_lt lt15)))
  have F134 := ((F109.ext E104).other W122 (Ne.symm (Nat.ne_of_lt lt22)))
  have F135 := ((F111.ext E104).other W122 (Ne.symm (Nat.ne_of_lt lt31)))
  have F136 := ((F113.ext E104).other W122 (Ne.symm (Nat.ne_of_lt lt42)))
  have F137 := ((F115.ext E104).other W122 (Ne.symm (Nat.ne_of_lt lt55)))
  have F138 := ((F117.ext E104).other W122 (Ne.symm (Nat.ne_of_lt lt70)))
  have F139 := ((F119.ext E104).other W122 (Ne.symm (Nat.ne_of_lt lt87)))
  have F140 := (A104.other W122 (Ne.symm (Nat.ne_of_lt lt106)))
  refine lpO_4 a0 hw xW xG (2 : Int32) (2 : Int32) (xG.toInt64 * (6 : Int64)) a a13 a20 a29 a40 a53 a68 a85 a104 lt15 lt24 lt35 lt48 lt63 lt80 lt99 lt120 ga hp ⟨by omega, hl.2.1⟩ xG.toInt.toNat 0 _ _ _ _ _ _ _ _ _ _ _ _ (Nat.zero_add _) One.u One.u One.u One.u One.u One.u B122 N122 (W122.size ▸ s104) F125 F126 F127 F128 F129 F130 F131 F132 F122 F133 (F134.alt (fun j _ => if_neg (by omega))) (F135.alt (fun j _ => if_neg (by omega))) (F136.alt (fun j _ => if_neg (by omega))) (F137.alt (fun j _ => if_neg (by omega))) F138 F139 (F140.alt (fun j _ => if_neg (by omega))) (fun T9 h9 L9 s9 i9 u11 u12 u13 u14 u15 u16 e11 e12 e13 e14 e15 e16 g1 g6 g7 B9 N9 K9 C_gw C_fw C_sh C_lm C_hm C_bo C_bw C_bm => ?_)
  have z9 : n0 ≤ h9.size := Nat.le_trans (W122.size ▸ s104) K9.1
  refine o_aloadN B9 515 516 (v := (.ref a)) d2_515 rfl rfl rfl ?_
  refine o_lload B9 516 518 (v := (xG.toInt64 * (6 : Int64))) d2_516 rfl rfl ?_
  refine o_iloadN B9 518 519 (v := xG) d2_518 rfl rfl ?_
  refine o_i2l B9 519 520 d2_519 rfl ?_
  refine o_ldiv B9 520 521 d2_520 rfl (own_gz hp) ?_
  refine o_topJ (own_tg hp 6 6 (by decide) (by decide) (by decide)) ?_
  refine o_l2i B9 521 522 d2_521 rfl ?_
  refine o_topI (show (6 : Int64).toInt32 = (6 : Int32) by decide) ?_
  obtain ⟨a141, T141, h141, z141, B141, E141, A141, c141⟩ := o_newJ B9 522 524 (z := (6 : Int32)) 6 6 (hw _ (mi 51 rfl)) d2_522 rfl rfl (by decide) (by decide) (by decide) (by decide) (by decide) (by decide) (Ls := #[vr a, vi xW, vi 0, vi xG, vi 4, vi 2, vi 2, vj (xG.toInt64 * (6 : Int64)), s2, vi s9, vi i9, u11, u12, u13, u14, u15, u16]) (rest := [(.ref a)])
  have F142 := (F125.keep K9)
  have lt143 : (a : Nat) < a141 := by rw [z141]; exact F142.lt
  have lt144 : (a13 : Nat) < a141 := by rw [z141]; exact C_gw.lt
  have lt145 : (a20 : Nat) < a141 := by rw [z141]; exact C_fw.lt
  have lt146 : (a29 : Nat) < a141 := by rw [z141]; exact C_sh.lt
  have lt147 : (a40 : Nat) < a141 := by rw [z141]; exact C_lm.lt
  have lt148 : (a53 : Nat) < a141 := by rw [z141]; exact C_hm.lt
  have lt149 : (a68 : Nat) < a141 := by rw [z141]; exact C_bo.lt
  have lt150 : (a85 : Nat) < a141 := by rw [z141]; exact C_bw.lt
  have lt151 : (a104 : Nat) < a141 := by rw [z141]; exact C_bm.lt
  have g141 : n0 ≤ a141 := by rw [z141]; exact z9
  have s141 : n0 ≤ h141.size := Nat.le_trans z9 E141.1
  have KT152 := (((KT121.ext E104).wr W122 (Or.inl (mi 0 rfl))).trans K9 (allS (Or.inr y13) (allS (Or.inr y20) (allS (Or.inr y29) (allS (Or.inr y40) (allS (Or.inr y53) (allS (Or.inr y68) (allS (Or.inr y85) (allS (Or.inr y104) all0)))))))))
  have y141 : h0.size ≤ a141 := by rw [z141]; exact KT152.1
  refine c141 ?_
  have F154 := (Fld.ext E141 ((Fld.other W122 (Fld.ext E104 (Fld.other W101 (Fld.ext E85 (Fld.other W82 (Fld.ext E68 (Fld.other W65 (Fld.ext E53 (Fld.other W50 (Fld.ext E40 (Fld.other W37 (Fld.ext E29 (Fld.other W26 (Fld.ext E20 (Fld.other W17 (Fld.ext E13 (Fld.other W10 (Fld.other W7 (Fld.other W3 G11 (Or.inr (sn83 hw))) (Or.inr (sn84 hw))) (Or.inr (sn85 hw)))) (Or.inr (sn86 hw)))) (Or.inr (sn87 hw)))) (Or.inr (sn88 hw)))) (Or.inr (sn89 hw)))) (Or.inr (sn90 hw)))) (Or.inr (sn91 hw)))) (Or.inr (sn92 hw)))) (Or.inr (sn93 hw))).keep K9 (ninS (Nat.ne_of_lt lt15) (ninS (Nat.ne_of_lt lt22) (ninS (Nat.ne_of_lt lt31) (ninS (Nat.ne_of_lt lt42) (ninS (Nat.ne_of_lt lt55) (ninS (Nat.ne_of_lt lt70) (ninS (Nat.ne_of_lt lt87) (ninS (Nat.ne_of_lt lt106) nin0))))))))))
  have F155 := (Exa.ext E141 F142)
  obtain ⟨T153, h153, L153, B153, N153, W153, c153⟩ := o_putfield B141 N9 ga 524 527 (v := (.ref a141)) d2_524 rfl (host := "") (Or.inl (hw _ (mi 62 rfl))) Via.refl F154 F155 (Or.inr ⟨(hw _ (mi 63 rfl)), rfl, hnm⟩) (hw _ (mi 16 rfl)) (ty := (.array .long)) (by decide) rfl rfl (Ls := #[vr a, vi xW, vi 0, vi xG, vi 4, vi 2, vi 2, vj (xG.toInt64 * (6 : Int64)), s2, vi s9, vi i9, u11, u12, u13, u14, u15, u16]) (rest := [])
  have F153 : Fld Z h153 a "com/example/hyperplane/hyperplane/Blocks" "keys" "[J" (.ref a141) := Fld.same W153 F154
  refine c153 ?_
  refine o_iload B153 527 529 (v := (2 : Int32)) d2_527 rfl rfl ?_
  refine o_bipush B153 529 531 (64 : Int32) d2_529 rfl (by decide) ?_
  refine o_icY B153 531 538 d2_531 (XT.ii_ne_t (by decide)) (by decide) (by decide) ?_
  refine o_lconst B153 538 539 (1 : Int64) d2_538 rfl (by decide) ?_
  refine o_iload B153 539 541 (v := (2 : Int32)) d2_539 rfl rfl ?_
  refine o_lshl B153 541 542 d2_541 rfl ?_
  refine o_topJ (show ((1 : Int64) <<< ((2 : Int32).toInt64 &&& 63)) = (4 : Int64) by decide) ?_
  refine o_lconst B153 542 543 (1 : Int64) d2_542 rfl (by decide) ?_
  refine o_lsub B153 543 544 d2_543 rfl ?_
  refine o_topJ (show ((4 : Int64) - (1 : Int64)) = (3 : Int64) by decide) ?_
  refine o_lstore B153 544 546 (l' := #[vr a, vi xW, vi 0, vi xG, vi 4, vi 2, vi 2, vj (xG.toInt64 * (6 : Int64)), s2, vi s9, vj 3, s2, u12, u13, u14, u15, u16]) d2_544 rfl (st2 rfl (One.val rfl) rfl e11 rfl) ?_
  refine o_iconst B153 546 547 (0 : Int32) d2_546 rfl (by decide) ?_
  refine o_istore B153 547 549 (l' := #[vr a, vi xW, vi 0, vi xG, vi 4, vi 2, vi 2, vj (xG.toInt64 * (6 : Int64)), s2, vi s9, vj 3, s2, vi 0, u13, u14, u15, u16]) d2_547 rfl (st1 rfl e12 rfl rfl) ?_
  refine o_iload B153 549 551 (v := (0 : Int32)) d2_549 rfl rfl ?_
  refine o_aloadN B153 551 552 (v := (.ref a)) d2_551 rfl rfl rfl ?_
  obtain ⟨T156, B156, c156⟩ := o_getfield B153 552 555 d2_552 rfl (host := "") (Or.inl (hw _ (mi 62 rfl))) Via.refl F153 (Ls := #[vr a, vi xW, vi 0, vi xG, vi 4, vi 2, vi 2, vj (xG.toInt64 * (6 : Int64)), s2, vi s9, vj 3, s2, vi 0, u13, u14, u15, u16]) (rest := [(.int (0 : Int32))])
  refine c156 ?_
  have F158 := (A141.other W153 (Ne.symm (Nat.ne_of_lt lt143)))
  refine o_alenJ B156 555 556 F158 (6 : Int32) d2_555 rfl (by decide) ?_
  refine o_icN B156 556 559 d2_556 rfl (XT.ii_ge_f (by decide)) ?_
  refine o_aloadN B156 559 560 (v := (.ref a)) d2_559 rfl rfl rfl ?_
  obtain ⟨T159, B159, c159⟩ := o_getfield B156 560 563 d2_560 rfl (host := "") (Or.inl (hw _ (mi 62 rfl))) Via.refl F153 (Ls := #[vr a, vi xW, vi 0, vi xG, vi 4, vi 2, vi 2, vj (xG.toInt64 * (6 : Int64)), s2, vi s9, vj 3, s2, vi 0, u13, u14, u15, u16]) (rest := [])
  refine c159 ?_
  refine o_iload B159 563 565 (v := (0 : Int32)) d2_563 rfl rfl ?_
  refine o_lload B159 565 567 (v := (3 : Int64)) d2_565 rfl rfl ?_
  obtain ⟨T160, h160, L160, B160, N160, W160, Q160, c160⟩ := o_lastore B159 N153 g141 567 568 F158 (j := (0 : Int32)) (x := (3 : Int64)) 0 (3 : Int64) d2_567 rfl (by decide) (by decide) (by decide) rfl (Ls := #[vr a, vi xW, vi 0, vi xG, vi 4, vi 2, vi 2, vj (xG.toInt64 * (6 : Int64)), s2, vi s9, vj 3, s2, vi 0, u13, u14, u15, u16]) (rest := [])
  have A160 : AJ Z h160 a141 6 (w2_4_2c_1 xW xG) := Q160
  refine c160 ?_
  refine o_lload B160 568 570 (v := (3 : Int64)) d2_568 rfl rfl ?_
  refine o_lload B160 570 572 (v := (3 : Int64)) d2_570 rfl rfl ?_
  refine o_lneg B160 572 573 d2_572 rfl ?_
  refine o_topJ (show (-(3 : Int64)) = (-3 : Int64) by decide) ?_
  refine o_land B160 573 574 d2_573 rfl ?_
  refine o_topJ (show ((3 : Int64) &&& (-3 : Int64)) = (1 : Int64) by decide) ?_
  refine o_lstore B160 574 576 (l' := #[vr a, vi xW, vi 0, vi xG, vi 4, vi 2, vi 2, vj (xG.toInt64 * (6 : Int64)), s2, vi s9, vj 3, s2, vi 0, vj 1, s2, u15, u16]) d2_574 rfl (st2 rfl e13 rfl e14 rfl) ?_
  refine o_lload B160 576 578 (v := (3 : Int64)) d2_576 rfl rfl ?_
  refine o_lload B160 578 580 (v := (1 : Int64)) d2_578 rfl rfl ?_
  refine o_ladd B160 580 581 d2_580 rfl ?_
  refine o_topJ (show ((3 : Int64) + (1 : Int64)) = (4 : Int64) by decide) ?_
  refine o_lstore B160 581 583 (l' := #[vr a, vi xW, vi 0, vi xG, vi 4, vi 2, vi 2, vj (xG.toInt64 * (6 : Int64)), s2, vi s9, vj 3, s2, vi 0, vj 1, s2, vj 4, s2]) d2_581 rfl (st2 rfl e15 rfl e16 rfl) ?_
  refine o_lload B160 583 585 (v := (4 : Int64)) d2_583 rfl rfl ?_
  refine o_lload B160 585 587 (v := (3 : Int64)) d2_585 rfl rfl ?_
  refine o_lload B160 587 589 (v := (4 : Int64)) d2_587 rfl rfl ?_
  refine o_lxor B160 589 590 d2_589 rfl ?_
  refine o_topJ (show ((3 : Int64) ^^^ (4 : Int64)) = (7 : Int64) by decide) ?_
  refine o_iconst B160 590 591 (2 : Int32) d2_590 rfl (by decide) ?_
  refine o_lushr B160 591 592 d2_591 rfl ?_
  refine o_topJ (show (XT.ushrL (7 : Int64) (2 : Int32)) = (1 : Int64) by decide) ?_
  refine o_lload B160 592 594 (v := (1 : Int64)) d2_592 rfl rfl ?_
  refine o_ldiv B160 594 595 d2_594 rfl (by decide) ?_
  refine o_topJ (show ((1 : Int64) / (1 : Int64)) = (1 : Int64) by decide) ?_
  refine o_lor B160 595 596 d2_595 rfl ?_
  refine o_topJ (show ((4 : Int64) ||| (1 : Int64)) = (5 : Int64) by decide) ?_
  refine o_lstore B160 596 598 (l' := #[vr a, vi xW, vi 0, vi xG, vi 4, vi 2, vi 2, vj (xG.toInt64 * (6 : Int64)), s2, vi s9, vj 5, s2, vi 0, vj 1, s2, vj 4, s2]) d2_596 rfl rfl ?_
  refine o_iincC B160 598 601 (l' := #[vr a, vi xW, vi 0, vi xG, vi 4, vi 2, vi 2, vj (xG.toInt64 * (6 : Int64)), s2, vi s9, vj 5, s2, vi 1, vj 1, s2, vj 4, s2]) (1 : Int32) (1 : Int32) d2_598 rfl (by decide) rfl (by decide) rfl ?_
  refine o_goto B160 601 549 d2_601 (by decide) (by decide) ?_
  refine o_iload B160 549 551 (v := (1 : Int32)) d2_549 rfl rfl ?_
  refine o_aloadN B160 551 552 (v := (.ref a)) d2_551 rfl rfl rfl ?_
  have F162 := (Fld.other W160 F153 (Or.inl (Nat.ne_of_lt lt143)))
  obtain ⟨T161, B161, c161⟩ := o_getfield B160 552 555 d2_552 rfl (host := "") (Or.inl (hw _ (mi 62 rfl))) Via.refl F162 (Ls := #[vr a, vi xW, vi 0, vi xG, vi 4, vi 2, vi 2, vj (xG.toInt64 * (6 : Int64)), s2, vi s9, vj 5, s2, vi 1, vj 1, s2, vj 4, s2]) (rest := [(.int (1 : Int32))])
  refine c161 ?_
  refine o_alenJ B161 555 556 A160 (6 : Int32) d2_555 rfl (by decide) ?_
  refine o_icN B161 556 559 d2_556 rfl (XT.ii_ge_f (by decide)) ?_
  refine o_aloadN B161 559 560 (v := (.ref a)) d2_559 rfl rfl rfl ?_
  obtain ⟨T164, B164, c164⟩ := o_getfield B161 560 563 d2_560 rfl (host := "") (Or.inl (hw _ (mi 62 rfl))) Via.refl F162 (Ls := #[vr a, vi xW, vi 0, vi xG, vi 4, vi 2, vi 2, vj (xG.toInt64 * (6 : Int64)), s2, vi s9, vj 5, s2, vi 1, vj 1, s2, vj 4, s2]) (rest := [])
  refine c164 ?_
  refine o_iload B164 563 565 (v := (1 : Int32)) d2_563 rfl rfl ?_
  refine o_lload B164 565 567 (v := (5 : Int64)) d2_565 rfl rfl ?_
  obtain ⟨T165, h165, L165, B165, N165, W165, Q165, c165⟩ := o_lastore B164 N160 g141 567 568 A160 (j := (1 : Int32)) (x := (5 : Int64)) 1 (5 : Int64) d2_567 rfl (by decide) (by decide) (by decide) rfl (Ls := #[vr a, vi xW, vi 0, vi xG, vi 4, vi 2, vi 2, vj (xG.toInt64 * (6 : Int64)), s2, vi s9, vj 5, s2, vi 1, vj 1, s2, vj 4, s2]) (rest := [])
  have A165 : AJ Z h165 a141 6 (w2_4_2c_2 xW xG) := Q165
  refine c165 ?_
  refine o_lload B165 568 570 (v := (5 : Int64)) d2_568 rfl rfl ?_
  refine o_lload B165 570 572 (v := (5 : Int64)) d2_570 rfl rfl ?_
  refine o_lneg B165 572 573 d2_572 rfl ?_
  refine o_topJ (show (-(5 : Int64)) = (-5 : Int64) by decide) ?_
  refine o_land B165 573 574 d2_573 rfl ?_
  refine o_topJ (show ((5 : Int64) &&& (-5 : Int64)) = (1 : Int64) by decide) ?_
  refine o_lstore B165 574 576 (l' := #[vr a, vi xW, vi 0, vi xG, vi 4, vi 2, vi 2, vj (xG.toInt64 * (6 : Int64)), s2, vi s9, vj 5, s2, vi 1, vj 1, s2, vj 4, s2]) d2_574 rfl rfl ?_
  refine o_lload B165 576 578 (v := (5 : Int64)) d2_576 rfl rfl ?_
  refine o_lload B165 578 580 (v := (1 : Int64)) d2_578 rfl rfl ?_
  refine o_ladd B165 580 581 d2_580 rfl ?_
  refine o_topJ (show ((5 : Int64) + (1 : Int64)) = (6 : Int64) by decide) ?_
  refine o_lstore B165 581 583 (l' := #[vr a, vi xW, vi 0, vi xG, vi 4, vi 2, vi 2, vj (xG.toInt64 * (6 : Int64)), s2, vi s9, vj 5, s2, vi 1, vj 1, s2, vj 6, s2]) d2_581 rfl rfl ?_
  refine o_lload B165 583 585 (v := (6 : Int64)) d2_583 rfl rfl ?_
  refine o_lload B165 585 587 (v := (5 : Int64)) d2_585 rfl rfl ?_
  refine o_lload B165 587 589 (v := (6 : Int64)) d2_587 rfl rfl ?_
  refine o_lxor B165 589 590 d2_589 rfl ?_
  refine o_topJ (show ((5 : Int64) ^^^ (6 : Int64)) = (3 : Int64) by decide) ?_
  refine o_iconst B165 590 591 (2 : Int32) d2_590 rfl (by decide) ?_
  refine o_lushr B165 591 592 d2_591 rfl ?_
  refine o_topJ (show (XT.ushrL (3 : Int64) (2 : Int32)) = (0 : Int64) by decide) ?_
  refine o_lload B165 592 594 (v := (1 : Int64)) d2_592 rfl rfl ?_
  refine o_ldiv B165 594 595 d2_594 rfl (by decide) ?_
  refine o_topJ (show ((0 : Int64) / (1 : Int64)) = (0 : Int64) by decide) ?_
  refine o_lor B165 595 596 d2_595 rfl ?_
  refine o_topJ (show ((6 : Int64) ||| (0 : Int64)) = (6 : Int64) by decide) ?_
  refine o_lstore B165 596 598 (l' := #[vr a, vi xW, vi 0, vi xG, vi 4, vi 2, vi 2, vj (xG.toInt64 * (6 : Int64)), s2, vi s9, vj 6, s2, vi 1, vj 1, s2, vj 6, s2]) d2_596 rfl rfl ?_
  refine o_iincC B165 598 601 (l' := #[vr a, vi xW, vi 0, vi xG, vi 4, vi 2, vi 2, vj (xG.toInt64 * (6 : Int64)), s2, vi s9, vj 6, s2, vi 2, vj 1, s2, vj 6, s2]) (1 : Int32) (2 : Int32) d2_598 rfl (by decide) rfl (by decide) rfl ?_
  refine o_goto B165 601 549 d2_601 (by decide) (by decide) ?_
  refine o_iload B165 549 551 (v := (2 : Int32)) d2_549 rfl rfl ?_
  refine o_aloadN B165 551 552 (v := (.ref a)) d2_551 rfl rfl rfl ?_
  have F167 := (Fld.other W165 F162 (Or.inl (Nat.ne_of_lt lt143)))
  obtain ⟨T166, B166, c166⟩ := o_getfield B165 552 555 d2_552 rfl (host := "") (Or.inl (hw _ (mi 62 rfl))) Via.refl F167 (Ls := #[vr a, vi xW, vi 0, vi xG, vi 4, vi 2, vi 2, vj (xG.toInt64 * (6 : Int64)), s2, vi s9, vj 6, s2, vi 2, vj 1, s2, vj 6, s2]) (rest := [(.int (2 : Int32))])
  refine c166 ?_
  refine o_alenJ B166 555 556 A165 (6 : Int32) d2_555 rfl (by decide) ?_
  refine o_icN B166 556 559 d2_556 rfl (XT.ii_ge_f (by decide)) ?_
  refine o_aloadN B166 559 560 (v := (.ref a)) d2_559 rfl rfl rfl ?_
  obtain ⟨T169, B169, c169⟩ := o_getfield B166 560 563 d2_560 rfl (host := "") (Or.inl (hw _ (mi 62 rfl))) Via.refl F167 (Ls := #[vr a, vi xW, vi 0, vi xG, vi 4, vi 2, vi 2, vj (xG.toInt64 * (6 : Int64)), s2, vi s9, vj 6, s2, vi 2, vj 1, s2, vj 6, s2]) (rest := [])
  refine c169 ?_
  refine o_iload B169 563 565 (v := (2 : Int32)) d2_563 rfl rfl ?_
  refine o_lload B169 565 567 (v := (6 : Int64)) d2_565 rfl rfl ?_
  obtain ⟨T170, h170, L170, B170, N170, W170, Q170, c170⟩ := o_lastore B169 N165 g141 567 568 A165 (j := (2 : Int32)) (x := (6 : Int64)) 2 (6 : Int64) d2_567 rfl (by decide) (by decide) (by decide) rfl (Ls := #[vr a, vi xW, vi 0, vi xG, vi 4, vi 2, vi 2, vj (xG.toInt64 * (6 : Int64)), s2, vi s9, vj 6, s2, vi 2, vj 1, s2, vj 6, s2]) (rest := [])
  have A170 : AJ Z h170 a141 6 (w2_4_2c_3 xW xG) := Q170
  refine c170 ?_
  refine o_lload B170 568 570 (v := (6 : Int64)) d2_568 rfl rfl ?_
  refine o_lload B170 570 572 (v := (6 : Int64)) d2_570 rfl rfl ?_
  refine o_lneg B170 572 573 d2_572 rfl ?_
  refine o_topJ (show (-(6 : Int64)) = (-6 : Int64) by decide) ?_
  refine o_land B170 573 574 d2_573 rfl ?_
  refine o_topJ (show ((6 : Int64) &&& (-6 : Int64)) = (2 : Int64) by decide) ?_
  refine o_lstore B170 574 576 (l' := #[vr a, vi xW, vi 0, vi xG, vi 4, vi 2, vi 2, vj (xG.toInt64 * (6 : Int64)), s2, vi s9, vj 6, s2, vi 2, vj 2, s2, vj 6, s2]) d2_574 rfl rfl ?_
  refine o_lload B170 576 578 (v := (6 : Int64)) d2_576 rfl rfl ?_
  refine o_lload B170 578 580 (v := (2 : Int64)) d2_578 rfl rfl ?_
  refine o_ladd B170 580 581 d2_580 rfl ?_
  refine o_topJ (show ((6 : Int64) + (2 : Int64)) = (8 : Int64) by decide) ?_
  refine o_lstore B170 581 583 (l' := #[vr a, vi xW, vi 0, vi xG, vi 4, vi 2, vi 2, vj (xG.toInt64 * (6 : Int64)), s2, vi s9, vj 6, s2, vi 2, vj 2, s2, vj 8, s2]) d2_581 rfl rfl ?_
  refine o_lload B170 583 585 (v := (8 : Int64)) d2_583 rfl rfl ?_
  refine o_lload B170 585 587 (v := (6 : Int64)) d2_585 rfl rfl ?_
  refine o_lload B170 587 589 (v := (8 : Int64)) d2_587 rfl rfl ?_
  refine o_lxor B170 589 590 d2_589 rfl ?_
  refine o_topJ (show ((6 : Int64) ^^^ (8 : Int64)) = (14 : Int64) by decide) ?_
  refine o_iconst B170 590 591 (2 : Int32) d2_590 rfl (by decide) ?_
  refine o_lushr B170 591 592 d2_591 rfl ?_
  refine o_topJ (show (XT.ushrL (14 : Int64) (2 : Int32)) = (3 : Int64) by decide) ?_
  refine o_lload B170 592 594 (v := (2 : Int64)) d2_592 rfl rfl ?_
  refine o_ldiv B170 594 595 d2_594 rfl (by decide) ?_
  refine o_topJ (show ((3 : Int64) / (2 : Int64)) = (1 : Int64) by decide) ?_
  refine o_lor B170 595 596 d2_595 rfl ?_
  refine o_topJ (show ((8 : Int64) ||| (1 : Int64)) = (9 : Int64) by decide) ?_
  refine o_lstore B170 596 598 (l' := #[vr a, vi xW, vi 0, vi xG, vi 4, vi 2, vi 2, vj (xG.toInt64 * (6 : Int64)), s2, vi s9, vj 9, s2, vi 2, vj 2, s2, vj 8, s2]) d2_596 rfl rfl ?_
  refine o_iincC B170 598 601 (l' := #[vr a, vi xW, vi 0, vi xG, vi 4, vi 2, vi 2, vj (xG.toInt64 * (6 : Int64)), s2, vi s9, vj 9, s2, vi 3, vj 2, s2, vj 8, s2]) (1 : Int32) (3 : Int32) d2_598 rfl (by decide) rfl (by decide) rfl ?_
  refine o_goto B170 601 549 d2_601 (by decide) (by decide) ?_
  refine o_iload B170 549 551 (v := (3 : Int32)) d2_549 rfl rfl ?_
  refine o_aloadN B170 551 552 (v := (.ref a)) d2_551 rfl rfl rfl ?_
  have F172 := (Fld.other W170 F167 (Or.inl (Nat.ne_of_lt lt143)))
  obtain ⟨T171, B171, c171⟩ := o_getfield B170 552 555 d2_552 rfl (host := "") (Or.inl (hw _ (mi 62 rfl))) Via.refl F172 (Ls := #[vr a, vi xW, vi 0, vi xG, vi 4, vi 2, vi 2, vj (xG.toInt64 * (6 : Int64)), s2, vi s9, vj 9, s2, vi 3, vj 2, s2, vj 8, s2]) (rest := [(.int (3 : Int32))])
  refine c171 ?_
  refine o_alenJ B171 555 556 A170 (6 : Int32) d2_555 rfl (by decide) ?_
  refine o_icN B171 556 559 d2_556 rfl (XT.ii_ge_f (by decide)) ?_
  refine o_aloadN B171 559 560 (v := (.ref a)) d2_559 rfl rfl rfl ?_
  obtain ⟨T174, B174, c174⟩ := o_getfield B171 560 563 d2_560 rfl (host := "") (Or.inl (hw _ (mi 62 rfl))) Via.refl F172 (Ls := #[vr a, vi xW, vi 0, vi xG, vi 4, vi 2, vi 2, vj (xG.toInt64 * (6 : Int64)), s2, vi s9, vj 9, s2, vi 3, vj 2, s2, vj 8, s2]) (rest := [])
  refine c174 ?_
  refine o_iload B174 563 565 (v := (3 : Int32)) d2_563 rfl rfl ?_
  refine o_lload B174 565 567 (v := (9 : Int64)) d2_565 rfl rfl ?_
  obtain ⟨T175, h175, L175, B175, N175, W175, Q175, c175⟩ := o_lastore B174 N170 g141 567 568 A170 (j := (3 : Int32)) (x := (9 : Int64)) 3 (9 : Int64) d2_567 rfl (by decide) (by decide) (by decide) rfl (Ls := #[vr a, vi xW, vi 0, vi xG, vi 4, vi 2, vi 2, vj (xG.toInt64 * (6 : Int64)), s2, vi s9, vj 9, s2, vi 3, vj 2, s2, vj 8, s2]) (rest := [])
  have A175 : AJ Z h175 a141 6 (w2_4_2c_4 xW xG) := Q175
  refine c175 ?_
  refine o_lload B175 568 570 (v := (9 : Int64)) d2_568 rfl rfl ?_
  refine o_lload B175 570 572 (v := (9 : Int64)) d2_570 rfl rfl ?_
  refine o_lneg B175 572 573 d2_572 rfl ?_
  refine o_topJ (show (-(9 : Int64)) = (-9 : Int64) by decide) ?_
  refine o_land B175 573 574 d2_573 rfl ?_
  refine o_topJ (show ((9 : Int64) &&& (-9 : Int64)) = (1 : Int64) by decide) ?_
  refine o_lstore B175 574 576 (l' := #[vr a, vi xW, vi 0, vi xG, vi 4, vi 2, vi 2, vj (xG.toInt64 * (6 : Int64)), s2, vi s9, vj 9, s2, vi 3, vj 1, s2, vj 8, s2]) d2_574 rfl rfl ?_
  refine o_lload B175 576 578 (v := (9 : Int64)) d2_576 rfl rfl ?_
  refine o_lload B175 578 580 (v := (1 : Int64)) d2_578 rfl rfl ?_
  refine o_ladd B175 580 581 d2_580 rfl ?_
  refine o_topJ (show ((9 : Int64) + (1 : Int64)) = (10 : Int64) by decide) ?_
  refine o_lstore B175 581 583 (l' := #[vr a, vi xW, vi 0, vi xG, vi 4, vi 2, vi 2, vj (xG.toInt64 * (6 : Int64)), s2, vi s9, vj 9, s2, vi 3, vj 1, s2, vj 10, s2]) d2_581 rfl rfl ?_
  refine o_lload B175 583 585 (v := (10 : Int64)) d2_583 rfl rfl ?_
  refine o_lload B175 585 587 (v := (9 : Int64)) d2_585 rfl rfl ?_
  refine o_lload B175 587 589 (v := (10 : Int64)) d2_587 rfl rfl ?_
  refine o_lxor B175 589 590 d2_589 rfl ?_
  refine o_topJ (show ((9 : Int64) ^^^ (10 : Int64)) = (3 : Int64) by decide) ?_
  refine o_iconst B175 590 591 (2 : Int32) d2_590 rfl (by decide) ?_
  refine o_lushr B175 591 592 d2_591 rfl ?_
  refine o_topJ (show (XT.ushrL (3 : Int64) (2 : Int32)) = (0 : Int64) by decide) ?_
  refine o_lload B175 592 594 (v := (1 : Int64)) d2_592 rfl rfl ?_
  refine o_ldiv B175 594 595 d2_594 rfl (by decide) ?_
  refine o_topJ (show ((0 : Int64) / (1 : Int64)) = (0 : Int64) by decide) ?_
  refine o_lor B175 595 596 d2_595 rfl ?_
  refine o_topJ (show ((10 : Int64) ||| (0 : Int64)) = (10 : Int64) by decide) ?_
  refine o_lstore B175 596 598 (l' := #[vr a, vi xW, vi 0, vi xG, vi 4, vi 2, vi 2, vj (xG.toInt64 * (6 : Int64)), s2, vi s9, vj 10, s2, vi 3, vj 1, s2, vj 10, s2]) d2_596 rfl rfl ?_
  refine o_iincC B175 598 601 (l' := #[vr a, vi xW, vi 0, vi xG, vi 4, vi 2, vi 2, vj (xG.toInt64 * (6 : Int64)), s2, vi s9, vj 10, s2, vi 4, vj 1, s2, vj 10, s2]) (1 : Int32) (4 : Int32) d2_598 rfl (by decide) rfl (by decide) rfl ?_
  refine o_goto B175 601 549 d2_601 (by decide) (by decide) ?_
  refine o_iload B175 549 551 (v := (4 : Int32)) d2_549 rfl rfl ?_
  refine o_aloadN B175 551 552 (v := (.ref a)) d2_551 rfl rfl rfl ?_
  have F177 := (Fld.other W175 F172 (Or.inl (Nat.ne_of_lt lt143)))
  obtain ⟨T176, B176, c176⟩ := o_getfield B175 552 555 d2_552 rfl (host := "") (Or.inl (hw _ (mi 62 rfl))) Via.refl F177 (Ls := #[vr a, vi xW, vi 0, vi xG, vi 4, vi 2, vi 2, vj (xG.toInt64 * (6 : Int64)), s2, vi s9, vj 10, s2, vi 4, vj 1, s2, vj 10, s2]) (rest := [(.int (4 : Int32))])
  refine c176 ?_
  refine o_alenJ B176 555 556 A175 (6 : Int32) d2_555 rfl (by decide) ?_
  refine o_icN B176 556 559 d2_556 rfl (XT.ii_ge_f (by decide)) ?_
  refine o_aloadN B176 559 560 (v := (.ref a)) d2_559 rfl rfl rfl ?_
  obtain ⟨T179, B179, c179⟩ := o_getfield B176 560 563 d2_560 rfl (host := "") (Or.inl (hw _ (mi 62 rfl))) Via.refl F177 (Ls := #[vr a, vi xW, vi 0, vi xG, vi 4, vi 2, vi 2, vj (xG.toInt64 * (6 : Int64)), s2, vi s9, vj 10, s2, vi 4, vj 1, s2, vj 10, s2]) (rest := [])
  refine c179 ?_
  refine o_iload B179 563 565 (v := (4 : Int32)) d2_563 rfl rfl ?_
  refine o_lload B179 565 567 (v := (10 : Int64)) d2_565 rfl rfl ?_
  obtain ⟨T180, h180, L180, B180, N180, W180, Q180, c180⟩ := o_lastore B179 N175 g141 567 568 A175 (j := (4 : Int32)) (x := (10 : Int64)) 4 (10 : Int64) d2_567 rfl (by decide) (by decide) (by decide) rfl (Ls := #[vr a, vi xW, vi 0, vi xG, vi 4, vi 2, vi 2, vj (xG.toInt64 * (6 : Int64)), s2, vi s9, vj 10, s2, vi 4, vj 1, s2, vj 10, s2]) (rest := [])
  have A180 : AJ Z h180 a141 6 (w2_4_2c_5 xW xG) := Q180
  refine c180 ?_
  refine o_lload B180 568 570 (v := (10 : Int64)) d2_568 rfl rfl ?_
  refine o_lload B180 570 572 (v := (10 : Int64)) d2_570 rfl rfl ?_
  refine o_lneg B180 572 573 d2_572 rfl ?_
  refine o_topJ (show (-(10 : Int64)) = (-10 : Int64) by decide) ?_
  refine o_land B180 573 574 d2_573 rfl ?_
  refine o_topJ (show ((10 : Int64) &&& (-10 : Int64)) = (2 : Int64) by decide) ?_
  refine o_lstore B180 574 576 (l' := #[vr a, vi xW, vi 0, vi xG, vi 4, vi 2, vi 2, vj (xG.toInt64 * (6 : Int64)), s2, vi s9, vj 10, s2, vi 4, vj 2, s2, vj 10, s2]) d2_574 rfl rfl ?_
  refine o_lload B180 576 578 (v := (10 : Int64)) d2_576 rfl rfl ?_
  refine o_lload B180 578 580 (v := (2 : Int64)) d2_578 rfl rfl ?_
  refine o_ladd B180 580 581 d2_580 rfl ?_
  refine o_topJ (show ((10 : Int64) + (2 : Int64)) = (12 : Int64) by decide) ?_
  refine o_lstore B180 581 583 (l' := #[vr a, vi xW, vi 0, vi xG, vi 4, vi 2, vi 2, vj (xG.toInt64 * (6 : Int64)), s2, vi s9, vj 10, s2, vi 4, vj 2, s2, vj 12, s2]) d2_581 rfl rfl ?_
  refine o_lload B180 583 585 (v := (12 : Int64)) d2_583 rfl rfl ?_
  refine o_lload B180 585 587 (v := (10 : Int64)) d2_585 rfl rfl ?_
  refine o_lload B180 587 589 (v := (12 : Int64)) d2_587 rfl rfl ?_
  refine o_lxor B180 589 590 d2_589 rfl ?_
  refine o_topJ (show ((10 : Int64) ^^^ (12 : Int64)) = (6 : Int64) by decide) ?_
  refine o_iconst B180 590 591 (2 : Int32) d2_590 rfl (by decide) ?_
  refine o_lushr B180 591 592 d2_591 rfl ?_
  refine o_topJ (show (XT.ushrL (6 : Int64) (2 : Int32)) = (1 : Int64) by decide) ?_
  refine o_lload B180 592 594 (v := (2 : Int64)) d2_592 rfl rfl ?_
  refine o_ldiv B180 594 595 d2_594 rfl (by decide) ?_
  refine o_topJ (show ((1 : Int64) / (2 : Int64)) = (0 : Int64) by decide) ?_
  refine o_lor B180 595 596 d2_595 rfl ?_
  refine o_topJ (show ((12 : Int64) ||| (0 : Int64)) = (12 : Int64) by decide) ?_
  refine o_lstore B180 596 598 (l' := #[vr a, vi xW, vi 0, vi xG, vi 4, vi 2, vi 2, vj (xG.toInt64 * (6 : Int64)), s2, vi s9, vj 12, s2, vi 4, vj 2, s2, vj 12, s2]) d2_596 rfl rfl ?_
  refine o_iincC B180 598 601 (l' := #[vr a, vi xW, vi 0, vi xG, vi 4, vi 2, vi 2, vj (xG.toInt64 * (6 : Int64)), s2, vi s9, vj 12, s2, vi 5, vj 2, s2, vj 12, s2]) (1 : Int32) (5 : Int32) d2_598 rfl (by decide) rfl (by decide) rfl ?_
  refine o_goto B180 601 549 d2_601 (by decide) (by decide) ?_
  refine o_iload B180 549 551 (v := (5 : Int32)) d2_549 rfl rfl ?_
  refine o_aloadN B180 551 552 (v := (.ref a)) d2_551 rfl rfl rfl ?_
  have F182 := (Fld.other W180 F177 (Or.inl (Nat.ne_of_lt lt143)))
  obtain ⟨T181, B181, c181⟩ := o_getfield B180 552 555 d2_552 rfl (host := "") (Or.inl (hw _ (mi 62 rfl))) Via.refl F182 (Ls := #[vr a, vi xW, vi 0, vi xG, vi 4, vi 2, vi 2, vj (xG.toInt64 * (6 : Int64)), s2, vi s9, vj 12, s2, vi 5, vj 2, s2, vj 12, s2]) (rest := [(.int (5 : Int32))])
  refine c181 ?_
  refine o_alenJ B181 555 556 A180 (6 : Int32) d2_555 rfl (by decide) ?_
  refine o_icN B181 556 559 d2_556 rfl (XT.ii_ge_f (by decide)) ?_
  refine o_aloadN B181 559 560 (v := (.ref a)) d2_559 rfl rfl rfl ?_
  obtain ⟨T184, B184, c184⟩ := o_getfield B181 560 563 d2_560 rfl (host := "") (Or.inl (hw _ (mi 62 rfl))) Via.refl F182 (Ls := #[vr a, vi xW, vi 0, vi xG, vi 4, vi 2, vi 2, vj (xG.toInt64 * (6 : Int64)), s2, vi s9, vj 12, s2, vi 5, vj 2, s2, vj 12, s2]) (rest := [])
  refine c184 ?_
  refine o_iload B184 563 565 (v := (5 : Int32)) d2_563 rfl rfl ?_
  refine o_lload B184 565 567 (v := (12 : Int64)) d2_565 rfl rfl ?_
  obtain ⟨T185, h185, L185, B185, N185, W185, Q185, c185⟩ := o_lastore B184 N180 g141 567 568 A180 (j := (5 : Int32)) (x := (12 : Int64)) 5 (12 : Int64) d2_567 rfl (by decide) (by decide) (by decide) rfl (Ls := #[vr a, vi xW, vi 0, vi xG, vi 4, vi 2, vi 2, vj (xG.toInt64 * (6 : Int64)), s2, vi s9, vj 12, s2, vi 5, vj 2, s2, vj 12, s2]) (rest := [])
  have A185 : AJ Z h185 a141 6 (w2_4_2c_6 xW xG) := Q185
  refine c185 ?_
  refine o_lload B185 568 570 (v := (12 : Int64)) d2_568 rfl rfl ?_
  refine o_lload B185 570 572 (v := (12 : Int64)) d2_570 rfl rfl ?_
  refine o_lneg B185 572 573 d2_572 rfl ?_
  refine o_topJ (show (-(12 : Int64)) = (-12 : Int64) by decide) ?_
  refine o_land B185 573 574 d2_573 rfl ?_
  refine o_topJ (show ((12 : Int64) &&& (-12 : Int64)) = (4 : Int64) by decide) ?_
  refine o_lstore B185 574 576 (l' := #[vr a, vi xW, vi 0, vi xG, vi 4, vi 2, vi 2, vj (xG.toInt64 * (6 : Int64)), s2, vi s9, vj 12, s2, vi 5, vj 4, s2, vj 12, s2]) d2_574 rfl rfl ?_
  refine o_lload B185 576 578 (v := (12 : Int64)) d2_576 rfl rfl ?_
  refine o_lload B185 578 580 (v := (4 : Int64)) d2_578 rfl rfl ?_
  refine o_ladd B185 580 581 d2_580 rfl ?_
  refine o_topJ (show ((12 : Int64) + (4 : Int64)) = (16 : Int64) by decide) ?_
  refine o_lstore B185 581 583 (l' := #[vr a, vi xW, vi 0, vi xG, vi 4, vi 2, vi 2, vj (xG.toInt64 * (6 : Int64)), s2, vi s9, vj 12, s2, vi 5, vj 4, s2, vj 16, s2]) d2_581 rfl rfl ?_
  refine o_lload B185 583 585 (v := (16 : Int64)) d2_583 rfl rfl ?_
  refine o_lload B185 585 587 (v := (12 : Int64)) d2_585 rfl rfl ?_
  refine o_lload B185 587 589 (v := (16 : Int64)) d2_587 rfl rfl ?_
  refine o_lxor B185 589 590 d2_589 rfl ?_
  refine o_topJ (show ((12 : Int64) ^^^ (16 : Int64)) = (28 : Int64) by decide) ?_
  refine o_iconst B185 590 591 (2 : Int32) d2_590 rfl (by decide) ?_
  refine o_lushr B185 591 592 d2_591 rfl ?_
  refine o_topJ (show (XT.ushrL (28 : Int64) (2 : Int32)) = (7 : Int64) by decide) ?_
  refine o_lload B185 592 594 (v := (4 : Int64)) d2_592 rfl rfl ?_
  refine o_ldiv B185 594 595 d2_594 rfl (by decide) ?_
  refine o_topJ (show ((7 : Int64) / (4 : Int64)) = (1 : Int64) by decide) ?_
  refine o_lor B185 595 596 d2_595 rfl ?_
  refine o_topJ (show ((16 : Int64) ||| (1 : Int64)) = (17 : Int64) by decide) ?_
  refine o_lstore B185 596 598 (l' := #[vr a, vi xW, vi 0, vi xG, vi 4, vi 2, vi 2, vj (xG.toInt64 * (6 : Int64)), s2, vi s9, vj 17, s2, vi 5, vj 4, s2, vj 16, s2]) d2_596 rfl rfl ?_
  refine o_iincC B185 598 601 (l' := #[vr a, vi xW, vi 0, vi xG, vi 4, vi 2, vi 2, vj (xG.toInt64 * (6 : Int64)), s2, vi s9, vj 17, s2, vi 6, vj 4, s2, vj 16, s2]) (1 : Int32) (6 : Int32) d2_598 rfl (by decide) rfl (by decide) rfl ?_
  refine o_goto B185 601 549 d2_601 (by decide) (by decide) ?_
  refine o_iload B185 549 551 (v := (6 : Int32)) d2_549 rfl rfl ?_
  refine o_aloadN B185 551 552 (v := (.ref a)) d2_551 rfl rfl rfl ?_
  have F187 := (Fld.other W185 F182 (Or.inl (Nat.ne_of_lt lt143)))
  obtain ⟨T186, B186, c186⟩ := o_getfield B185 552 555 d2_552 rfl (host := "") (Or.inl (hw _ (mi 62 rfl))) Via.refl F187 (Ls := #[vr a, vi xW, vi 0, vi xG, vi 4, vi 2, vi 2, vj (xG.toInt64 * (6 : Int64)), s2, vi s9, vj 17, s2, vi 6, vj 4, s2, vj 16, s2]) (rest := [(.int (6 : Int32))])
  refine c186 ?_
  refine o_alenJ B186 555 556 A185 (6 : Int32) d2_555 rfl (by decide) ?_
  refine o_icY B186 556 604 d2_556 (XT.ii_ge_t (by decide)) (by decide) (by decide) ?_
  refine o_aloadN B186 604 605 (v := (.ref a)) d2_604 rfl rfl rfl ?_
  refine o_lload B186 605 607 (v := (xG.toInt64 * (6 : Int64))) d2_605 rfl rfl ?_
  refine o_l2i B186 607 608 d2_607 rfl ?_
  obtain ⟨a189, T189, h189, z189, B189, E189, A189, c189⟩ := o_newI B186 608 610 (ty := .int) (z := (xG.toInt64 * (6 : Int64)).toInt32) (xG.toInt.toNat * 6) 18 (hw _ (mi 44 rfl)) d2_608 rfl rfl rfl htn.1 htn.2 (Nat.mul_le_mul_right _ hl.1) (by decide) (by decide) (by decide) (Ls := #[vr a, vi xW, vi 0, vi xG, vi 4, vi 2, vi 2, vj (xG.toInt64 * (6 : Int64)), s2, vi s9, vj 17, s2, vi 6, vj 4, s2, vj 16, s2]) (rest := [(.ref a)])
  have F190 := (Exa.wr W185 (Exa.wr W180 (Exa.wr W175 (Exa.wr W170 (Exa.wr W165 (Exa.wr W160 (Exa.wr W153 F155)))))))
  have lt191 : (a : Nat) < a189 := by rw [z189]; exact F190.lt
  have F192 := ((((((((C_gw.ext E141).other W153 (Ne.symm (Nat.ne_of_lt lt15))).other W160 (Nat.ne_of_lt lt144)).other W165 (Nat.ne_of_lt lt144)).other W170 (Nat.ne_of_lt lt144)).other W175 (Nat.ne_of_lt lt144)).other W180 (Nat.ne_of_lt lt144)).other W185 (Nat.ne_of_lt lt144))
  have lt193 : (a13 : Nat) < a189 := by rw [z189]; exact F192.lt
  have F194 := ((((((((C_fw.ext E141).other W153 (Ne.symm (Nat.ne_of_lt lt22))).other W160 (Nat.ne_of_lt lt145)).other W165 (Nat.ne_of_lt lt145)).other W170 (Nat.ne_of_lt lt145)).other W175 (Nat.ne_of_lt lt145)).other W180 (Nat.ne_of_lt lt145)).other W185 (Nat.ne_of_lt lt145))
  have lt195 : (a20 : Nat) < a189 := by rw [z189]; exact F194.lt
  have F196 := ((((((((C_sh.ext E141).other W153 (Ne.symm (Nat.ne_of_lt lt31))).other W160 (Nat.ne_of_lt lt146)).other W165 (Nat.ne_of_lt lt146)).other W170 (Nat.ne_of_lt lt146)).other W175 (Nat.ne_of_lt lt146)).other W180 (Nat.ne_of_lt lt146)).other W185 (Nat.ne_of_lt lt146))
  have lt197 : (a29 : Nat) < a189 := by rw [z189]; exact F196.lt
  have F198 := ((((((((C_lm.ext E141).other W153 (Ne.symm (Nat.ne_of_lt lt42))).other W160 (Nat.ne_of_lt lt147)).other W165 (Nat.ne_of_lt lt147)).other W170 (Nat.ne_of_lt lt147)).other W175 (Nat.ne_of_lt lt147)).other W180 (Nat.ne_of_lt lt147)).other W185 (Nat.ne_of_lt lt147))
  have lt199 : (a40 : Nat) < a189 := by rw [z189]; exact F198.lt
  have F200 := ((((((((C_hm.ext E141).other W153 (Ne.symm (Nat.ne_of_lt lt55))).other W160 (Nat.ne_of_lt lt148)).other W165 (Nat.ne_of_lt lt148)).other W170 (Nat.ne_of_lt lt148)).other W175 (Nat.ne_of_lt lt148)).other W180 (Nat.ne_of_lt lt148)).other W185 (Nat.ne_of_lt lt148))
  have lt201 : (a53 : Nat) < a189 := by rw [z189]; exact F200.lt
  have F202 := ((((((((C_bo.ext E141).other W153 (Ne.symm (Nat.ne_of_lt lt70))).other W160 (Nat.ne_of_lt lt149)).other W165 (Nat.ne_of_lt lt149)).other W170 (Nat.ne_of_lt lt149)).other W175 (Nat.ne_of_lt lt149)).other W180 (Nat.ne_of_lt lt149)).other W185 (Nat.ne_of_lt lt149))
  have lt203 : (a68 : Nat) < a189 := by rw [z189]; exact F202.lt
  have F204 := ((((((((C_bw.ext E141).other W153 (Ne.symm (Nat.ne_of_lt lt87))).other W160 (Nat.ne_of_lt lt150)).other W165 (Nat.ne_of_lt lt150)).other W170 (Nat.ne_of_lt lt150)).other W175 (Nat.ne_of_lt lt150)).other W180 (Nat.ne_of_lt lt150)).other W185 (Nat.ne_of_lt lt150))
  have lt205 : (a85 : Nat) < a189 := by rw [z189]; exact F204.lt
  have F206 := ((((((((C_bm.ext E141).other W153 (Ne.symm (Nat.ne_of_lt lt106))).other W160 (Nat.ne_of_lt lt151)).other W165 (Nat.ne_of_lt lt151)).other W170 (Nat.ne_of_lt lt151)).other W175 (Nat.ne_of_lt lt151)).other W180 (Nat.ne_of_lt lt151)).other W185 (Nat.ne_of_lt lt151))
  have lt207 : (a104 : Nat) < a189 := by rw [z189]; exact F206.lt
  have lt208 : (a141 : Nat) < a189 := by rw [z189]; exact A185.lt
  have g189 : n0 ≤ a189 := by rw [z189]; exact (W185.size ▸ (W180.size ▸ (W175.size ▸ (W170.size ▸ (W165.size ▸ (W160.size ▸ (W153.size ▸ s141)))))))
  have s189 : n0 ≤ h189.size := Nat.le_trans (W185.size ▸ (W180.size ▸ (W175.size ▸ (W170.size ▸ (W165.size ▸ (W160.size ▸ (W153.size ▸ s141))))))) E189.1
  have KT209 := ((((((((KT152.ext E141).wr W153 (Or.inl (mi 0 rfl))).wr W160 (Or.inr y141)).wr W165 (Or.inr y141)).wr W170 (Or.inr y141)).wr W175 (Or.inr y141)).wr W180 (Or.inr y141)).wr W185 (Or.inr y141))
  have y189 : h0.size ≤ a189 := by rw [z189]; exact KT209.1
  refine c189 ?_
  have F211 := (Fld.ext E189 (Fld.other W185 (Fld.other W180 (Fld.other W175 (Fld.other W170 (Fld.other W165 (Fld.other W160 (Fld.other W153 (Fld.ext E141 ((Fld.other W122 (Fld.ext E104 (Fld.other W101 (Fld.ext E85 (Fld.other W82 (Fld.ext E68 (Fld.other W65 (Fld.ext E53 (Fld.other W50 (Fld.ext E40 (Fld.other W37 (Fld.ext E29 (Fld.other W26 (Fld.ext E20 (Fld.other W17 (Fld.ext E13 (Fld.other W10 (Fld.other W7 (Fld.other W3 G12 (Or.inr (sn94 hw))) (Or.inr (sn95 hw))) (Or.inr (sn96 hw)))) (Or.inr (sn97 hw)))) (Or.inr (sn98 hw)))) (Or.inr (sn99 hw)))) (Or.inr (sn100 hw)))) (Or.inr (sn101 hw)))) (Or.inr (sn102 hw)))) (Or.inr (sn103 hw)))) (Or.inr (sn104 hw))).keep K9 (ninS (Nat.ne_of_lt lt15) (ninS (Nat.ne_of_lt lt22) (ninS (Nat.ne_of_lt lt31) (ninS (Nat.ne_of_lt lt42) (ninS (Nat.ne_of_lt lt55) (ninS (Nat.ne_of_lt lt70) (ninS (Nat.ne_of_lt lt87) (ninS (Nat.ne_of_lt lt106) nin0)))))))))) (Or.inr (sn105 hw))) (Or.inl (Nat.ne_of_lt lt143))) (Or.inl (Nat.ne_of_lt lt143))) (Or.inl (Nat.ne_of_lt lt143))) (Or.inl (Nat.ne_of_lt lt143))) (Or.inl (Nat.ne_of_lt lt143))) (Or.inl (Nat.ne_of_lt lt143))))
  have F212 := (Exa.ext E189 F190)
  obtain ⟨T210, h210, L210, B210, N210, W210, c210⟩ := o_putfield B189 N185 ga 610 613 (v := (.ref a189)) d2_610 rfl (host := "") (Or.inl (hw _ (mi 64 rfl))) Via.refl F211 F212 (Or.inr ⟨(hw _ (mi 65 rfl)), rfl, hnm⟩) (hw _ (mi 16 rfl)) (ty := (.array .int)) (by decide) rfl rfl (Ls := #[vr a, vi xW, vi 0, vi xG, vi 4, vi 2, vi 2, vj (xG.toInt64 * (6 : Int64)), s2, vi s9, vj 17, s2, vi 6, vj 4, s2, vj 16, s2]) (rest := [])
  have F210 : Fld Z h210 a "com/example/hyperplane/hyperplane/Blocks" "tableGroups" "[I" (.ref a189) := Fld.same W210 F211
  refine c210 ?_
  refine o_aloadN B210 613 614 (v := (.ref a)) d2_613 rfl rfl rfl ?_
  refine o_lload B210 614 616 (v := (xG.toInt64 * (6 : Int64))) d2_614 rfl rfl ?_
  refine o_l2i B210 616 617 d2_616 rfl ?_
  obtain ⟨a213, T213, h213, z213, B213, E213, A213, c213⟩ := o_newI B210 617 619 (ty := .int) (z := (xG.toInt64 * (6 : Int64)).toInt32) (xG.toInt.toNat * 6) 18 (hw _ (mi 44 rfl)) d2_617 rfl rfl rfl htn.1 htn.2 (Nat.mul_le_mul_right _ hl.1) (by decide) (by decide) (by decide) (Ls := #[vr a, vi xW, vi 0, vi xG, vi 4, vi 2, vi 2, vj (xG.toInt64 * (6 : Int64)), s2, vi s9, vj 17, s2, vi 6, vj 4, s2, vj 16, s2]) (rest := [(.ref a)])
  have F214 := (Exa.wr W210 F212)
  have lt215 : (a : Nat) < a213 := by rw [z213]; exact F214.lt
  have F216 := ((F192.ext E189).other W210 (Ne.symm (Nat.ne_of_lt lt15)))
  have lt217 : (a13 : Nat) < a213 := by rw [z213]; exact F216.lt
  have F218 := ((F194.ext E189).other W210 (Ne.symm (Nat.ne_of_lt lt22)))
  have lt219 : (a20 : Nat) < a213 := by rw [z213]; exact F218.lt
  have F220 := ((F196.ext E189).other W210 (Ne.symm (Nat.ne_of_lt lt31)))
  have lt221 : (a29 : Nat) < a213 := by rw [z213]; exact F220.lt
  have F222 := ((F198.ext E189).other W210 (Ne.symm (Nat.ne_of_lt lt42)))
  have lt223 : (a40 : Nat) < a213 := by rw [z213]; exact F222.lt
  have F224 := ((F200.ext E189).other W210 (Ne.symm (Nat.ne_of_lt lt55)))
  have lt225 : (a53 : Nat) < a213 := by rw [z213]; exact F224.lt
  have F226 := ((F202.ext E189).other W210 (Ne.symm (Nat.ne_of_lt lt70)))
  have lt227 : (a68 : Nat) < a213 := by rw [z213]; exact F226.lt
  have F228 := ((F204.ext E189).other W210 (Ne.symm (Nat.ne_of_lt lt87)))
  have lt229 : (a85 : Nat) < a213 := by rw [z213]; exact F228.lt
  have F230 := ((F206.ext E189).other W210 (Ne.symm (Nat.ne_of_lt lt106)))
  have lt231 : (a104 : Nat) < a213 := by rw [z213]; exact F230.lt
  have F232 := ((A185.ext E189).other W210 (Ne.symm (Nat.ne_of_lt lt143)))
  have lt233 : (a141 : Nat) < a213 := by rw [z213]; exact F232.lt
  have F234 := (A189.other W210 (Ne.symm (Nat.ne_of_lt lt191)))
  have lt235 : (a189 : Nat) < a213 := by rw [z213]; exact F234.lt
  have g213 : n0 ≤ a213 := by rw [z213]; exact (W210.size ▸ s189)
  have s213 : n0 ≤ h213.size := Nat.le_trans (W210.size ▸ s189) E213.1
  have KT236 := ((KT209.ext E189).wr W210 (Or.inl (mi 0 rfl)))
  have y213 : h0.size ≤ a213 := by rw [z213]; exact KT236.1
  refine c213 ?_
  have F238 := (Fld.ext E213 (Fld.other W210 (Fld.ext E189 (Fld.other W185 (Fld.other W180 (Fld.other W175 (Fld.other W170 (Fld.other W165 (Fld.other W160 (Fld.other W153 (Fld.ext E141 ((Fld.other W122 (Fld.ext E104 (Fld.other W101 (Fld.ext E85 (Fld.other W82 (Fld.ext E68 (Fld.other W65 (Fld.ext E53 (Fld.other W50 (Fld.ext E40 (Fld.other W37 (Fld.ext E29 (Fld.other W26 (Fld.ext E20 (Fld.other W17 (Fld.ext E13 (Fld.other W10 (Fld.other W7 (Fld.other W3 G13 (Or.inr (sn106 hw))) (Or.inr (sn107 hw))) (Or.inr (sn108 hw)))) (Or.inr (sn109 hw)))) (Or.inr (sn110 hw)))) (Or.inr (sn111 hw)))) (Or.inr (sn112 hw)))) (Or.inr (sn113 hw)))) (Or.inr (sn114 hw)))) (Or.inr (sn115 hw)))) (Or.inr (sn116 hw))).keep K9 (ninS (Nat.ne_of_lt lt15) (ninS (Nat.ne_of_lt lt22) (ninS (Nat.ne_of_lt lt31) (ninS (Nat.ne_of_lt lt42) (ninS (Nat.ne_of_lt lt55) (ninS (Nat.ne_of_lt lt70) (ninS (Nat.ne_of_lt lt87) (ninS (Nat.ne_of_lt lt106) nin0)))))))))) (Or.inr (sn117 hw))) (Or.inl (Nat.ne_of_lt lt143))) (Or.inl (Nat.ne_of_lt lt143))) (Or.inl (Nat.ne_of_lt lt143))) (Or.inl (Nat.ne_of_lt lt143))) (Or.inl (Nat.ne_of_lt lt143))) (Or.inl (Nat.ne_of_lt lt143)))) (Or.inr (sn118 hw))))
  have F239 := (Exa.ext E213 F214)
  obtain ⟨T237, h237, L237, B237, N237, W237, c237⟩ := o_putfield B213 N210 ga 619 622 (v := (.ref a213)) d2_619 rfl (host := "") (Or.inl (hw _ (mi 66 rfl))) Via.refl F238 F239 (Or.inr ⟨(hw _ (mi 67 rfl)), rfl, hnm⟩) (hw _ (mi 16 rfl)) (ty := (.array .int)) (by decide) rfl rfl (Ls := #[vr a, vi xW, vi 0, vi xG, vi 4, vi 2, vi 2, vj (xG.toInt64 * (6 : Int64)), s2, vi s9, vj 17, s2, vi 6, vj 4, s2, vj 16, s2]) (rest := [])
  have F237 : Fld Z h237 a "com/example/hyperplane/hyperplane/Blocks" "blockEnds" "[I" (.ref a213) := Fld.same W237 F238
  refine c237 ?_
  refine o_iconst B237 622 623 (0 : Int32) d2_622 rfl (by decide) ?_
  refine o_istore B237 623 625 (l' := #[vr a, vi xW, vi 0, vi xG, vi 4, vi 2, vi 2, vj (xG.toInt64 * (6 : Int64)), s2, vi s9, vj 17, s2, vi 0, vj 4, s2, vj 16, s2]) d2_623 rfl rfl ?_
  refine o_iload B237 625 627 (v := (0 : Int32)) d2_625 rfl rfl ?_
  refine o_i2l B237 627 628 d2_627 rfl ?_
  refine o_topJ (show (0 : Int32).toInt64 = (0 : Int64) by decide) ?_
  refine o_lload B237 628 630 (v := (xG.toInt64 * (6 : Int64))) d2_628 rfl rfl ?_
  refine o_lcmp B237 630 631 d2_630 rfl ?_
  refine o_ifN B237 631 634 d2_631 rfl (XT.ll_ge_f (own_ps hp 6 6 (by decide) (by decide) (by decide))) ?_
  refine o_iload B237 634 636 (v := (0 : Int32)) d2_634 rfl rfl ?_
  refine o_aloadN B237 636 637 (v := (.ref a)) d2_636 rfl rfl rfl ?_
  have F241 := (Fld.other W237 (Fld.ext E213 (Fld.other W210 (Fld.ext E189 F187) (Or.inr (sn119 hw)))) (Or.inr (sn120 hw)))
  obtain ⟨T240, B240, c240⟩ := o_getfield B237 637 640 d2_637 rfl (host := "") (Or.inl (hw _ (mi 62 rfl))) Via.refl F241 (Ls := #[vr a, vi xW, vi 0, vi xG, vi 4, vi 2, vi 2, vj (xG.toInt64 * (6 : Int64)), s2, vi s9, vj 17, s2, vi 0, vj 4, s2, vj 16, s2]) (rest := [(.int (0 : Int32))])
  refine c240 ?_
  have F243 := ((F232.ext E213).other W237 (Ne.symm (Nat.ne_of_lt lt143)))
  refine o_alenJ B240 640 641 F243 (6 : Int32) d2_640 rfl (by decide) ?_
  refine o_idiv B240 641 642 d2_641 rfl (by decide) ?_
  refine o_topI (show ((0 : Int32) / (6 : Int32)) = (0 : Int32) by decide) ?_
  refine o_istore B240 642 644 (l' := #[vr a, vi xW, vi 0, vi xG, vi 4, vi 2, vi 2, vj (xG.toInt64 * (6 : Int64)), s2, vi s9, vj 17, s2, vi 0, vi 0, us, vj 16, s2]) d2_642 rfl rfl ?_
  refine o_aloadN B240 644 645 (v := (.ref a)) d2_644 rfl rfl rfl ?_
  obtain ⟨T244, B244, c244⟩ := o_getfield B240 645 648 d2_645 rfl (host := "") (Or.inl (hw _ (mi 62 rfl))) Via.refl F241 (Ls := #[vr a, vi xW, vi 0, vi xG, vi 4, vi 2, vi 2, vj (xG.toInt64 * (6 : Int64)), s2, vi s9, vj 17, s2, vi 0, vi 0, us, vj 16, s2]) (rest := [])
  refine c244 ?_
  refine o_iload B244 648 650 (v := (0 : Int32)) d2_648 rfl rfl ?_
  refine o_aloadN B244 650 651 (v := (.ref a)) d2_650 rfl rfl rfl ?_
  obtain ⟨T245, B245, c245⟩ := o_getfield B244 651 654 d2_651 rfl (host := "") (Or.inl (hw _ (mi 62 rfl))) Via.refl F241 (Ls := #[vr a, vi xW, vi 0, vi xG, vi 4, vi 2, vi 2, vj (xG.toInt64 * (6 : Int64)), s2, vi s9, vj 17, s2, vi 0, vi 0, us, vj 16, s2]) (rest := [(.int (0 : Int32)), (.ref a141)])
  refine c245 ?_
  refine o_alenJ B245 654 655 F243 (6 : Int32) d2_654 rfl (by decide) ?_
  refine o_irem B245 655 656 d2_655 rfl (by decide) ?_
  refine o_topI (show ((0 : Int32) % (6 : Int32)) = (0 : Int32) by decide) ?_
  refine o_laload B245 656 657 F243 0 (3 : Int64) d2_656 rfl (by decide) (by decide) (by decide) rfl ?_
  obtain ⟨T248, B248, c248⟩ := o_callP B245 657 660 d2_657 rfl (hw _ (mi 68 rfl)) (hw _ (mi 69 rfl)) (hw _ (mi 70 rfl)) (hw _ (mi 71 rfl)) (by decide) (rm8 l Z a0 hw (3 : Int64) h237 ) 0 [(.long (3 : Int64))] [] pd__J_I rfl rfl (st := [(.long (3 : Int64))]) rfl (Ls := #[vr a, vi xW, vi 0, vi xG, vi 4, vi 2, vi 2, vj (xG.toInt64 * (6 : Int64)), s2, vi s9, vj 17, s2, vi 0, vi 0, us, vj 16, s2]) rfl (Nat.le_of_eq rfl) (by decide) (by decide) (by decide) (by decide)
  refine c248 ?_
  refine o_topI (show (f8 (3 : Int64)) = (0 : Int32) by decide) ?_
  refine o_istore B248 660 662 (l' := #[vr a, vi xW, vi 0, vi xG, vi 4, vi 2, vi 2, vj (xG.toInt64 * (6 : Int64)), s2, vi s9, vj 17, s2, vi 0, vi 0, vi 0, vj 16, s2]) d2_660 rfl rfl ?_
  have F249 := (Exa.wr W237 F239)
  have F250 := (Fld.other W237 (Fld.ext E213 F210) (Or.inr (sn121 hw)))
  have F251 := (Fld.other W237 (Fld.ext E213 (Fld.other W210 (Fld.ext E189 (Fld.other W185 (Fld.other W180 (Fld.other W175 (Fld.other W170 (Fld.other W165 (Fld.other W160 (Fld.other W153 (Fld.ext E141 (F131.keep K9 (ninS (Nat.ne_of_lt lt15) (ninS (Nat.ne_of_lt lt22) (ninS (Nat.ne_of_lt lt31) (ninS (Nat.ne_of_lt lt42) (ninS (Nat.ne_of_lt lt55) (ninS (Nat.ne_of_lt lt70) (ninS (Nat.ne_of_lt lt87) (ninS (Nat.ne_of_lt lt106) nin0)))))))))) (Or.inr (sn122 hw))) (Or.inl (Nat.ne_of_lt lt143))) (Or.inl (Nat.ne_of_lt lt143))) (Or.inl (Nat.ne_of_lt lt143))) (Or.inl (Nat.ne_of_lt lt143))) (Or.inl (Nat.ne_of_lt lt143))) (Or.inl (Nat.ne_of_lt lt143)))) (Or.inr (sn123 hw)))) (Or.inr (sn124 hw)))
  have F252 := (Fld.other W237 (Fld.ext E213 (Fld.other W210 (Fld.ext E189 (Fld.other W185 (Fld.other W180 (Fld.other W175 (Fld.other W170 (Fld.other W165 (Fld.other W160 (Fld.other W153 (Fld.ext E141 (F132.keep K9 (ninS (Nat.ne_of_lt lt15) (ninS (Nat.ne_of_lt lt22) (ninS (Nat.ne_of_lt lt31) (ninS (Nat.ne_of_lt lt42) (ninS (Nat.ne_of_lt lt55) (ninS (Nat.ne_of_lt lt70) (ninS (Nat.ne_of_lt lt87) (ninS (Nat.ne_of_lt lt106) nin0)))))))))) (Or.inr (sn125 hw))) (Or.inl (Nat.ne_of_lt lt143))) (Or.inl (Nat.ne_of_lt lt143))) (Or.inl (Nat.ne_of_lt lt143))) (Or.inl (Nat.ne_of_lt lt143))) (Or.inl (Nat.ne_of_lt lt143))) (Or.inl (Nat.ne_of_lt lt143)))) (Or.inr (sn126 hw)))) (Or.inr (sn127 hw)))
  have F253 := (Fld.other W237 (Fld.ext E213 (Fld.other W210 (Fld.ext E189 (Fld.other W185 (Fld.other W180 (Fld.other W175 (Fld.other W170 (Fld.other W165 (Fld.other W160 (Fld.other W153 (Fld.ext E141 ((Fld.other W122 (Fld.ext E104 (Fld.other W101 (Fld.ext E85 (Fld.other W82 (Fld.ext E68 (Fld.other W65 (Fld.ext E53 (Fld.other W50 (Fld.ext E40 (Fld.other W37 (Fld.ext E29 (Fld.other W26 (Fld.ext E20 (Fld.other W17 (Fld.ext E13 (Fld.other W10 F7 (Or.inr (sn128 hw)))) (Or.inr (sn129 hw)))) (Or.inr (sn130 hw)))) (Or.inr (sn131 hw)))) (Or.inr (sn132 hw)))) (Or.inr (sn133 hw)))) (Or.inr (sn134 hw)))) (Or.inr (sn135 hw)))) (Or.inr (sn136 hw))).keep K9 (ninS (Nat.ne_of_lt lt15) (ninS (Nat.ne_of_lt lt22) (ninS (Nat.ne_of_lt lt31) (ninS (Nat.ne_of_lt lt42) (ninS (Nat.ne_of_lt lt55) (ninS (Nat.ne_of_lt lt70) (ninS (Nat.ne_of_lt lt87) (ninS (Nat.ne_of_lt lt106) nin0)))))))))) (Or.inr (sn137 hw))) (Or.inl (Nat.ne_of_lt lt143))) (Or.inl (Nat.ne_of_lt lt143))) (Or.inl (Nat.ne_of_lt lt143))) (Or.inl (Nat.ne_of_lt lt143))) (Or.inl (Nat.ne_of_lt lt143))) (Or.inl (Nat.ne_of_lt lt143)))) (Or.inr (sn138 hw)))) (Or.inr (sn139 hw)))
  have F254 := ((F234.ext E213).other W237 (Ne.symm (Nat.ne_of_lt lt191)))
  have F255 := (A213.other W237 (Ne.symm (Nat.ne_of_lt lt215)))
  have F256 := ((F226.ext E213).other W237 (Ne.symm (Nat.ne_of_lt lt70)))
  have F257 := ((F228.ext E213).other W237 (Ne.symm (Nat.ne_of_lt lt87)))
  refine lpD_4_2 ⟨by decide, by decide, by decide, by decide⟩ a0 hw xW xG s9 (17 : Int64) (16 : Int64) a a68 a85 a141 a189 a213 lt70 lt99 lt150 lt208 lt235 ga (w2_4_2c_6 xW xG) g6 g7 (own_kb_4_2 xW xG) hp ⟨by omega, hl.2.1⟩ (xG.toInt.toNat * 6 - 1) 0 _ _ _ _ _ _ _ (by omega) (by rw [show (0 : Int32).toInt = 0 by decide]; omega) (by decide) B248 N237 (W237.size ▸ s213) F249 F241 F250 F237 F251 F252 F253 F243 F254 F255 F256 F257 (fun T8 h8 L8 t8 i8 b8 B8 N8 K8 => ?_)
  have F258 := ((Fld.other W237 (Fld.ext E213 (Fld.other W210 (Fld.ext E189 (Fld.other W185 (Fld.other W180 (Fld.other W175 (Fld.other W170 (Fld.other W165 (Fld.other W160 (Fld.other W153 (Fld.ext E141 ((Fld.other W122 (Fld.ext E104 (Fld.other W101 (Fld.ext E85 (Fld.other W82 (Fld.ext E68 (Fld.other W65 (Fld.ext E53 (Fld.other W50 (Fld.ext E40 (Fld.other W37 (Fld.ext E29 (Fld.other W26 (Fld.ext E20 (Fld.other W17 (Fld.ext E13 (Fld.other W10 (Fld.other W7 F3 (Or.inr (sn140 hw))) (Or.inr (sn141 hw)))) (Or.inr (sn142 hw)))) (Or.inr (sn143 hw)))) (Or.inr (sn144 hw)))) (Or.inr (sn145 hw)))) (Or.inr (sn146 hw)))) (Or.inr (sn147 hw)))) (Or.inr (sn148 hw)))) (Or.inr (sn149 hw))).keep K9 (ninS (Nat.ne_of_lt lt15) (ninS (Nat.ne_of_lt lt22) (ninS (Nat.ne_of_lt lt31) (ninS (Nat.ne_of_lt lt42) (ninS (Nat.ne_of_lt lt55) (ninS (Nat.ne_of_lt lt70) (ninS (Nat.ne_of_lt lt87) (ninS (Nat.ne_of_lt lt106) nin0)))))))))) (Or.inr (sn150 hw))) (Or.inl (Nat.ne_of_lt lt143))) (Or.inl (Nat.ne_of_lt lt143))) (Or.inl (Nat.ne_of_lt lt143))) (Or.inl (Nat.ne_of_lt lt143))) (Or.inl (Nat.ne_of_lt lt143))) (Or.inl (Nat.ne_of_lt lt143)))) (Or.inr (sn151 hw)))) (Or.inr (sn152 hw))).keep K8 (ninS (Nat.ne_of_lt lt191) (ninS (Nat.ne_of_lt lt215) nin0)))
  have F259 := (F253.keep K8 (ninS (Nat.ne_of_lt lt191) (ninS (Nat.ne_of_lt lt215) nin0)))
  have F260 := ((Fld.other W237 (Fld.ext E213 (Fld.other W210 (Fld.ext E189 (Fld.other W185 (Fld.other W180 (Fld.other W175 (Fld.other W170 (Fld.other W165 (Fld.other W160 (Fld.other W153 (Fld.ext E141 ((Fld.other W122 (Fld.ext E104 (Fld.other W101 (Fld.ext E85 (Fld.other W82 (Fld.ext E68 (Fld.other W65 (Fld.ext E53 (Fld.other W50 (Fld.ext E40 (Fld.other W37 (Fld.ext E29 (Fld.other W26 (Fld.ext E20 (Fld.other W17 (Fld.ext E13 F10) (Or.inr (sn153 hw)))) (Or.inr (sn154 hw)))) (Or.inr (sn155 hw)))) (Or.inr (sn156 hw)))) (Or.inr (sn157 hw)))) (Or.inr (sn158 hw)))) (Or.inr (sn159 hw)))) (Or.inr (sn160 hw))).keep K9 (ninS (Nat.ne_of_lt lt15) (ninS (Nat.ne_of_lt lt22) (ninS (Nat.ne_of_lt lt31) (ninS (Nat.ne_of_lt lt42) (ninS (Nat.ne_of_lt lt55) (ninS (Nat.ne_of_lt lt70) (ninS (Nat.ne_of_lt lt87) (ninS (Nat.ne_of_lt lt106) nin0)))))))))) (Or.inr (sn161 hw))) (Or.inl (Nat.ne_of_lt lt143))) (Or.inl (Nat.ne_of_lt lt143))) (Or.inl (Nat.ne_of_lt lt143))) (Or.inl (Nat.ne_of_lt lt143))) (Or.inl (Nat.ne_of_lt lt143))) (Or.inl (Nat.ne_of_lt lt143)))) (Or.inr (sn162 hw)))) (Or.inr (sn163 hw))).keep K8 (ninS (Nat.ne_of_lt lt191) (ninS (Nat.ne_of_lt lt215) nin0)))
  have F261 := ((Fld.other W237 (Fld.ext E213 (Fld.other W210 (Fld.ext E189 (Fld.other W185 (Fld.other W180 (Fld.other W175 (Fld.other W170 (Fld.other W165 (Fld.other W160 (Fld.other W153 (Fld.ext E141 (F127.keep K9 (ninS (Nat.ne_of_lt lt15) (ninS (Nat.ne_of_lt lt22) (ninS (Nat.ne_of_lt lt31) (ninS (Nat.ne_of_lt lt42) (ninS (Nat.ne_of_lt lt55) (ninS (Nat.ne_of_lt lt70) (ninS (Nat.ne_of_lt lt87) (ninS (Nat.ne_of_lt lt106) nin0)))))))))) (Or.inr (sn164 hw))) (Or.inl (Nat.ne_of_lt lt143))) (Or.inl (Nat.ne_of_lt lt143))) (Or.inl (Nat.ne_of_lt lt143))) (Or.inl (Nat.ne_of_lt lt143))) (Or.inl (Nat.ne_of_lt lt143))) (Or.inl (Nat.ne_of_lt lt143)))) (Or.inr (sn165 hw)))) (Or.inr (sn166 hw))).keep K8 (ninS (Nat.ne_of_lt lt191) (ninS (Nat.ne_of_lt lt215) nin0)))
  have F262 := (((F218.ext E213).other W237 (Ne.symm (Nat.ne_of_lt lt22))).keep K8 (ninS (Nat.ne_of_lt lt195) (ninS (Nat.ne_of_lt lt219) nin0)))
  have F263 := ((Fld.other W237 (Fld.ext E213 (Fld.other W210 (Fld.ext E189 (Fld.other W185 (Fld.other W180 (Fld.other W175 (Fld.other W170 (Fld.other W165 (Fld.other W160 (Fld.other W153 (Fld.ext E141 (F128.keep K9 (ninS (Nat.ne_of_lt lt15) (ninS (Nat.ne_of_lt lt22) (ninS (Nat.ne_of_lt lt31) (ninS (Nat.ne_of_lt lt42) (ninS (Nat.ne_of_lt lt55) (ninS (Nat.ne_of_lt lt70) (ninS (Nat.ne_of_lt lt87) (ninS (Nat.ne_of_lt lt106) nin0)))))))))) (Or.inr (sn167 hw))) (Or.inl (Nat.ne_of_lt lt143))) (Or.inl (Nat.ne_of_lt lt143))) (Or.inl (Nat.ne_of_lt lt143))) (Or.inl (Nat.ne_of_lt lt143))) (Or.inl (Nat.ne_of_lt lt143))) (Or.inl (Nat.ne_of_lt lt143)))) (Or.inr (sn168 hw)))) (Or.inr (sn169 hw))).keep K8 (ninS (Nat.ne_of_lt lt191) (ninS (Nat.ne_of_lt lt215) nin0)))
  have F264 := (((F220.ext E213).other W237 (Ne.symm (Nat.ne_of_lt lt31))).keep K8 (ninS (Nat.ne_of_lt lt197) (ninS (Nat.ne_of_lt lt221) nin0)))
  have F265 := ((Fld.other W237 (Fld.ext E213 (Fld.other W210 (Fld.ext E189 (Fld.other W185 (Fld.other W180 (Fld.other W175 (Fld.other W170 (Fld.other W165 (Fld.other W160 (Fld.other W153 (Fld.ext E141 (F129.keep K9 (ninS (Nat.ne_of_lt lt15) (ninS (Nat.ne_of_lt lt22) (ninS (Nat.ne_of_lt lt31) (ninS (Nat.ne_of_lt lt42) (ninS (Nat.ne_of_lt lt55) (ninS (Nat.ne_of_lt lt70) (ninS (Nat.ne_of_lt lt87) (ninS (Nat.ne_of_lt lt106) nin0)))))))))) (Or.inr (sn170 hw))) (Or.inl (Nat.ne_of_lt lt143))) (Or.inl (Nat.ne_of_lt lt143))) (Or.inl (Nat.ne_of_lt lt143))) (Or.inl (Nat.ne_of_lt lt143))) (Or.inl (Nat.ne_of_lt lt143))) (Or.inl (Nat.ne_of_lt lt143)))) (Or.inr (sn171 hw)))) (Or.inr (sn172 hw))).keep K8 (ninS (Nat.ne_of_lt lt191) (ninS (Nat.ne_of_lt lt215) nin0)))
  have F266 := (((F222.ext E213).other W237 (Ne.symm (Nat.ne_of_lt lt42))).keep K8 (ninS (Nat.ne_of_lt lt199) (ninS (Nat.ne_of_lt lt223) nin0)))
  have F267 := ((Fld.other W237 (Fld.ext E213 (Fld.other W210 (Fld.ext E189 (Fld.other W185 (Fld.other W180 (Fld.other W175 (Fld.other W170 (Fld.other W165 (Fld.other W160 (Fld.other W153 (Fld.ext E141 (F130.keep K9 (ninS (Nat.ne_of_lt lt15) (ninS (Nat.ne_of_lt lt22) (ninS (Nat.ne_of_lt lt31) (ninS (Nat.ne_of_lt lt42) (ninS (Nat.ne_of_lt lt55) (ninS (Nat.ne_of_lt lt70) (ninS (Nat.ne_of_lt lt87) (ninS (Nat.ne_of_lt lt106) nin0)))))))))) (Or.inr (sn173 hw))) (Or.inl (Nat.ne_of_lt lt143))) (Or.inl (Nat.ne_of_lt lt143))) (Or.inl (Nat.ne_of_lt lt143))) (Or.inl (Nat.ne_of_lt lt143))) (Or.inl (Nat.ne_of_lt lt143))) (Or.inl (Nat.ne_of_lt lt143)))) (Or.inr (sn174 hw)))) (Or.inr (sn175 hw))).keep K8 (ninS (Nat.ne_of_lt lt191) (ninS (Nat.ne_of_lt lt215) nin0)))
  have F268 := (((F224.ext E213).other W237 (Ne.symm (Nat.ne_of_lt lt55))).keep K8 (ninS (Nat.ne_of_lt lt201) (ninS (Nat.ne_of_lt lt225) nin0)))
  have F269 := ((Fld.other W237 (Fld.ext E213 (Fld.other W210 (Fld.ext E189 (Fld.other W185 (Fld.other W180 (Fld.other W175 (Fld.other W170 (Fld.other W165 (Fld.other W160 (Fld.other W153 (Fld.ext E141 (F122.keep K9 (ninS (Nat.ne_of_lt lt15) (ninS (Nat.ne_of_lt lt22) (ninS (Nat.ne_of_lt lt31) (ninS (Nat.ne_of_lt lt42) (ninS (Nat.ne_of_lt lt55) (ninS (Nat.ne_of_lt lt70) (ninS (Nat.ne_of_lt lt87) (ninS (Nat.ne_of_lt lt106) nin0)))))))))) (Or.inr (sn176 hw))) (Or.inl (Nat.ne_of_lt lt143))) (Or.inl (Nat.ne_of_lt lt143))) (Or.inl (Nat.ne_of_lt lt143))) (Or.inl (Nat.ne_of_lt lt143))) (Or.inl (Nat.ne_of_lt lt143))) (Or.inl (Nat.ne_of_lt lt143)))) (Or.inr (sn177 hw)))) (Or.inr (sn178 hw))).keep K8 (ninS (Nat.ne_of_lt lt191) (ninS (Nat.ne_of_lt lt215) nin0)))
  have F270 := (((F230.ext E213).other W237 (Ne.symm (Nat.ne_of_lt lt106))).keep K8 (ninS (Nat.ne_of_lt lt207) (ninS (Nat.ne_of_lt lt231) nin0)))
  have KT271 := (((KT236.ext E213).wr W237 (Or.inl (mi 0 rfl))).trans K8 (allS (Or.inr y189) (allS (Or.inr y213) all0)))
  exact o_retV B8 701 d2_701 hret hlk (by decide) (by decide) ⟨rfl, N8, KT271, F258, F259, F260, a20, a29, a40, a53, a104, F261, F262, F263, F264, F265, F266, F267, F268, F269, F270⟩
def w2_4_3dz_1 (xG : Int32) (t : Nat) (gi bi : Int32) (gk : Nat → Int64) (g1 g2 g6 g7 : Nat → Int32) : Nat → Int32 := fun j => if j = t then gi else g1 j
def q2_4_3dz_2 (xG : Int32) (t : Nat) (gi bi : Int32) (gk : Nat → Int64) (g1 g2 g6 g7 : Nat → Int32) : Int32 := (f10 (xG.toInt.toNat * 4) g6 (4 : Int32) gi bi)
def q2_4_3dz_3 (xG : Int32) (t : Nat) (gi bi : Int32) (gk : Nat → Int64) (g1 g2 g6 g7 : Nat → Int32) : Int32 := (f11 (xG.toInt.toNat * 4) g7 (4 : Int32) gi bi)
def q2_4_3dz_4 (xG : Int32) (t : Nat) (gi bi : Int32) (gk : Nat → Int64) (g1 g2 g6 g7 : Nat → Int32) : Int32 := ((q2_4_3dz_2 xG t gi bi gk g1 g2 g6 g7) + (q2_4_3dz_3 xG t gi bi gk g1 g2 g6 g7))
def w2_4_3dz_5 (xG : Int32) (t : Nat) (gi bi : Int32) (gk : Nat → Int64) (g1 g2 g6 g7 : Nat → Int32) : Nat → Int32 := fun j => if j = t then (q2_4_3dz_4 xG t gi bi gk g1 g2 g6 g7) else g2 j
def w2_4_3ds_1 (xG : Int32) (t : Nat) (gi bi : Int32) (gk : Nat → Int64) (g1 g2 g6 g7 : Nat → Int32) : Nat → Int32 := fun j => if j = t then gi else g1 j
def q2_4_3ds_2 (xG : Int32) (t : Nat) (gi bi : Int32) (gk : Nat → Int64) (g1 g2 g6 g7 : Nat → Int32) : Int32 := (f10 (xG.toInt.toNat * 4) g6 (4 : Int32) gi bi)
def q2_4_3ds_3 (xG : Int32) (t : Nat) (gi bi : Int32) (gk : Nat → Int64) (g1 g2 g6 g7 : Nat → Int32) : Int32 := (f11 (xG.toInt.toNat * 4) g7 (4 : Int32) gi bi)
def q2_4_3ds_4 (xG : Int32) (t : Nat) (gi bi : Int32) (gk : Nat → Int64) (g1 g2 g6 g7 : Nat → Int32) : Int32 := ((q2_4_3ds_2 xG t gi bi gk g1 g2 g6 g7) + (q2_4_3ds_3 xG t gi bi gk g1 g2 g6 g7))
def w2_4_3ds_5 (xG : Int32) (t : Nat) (gi bi : Int32) (gk : Nat → Int64) (g1 g2 g6 g7 : Nat → Int32) : Nat → Int32 := fun j => if j = t then (q2_4_3ds_4 xG t gi bi gk g1 g2 g6 g7) else g2 j
set_option maxRecDepth 65536 in
set_option maxHeartbeats 400000000 in
theorem lpD_4_3 {p : Program} {l : Launch} {e : Env} {R : Room} {s : State} {m : MethodId} {args : Array Value} {below : List Frame} {meth : Method} {c : Code} {Z : State} {cells slots n0 : Nat} {P : Outcome → State → Prop} (hcc : cells ≤ R.cells ∧ slots ≤ R.slots ∧ 2 ≤ R.frames ∧ 100 ≤ R.locals) (a0 : Array Value) (hw : ∀ d ∈ tables_1, d.before a0 Z = true) (xW xG s9 : Int32) (ke ca : Int64) (a bo bw ky tg be : Nat) (o1 : a < bo) (o2 : bo < bw) (o3 : bw < ky) (o4 : ky < tg) (o5 : tg < be) (ga : n0 ≤ a) (gk : Nat → Int64) (g6 g7 : Nat → Int32) (hkb : ∀ i, i < 4 → 0 ≤ (f8 (gk i)).toInt ∧ (f8 (gk i)).toInt < 4) (hp : Hp 4 xW xG) (hl : xG.toInt.toNat ≤ 2000 ∧ xG.toInt = (xG.toInt.toNat : Nat)) : ∀ (k t : Nat) (T : State) (h : Heap) (locs : List Loc) (gi bi : Int32) (g1 g2 : Nat → Int32),
    t + k + 1 = (xG.toInt.toNat * 4) → (0 ≤ gi.toInt ∧ gi.toInt < xG.toInt.toNat) → (0 ≤ bi.toInt ∧ bi.toInt < 4) → Bx "com/example/hyperplane/hyperplane/Blocks" prog_2_method_3_code 17 Z p l e R s m args below meth c T h locs cells slots → Fr n0 locs → n0 ≤ h.size → Exa Z h a "com/example/hyperplane/hyperplane/Blocks" → Fld Z h a "com/example/hyperplane/hyperplane/Blocks" "keys" "[J" (.ref ky) → Fld Z h a "com/example/hyperplane/hyperplane/Blocks" "tableGroups" "[I" (.ref tg) → Fld Z h a "com/example/hyperplane/hyperplane/Blocks" "blockEnds" "[I" (.ref be) → Fld Z h a "com/example/hyperplane/hyperplane/Blocks" "blockOffsets" "[I" (.ref bo) → Fld Z h a "com/example/hyperplane/hyperplane/Blocks" "blockWidths" "[I" (.ref bw) → Fld Z h a "com/example/hyperplane/hyperplane/Blocks" "blocksPerGroup" "I" (.int (4 : Int32)) → AJ Z h ky 4 gk → AI Z h tg .int (xG.toInt.toNat * 4) g1 → AI Z h be .int (xG.toInt.toNat * 4) g2 → AI Z h bo .int (xG.toInt.toNat * 4) g6 → AI Z h bw .int (xG.toInt.toNat * 4) g7 →
    (∀ (T' : State) (h' : Heap) (locs' : List Loc) (t' i' b' : Int32), Bx "com/example/hyperplane/hyperplane/Blocks" prog_2_method_3_code 17 Z p l e R s m args below meth c T' h' locs' cells slots → Fr n0 locs' → Keep h h' [tg, be] → OG p.tables e below P (T'.setTop (mkF m 701 #[vr a, vi xW, vi 0, vi xG, vi 4, vi 3, vi 1, vj (xG.toInt64 * (4 : Int64)), s2, vi s9, vj ke, s2, vi t', vi i', vi b', vj ca, s2] []))) →
    OG p.tables e below P (T.setTop (mkF m 662 #[vr a, vi xW, vi 0, vi xG, vi 4, vi 3, vi 1, vj (xG.toInt64 * (4 : Int64)), s2, vi s9, vj ke, s2, vi (Int32.ofNat t), vi gi, vi bi, vj ca, s2] [])) := by
  intro k
  induction k with
  | zero =>
    intro t T h locs gi bi g1 g2 hg hgi hbi B N hz hE F_ky F_tg F_be F_bo F_bw F_P A_ky A_tg A_be A_bo A_bw cont
    have htx := ix_of (own_on t (by omega))
    have hix := own_ix2 (c := (4 : Int32)) (P := 4) (n := xG.toInt.toNat) hgi hbi (by decide) (by omega)
    refine o_aloadN B 662 663 (v := (.ref a)) d2_662 rfl rfl rfl ?_
    obtain ⟨T1, B1, c1⟩ := o_getfield B 663 666 d2_663 rfl (host := "") (Or.inl (hw _ (mi 64 rfl))) Via.refl F_tg (Ls := #[vr a, vi xW, vi 0, vi xG, vi 4, vi 3, vi 1, vj (xG.toInt64 * (4 : Int64)), s2, vi s9, vj ke, s2, vi (Int32.ofNat t), vi gi, vi bi, vj ca, s2]) (rest := [])
    refine c1 ?_
    refine o_iload B1 666 668 (v := (Int32.ofNat t)) d2_666 rfl rfl ?_
    refine o_iload B1 668 670 (v := gi) d2_668 rfl rfl ?_
    obtain ⟨T2, h2, L2, B2, N2, W2, Q2, c2⟩ := o_iastore B1 N (show n0 ≤ tg by omega) 670 671 A_tg (j := (Int32.ofNat t)) (x := gi) t gi d2_670 rfl htx.1 htx.2 (by omega) rfl (Ls := #[vr a, vi xW, vi 0, vi xG, vi 4, vi 3, vi 1, vj (xG.toInt64 * (4 : Int64)), s2, vi s9, vj ke, s2, vi (Int32.ofNat t), vi gi, vi bi, vj ca, s2]) (rest := [])
    have A2 : AI Z h2 tg .int (xG.toInt.toNat * 4) (w2_4_3dz_1 xG t gi bi gk g1 g2 g6 g7) := Q2
    refine c2 ?_
    refine o_aloadN B2 671 672 (v := (.ref a)) d2_671 rfl rfl rfl ?_
    have F4 := (Fld.other W2 F_be (Or.inl (Nat.ne_of_lt (by omega))))
    obtain ⟨T3, B3, c3⟩ := o_getfield B2 672 675 d2_672 rfl (host := "") (Or.inl (hw _ (mi 66 rfl))) Via.refl F4 (Ls := #[vr a, vi xW, vi 0, vi xG, vi 4, vi 3, vi 1, vj (xG.toInt64 * (4 : Int64)), s2, vi s9, vj ke, s2, vi (Int32.ofNat t), vi gi, vi bi, vj ca, s2]) (rest := [])
    refine c3 ?_
    refine o_iload B3 675 677 (v := (Int32.ofNat t)) d2_675 rfl rfl ?_
    refine o_aloadN B3 677 678 (v := (.ref a)) d2_677 rfl rfl rfl ?_
    refine o_iload B3 678 680 (v := gi) d2_678 rfl rfl ?_
    refine o_iload B3 680 682 (v := bi) d2_680 rfl rfl ?_
    have F5 := (Fld.other W2 F_bo (Or.inl (Nat.ne_of_lt (by omega))))
    have F6 := (Fld.other W2 F_P (Or.inl (Nat.ne_of_lt (by omega))))
    have F7 := (A_bo.other W2 (Nat.ne_of_lt (by omega)))
    have F8 := (Exa.wr W2 hE)
    obtain ⟨T9, B9, c9⟩ := o_callVP B3 682 685 d2_682 rfl (hw _ (mi 76 rfl)) (hw _ (mi 77 rfl)) (hw _ (mi 79 rfl)) (hw _ (mi 78 rfl)) (hw _ (mi 17 rfl)) (hw _ (mi 80 rfl)) (by decide) F8 (rm10 l Z a0 hw a (xG.toInt.toNat * 4) g6 bo (4 : Int32) gi bi h2 F5 F6 F7 hix) 2 [(.int gi), (.int bi)] [(.int (Int32.ofNat t)), (.ref be)] pd__II_I rfl rfl (st := [(.int bi), (.int gi), (.ref a), (.int (Int32.ofNat t)), (.ref be)]) rfl (Ls := #[vr a, vi xW, vi 0, vi xG, vi 4, vi 3, vi 1, vj (xG.toInt64 * (4 : Int64)), s2, vi s9, vj ke, s2, vi (Int32.ofNat t), vi gi, vi bi, vj ca, s2]) rfl (Nat.le_of_eq rfl) (by first | omega | (show _ + _ + _ ≤ _; omega) | (simp; omega)) (by first | omega | (show _ + _ + _ ≤ _; omega) | (simp; omega)) (by first | omega | (show _ + _ + _ ≤ _; omega) | (simp; omega)) (by first | omega | (show _ + _ + _ ≤ _; omega) | (simp; omega))
    refine c9 ?_
    refine o_aloadN B9 685 686 (v := (.ref a)) d2_685 rfl rfl rfl ?_
    refine o_iload B9 686 688 (v := gi) d2_686 rfl rfl ?_
    refine o_iload B9 688 690 (v := bi) d2_688 rfl rfl ?_
    have F10 := (Fld.other W2 F_bw (Or.inl (Nat.ne_of_lt (by omega))))
    have F11 := (A_bw.other W2 (Nat.ne_of_lt (by omega)))
    obtain ⟨T12, B12, c12⟩ := o_callVP B9 690 693 d2_690 rfl (hw _ (mi 81 rfl)) (hw _ (mi 82 rfl)) (hw _ (mi 84 rfl)) (hw _ (mi 83 rfl)) (hw _ (mi 17 rfl)) (hw _ (mi 85 rfl)) (by decide) F8 (rm11 l Z a0 hw a (xG.toInt.toNat * 4) g7 bw (4 : Int32) gi bi h2 F10 F6 F11 hix) 3 [(.int gi), (.int bi)] [(.int (q2_4_3dz_2 xG t gi bi gk g1 g2 g6 g7)), (.int (Int32.ofNat t)), (.ref be)] pd__II_I rfl rfl (st := [(.int bi), (.int gi), (.ref a), (.int (q2_4_3dz_2 xG t gi bi gk g1 g2 g6 g7)), (.int (Int32.ofNat t)), (.ref be)]) rfl (Ls := #[vr a, vi xW, vi 0, vi xG, vi 4, vi 3, vi 1, vj (xG.toInt64 * (4 : Int64)), s2, vi s9, vj ke, s2, vi (Int32.ofNat t), vi gi, vi bi, vj ca, s2]) rfl (Nat.le_of_eq rfl) (by first | omega | (show _ + _ + _ ≤ _; omega) | (simp; omega)) (by first | omega | (show _ + _ + _ ≤ _; omega) | (simp; omega)) (by first | omega | (show _ + _ + _ ≤ _; omega) | (simp; omega)) (by first | omega | (show _ + _ + _ ≤ _; omega) | (simp; omega))
    refine c12 ?_
    refine o_iadd B12 693 694 d2_693 rfl ?_
    have F14 := (A_be.other W2 (Nat.ne_of_gt (by omega)))
    obtain ⟨T13, h13, L13, B13, N13, W13, Q13, c13⟩ := o_iastore B12 N2 (show n0 ≤ be by omega) 694 695 F14 (j := (Int32.ofNat t)) (x := ((q2_4_3dz_2 xG t gi bi gk g1 g2 g6 g7) + (q2_4_3dz_3 xG t gi bi gk g1 g2 g6 g7))) t (q2_4_3dz_4 xG t gi bi gk g1 g2 g6 g7) d2_694 rfl htx.1 htx.2 (by omega) rfl (Ls := #[vr a, vi xW, vi 0, vi xG, vi 4, vi 3, vi 1, vj (xG.toInt64 * (4 : Int64)), s2, vi s9, vj ke, s2, vi (Int32.ofNat t), vi gi, vi bi, vj ca, s2]) (rest := [])
    have A13 : AI Z h13 be .int (xG.toInt.toNat * 4) (w2_4_3dz_5 xG t gi bi gk g1 g2 g6 g7) := Q13
    refine c13 ?_
    refine o_iincC B13 695 698 (l' := #[vr a, vi xW, vi 0, vi xG, vi 4, vi 3, vi 1, vj (xG.toInt64 * (4 : Int64)), s2, vi s9, vj ke, s2, vi (Int32.ofNat (t + 1)), vi gi, vi bi, vj ca, s2]) (1 : Int32) (Int32.ofNat (t + 1)) d2_695 rfl (by decide) rfl (own_inc t) rfl ?_
    refine o_goto B13 698 625 d2_698 (by decide) (by decide) ?_
    refine o_iload B13 625 627 (v := (Int32.ofNat (t + 1))) d2_625 rfl rfl ?_
    refine o_i2l B13 627 628 d2_627 rfl ?_
    refine o_lload B13 628 630 (v := (xG.toInt64 * (4 : Int64))) d2_628 rfl rfl ?_
    refine o_lcmp B13 630 631 d2_630 rfl ?_
    refine o_ifY B13 631 701 d2_631 (XT.ll_ge_t (by rw [Int64.lt_iff_toInt_lt, own_gt hp 4 4 (by decide) (by decide) (by decide), c_i2l, own_on _ (by omega)]; omega)) (by decide) (by decide) ?_
    have KT15 := (((Keep.refl h [tg, be]).wr W2 (Or.inl (mi 0 rfl))).wr W13 (Or.inl (mi 1 rfl)))
    exact cont _ _ _ _ _ _ B13 N13 KT15
  | succ k ih =>
    intro t T h locs gi bi g1 g2 hg hgi hbi B N hz hE F_ky F_tg F_be F_bo F_bw F_P A_ky A_tg A_be A_bo A_bw cont
    have htx := ix_of (own_on t (by omega))
    have hix := own_ix2 (c := (4 : Int32)) (P := 4) (n := xG.toInt.toNat) hgi hbi (by decide) (by omega)
    have hd := own_dv (t + 1) 4 (by omega) (by decide)
    have hm := ix_of hd.2
    refine o_aloadN B 662 663 (v := (.ref a)) d2_662 rfl rfl rfl ?_
    obtain ⟨T1, B1, c1⟩ := o_getfield B 663 666 d2_663 rfl (host := "") (Or.inl (hw _ (mi 64 rfl))) Via.refl F_tg (Ls := #[vr a, vi xW, vi 0, vi xG, vi 4, vi 3, vi 1, vj (xG.toInt64 * (4 : Int64)), s2, vi s9, vj ke, s2, vi (Int32.ofNat t), vi gi, vi bi, vj ca, s2]) (rest := [])
    refine c1 ?_
    refine o_iload B1 666 668 (v := (Int32.ofNat t)) d2_666 rfl rfl ?_
    refine o_iload B1 668 670 (v := gi) d2_668 rfl rfl ?_
    obtain ⟨T2, h2, L2, B2, N2, W2, Q2, c2⟩ := o_iastore B1 N (show n0 ≤ tg by omega) 670 671 A_tg (j := (Int32.ofNat t)) (x := gi) t gi d2_670 rfl htx.1 htx.2 (by omega) rfl (Ls := #[vr a, vi xW, vi 0, vi xG, vi 4, vi 3, vi 1, vj (xG.toInt64 * (4 : Int64)), s2, vi s9, vj ke, s2, vi (Int32.ofNat t), vi gi, vi bi, vj ca, s2]) (rest := [])
    have A2 : AI Z h2 tg .int (xG.toInt.toNat * 4) (w2_4_3ds_1 xG t gi bi gk g1 g2 g6 g7) := Q2
    refine c2 ?_
    refine o_aloadN B2 671 672 (v := (.ref a)) d2_671 rfl rfl rfl ?_
    have F4 := (Fld.other W2 F_be (Or.inl (Nat.ne_of_lt (by omega))))
    obtain ⟨T3, B3, c3⟩ := o_getfield B2 672 675 d2_672 rfl (host := "") (Or.inl (hw _ (mi 66 rfl))) Via.refl F4 (Ls := #[vr a, vi xW, vi 0, vi xG, vi 4, vi 3, vi 1, vj (xG.toInt64 * (4 : Int64)), s2, vi s9, vj ke, s2, vi (Int32.ofNat t), vi gi, vi bi, vj ca, s2]) (rest := [])
    refine c3 ?_
    refine o_iload B3 675 677 (v := (Int32.ofNat t)) d2_675 rfl rfl ?_
    refine o_aloadN B3 677 678 (v := (.ref a)) d2_677 rfl rfl rfl ?_
    refine o_iload B3 678 680 (v := gi) d2_678 rfl rfl ?_
    refine o_iload B3 680 682 (v := bi) d2_680 rfl rfl ?_
    have F5 := (Fld.other W2 F_bo (Or.inl (Nat.ne_of_lt (by omega))))
    have F6 := (Fld.other W2 F_P (Or.inl (Nat.ne_of_lt (by omega))))
    have F7 := (A_bo.other W2 (Nat.ne_of_lt (by omega)))
    have F8 := (Exa.wr W2 hE)
    obtain ⟨T9, B9, c9⟩ := o_callVP B3 682 685 d2_682 rfl (hw _ (mi 76 rfl)) (hw _ (mi 77 rfl)) (hw _ (mi 79 rfl)) (hw _ (mi 78 rfl)) (hw _ (mi 17 rfl)) (hw _ (mi 80 rfl)) (by decide) F8 (rm10 l Z a0 hw a (xG.toInt.toNat * 4) g6 bo (4 : Int32) gi bi h2 F5 F6 F7 hix) 2 [(.int gi), (.int bi)] [(.int (Int32.ofNat t)), (.ref be)] pd__II_I rfl rfl (st := [(.int bi), (.int gi), (.ref a), (.int (Int32.ofNat t)), (.ref be)]) rfl (Ls := #[vr a, vi xW, vi 0, vi xG, vi 4, vi 3, vi 1, vj (xG.toInt64 * (4 : Int64)), s2, vi s9, vj ke, s2, vi (Int32.ofNat t), vi gi, vi bi, vj ca, s2]) rfl (Nat.le_of_eq rfl) (by first | omega | (show _ + _ + _ ≤ _; omega) | (simp; omega)) (by first | omega | (show _ + _ + _ ≤ _; omega) | (simp; omega)) (by first | omega | (show _ + _ + _ ≤ _; omega) | (simp; omega)) (by first | omega | (show _ + _ + _ ≤ _; omega) | (simp; omega))
    refine c9 ?_
    refine o_aloadN B9 685 686 (v := (.ref a)) d2_685 rfl rfl rfl ?_
    refine o_iload B9 686 688 (v := gi) d2_686 rfl rfl ?_
    refine o_iload B9 688 690 (v := bi) d2_688 rfl rfl ?_
    have F10 := (Fld.other W2 F_bw (Or.inl (Nat.ne_of_lt (by omega))))
    have F11 := (A_bw.other W2 (Nat.ne_of_lt (by omega)))
    obtain ⟨T12, B12, c12⟩ := o_callVP B9 690 693 d2_690 rfl (hw _ (mi 81 rfl)) (hw _ (mi 82 rfl)) (hw _ (mi 84 rfl)) (hw _ (mi 83 rfl)) (hw _ (mi 17 rfl)) (hw _ (mi 85 rfl)) (by decide) F8 (rm11 l Z a0 hw a (xG.toInt.toNat * 4) g7 bw (4 : Int32) gi bi h2 F10 F6 F11 hix) 3 [(.int gi), (.int bi)] [(.int (q2_4_3ds_2 xG t gi bi gk g1 g2 g6 g7)), (.int (Int32.ofNat t)), (.ref be)] pd__II_I rfl rfl (st := [(.int bi), (.int gi), (.ref a), (.int (q2_4_3ds_2 xG t gi bi gk g1 g2 g6 g7)), (.int (Int32.ofNat t)), (.ref be)]) rfl (Ls := #[vr a, vi xW, vi 0, vi xG, vi 4, vi 3, vi 1, vj (xG.toInt64 * (4 : Int64)), s2, vi s9, vj ke, s2, vi (Int32.ofNat t), vi gi, vi bi, vj ca, s2]) rfl (Nat.le_of_eq rfl) (by first | omega | (show _ + _ + _ ≤ _; omega) | (simp; omega)) (by first | omega | (show _ + _ + _ ≤ _; omega) | (simp; omega)) (by first | omega | (show _ + _ + _ ≤ _; omega) | (simp; omega)) (by first | omega | (show _ + _ + _ ≤ _; omega) | (simp; omega))
    refine c12 ?_
    refine o_iadd B12 693 694 d2_693 rfl ?_
    have F14 := (A_be.other W2 (Nat.ne_of_gt (by omega)))
    obtain ⟨T13, h13, L13, B13, N13, W13, Q13, c13⟩ := o_iastore B12 N2 (show n0 ≤ be by omega) 694 695 F14 (j := (Int32.ofNat t)) (x := ((q2_4_3ds_2 xG t gi bi gk g1 g2 g6 g7) + (q2_4_3ds_3 xG t gi bi gk g1 g2 g6 g7))) t (q2_4_3ds_4 xG t gi bi gk g1 g2 g6 g7) d2_694 rfl htx.1 htx.2 (by omega) rfl (Ls := #[vr a, vi xW, vi 0, vi xG, vi 4, vi 3, vi 1, vj (xG.toInt64 * (4 : Int64)), s2, vi s9, vj ke, s2, vi (Int32.ofNat t), vi gi, vi bi, vj ca, s2]) (rest := [])
    have A13 : AI Z h13 be .int (xG.toInt.toNat * 4) (w2_4_3ds_5 xG t gi bi gk g1 g2 g6 g7) := Q13
    refine c13 ?_
    refine o_iincC B13 695 698 (l' := #[vr a, vi xW, vi 0, vi xG, vi 4, vi 3, vi 1, vj (xG.toInt64 * (4 : Int64)), s2, vi s9, vj ke, s2, vi (Int32.ofNat (t + 1)), vi gi, vi bi, vj ca, s2]) (1 : Int32) (Int32.ofNat (t + 1)) d2_695 rfl (by decide) rfl (own_inc t) rfl ?_
    refine o_goto B13 698 625 d2_698 (by decide) (by decide) ?_
    refine o_iload B13 625 627 (v := (Int32.ofNat (t + 1))) d2_625 rfl rfl ?_
    refine o_i2l B13 627 628 d2_627 rfl ?_
    refine o_lload B13 628 630 (v := (xG.toInt64 * (4 : Int64))) d2_628 rfl rfl ?_
    refine o_lcmp B13 630 631 d2_630 rfl ?_
    refine o_ifN B13 631 634 d2_631 rfl (XT.ll_ge_f (by rw [Int64.lt_iff_toInt_lt, own_gt hp 4 4 (by decide) (by decide) (by decide), c_i2l, own_on _ (by omega)]; omega)) ?_
    refine o_iload B13 634 636 (v := (Int32.ofNat (t + 1))) d2_634 rfl rfl ?_
    refine o_aloadN B13 636 637 (v := (.ref a)) d2_636 rfl rfl rfl ?_
    have F16 := (Fld.other W13 (Fld.other W2 F_ky (Or.inl (Nat.ne_of_lt (by omega)))) (Or.inl (Nat.ne_of_lt (by omega))))
    obtain ⟨T15, B15, c15⟩ := o_getfield B13 637 640 d2_637 rfl (host := "") (Or.inl (hw _ (mi 62 rfl))) Via.refl F16 (Ls := #[vr a, vi xW, vi 0, vi xG, vi 4, vi 3, vi 1, vj (xG.toInt64 * (4 : Int64)), s2, vi s9, vj ke, s2, vi (Int32.ofNat (t + 1)), vi gi, vi bi, vj ca, s2]) (rest := [(.int (Int32.ofNat (t + 1)))])
    refine c15 ?_
    have F18 := ((A_ky.other W2 (Nat.ne_of_lt (by omega))).other W13 (Nat.ne_of_lt (by omega)))
    refine o_alenJ B15 640 641 F18 (4 : Int32) d2_640 rfl (by decide) ?_
    refine o_idiv B15 641 642 d2_641 rfl (by decide) ?_
    refine o_istore B15 642 644 (l' := #[vr a, vi xW, vi 0, vi xG, vi 4, vi 3, vi 1, vj (xG.toInt64 * (4 : Int64)), s2, vi s9, vj ke, s2, vi (Int32.ofNat (t + 1)), vi ((Int32.ofNat (t + 1)) / (4 : Int32)), vi bi, vj ca, s2]) d2_642 rfl rfl ?_
    refine o_aloadN B15 644 645 (v := (.ref a)) d2_644 rfl rfl rfl ?_
    obtain ⟨T19, B19, c19⟩ := o_getfield B15 645 648 d2_645 rfl (host := "") (Or.inl (hw _ (mi 62 rfl))) Via.refl F16 (Ls := #[vr a, vi xW, vi 0, vi xG, vi 4, vi 3, vi 1, vj (xG.toInt64 * (4 : Int64)), s2, vi s9, vj ke, s2, vi (Int32.ofNat (t + 1)), vi ((Int32.ofNat (t + 1)) / (4 : Int32)), vi bi, vj ca, s2]) (rest := [])
    refine c19 ?_
    refine o_iload B19 648 650 (v := (Int32.ofNat (t + 1))) d2_648 rfl rfl ?_
    refine o_aloadN B19 650 651 (v := (.ref a)) d2_650 rfl rfl rfl ?_
    obtain ⟨T20, B20, c20⟩ := o_getfield B19 651 654 d2_651 rfl (host := "") (Or.inl (hw _ (mi 62 rfl))) Via.refl F16 (Ls := #[vr a, vi xW, vi 0, vi xG, vi 4, vi 3, vi 1, vj (xG.toInt64 * (4 : Int64)), s2, vi s9, vj ke, s2, vi (Int32.ofNat (t + 1)), vi ((Int32.ofNat (t + 1)) / (4 : Int32)), vi bi, vj ca, s2]) (rest := [(.int (Int32.ofNat (t + 1))), (.ref ky)])
    refine c20 ?_
    refine o_alenJ B20 654 655 F18 (4 : Int32) d2_654 rfl (by decide) ?_
    refine o_irem B20 655 656 d2_655 rfl (by decide) ?_
    refine o_laload B20 656 657 F18 ((t + 1) % 4) (gk ((t + 1) % 4)) d2_656 rfl hm.1 hm.2 (Nat.mod_lt _ (by decide)) rfl ?_
    obtain ⟨T23, B23, c23⟩ := o_callP B20 657 660 d2_657 rfl (hw _ (mi 68 rfl)) (hw _ (mi 69 rfl)) (hw _ (mi 70 rfl)) (hw _ (mi 71 rfl)) (by decide) (rm8 l Z a0 hw (gk ((t + 1) % 4)) h13 ) 0 [(.long (gk ((t + 1) % 4)))] [] pd__J_I rfl rfl (st := [(.long (gk ((t + 1) % 4)))]) rfl (Ls := #[vr a, vi xW, vi 0, vi xG, vi 4, vi 3, vi 1, vj (xG.toInt64 * (4 : Int64)), s2, vi s9, vj ke, s2, vi (Int32.ofNat (t + 1)), vi ((Int32.ofNat (t + 1)) / (4 : Int32)), vi bi, vj ca, s2]) rfl (Nat.le_of_eq rfl) (by first | omega | (show _ + _ + _ ≤ _; omega) | (simp; omega)) (by first | omega | (show _ + _ + _ ≤ _; omega) | (simp; omega)) (by first | omega | (show _ + _ + _ ≤ _; omega) | (simp; omega)) (by first | omega | (show _ + _ + _ ≤ _; omega) | (simp; omega))
    refine c23 ?_
    refine o_istore B23 660 662 (l' := #[vr a, vi xW, vi 0, vi xG, vi 4, vi 3, vi 1, vj (xG.toInt64 * (4 : Int64)), s2, vi s9, vj ke, s2, vi (Int32.ofNat (t + 1)), vi ((Int32.ofNat (t + 1)) / (4 : Int32)), vi (f8 (gk ((t + 1) % 4))), vj ca, s2]) d2_660 rfl rfl ?_
    have F24 := (A2.other W13 (Nat.ne_of_lt (by omega)))
    have F25 := (F7.other W13 (Nat.ne_of_lt (by omega)))
    have F26 := (F11.other W13 (Nat.ne_of_lt (by omega)))
    have F27 := (Fld.other W13 (Fld.other W2 F_tg (Or.inl (Nat.ne_of_lt (by omega)))) (Or.inl (Nat.ne_of_lt (by omega))))
    have F28 := (Fld.other W13 F4 (Or.inl (Nat.ne_of_lt (by omega))))
    have F29 := (Fld.other W13 F5 (Or.inl (Nat.ne_of_lt (by omega))))
    have F30 := (Fld.other W13 F10 (Or.inl (Nat.ne_of_lt (by omega))))
    have F31 := (Fld.other W13 F6 (Or.inl (Nat.ne_of_lt (by omega))))
    have F32 := (Exa.wr W13 F8)
    have KT33 := (((Keep.refl h [tg, be]).wr W2 (Or.inl (mi 0 rfl))).wr W13 (Or.inl (mi 1 rfl)))
    exact ih (t + 1) _ _ _ _ _ _ _ (by omega) (by have q := own_gg (t + 1) 4 xG.toInt.toNat (by omega); rw [← hd.1] at q; exact q) (hkb _ (Nat.mod_lt _ (by decide))) B23 N13 (Nat.le_trans hz KT33.1) F32 F16 F27 F28 F29 F30 F31 F18 F24 A13 F25 F26 (fun T2 h2 L2 t2 i2 b2 B2 N2 K2 => cont T2 h2 L2 t2 i2 b2 B2 N2 (Keep.trans KT33 K2 (allS (Or.inl (mi 0 rfl)) (allS (Or.inl (mi 1 rfl)) all0))))
def f7_4_3  : Int64 := (4 : Int64)
set_option maxRecDepth 65536 in
set_option maxHeartbeats 40000000 in
theorem rm7_4_3 (l : Launch) (Z : State) (a0 : Array Value) (hw : ∀ d ∈ tables_1, d.before a0 Z = true)  (h0 : Heap) :
    Met l Z (⟨"com/example/hyperplane/hyperplane/Blocks", "binomial", "(II)J"⟩ : MethodName) prog_2_method_10_code 5 (some .long) ({ frames := 0, cells := 0, slots := 0, locals := 0 } : Room) #[(.int (4 : Int32)), (.int (3 : Int32))] h0 (Pu (some (.long (f7_4_3 ))) h0) := by
  refine enter pl7 #[vi 4, vi 3, us, us, us] rfl ?_
  intro p e s m below meth c T B hret hlk hnm
  · refine o_lconst B 0 1 (1 : Int64) d7_0 rfl (by decide) ?_
    refine o_lstoreN B 1 2 (l' := #[vi 4, vi 3, vj 1, s2, us]) d7_1 rfl rfl ?_
    refine o_iconst B 2 3 (1 : Int32) d7_2 rfl (by decide) ?_
    refine o_istore B 3 5 (l' := #[vi 4, vi 3, vj 1, s2, vi 1]) d7_3 rfl rfl ?_
    refine o_iload B 5 7 (v := (1 : Int32)) d7_5 rfl rfl ?_
    refine o_iloadN B 7 8 (v := (3 : Int32)) d7_7 rfl rfl ?_
    refine o_icN B 8 11 d7_8 rfl (XT.ii_gt_f (by decide)) ?_
    refine o_lloadN B 11 12 (v := (1 : Int64)) d7_11 rfl rfl ?_
    refine o_iloadN B 12 13 (v := (4 : Int32)) d7_12 rfl rfl ?_
    refine o_iloadN B 13 14 (v := (3 : Int32)) d7_13 rfl rfl ?_
    refine o_isub B 14 15 d7_14 rfl ?_
    refine o_topI (show ((4 : Int32) - (3 : Int32)) = (1 : Int32) by decide) ?_
    refine o_iload B 15 17 (v := (1 : Int32)) d7_15 rfl rfl ?_
    refine o_iadd B 17 18 d7_17 rfl ?_
    refine o_topI (show ((1 : Int32) + (1 : Int32)) = (2 : Int32) by decide) ?_
    refine o_i2l B 18 19 d7_18 rfl ?_
    refine o_topJ (show (2 : Int32).toInt64 = (2 : Int64) by decide) ?_
    refine o_lmul B 19 20 d7_19 rfl ?_
    refine o_topJ (show ((1 : Int64) * (2 : Int64)) = (2 : Int64) by decide) ?_
    refine o_iload B 20 22 (v := (1 : Int32)) d7_20 rfl rfl ?_
    refine o_i2l B 22 23 d7_22 rfl ?_
    refine o_topJ (show (1 : Int32).toInt64 = (1 : Int64) by decide) ?_
    refine o_ldiv B 23 24 d7_23 rfl (by decide) ?_
    refine o_topJ (show ((2 : Int64) / (1 : Int64)) = (2 : Int64) by decide) ?_
    refine o_lstoreN B 24 25 (l' := #[vi 4, vi 3, vj 2, s2, vi 1]) d7_24 rfl rfl ?_
    refine o_lloadN B 25 26 (v := (2 : Int64)) d7_25 rfl rfl ?_
    refine o_ldc2 B 26 29 d7_26 rfl (hw _ (mi 39 rfl)) ?_
    refine o_lcmp B 29 30 d7_29 rfl ?_
    refine o_ifY B 30 35 d7_30 (XT.ll_le_t (by decide)) (by decide) (by decide) ?_
    refine o_iincC B 35 38 (l' := #[vi 4, vi 3, vj 2, s2, vi 2]) (1 : Int32) (2 : Int32) d7_35 rfl (by decide) rfl (by decide) rfl ?_
    refine o_goto B 38 5 d7_38 (by decide) (by decide) ?_
    refine o_iload B 5 7 (v := (2 : Int32)) d7_5 rfl rfl ?_
    refine o_iloadN B 7 8 (v := (3 : Int32)) d7_7 rfl rfl ?_
    refine o_icN B 8 11 d7_8 rfl (XT.ii_gt_f (by decide)) ?_
    refine o_lloadN B 11 12 (v := (2 : Int64)) d7_11 rfl rfl ?_
    refine o_iloadN B 12 13 (v := (4 : Int32)) d7_12 rfl rfl ?_
    refine o_iloadN B 13 14 (v := (3 : Int32)) d7_13 rfl rfl ?_
    refine o_isub B 14 15 d7_14 rfl ?_
    refine o_topI (show ((4 : Int32) - (3 : Int32)) = (1 : Int32) by decide) ?_
    refine o_iload B 15 17 (v := (2 : Int32)) d7_15 rfl rfl ?_
    refine o_iadd B 17 18 d7_17 rfl ?_
    refine o_topI (show ((1 : Int32) + (2 : Int32)) = (3 : Int32) by decide) ?_
    refine o_i2l B 18 19 d7_18 rfl ?_
    refine o_topJ (show (3 : Int32).toInt64 = (3 : Int64) by decide) ?_
    refine o_lmul B 19 20 d7_19 rfl ?_
    refine o_topJ (show ((2 : Int64) * (3 : Int64)) = (6 : Int64) by decide) ?_
    refine o_iload B 20 22 (v := (2 : Int32)) d7_20 rfl rfl ?_
    refine o_i2l B 22 23 d7_22 rfl ?_
    refine o_topJ (show (2 : Int32).toInt64 = (2 : Int64) by decide) ?_
    refine o_ldiv B 23 24 d7_23 rfl (by decide) ?_
    refine o_topJ (show ((6 : Int64) / (2 : Int64)) = (3 : Int64) by decide) ?_
    refine o_lstoreN B 24 25 (l' := #[vi 4, vi 3, vj 3, s2, vi 2]) d7_24 rfl rfl ?_
    refine o_lloadN B 25 26 (v := (3 : Int64)) d7_25 rfl rfl ?_
    refine o_ldc2 B 26 29 d7_26 rfl (hw _ (mi 39 rfl)) ?_
    refine o_lcmp B 29 30 d7_29 rfl ?_
    refine o_ifY B 30 35 d7_30 (XT.ll_le_t (by decide)) (by decide) (by decide) ?_
    refine o_iincC B 35 38 (l' := #[vi 4, vi 3, vj 3, s2, vi 3]) (1 : Int32) (3 : Int32) d7_35 rfl (by decide) rfl (by decide) rfl ?_
    refine o_goto B 38 5 d7_38 (by decide) (by decide) ?_
    refine o_iload B 5 7 (v := (3 : Int32)) d7_5 rfl rfl ?_
    refine o_iloadN B 7 8 (v := (3 : Int32)) d7_7 rfl rfl ?_
    refine o_icN B 8 11 d7_8 rfl (XT.ii_gt_f (by decide)) ?_
    refine o_lloadN B 11 12 (v := (3 : Int64)) d7_11 rfl rfl ?_
    refine o_iloadN B 12 13 (v := (4 : Int32)) d7_12 rfl rfl ?_
    refine o_iloadN B 13 14 (v := (3 : Int32)) d7_13 rfl rfl ?_
    refine o_isub B 14 15 d7_14 rfl ?_
    refine o_topI (show ((4 : Int32) - (3 : Int32)) = (1 : Int32) by decide) ?_
    refine o_iload B 15 17 (v := (3 : Int32)) d7_15 rfl rfl ?_
    refine o_iadd B 17 18 d7_17 rfl ?_
    refine o_topI (show ((1 : Int32) + (3 : Int32)) = (4 : Int32) by decide) ?_
    refine o_i2l B 18 19 d7_18 rfl ?_
    refine o_topJ (show (4 : Int32).toInt64 = (4 : Int64) by decide) ?_
    refine o_lmul B 19 20 d7_19 rfl ?_
    refine o_topJ (show ((3 : Int64) * (4 : Int64)) = (12 : Int64) by decide) ?_
    refine o_iload B 20 22 (v := (3 : Int32)) d7_20 rfl rfl ?_
    refine o_i2l B 22 23 d7_22 rfl ?_
    refine o_topJ (show (3 : Int32).toInt64 = (3 : Int64) by decide) ?_
    refine o_ldiv B 23 24 d7_23 rfl (by decide) ?_
    refine o_topJ (show ((12 : Int64) / (3 : Int64)) = (4 : Int64) by decide) ?_
    refine o_lstoreN B 24 25 (l' := #[vi 4, vi 3, vj 4, s2, vi 3]) d7_24 rfl rfl ?_
    refine o_lloadN B 25 26 (v := (4 : Int64)) d7_25 rfl rfl ?_
    refine o_ldc2 B 26 29 d7_26 rfl (hw _ (mi 39 rfl)) ?_
    refine o_lcmp B 29 30 d7_29 rfl ?_
    refine o_ifY B 30 35 d7_30 (XT.ll_le_t (by decide)) (by decide) (by decide) ?_
    refine o_iincC B 35 38 (l' := #[vi 4, vi 3, vj 4, s2, vi 4]) (1 : Int32) (4 : Int32) d7_35 rfl (by decide) rfl (by decide) rfl ?_
    refine o_goto B 38 5 d7_38 (by decide) (by decide) ?_
    refine o_iload B 5 7 (v := (4 : Int32)) d7_5 rfl rfl ?_
    refine o_iloadN B 7 8 (v := (3 : Int32)) d7_7 rfl rfl ?_
    refine o_icY B 8 41 d7_8 (XT.ii_gt_t (by decide)) (by decide) (by decide) ?_
    refine o_lloadN B 41 42 (v := (4 : Int64)) d7_41 rfl rfl ?_
    refine o_retL B 42 d7_42 hret hlk (by decide) (by decide) ⟨(congrArg (fun z => some (Value.long z)) (show f7_4_3  = (4 : Int64) from rfl)).symm, rfl, rfl⟩
def w2_4_3c_1 (xW xG : Int32) : Nat → Int64 := fun j => if j = 0 then (7 : Int64) else (fun _ => 0) j
def w2_4_3c_2 (xW xG : Int32) : Nat → Int64 := fun j => if j = 1 then (11 : Int64) else (w2_4_3c_1 xW xG) j
def w2_4_3c_3 (xW xG : Int32) : Nat → Int64 := fun j => if j = 2 then (13 : Int64) else (w2_4_3c_2 xW xG) j
def w2_4_3c_4 (xW xG : Int32) : Nat → Int64 := fun j => if j = 3 then (14 : Int64) else (w2_4_3c_3 xW xG) j
theorem own_kb_4_3 (xW xG : Int32) : ∀ i, i < 4 → 0 ≤ (f8 ((w2_4_3c_4 xW xG) i)).toInt ∧ (f8 ((w2_4_3c_4 xW xG) i)).toInt < 4 := by
  intro i hi
  match i, hi with
  | 0, _ => exact (show 0 ≤ (f8 (7 : Int64)).toInt ∧ (f8 (7 : Int64)).toInt < 4 by decide)
  | 1, _ => exact (show 0 ≤ (f8 (11 : Int64)).toInt ∧ (f8 (11 : Int64)).toInt < 4 by decide)
  | 2, _ => exact (show 0 ≤ (f8 (13 : Int64)).toInt ∧ (f8 (13 : Int64)).toInt < 4 by decide)
  | 3, _ => exact (show 0 ≤ (f8 (14 : Int64)).toInt ∧ (f8 (14 : Int64)).toInt < 4 by decide)
def Qc_4_3 (Z : State) (a : Addr) (xW xG : Int32) (h0 : Heap) (n0 : Nat) (v : Option Value) (h : Heap) (L : List Loc) : Prop := v = none ∧ Fr n0 L ∧ Keep h0 h [a] ∧ Fld Z h a "com/example/hyperplane/hyperplane/Blocks" "words" "I" (.int (f4 xW)) ∧ Fld Z h a "com/example/hyperplane/hyperplane/Blocks" "blocksPerGroup" "I" (.int (4 : Int32)) ∧ Fld Z h a "com/example/hyperplane/hyperplane/Blocks" "keyBlocks" "I" (.int (3 : Int32)) ∧ ∃ fw sh lm hm bm : Addr, Fld Z h a "com/example/hyperplane/hyperplane/Blocks" "firstWords" "[I" (.ref fw) ∧ AI Z h fw .int xG.toInt.toNat (UpI xG.toInt.toNat (fun j => own_start xW xG j / 64)) ∧ Fld Z h a "com/example/hyperplane/hyperplane/Blocks" "shifts" "[I" (.ref sh) ∧ AI Z h sh .int xG.toInt.toNat (UpI xG.toInt.toNat (own_sh xW xG)) ∧ Fld Z h a "com/example/hyperplane/hyperplane/Blocks" "lowMasks" "[J" (.ref lm) ∧ AJ Z h lm xG.toInt.toNat (UpJ xG.toInt.toNat (fun j => own_low (own_bits xW xG j) (own_sh xW xG j))) ∧ Fld Z h a "com/example/hyperplane/hyperplane/Blocks" "highMasks" "[J" (.ref hm) ∧ AJ Z h hm xG.toInt.toNat (UpJ xG.toInt.toNat (own_hi xW xG)) ∧ Fld Z h a "com/example/hyperplane/hyperplane/Blocks" "blockMasks" "[J" (.ref bm) ∧ AJ Z h bm (xG.toInt.toNat * 4) (UpJ (xG.toInt.toNat * 4) (own_bmf xW xG 4 4))
set_option maxRecDepth 65536 in
set_option maxHeartbeats 400000000 in
theorem rm2_4_3 (l : Launch) (Z : State) (a0 : Array Value) (hw : ∀ d ∈ tables_1, d.before a0 Z = true) (a : Addr) (xW xG : Int32) (h0 : Heap) (n0 : Nat) (hz : n0 ≤ h0.size) (ga : n0 ≤ a) (hE : Exa Z h0 a "com/example/hyperplane/hyperplane/Blocks") (G0 : Fld Z h0 a "com/example/hyperplane/hyperplane/Blocks" "words" "I" (.int (0 : Int32))) (G1 : Fld Z h0 a "com/example/hyperplane/hyperplane/Blocks" "blocksPerGroup" "I" (.int (0 : Int32))) (G2 : Fld Z h0 a "com/example/hyperplane/hyperplane/Blocks" "keyBlocks" "I" (.int (0 : Int32))) (G3 : Fld Z h0 a "com/example/hyperplane/hyperplane/Blocks" "groupWidths" "[I" .null) (G4 : Fld Z h0 a "com/example/hyperplane/hyperplane/Blocks" "firstWords" "[I" .null) (G5 : Fld Z h0 a "com/example/hyperplane/hyperplane/Blocks" "shifts" "[I" .null) (G6 : Fld Z h0 a "com/example/hyperplane/hyperplane/Blocks" "lowMasks" "[J" .null) (G7 : Fld Z h0 a "com/example/hyperplane/hyperplane/Blocks" "highMasks" "[J" .null) (G8 : Fld Z h0 a "com/example/hyperplane/hyperplane/Blocks" "blockOffsets" "[I" .null) (G9 : Fld Z h0 a "com/example/hyperplane/hyperplane/Blocks" "blockWidths" "[I" .null) (G10 : Fld Z h0 a "com/example/hyperplane/hyperplane/Blocks" "blockMasks" "[J" .null) (G11 : Fld Z h0 a "com/example/hyperplane/hyperplane/Blocks" "keys" "[J" .null) (G12 : Fld Z h0 a "com/example/hyperplane/hyperplane/Blocks" "tableGroups" "[I" .null) (G13 : Fld Z h0 a "com/example/hyperplane/hyperplane/Blocks" "blockEnds" "[I" .null) (hp : Hp 4 xW xG) :
    Met l Z (⟨"com/example/hyperplane/hyperplane/Blocks", "<init>", "(IIIII)V"⟩ : MethodName) prog_2_method_3_code 17 none ({ frames := 2, cells := 11, slots := 79, locals := 100 } : Room) #[(.ref a), (.int xW), (.int (0 : Int32)), (.int xG), (.int (4 : Int32)), (.int (3 : Int32))] h0 (Qc_4_3 Z a xW xG h0 n0) := by
  refine enter pl2 #[vr a, vi xW, vi 0, vi xG, vi 4, vi 3, us, us, us, us, us, us, us, us, us, us, us] rfl ?_
  intro p e s m below meth c T B hret hlk hnm
  have N0 := Fr.nil n0
  have hl := own_gl hp
  have hgx := ix_of hl.2.1
  have hgp := ix_of (own_gp hp 4 4 (by decide) (by decide))
  have htn := ix_of (own_tn hp 4 4 (by decide) (by decide))
  refine o_aloadN B 0 1 (v := (.ref a)) d2_0 rfl rfl rfl ?_
  obtain ⟨T1, B1, c1⟩ := o_initO B 1 4 d2_1 rfl (hw _ (mi 21 rfl)) (hw _ (mi 22 rfl)) (hw _ (mi 23 rfl)) (a := a) (Ls := #[vr a, vi xW, vi 0, vi xG, vi 4, vi 3, us, us, us, us, us, us, us, us, us, us, us]) (rest := []) rfl 0 (Nat.le_of_eq rfl) (by decide) (by decide)
  refine c1 ?_
  refine o_aloadN B1 4 5 (v := (.ref a)) d2_4 rfl rfl rfl ?_
  refine o_iloadN B1 5 6 (v := xW) d2_5 rfl rfl ?_
  obtain ⟨T2, B2, c2⟩ := o_callP B1 6 9 d2_6 rfl (hw _ (mi 24 rfl)) (hw _ (mi 25 rfl)) (hw _ (mi 26 rfl)) (hw _ (mi 27 rfl)) (by decide) (rm4 l Z a0 hw xW h0  (own_hw hp).1 (own_hw hp).2.1 (own_hw hp).2.2) 1 [(.int xW)] [(.ref a)] pd__I_I rfl rfl (st := [(.int xW), (.ref a)]) rfl (Ls := #[vr a, vi xW, vi 0, vi xG, vi 4, vi 3, us, us, us, us, us, us, us, us, us, us, us]) rfl (Nat.le_of_eq rfl) (by decide) (by decide) (by decide) (by decide)
  refine c2 ?_
  obtain ⟨T3, h3, L3, B3, N3, W3, c3⟩ := o_putfield B2 N0 ga 9 12 (v := (.int (f4 xW))) d2_9 rfl (host := "") (Or.inl (hw _ (mi 28 rfl))) Via.refl G0 hE (Or.inr ⟨(hw _ (mi 29 rfl)), rfl, hnm⟩) (hw _ (mi 16 rfl)) (ty := .int) (by decide) rfl rfl (Ls := #[vr a, vi xW, vi 0, vi xG, vi 4, vi 3, us, us, us, us, us, us, us, us, us, us, us]) (rest := [])
  have F3 : Fld Z h3 a "com/example/hyperplane/hyperplane/Blocks" "words" "I" (.int (f4 xW)) := Fld.same W3 G0
  refine c3 ?_
  refine o_iloadN B3 12 13 (v := xW) d2_12 rfl rfl ?_
  refine o_iloadN B3 13 14 (v := (0 : Int32)) d2_13 rfl rfl ?_
  obtain ⟨T4, B4, c4⟩ := o_callP B3 14 17 d2_14 rfl (hw _ (mi 30 rfl)) (hw _ (mi 31 rfl)) (hw _ (mi 17 rfl)) (hw _ (mi 32 rfl)) (by decide) (rm5 l Z a0 hw xW (0 : Int32) h3  (by decide) (own_hm hp)) 0 [(.int xW), (.int (0 : Int32))] [] pd__II_I rfl rfl (st := [(.int (0 : Int32)), (.int xW)]) rfl (Ls := #[vr a, vi xW, vi 0, vi xG, vi 4, vi 3, us, us, us, us, us, us, us, us, us, us, us]) rfl (Nat.le_of_eq rfl) (by decide) (by decide) (by decide) (by decide)
  refine c4 ?_
  refine o_pop B4 17 18 d2_17 rfl rfl ?_
  refine o_iloadN B4 18 19 (v := xG) d2_18 rfl rfl ?_
  refine o_aloadN B4 19 20 (v := (.ref a)) d2_19 rfl rfl rfl ?_
  obtain ⟨T5, B5, c5⟩ := o_getfield B4 20 23 d2_20 rfl (host := "") (Or.inl (hw _ (mi 28 rfl))) Via.refl F3 (Ls := #[vr a, vi xW, vi 0, vi xG, vi 4, vi 3, us, us, us, us, us, us, us, us, us, us, us]) (rest := [(.int xG)])
  refine c5 ?_
  refine o_icN B5 23 26 d2_23 rfl (XT.ii_lt_f (own_ho hp).1) ?_
  refine o_iloadN B5 26 27 (v := xG) d2_26 rfl rfl ?_
  refine o_iloadN B5 27 28 (v := xW) d2_27 rfl rfl ?_
  refine o_icY B5 28 46 d2_28 (XT.ii_le_t (own_ho hp).2.1) (by decide) (by decide) ?_
  refine o_iload B5 46 48 (v := (4 : Int32)) d2_46 rfl rfl ?_
  refine o_iconst B5 48 49 (1 : Int32) d2_48 rfl (by decide) ?_
  refine o_icN B5 49 52 d2_49 rfl (XT.ii_lt_f (by decide)) ?_
  refine o_iload B5 52 54 (v := (4 : Int32)) d2_52 rfl rfl ?_
  refine o_iloadN B5 54 55 (v := xW) d2_54 rfl rfl ?_
  refine o_iloadN B5 55 56 (v := xG) d2_55 rfl rfl ?_
  refine o_idiv B5 56 57 d2_56 rfl (own_ho hp).2.2.1 ?_
  refine o_icY B5 57 78 d2_57 (XT.ii_le_t (own_hq (by decide) hp)) (by decide) (by decide) ?_
  refine o_iload B5 78 80 (v := (3 : Int32)) d2_78 rfl rfl ?_
  refine o_iconst B5 80 81 (1 : Int32) d2_80 rfl (by decide) ?_
  refine o_icN B5 81 84 d2_81 rfl (XT.ii_lt_f (by decide)) ?_
  refine o_iload B5 84 86 (v := (3 : Int32)) d2_84 rfl rfl ?_
  refine o_iload B5 86 88 (v := (4 : Int32)) d2_86 rfl rfl ?_
  refine o_icY B5 88 108 d2_88 (XT.ii_le_t (by decide)) (by decide) (by decide) ?_
  refine o_iload B5 108 110 (v := (4 : Int32)) d2_108 rfl rfl ?_
  refine o_iload B5 110 112 (v := (3 : Int32)) d2_110 rfl rfl ?_
  refine o_isub B5 112 113 d2_112 rfl ?_
  refine o_topI (show ((4 : Int32) - (3 : Int32)) = (1 : Int32) by decide) ?_
  refine o_istore B5 113 115 (l' := #[vr a, vi xW, vi 0, vi xG, vi 4, vi 3, vi 1, us, us, us, us, us, us, us, us, us, us]) d2_113 rfl rfl ?_
  refine o_iloadN B5 115 116 (v := xG) d2_115 rfl rfl ?_
  refine o_i2l B5 116 117 d2_116 rfl ?_
  refine o_iload B5 117 119 (v := (1 : Int32)) d2_117 rfl rfl ?_
  refine o_iconst B5 119 120 (1 : Int32) d2_119 rfl (by decide) ?_
  refine o_iadd B5 120 121 d2_120 rfl ?_
  refine o_topI (show ((1 : Int32) + (1 : Int32)) = (2 : Int32) by decide) ?_
  refine o_i2l B5 121 122 d2_121 rfl ?_
  refine o_topJ (show (2 : Int32).toInt64 = (2 : Int64) by decide) ?_
  refine o_lmul B5 122 123 d2_122 rfl ?_
  refine o_iloadN B5 123 124 (v := (0 : Int32)) d2_123 rfl rfl ?_
  refine o_i2l B5 124 125 d2_124 rfl ?_
  refine o_topJ (show (0 : Int32).toInt64 = (0 : Int64) by decide) ?_
  refine o_lcmp B5 125 126 d2_125 rfl ?_
  refine o_ifY B5 126 146 d2_126 (XT.ll_gt_t (own_ps hp 2 2 (by decide) (by decide) (by decide))) (by decide) (by decide) ?_
  refine o_iloadN B5 146 147 (v := xG) d2_146 rfl rfl ?_
  refine o_i2l B5 147 148 d2_147 rfl ?_
  refine o_iload B5 148 150 (v := (4 : Int32)) d2_148 rfl rfl ?_
  refine o_iload B5 150 152 (v := (3 : Int32)) d2_150 rfl rfl ?_
  obtain ⟨T6, B6, c6⟩ := o_callP B5 152 155 d2_152 rfl (hw _ (mi 36 rfl)) (hw _ (mi 37 rfl)) (hw _ (mi 17 rfl)) (hw _ (mi 38 rfl)) (by decide) (rm7_4_3 l Z a0 hw  h3 ) 2 [(.int (4 : Int32)), (.int (3 : Int32))] [(.long xG.toInt64)] pd__II_J rfl rfl (st := [(.int (3 : Int32)), (.int (4 : Int32)), (.long xG.toInt64)]) rfl (Ls := #[vr a, vi xW, vi 0, vi xG, vi 4, vi 3, vi 1, us, us, us, us, us, us, us, us, us, us]) rfl (Nat.le_of_eq rfl) (by decide) (by decide) (by decide) (by decide)
  refine c6 ?_
  refine o_topJ (show (f7_4_3 ) = (4 : Int64) by decide) ?_
  refine o_lmul B6 155 156 d2_155 rfl ?_
  refine o_lstore B6 156 158 (l' := #[vr a, vi xW, vi 0, vi xG, vi 4, vi 3, vi 1, vj (xG.toInt64 * (4 : Int64)), s2, us, us, us, us, us, us, us, us]) d2_156 rfl rfl ?_
  refine o_lload B6 158 160 (v := (xG.toInt64 * (4 : Int64))) d2_158 rfl rfl ?_
  refine o_ldc2 B6 160 163 d2_160 rfl (hw _ (mi 39 rfl)) ?_
  refine o_lcmp B6 163 164 d2_163 rfl ?_
  refine o_ifY B6 164 182 d2_164 (XT.ll_le_t (own_tl hp 4 4 (by decide) (by decide) (by decide))) (by decide) (by decide) ?_
  refine o_aloadN B6 182 183 (v := (.ref a)) d2_182 rfl rfl rfl ?_
  refine o_iload B6 183 185 (v := (4 : Int32)) d2_183 rfl rfl ?_
  have F8 := (Fld.other W3 G1 (Or.inr (sn0 hw)))
  have F9 := (Exa.wr W3 hE)
  obtain ⟨T7, h7, L7, B7, N7, W7, c7⟩ := o_putfield B6 N3 ga 185 188 (v := (.int (4 : Int32))) d2_185 rfl (host := "") (Or.inl (hw _ (mi 40 rfl))) Via.refl F8 F9 (Or.inr ⟨(hw _ (mi 41 rfl)), rfl, hnm⟩) (hw _ (mi 16 rfl)) (ty := .int) (by decide) rfl rfl (Ls := #[vr a, vi xW, vi 0, vi xG, vi 4, vi 3, vi 1, vj (xG.toInt64 * (4 : Int64)), s2, us, us, us, us, us, us, us, us]) (rest := [])
  have F7 : Fld Z h7 a "com/example/hyperplane/hyperplane/Blocks" "blocksPerGroup" "I" (.int (4 : Int32)) := Fld.same W7 F8
  refine c7 ?_
  refine o_aloadN B7 188 189 (v := (.ref a)) d2_188 rfl rfl rfl ?_
  refine o_iload B7 189 191 (v := (3 : Int32)) d2_189 rfl rfl ?_
  have F11 := (Fld.other W7 (Fld.other W3 G2 (Or.inr (sn1 hw))) (Or.inr (sn2 hw)))
  have F12 := (Exa.wr W7 F9)
  obtain ⟨T10, h10, L10, B10, N10, W10, c10⟩ := o_putfield B7 N7 ga 191 194 (v := (.int (3 : Int32))) d2_191 rfl (host := "") (Or.inl (hw _ (mi 42 rfl))) Via.refl F11 F12 (Or.inr ⟨(hw _ (mi 43 rfl)), rfl, hnm⟩) (hw _ (mi 16 rfl)) (ty := .int) (by decide) rfl rfl (Ls := #[vr a, vi xW, vi 0, vi xG, vi 4, vi 3, vi 1, vj (xG.toInt64 * (4 : Int64)), s2, us, us, us, us, us, us, us, us]) (rest := [])
  have F10 : Fld Z h10 a "com/example/hyperplane/hyperplane/Blocks" "keyBlocks" "I" (.int (3 : Int32)) := Fld.same W10 F11
  refine c10 ?_
  refine o_aloadN B10 194 195 (v := (.ref a)) d2_194 rfl rfl rfl ?_
  refine o_iloadN B10 195 196 (v := xG) d2_195 rfl rfl ?_
  obtain ⟨a13, T13, h13, z13, B13, E13, A13, c13⟩ := o_newI B10 196 198 (ty := .int) (z := xG) xG.toInt.toNat 3 (hw _ (mi 44 rfl)) d2_196 rfl rfl rfl hgx.1 hgx.2 hl.1 (by decide) (by decide) (by decide) (Ls := #[vr a, vi xW, vi 0, vi xG, vi 4, vi 3, vi 1, vj (xG.toInt64 * (4 : Int64)), s2, us, us, us, us, us, us, us, us]) (rest := [(.ref a)])
  have F14 := (Exa.wr W10 F12)
  have lt15 : (a : Nat) < a13 := by rw [z13]; exact F14.lt
  have g13 : n0 ≤ a13 := by rw [z13]; exact (W10.size ▸ (W7.size ▸ (W3.size ▸ hz)))
  have s13 : n0 ≤ h13.size := Nat.le_trans (W10.size ▸ (W7.size ▸ (W3.size ▸ hz))) E13.1
  have KT16 := ((((Keep.refl h0 [a]).wr W3 (Or.inl (mi 0 rfl))).wr W7 (Or.inl (mi 0 rfl))).wr W10 (Or.inl (mi 0 rfl)))
  have y13 : h0.size ≤ a13 := by rw [z13]; exact KT16.1
  refine c13 ?_
  have F18 := (Fld.ext E13 (Fld.other W10 (Fld.other W7 (Fld.other W3 G3 (Or.inr (sn3 hw))) (Or.inr (sn4 hw))) (Or.inr (sn5 hw))))
  have F19 := (Exa.ext E13 F14)
  obtain ⟨T17, h17, L17, B17, N17, W17, c17⟩ := o_putfield B13 N10 ga 198 201 (v := (.ref a13)) d2_198 rfl (host := "") (Or.inl (hw _ (mi 45 rfl))) Via.refl F18 F19 (Or.inr ⟨(hw _ (mi 46 rfl)), rfl, hnm⟩) (hw _ (mi 16 rfl)) (ty := (.array .int)) (by decide) rfl rfl (Ls := #[vr a, vi xW, vi 0, vi xG, vi 4, vi 3, vi 1, vj (xG.toInt64 * (4 : Int64)), s2, us, us, us, us, us, us, us, us]) (rest := [])
  have F17 : Fld Z h17 a "com/example/hyperplane/hyperplane/Blocks" "groupWidths" "[I" (.ref a13) := Fld.same W17 F18
  refine c17 ?_
  refine o_aloadN B17 201 202 (v := (.ref a)) d2_201 rfl rfl rfl ?_
  refine o_iloadN B17 202 203 (v := xG) d2_202 rfl rfl ?_
  obtain ⟨a20, T20, h20, z20, B20, E20, A20, c20⟩ := o_newI B17 203 205 (ty := .int) (z := xG) xG.toInt.toNat 3 (hw _ (mi 44 rfl)) d2_203 rfl rfl rfl hgx.1 hgx.2 hl.1 (by decide) (by decide) (by decide) (Ls := #[vr a, vi xW, vi 0, vi xG, vi 4, vi 3, vi 1, vj (xG.toInt64 * (4 : Int64)), s2, us, us, us, us, us, us, us, us]) (rest := [(.ref a)])
  have F21 := (Exa.wr W17 F19)
  have lt22 : (a : Nat) < a20 := by rw [z20]; exact F21.lt
  have F23 := (A13.other W17 (Ne.symm (Nat.ne_of_lt lt15)))
  have lt24 : (a13 : Nat) < a20 := by rw [z20]; exact F23.lt
  have g20 : n0 ≤ a20 := by rw [z20]; exact (W17.size ▸ s13)
  have s20 : n0 ≤ h20.size := Nat.le_trans (W17.size ▸ s13) E20.1
  have KT25 := ((KT16.ext E13).wr W17 (Or.inl (mi 0 rfl)))
  have y20 : h0.size ≤ a20 := by rw [z20]; exact KT25.1
  refine c20 ?_
  have F27 := (Fld.ext E20 (Fld.other W17 (Fld.ext E13 (Fld.other W10 (Fld.other W7 (Fld.other W3 G4 (Or.inr (sn6 hw))) (Or.inr (sn7 hw))) (Or.inr (sn8 hw)))) (Or.inr (sn9 hw))))
  have F28 := (Exa.ext E20 F21)
  obtain ⟨T26, h26, L26, B26, N26, W26, c26⟩ := o_putfield B20 N17 ga 205 208 (v := (.ref a20)) d2_205 rfl (host := "") (Or.inl (hw _ (mi 47 rfl))) Via.refl F27 F28 (Or.inr ⟨(hw _ (mi 48 rfl)), rfl, hnm⟩) (hw _ (mi 16 rfl)) (ty := (.array .int)) (by decide) rfl rfl (Ls := #[vr a, vi xW, vi 0, vi xG, vi 4, vi 3, vi 1, vj (xG.toInt64 * (4 : Int64)), s2, us, us, us, us, us, us, us, us]) (rest := [])
  have F26 : Fld Z h26 a "com/example/hyperplane/hyperplane/Blocks" "firstWords" "[I" (.ref a20) := Fld.same W26 F27
  refine c26 ?_
  refine o_aloadN B26 208 209 (v := (.ref a)) d2_208 rfl rfl rfl ?_
  refine o_iloadN B26 209 210 (v := xG) d2_209 rfl rfl ?_
  obtain ⟨a29, T29, h29, z29, B29, E29, A29, c29⟩ := o_newI B26 210 212 (ty := .int) (z := xG) xG.toInt.toNat 3 (hw _ (mi 44 rfl)) d2_210 rfl rfl rfl hgx.1 hgx.2 hl.1 (by decide) (by decide) (by decide) (Ls := #[vr a, vi xW, vi 0, vi xG, vi 4, vi 3, vi 1, vj (xG.toInt64 * (4 : Int64)), s2, us, us, us, us, us, us, us, us]) (rest := [(.ref a)])
  have F30 := (Exa.wr W26 F28)
  have lt31 : (a : Nat) < a29 := by rw [z29]; exact F30.lt
  have F32 := ((F23.ext E20).other W26 (Ne.symm (Nat.ne_of_lt lt15)))
  have lt33 : (a13 : Nat) < a29 := by rw [z29]; exact F32.lt
  have F34 := (A20.other W26 (Ne.symm (Nat.ne_of_lt lt22)))
  have lt35 : (a20 : Nat) < a29 := by rw [z29]; exact F34.lt
  have g29 : n0 ≤ a29 := by rw [z29]; exact (W26.size ▸ s20)
  have s29 : n0 ≤ h29.size := Nat.le_trans (W26.size ▸ s20) E29.1
  have KT36 := ((KT25.ext E20).wr W26 (Or.inl (mi 0 rfl)))
  have y29 : h0.size ≤ a29 := by rw [z29]; exact KT36.1
  refine c29 ?_
  have F38 := (Fld.ext E29 (Fld.other W26 (Fld.ext E20 (Fld.other W17 (Fld.ext E13 (Fld.other W10 (Fld.other W7 (Fld.other W3 G5 (Or.inr (sn10 hw))) (Or.inr (sn11 hw))) (Or.inr (sn12 hw)))) (Or.inr (sn13 hw)))) (Or.inr (sn14 hw))))
  have F39 := (Exa.ext E29 F30)
  obtain ⟨T37, h37, L37, B37, N37, W37, c37⟩ := o_putfield B29 N26 ga 212 215 (v := (.ref a29)) d2_212 rfl (host := "") (Or.inl (hw _ (mi 49 rfl))) Via.refl F38 F39 (Or.inr ⟨(hw _ (mi 50 rfl)), rfl, hnm⟩) (hw _ (mi 16 rfl)) (ty := (.array .int)) (by decide) rfl rfl (Ls := #[vr a, vi xW, vi 0, vi xG, vi 4, vi 3, vi 1, vj (xG.toInt64 * (4 : Int64)), s2, us, us, us, us, us, us, us, us]) (rest := [])
  have F37 : Fld Z h37 a "com/example/hyperplane/hyperplane/Blocks" "shifts" "[I" (.ref a29) := Fld.same W37 F38
  refine c37 ?_
  refine o_aloadN B37 215 216 (v := (.ref a)) d2_215 rfl rfl rfl ?_
  refine o_iloadN B37 216 217 (v := xG) d2_216 rfl rfl ?_
  obtain ⟨a40, T40, h40, z40, B40, E40, A40, c40⟩ := o_newJ B37 217 219 (z := xG) xG.toInt.toNat 3 (hw _ (mi 51 rfl)) d2_217 rfl rfl hgx.1 hgx.2 hl.1 (by decide) (by decide) (by decide) (Ls := #[vr a, vi xW, vi 0, vi xG, vi 4, vi 3, vi 1, vj (xG.toInt64 * (4 : Int64)), s2, us, us, us, us, us, us, us, us]) (rest := [(.ref a)])
  have F41 := (Exa.wr W37 F39)
  have lt42 : (a : Nat) < a40 := by rw [z40]; exact F41.lt
  have F43 := ((F32.ext E29).other W37 (Ne.symm (Nat.ne_of_lt lt15)))
  have lt44 : (a13 : Nat) < a40 := by rw [z40]; exact F43.lt
  have F45 := ((F34.ext E29).other W37 (Ne.symm (Nat.ne_of_lt lt22)))
  have lt46 : (a20 : Nat) < a40 := by rw [z40]; exact F45.lt
  have F47 := (A29.other W37 (Ne.symm (Nat.ne_of_lt lt31)))
  have lt48 : (a29 : Nat) < a40 := by rw [z40]; exact F47.lt
  have g40 : n0 ≤ a40 := by rw [z40]; exact (W37.size ▸ s29)
  have s40 : n0 ≤ h40.size := Nat.le_trans (W37.size ▸ s29) E40.1
  have KT49 := ((KT36.ext E29).wr W37 (Or.inl (mi 0 rfl)))
  have y40 : h0.size ≤ a40 := by rw [z40]; exact KT49.1
  refine c40 ?_
  have F51 := (Fld.ext E40 (Fld.other W37 (Fld.ext E29 (Fld.other W26 (Fld.ext E20 (Fld.other W17 (Fld.ext E13 (Fld.other W10 (Fld.other W7 (Fld.other W3 G6 (Or.inr (sn15 hw))) (Or.inr (sn16 hw))) (Or.inr (sn17 hw)))) (Or.inr (sn18 hw)))) (Or.inr (sn19 hw)))) (Or.inr (sn20 hw))))
  have F52 := (Exa.ext E40 F41)
  obtain ⟨T50, h50, L50, B50, N50, W50, c50⟩ := o_putfield B40 N37 ga 219 222 (v := (.ref a40)) d2_219 rfl (host := "") (Or.inl (hw _ (mi 52 rfl))) Via.refl F51 F52 (Or.inr ⟨(hw _ (mi 53 rfl)), rfl, hnm⟩) (hw _ (mi 16 rfl)) (ty := (.array .long)) (by decide) rfl rfl (Ls := #[vr a, vi xW, vi 0, vi xG, vi 4, vi 3, vi 1, vj (xG.toInt64 * (4 : Int64)), s2, us, us, us, us, us, us, us, us]) (rest := [])
  have F50 : Fld Z h50 a "com/example/hyperplane/hyperplane/Blocks" "lowMasks" "[J" (.ref a40) := Fld.same W50 F51
  refine c50 ?_
  refine o_aloadN B50 222 223 (v := (.ref a)) d2_222 rfl rfl rfl ?_
  refine o_iloadN B50 223 224 (v := xG) d2_223 rfl rfl ?_
  obtain ⟨a53, T53, h53, z53, B53, E53, A53, c53⟩ := o_newJ B50 224 226 (z := xG) xG.toInt.toNat 3 (hw _ (mi 51 rfl)) d2_224 rfl rfl hgx.1 hgx.2 hl.1 (by decide) (by decide) (by decide) (Ls := #[vr a, vi xW, vi 0, vi xG, vi 4, vi 3, vi 1, vj (xG.toInt64 * (4 : Int64)), s2, us, us, us, us, us, us, us, us]) (rest := [(.ref a)])
  have F54 := (Exa.wr W50 F52)
  have lt55 : (a : Nat) < a53 := by rw [z53]; exact F54.lt
  have F56 := ((F43.ext E40).other W50 (Ne.symm (Nat.ne_of_lt lt15)))
  have lt57 : (a13 : Nat) < a53 := by rw [z53]; exact F56.lt
  have F58 := ((F45.ext E40).other W50 (Ne.symm (Nat.ne_of_lt lt22)))
  have lt59 : (a20 : Nat) < a53 := by rw [z53]; exact F58.lt
  have F60 := ((F47.ext E40).other W50 (Ne.symm (Nat.ne_of_lt lt31)))
  have lt61 : (a29 : Nat) < a53 := by rw [z53]; exact F60.lt
  have F62 := (A40.other W50 (Ne.symm (Nat.ne_of_lt lt42)))
  have lt63 : (a40 : Nat) < a53 := by rw [z53]; exact F62.lt
  have g53 : n0 ≤ a53 := by rw [z53]; exact (W50.size ▸ s40)
  have s53 : n0 ≤ h53.size := Nat.le_trans (W50.size ▸ s40) E53.1
  have KT64 := ((KT49.ext E40).wr W50 (Or.inl (mi 0 rfl)))
  have y53 : h0.size ≤ a53 := by rw [z53]; exact KT64.1
  refine c53 ?_
  have F66 := (Fld.ext E53 (Fld.other W50 (Fld.ext E40 (Fld.other W37 (Fld.ext E29 (Fld.other W26 (Fld.ext E20 (Fld.other W17 (Fld.ext E13 (Fld.other W10 (Fld.other W7 (Fld.other W3 G7 (Or.inr (sn21 hw))) (Or.inr (sn22 hw))) (Or.inr (sn23 hw)))) (Or.inr (sn24 hw)))) (Or.inr (sn25 hw)))) (Or.inr (sn26 hw)))) (Or.inr (sn27 hw))))
  have F67 := (Exa.ext E53 F54)
  obtain ⟨T65, h65, L65, B65, N65, W65, c65⟩ := o_putfield B53 N50 ga 226 229 (v := (.ref a53)) d2_226 rfl (host := "") (Or.inl (hw _ (mi 54 rfl))) Via.refl F66 F67 (Or.inr ⟨(hw _ (mi 55 rfl)), rfl, hnm⟩) (hw _ (mi 16 rfl)) (ty := (.array .long)) (by decide) rfl rfl (Ls := #[vr a, vi xW, vi 0, vi xG, vi 4, vi 3, vi 1, vj (xG.toInt64 * (4 : Int64)), s2, us, us, us, us, us, us, us, us]) (rest := [])
  have F65 : Fld Z h65 a "com/example/hyperplane/hyperplane/Blocks" "highMasks" "[J" (.ref a53) := Fld.same W65 F66
  refine c65 ?_
  refine o_aloadN B65 229 230 (v := (.ref a)) d2_229 rfl rfl rfl ?_
  refine o_iloadN B65 230 231 (v := xG) d2_230 rfl rfl ?_
  refine o_iload B65 231 233 (v := (4 : Int32)) d2_231 rfl rfl ?_
  refine o_imul B65 233 234 d2_233 rfl ?_
  obtain ⟨a68, T68, h68, z68, B68, E68, A68, c68⟩ := o_newI B65 234 236 (ty := .int) (z := (xG * (4 : Int32))) (xG.toInt.toNat * 4) 12 (hw _ (mi 44 rfl)) d2_234 rfl rfl rfl hgp.1 hgp.2 (Nat.mul_le_mul_right _ hl.1) (by decide) (by decide) (by decide) (Ls := #[vr a, vi xW, vi 0, vi xG, vi 4, vi 3, vi 1, vj (xG.toInt64 * (4 : Int64)), s2, us, us, us, us, us, us, us, us]) (rest := [(.ref a)])
  have F69 := (Exa.wr W65 F67)
  have lt70 : (a : Nat) < a68 := by rw [z68]; exact F69.lt
  have F71 := ((F56.ext E53).other W65 (Ne.symm (Nat.ne_of_lt lt15)))
  have lt72 : (a13 : Nat) < a68 := by rw [z68]; exact F71.lt
  have F73 := ((F58.ext E53).other W65 (Ne.symm (Nat.ne_of_lt lt22)))
  have lt74 : (a20 : Nat) < a68 := by rw [z68]; exact F73.lt
  have F75 := ((F60.ext E53).other W65 (Ne.symm (Nat.ne_of_lt lt31)))
  have lt76 : (a29 : Nat) < a68 := by rw [z68]; exact F75.lt
  have F77 := ((F62.ext E53).other W65 (Ne.symm (Nat.ne_of_lt lt42)))
  have lt78 : (a40 : Nat) < a68 := by rw [z68]; exact F77.lt
  have F79 := (A53.other W65 (Ne.symm (Nat.ne_of_lt lt55)))
  have lt80 : (a53 : Nat) < a68 := by rw [z68]; exact F79.lt
  have g68 : n0 ≤ a68 := by rw [z68]; exact (W65.size ▸ s53)
  have s68 : n0 ≤ h68.size := Nat.le_trans (W65.size ▸ s53) E68.1
  have KT81 := ((KT64.ext E53).wr W65 (Or.inl (mi 0 rfl)))
  have y68 : h0.size ≤ a68 := by rw [z68]; exact KT81.1
  refine c68 ?_
  have F83 := (Fld.ext E68 (Fld.other W65 (Fld.ext E53 (Fld.other W50 (Fld.ext E40 (Fld.other W37 (Fld.ext E29 (Fld.other W26 (Fld.ext E20 (Fld.other W17 (Fld.ext E13 (Fld.other W10 (Fld.other W7 (Fld.other W3 G8 (Or.inr (sn28 hw))) (Or.inr (sn29 hw))) (Or.inr (sn30 hw)))) (Or.inr (sn31 hw)))) (Or.inr (sn32 hw)))) (Or.inr (sn33 hw)))) (Or.inr (sn34 hw)))) (Or.inr (sn35 hw))))
  have F84 := (Exa.ext E68 F69)
  obtain ⟨T82, h82, L82, B82, N82, W82, c82⟩ := o_putfield B68 N65 ga 236 239 (v := (.ref a68)) d2_236 rfl (host := "") (Or.inl (hw _ (mi 56 rfl))) Via.refl F83 F84 (Or.inr ⟨(hw _ (mi 57 rfl)), rfl, hnm⟩) (hw _ (mi 16 rfl)) (ty := (.array .int)) (by decide) rfl rfl (Ls := #[vr a, vi xW, vi 0, vi xG, vi 4, vi 3, vi 1, vj (xG.toInt64 * (4 : Int64)), s2, us, us, us, us, us, us, us, us]) (rest := [])
  have F82 : Fld Z h82 a "com/example/hyperplane/hyperplane/Blocks" "blockOffsets" "[I" (.ref a68) := Fld.same W82 F83
  refine c82 ?_
  refine o_aloadN B82 239 240 (v := (.ref a)) d2_239 rfl rfl rfl ?_
  refine o_iloadN B82 240 241 (v := xG) d2_240 rfl rfl ?_
  refine o_iload B82 241 243 (v := (4 : Int32)) d2_241 rfl rfl ?_
  refine o_imul B82 243 244 d2_243 rfl ?_
  obtain ⟨a85, T85, h85, z85, B85, E85, A85, c85⟩ := o_newI B82 244 246 (ty := .int) (z := (xG * (4 : Int32))) (xG.toInt.toNat * 4) 12 (hw _ (mi 44 rfl)) d2_244 rfl rfl rfl hgp.1 hgp.2 (Nat.mul_le_mul_right _ hl.1) (by decide) (by decide) (by decide) (Ls := #[vr a, vi xW, vi 0, vi xG, vi 4, vi 3, vi 1, vj (xG.toInt64 * (4 : Int64)), s2, us, us, us, us, us, us, us, us]) (rest := [(.ref a)])
  have F86 := (Exa.wr W82 F84)
  have lt87 : (a : Nat) < a85 := by rw [z85]; exact F86.lt
  have F88 := ((F71.ext E68).other W82 (Ne.symm (Nat.ne_of_lt lt15)))
  have lt89 : (a13 : Nat) < a85 := by rw [z85]; exact F88.lt
  have F90 := ((F73.ext E68).other W82 (Ne.symm (Nat.ne_of_lt lt22)))
  have lt91 : (a20 : Nat) < a85 := by rw [z85]; exact F90.lt
  have F92 := ((F75.ext E68).other W82 (Ne.symm (Nat.ne_of_lt lt31)))
  have lt93 : (a29 : Nat) < a85 := by rw [z85]; exact F92.lt
  have F94 := ((F77.ext E68).other W82 (Ne.symm (Nat.ne_of_lt lt42)))
  have lt95 : (a40 : Nat) < a85 := by rw [z85]; exact F94.lt
  have F96 := ((F79.ext E68).other W82 (Ne.symm (Nat.ne_of_lt lt55)))
  have lt97 : (a53 : Nat) < a85 := by rw [z85]; exact F96.lt
  have F98 := (A68.other W82 (Ne.symm (Nat.ne_of_lt lt70)))
  have lt99 : (a68 : Nat) < a85 := by rw [z85]; exact F98.lt
  have g85 : n0 ≤ a85 := by rw [z85]; exact (W82.size ▸ s68)
  have s85 : n0 ≤ h85.size := Nat.le_trans (W82.size ▸ s68) E85.1
  have KT100 := ((KT81.ext E68).wr W82 (Or.inl (mi 0 rfl)))
  have y85 : h0.size ≤ a85 := by rw [z85]; exact KT100.1
  refine c85 ?_
  have F102 := (Fld.ext E85 (Fld.other W82 (Fld.ext E68 (Fld.other W65 (Fld.ext E53 (Fld.other W50 (Fld.ext E40 (Fld.other W37 (Fld.ext E29 (Fld.other W26 (Fld.ext E20 (Fld.other W17 (Fld.ext E13 (Fld.other W10 (Fld.other W7 (Fld.other W3 G9 (Or.inr (sn36 hw))) (Or.inr (sn37 hw))) (Or.inr (sn38 hw)))) (Or.inr (sn39 hw)))) (Or.inr (sn40 hw)))) (Or.inr (sn41 hw)))) (Or.inr (sn42 hw)))) (Or.inr (sn43 hw)))) (Or.inr (sn44 hw))))
  have F103 := (Exa.ext E85 F86)
  obtain ⟨T101, h101, L101, B101, N101, W101, c101⟩ := o_putfield B85 N82 ga 246 249 (v := (.ref a85)) d2_246 rfl (host := "") (Or.inl (hw _ (mi 58 rfl))) Via.refl F102 F103 (Or.inr ⟨(hw _ (mi 59 rfl)), rfl, hnm⟩) (hw _ (mi 16 rfl)) (ty := (.array .int)) (by decide) rfl rfl (Ls := #[vr a, vi xW, vi 0, vi xG, vi 4, vi 3, vi 1, vj (xG.toInt64 * (4 : Int64)), s2, us, us, us, us, us, us, us, us]) (rest := [])
  have F101 : Fld Z h101 a "com/example/hyperplane/hyperplane/Blocks" "blockWidths" "[I" (.ref a85) := Fld.same W101 F102
  refine c101 ?_
  refine o_aloadN B101 249 250 (v := (.ref a)) d2_249 rfl rfl rfl ?_
  refine o_iloadN B101 250 251 (v := xG) d2_250 rfl rfl ?_
  refine o_iload B101 251 253 (v := (4 : Int32)) d2_251 rfl rfl ?_
  refine o_imul B101 253 254 d2_253 rfl ?_
  obtain ⟨a104, T104, h104, z104, B104, E104, A104, c104⟩ := o_newJ B101 254 256 (z := (xG * (4 : Int32))) (xG.toInt.toNat * 4) 12 (hw _ (mi 51 rfl)) d2_254 rfl rfl hgp.1 hgp.2 (Nat.mul_le_mul_right _ hl.1) (by decide) (by decide) (by decide) (Ls := #[vr a, vi xW, vi 0, vi xG, vi 4, vi 3, vi 1, vj (xG.toInt64 * (4 : Int64)), s2, us, us, us, us, us, us, us, us]) (rest := [(.ref a)])
  have F105 := (Exa.wr W101 F103)
  have lt106 : (a : Nat) < a104 := by rw [z104]; exact F105.lt
  have F107 := ((F88.ext E85).other W101 (Ne.symm (Nat.ne_of_lt lt15)))
  have lt108 : (a13 : Nat) < a104 := by rw [z104]; exact F107.lt
  have F109 := ((F90.ext E85).other W101 (Ne.symm (Nat.ne_of_lt lt22)))
  have lt110 : (a20 : Nat) < a104 := by rw [z104]; exact F109.lt
  have F111 := ((F92.ext E85).other W101 (Ne.symm (Nat.ne_of_lt lt31)))
  have lt112 : (a29 : Nat) < a104 := by rw [z104]; exact F111.lt
  have F113 := ((F94.ext E85).other W101 (Ne.symm (Nat.ne_of_lt lt42)))
  have lt114 : (a40 : Nat) < a104 := by rw [z104]; exact F113.lt
  have F115 := ((F96.ext E85).other W101 (Ne.symm (Nat.ne_of_lt lt55)))
  have lt116 : (a53 : Nat) < a104 := by rw [z104]; exact F115.lt
  have F117 := ((F98.ext E85).other W101 (Ne.symm (Nat.ne_of_lt lt70)))
  have lt118 : (a68 : Nat) < a104 := by rw [z104]; exact F117.lt
  have F119 := (A85.other W101 (Ne.symm (Nat.ne_of_lt lt87)))
  have lt120 : (a85 : Nat) < a104 := by rw [z104]; exact F119.lt
  have g104 : n0 ≤ a104 := by rw [z104]; exact (W101.size ▸ s85)
  have s104 : n0 ≤ h104.size := Nat.le_trans (W101.size ▸ s85) E104.1
  have KT121 := ((KT100.ext E85).wr W101 (Or.inl (mi 0 rfl)))
  have y104 : h0.size ≤ a104 := by rw [z104]; exact KT121.1
  refine c104 ?_
  have F123 := (Fld.ext E104 (Fld.other W101 (Fld.ext E85 (Fld.other W82 (Fld.ext E68 (Fld.other W65 (Fld.ext E53 (Fld.other W50 (Fld.ext E40 (Fld.other W37 (Fld.ext E29 (Fld.other W26 (Fld.ext E20 (Fld.other W17 (Fld.ext E13 (Fld.other W10 (Fld.other W7 (Fld.other W3 G10 (Or.inr (sn45 hw))) (Or.inr (sn46 hw))) (Or.inr (sn47 hw)))) (Or.inr (sn48 hw)))) (Or.inr (sn49 hw)))) (Or.inr (sn50 hw)))) (Or.inr (sn51 hw)))) (Or.inr (sn52 hw)))) (Or.inr (sn53 hw)))) (Or.inr (sn54 hw))))
  have F124 := (Exa.ext E104 F105)
  obtain ⟨T122, h122, L122, B122, N122, W122, c122⟩ := o_putfield B104 N101 ga 256 259 (v := (.ref a104)) d2_256 rfl (host := "") (Or.inl (hw _ (mi 60 rfl))) Via.refl F123 F124 (Or.inr ⟨(hw _ (mi 61 rfl)), rfl, hnm⟩) (hw _ (mi 16 rfl)) (ty := (.array .long)) (by decide) rfl rfl (Ls := #[vr a, vi xW, vi 0, vi xG, vi 4, vi 3, vi 1, vj (xG.toInt64 * (4 : Int64)), s2, us, us, us, us, us, us, us, us]) (rest := [])
  have F122 : Fld Z h122 a "com/example/hyperplane/hyperplane/Blocks" "blockMasks" "[J" (.ref a104) := Fld.same W122 F123
  refine c122 ?_
  refine o_iconst B122 259 260 (0 : Int32) d2_259 rfl (by decide) ?_
  refine o_istore B122 260 262 (l' := #[vr a, vi xW, vi 0, vi xG, vi 4, vi 3, vi 1, vj (xG.toInt64 * (4 : Int64)), s2, vi 0, us, us, us, us, us, us, us]) d2_260 rfl rfl ?_
  refine o_iconst B122 262 263 (0 : Int32) d2_262 rfl (by decide) ?_
  refine o_istore B122 263 265 (l' := #[vr a, vi xW, vi 0, vi xG, vi 4, vi 3, vi 1, vj (xG.toInt64 * (4 : Int64)), s2, vi 0, vi 0, us, us, us, us, us, us]) d2_263 rfl rfl ?_
  have F125 := (Exa.wr W122 F124)
  have F126 := (Fld.other W122 (Fld.ext E104 (Fld.other W101 (Fld.ext E85 (Fld.other W82 (Fld.ext E68 (Fld.other W65 (Fld.ext E53 (Fld.other W50 (Fld.ext E40 (Fld.other W37 (Fld.ext E29 (Fld.other W26 (Fld.ext E20 F17) (Or.inr (sn55 hw)))) (Or.inr (sn56 hw)))) (Or.inr (sn57 hw)))) (Or.inr (sn58 hw)))) (Or.inr (sn59 hw)))) (Or.inr (sn60 hw)))) (Or.inr (sn61 hw)))
  have F127 := (Fld.other W122 (Fld.ext E104 (Fld.other W101 (Fld.ext E85 (Fld.other W82 (Fld.ext E68 (Fld.other W65 (Fld.ext E53 (Fld.other W50 (Fld.ext E40 (Fld.other W37 (Fld.ext E29 F26) (Or.inr (sn62 hw)))) (Or.inr (sn63 hw)))) (Or.inr (sn64 hw)))) (Or.inr (sn65 hw)))) (Or.inr (sn66 hw)))) (Or.inr (sn67 hw)))
  have F128 := (Fld.other W122 (Fld.ext E104 (Fld.other W101 (Fld.ext E85 (Fld.other W82 (Fld.ext E68 (Fld.other W65 (Fld.ext E53 (Fld.other W50 (Fld.ext E40 F37) (Or.inr (sn68 hw)))) (Or.inr (sn69 hw)))) (Or.inr (sn70 hw)))) (Or.inr (sn71 hw)))) (Or.inr (sn72 hw)))
  have F129 := (Fld.other W122 (Fld.ext E104 (Fld.other W101 (Fld.ext E85 (Fld.other W82 (Fld.ext E68 (Fld.other W65 (Fld.ext E53 F50) (Or.inr (sn73 hw)))) (Or.inr (sn74 hw)))) (Or.inr (sn75 hw)))) (Or.inr (sn76 hw)))
  have F130 := (Fld.other W122 (Fld.ext E104 (Fld.other W101 (Fld.ext E85 (Fld.other W82 (Fld.ext E68 F65) (Or.inr (sn77 hw)))) (Or.inr (sn78 hw)))) (Or.inr (sn79 hw)))
  have F131 := (Fld.other W122 (Fld.ext E104 (Fld.other W101 (Fld.ext E85 F82) (Or.inr (sn80 hw)))) (Or.inr (sn81 hw)))
  have F132 := (Fld.other W122 (Fld.ext E104 F101) (Or.inr (sn82 hw)))
  have F133 := ((F107.ext E104).other W122 (Ne.symm (Nat.ne_of_lt lt15)))
  have F134 := ((F109.ext E104).other W122 (Ne.symm (Nat.ne_of_lt lt22)))
  have F135 := ((F111.ext E104).other W122 (Ne.symm (Nat.ne_of_lt lt31)))
  have F136 := ((F113.ext E104).other W122 (Ne.symm (Nat.ne_of_lt lt42)))
  have F137 := ((F115.ext E104).other W122 (Ne.symm (Nat.ne_of_lt lt55)))
  have F138 := ((F117.ext E104).other W122 (Ne.symm (Nat.ne_of_lt lt70)))
  have F139 := ((F119.ext E104).other W122 (Ne.symm (Nat.ne_of_lt lt87)))
  have F140 := (A104.other W122 (Ne.symm (Nat.ne_of_lt lt106)))
  refine lpO_4 a0 hw xW xG (3 : Int32) (1 : Int32) (xG.toInt64 * (4 : Int64)) a a13 a20 a29 a40 a53 a68 a85 a104 lt15 lt24 lt35 lt48 lt63 lt80 lt99 lt120 ga hp ⟨by omega, hl.2.1⟩ xG.toInt.toNat 0 _ _ _ _ _ _ _ _ _ _ _ _ (Nat.zero_add _) One.u One.u One.u One.u One.u One.u B122 N122 (W122.size ▸ s104) F125 F126 F127 F128 F129 F130 F131 F132 F122 F133 (F134.alt (fun j _ => if_neg (by omega))) (F135.alt (fun j _ => if_neg (by omega))) (F136.alt (fun j _ => if_neg (by omega))) (F137.alt (fun j _ => if_neg (by omega))) F138 F139 (F140.alt (fun j _ => if_neg (by omega))) (fun T9 h9 L9 s9 i9 u11 u12 u13 u14 u15 u16 e11 e12 e13 e14 e15 e16 g1 g6 g7 B9 N9 K9 C_gw C_fw C_sh C_lm C_hm C_bo C_bw C_bm => ?_)
  have z9 : n0 ≤ h9.size := Nat.le_trans (W122.size ▸ s104) K9.1
  refine o_aloadN B9 515 516 (v := (.ref a)) d2_515 rfl rfl rfl ?_
  refine o_lload B9 516 518 (v := (xG.toInt64 * (4 : Int64))) d2_516 rfl rfl ?_
  refine o_iloadN B9 518 519 (v := xG) d2_518 rfl rfl ?_
  refine o_i2l B9 519 520 d2_519 rfl ?_
  refine o_ldiv B9 520 521 d2_520 rfl (own_gz hp) ?_
  refine o_topJ (own_tg hp 4 4 (by decide) (by decide) (by decide)) ?_
  refine o_l2i B9 521 522 d2_521 rfl ?_
  refine o_topI (show (4 : Int64).toInt32 = (4 : Int32) by decide) ?_
  obtain ⟨a141, T141, h141, z141, B141, E141, A141, c141⟩ := o_newJ B9 522 524 (z := (4 : Int32)) 4 4 (hw _ (mi 51 rfl)) d2_522 rfl rfl (by decide) (by decide) (by decide) (by decide) (by decide) (by decide) (Ls := #[vr a, vi xW, vi 0, vi xG, vi 4, vi 3, vi 1, vj (xG.toInt64 * (4 : Int64)), s2, vi s9, vi i9, u11, u12, u13, u14, u15, u16]) (rest := [(.ref a)])
  have F142 := (F125.keep K9)
  have lt143 : (a : Nat) < a141 := by rw [z141]; exact F142.lt
  have lt144 : (a13 : Nat) < a141 := by rw [z141]; exact C_gw.lt
  have lt145 : (a20 : Nat) < a141 := by rw [z141]; exact C_fw.lt
  have lt146 : (a29 : Nat) < a141 := by rw [z141]; exact C_sh.lt
  have lt147 : (a40 : Nat) < a141 := by rw [z141]; exact C_lm.lt
  have lt148 : (a53 : Nat) < a141 := by rw [z141]; exact C_hm.lt
  have lt149 : (a68 : Nat) < a141 := by rw [z141]; exact C_bo.lt
  have lt150 : (a85 : Nat) < a141 := by rw [z141]; exact C_bw.lt
  have lt151 : (a104 : Nat) < a141 := by rw [z141]; exact C_bm.lt
  have g141 : n0 ≤ a141 := by rw [z141]; exact z9
  have s141 : n0 ≤ h141.size := Nat.le_trans z9 E141.1
  have KT152 := (((KT121.ext E104).wr W122 (Or.inl (mi 0 rfl))).trans K9 (allS (Or.inr y13) (allS (Or.inr y20) (allS (Or.inr y29) (allS (Or.inr y40) (allS (Or.inr y53) (allS (Or.inr y68) (allS (Or.inr y85) (allS (Or.inr y104) all0)))))))))
  have y141 : h0.size ≤ a141 := by rw [z141]; exact KT152.1
  refine c141 ?_
  have F154 := (Fld.ext E141 ((Fld.other W122 (Fld.ext E104 (Fld.other W101 (Fld.ext E85 (Fld.other W82 (Fld.ext E68 (Fld.other W65 (Fld.ext E53 (Fld.other W50 (Fld.ext E40 (Fld.other W37 (Fld.ext E29 (Fld.other W26 (Fld.ext E20 (Fld.other W17 (Fld.ext E13 (Fld.other W10 (Fld.other W7 (Fld.other W3 G11 (Or.inr (sn83 hw))) (Or.inr (sn84 hw))) (Or.inr (sn85 hw)))) (Or.inr (sn86 hw)))) (Or.inr (sn87 hw)))) (Or.inr (sn88 hw)))) (Or.inr (sn89 hw)))) (Or.inr (sn90 hw)))) (Or.inr (sn91 hw)))) (Or.inr (sn92 hw)))) (Or.inr (sn93 hw))).keep K9 (ninS (Nat.ne_of_lt lt15) (ninS (Nat.ne_of_lt lt22) (ninS (Nat.ne_of_lt lt31) (ninS (Nat.ne_of_lt lt42) (ninS (Nat.ne_of_lt lt55) (ninS (Nat.ne_of_lt lt70) (ninS (Nat.ne_of_lt lt87) (ninS (Nat.ne_of_lt lt106) nin0))))))))))
  have F155 := (Exa.ext E141 F142)
  obtain ⟨T153, h153, L153, B153, N153, W153, c153⟩ := o_putfield B141 N9 ga 524 527 (v := (.ref a141)) d2_524 rfl (host := "") (Or.inl (hw _ (mi 62 rfl))) Via.refl F154 F155 (Or.inr ⟨(hw _ (mi 63 rfl)), rfl, hnm⟩) (hw _ (mi 16 rfl)) (ty := (.array .long)) (by decide) rfl rfl (Ls := #[vr a, vi xW, vi 0, vi xG, vi 4, vi 3, vi 1, vj (xG.toInt64 * (4 : Int64)), s2, vi s9, vi i9, u11, u12, u13, u14, u15, u16]) (rest := [])
  have F153 : Fld Z h153 a "com/example/hyperplane/hyperplane/Blocks" "keys" "[J" (.ref a141) := Fld.same W153 F154
  refine c153 ?_
  refine o_iload B153 527 529 (v := (3 : Int32)) d2_527 rfl rfl ?_
  refine o_bipush B153 529 531 (64 : Int32) d2_529 rfl (by decide) ?_
  refine o_icY B153 531 538 d2_531 (XT.ii_ne_t (by decide)) (by decide) (by decide) ?_
  refine o_lconst B153 538 539 (1 : Int64) d2_538 rfl (by decide) ?_
  refine o_iload B153 539 541 (v := (3 : Int32)) d2_539 rfl rfl ?_
  refine o_lshl B153 541 542 d2_541 rfl ?_
  refine o_topJ (show ((1 : Int64) <<< ((3 : Int32).toInt64 &&& 63)) = (8 : Int64) by decide) ?_
  refine o_lconst B153 542 543 (1 : Int64) d2_542 rfl (by decide) ?_
  refine o_lsub B153 543 544 d2_543 rfl ?_
  refine o_topJ (show ((8 : Int64) - (1 : Int64)) = (7 : Int64) by decide) ?_
  refine o_lstore B153 544 546 (l' := #[vr a, vi xW, vi 0, vi xG, vi 4, vi 3, vi 1, vj (xG.toInt64 * (4 : Int64)), s2, vi s9, vj 7, s2, u12, u13, u14, u15, u16]) d2_544 rfl (st2 rfl (One.val rfl) rfl e11 rfl) ?_
  refine o_iconst B153 546 547 (0 : Int32) d2_546 rfl (by decide) ?_
  refine o_istore B153 547 549 (l' := #[vr a, vi xW, vi 0, vi xG, vi 4, vi 3, vi 1, vj (xG.toInt64 * (4 : Int64)), s2, vi s9, vj 7, s2, vi 0, u13, u14, u15, u16]) d2_547 rfl (st1 rfl e12 rfl rfl) ?_
  refine o_iload B153 549 551 (v := (0 : Int32)) d2_549 rfl rfl ?_
  refine o_aloadN B153 551 552 (v := (.ref a)) d2_551 rfl rfl rfl ?_
  obtain ⟨T156, B156, c156⟩ := o_getfield B153 552 555 d2_552 rfl (host := "") (Or.inl (hw _ (mi 62 rfl))) Via.refl F153 (Ls := #[vr a, vi xW, vi 0, vi xG, vi 4, vi 3, vi 1, vj (xG.toInt64 * (4 : Int64)), s2, vi s9, vj 7, s2, vi 0, u13, u14, u15, u16]) (rest := [(.int (0 : Int32))])
  refine c156 ?_
  have F158 := (A141.other W153 (Ne.symm (Nat.ne_of_lt lt143)))
  refine o_alenJ B156 555 556 F158 (4 : Int32) d2_555 rfl (by decide) ?_
  refine o_icN B156 556 559 d2_556 rfl (XT.ii_ge_f (by decide)) ?_
  refine o_aloadN B156 559 560 (v := (.ref a)) d2_559 rfl rfl rfl ?_
  obtain ⟨T159, B159, c159⟩ := o_getfield B156 560 563 d2_560 rfl (host := "") (Or.inl (hw _ (mi 62 rfl))) Via.refl F153 (Ls := #[vr a, vi xW, vi 0, vi xG, vi 4, vi 3, vi 1, vj (xG.toInt64 * (4 : Int64)), s2, vi s9, vj 7, s2, vi 0, u13, u14, u15, u16]) (rest := [])
  refine c159 ?_
  refine o_iload B159 563 565 (v := (0 : Int32)) d2_563 rfl rfl ?_
  refine o_lload B159 565 567 (v := (7 : Int64)) d2_565 rfl rfl ?_
  obtain ⟨T160, h160, L160, B160, N160, W160, Q160, c160⟩ := o_lastore B159 N153 g141 567 568 F158 (j := (0 : Int32)) (x := (7 : Int64)) 0 (7 : Int64) d2_567 rfl (by decide) (by decide) (by decide) rfl (Ls := #[vr a, vi xW, vi 0, vi xG, vi 4, vi 3, vi 1, vj (xG.toInt64 * (4 : Int64)), s2, vi s9, vj 7, s2, vi 0, u13, u14, u15, u16]) (rest := [])
  have A160 : AJ Z h160 a141 4 (w2_4_3c_1 xW xG) := Q160
  refine c160 ?_
  refine o_lload B160 568 570 (v := (7 : Int64)) d2_568 rfl rfl ?_
  refine o_lload B160 570 572 (v := (7 : Int64)) d2_570 rfl rfl ?_
  refine o_lneg B160 572 573 d2_572 rfl ?_
  refine o_topJ (show (-(7 : Int64)) = (-7 : Int64) by decide) ?_
  refine o_land B160 573 574 d2_573 rfl ?_
  refine o_topJ (show ((7 : Int64) &&& (-7 : Int64)) = (1 : Int64) by decide) ?_
  refine o_lstore B160 574 576 (l' := #[vr a, vi xW, vi 0, vi xG, vi 4, vi 3, vi 1, vj (xG.toInt64 * (4 : Int64)), s2, vi s9, vj 7, s2, vi 0, vj 1, s2, u15, u16]) d2_574 rfl (st2 rfl e13 rfl e14 rfl) ?_
  refine o_lload B160 576 578 (v := (7 : Int64)) d2_576 rfl rfl ?_
  refine o_lload B160 578 580 (v := (1 : Int64)) d2_578 rfl rfl ?_
  refine o_ladd B160 580 581 d2_580 rfl ?_
  refine o_topJ (show ((7 : Int64) + (1 : Int64)) = (8 : Int64) by decide) ?_
  refine o_lstore B160 581 583 (l' := #[vr a, vi xW, vi 0, vi xG, vi 4, vi 3, vi 1, vj (xG.toInt64 * (4 : Int64)), s2, vi s9, vj 7, s2, vi 0, vj 1, s2, vj 8, s2]) d2_581 rfl (st2 rfl e15 rfl e16 rfl) ?_
  refine o_lload B160 583 585 (v := (8 : Int64)) d2_583 rfl rfl ?_
  refine o_lload B160 585 587 (v := (7 : Int64)) d2_585 rfl rfl ?_
  refine o_lload B160 587 589 (v := (8 : Int64)) d2_587 rfl rfl ?_
  refine o_lxor B160 589 590 d2_589 rfl ?_
  refine o_topJ (show ((7 : Int64) ^^^ (8 : Int64)) = (15 : Int64) by decide) ?_
  refine o_iconst B160 590 591 (2 : Int32) d2_590 rfl (by decide) ?_
  refine o_lushr B160 591 592 d2_591 rfl ?_
  refine o_topJ (show (XT.ushrL (15 : Int64) (2 : Int32)) = (3 : Int64) by decide) ?_
  refine o_lload B160 592 594 (v := (1 : Int64)) d2_592 rfl rfl ?_
  refine o_ldiv B160 594 595 d2_594 rfl (by decide) ?_
  refine o_topJ (show ((3 : Int64) / (1 : Int64)) = (3 : Int64) by decide) ?_
  refine o_lor B160 595 596 d2_595 rfl ?_
  refine o_topJ (show ((8 : Int64) ||| (3 : Int64)) = (11 : Int64) by decide) ?_
  refine o_lstore B160 596 598 (l' := #[vr a, vi xW, vi 0, vi xG, vi 4, vi 3, vi 1, vj (xG.toInt64 * (4 : Int64)), s2, vi s9, vj 11, s2, vi 0, vj 1, s2, vj 8, s2]) d2_596 rfl rfl ?_
  refine o_iincC B160 598 601 (l' := #[vr a, vi xW, vi 0, vi xG, vi 4, vi 3, vi 1, vj (xG.toInt64 * (4 : Int64)), s2, vi s9, vj 11, s2, vi 1, vj 1, s2, vj 8, s2]) (1 : Int32) (1 : Int32) d2_598 rfl (by decide) rfl (by decide) rfl ?_
  refine o_goto B160 601 549 d2_601 (by decide) (by decide) ?_
  refine o_iload B160 549 551 (v := (1 : Int32)) d2_549 rfl rfl ?_
  refine o_aloadN B160 551 552 (v := (.ref a)) d2_551 rfl rfl rfl ?_
  have F162 := (Fld.other W160 F153 (Or.inl (Nat.ne_of_lt lt143)))
  obtain ⟨T161, B161, c161⟩ := o_getfield B160 552 555 d2_552 rfl (host := "") (Or.inl (hw _ (mi 62 rfl))) Via.refl F162 (Ls := #[vr a, vi xW, vi 0, vi xG, vi 4, vi 3, vi 1, vj (xG.toInt64 * (4 : Int64)), s2, vi s9, vj 11, s2, vi 1, vj 1, s2, vj 8, s2]) (rest := [(.int (1 : Int32))])
  refine c161 ?_
  refine o_alenJ B161 555 556 A160 (4 : Int32) d2_555 rfl (by decide) ?_
  refine o_icN B161 556 559 d2_556 rfl (XT.ii_ge_f (by decide)) ?_
  refine o_aloadN B161 559 560 (v := (.ref a)) d2_559 rfl rfl rfl ?_
  obtain ⟨T164, B164, c164⟩ := o_getfield B161 560 563 d2_560 rfl (host := "") (Or.inl (hw _ (mi 62 rfl))) Via.refl F162 (Ls := #[vr a, vi xW, vi 0, vi xG, vi 4, vi 3, vi 1, vj (xG.toInt64 * (4 : Int64)), s2, vi s9, vj 11, s2, vi 1, vj 1, s2, vj 8, s2]) (rest := [])
  refine c164 ?_
  refine o_iload B164 563 565 (v := (1 : Int32)) d2_563 rfl rfl ?_
  refine o_lload B164 565 567 (v := (11 : Int64)) d2_565 rfl rfl ?_
  obtain ⟨T165, h165, L165, B165, N165, W165, Q165, c165⟩ := o_lastore B164 N160 g141 567 568 A160 (j := (1 : Int32)) (x := (11 : Int64)) 1 (11 : Int64) d2_567 rfl (by decide) (by decide) (by decide) rfl (Ls := #[vr a, vi xW, vi 0, vi xG, vi 4, vi 3, vi 1, vj (xG.toInt64 * (4 : Int64)), s2, vi s9, vj 11, s2, vi 1, vj 1, s2, vj 8, s2]) (rest := [])
  have A165 : AJ Z h165 a141 4 (w2_4_3c_2 xW xG) := Q165
  refine c165 ?_
  refine o_lload B165 568 570 (v := (11 : Int64)) d2_568 rfl rfl ?_
  refine o_lload B165 570 572 (v := (11 : Int64)) d2_570 rfl rfl ?_
  refine o_lneg B165 572 573 d2_572 rfl ?_
  refine o_topJ (show (-(11 : Int64)) = (-11 : Int64) by decide) ?_
  refine o_land B165 573 574 d2_573 rfl ?_
  refine o_topJ (show ((11 : Int64) &&& (-11 : Int64)) = (1 : Int64) by decide) ?_
  refine o_lstore B165 574 576 (l' := #[vr a, vi xW, vi 0, vi xG, vi 4, vi 3, vi 1, vj (xG.toInt64 * (4 : Int64)), s2, vi s9, vj 11, s2, vi 1, vj 1, s2, vj 8, s2]) d2_574 rfl rfl ?_
  refine o_lload B165 576 578 (v := (11 : Int64)) d2_576 rfl rfl ?_
  refine o_lload B165 578 580 (v := (1 : Int64)) d2_578 rfl rfl ?_
  refine o_ladd B165 580 581 d2_580 rfl ?_
  refine o_topJ (show ((11 : Int64) + (1 : Int64)) = (12 : Int64) by decide) ?_
  refine o_lstore B165 581 583 (l' := #[vr a, vi xW, vi 0, vi xG, vi 4, vi 3, vi 1, vj (xG.toInt64 * (4 : Int64)), s2, vi s9, vj 11, s2, vi 1, vj 1, s2, vj 12, s2]) d2_581 rfl rfl ?_
  refine o_lload B165 583 585 (v := (12 : Int64)) d2_583 rfl rfl ?_
  refine o_lload B165 585 587 (v := (11 : Int64)) d2_585 rfl rfl ?_
  refine o_lload B165 587 589 (v := (12 : Int64)) d2_587 rfl rfl ?_
  refine o_lxor B165 589 590 d2_589 rfl ?_
  refine o_topJ (show ((11 : Int64) ^^^ (12 : Int64)) = (7 : Int64) by decide) ?_
  refine o_iconst B165 590 591 (2 : Int32) d2_590 rfl (by decide) ?_
  refine o_lushr B165 591 592 d2_591 rfl ?_
  refine o_topJ (show (XT.ushrL (7 : Int64) (2 : Int32)) = (1 : Int64) by decide) ?_
  refine o_lload B165 592 594 (v := (1 : Int64)) d2_592 rfl rfl ?_
  refine o_ldiv B165 594 595 d2_594 rfl (by decide) ?_
  refine o_topJ (show ((1 : Int64) / (1 : Int64)) = (1 : Int64) by decide) ?_
  refine o_lor B165 595 596 d2_595 rfl ?_
  refine o_topJ (show ((12 : Int64) ||| (1 : Int64)) = (13 : Int64) by decide) ?_
  refine o_lstore B165 596 598 (l' := #[vr a, vi xW, vi 0, vi xG, vi 4, vi 3, vi 1, vj (xG.toInt64 * (4 : Int64)), s2, vi s9, vj 13, s2, vi 1, vj 1, s2, vj 12, s2]) d2_596 rfl rfl ?_
  refine o_iincC B165 598 601 (l' := #[vr a, vi xW, vi 0, vi xG, vi 4, vi 3, vi 1, vj (xG.toInt64 * (4 : Int64)), s2, vi s9, vj 13, s2, vi 2, vj 1, s2, vj 12, s2]) (1 : Int32) (2 : Int32) d2_598 rfl (by decide) rfl (by decide) rfl ?_
  refine o_goto B165 601 549 d2_601 (by decide) (by decide) ?_
  refine o_iload B165 549 551 (v := (2 : Int32)) d2_549 rfl rfl ?_
  refine o_aloadN B165 551 552 (v := (.ref a)) d2_551 rfl rfl rfl ?_
  have F167 := (Fld.other W165 F162 (Or.inl (Nat.ne_of_lt lt143)))
  obtain ⟨T166, B166, c166⟩ := o_getfield B165 552 555 d2_552 rfl (host := "") (Or.inl (hw _ (mi 62 rfl))) Via.refl F167 (Ls := #[vr a, vi xW, vi 0, vi xG, vi 4, vi 3, vi 1, vj (xG.toInt64 * (4 : Int64)), s2, vi s9, vj 13, s2, vi 2, vj 1, s2, vj 12, s2]) (rest := [(.int (2 : Int32))])
  refine c166 ?_
  refine o_alenJ B166 555 556 A165 (4 : Int32) d2_555 rfl (by decide) ?_
  refine o_icN B166 556 559 d2_556 rfl (XT.ii_ge_f (by decide)) ?_
  refine o_aloadN B166 559 560 (v := (.ref a)) d2_559 rfl rfl rfl ?_
  obtain ⟨T169, B169, c169⟩ := o_getfield B166 560 563 d2_560 rfl (host := "") (Or.inl (hw _ (mi 62 rfl))) Via.refl F167 (Ls := #[vr a, vi xW, vi 0, vi xG, vi 4, vi 3, vi 1, vj (xG.toInt64 * (4 : Int64)), s2, vi s9, vj 13, s2, vi 2, vj 1, s2, vj 12, s2]) (rest := [])
  refine c169 ?_
  refine o_iload B169 563 565 (v := (2 : Int32)) d2_563 rfl rfl ?_
  refine o_lload B169 565 567 (v := (13 : Int64)) d2_565 rfl rfl ?_
  obtain ⟨T170, h170, L170, B170, N170, W170, Q170, c170⟩ := o_lastore B169 N165 g141 567 568 A165 (j := (2 : Int32)) (x := (13 : Int64)) 2 (13 : Int64) d2_567 rfl (by decide) (by decide) (by decide) rfl (Ls := #[vr a, vi xW, vi 0, vi xG, vi 4, vi 3, vi 1, vj (xG.toInt64 * (4 : Int64)), s2, vi s9, vj 13, s2, vi 2, vj 1, s2, vj 12, s2]) (rest := [])
  have A170 : AJ Z h170 a141 4 (w2_4_3c_3 xW xG) := Q170
  refine c170 ?_
  refine o_lload B170 568 570 (v := (13 : Int64)) d2_568 rfl rfl ?_
  refine o_lload B170 570 572 (v := (13 : Int64)) d2_570 rfl rfl ?_
  refine o_lneg B170 572 573 d2_572 rfl ?_
  refine o_topJ (show (-(13 : Int64)) = (-13 : Int64) by decide) ?_
  refine o_land B170 573 574 d2_573 rfl ?_
  refine o_topJ (show ((13 : Int64) &&& (-13 : Int64)) = (1 : Int64) by decide) ?_
  refine o_lstore B170 574 576 (l' := #[vr a, vi xW, vi 0, vi xG, vi 4, vi 3, vi 1, vj (xG.toInt64 * (4 : Int64)), s2, vi s9, vj 13, s2, vi 2, vj 1, s2, vj 12, s2]) d2_574 rfl rfl ?_
  refine o_lload B170 576 578 (v := (13 : Int64)) d2_576 rfl rfl ?_
  refine o_lload B170 578 580 (v := (1 : Int64)) d2_578 rfl rfl ?_
  refine o_ladd B170 580 581 d2_580 rfl ?_
  refine o_topJ (show ((13 : Int64) + (1 : Int64)) = (14 : Int64) by decide) ?_
  refine o_lstore B170 581 583 (l' := #[vr a, vi xW, vi 0, vi xG, vi 4, vi 3, vi 1, vj (xG.toInt64 * (4 : Int64)), s2, vi s9, vj 13, s2, vi 2, vj 1, s2, vj 14, s2]) d2_581 rfl rfl ?_
  refine o_lload B170 583 585 (v := (14 : Int64)) d2_583 rfl rfl ?_
  refine o_lload B170 585 587 (v := (13 : Int64)) d2_585 rfl rfl ?_
  refine o_lload B170 587 589 (v := (14 : Int64)) d2_587 rfl rfl ?_
  refine o_lxor B170 589 590 d2_589 rfl ?_
  refine o_topJ (show ((13 : Int64) ^^^ (14 : Int64)) = (3 : Int64) by decide) ?_
  refine o_iconst B170 590 591 (2 : Int32) d2_590 rfl (by decide) ?_
  refine o_lushr B170 591 592 d2_591 rfl ?_
  refine o_topJ (show (XT.ushrL (3 : Int64) (2 : Int32)) = (0 : Int64) by decide) ?_
  refine o_lload B170 592 594 (v := (1 : Int64)) d2_592 rfl rfl ?_
  refine o_ldiv B170 594 595 d2_594 rfl (by decide) ?_
  refine o_topJ (show ((0 : Int64) / (1 : Int64)) = (0 : Int64) by decide) ?_
  refine o_lor B170 595 596 d2_595 rfl ?_
  refine o_topJ (show ((14 : Int64) ||| (0 : Int64)) = (14 : Int64) by decide) ?_
  refine o_lstore B170 596 598 (l' := #[vr a, vi xW, vi 0, vi xG, vi 4, vi 3, vi 1, vj (xG.toInt64 * (4 : Int64)), s2, vi s9, vj 14, s2, vi 2, vj 1, s2, vj 14, s2]) d2_596 rfl rfl ?_
  refine o_iincC B170 598 601 (l' := #[vr a, vi xW, vi 0, vi xG, vi 4, vi 3, vi 1, vj (xG.toInt64 * (4 : Int64)), s2, vi s9, vj 14, s2, vi 3, vj 1, s2, vj 14, s2]) (1 : Int32) (3 : Int32) d2_598 rfl (by decide) rfl (by decide) rfl ?_
  refine o_goto B170 601 549 d2_601 (by decide) (by decide) ?_
  refine o_iload B170 549 551 (v := (3 : Int32)) d2_549 rfl rfl ?_
  refine o_aloadN B170 551 552 (v := (.ref a)) d2_551 rfl rfl rfl ?_
  have F172 := (Fld.other W170 F167 (Or.inl (Nat.ne_of_lt lt143)))
  obtain ⟨T171, B171, c171⟩ := o_getfield B170 552 555 d2_552 rfl (host := "") (Or.inl (hw _ (mi 62 rfl))) Via.refl F172 (Ls := #[vr a, vi xW, vi 0, vi xG, vi 4, vi 3, vi 1, vj (xG.toInt64 * (4 : Int64)), s2, vi s9, vj 14, s2, vi 3, vj 1, s2, vj 14, s2]) (rest := [(.int (3 : Int32))])
  refine c171 ?_
  refine o_alenJ B171 555 556 A170 (4 : Int32) d2_555 rfl (by decide) ?_
  refine o_icN B171 556 559 d2_556 rfl (XT.ii_ge_f (by decide)) ?_
  refine o_aloadN B171 559 560 (v := (.ref a)) d2_559 rfl rfl rfl ?_
  obtain ⟨T174, B174, c174⟩ := o_getfield B171 560 563 d2_560 rfl (host := "") (Or.inl (hw _ (mi 62 rfl))) Via.refl F172 (Ls := #[vr a, vi xW, vi 0, vi xG, vi 4, vi 3, vi 1, vj (xG.toInt64 * (4 : Int64)), s2, vi s9, vj 14, s2, vi 3, vj 1, s2, vj 14, s2]) (rest := [])
  refine c174 ?_
  refine o_iload B174 563 565 (v := (3 : Int32)) d2_563 rfl rfl ?_
  refine o_lload B174 565 567 (v := (14 : Int64)) d2_565 rfl rfl ?_
  obtain ⟨T175, h175, L175, B175, N175, W175, Q175, c175⟩ := o_lastore B174 N170 g141 567 568 A170 (j := (3 : Int32)) (x := (14 : Int64)) 3 (14 : Int64) d2_567 rfl (by decide) (by decide) (by decide) rfl (Ls := #[vr a, vi xW, vi 0, vi xG, vi 4, vi 3, vi 1, vj (xG.toInt64 * (4 : Int64)), s2, vi s9, vj 14, s2, vi 3, vj 1, s2, vj 14, s2]) (rest := [])
  have A175 : AJ Z h175 a141 4 (w2_4_3c_4 xW xG) := Q175
  refine c175 ?_
  refine o_lload B175 568 570 (v := (14 : Int64)) d2_568 rfl rfl ?_
  refine o_lload B175 570 572 (v := (14 : Int64)) d2_570 rfl rfl ?_
  refine o_lneg B175 572 573 d2_572 rfl ?_
  refine o_topJ (show (-(14 : Int64)) = (-14 : Int64) by decide) ?_
  refine o_land B175 573 574 d2_573 rfl ?_
  refine o_topJ (show ((14 : Int64) &&& (-14 : Int64)) = (2 : Int64) by decide) ?_
  refine o_lstore B175 574 576 (l' := #[vr a, vi xW, vi 0, vi xG, vi 4, vi 3, vi 1, vj (xG.toInt64 * (4 : Int64)), s2, vi s9, vj 14, s2, vi 3, vj 2, s2, vj 14, s2]) d2_574 rfl rfl ?_
  refine o_lload B175 576 578 (v := (14 : Int64)) d2_576 rfl rfl ?_
  refine o_lload B175 578 580 (v := (2 : Int64)) d2_578 rfl rfl ?_
  refine o_ladd B175 580 581 d2_580 rfl ?_
  refine o_topJ (show ((14 : Int64) + (2 : Int64)) = (16 : Int64) by decide) ?_
  refine o_lstore B175 581 583 (l' := #[vr a, vi xW, vi 0, vi xG, vi 4, vi 3, vi 1, vj (xG.toInt64 * (4 : Int64)), s2, vi s9, vj 14, s2, vi 3, vj 2, s2, vj 16, s2]) d2_581 rfl rfl ?_
  refine o_lload B175 583 585 (v := (16 : Int64)) d2_583 rfl rfl ?_
  refine o_lload B175 585 587 (v := (14 : Int64)) d2_585 rfl rfl ?_
  refine o_lload B175 587 589 (v := (16 : Int64)) d2_587 rfl rfl ?_
  refine o_lxor B175 589 590 d2_589 rfl ?_
  refine o_topJ (show ((14 : Int64) ^^^ (16 : Int64)) = (30 : Int64) by decide) ?_
  refine o_iconst B175 590 591 (2 : Int32) d2_590 rfl (by decide) ?_
  refine o_lushr B175 591 592 d2_591 rfl ?_
  refine o_topJ (show (XT.ushrL (30 : Int64) (2 : Int32)) = (7 : Int64) by decide) ?_
  refine o_lload B175 592 594 (v := (2 : Int64)) d2_592 rfl rfl ?_
  refine o_ldiv B175 594 595 d2_594 rfl (by decide) ?_
  refine o_topJ (show ((7 : Int64) / (2 : Int64)) = (3 : Int64) by decide) ?_
  refine o_lor B175 595 596 d2_595 rfl ?_
  refine o_topJ (show ((16 : Int64) ||| (3 : Int64)) = (19 : Int64) by decide) ?_
  refine o_lstore B175 596 598 (l' := #[vr a, vi xW, vi 0, vi xG, vi 4, vi 3, vi 1, vj (xG.toInt64 * (4 : Int64)), s2, vi s9, vj 19, s2, vi 3, vj 2, s2, vj 16, s2]) d2_596 rfl rfl ?_
  refine o_iincC B175 598 601 (l' := #[vr a, vi xW, vi 0, vi xG, vi 4, vi 3, vi 1, vj (xG.toInt64 * (4 : Int64)), s2, vi s9, vj 19, s2, vi 4, vj 2, s2, vj 16, s2]) (1 : Int32) (4 : Int32) d2_598 rfl (by decide) rfl (by decide) rfl ?_
  refine o_goto B175 601 549 d2_601 (by decide) (by decide) ?_
  refine o_iload B175 549 551 (v := (4 : Int32)) d2_549 rfl rfl ?_
  refine o_aloadN B175 551 552 (v := (.ref a)) d2_551 rfl rfl rfl ?_
  have F177 := (Fld.other W175 F172 (Or.inl (Nat.ne_of_lt lt143)))
  obtain ⟨T176, B176, c176⟩ := o_getfield B175 552 555 d2_552 rfl (host := "") (Or.inl (hw _ (mi 62 rfl))) Via.refl F177 (Ls := #[vr a, vi xW, vi 0, vi xG, vi 4, vi 3, vi 1, vj (xG.toInt64 * (4 : Int64)), s2, vi s9, vj 19, s2, vi 4, vj 2, s2, vj 16, s2]) (rest := [(.int (4 : Int32))])
  refine c176 ?_
  refine o_alenJ B176 555 556 A175 (4 : Int32) d2_555 rfl (by decide) ?_
  refine o_icY B176 556 604 d2_556 (XT.ii_ge_t (by decide)) (by decide) (by decide) ?_
  refine o_aloadN B176 604 605 (v := (.ref a)) d2_604 rfl rfl rfl ?_
  refine o_lload B176 605 607 (v := (xG.toInt64 * (4 : Int64))) d2_605 rfl rfl ?_
  refine o_l2i B176 607 608 d2_607 rfl ?_
  obtain ⟨a179, T179, h179, z179, B179, E179, A179, c179⟩ := o_newI B176 608 610 (ty := .int) (z := (xG.toInt64 * (4 : Int64)).toInt32) (xG.toInt.toNat * 4) 12 (hw _ (mi 44 rfl)) d2_608 rfl rfl rfl htn.1 htn.2 (Nat.mul_le_mul_right _ hl.1) (by decide) (by decide) (by decide) (Ls := #[vr a, vi xW, vi 0, vi xG, vi 4, vi 3, vi 1, vj (xG.toInt64 * (4 : Int64)), s2, vi s9, vj 19, s2, vi 4, vj 2, s2, vj 16, s2]) (rest := [(.ref a)])
  have F180 := (Exa.wr W175 (Exa.wr W170 (Exa.wr W165 (Exa.wr W160 (Exa.wr W153 F155)))))
  have lt181 : (a : Nat) < a179 := by rw [z179]; exact F180.lt
  have F182 := ((((((C_gw.ext E141).other W153 (Ne.symm (Nat.ne_of_lt lt15))).other W160 (Nat.ne_of_lt lt144)).other W165 (Nat.ne_of_lt lt144)).other W170 (Nat.ne_of_lt lt144)).other W175 (Nat.ne_of_lt lt144))
  have lt183 : (a13 : Nat) < a179 := by rw [z179]; exact F182.lt
  have F184 := ((((((C_fw.ext E141).other W153 (Ne.symm (Nat.ne_of_lt lt22))).other W160 (Nat.ne_of_lt lt145)).other W165 (Nat.ne_of_lt lt145)).other W170 (Nat.ne_of_lt lt145)).other W175 (Nat.ne_of_lt lt145))
  have lt185 : (a20 : Nat) < a179 := by rw [z179]; exact F184.lt
  have F186 := ((((((C_sh.ext E141).other W153 (Ne.symm (Nat.ne_of_lt lt31))).other W160 (Nat.ne_of_lt lt146)).other W165 (Nat.ne_of_lt lt146)).other W170 (Nat.ne_of_lt lt146)).other W175 (Nat.ne_of_lt lt146))
  have lt187 : (a29 : Nat) < a179 := by rw [z179]; exact F186.lt
  have F188 := ((((((C_lm.ext E141).other W153 (Ne.symm (Nat.ne_of_lt lt42))).other W160 (Nat.ne_of_lt lt147)).other W165 (Nat.ne_of_lt lt147)).other W170 (Nat.ne_of_lt lt147)).other W175 (Nat.ne_of_lt lt147))
  have lt189 : (a40 : Nat) < a179 := by rw [z179]; exact F188.lt
  have F190 := ((((((C_hm.ext E141).other W153 (Ne.symm (Nat.ne_of_lt lt55))).other W160 (Nat.ne_of_lt lt148)).other W165 (Nat.ne_of_lt lt148)).other W170 (Nat.ne_of_lt lt148)).other W175 (Nat.ne_of_lt lt148))
  have lt191 : (a53 : Nat) < a179 := by rw [z179]; exact F190.lt
  have F192 := ((((((C_bo.ext E141).other W153 (Ne.symm (Nat.ne_of_lt lt70))).other W160 (Nat.ne_of_lt lt149)).other W165 (Nat.ne_of_lt lt149)).other W170 (Nat.ne_of_lt lt149)).other W175 (Nat.ne_of_lt lt149))
  have lt193 : (a68 : Nat) < a179 := by rw [z179]; exact F192.lt
  have F194 := ((((((C_bw.ext E141).other W153 (Ne.symm (Nat.ne_of_lt lt87))).other W160 (Nat.ne_of_lt lt150)).other W165 (Nat.ne_of_lt lt150)).other W170 (Nat.ne_of_lt lt150)).other W175 (Nat.ne_of_lt lt150))
  have lt195 : (a85 : Nat) < a179 := by rw [z179]; exact F194.lt
  have F196 := ((((((C_bm.ext E141).other W153 (Ne.symm (Nat.ne_of_lt lt106))).other W160 (Nat.ne_of_lt lt151)).other W165 (Nat.ne_of_lt lt151)).other W170 (Nat.ne_of_lt lt151)).other W175 (Nat.ne_of_lt lt151))
  have lt197 : (a104 : Nat) < a179 := by rw [z179]; exact F196.lt
  have lt198 : (a141 : Nat) < a179 := by rw [z179]; exact A175.lt
  have g179 : n0 ≤ a179 := by rw [z179]; exact (W175.size ▸ (W170.size ▸ (W165.size ▸ (W160.size ▸ (W153.size ▸ s141)))))
  have s179 : n0 ≤ h179.size := Nat.le_trans (W175.size ▸ (W170.size ▸ (W165.size ▸ (W160.size ▸ (W153.size ▸ s141))))) E179.1
  have KT199 := ((((((KT152.ext E141).wr W153 (Or.inl (mi 0 rfl))).wr W160 (Or.inr y141)).wr W165 (Or.inr y141)).wr W170 (Or.inr y141)).wr W175 (Or.inr y141))
  have y179 : h0.size ≤ a179 := by rw [z179]; exact KT199.1
  refine c179 ?_
  have F201 := (Fld.ext E179 (Fld.other W175 (Fld.other W170 (Fld.other W165 (Fld.other W160 (Fld.other W153 (Fld.ext E141 ((Fld.other W122 (Fld.ext E104 (Fld.other W101 (Fld.ext E85 (Fld.other W82 (Fld.ext E68 (Fld.other W65 (Fld.ext E53 (Fld.other W50 (Fld.ext E40 (Fld.other W37 (Fld.ext E29 (Fld.other W26 (Fld.ext E20 (Fld.other W17 (Fld.ext E13 (Fld.other W10 (Fld.other W7 (Fld.other W3 G12 (Or.inr (sn94 hw))) (Or.inr (sn95 hw))) (Or.inr (sn96 hw)))) (Or.inr (sn97 hw)))) (Or.inr (sn98 hw)))) (Or.inr (sn99 hw)))) (Or.inr (sn100 hw)))) (Or.inr (sn101 hw)))) (Or.inr (sn102 hw)))) (Or.inr (sn103 hw)))) (Or.inr (sn104 hw))).keep K9 (ninS (Nat.ne_of_lt lt15) (ninS (Nat.ne_of_lt lt22) (ninS (Nat.ne_of_lt lt31) (ninS (Nat.ne_of_lt lt42) (ninS (Nat.ne_of_lt lt55) (ninS (Nat.ne_of_lt lt70) (ninS (Nat.ne_of_lt lt87) (ninS (Nat.ne_of_lt lt106) nin0)))))))))) (Or.inr (sn105 hw))) (Or.inl (Nat.ne_of_lt lt143))) (Or.inl (Nat.ne_of_lt lt143))) (Or.inl (Nat.ne_of_lt lt143))) (Or.inl (Nat.ne_of_lt lt143))))
  have F202 := (Exa.ext E179 F180)
  obtain ⟨T200, h200, L200, B200, N200, W200, c200⟩ := o_putfield B179 N175 ga 610 613 (v := (.ref a179)) d2_610 rfl (host := "") (Or.inl (hw _ (mi 64 rfl))) Via.refl F201 F202 (Or.inr ⟨(hw _ (mi 65 rfl)), rfl, hnm⟩) (hw _ (mi 16 rfl)) (ty := (.array .int)) (by decide) rfl rfl (Ls := #[vr a, vi xW, vi 0, vi xG, vi 4, vi 3, vi 1, vj (xG.toInt64 * (4 : Int64)), s2, vi s9, vj 19, s2, vi 4, vj 2, s2, vj 16, s2]) (rest := [])
  have F200 : Fld Z h200 a "com/example/hyperplane/hyperplane/Blocks" "tableGroups" "[I" (.ref a179) := Fld.same W200 F201
  refine c200 ?_
  refine o_aloadN B200 613 614 (v := (.ref a)) d2_613 rfl rfl rfl ?_
  refine o_lload B200 614 616 (v := (xG.toInt64 * (4 : Int64))) d2_614 rfl rfl ?_
  refine o_l2i B200 616 617 d2_616 rfl ?_
  obtain ⟨a203, T203, h203, z203, B203, E203, A203, c203⟩ := o_newI B200 617 619 (ty := .int) (z := (xG.toInt64 * (4 : Int64)).toInt32) (xG.toInt.toNat * 4) 12 (hw _ (mi 44 rfl)) d2_617 rfl rfl rfl htn.1 htn.2 (Nat.mul_le_mul_right _ hl.1) (by decide) (by decide) (by decide) (Ls := #[vr a, vi xW, vi 0, vi xG, vi 4, vi 3, vi 1, vj (xG.toInt64 * (4 : Int64)), s2, vi s9, vj 19, s2, vi 4, vj 2, s2, vj 16, s2]) (rest := [(.ref a)])
  have F204 := (Exa.wr W200 F202)
  have lt205 : (a : Nat) < a203 := by rw [z203]; exact F204.lt
  have F206 := ((F182.ext E179).other W200 (Ne.symm (Nat.ne_of_lt lt15)))
  have lt207 : (a13 : Nat) < a203 := by rw [z203]; exact F206.lt
  have F208 := ((F184.ext E179).other W200 (Ne.symm (Nat.ne_of_lt lt22)))
  have lt209 : (a20 : Nat) < a203 := by rw [z203]; exact F208.lt
  have F210 := ((F186.ext E179).other W200 (Ne.symm (Nat.ne_of_lt lt31)))
  have lt211 : (a29 : Nat) < a203 := by rw [z203]; exact F210.lt
  have F212 := ((F188.ext E179).other W200 (Ne.symm (Nat.ne_of_lt lt42)))
  have lt213 : (a40 : Nat) < a203 := by rw [z203]; exact F212.lt
  have F214 := ((F190.ext E179).other W200 (Ne.symm (Nat.ne_of_lt lt55)))
  have lt215 : (a53 : Nat) < a203 := by rw [z203]; exact F214.lt
  have F216 := ((F192.ext E179).other W200 (Ne.symm (Nat.ne_of_lt lt70)))
  have lt217 : (a68 : Nat) < a203 := by rw [z203]; exact F216.lt
  have F218 := ((F194.ext E179).other W200 (Ne.symm (Nat.ne_of_lt lt87)))
  have lt219 : (a85 : Nat) < a203 := by rw [z203]; exact F218.lt
  have F220 := ((F196.ext E179).other W200 (Ne.symm (Nat.ne_of_lt lt106)))
  have lt221 : (a104 : Nat) < a203 := by rw [z203]; exact F220.lt
  have F222 := ((A175.ext E179).other W200 (Ne.symm (Nat.ne_of_lt lt143)))
  have lt223 : (a141 : Nat) < a203 := by rw [z203]; exact F222.lt
  have F224 := (A179.other W200 (Ne.symm (Nat.ne_of_lt lt181)))
  have lt225 : (a179 : Nat) < a203 := by rw [z203]; exact F224.lt
  have g203 : n0 ≤ a203 := by rw [z203]; exact (W200.size ▸ s179)
  have s203 : n0 ≤ h203.size := Nat.le_trans (W200.size ▸ s179) E203.1
  have KT226 := ((KT199.ext E179).wr W200 (Or.inl (mi 0 rfl)))
  have y203 : h0.size ≤ a203 := by rw [z203]; exact KT226.1
  refine c203 ?_
  have F228 := (Fld.ext E203 (Fld.other W200 (Fld.ext E179 (Fld.other W175 (Fld.other W170 (Fld.other W165 (Fld.other W160 (Fld.other W153 (Fld.ext E141 ((Fld.other W122 (Fld.ext E104 (Fld.other W101 (Fld.ext E85 (Fld.other W82 (Fld.ext E68 (Fld.other W65 (Fld.ext E53 (Fld.other W50 (Fld.ext E40 (Fld.other W37 (Fld.ext E29 (Fld.other W26 (Fld.ext E20 (Fld.other W17 (Fld.ext E13 (Fld.other W10 (Fld.other W7 (Fld.other W3 G13 (Or.inr (sn106 hw))) (Or.inr (sn107 hw))) (Or.inr (sn108 hw)))) (Or.inr (sn109 hw)))) (Or.inr (sn110 hw)))) (Or.inr (sn111 hw)))) (Or.inr (sn112 hw)))) (Or.inr (sn113 hw)))) (Or.inr (sn114 hw)))) (Or.inr (sn115 hw)))) (Or.inr (sn116 hw))).keep K9 (ninS (Nat.ne_of_lt lt15) (ninS (Nat.ne_of_lt lt22) (ninS (Nat.ne_of_lt lt31) (ninS (Nat.ne_of_lt lt42) (ninS (Nat.ne_of_lt lt55) (ninS (Nat.ne_of_lt lt70) (ninS (Nat.ne_of_lt lt87) (ninS (Nat.ne_of_lt lt106) nin0)))))))))) (Or.inr (sn117 hw))) (Or.inl (Nat.ne_of_lt lt143))) (Or.inl (Nat.ne_of_lt lt143))) (Or.inl (Nat.ne_of_lt lt143))) (Or.inl (Nat.ne_of_lt lt143)))) (Or.inr (sn118 hw))))
  have F229 := (Exa.ext E203 F204)
  obtain ⟨T227, h227, L227, B227, N227, W227, c227⟩ := o_putfield B203 N200 ga 619 622 (v := (.ref a203)) d2_619 rfl (host := "") (Or.inl (hw _ (mi 66 rfl))) Via.refl F228 F229 (Or.inr ⟨(hw _ (mi 67 rfl)), rfl, hnm⟩) (hw _ (mi 16 rfl)) (ty := (.array .int)) (by decide) rfl rfl (Ls := #[vr a, vi xW, vi 0, vi xG, vi 4, vi 3, vi 1, vj (xG.toInt64 * (4 : Int64)), s2, vi s9, vj 19, s2, vi 4, vj 2, s2, vj 16, s2]) (rest := [])
  have F227 : Fld Z h227 a "com/example/hyperplane/hyperplane/Blocks" "blockEnds" "[I" (.ref a203) := Fld.same W227 F228
  refine c227 ?_
  refine o_iconst B227 622 623 (0 : Int32) d2_622 rfl (by decide) ?_
  refine o_istore B227 623 625 (l' := #[vr a, vi xW, vi 0, vi xG, vi 4, vi 3, vi 1, vj (xG.toInt64 * (4 : Int64)), s2, vi s9, vj 19, s2, vi 0, vj 2, s2, vj 16, s2]) d2_623 rfl rfl ?_
  refine o_iload B227 625 627 (v := (0 : Int32)) d2_625 rfl rfl ?_
  refine o_i2l B227 627 628 d2_627 rfl ?_
  refine o_topJ (show (0 : Int32).toInt64 = (0 : Int64) by decide) ?_
  refine o_lload B227 628 630 (v := (xG.toInt64 * (4 : Int64))) d2_628 rfl rfl ?_
  refine o_lcmp B227 630 631 d2_630 rfl ?_
  refine o_ifN B227 631 634 d2_631 rfl (XT.ll_ge_f (own_ps hp 4 4 (by decide) (by decide) (by decide))) ?_
  refine o_iload B227 634 636 (v := (0 : Int32)) d2_634 rfl rfl ?_
  refine o_aloadN B227 636 637 (v := (.ref a)) d2_636 rfl rfl rfl ?_
  have F231 := (Fld.other W227 (Fld.ext E203 (Fld.other W200 (Fld.ext E179 F177) (Or.inr (sn119 hw)))) (Or.inr (sn120 hw)))
  obtain ⟨T230, B230, c230⟩ := o_getfield B227 637 640 d2_637 rfl (host := "") (Or.inl (hw _ (mi 62 rfl))) Via.refl F231 (Ls := #[vr a, vi xW, vi 0, vi xG, vi 4, vi 3, vi 1, vj (xG.toInt64 * (4 : Int64)), s2, vi s9, vj 19, s2, vi 0, vj 2, s2, vj 16, s2]) (rest := [(.int (0 : Int32))])
  refine c230 ?_
  have F233 := ((F222.ext E203).other W227 (Ne.symm (Nat.ne_of_lt lt143)))
  refine o_alenJ B230 640 641 F233 (4 : Int32) d2_640 rfl (by decide) ?_
  refine o_idiv B230 641 642 d2_641 rfl (by decide) ?_
  refine o_topI (show ((0 : Int32) / (4 : Int32)) = (0 : Int32) by decide) ?_
  refine o_istore B230 642 644 (l' := #[vr a, vi xW, vi 0, vi xG, vi 4, vi 3, vi 1, vj (xG.toInt64 * (4 : Int64)), s2, vi s9, vj 19, s2, vi 0, vi 0, us, vj 16, s2]) d2_642 rfl rfl ?_
  refine o_aloadN B230 644 645 (v := (.ref a)) d2_644 rfl rfl rfl ?_
  obtain ⟨T234, B234, c234⟩ := o_getfield B230 645 648 d2_645 rfl (host := "") (Or.inl (hw _ (mi 62 rfl))) Via.refl F231 (Ls := #[vr a, vi xW, vi 0, vi xG, vi 4, vi 3, vi 1, vj (xG.toInt64 * (4 : Int64)), s2, vi s9, vj 19, s2, vi 0, vi 0, us, vj 16, s2]) (rest := [])
  refine c234 ?_
  refine o_iload B234 648 650 (v := (0 : Int32)) d2_648 rfl rfl ?_
  refine o_aloadN B234 650 651 (v := (.ref a)) d2_650 rfl rfl rfl ?_
  obtain ⟨T235, B235, c235⟩ := o_getfield B234 651 654 d2_651 rfl (host := "") (Or.inl (hw _ (mi 62 rfl))) Via.refl F231 (Ls := #[vr a, vi xW, vi 0, vi xG, vi 4, vi 3, vi 1, vj (xG.toInt64 * (4 : Int64)), s2, vi s9, vj 19, s2, vi 0, vi 0, us, vj 16, s2]) (rest := [(.int (0 : Int32)), (.ref a141)])
  refine c235 ?_
  refine o_alenJ B235 654 655 F233 (4 : Int32) d2_654 rfl (by decide) ?_
  refine o_irem B235 655 656 d2_655 rfl (by decide) ?_
  refine o_topI (show ((0 : Int32) % (4 : Int32)) = (0 : Int32) by decide) ?_
  refine o_laload B235 656 657 F233 0 (7 : Int64) d2_656 rfl (by decide) (by decide) (by decide) rfl ?_
  obtain ⟨T238, B238, c238⟩ := o_callP B235 657 660 d2_657 rfl (hw _ (mi 68 rfl)) (hw _ (mi 69 rfl)) (hw _ (mi 70 rfl)) (hw _ (mi 71 rfl)) (by decide) (rm8 l Z a0 hw (7 : Int64) h227 ) 0 [(.long (7 : Int64))] [] pd__J_I rfl rfl (st := [(.long (7 : Int64))]) rfl (Ls := #[vr a, vi xW, vi 0, vi xG, vi 4, vi 3, vi 1, vj (xG.toInt64 * (4 : Int64)), s2, vi s9, vj 19, s2, vi 0, vi 0, us, vj 16, s2]) rfl (Nat.le_of_eq rfl) (by decide) (by decide) (by decide) (by decide)
  refine c238 ?_
  refine o_topI (show (f8 (7 : Int64)) = (0 : Int32) by decide) ?_
  refine o_istore B238 660 662 (l' := #[vr a, vi xW, vi 0, vi xG, vi 4, vi 3, vi 1, vj (xG.toInt64 * (4 : Int64)), s2, vi s9, vj 19, s2, vi 0, vi 0, vi 0, vj 16, s2]) d2_660 rfl rfl ?_
  have F239 := (Exa.wr W227 F229)
  have F240 := (Fld.other W227 (Fld.ext E203 F200) (Or.inr (sn121 hw)))
  have F241 := (Fld.other W227 (Fld.ext E203 (Fld.other W200 (Fld.ext E179 (Fld.other W175 (Fld.other W170 (Fld.other W165 (Fld.other W160 (Fld.other W153 (Fld.ext E141 (F131.keep K9 (ninS (Nat.ne_of_lt lt15) (ninS (Nat.ne_of_lt lt22) (ninS (Nat.ne_of_lt lt31) (ninS (Nat.ne_of_lt lt42) (ninS (Nat.ne_of_lt lt55) (ninS (Nat.ne_of_lt lt70) (ninS (Nat.ne_of_lt lt87) (ninS (Nat.ne_of_lt lt106) nin0)))))))))) (Or.inr (sn122 hw))) (Or.inl (Nat.ne_of_lt lt143))) (Or.inl (Nat.ne_of_lt lt143))) (Or.inl (Nat.ne_of_lt lt143))) (Or.inl (Nat.ne_of_lt lt143)))) (Or.inr (sn123 hw)))) (Or.inr (sn124 hw)))
  have F242 := (Fld.other W227 (Fld.ext E203 (Fld.other W200 (Fld.ext E179 (Fld.other W175 (Fld.other W170 (Fld.other W165 (Fld.other W160 (Fld.other W153 (Fld.ext E141 (F132.keep K9 (ninS (Nat.ne_of_lt lt15) (ninS (Nat.ne_of_lt lt22) (ninS (Nat.ne_of_lt lt31) (ninS (Nat.ne_of_lt lt42) (ninS (Nat.ne_of_lt lt55) (ninS (Nat.ne_of_lt lt70) (ninS (Nat.ne_of_lt lt87) (ninS (Nat.ne_of_lt lt106) nin0)))))))))) (Or.inr (sn125 hw))) (Or.inl (Nat.ne_of_lt lt143))) (Or.inl (Nat.ne_of_lt lt143))) (Or.inl (Nat.ne_of_lt lt143))) (Or.inl (Nat.ne_of_lt lt143)))) (Or.inr (sn126 hw)))) (Or.inr (sn127 hw)))
  have F243 := (Fld.other W227 (Fld.ext E203 (Fld.other W200 (Fld.ext E179 (Fld.other W175 (Fld.other W170 (Fld.other W165 (Fld.other W160 (Fld.other W153 (Fld.ext E141 ((Fld.other W122 (Fld.ext E104 (Fld.other W101 (Fld.ext E85 (Fld.other W82 (Fld.ext E68 (Fld.other W65 (Fld.ext E53 (Fld.other W50 (Fld.ext E40 (Fld.other W37 (Fld.ext E29 (Fld.other W26 (Fld.ext E20 (Fld.other W17 (Fld.ext E13 (Fld.other W10 F7 (Or.inr (sn128 hw)))) (Or.inr (sn129 hw)))) (Or.inr (sn130 hw)))) (Or.inr (sn131 hw)))) (Or.inr (sn132 hw)))) (Or.inr (sn133 hw)))) (Or.inr (sn134 hw)))) (Or.inr (sn135 hw)))) (Or.inr (sn136 hw))).keep K9 (ninS (Nat.ne_of_lt lt15) (ninS (Nat.ne_of_lt lt22) (ninS (Nat.ne_of_lt lt31) (ninS (Nat.ne_of_lt lt42) (ninS (Nat.ne_of_lt lt55) (ninS (Nat.ne_of_lt lt70) (ninS (Nat.ne_of_lt lt87) (ninS (Nat.ne_of_lt lt106) nin0)))))))))) (Or.inr (sn137 hw))) (Or.inl (Nat.ne_of_lt lt143))) (Or.inl (Nat.ne_of_lt lt143))) (Or.inl (Nat.ne_of_lt lt143))) (Or.inl (Nat.ne_of_lt lt143)))) (Or.inr (sn138 hw)))) (Or.inr (sn139 hw)))
  have F244 := ((F224.ext E203).other W227 (Ne.symm (Nat.ne_of_lt lt181)))
  have F245 := (A203.other W227 (Ne.symm (Nat.ne_of_lt lt205)))
  have F246 := ((F216.ext E203).other W227 (Ne.symm (Nat.ne_of_lt lt70)))
  have F247 := ((F218.ext E203).other W227 (Ne.symm (Nat.ne_of_lt lt87)))
  refine lpD_4_3 ⟨by decide, by decide, by decide, by decide⟩ a0 hw xW xG s9 (19 : Int64) (16 : Int64) a a68 a85 a141 a179 a203 lt70 lt99 lt150 lt198 lt225 ga (w2_4_3c_4 xW xG) g6 g7 (own_kb_4_3 xW xG) hp ⟨by omega, hl.2.1⟩ (xG.toInt.toNat * 4 - 1) 0 _ _ _ _ _ _ _ (by omega) (by rw [show (0 : Int32).toInt = 0 by decide]; omega) (by decide) B238 N227 (W227.size ▸ s203) F239 F231 F240 F227 F241 F242 F243 F233 F244 F245 F246 F247 (fun T8 h8 L8 t8 i8 b8 B8 N8 K8 => ?_)
  have F248 := ((Fld.other W227 (Fld.ext E203 (Fld.other W200 (Fld.ext E179 (Fld.other W175 (Fld.other W170 (Fld.other W165 (Fld.other W160 (Fld.other W153 (Fld.ext E141 ((Fld.other W122 (Fld.ext E104 (Fld.other W101 (Fld.ext E85 (Fld.other W82 (Fld.ext E68 (Fld.other W65 (Fld.ext E53 (Fld.other W50 (Fld.ext E40 (Fld.other W37 (Fld.ext E29 (Fld.other W26 (Fld.ext E20 (Fld.other W17 (Fld.ext E13 (Fld.other W10 (Fld.other W7 F3 (Or.inr (sn140 hw))) (Or.inr (sn141 hw)))) (Or.inr (sn142 hw)))) (Or.inr (sn143 hw)))) (Or.inr (sn144 hw)))) (Or.inr (sn145 hw)))) (Or.inr (sn146 hw)))) (Or.inr (sn147 hw)))) (Or.inr (sn148 hw)))) (Or.inr (sn149 hw))).keep K9 (ninS (Nat.ne_of_lt lt15) (ninS (Nat.ne_of_lt lt22) (ninS (Nat.ne_of_lt lt31) (ninS (Nat.ne_of_lt lt42) (ninS (Nat.ne_of_lt lt55) (ninS (Nat.ne_of_lt lt70) (ninS (Nat.ne_of_lt lt87) (ninS (Nat.ne_of_lt lt106) nin0)))))))))) (Or.inr (sn150 hw))) (Or.inl (Nat.ne_of_lt lt143))) (Or.inl (Nat.ne_of_lt lt143))) (Or.inl (Nat.ne_of_lt lt143))) (Or.inl (Nat.ne_of_lt lt143)))) (Or.inr (sn151 hw)))) (Or.inr (sn152 hw))).keep K8 (ninS (Nat.ne_of_lt lt181) (ninS (Nat.ne_of_lt lt205) nin0)))
  have F249 := (F243.keep K8 (ninS (Nat.ne_of_lt lt181) (ninS (Nat.ne_of_lt lt205) nin0)))
  have F250 := ((Fld.other W227 (Fld.ext E203 (Fld.other W200 (Fld.ext E179 (Fld.other W175 (Fld.other W170 (Fld.other W165 (Fld.other W160 (Fld.other W153 (Fld.ext E141 ((Fld.other W122 (Fld.ext E104 (Fld.other W101 (Fld.ext E85 (Fld.other W82 (Fld.ext E68 (Fld.other W65 (Fld.ext E53 (Fld.other W50 (Fld.ext E40 (Fld.other W37 (Fld.ext E29 (Fld.other W26 (Fld.ext E20 (Fld.other W17 (Fld.ext E13 F10) (Or.inr (sn153 hw)))) (Or.inr (sn154 hw)))) (Or.inr (sn155 hw)))) (Or.inr (sn156 hw)))) (Or.inr (sn157 hw)))) (Or.inr (sn158 hw)))) (Or.inr (sn159 hw)))) (Or.inr (sn160 hw))).keep K9 (ninS (Nat.ne_of_lt lt15) (ninS (Nat.ne_of_lt lt22) (ninS (Nat.ne_of_lt lt31) (ninS (Nat.ne_of_lt lt42) (ninS (Nat.ne_of_lt lt55) (ninS (Nat.ne_of_lt lt70) (ninS (Nat.ne_of_lt lt87) (ninS (Nat.ne_of_lt lt106) nin0)))))))))) (Or.inr (sn161 hw))) (Or.inl (Nat.ne_of_lt lt143))) (Or.inl (Nat.ne_of_lt lt143))) (Or.inl (Nat.ne_of_lt lt143))) (Or.inl (Nat.ne_of_lt lt143)))) (Or.inr (sn162 hw)))) (Or.inr (sn163 hw))).keep K8 (ninS (Nat.ne_of_lt lt181) (ninS (Nat.ne_of_lt lt205) nin0)))
  have F251 := ((Fld.other W227 (Fld.ext E203 (Fld.other W200 (Fld.ext E179 (Fld.other W175 (Fld.other W170 (Fld.other W165 (Fld.other W160 (Fld.other W153 (Fld.ext E141 (F127.keep K9 (ninS (Nat.ne_of_lt lt15) (ninS (Nat.ne_of_lt lt22) (ninS (Nat.ne_of_lt lt31) (ninS (Nat.ne_of_lt lt42) (ninS (Nat.ne_of_lt lt55) (ninS (Nat.ne_of_lt lt70) (ninS (Nat.ne_of_lt lt87) (ninS (Nat.ne_of_lt lt106) nin0)))))))))) (Or.inr (sn164 hw))) (Or.inl (Nat.ne_of_lt lt143))) (Or.inl (Nat.ne_of_lt lt143))) (Or.inl (Nat.ne_of_lt lt143))) (Or.inl (Nat.ne_of_lt lt143)))) (Or.inr (sn165 hw)))) (Or.inr (sn166 hw))).keep K8 (ninS (Nat.ne_of_lt lt181) (ninS (Nat.ne_of_lt lt205) nin0)))
  have F252 := (((F208.ext E203).other W227 (Ne.symm (Nat.ne_of_lt lt22))).keep K8 (ninS (Nat.ne_of_lt lt185) (ninS (Nat.ne_of_lt lt209) nin0)))
  have F253 := ((Fld.other W227 (Fld.ext E203 (Fld.other W200 (Fld.ext E179 (Fld.other W175 (Fld.other W170 (Fld.other W165 (Fld.other W160 (Fld.other W153 (Fld.ext E141 (F128.keep K9 (ninS (Nat.ne_of_lt lt15) (ninS (Nat.ne_of_lt lt22) (ninS (Nat.ne_of_lt lt31) (ninS (Nat.ne_of_lt lt42) (ninS (Nat.ne_of_lt lt55) (ninS (Nat.ne_of_lt lt70) (ninS (Nat.ne_of_lt lt87) (ninS (Nat.ne_of_lt lt106) nin0)))))))))) (Or.inr (sn167 hw))) (Or.inl (Nat.ne_of_lt lt143))) (Or.inl (Nat.ne_of_lt lt143))) (Or.inl (Nat.ne_of_lt lt143))) (Or.inl (Nat.ne_of_lt lt143)))) (Or.inr (sn168 hw)))) (Or.inr (sn169 hw))).keep K8 (ninS (Nat.ne_of_lt lt181) (ninS (Nat.ne_of_lt lt205) nin0)))
  have F254 := (((F210.ext E203).other W227 (Ne.symm (Nat.ne_of_lt lt31))).keep K8 (ninS (Nat.ne_of_lt lt187) (ninS (Nat.ne_of_lt lt211) nin0)))
  have F255 := ((Fld.other W227 (Fld.ext E203 (Fld.other W200 (Fld.ext E179 (Fld.other W175 (Fld.other W170 (Fld.other W165 (Fld.other W160 (Fld.other W153 (Fld.ext E141 (F129.keep K9 (ninS (Nat.ne_of_lt lt15) (ninS (Nat.ne_of_lt lt22) (ninS (Nat.ne_of_lt lt31) (ninS (Nat.ne_of_lt lt42) (ninS (Nat.ne_of_lt lt55) (ninS (Nat.ne_of_lt lt70) (ninS (Nat.ne_of_lt lt87) (ninS (Nat.ne_of_lt lt106) nin0)))))))))) (Or.inr (sn170 hw))) (Or.inl (Nat.ne_of_lt lt143))) (Or.inl (Nat.ne_of_lt lt143))) (Or.inl (Nat.ne_of_lt lt143))) (Or.inl (Nat.ne_of_lt lt143)))) (Or.inr (sn171 hw)))) (Or.inr (sn172 hw))).keep K8 (ninS (Nat.ne_of_lt lt181) (ninS (Nat.ne_of_lt lt205) nin0)))
  have F256 := (((F212.ext E203).other W227 (Ne.symm (Nat.ne_of_lt lt42))).keep K8 (ninS (Nat.ne_of_lt lt189) (ninS (Nat.ne_of_lt lt213) nin0)))
  have F257 := ((Fld.other W227 (Fld.ext E203 (Fld.other W200 (Fld.ext E179 (Fld.other W175 (Fld.other W170 (Fld.other W165 (Fld.other W160 (Fld.other W153 (Fld.ext E141 (F130.keep K9 (ninS (Nat.ne_of_lt lt15) (ninS (Nat.ne_of_lt lt22) (ninS (Nat.ne_of_lt lt31) (ninS (Nat.ne_of_lt lt42) (ninS (Nat.ne_of_lt lt55) (ninS (Nat.ne_of_lt lt70) (ninS (Nat.ne_of_lt lt87) (ninS (Nat.ne_of_lt lt106) nin0)))))))))) (Or.inr (sn173 hw))) (Or.inl (Nat.ne_of_lt lt143))) (Or.inl (Nat.ne_of_lt lt143))) (Or.inl (Nat.ne_of_lt lt143))) (Or.inl (Nat.ne_of_lt lt143)))) (Or.inr (sn174 hw)))) (Or.inr (sn175 hw))).keep K8 (ninS (Nat.ne_of_lt lt181) (ninS (Nat.ne_of_lt lt205) nin0)))
  have F258 := (((F214.ext E203).other W227 (Ne.symm (Nat.ne_of_lt lt55))).keep K8 (ninS (Nat.ne_of_lt lt191) (ninS (Nat.ne_of_lt lt215) nin0)))
  have F259 := ((Fld.other W227 (Fld.ext E203 (Fld.other W200 (Fld.ext E179 (Fld.other W175 (Fld.other W170 (Fld.other W165 (Fld.other W160 (Fld.other W153 (Fld.ext E141 (F122.keep K9 (ninS (Nat.ne_of_lt lt15) (ninS (Nat.ne_of_lt lt22) (ninS (Nat.ne_of_lt lt31) (ninS (Nat.ne_of_lt lt42) (ninS (Nat.ne_of_lt lt55) (ninS (Nat.ne_of_lt lt70) (ninS (Nat.ne_of_lt lt87) (ninS (Nat.ne_of_lt lt106) nin0)))))))))) (Or.inr (sn176 hw))) (Or.inl (Nat.ne_of_lt lt143))) (Or.inl (Nat.ne_of_lt lt143))) (Or.inl (Nat.ne_of_lt lt143))) (Or.inl (Nat.ne_of_lt lt143)))) (Or.inr (sn177 hw)))) (Or.inr (sn178 hw))).keep K8 (ninS (Nat.ne_of_lt lt181) (ninS (Nat.ne_of_lt lt205) nin0)))
  have F260 := (((F220.ext E203).other W227 (Ne.symm (Nat.ne_of_lt lt106))).keep K8 (ninS (Nat.ne_of_lt lt197) (ninS (Nat.ne_of_lt lt221) nin0)))
  have KT261 := (((KT226.ext E203).wr W227 (Or.inl (mi 0 rfl))).trans K8 (allS (Or.inr y179) (allS (Or.inr y203) all0)))
  exact o_retV B8 701 d2_701 hret hlk (by decide) (by decide) ⟨rfl, N8, KT261, F248, F249, F250, a20, a29, a40, a53, a104, F251, F252, F253, F254, F255, F256, F257, F258, F259, F260⟩
def w2_4_4dz_1 (xG : Int32) (t : Nat) (gi bi : Int32) (gk : Nat → Int64) (g1 g2 g6 g7 : Nat → Int32) : Nat → Int32 := fun j => if j = t then gi else g1 j
def q2_4_4dz_2 (xG : Int32) (t : Nat) (gi bi : Int32) (gk : Nat → Int64) (g1 g2 g6 g7 : Nat → Int32) : Int32 := (f10 (xG.toInt.toNat * 4) g6 (4 : Int32) gi bi)
def q2_4_4dz_3 (xG : Int32) (t : Nat) (gi bi : Int32) (gk : Nat → Int64) (g1 g2 g6 g7 : Nat → Int32) : Int32 := (f11 (xG.toInt.toNat * 4) g7 (4 : Int32) gi bi)
def q2_4_4dz_4 (xG : Int32) (t : Nat) (gi bi : Int32) (gk : Nat → Int64) (g1 g2 g6 g7 : Nat → Int32) : Int32 := ((q2_4_4dz_2 xG t gi bi gk g1 g2 g6 g7) + (q2_4_4dz_3 xG t gi bi gk g1 g2 g6 g7))
def w2_4_4dz_5 (xG : Int32) (t : Nat) (gi bi : Int32) (gk : Nat → Int64) (g1 g2 g6 g7 : Nat → Int32) : Nat → Int32 := fun j => if j = t then (q2_4_4dz_4 xG t gi bi gk g1 g2 g6 g7) else g2 j
def w2_4_4ds_1 (xG : Int32) (t : Nat) (gi bi : Int32) (gk : Nat → Int64) (g1 g2 g6 g7 : Nat → Int32) : Nat → Int32 := fun j => if j = t then gi else g1 j
def q2_4_4ds_2 (xG : Int32) (t : Nat) (gi bi : Int32) (gk : Nat → Int64) (g1 g2 g6 g7 : Nat → Int32) : Int32 := (f10 (xG.toInt.toNat * 4) g6 (4 : Int32) gi bi)
def q2_4_4ds_3 (xG : Int32) (t : Nat) (gi bi : Int32) (gk : Nat → Int64) (g1 g2 g6 g7 : Nat → Int32) : Int32 := (f11 (xG.toInt.toNat * 4) g7 (4 : Int32) gi bi)
def q2_4_4ds_4 (xG : Int32) (t : Nat) (gi bi : Int32) (gk : Nat → Int64) (g1 g2 g6 g7 : Nat → Int32) : Int32 := ((q2_4_4ds_2 xG t gi bi gk g1 g2 g6 g7) + (q2_4_4ds_3 xG t gi bi gk g1 g2 g6 g7))
def w2_4_4ds_5 (xG : Int32) (t : Nat) (gi bi : Int32) (gk : Nat → Int64) (g1 g2 g6 g7 : Nat → Int32) : Nat → Int32 := fun j => if j = t then (q2_4_4ds_4 xG t gi bi gk g1 g2 g6 g7) else g2 j
set_option maxRecDepth 65536 in
set_option maxHeartbeats 400000000 in
theorem lpD_4_4 {p : Program} {l : Launch} {e : Env} {R : Room} {s : State} {m : MethodId} {args : Array Value} {below : List Frame} {meth : Method} {c : Code} {Z : State} {cells slots n0 : Nat} {P : Outcome → State → Prop} (hcc : cells ≤ R.cells ∧ slots ≤ R.slots ∧ 2 ≤ R.frames ∧ 100 ≤ R.locals) (a0 : Array Value) (hw : ∀ d ∈ tables_1, d.before a0 Z = true) (xW xG s9 : Int32) (ke ca : Int64) (a bo bw ky tg be : Nat) (o1 : a < bo) (o2 : bo < bw) (o3 : bw < ky) (o4 : ky < tg) (o5 : tg < be) (ga : n0 ≤ a) (gk : Nat → Int64) (g6 g7 : Nat → Int32) (hkb : ∀ i, i < 1 → 0 ≤ (f8 (gk i)).toInt ∧ (f8 (gk i)).toInt < 4) (hp : Hp 4 xW xG) (hl : xG.toInt.toNat ≤ 2000 ∧ xG.toInt = (xG.toInt.toNat : Nat)) : ∀ (k t : Nat) (T : State) (h : Heap) (locs : List Loc) (gi bi : Int32) (g1 g2 : Nat → Int32),
    t + k + 1 = (xG.toInt.toNat * 1) → (0 ≤ gi.toInt ∧ gi.toInt < xG.toInt.toNat) → (0 ≤ bi.toInt ∧ bi.toInt < 4) → Bx "com/example/hyperplane/hyperplane/Blocks" prog_2_method_3_code 17 Z p l e R s m args below meth c T h locs cells slots → Fr n0 locs → n0 ≤ h.size → Exa Z h a "com/example/hyperplane/hyperplane/Blocks" → Fld Z h a "com/example/hyperplane/hyperplane/Blocks" "keys" "[J" (.ref ky) → Fld Z h a "com/example/hyperplane/hyperplane/Blocks" "tableGroups" "[I" (.ref tg) → Fld Z h a "com/example/hyperplane/hyperplane/Blocks" "blockEnds" "[I" (.ref be) → Fld Z h a "com/example/hyperplane/hyperplane/Blocks" "blockOffsets" "[I" (.ref bo) → Fld Z h a "com/example/hyperplane/hyperplane/Blocks" "blockWidths" "[I" (.ref bw) → Fld Z h a "com/example/hyperplane/hyperplane/Blocks" "blocksPerGroup" "I" (.int (4 : Int32)) → AJ Z h ky 1 gk → AI Z h tg .int (xG.toInt.toNat * 1) g1 → AI Z h be .int (xG.toInt.toNat * 1) g2 → AI Z h bo .int (xG.toInt.toNat * 4) g6 → AI Z h bw .int (xG.toInt.toNat * 4) g7 →
    (∀ (T' : State) (h' : Heap) (locs' : List Loc) (t' i' b' : Int32), Bx "com/example/hyperplane/hyperplane/Blocks" prog_2_method_3_code 17 Z p l e R s m args below meth c T' h' locs' cells slots → Fr n0 locs' → Keep h h' [tg, be] → OG p.tables e below P (T'.setTop (mkF m 701 #[vr a, vi xW, vi 0, vi xG, vi 4, vi 4, vi 0, vj (xG.toInt64 * (1 : Int64)), s2, vi s9, vj ke, s2, vi t', vi i', vi b', vj ca, s2] []))) →
    OG p.tables e below P (T.setTop (mkF m 662 #[vr a, vi xW, vi 0, vi xG, vi 4, vi 4, vi 0, vj (xG.toInt64 * (1 : Int64)), s2, vi s9, vj ke, s2, vi (Int32.ofNat t), vi gi, vi bi, vj ca, s2] [])) := by
  intro k
  induction k with
  | zero =>
    intro t T h locs gi bi g1 g2 hg hgi hbi B N hz hE F_ky F_tg F_be F_bo F_bw F_P A_ky A_tg A_be A_bo A_bw cont
    have htx := ix_of (own_on t (by omega))
    have hix := own_ix2 (c := (4 : Int32)) (P := 4) (n := xG.toInt.toNat) hgi hbi (by decide) (by omega)
    refine o_aloadN B 662 663 (v := (.ref a)) d2_662 rfl rfl rfl ?_
    obtain ⟨T1, B1, c1⟩ := o_getfield B 663 666 d2_663 rfl (host := "") (Or.inl (hw _ (mi 64 rfl))) Via.refl F_tg (Ls := #[vr a, vi xW, vi 0, vi xG, vi 4, vi 4, vi 0, vj (xG.toInt64 * (1 : Int64)), s2, vi s9, vj ke, s2, vi (Int32.ofNat t), vi gi, vi bi, vj ca, s2]) (rest := [])
    refine c1 ?_
    refine o_iload B1 666 668 (v := (Int32.ofNat t)) d2_666 rfl rfl ?_
    refine o_iload B1 668 670 (v := gi) d2_668 rfl rfl ?_
    obtain ⟨T2, h2, L2, B2, N2, W2, Q2, c2⟩ := o_iastore B1 N (show n0 ≤ tg by omega) 670 671 A_tg (j := (Int32.ofNat t)) (x := gi) t gi d2_670 rfl htx.1 htx.2 (by omega) rfl (Ls := #[vr a, vi xW, vi 0, vi xG, vi 4, vi 4, vi 0, vj (xG.toInt64 * (1 : Int64)), s2, vi s9, vj ke, s2, vi (Int32.ofNat t), vi gi, vi bi, vj ca, s2]) (rest := [])
    have A2 : AI Z h2 tg .int (xG.toInt.toNat * 1) (w2_4_4dz_1 xG t gi bi gk g1 g2 g6 g7) := Q2
    refine c2 ?_
    refine o_aloadN B2 671 672 (v := (.ref a)) d2_671 rfl rfl rfl ?_
    have F4 := (Fld.other W2 F_be (Or.inl (Nat.ne_of_lt (by omega))))
    obtain ⟨T3, B3, c3⟩ := o_getfield B2 672 675 d2_672 rfl (host := "") (Or.inl (hw _ (mi 66 rfl))) Via.refl F4 (Ls := #[vr a, vi xW, vi 0, vi xG, vi 4, vi 4, vi 0, vj (xG.toInt64 * (1 : Int64)), s2, vi s9, vj ke, s2, vi (Int32.ofNat t), vi gi, vi bi, vj ca, s2]) (rest := [])
    refine c3 ?_
    refine o_iload B3 675 677 (v := (Int32.ofNat t)) d2_675 rfl rfl ?_
    refine o_aloadN B3 677 678 (v := (.ref a)) d2_677 rfl rfl rfl ?_
    refine o_iload B3 678 680 (v := gi) d2_678 rfl rfl ?_
    refine o_iload B3 680 682 (v := bi) d2_680 rfl rfl ?_
    have F5 := (Fld.other W2 F_bo (Or.inl (Nat.ne_of_lt (by omega))))
    have F6 := (Fld.other W2 F_P (Or.inl (Nat.ne_of_lt (by omega))))
    have F7 := (A_bo.other W2 (Nat.ne_of_lt (by omega)))
    have F8 := (Exa.wr W2 hE)
    obtain ⟨T9, B9, c9⟩ := o_callVP B3 682 685 d2_682 rfl (hw _ (mi 76 rfl)) (hw _ (mi 77 rfl)) (hw _ (mi 79 rfl)) (hw _ (mi 78 rfl)) (hw _ (mi 17 rfl)) (hw _ (mi 80 rfl)) (by decide) F8 (rm10 l Z a0 hw a (xG.toInt.toNat * 4) g6 bo (4 : Int32) gi bi h2 F5 F6 F7 hix) 2 [(.int gi), (.int bi)] [(.int (Int32.ofNat t)), (.ref be)] pd__II_I rfl rfl (st := [(.int bi), (.int gi), (.ref a), (.int (Int32.ofNat t)), (.ref be)]) rfl (Ls := #[vr a, vi xW, vi 0, vi xG, vi 4, vi 4, vi 0, vj (xG.toInt64 * (1 : Int64)), s2, vi s9, vj ke, s2, vi (Int32.ofNat t), vi gi, vi bi, vj ca, s2]) rfl (Nat.le_of_eq rfl) (by first | omega | (show _ + _ + _ ≤ _; omega) | (simp; omega)) (by first | omega | (show _ + _ + _ ≤ _; omega) | (simp; omega)) (by first | omega | (show _ + _ + _ ≤ _; omega) | (simp; omega)) (by first | omega | (show _ + _ + _ ≤ _; omega) | (simp; omega))
    refine c9 ?_
    refine o_aloadN B9 685 686 (v := (.ref a)) d2_685 rfl rfl rfl ?_
    refine o_iload B9 686 688 (v := gi) d2_686 rfl rfl ?_
    refine o_iload B9 688 690 (v := bi) d2_688 rfl rfl ?_
    have F10 := (Fld.other W2 F_bw (Or.inl (Nat.ne_of_lt (by omega))))
    have F11 := (A_bw.other W2 (Nat.ne_of_lt (by omega)))
    obtain ⟨T12, B12, c12⟩ := o_callVP B9 690 693 d2_690 rfl (hw _ (mi 81 rfl)) (hw _ (mi 82 rfl)) (hw _ (mi 84 rfl)) (hw _ (mi 83 rfl)) (hw _ (mi 17 rfl)) (hw _ (mi 85 rfl)) (by decide) F8 (rm11 l Z a0 hw a (xG.toInt.toNat * 4) g7 bw (4 : Int32) gi bi h2 F10 F6 F11 hix) 3 [(.int gi), (.int bi)] [(.int (q2_4_4dz_2 xG t gi bi gk g1 g2 g6 g7)), (.int (Int32.ofNat t)), (.ref be)] pd__II_I rfl rfl (st := [(.int bi), (.int gi), (.ref a), (.int (q2_4_4dz_2 xG t gi bi gk g1 g2 g6 g7)), (.int (Int32.ofNat t)), (.ref be)]) rfl (Ls := #[vr a, vi xW, vi 0, vi xG, vi 4, vi 4, vi 0, vj (xG.toInt64 * (1 : Int64)), s2, vi s9, vj ke, s2, vi (Int32.ofNat t), vi gi, vi bi, vj ca, s2]) rfl (Nat.le_of_eq rfl) (by first | omega | (show _ + _ + _ ≤ _; omega) | (simp; omega)) (by first | omega | (show _ + _ + _ ≤ _; omega) | (simp; omega)) (by first | omega | (show _ + _ + _ ≤ _; omega) | (simp; omega)) (by first | omega | (show _ + _ + _ ≤ _; omega) | (simp; omega))
    refine c12 ?_
    refine o_iadd B12 693 694 d2_693 rfl ?_
    have F14 := (A_be.other W2 (Nat.ne_of_gt (by omega)))
    obtain ⟨T13, h13, L13, B13, N13, W13, Q13, c13⟩ := o_iastore B12 N2 (show n0 ≤ be by omega) 694 695 F14 (j := (Int32.ofNat t)) (x := ((q2_4_4dz_2 xG t gi bi gk g1 g2 g6 g7) + (q2_4_4dz_3 xG t gi bi gk g1 g2 g6 g7))) t (q2_4_4dz_4 xG t gi bi gk g1 g2 g6 g7) d2_694 rfl htx.1 htx.2 (by omega) rfl (Ls := #[vr a, vi xW, vi 0, vi xG, vi 4, vi 4, vi 0, vj (xG.toInt64 * (1 : Int64)), s2, vi s9, vj ke, s2, vi (Int32.ofNat t), vi gi, vi bi, vj ca, s2]) (rest := [])
    have A13 : AI Z h13 be .int (xG.toInt.toNat * 1) (w2_4_4dz_5 xG t gi bi gk g1 g2 g6 g7) := Q13
    refine c13 ?_
    refine o_iincC B13 695 698 (l' := #[vr a, vi xW, vi 0, vi xG, vi 4, vi 4, vi 0, vj (xG.toInt64 * (1 : Int64)), s2, vi s9, vj ke, s2, vi (Int32.ofNat (t + 1)), vi gi, vi bi, vj ca, s2]) (1 : Int32) (Int32.ofNat (t + 1)) d2_695 rfl (by decide) rfl (own_inc t) rfl ?_
    refine o_goto B13 698 625 d2_698 (by decide) (by decide) ?_
    refine o_iload B13 625 627 (v := (Int32.ofNat (t + 1))) d2_625 rfl rfl ?_
    refine o_i2l B13 627 628 d2_627 rfl ?_
    refine o_lload B13 628 630 (v := (xG.toInt64 * (1 : Int64))) d2_628 rfl rfl ?_
    refine o_lcmp B13 630 631 d2_630 rfl ?_
    refine o_ifY B13 631 701 d2_631 (XT.ll_ge_t (by rw [Int64.lt_iff_toInt_lt, own_gt hp 1 1 (by decide) (by decide) (by decide), c_i2l, own_on _ (by omega)]; omega)) (by decide) (by decide) ?_
    have KT15 := (((Keep.refl h [tg, be]).wr W2 (Or.inl (mi 0 rfl))).wr W13 (Or.inl (mi 1 rfl)))
    exact cont _ _ _ _ _ _ B13 N13 KT15
  | succ k ih =>
    intro t T h locs gi bi g1 g2 hg hgi hbi B N hz hE F_ky F_tg F_be F_bo F_bw F_P A_ky A_tg A_be A_bo A_bw cont
    have htx := ix_of (own_on t (by omega))
    have hix := own_ix2 (c := (4 : Int32)) (P := 4) (n := xG.toInt.toNat) hgi hbi (by decide) (by omega)
    have hd := own_dv (t + 1) 1 (by omega) (by decide)
    have hm := ix_of hd.2
    refine o_aloadN B 662 663 (v := (.ref a)) d2_662 rfl rfl rfl ?_
    obtain ⟨T1, B1, c1⟩ := o_getfield B 663 666 d2_663 rfl (host := "") (Or.inl (hw _ (mi 64 rfl))) Via.refl F_tg (Ls := #[vr a, vi xW, vi 0, vi xG, vi 4, vi 4, vi 0, vj (xG.toInt64 * (1 : Int64)), s2, vi s9, vj ke, s2, vi (Int32.ofNat t), vi gi, vi bi, vj ca, s2]) (rest := [])
    refine c1 ?_
    refine o_iload B1 666 668 (v := (Int32.ofNat t)) d2_666 rfl rfl ?_
    refine o_iload B1 668 670 (v := gi) d2_668 rfl rfl ?_
    obtain ⟨T2, h2, L2, B2, N2, W2, Q2, c2⟩ := o_iastore B1 N (show n0 ≤ tg by omega) 670 671 A_tg (j := (Int32.ofNat t)) (x := gi) t gi d2_670 rfl htx.1 htx.2 (by omega) rfl (Ls := #[vr a, vi xW, vi 0, vi xG, vi 4, vi 4, vi 0, vj (xG.toInt64 * (1 : Int64)), s2, vi s9, vj ke, s2, vi (Int32.ofNat t), vi gi, vi bi, vj ca, s2]) (rest := [])
    have A2 : AI Z h2 tg .int (xG.toInt.toNat * 1) (w2_4_4ds_1 xG t gi bi gk g1 g2 g6 g7) := Q2
    refine c2 ?_
    refine o_aloadN B2 671 672 (v := (.ref a)) d2_671 rfl rfl rfl ?_
    have F4 := (Fld.other W2 F_be (Or.inl (Nat.ne_of_lt (by omega))))
    obtain ⟨T3, B3, c3⟩ := o_getfield B2 672 675 d2_672 rfl (host := "") (Or.inl (hw _ (mi 66 rfl))) Via.refl F4 (Ls := #[vr a, vi xW, vi 0, vi xG, vi 4, vi 4, vi 0, vj (xG.toInt64 * (1 : Int64)), s2, vi s9, vj ke, s2, vi (Int32.ofNat t), vi gi, vi bi, vj ca, s2]) (rest := [])
    refine c3 ?_
    refine o_iload B3 675 677 (v := (Int32.ofNat t)) d2_675 rfl rfl ?_
    refine o_aloadN B3 677 678 (v := (.ref a)) d2_677 rfl rfl rfl ?_
    refine o_iload B3 678 680 (v := gi) d2_678 rfl rfl ?_
    refine o_iload B3 680 682 (v := bi) d2_680 rfl rfl ?_
    have F5 := (Fld.other W2 F_bo (Or.inl (Nat.ne_of_lt (by omega))))
    have F6 := (Fld.other W2 F_P (Or.inl (Nat.ne_of_lt (by omega))))
    have F7 := (A_bo.other W2 (Nat.ne_of_lt (by omega)))
    have F8 := (Exa.wr W2 hE)
    obtain ⟨T9, B9, c9⟩ := o_callVP B3 682 685 d2_682 rfl (hw _ (mi 76 rfl)) (hw _ (mi 77 rfl)) (hw _ (mi 79 rfl)) (hw _ (mi 78 rfl)) (hw _ (mi 17 rfl)) (hw _ (mi 80 rfl)) (by decide) F8 (rm10 l Z a0 hw a (xG.toInt.toNat * 4) g6 bo (4 : Int32) gi bi h2 F5 F6 F7 hix) 2 [(.int gi), (.int bi)] [(.int (Int32.ofNat t)), (.ref be)] pd__II_I rfl rfl (st := [(.int bi), (.int gi), (.ref a), (.int (Int32.ofNat t)), (.ref be)]) rfl (Ls := #[vr a, vi xW, vi 0, vi xG, vi 4, vi 4, vi 0, vj (xG.toInt64 * (1 : Int64)), s2, vi s9, vj ke, s2, vi (Int32.ofNat t), vi gi, vi bi, vj ca, s2]) rfl (Nat.le_of_eq rfl) (by first | omega | (show _ + _ + _ ≤ _; omega) | (simp; omega)) (by first | omega | (show _ + _ + _ ≤ _; omega) | (simp; omega)) (by first | omega | (show _ + _ + _ ≤ _; omega) | (simp; omega)) (by first | omega | (show _ + _ + _ ≤ _; omega) | (simp; omega))
    refine c9 ?_
    refine o_aloadN B9 685 686 (v := (.ref a)) d2_685 rfl rfl rfl ?_
    refine o_iload B9 686 688 (v := gi) d2_686 rfl rfl ?_
    refine o_iload B9 688 690 (v := bi) d2_688 rfl rfl ?_
    have F10 := (Fld.other W2 F_bw (Or.inl (Nat.ne_of_lt (by omega))))
    have F11 := (A_bw.other W2 (Nat.ne_of_lt (by omega)))
    obtain ⟨T12, B12, c12⟩ := o_callVP B9 690 693 d2_690 rfl (hw _ (mi 81 rfl)) (hw _ (mi 82 rfl)) (hw _ (mi 84 rfl)) (hw _ (mi 83 rfl)) (hw _ (mi 17 rfl)) (hw _ (mi 85 rfl)) (by decide) F8 (rm11 l Z a0 hw a (xG.toInt.toNat * 4) g7 bw (4 : Int32) gi bi h2 F10 F6 F11 hix) 3 [(.int gi), (.int bi)] [(.int (q2_4_4ds_2 xG t gi bi gk g1 g2 g6 g7)), (.int (Int32.ofNat t)), (.ref be)] pd__II_I rfl rfl (st := [(.int bi), (.int gi), (.ref a), (.int (q2_4_4ds_2 xG t gi bi gk g1 g2 g6 g7)), (.int (Int32.ofNat t)), (.ref be)]) rfl (Ls := #[vr a, vi xW, vi 0, vi xG, vi 4, vi 4, vi 0, vj (xG.toInt64 * (1 : Int64)), s2, vi s9, vj ke, s2, vi (Int32.ofNat t), vi gi, vi bi, vj ca, s2]) rfl (Nat.le_of_eq rfl) (by first | omega | (show _ + _ + _ ≤ _; omega) | (simp; omega)) (by first | omega | (show _ + _ + _ ≤ _; omega) | (simp; omega)) (by first | omega | (show _ + _ + _ ≤ _; omega) | (simp; omega)) (by first | omega | (show _ + _ + _ ≤ _; omega) | (simp; omega))
    refine c12 ?_
    refine o_iadd B12 693 694 d2_693 rfl ?_
    have F14 := (A_be.other W2 (Nat.ne_of_gt (by omega)))
    obtain ⟨T13, h13, L13, B13, N13, W13, Q13, c13⟩ := o_iastore B12 N2 (show n0 ≤ be by omega) 694 695 F14 (j := (Int32.ofNat t)) (x := ((q2_4_4ds_2 xG t gi bi gk g1 g2 g6 g7) + (q2_4_4ds_3 xG t gi bi gk g1 g2 g6 g7))) t (q2_4_4ds_4 xG t gi bi gk g1 g2 g6 g7) d2_694 rfl htx.1 htx.2 (by omega) rfl (Ls := #[vr a, vi xW, vi 0, vi xG, vi 4, vi 4, vi 0, vj (xG.toInt64 * (1 : Int64)), s2, vi s9, vj ke, s2, vi (Int32.ofNat t), vi gi, vi bi, vj ca, s2]) (rest := [])
    have A13 : AI Z h13 be .int (xG.toInt.toNat * 1) (w2_4_4ds_5 xG t gi bi gk g1 g2 g6 g7) := Q13
    refine c13 ?_
    refine o_iincC B13 695 698 (l' := #[vr a, vi xW, vi 0, vi xG, vi 4, vi 4, vi 0, vj (xG.toInt64 * (1 : Int64)), s2, vi s9, vj ke, s2, vi (Int32.ofNat (t + 1)), vi gi, vi bi, vj ca, s2]) (1 : Int32) (Int32.ofNat (t + 1)) d2_695 rfl (by decide) rfl (own_inc t) rfl ?_
    refine o_goto B13 698 625 d2_698 (by decide) (by decide) ?_
    refine o_iload B13 625 627 (v := (Int32.ofNat (t + 1))) d2_625 rfl rfl ?_
    refine o_i2l B13 627 628 d2_627 rfl ?_
    refine o_lload B13 628 630 (v := (xG.toInt64 * (1 : Int64))) d2_628 rfl rfl ?_
    refine o_lcmp B13 630 631 d2_630 rfl ?_
    refine o_ifN B13 631 634 d2_631 rfl (XT.ll_ge_f (by rw [Int64.lt_iff_toInt_lt, own_gt hp 1 1 (by decide) (by decide) (by decide), c_i2l, own_on _ (by omega)]; omega)) ?_
    refine o_iload B13 634 636 (v := (Int32.ofNat (t + 1))) d2_634 rfl rfl ?_
    refine o_aloadN B13 636 637 (v := (.ref a)) d2_636 rfl rfl rfl ?_
    have F16 := (Fld.other W13 (Fld.other W2 F_ky (Or.inl (Nat.ne_of_lt (by omega)))) (Or.inl (Nat.ne_of_lt (by omega))))
    obtain ⟨T15, B15, c15⟩ := o_getfield B13 637 640 d2_637 rfl (host := "") (Or.inl (hw _ (mi 62 rfl))) Via.refl F16 (Ls := #[vr a, vi xW, vi 0, vi xG, vi 4, vi 4, vi 0, vj (xG.toInt64 * (1 : Int64)), s2, vi s9, vj ke, s2, vi (Int32.ofNat (t + 1)), vi gi, vi bi, vj ca, s2]) (rest := [(.int (Int32.ofNat (t + 1)))])
    refine c15 ?_
    have F18 := ((A_ky.other W2 (Nat.ne_of_lt (by omega))).other W13 (Nat.ne_of_lt (by omega)))
    refine o_alenJ B15 640 641 F18 (1 : Int32) d2_640 rfl (by decide) ?_
    refine o_idiv B15 641 642 d2_641 rfl (by decide) ?_
    refine o_istore B15 642 644 (l' := #[vr a, vi xW, vi 0, vi xG, vi 4, vi 4, vi 0, vj (xG.toInt64 * (1 : Int64)), s2, vi s9, vj ke, s2, vi (Int32.ofNat (t + 1)), vi ((Int32.ofNat (t + 1)) / (1 : Int32)), vi bi, vj ca, s2]) d2_642 rfl rfl ?_
    refine o_aloadN B15 644 645 (v := (.ref a)) d2_644 rfl rfl rfl ?_
    obtain ⟨T19, B19, c19⟩ := o_getfield B15 645 648 d2_645 rfl (host := "") (Or.inl (hw _ (mi 62 rfl))) Via.refl F16 (Ls := #[vr a, vi xW, vi 0, vi xG, vi 4, vi 4, vi 0, vj (xG.toInt64 * (1 : Int64)), s2, vi s9, vj ke, s2, vi (Int32.ofNat (t + 1)), vi ((Int32.ofNat (t + 1)) / (1 : Int32)), vi bi, vj ca, s2]) (rest := [])
    refine c19 ?_
    refine o_iload B19 648 650 (v := (Int32.ofNat (t + 1))) d2_648 rfl rfl ?_
    refine o_aloadN B19 650 651 (v := (.ref a)) d2_650 rfl rfl rfl ?_
    obtain ⟨T20, B20, c20⟩ := o_getfield B19 651 654 d2_651 rfl (host := "") (Or.inl (hw _ (mi 62 rfl))) Via.refl F16 (Ls := #[vr a, vi xW, vi 0, vi xG, vi 4, vi 4, vi 0, vj (xG.toInt64 * (1 : Int64)), s2, vi s9, vj ke, s2, vi (Int32.ofNat (t + 1)), vi ((Int32.ofNat (t + 1)) / (1 : Int32)), vi bi, vj ca, s2]) (rest := [(.int (Int32.ofNat (t + 1))), (.ref ky)])
    refine c20 ?_
    refine o_alenJ B20 654 655 F18 (1 : Int32) d2_654 rfl (by decide) ?_
    refine o_irem B20 655 656 d2_655 rfl (by decide) ?_
    refine o_laload B20 656 657 F18 ((t + 1) % 1) (gk ((t + 1) % 1)) d2_656 rfl hm.1 hm.2 (Nat.mod_lt _ (by decide)) rfl ?_
    obtain ⟨T23, B23, c23⟩ := o_callP B20 657 660 d2_657 rfl (hw _ (mi 68 rfl)) (hw _ (mi 69 rfl)) (hw _ (mi 70 rfl)) (hw _ (mi 71 rfl)) (by decide) (rm8 l Z a0 hw (gk ((t + 1) % 1)) h13 ) 0 [(.long (gk ((t + 1) % 1)))] [] pd__J_I rfl rfl (st := [(.long (gk ((t + 1) % 1)))]) rfl (Ls := #[vr a, vi xW, vi 0, vi xG, vi 4, vi 4, vi 0, vj (xG.toInt64 * (1 : Int64)), s2, vi s9, vj ke, s2, vi (Int32.ofNat (t + 1)), vi ((Int32.ofNat (t + 1)) / (1 : Int32)), vi bi, vj ca, s2]) rfl (Nat.le_of_eq rfl) (by first | omega | (show _ + _ + _ ≤ _; omega) | (simp; omega)) (by first | omega | (show _ + _ + _ ≤ _; omega) | (simp; omega)) (by first | omega | (show _ + _ + _ ≤ _; omega) | (simp; omega)) (by first | omega | (show _ + _ + _ ≤ _; omega) | (simp; omega))
    refine c23 ?_
    refine o_istore B23 660 662 (l' := #[vr a, vi xW, vi 0, vi xG, vi 4, vi 4, vi 0, vj (xG.toInt64 * (1 : Int64)), s2, vi s9, vj ke, s2, vi (Int32.ofNat (t + 1)), vi ((Int32.ofNat (t + 1)) / (1 : Int32)), vi (f8 (gk ((t + 1) % 1))), vj ca, s2]) d2_660 rfl rfl ?_
    have F24 := (A2.other W13 (Nat.ne_of_lt (by omega)))
    have F25 := (F7.other W13 (Nat.ne_of_lt (by omega)))
    have F26 := (F11.other W13 (Nat.ne_of_lt (by omega)))
    have F27 := (Fld.other W13 (Fld.other W2 F_tg (Or.inl (Nat.ne_of_lt (by omega)))) (Or.inl (Nat.ne_of_lt (by omega))))
    have F28 := (Fld.other W13 F4 (Or.inl (Nat.ne_of_lt (by omega))))
    have F29 := (Fld.other W13 F5 (Or.inl (Nat.ne_of_lt (by omega))))
    have F30 := (Fld.other W13 F10 (Or.inl (Nat.ne_of_lt (by omega))))
    have F31 := (Fld.other W13 F6 (Or.inl (Nat.ne_of_lt (by omega))))
    have F32 := (Exa.wr W13 F8)
    have KT33 := (((Keep.refl h [tg, be]).wr W2 (Or.inl (mi 0 rfl))).wr W13 (Or.inl (mi 1 rfl)))
    exact ih (t + 1) _ _ _ _ _ _ _ (by omega) (by have q := own_gg (t + 1) 1 xG.toInt.toNat (by omega); rw [← hd.1] at q; exact q) (hkb _ (Nat.mod_lt _ (by decide))) B23 N13 (Nat.le_trans hz KT33.1) F32 F16 F27 F28 F29 F30 F31 F18 F24 A13 F25 F26 (fun T2 h2 L2 t2 i2 b2 B2 N2 K2 => cont T2 h2 L2 t2 i2 b2 B2 N2 (Keep.trans KT33 K2 (allS (Or.inl (mi 0 rfl)) (allS (Or.inl (mi 1 rfl)) all0))))
def f7_4_4  : Int64 := (1 : Int64)
set_option maxRecDepth 65536 in
set_option maxHeartbeats 40000000 in
theorem rm7_4_4 (l : Launch) (Z : State) (a0 : Array Value) (hw : ∀ d ∈ tables_1, d.before a0 Z = true)  (h0 : Heap) :
    Met l Z (⟨"com/example/hyperplane/hyperplane/Blocks", "binomial", "(II)J"⟩ : MethodName) prog_2_method_10_code 5 (some .long) ({ frames := 0, cells := 0, slots := 0, locals := 0 } : Room) #[(.int (4 : Int32)), (.int (4 : Int32))] h0 (Pu (some (.long (f7_4_4 ))) h0) := by
  refine enter pl7 #[vi 4, vi 4, us, us, us] rfl ?_
  intro p e s m below meth c T B hret hlk hnm
  · refine o_lconst B 0 1 (1 : Int64) d7_0 rfl (by decide) ?_
    refine o_lstoreN B 1 2 (l' := #[vi 4, vi 4, vj 1, s2, us]) d7_1 rfl rfl ?_
    refine o_iconst B 2 3 (1 : Int32) d7_2 rfl (by decide) ?_
    refine o_istore B 3 5 (l' := #[vi 4, vi 4, vj 1, s2, vi 1]) d7_3 rfl rfl ?_
    refine o_iload B 5 7 (v := (1 : Int32)) d7_5 rfl rfl ?_
    refine o_iloadN B 7 8 (v := (4 : Int32)) d7_7 rfl rfl ?_
    refine o_icN B 8 11 d7_8 rfl (XT.ii_gt_f (by decide)) ?_
    refine o_lloadN B 11 12 (v := (1 : Int64)) d7_11 rfl rfl ?_
    refine o_iloadN B 12 13 (v := (4 : Int32)) d7_12 rfl rfl ?_
    refine o_iloadN B 13 14 (v := (4 : Int32)) d7_13 rfl rfl ?_
    refine o_isub B 14 15 d7_14 rfl ?_
    refine o_topI (show ((4 : Int32) - (4 : Int32)) = (0 : Int32) by decide) ?_
    refine o_iload B 15 17 (v := (1 : Int32)) d7_15 rfl rfl ?_
    refine o_iadd B 17 18 d7_17 rfl ?_
    refine o_topI (show ((0 : Int32) + (1 : Int32)) = (1 : Int32) by decide) ?_
    refine o_i2l B 18 19 d7_18 rfl ?_
    refine o_topJ (show (1 : Int32).toInt64 = (1 : Int64) by decide) ?_
    refine o_lmul B 19 20 d7_19 rfl ?_
    refine o_topJ (show ((1 : Int64) * (1 : Int64)) = (1 : Int64) by decide) ?_
    refine o_iload B 20 22 (v := (1 : Int32)) d7_20 rfl rfl ?_
    refine o_i2l B 22 23 d7_22 rfl ?_
    refine o_topJ (show (1 : Int32).toInt64 = (1 : Int64) by decide) ?_
    refine o_ldiv B 23 24 d7_23 rfl (by decide) ?_
    refine o_topJ (show ((1 : Int64) / (1 : Int64)) = (1 : Int64) by decide) ?_
    refine o_lstoreN B 24 25 (l' := #[vi 4, vi 4, vj 1, s2, vi 1]) d7_24 rfl rfl ?_
    refine o_lloadN B 25 26 (v := (1 : Int64)) d7_25 rfl rfl ?_
    refine o_ldc2 B 26 29 d7_26 rfl (hw _ (mi 39 rfl)) ?_
    refine o_lcmp B 29 30 d7_29 rfl ?_
    refine o_ifY B 30 35 d7_30 (XT.ll_le_t (by decide)) (by decide) (by decide) ?_
    refine o_iincC B 35 38 (l' := #[vi 4, vi 4, vj 1, s2, vi 2]) (1 : Int32) (2 : Int32) d7_35 rfl (by decide) rfl (by decide) rfl ?_
    refine o_goto B 38 5 d7_38 (by decide) (by decide) ?_
    refine o_iload B 5 7 (v := (2 : Int32)) d7_5 rfl rfl ?_
    refine o_iloadN B 7 8 (v := (4 : Int32)) d7_7 rfl rfl ?_
    refine o_icN B 8 11 d7_8 rfl (XT.ii_gt_f (by decide)) ?_
    refine o_lloadN B 11 12 (v := (1 : Int64)) d7_11 rfl rfl ?_
    refine o_iloadN B 12 13 (v := (4 : Int32)) d7_12 rfl rfl ?_
    refine o_iloadN B 13 14 (v := (4 : Int32)) d7_13 rfl rfl ?_
    refine o_isub B 14 15 d7_14 rfl ?_
    refine o_topI (show ((4 : Int32) - (4 : Int32)) = (0 : Int32) by decide) ?_
    refine o_iload B 15 17 (v := (2 : Int32)) d7_15 rfl rfl ?_
    refine o_iadd B 17 18 d7_17 rfl ?_
    refine o_topI (show ((0 : Int32) + (2 : Int32)) = (2 : Int32) by decide) ?_
    refine o_i2l B 18 19 d7_18 rfl ?_
    refine o_topJ (show (2 : Int32).toInt64 = (2 : Int64) by decide) ?_
    refine o_lmul B 19 20 d7_19 rfl ?_
    refine o_topJ (show ((1 : Int64) * (2 : Int64)) = (2 : Int64) by decide) ?_
    refine o_iload B 20 22 (v := (2 : Int32)) d7_20 rfl rfl ?_
    refine o_i2l B 22 23 d7_22 rfl ?_
    refine o_topJ (show (2 : Int32).toInt64 = (2 : Int64) by decide) ?_
    refine o_ldiv B 23 24 d7_23 rfl (by decide) ?_
    refine o_topJ (show ((2 : Int64) / (2 : Int64)) = (1 : Int64) by decide) ?_
    refine o_lstoreN B 24 25 (l' := #[vi 4, vi 4, vj 1, s2, vi 2]) d7_24 rfl rfl ?_
    refine o_lloadN B 25 26 (v := (1 : Int64)) d7_25 rfl rfl ?_
    refine o_ldc2 B 26 29 d7_26 rfl (hw _ (mi 39 rfl)) ?_
    refine o_lcmp B 29 30 d7_29 rfl ?_
    refine o_ifY B 30 35 d7_30 (XT.ll_le_t (by decide)) (by decide) (by decide) ?_
    refine o_iincC B 35 38 (l' := #[vi 4, vi 4, vj 1, s2, vi 3]) (1 : Int32) (3 : Int32) d7_35 rfl (by decide) rfl (by decide) rfl ?_
    refine o_goto B 38 5 d7_38 (by decide) (by decide) ?_
    refine o_iload B 5 7 (v := (3 : Int32)) d7_5 rfl rfl ?_
    refine o_iloadN B 7 8 (v := (4 : Int32)) d7_7 rfl rfl ?_
    refine o_icN B 8 11 d7_8 rfl (XT.ii_gt_f (by decide)) ?_
    refine o_lloadN B 11 12 (v := (1 : Int64)) d7_11 rfl rfl ?_
    refine o_iloadN B 12 13 (v := (4 : Int32)) d7_12 rfl rfl ?_
    refine o_iloadN B 13 14 (v := (4 : Int32)) d7_13 rfl rfl ?_
    refine o_isub B 14 15 d7_14 rfl ?_
    refine o_topI (show ((4 : Int32) - (4 : Int32)) = (0 : Int32) by decide) ?_
    refine o_iload B 15 17 (v := (3 : Int32)) d7_15 rfl rfl ?_
    refine o_iadd B 17 18 d7_17 rfl ?_
    refine o_topI (show ((0 : Int32) + (3 : Int32)) = (3 : Int32) by decide) ?_
    refine o_i2l B 18 19 d7_18 rfl ?_
    refine o_topJ (show (3 : Int32).toInt64 = (3 : Int64) by decide) ?_
    refine o_lmul B 19 20 d7_19 rfl ?_
    refine o_topJ (show ((1 : Int64) * (3 : Int64)) = (3 : Int64) by decide) ?_
    refine o_iload B 20 22 (v := (3 : Int32)) d7_20 rfl rfl ?_
    refine o_i2l B 22 23 d7_22 rfl ?_
    refine o_topJ (show (3 : Int32).toInt64 = (3 : Int64) by decide) ?_
    refine o_ldiv B 23 24 d7_23 rfl (by decide) ?_
    refine o_topJ (show ((3 : Int64) / (3 : Int64)) = (1 : Int64) by decide) ?_
    refine o_lstoreN B 24 25 (l' := #[vi 4, vi 4, vj 1, s2, vi 3]) d7_24 rfl rfl ?_
    refine o_lloadN B 25 26 (v := (1 : Int64)) d7_25 rfl rfl ?_
    refine o_ldc2 B 26 29 d7_26 rfl (hw _ (mi 39 rfl)) ?_
    refine o_lcmp B 29 30 d7_29 rfl ?_
    refine o_ifY B 30 35 d7_30 (XT.ll_le_t (by decide)) (by decide) (by decide) ?_
    refine o_iincC B 35 38 (l' := #[vi 4, vi 4, vj 1, s2, vi 4]) (1 : Int32) (4 : Int32) d7_35 rfl (by decide) rfl (by decide) rfl ?_
    refine o_goto B 38 5 d7_38 (by decide) (by decide) ?_
    refine o_iload B 5 7 (v := (4 : Int32)) d7_5 rfl rfl ?_
    refine o_iloadN B 7 8 (v := (4 : Int32)) d7_7 rfl rfl ?_
    refine o_icN B 8 11 d7_8 rfl (XT.ii_gt_f (by decide)) ?_
    refine o_lloadN B 11 12 (v := (1 : Int64)) d7_11 rfl rfl ?_
    refine o_iloadN B 12 13 (v := (4 : Int32)) d7_12 rfl rfl ?_
    refine o_iloadN B 13 14 (v := (4 : Int32)) d7_13 rfl rfl ?_
    refine o_isub B 14 15 d7_14 rfl ?_
    refine o_topI (show ((4 : Int32) - (4 : Int32)) = (0 : Int32) by decide) ?_
    refine o_iload B 15 17 (v := (4 : Int32)) d7_15 rfl rfl ?_
    refine o_iadd B 17 18 d7_17 rfl ?_
    refine o_topI (show ((0 : Int32) + (4 : Int32)) = (4 : Int32) by decide) ?_
    refine o_i2l B 18 19 d7_18 rfl ?_
    refine o_topJ (show (4 : Int32).toInt64 = (4 : Int64) by decide) ?_
    refine o_lmul B 19 20 d7_19 rfl ?_
    refine o_topJ (show ((1 : Int64) * (4 : Int64)) = (4 : Int64) by decide) ?_
    refine o_iload B 20 22 (v := (4 : Int32)) d7_20 rfl rfl ?_
    refine o_i2l B 22 23 d7_22 rfl ?_
    refine o_topJ (show (4 : Int32).toInt64 = (4 : Int64) by decide) ?_
    refine o_ldiv B 23 24 d7_23 rfl (by decide) ?_
    refine o_topJ (show ((4 : Int64) / (4 : Int64)) = (1 : Int64) by decide) ?_
    refine o_lstoreN B 24 25 (l' := #[vi 4, vi 4, vj 1, s2, vi 4]) d7_24 rfl rfl ?_
    refine o_lloadN B 25 26 (v := (1 : Int64)) d7_25 rfl rfl ?_
    refine o_ldc2 B 26 29 d7_26 rfl (hw _ (mi 39 rfl)) ?_
    refine o_lcmp B 29 30 d7_29 rfl ?_
    refine o_ifY B 30 35 d7_30 (XT.ll_le_t (by decide)) (by decide) (by decide) ?_
    refine o_iincC B 35 38 (l' := #[vi 4, vi 4, vj 1, s2, vi 5]) (1 : Int32) (5 : Int32) d7_35 rfl (by decide) rfl (by decide) rfl ?_
    refine o_goto B 38 5 d7_38 (by decide) (by decide) ?_
    refine o_iload B 5 7 (v := (5 : Int32)) d7_5 rfl rfl ?_
    refine o_iloadN B 7 8 (v := (4 : Int32)) d7_7 rfl rfl ?_
    refine o_icY B 8 41 d7_8 (XT.ii_gt_t (by decide)) (by decide) (by decide) ?_
    refine o_lloadN B 41 42 (v := (1 : Int64)) d7_41 rfl rfl ?_
    refine o_retL B 42 d7_42 hret hlk (by decide) (by decide) ⟨(congrArg (fun z => some (Value.long z)) (show f7_4_4  = (1 : Int64) from rfl)).symm, rfl, rfl⟩
def w2_4_4c_1 (xW xG : Int32) : Nat → Int64 := fun j => if j = 0 then (15 : Int64) else (fun _ => 0) j
theorem own_kb_4_4 (xW xG : Int32) : ∀ i, i < 1 → 0 ≤ (f8 ((w2_4_4c_1 xW xG) i)).toInt ∧ (f8 ((w2_4_4c_1 xW xG) i)).toInt < 4 := by
  intro i hi
  match i, hi with
  | 0, _ => exact (show 0 ≤ (f8 (15 : Int64)).toInt ∧ (f8 (15 : Int64)).toInt < 4 by decide)
def Qc_4_4 (Z : State) (a : Addr) (xW xG : Int32) (h0 : Heap) (n0 : Nat) (v : Option Value) (h : Heap) (L : List Loc) : Prop := v = none ∧ Fr n0 L ∧ Keep h0 h [a] ∧ Fld Z h a "com/example/hyperplane/hyperplane/Blocks" "words" "I" (.int (f4 xW)) ∧ Fld Z h a "com/example/hyperplane/hyperplane/Blocks" "blocksPerGroup" "I" (.int (4 : Int32)) ∧ Fld Z h a "com/example/hyperplane/hyperplane/Blocks" "keyBlocks" "I" (.int (4 : Int32)) ∧ ∃ fw sh lm hm bm : Addr, Fld Z h a "com/example/hyperplane/hyperplane/Blocks" "firstWords" "[I" (.ref fw) ∧ AI Z h fw .int xG.toInt.toNat (UpI xG.toInt.toNat (fun j => own_start xW xG j / 64)) ∧ Fld Z h a "com/example/hyperplane/hyperplane/Blocks" "shifts" "[I" (.ref sh) ∧ AI Z h sh .int xG.toInt.toNat (UpI xG.toInt.toNat (own_sh xW xG)) ∧ Fld Z h a "com/example/hyperplane/hyperplane/Blocks" "lowMasks" "[J" (.ref lm) ∧ AJ Z h lm xG.toInt.toNat (UpJ xG.toInt.toNat (fun j => own_low (own_bits xW xG j) (own_sh xW xG j))) ∧ Fld Z h a "com/example/hyperplane/hyperplane/Blocks" "highMasks" "[J" (.ref hm) ∧ AJ Z h hm xG.toInt.toNat (UpJ xG.toInt.toNat (own_hi xW xG)) ∧ Fld Z h a "com/example/hyperplane/hyperplane/Blocks" "blockMasks" "[J" (.ref bm) ∧ AJ Z h bm (xG.toInt.toNat * 4) (UpJ (xG.toInt.toNat * 4) (own_bmf xW xG 4 4))
set_option maxRecDepth 65536 in
set_option maxHeartbeats 400000000 in
theorem rm2_4_4 (l : Launch) (Z : State) (a0 : Array Value) (hw : ∀ d ∈ tables_1, d.before a0 Z = true) (a : Addr) (xW xG : Int32) (h0 : Heap) (n0 : Nat) (hz : n0 ≤ h0.size) (ga : n0 ≤ a) (hE : Exa Z h0 a "com/example/hyperplane/hyperplane/Blocks") (G0 : Fld Z h0 a "com/example/hyperplane/hyperplane/Blocks" "words" "I" (.int (0 : Int32))) (G1 : Fld Z h0 a "com/example/hyperplane/hyperplane/Blocks" "blocksPerGroup" "I" (.int (0 : Int32))) (G2 : Fld Z h0 a "com/example/hyperplane/hyperplane/Blocks" "keyBlocks" "I" (.int (0 : Int32))) (G3 : Fld Z h0 a "com/example/hyperplane/hyperplane/Blocks" "groupWidths" "[I" .null) (G4 : Fld Z h0 a "com/example/hyperplane/hyperplane/Blocks" "firstWords" "[I" .null) (G5 : Fld Z h0 a "com/example/hyperplane/hyperplane/Blocks" "shifts" "[I" .null) (G6 : Fld Z h0 a "com/example/hyperplane/hyperplane/Blocks" "lowMasks" "[J" .null) (G7 : Fld Z h0 a "com/example/hyperplane/hyperplane/Blocks" "highMasks" "[J" .null) (G8 : Fld Z h0 a "com/example/hyperplane/hyperplane/Blocks" "blockOffsets" "[I" .null) (G9 : Fld Z h0 a "com/example/hyperplane/hyperplane/Blocks" "blockWidths" "[I" .null) (G10 : Fld Z h0 a "com/example/hyperplane/hyperplane/Blocks" "blockMasks" "[J" .null) (G11 : Fld Z h0 a "com/example/hyperplane/hyperplane/Blocks" "keys" "[J" .null) (G12 : Fld Z h0 a "com/example/hyperplane/hyperplane/Blocks" "tableGroups" "[I" .null) (G13 : Fld Z h0 a "com/example/hyperplane/hyperplane/Blocks" "blockEnds" "[I" .null) (hp : Hp 4 xW xG) :
    Met l Z (⟨"com/example/hyperplane/hyperplane/Blocks", "<init>", "(IIIII)V"⟩ : MethodName) prog_2_method_3_code 17 none ({ frames := 2, cells := 11, slots := 58, locals := 100 } : Room) #[(.ref a), (.int xW), (.int (0 : Int32)), (.int xG), (.int (4 : Int32)), (.int (4 : Int32))] h0 (Qc_4_4 Z a xW xG h0 n0) := by
  refine enter pl2 #[vr a, vi xW, vi 0, vi xG, vi 4, vi 4, us, us, us, us, us, us, us, us, us, us, us] rfl ?_
  intro p e s m below meth c T B hret hlk hnm
  have N0 := Fr.nil n0
  have hl := own_gl hp
  have hgx := ix_of hl.2.1
  have hgp := ix_of (own_gp hp 4 4 (by decide) (by decide))
  have htn := ix_of (own_tn hp 1 1 (by decide) (by decide))
  refine o_aloadN B 0 1 (v := (.ref a)) d2_0 rfl rfl rfl ?_
  obtain ⟨T1, B1, c1⟩ := o_initO B 1 4 d2_1 rfl (hw _ (mi 21 rfl)) (hw _ (mi 22 rfl)) (hw _ (mi 23 rfl)) (a := a) (Ls := #[vr a, vi xW, vi 0, vi xG, vi 4, vi 4, us, us, us, us, us, us, us, us, us, us, us]) (rest := []) rfl 0 (Nat.le_of_eq rfl) (by decide) (by decide)
  refine c1 ?_
  refine o_aloadN B1 4 5 (v := (.ref a)) d2_4 rfl rfl rfl ?_
  refine o_iloadN B1 5 6 (v := xW) d2_5 rfl rfl ?_
  obtain ⟨T2, B2, c2⟩ := o_callP B1 6 9 d2_6 rfl (hw _ (mi 24 rfl)) (hw _ (mi 25 rfl)) (hw _ (mi 26 rfl)) (hw _ (mi 27 rfl)) (by decide) (rm4 l Z a0 hw xW h0  (own_hw hp).1 (own_hw hp).2.1 (own_hw hp).2.2) 1 [(.int xW)] [(.ref a)] pd__I_I rfl rfl (st := [(.int xW), (.ref a)]) rfl (Ls := #[vr a, vi xW, vi 0, vi xG, vi 4, vi 4, us, us, us, us, us, us, us, us, us, us, us]) rfl (Nat.le_of_eq rfl) (by decide) (by decide) (by decide) (by decide)
  refine c2 ?_
  obtain ⟨T3, h3, L3, B3, N3, W3, c3⟩ := o_putfield B2 N0 ga 9 12 (v := (.int (f4 xW))) d2_9 rfl (host := "") (Or.inl (hw _ (mi 28 rfl))) Via.refl G0 hE (Or.inr ⟨(hw _ (mi 29 rfl)), rfl, hnm⟩) (hw _ (mi 16 rfl)) (ty := .int) (by decide) rfl rfl (Ls := #[vr a, vi xW, vi 0, vi xG, vi 4, vi 4, us, us, us, us, us, us, us, us, us, us, us]) (rest := [])
  have F3 : Fld Z h3 a "com/example/hyperplane/hyperplane/Blocks" "words" "I" (.int (f4 xW)) := Fld.same W3 G0
  refine c3 ?_
  refine o_iloadN B3 12 13 (v := xW) d2_12 rfl rfl ?_
  refine o_iloadN B3 13 14 (v := (0 : Int32)) d2_13 rfl rfl ?_
  obtain ⟨T4, B4, c4⟩ := o_callP B3 14 17 d2_14 rfl (hw _ (mi 30 rfl)) (hw _ (mi 31 rfl)) (hw _ (mi 17 rfl)) (hw _ (mi 32 rfl)) (by decide) (rm5 l Z a0 hw xW (0 : Int32) h3  (by decide) (own_hm hp)) 0 [(.int xW), (.int (0 : Int32))] [] pd__II_I rfl rfl (st := [(.int (0 : Int32)), (.int xW)]) rfl (Ls := #[vr a, vi xW, vi 0, vi xG, vi 4, vi 4, us, us, us, us, us, us, us, us, us, us, us]) rfl (Nat.le_of_eq rfl) (by decide) (by decide) (by decide) (by decide)
  refine c4 ?_
  refine o_pop B4 17 18 d2_17 rfl rfl ?_
  refine o_iloadN B4 18 19 (v := xG) d2_18 rfl rfl ?_
  refine o_aloadN B4 19 20 (v := (.ref a)) d2_19 rfl rfl rfl ?_
  obtain ⟨T5, B5, c5⟩ := o_getfield B4 20 23 d2_20 rfl (host := "") (Or.inl (hw _ (mi 28 rfl))) Via.refl F3 (Ls := #[vr a, vi xW, vi 0, vi xG, vi 4, vi 4, us, us, us, us, us, us, us, us, us, us, us]) (rest := [(.int xG)])
  refine c5 ?_
  refine o_icN B5 23 26 d2_23 rfl (XT.ii_lt_f (own_ho hp).1) ?_
  refine o_iloadN B5 26 27 (v := xG) d2_26 rfl rfl ?_
  refine o_iloadN B5 27 28 (v := xW) d2_27 rfl rfl ?_
  refine o_icY B5 28 46 d2_28 (XT.ii_le_t (own_ho hp).2.1) (by decide) (by decide) ?_
  refine o_iload B5 46 48 (v := (4 : Int32)) d2_46 rfl rfl ?_
  refine o_iconst B5 48 49 (1 : Int32) d2_48 rfl (by decide) ?_
  refine o_icN B5 49 52 d2_49 rfl (XT.ii_lt_f (by decide)) ?_
  refine o_iload B5 52 54 (v := (4 : Int32)) d2_52 rfl rfl ?_
  refine o_iloadN B5 54 55 (v := xW) d2_54 rfl rfl ?_
  refine o_iloadN B5 55 56 (v := xG) d2_55 rfl rfl ?_
  refine o_idiv B5 56 57 d2_56 rfl (own_ho hp).2.2.1 ?_
  refine o_icY B5 57 78 d2_57 (XT.ii_le_t (own_hq (by decide) hp)) (by decide) (by decide) ?_
  refine o_iload B5 78 80 (v := (4 : Int32)) d2_78 rfl rfl ?_
  refine o_iconst B5 80 81 (1 : Int32) d2_80 rfl (by decide) ?_
  refine o_icN B5 81 84 d2_81 rfl (XT.ii_lt_f (by decide)) ?_
  refine o_iload B5 84 86 (v := (4 : Int32)) d2_84 rfl rfl ?_
  refine o_iload B5 86 88 (v := (4 : Int32)) d2_86 rfl rfl ?_
  refine o_icY B5 88 108 d2_88 (XT.ii_le_t (by decide)) (by decide) (by decide) ?_
  refine o_iload B5 108 110 (v := (4 : Int32)) d2_108 rfl rfl ?_
  refine o_iload B5 110 112 (v := (4 : Int32)) d2_110 rfl rfl ?_
  refine o_isub B5 112 113 d2_112 rfl ?_
  refine o_topI (show ((4 : Int32) - (4 : Int32)) = (0 : Int32) by decide) ?_
  refine o_istore B5 113 115 (l' := #[vr a, vi xW, vi 0, vi xG, vi 4, vi 4, vi 0, us, us, us, us, us, us, us, us, us, us]) d2_113 rfl rfl ?_
  refine o_iloadN B5 115 116 (v := xG) d2_115 rfl rfl ?_
  refine o_i2l B5 116 117 d2_116 rfl ?_
  refine o_iload B5 117 119 (v := (0 : Int32)) d2_117 rfl rfl ?_
  refine o_iconst B5 119 120 (1 : Int32) d2_119 rfl (by decide) ?_
  refine o_iadd B5 120 121 d2_120 rfl ?_
  refine o_topI (show ((0 : Int32) + (1 : Int32)) = (1 : Int32) by decide) ?_
  refine o_i2l B5 121 122 d2_121 rfl ?_
  refine o_topJ (show (1 : Int32).toInt64 = (1 : Int64) by decide) ?_
  refine o_lmul B5 122 123 d2_122 rfl ?_
  refine o_iloadN B5 123 124 (v := (0 : Int32)) d2_123 rfl rfl ?_
  refine o_i2l B5 124 125 d2_124 rfl ?_
  refine o_topJ (show (0 : Int32).toInt64 = (0 : Int64) by decide) ?_
  refine o_lcmp B5 125 126 d2_125 rfl ?_
  refine o_ifY B5 126 146 d2_126 (XT.ll_gt_t (own_ps hp 1 1 (by decide) (by decide) (by decide))) (by decide) (by decide) ?_
  refine o_iloadN B5 146 147 (v := xG) d2_146 rfl rfl ?_
  refine o_i2l B5 147 148 d2_147 rfl ?_
  refine o_iload B5 148 150 (v := (4 : Int32)) d2_148 rfl rfl ?_
  refine o_iload B5 150 152 (v := (4 : Int32)) d2_150 rfl rfl ?_
  obtain ⟨T6, B6, c6⟩ := o_callP B5 152 155 d2_152 rfl (hw _ (mi 36 rfl)) (hw _ (mi 37 rfl)) (hw _ (mi 17 rfl)) (hw _ (mi 38 rfl)) (by decide) (rm7_4_4 l Z a0 hw  h3 ) 2 [(.int (4 : Int32)), (.int (4 : Int32))] [(.long xG.toInt64)] pd__II_J rfl rfl (st := [(.int (4 : Int32)), (.int (4 : Int32)), (.long xG.toInt64)]) rfl (Ls := #[vr a, vi xW, vi 0, vi xG, vi 4, vi 4, vi 0, us, us, us, us, us, us, us, us, us, us]) rfl (Nat.le_of_eq rfl) (by decide) (by decide) (by decide) (by decide)
  refine c6 ?_
  refine o_topJ (show (f7_4_4 ) = (1 : Int64) by decide) ?_
  refine o_lmul B6 155 156 d2_155 rfl ?_
  refine o_lstore B6 156 158 (l' := #[vr a, vi xW, vi 0, vi xG, vi 4, vi 4, vi 0, vj (xG.toInt64 * (1 : Int64)), s2, us, us, us, us, us, us, us, us]) d2_156 rfl rfl ?_
  refine o_lload B6 158 160 (v := (xG.toInt64 * (1 : Int64))) d2_158 rfl rfl ?_
  refine o_ldc2 B6 160 163 d2_160 rfl (hw _ (mi 39 rfl)) ?_
  refine o_lcmp B6 163 164 d2_163 rfl ?_
  refine o_ifY B6 164 182 d2_164 (XT.ll_le_t (own_tl hp 1 1 (by decide) (by decide) (by decide))) (by decide) (by decide) ?_
  refine o_aloadN B6 182 183 (v := (.ref a)) d2_182 rfl rfl rfl ?_
  refine o_iload B6 183 185 (v := (4 : Int32)) d2_183 rfl rfl ?_
  have F8 := (Fld.other W3 G1 (Or.inr (sn0 hw)))
  have F9 := (Exa.wr W3 hE)
  obtain ⟨T7, h7, L7, B7, N7, W7, c7⟩ := o_putfield B6 N3 ga 185 188 (v := (.int (4 : Int32))) d2_185 rfl (host := "") (Or.inl (hw _ (mi 40 rfl))) Via.refl F8 F9 (Or.inr ⟨(hw _ (mi 41 rfl)), rfl, hnm⟩) (hw _ (mi 16 rfl)) (ty := .int) (by decide) rfl rfl (Ls := #[vr a, vi xW, vi 0, vi xG, vi 4, vi 4, vi 0, vj (xG.toInt64 * (1 : Int64)), s2, us, us, us, us, us, us, us, us]) (rest := [])
  have F7 : Fld Z h7 a "com/example/hyperplane/hyperplane/Blocks" "blocksPerGroup" "I" (.int (4 : Int32)) := Fld.same W7 F8
  refine c7 ?_
  refine o_aloadN B7 188 189 (v := (.ref a)) d2_188 rfl rfl rfl ?_
  refine o_iload B7 189 191 (v := (4 : Int32)) d2_189 rfl rfl ?_
  have F11 := (Fld.other W7 (Fld.other W3 G2 (Or.inr (sn1 hw))) (Or.inr (sn2 hw)))
  have F12 := (Exa.wr W7 F9)
  obtain ⟨T10, h10, L10, B10, N10, W10, c10⟩ := o_putfield B7 N7 ga 191 194 (v := (.int (4 : Int32))) d2_191 rfl (host := "") (Or.inl (hw _ (mi 42 rfl))) Via.refl F11 F12 (Or.inr ⟨(hw _ (mi 43 rfl)), rfl, hnm⟩) (hw _ (mi 16 rfl)) (ty := .int) (by decide) rfl rfl (Ls := #[vr a, vi xW, vi 0, vi xG, vi 4, vi 4, vi 0, vj (xG.toInt64 * (1 : Int64)), s2, us, us, us, us, us, us, us, us]) (rest := [])
  have F10 : Fld Z h10 a "com/example/hyperplane/hyperplane/Blocks" "keyBlocks" "I" (.int (4 : Int32)) := Fld.same W10 F11
  refine c10 ?_
  refine o_aloadN B10 194 195 (v := (.ref a)) d2_194 rfl rfl rfl ?_
  refine o_iloadN B10 195 196 (v := xG) d2_195 rfl rfl ?_
  obtain ⟨a13, T13, h13, z13, B13, E13, A13, c13⟩ := o_newI B10 196 198 (ty := .int) (z := xG) xG.toInt.toNat 3 (hw _ (mi 44 rfl)) d2_196 rfl rfl rfl hgx.1 hgx.2 hl.1 (by decide) (by decide) (by decide) (Ls := #[vr a, vi xW, vi 0, vi xG, vi 4, vi 4, vi 0, vj (xG.toInt64 * (1 : Int64)), s2, us, us, us, us, us, us, us, us]) (rest := [(.ref a)])
  have F14 := (Exa.wr W10 F12)
  have lt15 : (a : Nat) < a13 := by rw [z13]; exact F14.lt
  have g13 : n0 ≤ a13 := by rw [z13]; exact (W10.size ▸ (W7.size ▸ (W3.size ▸ hz)))
  have s13 : n0 ≤ h13.size := Nat.le_trans (W10.size ▸ (W7.size ▸ (W3.size ▸ hz))) E13.1
  have KT16 := ((((Keep.refl h0 [a]).wr W3 (Or.inl (mi 0 rfl))).wr W7 (Or.inl (mi 0 rfl))).wr W10 (Or.inl (mi 0 rfl)))
  have y13 : h0.size ≤ a13 := by rw [z13]; exact KT16.1
  refine c13 ?_
  have F18 := (Fld.ext E13 (Fld.other W10 (Fld.other W7 (Fld.other W3 G3 (Or.inr (sn3 hw))) (Or.inr (sn4 hw))) (Or.inr (sn5 hw))))
  have F19 := (Exa.ext E13 F14)
  obtain ⟨T17, h17, L17, B17, N17, W17, c17⟩ := o_putfield B13 N10 ga 198 201 (v := (.ref a13)) d2_198 rfl (host := "") (Or.inl (hw _ (mi 45 rfl))) Via.refl F18 F19 (Or.inr ⟨(hw _ (mi 46 rfl)), rfl, hnm⟩) (hw _ (mi 16 rfl)) (ty := (.array .int)) (by decide) rfl rfl (Ls := #[vr a, vi xW, vi 0, vi xG, vi 4, vi 4, vi 0, vj (xG.toInt64 * (1 : Int64)), s2, us, us, us, us, us, us, us, us]) (rest := [])
  have F17 : Fld Z h17 a "com/example/hyperplane/hyperplane/Blocks" "groupWidths" "[I" (.ref a13) := Fld.same W17 F18
  refine c17 ?_
  refine o_aloadN B17 201 202 (v := (.ref a)) d2_201 rfl rfl rfl ?_
  refine o_iloadN B17 202 203 (v := xG) d2_202 rfl rfl ?_
  obtain ⟨a20, T20, h20, z20, B20, E20, A20, c20⟩ := o_newI B17 203 205 (ty := .int) (z := xG) xG.toInt.toNat 3 (hw _ (mi 44 rfl)) d2_203 rfl rfl rfl hgx.1 hgx.2 hl.1 (by decide) (by decide) (by decide) (Ls := #[vr a, vi xW, vi 0, vi xG, vi 4, vi 4, vi 0, vj (xG.toInt64 * (1 : Int64)), s2, us, us, us, us, us, us, us, us]) (rest := [(.ref a)])
  have F21 := (Exa.wr W17 F19)
  have lt22 : (a : Nat) < a20 := by rw [z20]; exact F21.lt
  have F23 := (A13.other W17 (Ne.symm (Nat.ne_of_lt lt15)))
  have lt24 : (a13 : Nat) < a20 := by rw [z20]; exact F23.lt
  have g20 : n0 ≤ a20 := by rw [z20]; exact (W17.size ▸ s13)
  have s20 : n0 ≤ h20.size := Nat.le_trans (W17.size ▸ s13) E20.1
  have KT25 := ((KT16.ext E13).wr W17 (Or.inl (mi 0 rfl)))
  have y20 : h0.size ≤ a20 := by rw [z20]; exact KT25.1
  refine c20 ?_
  have F27 := (Fld.ext E20 (Fld.other W17 (Fld.ext E13 (Fld.other W10 (Fld.other W7 (Fld.other W3 G4 (Or.inr (sn6 hw))) (Or.inr (sn7 hw))) (Or.inr (sn8 hw)))) (Or.inr (sn9 hw))))
  have F28 := (Exa.ext E20 F21)
  obtain ⟨T26, h26, L26, B26, N26, W26, c26⟩ := o_putfield B20 N17 ga 205 208 (v := (.ref a20)) d2_205 rfl (host := "") (Or.inl (hw _ (mi 47 rfl))) Via.refl F27 F28 (Or.inr ⟨(hw _ (mi 48 rfl)), rfl, hnm⟩) (hw _ (mi 16 rfl)) (ty := (.array .int)) (by decide) rfl rfl (Ls := #[vr a, vi xW, vi 0, vi xG, vi 4, vi 4, vi 0, vj (xG.toInt64 * (1 : Int64)), s2, us, us, us, us, us, us, us, us]) (rest := [])
  have F26 : Fld Z h26 a "com/example/hyperplane/hyperplane/Blocks" "firstWords" "[I" (.ref a20) := Fld.same W26 F27
  refine c26 ?_
  refine o_aloadN B26 208 209 (v := (.ref a)) d2_208 rfl rfl rfl ?_
  refine o_iloadN B26 209 210 (v := xG) d2_209 rfl rfl ?_
  obtain ⟨a29, T29, h29, z29, B29, E29, A29, c29⟩ := o_newI B26 210 212 (ty := .int) (z := xG) xG.toInt.toNat 3 (hw _ (mi 44 rfl)) d2_210 rfl rfl rfl hgx.1 hgx.2 hl.1 (by decide) (by decide) (by decide) (Ls := #[vr a, vi xW, vi 0, vi xG, vi 4, vi 4, vi 0, vj (xG.toInt64 * (1 : Int64)), s2, us, us, us, us, us, us, us, us]) (rest := [(.ref a)])
  have F30 := (Exa.wr W26 F28)
  have lt31 : (a : Nat) < a29 := by rw [z29]; exact F30.lt
  have F32 := ((F23.ext E20).other W26 (Ne.symm (Nat.ne_of_lt lt15)))
  have lt33 : (a13 : Nat) < a29 := by rw [z29]; exact F32.lt
  have F34 := (A20.other W26 (Ne.symm (Nat.ne_of_lt lt22)))
  have lt35 : (a20 : Nat) < a29 := by rw [z29]; exact F34.lt
  have g29 : n0 ≤ a29 := by rw [z29]; exact (W26.size ▸ s20)
  have s29 : n0 ≤ h29.size := Nat.le_trans (W26.size ▸ s20) E29.1
  have KT36 := ((KT25.ext E20).wr W26 (Or.inl (mi 0 rfl)))
  have y29 : h0.size ≤ a29 := by rw [z29]; exact KT36.1
  refine c29 ?_
  have F38 := (Fld.ext E29 (Fld.other W26 (Fld.ext E20 (Fld.other W17 (Fld.ext E13 (Fld.other W10 (Fld.other W7 (Fld.other W3 G5 (Or.inr (sn10 hw))) (Or.inr (sn11 hw))) (Or.inr (sn12 hw)))) (Or.inr (sn13 hw)))) (Or.inr (sn14 hw))))
  have F39 := (Exa.ext E29 F30)
  obtain ⟨T37, h37, L37, B37, N37, W37, c37⟩ := o_putfield B29 N26 ga 212 215 (v := (.ref a29)) d2_212 rfl (host := "") (Or.inl (hw _ (mi 49 rfl))) Via.refl F38 F39 (Or.inr ⟨(hw _ (mi 50 rfl)), rfl, hnm⟩) (hw _ (mi 16 rfl)) (ty := (.array .int)) (by decide) rfl rfl (Ls := #[vr a, vi xW, vi 0, vi xG, vi 4, vi 4, vi 0, vj (xG.toInt64 * (1 : Int64)), s2, us, us, us, us, us, us, us, us]) (rest := [])
  have F37 : Fld Z h37 a "com/example/hyperplane/hyperplane/Blocks" "shifts" "[I" (.ref a29) := Fld.same W37 F38
  refine c37 ?_
  refine o_aloadN B37 215 216 (v := (.ref a)) d2_215 rfl rfl rfl ?_
  refine o_iloadN B37 216 217 (v := xG) d2_216 rfl rfl ?_
  obtain ⟨a40, T40, h40, z40, B40, E40, A40, c40⟩ := o_newJ B37 217 219 (z := xG) xG.toInt.toNat 3 (hw _ (mi 51 rfl)) d2_217 rfl rfl hgx.1 hgx.2 hl.1 (by decide) (by decide) (by decide) (Ls := #[vr a, vi xW, vi 0, vi xG, vi 4, vi 4, vi 0, vj (xG.toInt64 * (1 : Int64)), s2, us, us, us, us, us, us, us, us]) (rest := [(.ref a)])
  have F41 := (Exa.wr W37 F39)
  have lt42 : (a : Nat) < a40 := by rw [z40]; exact F41.lt
  have F43 := ((F32.ext E29).other W37 (Ne.symm (Nat.ne_of_lt lt15)))
  have lt44 : (a13 : Nat) < a40 := by rw [z40]; exact F43.lt
  have F45 := ((F34.ext E29).other W37 (Ne.symm (Nat.ne_of_lt lt22)))
  have lt46 : (a20 : Nat) < a40 := by rw [z40]; exact F45.lt
  have F47 := (A29.other W37 (Ne.symm (Nat.ne_of_lt lt31)))
  have lt48 : (a29 : Nat) < a40 := by rw [z40]; exact F47.lt
  have g40 : n0 ≤ a40 := by rw [z40]; exact (W37.size ▸ s29)
  have s40 : n0 ≤ h40.size := Nat.le_trans (W37.size ▸ s29) E40.1
  have KT49 := ((KT36.ext E29).wr W37 (Or.inl (mi 0 rfl)))
  have y40 : h0.size ≤ a40 := by rw [z40]; exact KT49.1
  refine c40 ?_
  have F51 := (Fld.ext E40 (Fld.other W37 (Fld.ext E29 (Fld.other W26 (Fld.ext E20 (Fld.other W17 (Fld.ext E13 (Fld.other W10 (Fld.other W7 (Fld.other W3 G6 (Or.inr (sn15 hw))) (Or.inr (sn16 hw))) (Or.inr (sn17 hw)))) (Or.inr (sn18 hw)))) (Or.inr (sn19 hw)))) (Or.inr (sn20 hw))))
  have F52 := (Exa.ext E40 F41)
  obtain ⟨T50, h50, L50, B50, N50, W50, c50⟩ := o_putfield B40 N37 ga 219 222 (v := (.ref a40)) d2_219 rfl (host := "") (Or.inl (hw _ (mi 52 rfl))) Via.refl F51 F52 (Or.inr ⟨(hw _ (mi 53 rfl)), rfl, hnm⟩) (hw _ (mi 16 rfl)) (ty := (.array .long)) (by decide) rfl rfl (Ls := #[vr a, vi xW, vi 0, vi xG, vi 4, vi 4, vi 0, vj (xG.toInt64 * (1 : Int64)), s2, us, us, us, us, us, us, us, us]) (rest := [])
  have F50 : Fld Z h50 a "com/example/hyperplane/hyperplane/Blocks" "lowMasks" "[J" (.ref a40) := Fld.same W50 F51
  refine c50 ?_
  refine o_aloadN B50 222 223 (v := (.ref a)) d2_222 rfl rfl rfl ?_
  refine o_iloadN B50 223 224 (v := xG) d2_223 rfl rfl ?_
  obtain ⟨a53, T53, h53, z53, B53, E53, A53, c53⟩ := o_newJ B50 224 226 (z := xG) xG.toInt.toNat 3 (hw _ (mi 51 rfl)) d2_224 rfl rfl hgx.1 hgx.2 hl.1 (by decide) (by decide) (by decide) (Ls := #[vr a, vi xW, vi 0, vi xG, vi 4, vi 4, vi 0, vj (xG.toInt64 * (1 : Int64)), s2, us, us, us, us, us, us, us, us]) (rest := [(.ref a)])
  have F54 := (Exa.wr W50 F52)
  have lt55 : (a : Nat) < a53 := by rw [z53]; exact F54.lt
  have F56 := ((F43.ext E40).other W50 (Ne.symm (Nat.ne_of_lt lt15)))
  have lt57 : (a13 : Nat) < a53 := by rw [z53]; exact F56.lt
  have F58 := ((F45.ext E40).other W50 (Ne.symm (Nat.ne_of_lt lt22)))
  have lt59 : (a20 : Nat) < a53 := by rw [z53]; exact F58.lt
  have F60 := ((F47.ext E40).other W50 (Ne.symm (Nat.ne_of_lt lt31)))
  have lt61 : (a29 : Nat) < a53 := by rw [z53]; exact F60.lt
  have F62 := (A40.other W50 (Ne.symm (Nat.ne_of_lt lt42)))
  have lt63 : (a40 : Nat) < a53 := by rw [z53]; exact F62.lt
  have g53 : n0 ≤ a53 := by rw [z53]; exact (W50.size ▸ s40)
  have s53 : n0 ≤ h53.size := Nat.le_trans (W50.size ▸ s40) E53.1
  have KT64 := ((KT49.ext E40).wr W50 (Or.inl (mi 0 rfl)))
  have y53 : h0.size ≤ a53 := by rw [z53]; exact KT64.1
  refine c53 ?_
  have F66 := (Fld.ext E53 (Fld.other W50 (Fld.ext E40 (Fld.other W37 (Fld.ext E29 (Fld.other W26 (Fld.ext E20 (Fld.other W17 (Fld.ext E13 (Fld.other W10 (Fld.other W7 (Fld.other W3 G7 (Or.inr (sn21 hw))) (Or.inr (sn22 hw))) (Or.inr (sn23 hw)))) (Or.inr (sn24 hw)))) (Or.inr (sn25 hw)))) (Or.inr (sn26 hw)))) (Or.inr (sn27 hw))))
  have F67 := (Exa.ext E53 F54)
  obtain ⟨T65, h65, L65, B65, N65, W65, c65⟩ := o_putfield B53 N50 ga 226 229 (v := (.ref a53)) d2_226 rfl (host := "") (Or.inl (hw _ (mi 54 rfl))) Via.refl F66 F67 (Or.inr ⟨(hw _ (mi 55 rfl)), rfl, hnm⟩) (hw _ (mi 16 rfl)) (ty := (.array .long)) (by decide) rfl rfl (Ls := #[vr a, vi xW, vi 0, vi xG, vi 4, vi 4, vi 0, vj (xG.toInt64 * (1 : Int64)), s2, us, us, us, us, us, us, us, us]) (rest := [])
  have F65 : Fld Z h65 a "com/example/hyperplane/hyperplane/Blocks" "highMasks" "[J" (.ref a53) := Fld.same W65 F66
  refine c65 ?_
  refine o_aloadN B65 229 230 (v := (.ref a)) d2_229 rfl rfl rfl ?_
  refine o_iloadN B65 230 231 (v := xG) d2_230 rfl rfl ?_
  refine o_iload B65 231 233 (v := (4 : Int32)) d2_231 rfl rfl ?_
  refine o_imul B65 233 234 d2_233 rfl ?_
  obtain ⟨a68, T68, h68, z68, B68, E68, A68, c68⟩ := o_newI B65 234 236 (ty := .int) (z := (xG * (4 : Int32))) (xG.toInt.toNat * 4) 12 (hw _ (mi 44 rfl)) d2_234 rfl rfl rfl hgp.1 hgp.2 (Nat.mul_le_mul_right _ hl.1) (by decide) (by decide) (by decide) (Ls := #[vr a, vi xW, vi 0, vi xG, vi 4, vi 4, vi 0, vj (xG.toInt64 * (1 : Int64)), s2, us, us, us, us, us, us, us, us]) (rest := [(.ref a)])
  have F69 := (Exa.wr W65 F67)
  have lt70 : (a : Nat) < a68 := by rw [z68]; exact F69.lt
  have F71 := ((F56.ext E53).other W65 (Ne.symm (Nat.ne_of_lt lt15)))
  have lt72 : (a13 : Nat) < a68 := by rw [z68]; exact F71.lt
  have F73 := ((F58.ext E53).other W65 (Ne.symm (Nat.ne_of_lt lt22)))
  have lt74 : (a20 : Nat) < a68 := by rw [z68]; exact F73.lt
  have F75 := ((F60.ext E53).other W65 (Ne.symm (Nat.ne_of_lt lt31)))
  have lt76 : (a29 : Nat) < a68 := by rw [z68]; exact F75.lt
  have F77 := ((F62.ext E53).other W65 (Ne.symm (Nat.ne_of_lt lt42)))
  have lt78 : (a40 : Nat) < a68 := by rw [z68]; exact F77.lt
  have F79 := (A53.other W65 (Ne.symm (Nat.ne_of_lt lt55)))
  have lt80 : (a53 : Nat) < a68 := by rw [z68]; exact F79.lt
  have g68 : n0 ≤ a68 := by rw [z68]; exact (W65.size ▸ s53)
  have s68 : n0 ≤ h68.size := Nat.le_trans (W65.size ▸ s53) E68.1
  have KT81 := ((KT64.ext E53).wr W65 (Or.inl (mi 0 rfl)))
  have y68 : h0.size ≤ a68 := by rw [z68]; exact KT81.1
  refine c68 ?_
  have F83 := (Fld.ext E68 (Fld.other W65 (Fld.ext E53 (Fld.other W50 (Fld.ext E40 (Fld.other W37 (Fld.ext E29 (Fld.other W26 (Fld.ext E20 (Fld.other W17 (Fld.ext E13 (Fld.other W10 (Fld.other W7 (Fld.other W3 G8 (Or.inr (sn28 hw))) (Or.inr (sn29 hw))) (Or.inr (sn30 hw)))) (Or.inr (sn31 hw)))) (Or.inr (sn32 hw)))) (Or.inr (sn33 hw)))) (Or.inr (sn34 hw)))) (Or.inr (sn35 hw))))
  have F84 := (Exa.ext E68 F69)
  obtain ⟨T82, h82, L82, B82, N82, W82, c82⟩ := o_putfield B68 N65 ga 236 239 (v := (.ref a68)) d2_236 rfl (host := "") (Or.inl (hw _ (mi 56 rfl))) Via.refl F83 F84 (Or.inr ⟨(hw _ (mi 57 rfl)), rfl, hnm⟩) (hw _ (mi 16 rfl)) (ty := (.array .int)) (by decide) rfl rfl (Ls := #[vr a, vi xW, vi 0, vi xG, vi 4, vi 4, vi 0, vj (xG.toInt64 * (1 : Int64)), s2, us, us, us, us, us, us, us, us]) (rest := [])
  have F82 : Fld Z h82 a "com/example/hyperplane/hyperplane/Blocks" "blockOffsets" "[I" (.ref a68) := Fld.same W82 F83
  refine c82 ?_
  refine o_aloadN B82 239 240 (v := (.ref a)) d2_239 rfl rfl rfl ?_
  refine o_iloadN B82 240 241 (v := xG) d2_240 rfl rfl ?_
  refine o_iload B82 241 243 (v := (4 : Int32)) d2_241 rfl rfl ?_
  refine o_imul B82 243 244 d2_243 rfl ?_
  obtain ⟨a85, T85, h85, z85, B85, E85, A85, c85⟩ := o_newI B82 244 246 (ty := .int) (z := (xG * (4 : Int32))) (xG.toInt.toNat * 4) 12 (hw _ (mi 44 rfl)) d2_244 rfl rfl rfl hgp.1 hgp.2 (Nat.mul_le_mul_right _ hl.1) (by decide) (by decide) (by decide) (Ls := #[vr a, vi xW, vi 0, vi xG, vi 4, vi 4, vi 0, vj (xG.toInt64 * (1 : Int64)), s2, us, us, us, us, us, us, us, us]) (rest := [(.ref a)])
  have F86 := (Exa.wr W82 F84)
  have lt87 : (a : Nat) < a85 := by rw [z85]; exact F86.lt
  have F88 := ((F71.ext E68).other W82 (Ne.symm (Nat.ne_of_lt lt15)))
  have lt89 : (a13 : Nat) < a85 := by rw [z85]; exact F88.lt
  have F90 := ((F73.ext E68).other W82 (Ne.symm (Nat.ne_of_lt lt22)))
  have lt91 : (a20 : Nat) < a85 := by rw [z85]; exact F90.lt
  have F92 := ((F75.ext E68).other W82 (Ne.symm (Nat.ne_of_lt lt31)))
  have lt93 : (a29 : Nat) < a85 := by rw [z85]; exact F92.lt
  have F94 := ((F77.ext E68).other W82 (Ne.symm (Nat.ne_of_lt lt42)))
  have lt95 : (a40 : Nat) < a85 := by rw [z85]; exact F94.lt
  have F96 := ((F79.ext E68).other W82 (Ne.symm (Nat.ne_of_lt lt55)))
  have lt97 : (a53 : Nat) < a85 := by rw [z85]; exact F96.lt
  have F98 := (A68.other W82 (Ne.symm (Nat.ne_of_lt lt70)))
  have lt99 : (a68 : Nat) < a85 := by rw [z85]; exact F98.lt
  have g85 : n0 ≤ a85 := by rw [z85]; exact (W82.size ▸ s68)
  have s85 : n0 ≤ h85.size := Nat.le_trans (W82.size ▸ s68) E85.1
  have KT100 := ((KT81.ext E68).wr W82 (Or.inl (mi 0 rfl)))
  have y85 : h0.size ≤ a85 := by rw [z85]; exact KT100.1
  refine c85 ?_
  have F102 := (Fld.ext E85 (Fld.other W82 (Fld.ext E68 (Fld.other W65 (Fld.ext E53 (Fld.other W50 (Fld.ext E40 (Fld.other W37 (Fld.ext E29 (Fld.other W26 (Fld.ext E20 (Fld.other W17 (Fld.ext E13 (Fld.other W10 (Fld.other W7 (Fld.other W3 G9 (Or.inr (sn36 hw))) (Or.inr (sn37 hw))) (Or.inr (sn38 hw)))) (Or.inr (sn39 hw)))) (Or.inr (sn40 hw)))) (Or.inr (sn41 hw)))) (Or.inr (sn42 hw)))) (Or.inr (sn43 hw)))) (Or.inr (sn44 hw))))
  have F103 := (Exa.ext E85 F86)
  obtain ⟨T101, h101, L101, B101, N101, W101, c101⟩ := o_putfield B85 N82 ga 246 249 (v := (.ref a85)) d2_246 rfl (host := "") (Or.inl (hw _ (mi 58 rfl))) Via.refl F102 F103 (Or.inr ⟨(hw _ (mi 59 rfl)), rfl, hnm⟩) (hw _ (mi 16 rfl)) (ty := (.array .int)) (by decide) rfl rfl (Ls := #[vr a, vi xW, vi 0, vi xG, vi 4, vi 4, vi 0, vj (xG.toInt64 * (1 : Int64)), s2, us, us, us, us, us, us, us, us]) (rest := [])
  have F101 : Fld Z h101 a "com/example/hyperplane/hyperplane/Blocks" "blockWidths" "[I" (.ref a85) := Fld.same W101 F102
  refine c101 ?_
  refine o_aloadN B101 249 250 (v := (.ref a)) d2_249 rfl rfl rfl ?_
  refine o_iloadN B101 250 251 (v := xG) d2_250 rfl rfl ?_
  refine o_iload B101 251 253 (v := (4 : Int32)) d2_251 rfl rfl ?_
  refine o_imul B101 253 254 d2_253 rfl ?_
  obtain ⟨a104, T104, h104, z104, B104, E104, A104, c104⟩ := o_newJ B101 254 256 (z := (xG * (4 : Int32))) (xG.toInt.toNat * 4) 12 (hw _ (mi 51 rfl)) d2_254 rfl rfl hgp.1 hgp.2 (Nat.mul_le_mul_right _ hl.1) (by decide) (by decide) (by decide) (Ls := #[vr a, vi xW, vi 0, vi xG, vi 4, vi 4, vi 0, vj (xG.toInt64 * (1 : Int64)), s2, us, us, us, us, us, us, us, us]) (rest := [(.ref a)])
  have F105 := (Exa.wr W101 F103)
  have lt106 : (a : Nat) < a104 := by rw [z104]; exact F105.lt
  have F107 := ((F88.ext E85).other W101 (Ne.symm (Nat.ne_of_lt lt15)))
  have lt108 : (a13 : Nat) < a104 := by rw [z104]; exact F107.lt
  have F109 := ((F90.ext E85).other W101 (Ne.symm (Nat.ne_of_lt lt22)))
  have lt110 : (a20 : Nat) < a104 := by rw [z104]; exact F109.lt
  have F111 := ((F92.ext E85).other W101 (Ne.symm (Nat.ne_of_lt lt31)))
  have lt112 : (a29 : Nat) < a104 := by rw [z104]; exact F111.lt
  have F113 := ((F94.ext E85).other W101 (Ne.symm (Nat.ne_of_lt lt42)))
  have lt114 : (a40 : Nat) < a104 := by rw [z104]; exact F113.lt
  have F115 := ((F96.ext E85).other W101 (Ne.symm (Nat.ne_of_lt lt55)))
  have lt116 : (a53 : Nat) < a104 := by rw [z104]; exact F115.lt
  have F117 := ((F98.ext E85).other W101 (Ne.symm (Nat.ne_of_lt lt70)))
  have lt118 : (a68 : Nat) < a104 := by rw [z104]; exact F117.lt
  have F119 := (A85.other W101 (Ne.symm (Nat.ne_of_lt lt87)))
  have lt120 : (a85 : Nat) < a104 := by rw [z104]; exact F119.lt
  have g104 : n0 ≤ a104 := by rw [z104]; exact (W101.size ▸ s85)
  have s104 : n0 ≤ h104.size := Nat.le_trans (W101.size ▸ s85) E104.1
  have KT121 := ((KT100.ext E85).wr W101 (Or.inl (mi 0 rfl)))
  have y104 : h0.size ≤ a104 := by rw [z104]; exact KT121.1
  refine c104 ?_
  have F123 := (Fld.ext E104 (Fld.other W101 (Fld.ext E85 (Fld.other W82 (Fld.ext E68 (Fld.other W65 (Fld.ext E53 (Fld.other W50 (Fld.ext E40 (Fld.other W37 (Fld.ext E29 (Fld.other W26 (Fld.ext E20 (Fld.other W17 (Fld.ext E13 (Fld.other W10 (Fld.other W7 (Fld.other W3 G10 (Or.inr (sn45 hw))) (Or.inr (sn46 hw))) (Or.inr (sn47 hw)))) (Or.inr (sn48 hw)))) (Or.inr (sn49 hw)))) (Or.inr (sn50 hw)))) (Or.inr (sn51 hw)))) (Or.inr (sn52 hw)))) (Or.inr (sn53 hw)))) (Or.inr (sn54 hw))))
  have F124 := (Exa.ext E104 F105)
  obtain ⟨T122, h122, L122, B122, N122, W122, c122⟩ := o_putfield B104 N101 ga 256 259 (v := (.ref a104)) d2_256 rfl (host := "") (Or.inl (hw _ (mi 60 rfl))) Via.refl F123 F124 (Or.inr ⟨(hw _ (mi 61 rfl)), rfl, hnm⟩) (hw _ (mi 16 rfl)) (ty := (.array .long)) (by decide) rfl rfl (Ls := #[vr a, vi xW, vi 0, vi xG, vi 4, vi 4, vi 0, vj (xG.toInt64 * (1 : Int64)), s2, us, us, us, us, us, us, us, us]) (rest := [])
  have F122 : Fld Z h122 a "com/example/hyperplane/hyperplane/Blocks" "blockMasks" "[J" (.ref a104) := Fld.same W122 F123
  refine c122 ?_
  refine o_iconst B122 259 260 (0 : Int32) d2_259 rfl (by decide) ?_
  refine o_istore B122 260 262 (l' := #[vr a, vi xW, vi 0, vi xG, vi 4, vi 4, vi 0, vj (xG.toInt64 * (1 : Int64)), s2, vi 0, us, us, us, us, us, us, us]) d2_260 rfl rfl ?_
  refine o_iconst B122 262 263 (0 : Int32) d2_262 rfl (by decide) ?_
  refine o_istore B122 263 265 (l' := #[vr a, vi xW, vi 0, vi xG, vi 4, vi 4, vi 0, vj (xG.toInt64 * (1 : Int64)), s2, vi 0, vi 0, us, us, us, us, us, us]) d2_263 rfl rfl ?_
  have F125 := (Exa.wr W122 F124)
  have F126 := (Fld.other W122 (Fld.ext E104 (Fld.other W101 (Fld.ext E85 (Fld.other W82 (Fld.ext E68 (Fld.other W65 (Fld.ext E53 (Fld.other W50 (Fld.ext E40 (Fld.other W37 (Fld.ext E29 (Fld.other W26 (Fld.ext E20 F17) (Or.inr (sn55 hw)))) (Or.inr (sn56 hw)))) (Or.inr (sn57 hw)))) (Or.inr (sn58 hw)))) (Or.inr (sn59 hw)))) (Or.inr (sn60 hw)))) (Or.inr (sn61 hw)))
  have F127 := (Fld.other W122 (Fld.ext E104 (Fld.other W101 (Fld.ext E85 (Fld.other W82 (Fld.ext E68 (Fld.other W65 (Fld.ext E53 (Fld.other W50 (Fld.ext E40 (Fld.other W37 (Fld.ext E29 F26) (Or.inr (sn62 hw)))) (Or.inr (sn63 hw)))) (Or.inr (sn64 hw)))) (Or.inr (sn65 hw)))) (Or.inr (sn66 hw)))) (Or.inr (sn67 hw)))
  have F128 := (Fld.other W122 (Fld.ext E104 (Fld.other W101 (Fld.ext E85 (Fld.other W82 (Fld.ext E68 (Fld.other W65 (Fld.ext E53 (Fld.other W50 (Fld.ext E40 F37) (Or.inr (sn68 hw)))) (Or.inr (sn69 hw)))) (Or.inr (sn70 hw)))) (Or.inr (sn71 hw)))) (Or.inr (sn72 hw)))
  have F129 := (Fld.other W122 (Fld.ext E104 (Fld.other W101 (Fld.ext E85 (Fld.other W82 (Fld.ext E68 (Fld.other W65 (Fld.ext E53 F50) (Or.inr (sn73 hw)))) (Or.inr (sn74 hw)))) (Or.inr (sn75 hw)))) (Or.inr (sn76 hw)))
  have F130 := (Fld.other W122 (Fld.ext E104 (Fld.other W101 (Fld.ext E85 (Fld.other W82 (Fld.ext E68 F65) (Or.inr (sn77 hw)))) (Or.inr (sn78 hw)))) (Or.inr (sn79 hw)))
  have F131 := (Fld.other W122 (Fld.ext E104 (Fld.other W101 (Fld.ext E85 F82) (Or.inr (sn80 hw)))) (Or.inr (sn81 hw)))
  have F132 := (Fld.other W122 (Fld.ext E104 F101) (Or.inr (sn82 hw)))
  have F133 := ((F107.ext E104).other W122 (Ne.symm (Nat.ne_of_lt lt15)))
  have F134 := ((F109.ext E104).other W122 (Ne.symm (Nat.ne_of_lt lt22)))
  have F135 := ((F111.ext E104).other W122 (Ne.symm (Nat.ne_of_lt lt31)))
  have F136 := ((F113.ext E104).other W122 (Ne.symm (Nat.ne_of_lt lt42)))
  have F137 := ((F115.ext E104).other W122 (Ne.symm (Nat.ne_of_lt lt55)))
  have F138 := ((F117.ext E104).other W122 (Ne.symm (Nat.ne_of_lt lt70)))
  have F139 := ((F119.ext E104).other W122 (Ne.symm (Nat.ne_of_lt lt87)))
  have F140 := (A104.other W122 (Ne.symm (Nat.ne_of_lt lt106)))
  refine lpO_4 a0 hw xW xG (4 : Int32) (0 : Int32) (xG.toInt64 * (1 : Int64)) a a13 a20 a29 a40 a53 a68 a85 a104 lt15 lt24 lt35 lt48 lt63 lt80 lt99 lt120 ga hp ⟨by omega, hl.2.1⟩ xG.toInt.toNat 0 _ _ _ _ _ _ _ _ _ _ _ _ (Nat.zero_add _) One.u One.u One.u One.u One.u One.u B122 N122 (W122.size ▸ s104) F125 F126 F127 F128 F129 F130 F131 F132 F122 F133 (F134.alt (fun j _ => if_neg (by omega))) (F135.alt (fun j _ => if_neg (by omega))) (F136.alt (fun j _ => if_neg (by omega))) (F137.alt (fun j _ => if_neg (by omega))) F138 F139 (F140.alt (fun j _ => if_neg (by omega))) (fun T9 h9 L9 s9 i9 u11 u12 u13 u14 u15 u16 e11 e12 e13 e14 e15 e16 g1 g6 g7 B9 N9 K9 C_gw C_fw C_sh C_lm C_hm C_bo C_bw C_bm => ?_)
  have z9 : n0 ≤ h9.size := Nat.le_trans (W122.size ▸ s104) K9.1
  refine o_aloadN B9 515 516 (v := (.ref a)) d2_515 rfl rfl rfl ?_
  refine o_lload B9 516 518 (v := (xG.toInt64 * (1 : Int64))) d2_516 rfl rfl ?_
  refine o_iloadN B9 518 519 (v := xG) d2_518 rfl rfl ?_
  refine o_i2l B9 519 520 d2_519 rfl ?_
  refine o_ldiv B9 520 521 d2_520 rfl (own_gz hp) ?_
  refine o_topJ (own_tg hp 1 1 (by decide) (by decide) (by decide)) ?_
  refine o_l2i B9 521 522 d2_521 rfl ?_
  refine o_topI (show (1 : Int64).toInt32 = (1 : Int32) by decide) ?_
  obtain ⟨a141, T141, h141, z141, B141, E141, A141, c141⟩ := o_newJ B9 522 524 (z := (1 : Int32)) 1 1 (hw _ (mi 51 rfl)) d2_522 rfl rfl (by decide) (by decide) (by decide) (by decide) (by decide) (by decide) (Ls := #[vr a, vi xW, vi 0, vi xG, vi 4, vi 4, vi 0, vj (xG.toInt64 * (1 : Int64)), s2, vi s9, vi i9, u11, u12, u13, u14, u15, u16]) (rest := [(.ref a)])
  have F142 := (F125.keep K9)
  have lt143 : (a : Nat) < a141 := by rw [z141]; exact F142.lt
  have lt144 : (a13 : Nat) < a141 := by rw [z141]; exact C_gw.lt
  have lt145 : (a20 : Nat) < a141 := by rw [z141]; exact C_fw.lt
  have lt146 : (a29 : Nat) < a141 := by rw [z141]; exact C_sh.lt
  have lt147 : (a40 : Nat) < a141 := by rw [z141]; exact C_lm.lt
  have lt148 : (a53 : Nat) < a141 := by rw [z141]; exact C_hm.lt
  have lt149 : (a68 : Nat) < a141 := by rw [z141]; exact C_bo.lt
  have lt150 : (a85 : Nat) < a141 := by rw [z141]; exact C_bw.lt
  have lt151 : (a104 : Nat) < a141 := by rw [z141]; exact C_bm.lt
  have g141 : n0 ≤ a141 := by rw [z141]; exact z9
  have s141 : n0 ≤ h141.size := Nat.le_trans z9 E141.1
  have KT152 := (((KT121.ext E104).wr W122 (Or.inl (mi 0 rfl))).trans K9 (allS (Or.inr y13) (allS (Or.inr y20) (allS (Or.inr y29) (allS (Or.inr y40) (allS (Or.inr y53) (allS (Or.inr y68) (allS (Or.inr y85) (allS (Or.inr y104) all0)))))))))
  have y141 : h0.size ≤ a141 := by rw [z141]; exact KT152.1
  refine c141 ?_
  have F154 := (Fld.ext E141 ((Fld.other W122 (Fld.ext E104 (Fld.other W101 (Fld.ext E85 (Fld.other W82 (Fld.ext E68 (Fld.other W65 (Fld.ext E53 (Fld.other W50 (Fld.ext E40 (Fld.other W37 (Fld.ext E29 (Fld.other W26 (Fld.ext E20 (Fld.other W17 (Fld.ext E13 (Fld.other W10 (Fld.other W7 (Fld.other W3 G11 (Or.inr (sn83 hw))) (Or.inr (sn84 hw))) (Or.inr (sn85 hw)))) (Or.inr (sn86 hw)))) (Or.inr (sn87 hw)))) (Or.inr (sn88 hw)))) (Or.inr (sn89 hw)))) (Or.inr (sn90 hw)))) (Or.inr (sn91 hw)))) (Or.inr (sn92 hw)))) (Or.inr (sn93 hw))).keep K9 (ninS (Nat.ne_of_lt lt15) (ninS (Nat.ne_of_lt lt22) (ninS (Nat.ne_of_lt lt31) (ninS (Nat.ne_of_lt lt42) (ninS (Nat.ne_of_lt lt55) (ninS (Nat.ne_of_lt lt70) (ninS (Nat.ne_of_lt lt87) (ninS (Nat.ne_of_lt lt106) nin0))))))))))
  have F155 := (Exa.ext E141 F142)
  obtain ⟨T153, h153, L153, B153, N153, W153, c153⟩ := o_putfield B141 N9 ga 524 527 (v := (.ref a141)) d2_524 rfl (host := "") (Or.inl (hw _ (mi 62 rfl))) Via.refl F154 F155 (Or.inr ⟨(hw _ (mi 63 rfl)), rfl, hnm⟩) (hw _ (mi 16 rfl)) (ty := (.array .long)) (by decide) rfl rfl (Ls := #[vr a, vi xW, vi 0, vi xG, vi 4, vi 4, vi 0, vj (xG.toInt64 * (1 : Int64)), s2, vi s9, vi i9, u11, u12, u13, u14, u15, u16]) (rest := [])
  have F153 : Fld Z h153 a "com/example/hyperplane/hyperplane/Blocks" "keys" "[J" (.ref a141) := Fld.same W153 F154
  refine c153 ?_
  refine o_iload B153 527 529 (v := (4 : Int32)) d2_527 rfl rfl ?_
  refine o_bipush B153 529 531 (64 : Int32) d2_529 rfl (by decide) ?_
  refine o_icY B153 531 538 d2_531 (XT.ii_ne_t (by decide)) (by decide) (by decide) ?_
  refine o_lconst B153 538 539 (1 : Int64) d2_538 rfl (by decide) ?_
  refine o_iload B153 539 541 (v := (4 : Int32)) d2_539 rfl rfl ?_
  refine o_lshl B153 541 542 d2_541 rfl ?_
  refine o_topJ (show ((1 : Int64) <<< ((4 : Int32).toInt64 &&& 63)) = (16 : Int64) by decide) ?_
  refine o_lconst B153 542 543 (1 : Int64) d2_542 rfl (by decide) ?_
  refine o_lsub B153 543 544 d2_543 rfl ?_
  refine o_topJ (show ((16 : Int64) - (1 : Int64)) = (15 : Int64) by decide) ?_
  refine o_lstore B153 544 546 (l' := #[vr a, vi xW, vi 0, vi xG, vi 4, vi 4, vi 0, vj (xG.toInt64 * (1 : Int64)), s2, vi s9, vj 15, s2, u12, u13, u14, u15, u16]) d2_544 rfl (st2 rfl (One.val rfl) rfl e11 rfl) ?_
  refine o_iconst B153 546 547 (0 : Int32) d2_546 rfl (by decide) ?_
  refine o_istore B153 547 549 (l' := #[vr a, vi xW, vi 0, vi xG, vi 4, vi 4, vi 0, vj (xG.toInt64 * (1 : Int64)), s2, vi s9, vj 15, s2, vi 0, u13, u14, u15, u16]) d2_547 rfl (st1 rfl e12 rfl rfl) ?_
  refine o_iload B153 549 551 (v := (0 : Int32)) d2_549 rfl rfl ?_
  refine o_aloadN B153 551 552 (v := (.ref a)) d2_551 rfl rfl rfl ?_
  obtain ⟨T156, B156, c156⟩ := o_getfield B153 552 555 d2_552 rfl (host := "") (Or.inl (hw _ (mi 62 rfl))) Via.refl F153 (Ls := #[vr a, vi xW, vi 0, vi xG, vi 4, vi 4, vi 0, vj (xG.toInt64 * (1 : Int64)), s2, vi s9, vj 15, s2, vi 0, u13, u14, u15, u16]) (rest := [(.int (0 : Int32))])
  refine c156 ?_
  have F158 := (A141.other W153 (Ne.symm (Nat.ne_of_lt lt143)))
  refine o_alenJ B156 555 556 F158 (1 : Int32) d2_555 rfl (by decide) ?_
  refine o_icN B156 556 559 d2_556 rfl (XT.ii_ge_f (by decide)) ?_
  refine o_aloadN B156 559 560 (v := (.ref a)) d2_559 rfl rfl rfl ?_
  obtain ⟨T159, B159, c159⟩ := o_getfield B156 560 563 d2_560 rfl (host := "") (Or.inl (hw _ (mi 62 rfl))) Via.refl F153 (Ls := #[vr a, vi xW, vi 0, vi xG, vi 4, vi 4, vi 0, vj (xG.toInt64 * (1 : Int64)), s2, vi s9, vj 15, s2, vi 0, u13, u14, u15, u16]) (rest := [])
  refine c159 ?_
  refine o_iload B159 563 565 (v := (0 : Int32)) d2_563 rfl rfl ?_
  refine o_lload B159 565 567 (v := (15 : Int64)) d2_565 rfl rfl ?_
  obtain ⟨T160, h160, L160, B160, N160, W160, Q160, c160⟩ := o_lastore B159 N153 g141 567 568 F158 (j := (0 : Int32)) (x := (15 : Int64)) 0 (15 : Int64) d2_567 rfl (by decide) (by decide) (by decide) rfl (Ls := #[vr a, vi xW, vi 0, vi xG, vi 4, vi 4, vi 0, vj (xG.toInt64 * (1 : Int64)), s2, vi s9, vj 15, s2, vi 0, u13, u14, u15, u16]) (rest := [])
  have A160 : AJ Z h160 a141 1 (w2_4_4c_1 xW xG) := Q160
  refine c160 ?_
  refine o_lload B160 568 570 (v := (15 : Int64)) d2_568 rfl rfl ?_
  refine o_lload B160 570 572 (v := (15 : Int64)) d2_570 rfl rfl ?_
  refine o_lneg B160 572 573 d2_572 rfl ?_
  refine o_topJ (show (-(15 : Int64)) = (-15 : Int64) by decide) ?_
  refine o_land B160 573 574 d2_573 rfl ?_
  refine o_topJ (show ((15 : Int64) &&& (-15 : Int64)) = (1 : Int64) by decide) ?_
  refine o_lstore B160 574 576 (l' := #[vr a, vi xW, vi 0, vi xG, vi 4, vi 4, vi 0, vj (xG.toInt64 * (1 : Int64)), s2, vi s9, vj 15, s2, vi 0, vj 1, s2, u15, u16]) d2_574 rfl (st2 rfl e13 rfl e14 rfl) ?_
  refine o_lload B160 576 578 (v := (15 : Int64)) d2_576 rfl rfl ?_
  refine o_lload B160 578 580 (v := (1 : Int64)) d2_578 rfl rfl ?_
  refine o_ladd B160 580 581 d2_580 rfl ?_
  refine o_topJ (show ((15 : Int64) + (1 : Int64)) = (16 : Int64) by decide) ?_
  refine o_lstore B160 581 583 (l' := #[vr a, vi xW, vi 0, vi xG, vi 4, vi 4, vi 0, vj (xG.toInt64 * (1 : Int64)), s2, vi s9, vj 15, s2, vi 0, vj 1, s2, vj 16, s2]) d2_581 rfl (st2 rfl e15 rfl e16 rfl) ?_
  refine o_lload B160 583 585 (v := (16 : Int64)) d2_583 rfl rfl ?_
  refine o_lload B160 585 587 (v := (15 : Int64)) d2_585 rfl rfl ?_
  refine o_lload B160 587 589 (v := (16 : Int64)) d2_587 rfl rfl ?_
  refine o_lxor B160 589 590 d2_589 rfl ?_
  refine o_topJ (show ((15 : Int64) ^^^ (16 : Int64)) = (31 : Int64) by decide) ?_
  refine o_iconst B160 590 591 (2 : Int32) d2_590 rfl (by decide) ?_
  refine o_lushr B160 591 592 d2_591 rfl ?_
  refine o_topJ (show (XT.ushrL (31 : Int64) (2 : Int32)) = (7 : Int64) by decide) ?_
  refine o_lload B160 592 594 (v := (1 : Int64)) d2_592 rfl rfl ?_
  refine o_ldiv B160 594 595 d2_594 rfl (by decide) ?_
  refine o_topJ (show ((7 : Int64) / (1 : Int64)) = (7 : Int64) by decide) ?_
  refine o_lor B160 595 596 d2_595 rfl ?_
  refine o_topJ (show ((16 : Int64) ||| (7 : Int64)) = (23 : Int64) by decide) ?_
  refine o_lstore B160 596 598 (l' := #[vr a, vi xW, vi 0, vi xG, vi 4, vi 4, vi 0, vj (xG.toInt64 * (1 : Int64)), s2, vi s9, vj 23, s2, vi 0, vj 1, s2, vj 16, s2]) d2_596 rfl rfl ?_
  refine o_iincC B160 598 601 (l' := #[vr a, vi xW, vi 0, vi xG, vi 4, vi 4, vi 0, vj (xG.toInt64 * (1 : Int64)), s2, vi s9, vj 23, s2, vi 1, vj 1, s2, vj 16, s2]) (1 : Int32) (1 : Int32) d2_598 rfl (by decide) rfl (by decide) rfl ?_
  refine o_goto B160 601 549 d2_601 (by decide) (by decide) ?_
  refine o_iload B160 549 551 (v := (1 : Int32)) d2_549 rfl rfl ?_
  refine o_aloadN B160 551 552 (v := (.ref a)) d2_551 rfl rfl rfl ?_
  have F162 := (Fld.other W160 F153 (Or.inl (Nat.ne_of_lt lt143)))
  obtain ⟨T161, B161, c161⟩ := o_getfield B160 552 555 d2_552 rfl (host := "") (Or.inl (hw _ (mi 62 rfl))) Via.refl F162 (Ls := #[vr a, vi xW, vi 0, vi xG, vi 4, vi 4, vi 0, vj (xG.toInt64 * (1 : Int64)), s2, vi s9, vj 23, s2, vi 1, vj 1, s2, vj 16, s2]) (rest := [(.int (1 : Int32))])
  refine c161 ?_
  refine o_alenJ B161 555 556 A160 (1 : Int32) d2_555 rfl (by decide) ?_
  refine o_icY B161 556 604 d2_556 (XT.ii_ge_t (by decide)) (by decide) (by decide) ?_
  refine o_aloadN B161 604 605 (v := (.ref a)) d2_604 rfl rfl rfl ?_
  refine o_lload B161 605 607 (v := (xG.toInt64 * (1 : Int64))) d2_605 rfl rfl ?_
  refine o_l2i B161 607 608 d2_607 rfl ?_
  obtain ⟨a164, T164, h164, z164, B164, E164, A164, c164⟩ := o_newI B161 608 610 (ty := .int) (z := (xG.toInt64 * (1 : Int64)).toInt32) (xG.toInt.toNat * 1) 3 (hw _ (mi 44 rfl)) d2_608 rfl rfl rfl htn.1 htn.2 (Nat.mul_le_mul_right _ hl.1) (by decide) (by decide) (by decide) (Ls := #[vr a, vi xW, vi 0, vi xG, vi 4, vi 4, vi 0, vj (xG.toInt64 * (1 : Int64)), s2, vi s9, vj 23, s2, vi 1, vj 1, s2, vj 16, s2]) (rest := [(.ref a)])
  have F165 := (Exa.wr W160 (Exa.wr W153 F155))
  have lt166 : (a : Nat) < a164 := by rw [z164]; exact F165.lt
  have F167 := (((C_gw.ext E141).other W153 (Ne.symm (Nat.ne_of_lt lt15))).other W160 (Nat.ne_of_lt lt144))
  have lt168 : (a13 : Nat) < a164 := by rw [z164]; exact F167.lt
  have F169 := (((C_fw.ext E141).other W153 (Ne.symm (Nat.ne_of_lt lt22))).other W160 (Nat.ne_of_lt lt145))
  have lt170 : (a20 : Nat) < a164 := by rw [z164]; exact F169.lt
  have F171 := (((C_sh.ext E141).other W153 (Ne.symm (Nat.ne_of_lt lt31))).other W160 (Nat.ne_of_lt lt146))
  have lt172 : (a29 : Nat) < a164 := by rw [z164]; exact F171.lt
  have F173 := (((C_lm.ext E141).other W153 (Ne.symm (Nat.ne_of_lt lt42))).other W160 (Nat.ne_of_lt lt147))
  have lt174 : (a40 : Nat) < a164 := by rw [z164]; exact F173.lt
  have F175 := (((C_hm.ext E141).other W153 (Ne.symm (Nat.ne_of_lt lt55))).other W160 (Nat.ne_of_lt lt148))
  have lt176 : (a53 : Nat) < a164 := by rw [z164]; exact F175.lt
  have F177 := (((C_bo.ext E141).other W153 (Ne.symm (Nat.ne_of_lt lt70))).other W160 (Nat.ne_of_lt lt149))
  have lt178 : (a68 : Nat) < a164 := by rw [z164]; exact F177.lt
  have F179 := (((C_bw.ext E141).other W153 (Ne.symm (Nat.ne_of_lt lt87))).other W160 (Nat.ne_of_lt lt150))
  have lt180 : (a85 : Nat) < a164 := by rw [z164]; exact F179.lt
  have F181 := (((C_bm.ext E141).other W153 (Ne.symm (Nat.ne_of_lt lt106))).other W160 (Nat.ne_of_lt lt151))
  have lt182 : (a104 : Nat) < a164 := by rw [z164]; exact F181.lt
  have lt183 : (a141 : Nat) < a164 := by rw [z164]; exact A160.lt
  have g164 : n0 ≤ a164 := by rw [z164]; exact (W160.size ▸ (W153.size ▸ s141))
  have s164 : n0 ≤ h164.size := Nat.le_trans (W160.size ▸ (W153.size ▸ s141)) E164.1
  have KT184 := (((KT152.ext E141).wr W153 (Or.inl (mi 0 rfl))).wr W160 (Or.inr y141))
  have y164 : h0.size ≤ a164 := by rw [z164]; exact KT184.1
  refine c164 ?_
  have F186 := (Fld.ext E164 (Fld.other W160 (Fld.other W153 (Fld.ext E141 ((Fld.other W122 (Fld.ext E104 (Fld.other W101 (Fld.ext E85 (Fld.other W82 (Fld.ext E68 (Fld.other W65 (Fld.ext E53 (Fld.other W50 (Fld.ext E40 (Fld.other W37 (Fld.ext E29 (Fld.other W26 (Fld.ext E20 (Fld.other W17 (Fld.ext E13 (Fld.other W10 (Fld.other W7 (Fld.other W3 G12 (Or.inr (sn94 hw))) (Or.inr (sn95 hw))) (Or.inr (sn96 hw)))) (Or.inr (sn97 hw)))) (Or.inr (sn98 hw)))) (Or.inr (sn99 hw)))) (Or.inr (sn100 hw)))) (Or.inr (sn101 hw)))) (Or.inr (sn102 hw)))) (Or.inr (sn103 hw)))) (Or.inr (sn104 hw))).keep K9 (ninS (Nat.ne_of_lt lt15) (ninS (Nat.ne_of_lt lt22) (ninS (Nat.ne_of_lt lt31) (ninS (Nat.ne_of_lt lt42) (ninS (Nat.ne_of_lt lt55) (ninS (Nat.ne_of_lt lt70) (ninS (Nat.ne_of_lt lt87) (ninS (Nat.ne_of_lt lt106) nin0)))))))))) (Or.inr (sn105 hw))) (Or.inl (Nat.ne_of_lt lt143))))
  have F187 := (Exa.ext E164 F165)
  obtain ⟨T185, h185, L185, B185, N185, W185, c185⟩ := o_putfield B164 N160 ga 610 613 (v := (.ref a164)) d2_610 rfl (host := "") (Or.inl (hw _ (mi 64 rfl))) Via.refl F186 F187 (Or.inr ⟨(hw _ (mi 65 rfl)), rfl, hnm⟩) (hw _ (mi 16 rfl)) (ty := (.array .int)) (by decide) rfl rfl (Ls := #[vr a, vi xW, vi 0, vi xG, vi 4, vi 4, vi 0, vj (xG.toInt64 * (1 : Int64)), s2, vi s9, vj 23, s2, vi 1, vj 1, s2, vj 16, s2]) (rest := [])
  have F185 : Fld Z h185 a "com/example/hyperplane/hyperplane/Blocks" "tableGroups" "[I" (.ref a164) := Fld.same W185 F186
  refine c185 ?_
  refine o_aloadN B185 613 614 (v := (.ref a)) d2_613 rfl rfl rfl ?_
  refine o_lload B185 614 616 (v := (xG.toInt64 * (1 : Int64))) d2_614 rfl rfl ?_
  refine o_l2i B185 616 617 d2_616 rfl ?_
  obtain ⟨a188, T188, h188, z188, B188, E188, A188, c188⟩ := o_newI B185 617 619 (ty := .int) (z := (xG.toInt64 * (1 : Int64)).toInt32) (xG.toInt.toNat * 1) 3 (hw _ (mi 44 rfl)) d2_617 rfl rfl rfl htn.1 htn.2 (Nat.mul_le_mul_right _ hl.1) (by decide) (by decide) (by decide) (Ls := #[vr a, vi xW, vi 0, vi xG, vi 4, vi 4, vi 0, vj (xG.toInt64 * (1 : Int64)), s2, vi s9, vj 23, s2, vi 1, vj 1, s2, vj 16, s2]) (rest := [(.ref a)])
  have F189 := (Exa.wr W185 F187)
  have lt190 : (a : Nat) < a188 := by rw [z188]; exact F189.lt
  have F191 := ((F167.ext E164).other W185 (Ne.symm (Nat.ne_of_lt lt15)))
  have lt192 : (a13 : Nat) < a188 := by rw [z188]; exact F191.lt
  have F193 := ((F169.ext E164).other W185 (Ne.symm (Nat.ne_of_lt lt22)))
  have lt194 : (a20 : Nat) < a188 := by rw [z188]; exact F193.lt
  have F195 := ((F171.ext E164).other W185 (Ne.symm (Nat.ne_of_lt lt31)))
  have lt196 : (a29 : Nat) < a188 := by rw [z188]; exact F195.lt
  have F197 := ((F173.ext E164).other W185 (Ne.symm (Nat.ne_of_lt lt42)))
  have lt198 : (a40 : Nat) < a188 := by rw [z188]; exact F197.lt
  have F199 := ((F175.ext E164).other W185 (Ne.symm (Nat.ne_of_lt lt55)))
  have lt200 : (a53 : Nat) < a188 := by rw [z188]; exact F199.lt
  have F201 := ((F177.ext E164).other W185 (Ne.symm (Nat.ne_of_lt lt70)))
  have lt202 : (a68 : Nat) < a188 := by rw [z188]; exact F201.lt
  have F203 := ((F179.ext E164).other W185 (Ne.symm (Nat.ne_of_lt lt87)))
  have lt204 : (a85 : Nat) < a188 := by rw [z188]; exact F203.lt
  have F205 := ((F181.ext E164).other W185 (Ne.symm (Nat.ne_of_lt lt106)))
  have lt206 : (a104 : Nat) < a188 := by rw [z188]; exact F205.lt
  have F207 := ((A160.ext E164).other W185 (Ne.symm (Nat.ne_of_lt lt143)))
  have lt208 : (a141 : Nat) < a188 := by rw [z188]; exact F207.lt
  have F209 := (A164.other W185 (Ne.symm (Nat.ne_of_lt lt166)))
  have lt210 : (a164 : Nat) < a188 := by rw [z188]; exact F209.lt
  have g188 : n0 ≤ a188 := by rw [z188]; exact (W185.size ▸ s164)
  have s188 : n0 ≤ h188.size := Nat.le_trans (W185.size ▸ s164) E188.1
  have KT211 := ((KT184.ext E164).wr W185 (Or.inl (mi 0 rfl)))
  have y188 : h0.size ≤ a188 := by rw [z188]; exact KT211.1
  refine c188 ?_
  have F213 := (Fld.ext E188 (Fld.other W185 (Fld.ext E164 (Fld.other W160 (Fld.other W153 (Fld.ext E141 ((Fld.other W122 (Fld.ext E104 (Fld.other W101 (Fld.ext E85 (Fld.other W82 (Fld.ext E68 (Fld.other W65 (Fld.ext E53 (Fld.other W50 (Fld.ext E40 (Fld.other W37 (Fld.ext E29 (Fld.other W26 (Fld.ext E20 (Fld.other W17 (Fld.ext E13 (Fld.other W10 (Fld.other W7 (Fld.other W3 G13 (Or.inr (sn106 hw))) (Or.inr (sn107 hw))) (Or.inr (sn108 hw)))) (Or.inr (sn109 hw)))) (Or.inr (sn110 hw)))) (Or.inr (sn111 hw)))) (Or.inr (sn112 hw)))) (Or.inr (sn113 hw)))) (Or.inr (sn114 hw)))) (Or.inr (sn115 hw)))) (Or.inr (sn116 hw))).keep K9 (ninS (Nat.ne_of_lt lt15) (ninS (Nat.ne_of_lt lt22) (ninS (Nat.ne_of_lt lt31) (ninS (Nat.ne_of_lt lt42) (ninS (Nat.ne_of_lt lt55) (ninS (Nat.ne_of_lt lt70) (ninS (Nat.ne_of_lt lt87) (ninS (Nat.ne_of_lt lt106) nin0)))))))))) (Or.inr (sn117 hw))) (Or.inl (Nat.ne_of_lt lt143)))) (Or.inr (sn118 hw))))
  have F214 := (Exa.ext E188 F189)
  obtain ⟨T212, h212, L212, B212, N212, W212, c212⟩ := o_putfield B188 N185 ga 619 622 (v := (.ref a188)) d2_619 rfl (host := "") (Or.inl (hw _ (mi 66 rfl))) Via.refl F213 F214 (Or.inr ⟨(hw _ (mi 67 rfl)), rfl, hnm⟩) (hw _ (mi 16 rfl)) (ty := (.array .int)) (by decide) rfl rfl (Ls := #[vr a, vi xW, vi 0, vi xG, vi 4, vi 4, vi 0, vj (xG.toInt64 * (1 : Int64)), s2, vi s9, vj 23, s2, vi 1, vj 1, s2, vj 16, s2]) (rest := [])
  have F212 : Fld Z h212 a "com/example/hyperplane/hyperplane/Blocks" "blockEnds" "[I" (.ref a188) := Fld.same W212 F213
  refine c212 ?_
  refine o_iconst B212 622 623 (0 : Int32) d2_622 rfl (by decide) ?_
  refine o_istore B212 623 625 (l' := #[vr a, vi xW, vi 0, vi xG, vi 4, vi 4, vi 0, vj (xG.toInt64 * (1 : Int64)), s2, vi s9, vj 23, s2, vi 0, vj 1, s2, vj 16, s2]) d2_623 rfl rfl ?_
  refine o_iload B212 625 627 (v := (0 : Int32)) d2_625 rfl rfl ?_
  refine o_i2l B212 627 628 d2_627 rfl ?_
  refine o_topJ (show (0 : Int32).toInt64 = (0 : Int64) by decide) ?_
  refine o_lload B212 628 630 (v := (xG.toInt64 * (1 : Int64))) d2_628 rfl rfl ?_
  refine o_lcmp B212 630 631 d2_630 rfl ?_
  refine o_ifN B212 631 634 d2_631 rfl (XT.ll_ge_f (own_ps hp 1 1 (by decide) (by decide) (by decide))) ?_
  refine o_iload B212 634 636 (v := (0 : Int32)) d2_634 rfl rfl ?_
  refine o_aloadN B212 636 637 (v := (.ref a)) d2_636 rfl rfl rfl ?_
  have F216 := (Fld.other W212 (Fld.ext E188 (Fld.other W185 (Fld.ext E164 F162) (Or.inr (sn119 hw)))) (Or.inr (sn120 hw)))
  obtain ⟨T215, B215, c215⟩ := o_getfield B212 637 640 d2_637 rfl (host := "") (Or.inl (hw _ (mi 62 rfl))) Via.refl F216 (Ls := #[vr a, vi xW, vi 0, vi xG, vi 4, vi 4, vi 0, vj (xG.toInt64 * (1 : Int64)), s2, vi s9, vj 23, s2, vi 0, vj 1, s2, vj 16, s2]) (rest := [(.int (0 : Int32))])
  refine c215 ?_
  have F218 := ((F207.ext E188).other W212 (Ne.symm (Nat.ne_of_lt lt143)))
  refine o_alenJ B215 640 641 F218 (1 : Int32) d2_640 rfl (by decide) ?_
  refine o_idiv B215 641 642 d2_641 rfl (by decide) ?_
  refine o_topI (show ((0 : Int32) / (1 : Int32)) = (0 : Int32) by decide) ?_
  refine o_istore B215 642 644 (l' := #[vr a, vi xW, vi 0, vi xG, vi 4, vi 4, vi 0, vj (xG.toInt64 * (1 : Int64)), s2, vi s9, vj 23, s2, vi 0, vi 0, us, vj 16, s2]) d2_642 rfl rfl ?_
  refine o_aloadN B215 644 645 (v := (.ref a)) d2_644 rfl rfl rfl ?_
  obtain ⟨T219, B219, c219⟩ := o_getfield B215 645 648 d2_645 rfl (host := "") (Or.inl (hw _ (mi 62 rfl))) Via.refl F216 (Ls := #[vr a, vi xW, vi 0, vi xG, vi 4, vi 4, vi 0, vj (xG.toInt64 * (1 : Int64)), s2, vi s9, vj 23, s2, vi 0, vi 0, us, vj 16, s2]) (rest := [])
  refine c219 ?_
  refine o_iload B219 648 650 (v := (0 : Int32)) d2_648 rfl rfl ?_
  refine o_aloadN B219 650 651 (v := (.ref a)) d2_650 rfl rfl rfl ?_
  obtain ⟨T220, B220, c220⟩ := o_getfield B219 651 654 d2_651 rfl (host := "") (Or.inl (hw _ (mi 62 rfl))) Via.refl F216 (Ls := #[vr a, vi xW, vi 0, vi xG, vi 4, vi 4, vi 0, vj (xG.toInt64 * (1 : Int64)), s2, vi s9, vj 23, s2, vi 0, vi 0, us, vj 16, s2]) (rest := [(.int (0 : Int32)), (.ref a141)])
  refine c220 ?_
  refine o_alenJ B220 654 655 F218 (1 : Int32) d2_654 rfl (by decide) ?_
  refine o_irem B220 655 656 d2_655 rfl (by decide) ?_
  refine o_topI (show ((0 : Int32) % (1 : Int32)) = (0 : Int32) by decide) ?_
  refine o_laload B220 656 657 F218 0 (15 : Int64) d2_656 rfl (by decide) (by decide) (by decide) rfl ?_
  obtain ⟨T223, B223, c223⟩ := o_callP B220 657 660 d2_657 rfl (hw _ (mi 68 rfl)) (hw _ (mi 69 rfl)) (hw _ (mi 70 rfl)) (hw _ (mi 71 rfl)) (by decide) (rm8 l Z a0 hw (15 : Int64) h212 ) 0 [(.long (15 : Int64))] [] pd__J_I rfl rfl (st := [(.long (15 : Int64))]) rfl (Ls := #[vr a, vi xW, vi 0, vi xG, vi 4, vi 4, vi 0, vj (xG.toInt64 * (1 : Int64)), s2, vi s9, vj 23, s2, vi 0, vi 0, us, vj 16, s2]) rfl (Nat.le_of_eq rfl) (by decide) (by decide) (by decide) (by decide)
  refine c223 ?_
  refine o_topI (show (f8 (15 : Int64)) = (0 : Int32) by decide) ?_
  refine o_istore B223 660 662 (l' := #[vr a, vi xW, vi 0, vi xG, vi 4, vi 4, vi 0, vj (xG.toInt64 * (1 : Int64)), s2, vi s9, vj 23, s2, vi 0, vi 0, vi 0, vj 16, s2]) d2_660 rfl rfl ?_
  have F224 := (Exa.wr W212 F214)
  have F225 := (Fld.other W212 (Fld.ext E188 F185) (Or.inr (sn121 hw)))
  have F226 := (Fld.other W212 (Fld.ext E188 (Fld.other W185 (Fld.ext E164 (Fld.other W160 (Fld.other W153 (Fld.ext E141 (F131.keep K9 (ninS (Nat.ne_of_lt lt15) (ninS (Nat.ne_of_lt lt22) (ninS (Nat.ne_of_lt lt31) (ninS (Nat.ne_of_lt lt42) (ninS (Nat.ne_of_lt lt55) (ninS (Nat.ne_of_lt lt70) (ninS (Nat.ne_of_lt lt87) (ninS (Nat.ne_of_lt lt106) nin0)))))))))) (Or.inr (sn122 hw))) (Or.inl (Nat.ne_of_lt lt143)))) (Or.inr (sn123 hw)))) (Or.inr (sn124 hw)))
  have F227 := (Fld.other W212 (Fld.ext E188 (Fld.other W185 (Fld.ext E164 (Fld.other W160 (Fld.other W153 (Fld.ext E141 (F132.keep K9 (ninS (Nat.ne_of_lt lt15) (ninS (Nat.ne_of_lt lt22) (ninS (Nat.ne_of_lt lt31) (ninS (Nat.ne_of_lt lt42) (ninS (Nat.ne_of_lt lt55) (ninS (Nat.ne_of_lt lt70) (ninS (Nat.ne_of_lt lt87) (ninS (Nat.ne_of_lt lt106) nin0)))))))))) (Or.inr (sn125 hw))) (Or.inl (Nat.ne_of_lt lt143)))) (Or.inr (sn126 hw)))) (Or.inr (sn127 hw)))
  have F228 := (Fld.other W212 (Fld.ext E188 (Fld.other W185 (Fld.ext E164 (Fld.other W160 (Fld.other W153 (Fld.ext E141 ((Fld.other W122 (Fld.ext E104 (Fld.other W101 (Fld.ext E85 (Fld.other W82 (Fld.ext E68 (Fld.other W65 (Fld.ext E53 (Fld.other W50 (Fld.ext E40 (Fld.other W37 (Fld.ext E29 (Fld.other W26 (Fld.ext E20 (Fld.other W17 (Fld.ext E13 (Fld.other W10 F7 (Or.inr (sn128 hw)))) (Or.inr (sn129 hw)))) (Or.inr (sn130 hw)))) (Or.inr (sn131 hw)))) (Or.inr (sn132 hw)))) (Or.inr (sn133 hw)))) (Or.inr (sn134 hw)))) (Or.inr (sn135 hw)))) (Or.inr (sn136 hw))).keep K9 (ninS (Nat.ne_of_lt lt15) (ninS (Nat.ne_of_lt lt22) (ninS (Nat.ne_of_lt lt31) (ninS (Nat.ne_of_lt lt42) (ninS (Nat.ne_of_lt lt55) (ninS (Nat.ne_of_lt lt70) (ninS (Nat.ne_of_lt lt87) (ninS (Nat.ne_of_lt lt106) nin0)))))))))) (Or.inr (sn137 hw))) (Or.inl (Nat.ne_of_lt lt143)))) (Or.inr (sn138 hw)))) (Or.inr (sn139 hw)))
  have F229 := ((F209.ext E188).other W212 (Ne.symm (Nat.ne_of_lt lt166)))
  have F230 := (A188.other W212 (Ne.symm (Nat.ne_of_lt lt190)))
  have F231 := ((F201.ext E188).other W212 (Ne.symm (Nat.ne_of_lt lt70)))
  have F232 := ((F203.ext E188).other W212 (Ne.symm (Nat.ne_of_lt lt87)))
  refine lpD_4_4 ⟨by decide, by decide, by decide, by decide⟩ a0 hw xW xG s9 (23 : Int64) (16 : Int64) a a68 a85 a141 a164 a188 lt70 lt99 lt150 lt183 lt210 ga (w2_4_4c_1 xW xG) g6 g7 (own_kb_4_4 xW xG) hp ⟨by omega, hl.2.1⟩ (xG.toInt.toNat * 1 - 1) 0 _ _ _ _ _ _ _ (by omega) (by rw [show (0 : Int32).toInt = 0 by decide]; omega) (by decide) B223 N212 (W212.size ▸ s188) F224 F216 F225 F212 F226 F227 F228 F218 F229 F230 F231 F232 (fun T8 h8 L8 t8 i8 b8 B8 N8 K8 => ?_)
  have F233 := ((Fld.other W212 (Fld.ext E188 (Fld.other W185 (Fld.ext E164 (Fld.other W160 (Fld.other W153 (Fld.ext E141 ((Fld.other W122 (Fld.ext E104 (Fld.other W101 (Fld.ext E85 (Fld.other W82 (Fld.ext E68 (Fld.other W65 (Fld.ext E53 (Fld.other W50 (Fld.ext E40 (Fld.other W37 (Fld.ext E29 (Fld.other W26 (Fld.ext E20 (Fld.other W17 (Fld.ext E13 (Fld.other W10 (Fld.other W7 F3 (Or.inr (sn140 hw))) (Or.inr (sn141 hw)))) (Or.inr (sn142 hw)))) (Or.inr (sn143 hw)))) (Or.inr (sn144 hw)))) (Or.inr (sn145 hw)))) (Or.inr (sn146 hw)))) (Or.inr (sn147 hw)))) (Or.inr (sn148 hw)))) (Or.inr (sn149 hw))).keep K9 (ninS (Nat.ne_of_lt lt15) (ninS (Nat.ne_of_lt lt22) (ninS (Nat.ne_of_lt lt31) (ninS (Nat.ne_of_lt lt42) (ninS (Nat.ne_of_lt lt55) (ninS (Nat.ne_of_lt lt70) (ninS (Nat.ne_of_lt lt87) (ninS (Nat.ne_of_lt lt106) nin0)))))))))) (Or.inr (sn150 hw))) (Or.inl (Nat.ne_of_lt lt143)))) (Or.inr (sn151 hw)))) (Or.inr (sn152 hw))).keep K8 (ninS (Nat.ne_of_lt lt166) (ninS (Nat.ne_of_lt lt190) nin0)))
  have F234 := (F228.keep K8 (ninS (Nat.ne_of_lt lt166) (ninS (Nat.ne_of_lt lt190) nin0)))
  have F235 := ((Fld.other W212 (Fld.ext E188 (Fld.other W185 (Fld.ext E164 (Fld.other W160 (Fld.other W153 (Fld.ext E141 ((Fld.other W122 (Fld.ext E104 (Fld.other W101 (Fld.ext E85 (Fld.other W82 (Fld.ext E68 (Fld.other W65 (Fld.ext E53 (Fld.other W50 (Fld.ext E40 (Fld.other W37 (Fld.ext E29 (Fld.other W26 (Fld.ext E20 (Fld.other W17 (Fld.ext E13 F10) (Or.inr (sn153 hw)))) (Or.inr (sn154 hw)))) (Or.inr (sn155 hw)))) (Or.inr (sn156 hw)))) (Or.inr (sn157 hw)))) (Or.inr (sn158 hw)))) (Or.inr (sn159 hw)))) (Or.inr (sn160 hw))).keep K9 (ninS (Nat.ne_of_lt lt15) (ninS (Nat.ne_of_lt lt22) (ninS (Nat.ne_of_lt lt31) (ninS (Nat.ne_of_lt lt42) (ninS (Nat.ne_of_lt lt55) (ninS (Nat.ne_of_lt lt70) (ninS (Nat.ne_of_lt lt87) (ninS (Nat.ne_of_lt lt106) nin0)))))))))) (Or.inr (sn161 hw))) (Or.inl (Nat.ne_of_lt lt143)))) (Or.inr (sn162 hw)))) (Or.inr (sn163 hw))).keep K8 (ninS (Nat.ne_of_lt lt166) (ninS (Nat.ne_of_lt lt190) nin0)))
  have F236 := ((Fld.other W212 (Fld.ext E188 (Fld.other W185 (Fld.ext E164 (Fld.other W160 (Fld.other W153 (Fld.ext E141 (F127.keep K9 (ninS (Nat.ne_of_lt lt15) (ninS (Nat.ne_of_lt lt22) (ninS (Nat.ne_of_lt lt31) (ninS (Nat.ne_of_lt lt42) (ninS (Nat.ne_of_lt lt55) (ninS (Nat.ne_of_lt lt70) (ninS (Nat.ne_of_lt lt87) (ninS (Nat.ne_of_lt lt106) nin0)))))))))) (Or.inr (sn164 hw))) (Or.inl (Nat.ne_of_lt lt143)))) (Or.inr (sn165 hw)))) (Or.inr (sn166 hw))).keep K8 (ninS (Nat.ne_of_lt lt166) (ninS (Nat.ne_of_lt lt190) nin0)))
  have F237 := (((F193.ext E188).other W212 (Ne.symm (Nat.ne_of_lt lt22))).keep K8 (ninS (Nat.ne_of_lt lt170) (ninS (Nat.ne_of_lt lt194) nin0)))
  have F238 := ((Fld.other W212 (Fld.ext E188 (Fld.other W185 (Fld.ext E164 (Fld.other W160 (Fld.other W153 (Fld.ext E141 (F128.keep K9 (ninS (Nat.ne_of_lt lt15) (ninS (Nat.ne_of_lt lt22) (ninS (Nat.ne_of_lt lt31) (ninS (Nat.ne_of_lt lt42) (ninS (Nat.ne_of_lt lt55) (ninS (Nat.ne_of_lt lt70) (ninS (Nat.ne_of_lt lt87) (ninS (Nat.ne_of_lt lt106) nin0)))))))))) (Or.inr (sn167 hw))) (Or.inl (Nat.ne_of_lt lt143)))) (Or.inr (sn168 hw)))) (Or.inr (sn169 hw))).keep K8 (ninS (Nat.ne_of_lt lt166) (ninS (Nat.ne_of_lt lt190) nin0)))
  have F239 := (((F195.ext E188).other W212 (Ne.symm (Nat.ne_of_lt lt31))).keep K8 (ninS (Nat.ne_of_lt lt172) (ninS (Nat.ne_of_lt lt196) nin0)))
  have F240 := ((Fld.other W212 (Fld.ext E188 (Fld.other W185 (Fld.ext E164 (Fld.other W160 (Fld.other W153 (Fld.ext E141 (F129.keep K9 (ninS (Nat.ne_of_lt lt15) (ninS (Nat.ne_of_lt lt22) (ninS (Nat.ne_of_lt lt31) (ninS (Nat.ne_of_lt lt42) (ninS (Nat.ne_of_lt lt55) (ninS (Nat.ne_of_lt lt70) (ninS (Nat.ne_of_lt lt87) (ninS (Nat.ne_of_lt lt106) nin0)))))))))) (Or.inr (sn170 hw))) (Or.inl (Nat.ne_of_lt lt143)))) (Or.inr (sn171 hw)))) (Or.inr (sn172 hw))).keep K8 (ninS (Nat.ne_of_lt lt166) (ninS (Nat.ne_of_lt lt190) nin0)))
  have F241 := (((F197.ext E188).other W212 (Ne.symm (Nat.ne_of_lt lt42))).keep K8 (ninS (Nat.ne_of_lt lt174) (ninS (Nat.ne_of_lt lt198) nin0)))
  have F242 := ((Fld.other W212 (Fld.ext E188 (Fld.other W185 (Fld.ext E164 (Fld.other W160 (Fld.other W153 (Fld.ext E141 (F130.keep K9 (ninS (Nat.ne_of_lt lt15) (ninS (Nat.ne_of_lt lt22) (ninS (Nat.ne_of_lt lt31) (ninS (Nat.ne_of_lt lt42) (ninS (Nat.ne_of_lt lt55) (ninS (Nat.ne_of_lt lt70) (ninS (Nat.ne_of_lt lt87) (ninS (Nat.ne_of_lt lt106) nin0)))))))))) (Or.inr (sn173 hw))) (Or.inl (Nat.ne_of_lt lt143)))) (Or.inr (sn174 hw)))) (Or.inr (sn175 hw))).keep K8 (ninS (Nat.ne_of_lt lt166) (ninS (Nat.ne_of_lt lt190) nin0)))
  have F243 := (((F199.ext E188).other W212 (Ne.symm (Nat.ne_of_lt lt55))).keep K8 (ninS (Nat.ne_of_lt lt176) (ninS (Nat.ne_of_lt lt200) nin0)))
  have F244 := ((Fld.other W212 (Fld.ext E188 (Fld.other W185 (Fld.ext E164 (Fld.other W160 (Fld.other W153 (Fld.ext E141 (F122.keep K9 (ninS (Nat.ne_of_lt lt15) (ninS (Nat.ne_of_lt lt22) (ninS (Nat.ne_of_lt lt31) (ninS (Nat.ne_of_lt lt42) (ninS (Nat.ne_of_lt lt55) (ninS (Nat.ne_of_lt lt70) (ninS (Nat.ne_of_lt lt87) (ninS (Nat.ne_of_lt lt106) nin0)))))))))) (Or.inr (sn176 hw))) (Or.inl (Nat.ne_of_lt lt143)))) (Or.inr (sn177 hw)))) (Or.inr (sn178 hw))).keep K8 (ninS (Nat.ne_of_lt lt166) (ninS (Nat.ne_of_lt lt190) nin0)))
  have F245 := (((F205.ext E188).other W212 (Ne.symm (Nat.ne_of_lt lt106))).keep K8 (ninS (Nat.ne_of_lt lt182) (ninS (Nat.ne_of_lt lt206) nin0)))
  have KT246 := (((KT211.ext E188).wr W212 (Or.inl (mi 0 rfl))).trans K8 (allS (Or.inr y164) (allS (Or.inr y188) all0)))
  exact o_retV B8 701 d2_701 hret hlk (by decide) (by decide) ⟨rfl, N8, KT246, F233, F234, F235, a20, a29, a40, a53, a104, F236, F237, F238, F239, F240, F241, F242, F243, F244, F245⟩
theorem own_hp : Hp 4 64 3 := by unfold Hp; decide
def own_ms : Nat → Int64 := UpJ ((3 : Int32).toInt.toNat * 4) (own_bmf 64 3 4 4)
theorem own_ij {x1 : Int32} (q : Nat) (h : 0 ≤ x1.toInt ∧ x1.toInt ≤ 2) (hq : q < 4) : ((x1 * 4) + Int32.ofNat q).toInt = (x1.toInt.toNat * 4 + q : Nat) ∧ x1.toInt.toNat * 4 + q < 12 := by
  have a := c_imul x1 4
  have b := rng32 (x1 * 4)
  have c := c_iadd (x1 * 4) (Int32.ofNat q)
  have d := rng32 (x1 * 4 + Int32.ofNat q)
  rw [show (4 : Int32).toInt = 4 by decide] at a
  rw [own_on q (by omega)] at c
  have e : (x1 * 4).toInt = x1.toInt * 4 := by omega
  omega
theorem d12_0 : decode prog_2_method_32_code 0 = .ok (.lconst 0, 1) := by decide +kernel
theorem d12_1 : decode prog_2_method_32_code 1 = .ok (.lstore 4, 2) := by decide +kernel
theorem d12_3 : decode prog_2_method_32_code 3 = .ok (.iconst 0, 1) := by decide +kernel
theorem d12_4 : decode prog_2_method_32_code 4 = .ok (.istore 6, 2) := by decide +kernel
theorem d12_6 : decode prog_2_method_32_code 6 = .ok (.iload_n 1, 1) := by decide +kernel
theorem d12_7 : decode prog_2_method_32_code 7 = .ok (.aload_n 0, 1) := by decide +kernel
theorem d12_8 : decode prog_2_method_32_code 8 = .ok (.getfield 56, 3) := by decide +kernel
theorem d12_11 : decode prog_2_method_32_code 11 = .ok (.imul, 1) := by decide +kernel
theorem d12_12 : decode prog_2_method_32_code 12 = .ok (.istore 7, 2) := by decide +kernel
theorem d12_14 : decode prog_2_method_32_code 14 = .ok (.iconst 0, 1) := by decide +kernel
theorem d12_15 : decode prog_2_method_32_code 15 = .ok (.istore 8, 2) := by decide +kernel
theorem d12_17 : decode prog_2_method_32_code 17 = .ok (.iload 6, 2) := by decide +kernel
theorem d12_19 : decode prog_2_method_32_code 19 = .ok (.aload_n 0, 1) := by decide +kernel
theorem d12_20 : decode prog_2_method_32_code 20 = .ok (.getfield 59, 3) := by decide +kernel
theorem d12_23 : decode prog_2_method_32_code 23 = .ok (.if_icmp .ge 38, 3) := by decide +kernel
theorem d12_26 : decode prog_2_method_32_code 26 = .ok (.lload_n 2, 1) := by decide +kernel
theorem d12_27 : decode prog_2_method_32_code 27 = .ok (.aload_n 0, 1) := by decide +kernel
theorem d12_28 : decode prog_2_method_32_code 28 = .ok (.getfield 85, 3) := by decide +kernel
theorem d12_31 : decode prog_2_method_32_code 31 = .ok (.iload 7, 2) := by decide +kernel
theorem d12_33 : decode prog_2_method_32_code 33 = .ok (.iload 8, 2) := by decide +kernel
theorem d12_35 : decode prog_2_method_32_code 35 = .ok (.iadd, 1) := by decide +kernel
theorem d12_36 : decode prog_2_method_32_code 36 = .ok (.laload, 1) := by decide +kernel
theorem d12_37 : decode prog_2_method_32_code 37 = .ok (.land, 1) := by decide +kernel
theorem d12_38 : decode prog_2_method_32_code 38 = .ok (.lconst 0, 1) := by decide +kernel
theorem d12_39 : decode prog_2_method_32_code 39 = .ok (.lcmp, 1) := by decide +kernel
theorem d12_40 : decode prog_2_method_32_code 40 = .ok (.ifCond .ne 15, 3) := by decide +kernel
theorem d12_43 : decode prog_2_method_32_code 43 = .ok (.lload 4, 2) := by decide +kernel
theorem d12_45 : decode prog_2_method_32_code 45 = .ok (.lconst 1, 1) := by decide +kernel
theorem d12_46 : decode prog_2_method_32_code 46 = .ok (.iload 8, 2) := by decide +kernel
theorem d12_48 : decode prog_2_method_32_code 48 = .ok (.lshl, 1) := by decide +kernel
theorem d12_49 : decode prog_2_method_32_code 49 = .ok (.lor, 1) := by decide +kernel
theorem d12_50 : decode prog_2_method_32_code 50 = .ok (.lstore 4, 2) := by decide +kernel
theorem d12_52 : decode prog_2_method_32_code 52 = .ok (.iinc 6 1, 3) := by decide +kernel
theorem d12_55 : decode prog_2_method_32_code 55 = .ok (.iinc 8 1, 3) := by decide +kernel
theorem d12_58 : decode prog_2_method_32_code 58 = .ok (.goto (-41), 3) := by decide +kernel
theorem d12_61 : decode prog_2_method_32_code 61 = .ok (.lload 4, 2) := by decide +kernel
theorem d12_63 : decode prog_2_method_32_code 63 = .ok (.lreturn, 1) := by decide +kernel
def own_ka (g : Nat → Int64) (base : Nat) (D : Int64) (K : Nat) : Nat → Nat → Nat → Int64 → Int64
  | 0, _, _, z => z
  | k + 1, b, n, z => if n < K then (if (D &&& g (base + b)) = 0 then own_ka g base D K k (b + 1) (n + 1) (z ||| ((1 : Int64) <<< ((Int32.ofNat b).toInt64 &&& 63))) else own_ka g base D K k (b + 1) n z) else z
def own_cn (g : Nat → Int64) (base : Nat) (D : Int64) : Nat → Nat → Nat
  | 0, _ => 0
  | k + 1, b => (if (D &&& g (base + b)) = 0 then 1 else 0) + own_cn g base D k (b + 1)
def q12s_1 (g : Nat → Int64) (y x0 : Int32) (x1 z : Int64) (b n : Nat) : Int64 := (z ||| ((1 : Int64) <<< ((Int32.ofNat b).toInt64 &&& 63)))
set_option maxRecDepth 65536 in
set_option maxHeartbeats 400000000 in
theorem lpA {p : Program} {l : Launch} {e : Env} {R : Room} {s : State} {m : MethodId} {args : Array Value} {below : List Frame} {meth : Method} {c : Code} {Z : State} {cells slots : Nat} {P : Outcome → State → Prop} {locs : List Loc} (a0 : Array Value) (hw : ∀ d ∈ tables_1, d.before a0 Z = true) (a yb : Addr) (g : Nat → Int64) (y x0 : Int32) (x1 : Int64) (K : Nat) (h : Heap) (G0 : Fld Z h a "com/example/hyperplane/hyperplane/Blocks" "keyBlocks" "I" (.int y)) (G1 : Fld Z h a "com/example/hyperplane/hyperplane/Blocks" "blockMasks" "[J" (.ref yb)) (A0 : AJ Z h yb 12 g) (hy : y.toInt = K ∧ K ≤ 4) (hx0 : 0 ≤ x0.toInt ∧ x0.toInt ≤ 2) : ∀ (k b n : Nat) (T : State) (z : Int64), b + k = 4 → n ≤ 4 → K ≤ n + own_cn g (x0.toInt.toNat * 4) x1 k b → Bx "com/example/hyperplane/hyperplane/Blocks" prog_2_method_32_code 9 Z p l e R s m args below meth c T h locs cells slots →
    (∀ (T' : State) (n' b' : Int32), Bx "com/example/hyperplane/hyperplane/Blocks" prog_2_method_32_code 9 Z p l e R s m args below meth c T' h locs cells slots → OG p.tables e below P (T'.setTop (mkF m 61 #[vr a, vi x0, vj x1, s2, vj (own_ka g (x0.toInt.toNat * 4) x1 K k b n z), s2, vi n', vi (x0 * (4 : Int32)), vi b'] []))) →
    OG p.tables e below P (T.setTop (mkF m 17 #[vr a, vi x0, vj x1, s2, vj z, s2, vi (Int32.ofNat n), vi (x0 * (4 : Int32)), vi (Int32.ofNat b)] [])) := by
  intro k
  induction k with
  | zero =>
    intro b n T z hb h4 hk B cont
    have hc : K ≤ n := hk
    refine o_iload B 17 19 (v := (Int32.ofNat n)) d12_17 rfl rfl ?_
    refine o_aloadN B 19 20 (v := (.ref a)) d12_19 rfl rfl rfl ?_
    obtain ⟨T1, B1, c1⟩ := o_getfield B 20 23 d12_20 rfl (host := "") (Or.inl (hw _ (mi 42 rfl))) Via.refl G0 (Ls := #[vr a, vi x0, vj x1, s2, vj z, s2, vi (Int32.ofNat n), vi (x0 * (4 : Int32)), vi (Int32.ofNat b)]) (rest := [(.int (Int32.ofNat n))])
    refine c1 ?_
    refine o_icY B1 23 61 d12_23 (XT.ii_ge_t (by rw [Int32.lt_iff_toInt_lt, own_on n (by omega), hy.1]; omega)) (by decide) (by decide) ?_
    exact cont _ _ _ B1
  | succ k ih =>
    intro b n T z hb h4 hk B cont
    by_cases hn : n < K
    · have hx := own_ij (x1 := x0) b hx0 (by omega)
      have hi := ix_of hx.1
      refine o_iload B 17 19 (v := (Int32.ofNat n)) d12_17 rfl rfl ?_
      refine o_aloadN B 19 20 (v := (.ref a)) d12_19 rfl rfl rfl ?_
      obtain ⟨T1, B1, c1⟩ := o_getfield B 20 23 d12_20 rfl (host := "") (Or.inl (hw _ (mi 42 rfl))) Via.refl G0 (Ls := #[vr a, vi x0, vj x1, s2, vj z, s2, vi (Int32.ofNat n), vi (x0 * (4 : Int32)), vi (Int32.ofNat b)]) (rest := [(.int (Int32.ofNat n))])
      refine c1 ?_
      refine o_icN B1 23 26 d12_23 rfl (XT.ii_ge_f (by rw [Int32.lt_iff_toInt_lt, own_on n (by omega), hy.1]; omega)) ?_
      refine o_lloadN B1 26 27 (v := x1) d12_26 rfl rfl ?_
      refine o_aloadN B1 27 28 (v := (.ref a)) d12_27 rfl rfl rfl ?_
      obtain ⟨T2, B2, c2⟩ := o_getfield B1 28 31 d12_28 rfl (host := "") (Or.inl (hw _ (mi 60 rfl))) Via.refl G1 (Ls := #[vr a, vi x0, vj x1, s2, vj z, s2, vi (Int32.ofNat n), vi (x0 * (4 : Int32)), vi (Int32.ofNat b)]) (rest := [(.long x1)])
      refine c2 ?_
      refine o_iload B2 31 33 (v := (x0 * (4 : Int32))) d12_31 rfl rfl ?_
      refine o_iload B2 33 35 (v := (Int32.ofNat b)) d12_33 rfl rfl ?_
      refine o_iadd B2 35 36 d12_35 rfl ?_
      refine o_laload B2 36 37 A0 (x0.toInt.toNat * 4 + b) (g (x0.toInt.toNat * 4 + b)) d12_36 rfl hi.1 hi.2 hx.2 rfl ?_
      refine o_land B2 37 38 d12_37 rfl ?_
      refine o_lconst B2 38 39 (0 : Int64) d12_38 rfl (by decide) ?_
      refine o_lcmp B2 39 40 d12_39 rfl ?_
      by_cases k1 : (x1 &&& (g (x0.toInt.toNat * 4 + b))) = (0 : Int64)
      · refine o_ifN B2 40 43 d12_40 rfl (XT.ll_ne_f k1) ?_
        refine o_lload B2 43 45 (v := z) d12_43 rfl rfl ?_
        refine o_lconst B2 45 46 (1 : Int64) d12_45 rfl (by decide) ?_
        refine o_iload B2 46 48 (v := (Int32.ofNat b)) d12_46 rfl rfl ?_
        refine o_lshl B2 48 49 d12_48 rfl ?_
        refine o_lor B2 49 50 d12_49 rfl ?_
        refine o_lstore B2 50 52 (l' := #[vr a, vi x0, vj x1, s2, vj (q12s_1 g y x0 x1 z b n), s2, vi (Int32.ofNat n), vi (x0 * (4 : Int32)), vi (Int32.ofNat b)]) d12_50 rfl rfl ?_
        refine o_iincC B2 52 55 (l' := #[vr a, vi x0, vj x1, s2, vj (q12s_1 g y x0 x1 z b n), s2, vi (Int32.ofNat (n + 1)), vi (x0 * (4 : Int32)), vi (Int32.ofNat b)]) (1 : Int32) (Int32.ofNat (n + 1)) d12_52 rfl (by decide) rfl (own_inc n) rfl ?_
        refine o_iincC B2 55 58 (l' := #[vr a, vi x0, vj x1, s2, vj (q12s_1 g y x0 x1 z b n), s2, vi (Int32.ofNat (n + 1)), vi (x0 * (4 : Int32)), vi (Int32.ofNat (b + 1))]) (1 : Int32) (Int32.ofNat (b + 1)) d12_55 rfl (by decide) rfl (own_inc b) rfl ?_
        refine o_goto B2 58 17 d12_58 (by decide) (by decide) ?_
        first | (rw [own_cn, if_pos k1] at hk; exact ih (b + 1) (n + 1) _ _ (by omega) (by omega) (by omega) B2 (fun T2 n2 b2 B2 => by have q := cont T2 n2 b2 B2; rw [own_ka, if_pos hn, if_pos k1] at q; exact q)) | (rw [own_cn, if_neg k1] at hk; exact ih (b + 1) n _ _ (by omega) (by omega) (by omega) B2 (fun T2 n2 b2 B2 => by have q := cont T2 n2 b2 B2; rw [own_ka, if_pos hn, if_neg k1] at q; exact q))
      · refine o_ifY B2 40 55 d12_40 (XT.ll_ne_t k1) (by decide) (by decide) ?_
        refine o_iincC B2 55 58 (l' := #[vr a, vi x0, vj x1, s2, vj z, s2, vi (Int32.ofNat n), vi (x0 * (4 : Int32)), vi (Int32.ofNat (b + 1))]) (1 : Int32) (Int32.ofNat (b + 1)) d12_55 rfl (by decide) rfl (own_inc b) rfl ?_
        refine o_goto B2 58 17 d12_58 (by decide) (by decide) ?_
        first | (rw [own_cn, if_pos k1] at hk; exact ih (b + 1) (n + 1) _ _ (by omega) (by omega) (by omega) B2 (fun T2 n2 b2 B2 => by have q := cont T2 n2 b2 B2; rw [own_ka, if_pos hn, if_pos k1] at q; exact q)) | (rw [own_cn, if_neg k1] at hk; exact ih (b + 1) n _ _ (by omega) (by omega) (by omega) B2 (fun T2 n2 b2 B2 => by have q := cont T2 n2 b2 B2; rw [own_ka, if_pos hn, if_neg k1] at q; exact q))
    · refine o_iload B 17 19 (v := (Int32.ofNat n)) d12_17 rfl rfl ?_
      refine o_aloadN B 19 20 (v := (.ref a)) d12_19 rfl rfl rfl ?_
      obtain ⟨T1, B1, c1⟩ := o_getfield B 20 23 d12_20 rfl (host := "") (Or.inl (hw _ (mi 42 rfl))) Via.refl G0 (Ls := #[vr a, vi x0, vj x1, s2, vj z, s2, vi (Int32.ofNat n), vi (x0 * (4 : Int32)), vi (Int32.ofNat b)]) (rest := [(.int (Int32.ofNat n))])
      refine c1 ?_
      refine o_icY B1 23 61 d12_23 (XT.ii_ge_t (by rw [Int32.lt_iff_toInt_lt, own_on n (by omega), hy.1]; omega)) (by decide) (by decide) ?_
      exact (by have q := cont _ (Int32.ofNat n) (Int32.ofNat b) B1; rw [own_ka, if_neg hn] at q; exact q)
theorem pl12 : plainFor (⟨"com/example/hyperplane/hyperplane/Blocks", "keyAgreeing", "(IJ)J"⟩ : MethodName) = true := by first | exact plainFor_of_name (by first | (simp [plainName, overriddenIn]; done) | decide +kernel) | decide +kernel
def f12 (g : Nat → Int64) (y x0 : Int32) (x1 : Int64) : Int64 := (own_ka g (x0.toInt.toNat * 4) x1 y.toInt.toNat 4 0 0 0)
set_option maxRecDepth 65536 in
set_option maxHeartbeats 40000000 in
theorem rm12 (l : Launch) (Z : State) (a0 : Array Value) (hw : ∀ d ∈ tables_1, d.before a0 Z = true) (a : Addr) (g : Nat → Int64) (y : Int32) (yb : Addr) (x0 : Int32) (x1 : Int64) (h0 : Heap) (G0 : Fld Z h0 a "com/example/hyperplane/hyperplane/Blocks" "blocksPerGroup" "I" (.int (4 : Int32))) (G1 : Fld Z h0 a "com/example/hyperplane/hyperplane/Blocks" "keyBlocks" "I" (.int y)) (G2 : Fld Z h0 a "com/example/hyperplane/hyperplane/Blocks" "blockMasks" "[J" (.ref yb)) (A0 : AJ Z h0 yb 12 g) (hx : 0 ≤ x0.toInt ∧ x0.toInt ≤ 2) (hy : 1 ≤ y.toInt ∧ y.toInt ≤ 4) (hag : y.toInt.toNat ≤ 0 + own_cn g (x0.toInt.toNat * 4) x1 4 0) :
    Met l Z (⟨"com/example/hyperplane/hyperplane/Blocks", "keyAgreeing", "(IJ)J"⟩ : MethodName) prog_2_method_32_code 9 (some .long) ({ frames := 0, cells := 0, slots := 0, locals := 0 } : Room) #[(.ref a), (.int x0), (.long x1)] h0 (Pu (some (.long (f12 g y x0 x1))) h0) := by
  refine enter pl12 #[vr a, vi x0, vj x1, s2, us, us, us, us, us] rfl ?_
  intro p e s m below meth c T B hret hlk hnm
  · refine o_lconst B 0 1 (0 : Int64) d12_0 rfl (by decide) ?_
    refine o_lstore B 1 3 (l' := #[vr a, vi x0, vj x1, s2, vj 0, s2, us, us, us]) d12_1 rfl rfl ?_
    refine o_iconst B 3 4 (0 : Int32) d12_3 rfl (by decide) ?_
    refine o_istore B 4 6 (l' := #[vr a, vi x0, vj x1, s2, vj 0, s2, vi 0, us, us]) d12_4 rfl rfl ?_
    refine o_iloadN B 6 7 (v := x0) d12_6 rfl rfl ?_
    refine o_aloadN B 7 8 (v := (.ref a)) d12_7 rfl rfl rfl ?_
    obtain ⟨T1, B1, c1⟩ := o_getfield B 8 11 d12_8 rfl (host := "") (Or.inl (hw _ (mi 40 rfl))) Via.refl G0 (Ls := #[vr a, vi x0, vj x1, s2, vj 0, s2, vi 0, us, us]) (rest := [(.int x0)])
    refine c1 ?_
    refine o_imul B1 11 12 d12_11 rfl ?_
    refine o_istore B1 12 14 (l' := #[vr a, vi x0, vj x1, s2, vj 0, s2, vi 0, vi (x0 * (4 : Int32)), us]) d12_12 rfl rfl ?_
    refine o_iconst B1 14 15 (0 : Int32) d12_14 rfl (by decide) ?_
    refine o_istore B1 15 17 (l' := #[vr a, vi x0, vj x1, s2, vj 0, s2, vi 0, vi (x0 * (4 : Int32)), vi 0]) d12_15 rfl rfl ?_
    refine lpA a0 hw a yb g y x0 x1 y.toInt.toNat h0 G1 G2 A0 (by omega) hx 4 0 0 _ _ rfl (by decide) hag B1 (fun T9 n9 b9 B9 => ?_)
    refine o_lload B9 61 63 (v := (own_ka g (x0.toInt.toNat * 4) x1 y.toInt.toNat 4 0 0 0)) d12_61 rfl rfl ?_
    refine o_retL B9 63 d12_63 hret hlk (by decide) (by decide) ⟨(congrArg (fun z => some (Value.long z)) (show f12 g y x0 x1 = (own_ka g (x0.toInt.toNat * 4) x1 y.toInt.toNat 4 0 0 0) from rfl)).symm, rfl, rfl⟩
theorem pl0 : plainFor x = true := by first | exact plainFor_of_name (by first | (simp [plainName, overriddenIn]; done) | decide +kernel) | decide +kernel
theorem pd__IIIII_V : parseMethodDescriptor "(IIIII)V" = some ⟨[.int, .int, .int, .int, .int], none⟩ := by decide +kernel
theorem pd__IJ_J : parseMethodDescriptor "(IJ)J" = some ⟨[.int, .long], some .long⟩ := by decide +kernel
def q0_1 (x0 x1 x2 : Int32) (x3 : Int64) : Int32 := ((x0 &&& (2147483647 : Int32)) % (3 : Int32))
def q0_2 (x0 x1 x2 : Int32) (x3 : Int64) : Int32 := ((x1 &&& (3 : Int32)) + (1 : Int32))
def q0_3 (x0 x1 x2 : Int32) (x3 : Int64) : Int64 := (if (x2 &&& (1 : Int32)) = 0 then (0 : Int64) else (f1 (q0_1 x0 x1 x2 x3) (0 : Int32)))
def q0_4 (x0 x1 x2 : Int32) (x3 : Int64) : Int64 := (if (x2 &&& (2 : Int32)) = 0 then (0 : Int64) else (f1 (q0_1 x0 x1 x2 x3) (1 : Int32)))
def q0_5 (x0 x1 x2 : Int32) (x3 : Int64) : Int64 := (if (x2 &&& (4 : Int32)) = 0 then (0 : Int64) else (f1 (q0_1 x0 x1 x2 x3) (2 : Int32)))
def q0_6 (x0 x1 x2 : Int32) (x3 : Int64) : Int64 := (if (x2 &&& (8 : Int32)) = 0 then (0 : Int64) else (f1 (q0_1 x0 x1 x2 x3) (3 : Int32)))
def q0_7 (x0 x1 x2 : Int32) (x3 : Int64) : Int64 := ((((q0_3 x0 x1 x2 x3) ||| (q0_4 x0 x1 x2 x3)) ||| (q0_5 x0 x1 x2 x3)) ||| (q0_6 x0 x1 x2 x3))
def q0_8 (x0 x1 x2 : Int32) (x3 : Int64) : Int32 := (if ((x3 &&& (q0_7 x0 x1 x2 x3)) &&& (f1 (q0_1 x0 x1 x2 x3) (0 : Int32))) = (0 : Int64) then (1 : Int32) else 0)
def q0_9 (x0 x1 x2 : Int32) (x3 : Int64) : Int32 := (if ((x3 &&& (q0_7 x0 x1 x2 x3)) &&& (f1 (q0_1 x0 x1 x2 x3) (1 : Int32))) = (0 : Int64) then (1 : Int32) else 0)
def q0_10 (x0 x1 x2 : Int32) (x3 : Int64) : Int32 := (if ((x3 &&& (q0_7 x0 x1 x2 x3)) &&& (f1 (q0_1 x0 x1 x2 x3) (2 : Int32))) = (0 : Int64) then (1 : Int32) else 0)
def q0_11 (x0 x1 x2 : Int32) (x3 : Int64) : Int32 := (if ((x3 &&& (q0_7 x0 x1 x2 x3)) &&& (f1 (q0_1 x0 x1 x2 x3) (3 : Int32))) = (0 : Int64) then (1 : Int32) else 0)
def q0_12 (x0 x1 x2 : Int32) (x3 : Int64) : Int32 := ((((q0_8 x0 x1 x2 x3) + (q0_9 x0 x1 x2 x3)) + (q0_10 x0 x1 x2 x3)) + (q0_11 x0 x1 x2 x3))
def q0_13 (x0 x1 x2 : Int32) (x3 : Int64) : Int64 := (if (0 : Int32) < (q0_2 x0 x1 x2 x3) then (1 : Int64) else (0 : Int64))
def q0_14 (x0 x1 x2 : Int32) (x3 : Int64) : Int32 := (if (0 : Int32) < (q0_2 x0 x1 x2 x3) then (1 : Int32) else 0)
def q0_15 (x0 x1 x2 : Int32) (x3 : Int64) : Int64 := (if ((x3 &&& (q0_7 x0 x1 x2 x3)) &&& (f1 (q0_1 x0 x1 x2 x3) (0 : Int32))) = (0 : Int64) then (q0_13 x0 x1 x2 x3) else (0 : Int64))
def q0_16 (x0 x1 x2 : Int32) (x3 : Int64) : Int32 := (if ((x3 &&& (q0_7 x0 x1 x2 x3)) &&& (f1 (q0_1 x0 x1 x2 x3) (0 : Int32))) = (0 : Int64) then (q0_14 x0 x1 x2 x3) else (0 : Int32))
def q0_17 (x0 x1 x2 : Int32) (x3 : Int64) : Int64 := (if (q0_16 x0 x1 x2 x3) < (q0_2 x0 x1 x2 x3) then ((q0_15 x0 x1 x2 x3) ||| (2 : Int64)) else (q0_15 x0 x1 x2 x3))
def q0_18 (x0 x1 x2 : Int32) (x3 : Int64) : Int32 := (if (q0_16 x0 x1 x2 x3) < (q0_2 x0 x1 x2 x3) then ((q0_16 x0 x1 x2 x3) + (1 : Int32)) else (q0_16 x0 x1 x2 x3))
def q0_19 (x0 x1 x2 : Int32) (x3 : Int64) : Int64 := (if ((x3 &&& (q0_7 x0 x1 x2 x3)) &&& (f1 (q0_1 x0 x1 x2 x3) (1 : Int32))) = (0 : Int64) then (q0_17 x0 x1 x2 x3) else (q0_15 x0 x1 x2 x3))
def q0_20 (x0 x1 x2 : Int32) (x3 : Int64) : Int32 := (if ((x3 &&& (q0_7 x0 x1 x2 x3)) &&& (f1 (q0_1 x0 x1 x2 x3) (1 : Int32))) = (0 : Int64) then (q0_18 x0 x1 x2 x3) else (q0_16 x0 x1 x2 x3))
def q0_21 (x0 x1 x2 : Int32) (x3 : Int64) : Int64 := (if (q0_20 x0 x1 x2 x3) < (q0_2 x0 x1 x2 x3) then ((q0_19 x0 x1 x2 x3) ||| (4 : Int64)) else (q0_19 x0 x1 x2 x3))
def q0_22 (x0 x1 x2 : Int32) (x3 : Int64) : Int32 := (if (q0_20 x0 x1 x2 x3) < (q0_2 x0 x1 x2 x3) then ((q0_20 x0 x1 x2 x3) + (1 : Int32)) else (q0_20 x0 x1 x2 x3))
def q0_23 (x0 x1 x2 : Int32) (x3 : Int64) : Int64 := (if ((x3 &&& (q0_7 x0 x1 x2 x3)) &&& (f1 (q0_1 x0 x1 x2 x3) (2 : Int32))) = (0 : Int64) then (q0_21 x0 x1 x2 x3) else (q0_19 x0 x1 x2 x3))
def q0_24 (x0 x1 x2 : Int32) (x3 : Int64) : Int32 := (if ((x3 &&& (q0_7 x0 x1 x2 x3)) &&& (f1 (q0_1 x0 x1 x2 x3) (2 : Int32))) = (0 : Int64) then (q0_22 x0 x1 x2 x3) else (q0_20 x0 x1 x2 x3))
def q0_25 (x0 x1 x2 : Int32) (x3 : Int64) : Int64 := (if (q0_24 x0 x1 x2 x3) < (q0_2 x0 x1 x2 x3) then ((q0_23 x0 x1 x2 x3) ||| (8 : Int64)) else (q0_23 x0 x1 x2 x3))
def q0_26 (x0 x1 x2 : Int32) (x3 : Int64) : Int32 := (if (q0_24 x0 x1 x2 x3) < (q0_2 x0 x1 x2 x3) then ((q0_24 x0 x1 x2 x3) + (1 : Int32)) else (q0_24 x0 x1 x2 x3))
def q0_27 (x0 x1 x2 : Int32) (x3 : Int64) : Int64 := (if ((x3 &&& (q0_7 x0 x1 x2 x3)) &&& (f1 (q0_1 x0 x1 x2 x3) (3 : Int32))) = (0 : Int64) then (q0_25 x0 x1 x2 x3) else (q0_23 x0 x1 x2 x3))
def q0_28 (x0 x1 x2 : Int32) (x3 : Int64) : Int32 := (if ((x3 &&& (q0_7 x0 x1 x2 x3)) &&& (f1 (q0_1 x0 x1 x2 x3) (3 : Int32))) = (0 : Int64) then (q0_26 x0 x1 x2 x3) else (q0_24 x0 x1 x2 x3))
def q0_29 (x0 x1 x2 : Int32) (x3 : Int64) : Int64 := (f12 own_ms (1 : Int32) (q0_1 x0 x1 x2 x3) (x3 &&& (q0_7 x0 x1 x2 x3)))
def q0_30 (x0 x1 x2 : Int32) (x3 : Int64) : Int64 := (f12 own_ms (2 : Int32) (q0_1 x0 x1 x2 x3) (x3 &&& (q0_7 x0 x1 x2 x3)))
def q0_31 (x0 x1 x2 : Int32) (x3 : Int64) : Int64 := (f12 own_ms (3 : Int32) (q0_1 x0 x1 x2 x3) (x3 &&& (q0_7 x0 x1 x2 x3)))
def q0_32 (x0 x1 x2 : Int32) (x3 : Int64) : Int64 := (f12 own_ms (4 : Int32) (q0_1 x0 x1 x2 x3) (x3 &&& (q0_7 x0 x1 x2 x3)))
def f0 (x0 x1 x2 : Int32) (x3 : Int64) : Int32 := (if (q0_12 x0 x1 x2 x3) < (q0_2 x0 x1 x2 x3) then (1 : Int32) else (if (q0_2 x0 x1 x2 x3) = (1 : Int32) then (if (q0_29 x0 x1 x2 x3) = (q0_27 x0 x1 x2 x3) then (1 : Int32) else (0 : Int32)) else (if (q0_2 x0 x1 x2 x3) = (2 : Int32) then (if (q0_30 x0 x1 x2 x3) = (q0_27 x0 x1 x2 x3) then (1 : Int32) else (0 : Int32)) else (if (q0_2 x0 x1 x2 x3) = (3 : Int32) then (if (q0_31 x0 x1 x2 x3) = (q0_27 x0 x1 x2 x3) then (1 : Int32) else (0 : Int32)) else (if (q0_32 x0 x1 x2 x3) = (q0_27 x0 x1 x2 x3) then (1 : Int32) else (0 : Int32))))))
theorem own_gr (x0 x1 x2 : Int32) (x3 : Int64) : 0 ≤ (q0_1 x0 x1 x2 x3).toInt ∧ (q0_1 x0 x1 x2 x3).toInt ≤ 2 := by
  have m := c_mask x0 2147483647 31 (by decide) (by decide)
  have r := c_irem (x0 &&& 2147483647) 3 3 (by decide)
  have e : (q0_1 x0 x1 x2 x3).toInt = ((x0 &&& 2147483647) % 3).toInt := rfl
  omega
theorem own_kb (x0 x1 x2 : Int32) (x3 : Int64) (h1 : ¬ q0_2 x0 x1 x2 x3 = 1) (h2 : ¬ q0_2 x0 x1 x2 x3 = 2) (h3 : ¬ q0_2 x0 x1 x2 x3 = 3) : q0_2 x0 x1 x2 x3 = 4 := by
  have m := c_mask x1 3 2 (by decide) (by decide)
  have a := c_iadd (x1 &&& 3) 1
  have ra := rng32 ((x1 &&& 3) + 1)
  have e : q0_2 x0 x1 x2 x3 = (x1 &&& 3) + 1 := rfl
  rw [← e] at a ra
  rw [show (1 : Int32).toInt = 1 by decide] at a
  rw [← Int32.toInt_inj] at h1 h2 h3 ⊢
  rw [show (1 : Int32).toInt = 1 by decide] at h1
  rw [show (2 : Int32).toInt = 2 by decide] at h2
  rw [show (3 : Int32).toInt = 3 by decide] at h3
  rw [show (4 : Int32).toInt = 4 by decide]
  omega
theorem own_g3 (x0 x1 x2 : Int32) (x3 : Int64) : q0_1 x0 x1 x2 x3 = 0 ∨ q0_1 x0 x1 x2 x3 = 1 ∨ q0_1 x0 x1 x2 x3 = 2 := by
  have g := own_gr x0 x1 x2 x3
  rw [← Int32.toInt_inj, ← Int32.toInt_inj, ← Int32.toInt_inj, Int32.toInt_zero, show (1 : Int32).toInt = 1 by decide, show (2 : Int32).toInt = 2 by decide]
  omega
theorem own_ma : ∀ q : Fin 4, own_ms ((0 : Int32).toInt.toNat * 4 + q.val) = f1 0 (Int32.ofNat q.val) := by decide +kernel
theorem own_mb : ∀ q : Fin 4, own_ms ((1 : Int32).toInt.toNat * 4 + q.val) = f1 1 (Int32.ofNat q.val) := by decide +kernel
theorem own_mc : ∀ q : Fin 4, own_ms ((2 : Int32).toInt.toNat * 4 + q.val) = f1 2 (Int32.ofNat q.val) := by decide +kernel
theorem own_msf (x0 x1 x2 : Int32) (x3 : Int64) (q : Fin 4) : own_ms ((q0_1 x0 x1 x2 x3).toInt.toNat * 4 + q.val) = f1 (q0_1 x0 x1 x2 x3) (Int32.ofNat q.val) := by
  rcases own_g3 x0 x1 x2 x3 with e | e | e
  · rw [e]; exact own_ma q
  · rw [e]; exact own_mb q
  · rw [e]; exact own_mc q
theorem own_k4 (k : Int32) (h : 1 ≤ k.toInt ∧ k.toInt ≤ 4) : k = 1 ∨ k = 2 ∨ k = 3 ∨ k = 4 := by
  rw [← Int32.toInt_inj, ← Int32.toInt_inj, ← Int32.toInt_inj, ← Int32.toInt_inj, show (1 : Int32).toInt = 1 by decide, show (2 : Int32).toInt = 2 by decide, show (3 : Int32).toInt = 3 by decide, show (4 : Int32).toInt = 4 by decide]
  omega
theorem own_ag (x0 x1 x2 : Int32) (x3 : Int64) (k : Int32) (hk : 1 ≤ k.toInt ∧ k.toInt ≤ 4) (e : q0_2 x0 x1 x2 x3 = k) (h : ¬ q0_12 x0 x1 x2 x3 < q0_2 x0 x1 x2 x3) : k.toInt.toNat ≤ 0 + own_cn own_ms ((q0_1 x0 x1 x2 x3).toInt.toNat * 4) (x3 &&& (q0_7 x0 x1 x2 x3)) 4 0 := by
  have m0 : own_ms ((q0_1 x0 x1 x2 x3).toInt.toNat * 4 + 0) = f1 (q0_1 x0 x1 x2 x3) (0 : Int32) := own_msf x0 x1 x2 x3 0
  have m1 : own_ms ((q0_1 x0 x1 x2 x3).toInt.toNat * 4 + 1) = f1 (q0_1 x0 x1 x2 x3) (1 : Int32) := own_msf x0 x1 x2 x3 1
  have m2 : own_ms ((q0_1 x0 x1 x2 x3).toInt.toNat * 4 + 2) = f1 (q0_1 x0 x1 x2 x3) (2 : Int32) := own_msf x0 x1 x2 x3 2
  have m3 : own_ms ((q0_1 x0 x1 x2 x3).toInt.toNat * 4 + 3) = f1 (q0_1 x0 x1 x2 x3) (3 : Int32) := own_msf x0 x1 x2 x3 3
  have hc : own_cn own_ms ((q0_1 x0 x1 x2 x3).toInt.toNat * 4) (x3 &&& (q0_7 x0 x1 x2 x3)) 4 0 = (if ((x3 &&& (q0_7 x0 x1 x2 x3)) &&& (f1 (q0_1 x0 x1 x2 x3) (0 : Int32))) = (0 : Int64) then 1 else 0) + ((if ((x3 &&& (q0_7 x0 x1 x2 x3)) &&& (f1 (q0_1 x0 x1 x2 x3) (1 : Int32))) = (0 : Int64) then 1 else 0) + ((if ((x3 &&& (q0_7 x0 x1 x2 x3)) &&& (f1 (q0_1 x0 x1 x2 x3) (2 : Int32))) = (0 : Int64) then 1 else 0) + ((if ((x3 &&& (q0_7 x0 x1 x2 x3)) &&& (f1 (q0_1 x0 x1 x2 x3) (3 : Int32))) = (0 : Int64) then 1 else 0) + 0))) := by
    rw [← m0, ← m1, ← m2, ← m3]
    rfl
  rw [hc]
  rw [e] at h
  simp only [q0_12, q0_8, q0_9, q0_10, q0_11] at h
  have hk4 := own_k4 k hk
  clear hc e hk
  by_cases a0 : ((x3 &&& (q0_7 x0 x1 x2 x3)) &&& (f1 (q0_1 x0 x1 x2 x3) (0 : Int32))) = (0 : Int64)
  · by_cases a1 : ((x3 &&& (q0_7 x0 x1 x2 x3)) &&& (f1 (q0_1 x0 x1 x2 x3) (1 : Int32))) = (0 : Int64)
    · by_cases a2 : ((x3 &&& (q0_7 x0 x1 x2 x3)) &&& (f1 (q0_1 x0 x1 x2 x3) (2 : Int32))) = (0 : Int64)
      · by_cases a3 : ((x3 &&& (q0_7 x0 x1 x2 x3)) &&& (f1 (q0_1 x0 x1 x2 x3) (3 : Int32))) = (0 : Int64)
        · simp only [if_pos a0, if_pos a1, if_pos a2, if_pos a3] at h ⊢
          clear a0 a1 a2 a3 m0 m1 m2 m3
          rcases hk4 with rfl | rfl | rfl | rfl <;> revert h <;> decide
        · simp only [if_pos a0, if_pos a1, if_pos a2, if_neg a3] at h ⊢
          clear a0 a1 a2 a3 m0 m1 m2 m3
          rcases hk4 with rfl | rfl | rfl | rfl <;> revert h <;> decide
      · by_cases a3 : ((x3 &&& (q0_7 x0 x1 x2 x3)) &&& (f1 (q0_1 x0 x1 x2 x3) (3 : Int32))) = (0 : Int64)
        · simp only [if_pos a0, if_pos a1, if_neg a2, if_pos a3] at h ⊢
          clear a0 a1 a2 a3 m0 m1 m2 m3
          rcases hk4 with rfl | rfl | rfl | rfl <;> revert h <;> decide
        · simp only [if_pos a0, if_pos a1, if_neg a2, if_neg a3] at h ⊢
          clear a0 a1 a2 a3 m0 m1 m2 m3
          rcases hk4 with rfl | rfl | rfl | rfl <;> revert h <;> decide
    · by_cases a2 : ((x3 &&& (q0_7 x0 x1 x2 x3)) &&& (f1 (q0_1 x0 x1 x2 x3) (2 : Int32))) = (0 : Int64)
      · by_cases a3 : ((x3 &&& (q0_7 x0 x1 x2 x3)) &&& (f1 (q0_1 x0 x1 x2 x3) (3 : Int32))) = (0 : Int64)
        · simp only [if_pos a0, if_neg a1, if_pos a2, if_pos a3] at h ⊢
          clear a0 a1 a2 a3 m0 m1 m2 m3
          rcases hk4 with rfl | rfl | rfl | rfl <;> revert h <;> decide
        · simp only [if_pos a0, if_neg a1, if_pos a2, if_neg a3] at h ⊢
          clear a0 a1 a2 a3 m0 m1 m2 m3
          rcases hk4 with rfl | rfl | rfl | rfl <;> revert h <;> decide
      · by_cases a3 : ((x3 &&& (q0_7 x0 x1 x2 x3)) &&& (f1 (q0_1 x0 x1 x2 x3) (3 : Int32))) = (0 : Int64)
        · simp only [if_pos a0, if_neg a1, if_neg a2, if_pos a3] at h ⊢
          clear a0 a1 a2 a3 m0 m1 m2 m3
          rcases hk4 with rfl | rfl | rfl | rfl <;> revert h <;> decide
        · simp only [if_pos a0, if_neg a1, if_neg a2, if_neg a3] at h ⊢
          clear a0 a1 a2 a3 m0 m1 m2 m3
          rcases hk4 with rfl | rfl | rfl | rfl <;> revert h <;> decide
  · by_cases a1 : ((x3 &&& (q0_7 x0 x1 x2 x3)) &&& (f1 (q0_1 x0 x1 x2 x3) (1 : Int32))) = (0 : Int64)
    · by_cases a2 : ((x3 &&& (q0_7 x0 x1 x2 x3)) &&& (f1 (q0_1 x0 x1 x2 x3) (2 : Int32))) = (0 : Int64)
      · by_cases a3 : ((x3 &&& (q0_7 x0 x1 x2 x3)) &&& (f1 (q0_1 x0 x1 x2 x3) (3 : Int32))) = (0 : Int64)
        · simp only [if_neg a0, if_pos a1, if_pos a2, if_pos a3] at h ⊢
          clear a0 a1 a2 a3 m0 m1 m2 m3
          rcases hk4 with rfl | rfl | rfl | rfl <;> revert h <;> decide
        · simp only [if_neg a0, if_pos a1, if_pos a2, if_neg a3] at h ⊢
          clear a0 a1 a2 a3 m0 m1 m2 m3
          rcases hk4 with rfl | rfl | rfl | rfl <;> revert h <;> decide
      · by_cases a3 : ((x3 &&& (q0_7 x0 x1 x2 x3)) &&& (f1 (q0_1 x0 x1 x2 x3) (3 : Int32))) = (0 : Int64)
        · simp only [if_neg a0, if_pos a1, if_neg a2, if_pos a3] at h ⊢
          clear a0 a1 a2 a3 m0 m1 m2 m3
          rcases hk4 with rfl | rfl | rfl | rfl <;> revert h <;> decide
        · simp only [if_neg a0, if_pos a1, if_neg a2, if_neg a3] at h ⊢
          clear a0 a1 a2 a3 m0 m1 m2 m3
          rcases hk4 with rfl | rfl | rfl | rfl <;> revert h <;> decide
    · by_cases a2 : ((x3 &&& (q0_7 x0 x1 x2 x3)) &&& (f1 (q0_1 x0 x1 x2 x3) (2 : Int32))) = (0 : Int64)
      · by_cases a3 : ((x3 &&& (q0_7 x0 x1 x2 x3)) &&& (f1 (q0_1 x0 x1 x2 x3) (3 : Int32))) = (0 : Int64)
        · simp only [if_neg a0, if_neg a1, if_pos a2, if_pos a3] at h ⊢
          clear a0 a1 a2 a3 m0 m1 m2 m3
          rcases hk4 with rfl | rfl | rfl | rfl <;> revert h <;> decide
        · simp only [if_neg a0, if_neg a1, if_pos a2, if_neg a3] at h ⊢
          clear a0 a1 a2 a3 m0 m1 m2 m3
          rcases hk4 with rfl | rfl | rfl | rfl <;> revert h <;> decide
      · by_cases a3 : ((x3 &&& (q0_7 x0 x1 x2 x3)) &&& (f1 (q0_1 x0 x1 x2 x3) (3 : Int32))) = (0 : Int64)
        · simp only [if_neg a0, if_neg a1, if_neg a2, if_pos a3] at h ⊢
          clear a0 a1 a2 a3 m0 m1 m2 m3
          rcases hk4 with rfl | rfl | rfl | rfl <;> revert h <;> decide
        · simp only [if_neg a0, if_neg a1, if_neg a2, if_neg a3] at h ⊢
          clear a0 a1 a2 a3 m0 m1 m2 m3
          rcases hk4 with rfl | rfl | rfl | rfl <;> revert h <;> decide

set_option maxRecDepth 65536 in
set_option maxHeartbeats 40000000 in
theorem rm0 (l : Launch) (Z : State) (a0 : Array Value) (hw : ∀ d ∈ tables_1, d.before a0 Z = true) (ws : List Jvm.Cond) (x0 x1 x2 : Int32) (x3 : Int64) (h0 : Heap) (n0 : Nat) (hz : n0 ≤ h0.size) :
    MetFree l x (head1 (Jvm.Cond.code x code maxLocals ret :: ws) room_1) (fun a U => a = #[(.int x0), (.int x1), (.int x2), (.long x3)] ∧ Z.Warmed39 U.vm ∧ U.heap = h0) (fun _ _ _ _ _ => True) (fun _ U o U' => ∃ v L, o = .returned v ∧ Lw n0 (some (.int (f0 x0 x1 x2 x3))) v U'.heap L ∧ FrameEnd U o U' L room_1.cells room_1.slots) := by
  refine enter (y := x) (bs := code) (ml := maxLocals) (ret := ret) (Q := Lw n0 (some (.int (f0 x0 x1 x2 x3)))) pl0 #[vi x0, vi x1, vi x2, vj x3, s2, us, us, us, us, us, us, us, us, us, us, us, us, us, us, us, us, us, us, us, us, us, us, us] rfl ?_
  intro p e s m below meth c T B hret hlk hnm
  have N0 := Fr.nil n0
  refine o_iloadN B 0 1 (v := x0) at_0 rfl rfl ?_
  refine o_ldc B 1 3 at_1 rfl (hw _ (mi 0 rfl)) ?_
  refine o_iand B 3 4 at_3 rfl ?_
  refine o_iconst B 4 5 (3 : Int32) at_4 rfl (by decide) ?_
  refine o_irem B 5 6 at_5 rfl (by decide) ?_
  refine o_istore B 6 8 (l' := #[vi x0, vi x1, vi x2, vj x3, s2, vi (q0_1 x0 x1 x2 x3), us, us, us, us, us, us, us, us, us, us, us, us, us, us, us, us, us, us, us, us, us, us]) at_6 rfl rfl ?_
  refine o_iloadN B 8 9 (v := x1) at_8 rfl rfl ?_
  refine o_iconst B 9 10 (3 : Int32) at_9 rfl (by decide) ?_
  refine o_iand B 10 11 at_10 rfl ?_
  refine o_iconst B 11 12 (1 : Int32) at_11 rfl (by decide) ?_
  refine o_iadd B 12 13 at_12 rfl ?_
  refine o_istore B 13 15 (l' := #[vi x0, vi x1, vi x2, vj x3, s2, vi (q0_1 x0 x1 x2 x3), vi (q0_2 x0 x1 x2 x3), us, us, us, us, us, us, us, us, us, us, us, us, us, us, us, us, us, us, us, us, us]) at_13 rfl rfl ?_
  refine o_iload B 15 17 (v := (q0_1 x0 x1 x2 x3)) at_15 rfl rfl ?_
  refine o_iconst B 17 18 (0 : Int32) at_17 rfl (by decide) ?_
  obtain ⟨T1, B1, c1⟩ := o_callP B 18 21 at_18 rfl (hw _ (mi 1 rfl)) (hw _ (mi 2 rfl)) (hw _ (mi 3 rfl)) (hw _ (mi 4 rfl)) (by decide) (rm1 l Z a0 hw (q0_1 x0 x1 x2 x3) (0 : Int32) h0 ) 0 [(.int (q0_1 x0 x1 x2 x3)), (.int (0 : Int32))] [] pd__II_J rfl rfl (st := [(.int (0 : Int32)), (.int (q0_1 x0 x1 x2 x3))]) rfl (Ls := #[vi x0, vi x1, vi x2, vj x3, s2, vi (q0_1 x0 x1 x2 x3), vi (q0_2 x0 x1 x2 x3), us, us, us, us, us, us, us, us, us, us, us, us, us, us, us, us, us, us, us, us, us]) rfl (Nat.le_of_eq rfl) (by decide) (by decide) (by decide) (by decide)
  refine c1 ?_
  refine o_lstore B1 21 23 (l' := #[vi x0, vi x1, vi x2, vj x3, s2, vi (q0_1 x0 x1 x2 x3), vi (q0_2 x0 x1 x2 x3), vj (f1 (q0_1 x0 x1 x2 x3) (0 : Int32)), s2, us, us, us, us, us, us, us, us, us, us, us, us, us, us, us, us, us, us, us]) at_21 rfl rfl ?_
  refine o_iload B1 23 25 (v := (q0_1 x0 x1 x2 x3)) at_23 rfl rfl ?_
  refine o_iconst B1 25 26 (1 : Int32) at_25 rfl (by decide) ?_
  obtain ⟨T2, B2, c2⟩ := o_callP B1 26 29 at_26 rfl (hw _ (mi 1 rfl)) (hw _ (mi 2 rfl)) (hw _ (mi 3 rfl)) (hw _ (mi 4 rfl)) (by decide) (rm1 l Z a0 hw (q0_1 x0 x1 x2 x3) (1 : Int32) h0 ) 0 [(.int (q0_1 x0 x1 x2 x3)), (.int (1 : Int32))] [] pd__II_J rfl rfl (st := [(.int (1 : Int32)), (.int (q0_1 x0 x1 x2 x3))]) rfl (Ls := #[vi x0, vi x1, vi x2, vj x3, s2, vi (q0_1 x0 x1 x2 x3), vi (q0_2 x0 x1 x2 x3), vj (f1 (q0_1 x0 x1 x2 x3) (0 : Int32)), s2, us, us, us, us, us, us, us, us, us, us, us, us, us, us, us, us, us, us, us]) rfl (Nat.le_of_eq rfl) (by decide) (by decide) (by decide) (by decide)
  refine c2 ?_
  refine o_lstore B2 29 31 (l' := #[vi x0, vi x1, vi x2, vj x3, s2, vi (q0_1 x0 x1 x2 x3), vi (q0_2 x0 x1 x2 x3), vj (f1 (q0_1 x0 x1 x2 x3) (0 : Int32)), s2, vj (f1 (q0_1 x0 x1 x2 x3) (1 : Int32)), s2, us, us, us, us, us, us, us, us, us, us, us, us, us, us, us, us, us]) at_29 rfl rfl ?_
  refine o_iload B2 31 33 (v := (q0_1 x0 x1 x2 x3)) at_31 rfl rfl ?_
  refine o_iconst B2 33 34 (2 : Int32) at_33 rfl (by decide) ?_
  obtain ⟨T3, B3, c3⟩ := o_callP B2 34 37 at_34 rfl (hw _ (mi 1 rfl)) (hw _ (mi 2 rfl)) (hw _ (mi 3 rfl)) (hw _ (mi 4 rfl)) (by decide) (rm1 l Z a0 hw (q0_1 x0 x1 x2 x3) (2 : Int32) h0 ) 0 [(.int (q0_1 x0 x1 x2 x3)), (.int (2 : Int32))] [] pd__II_J rfl rfl (st := [(.int (2 : Int32)), (.int (q0_1 x0 x1 x2 x3))]) rfl (Ls := #[vi x0, vi x1, vi x2, vj x3, s2, vi (q0_1 x0 x1 x2 x3), vi (q0_2 x0 x1 x2 x3), vj (f1 (q0_1 x0 x1 x2 x3) (0 : Int32)), s2, vj (f1 (q0_1 x0 x1 x2 x3) (1 : Int32)), s2, us, us, us, us, us, us, us, us, us, us, us, us, us, us, us, us, us]) rfl (Nat.le_of_eq rfl) (by decide) (by decide) (by decide) (by decide)
  refine c3 ?_
  refine o_lstore B3 37 39 (l' := #[vi x0, vi x1, vi x2, vj x3, s2, vi (q0_1 x0 x1 x2 x3), vi (q0_2 x0 x1 x2 x3), vj (f1 (q0_1 x0 x1 x2 x3) (0 : Int32)), s2, vj (f1 (q0_1 x0 x1 x2 x3) (1 : Int32)), s2, vj (f1 (q0_1 x0 x1 x2 x3) (2 : Int32)), s2, us, us, us, us, us, us, us, us, us, us, us, us, us, us, us]) at_37 rfl rfl ?_
  refine o_iload B3 39 41 (v := (q0_1 x0 x1 x2 x3)) at_39 rfl rfl ?_
  refine o_iconst B3 41 42 (3 : Int32) at_41 rfl (by decide) ?_
  obtain ⟨T4, B4, c4⟩ := o_callP B3 42 45 at_42 rfl (hw _ (mi 1 rfl)) (hw _ (mi 2 rfl)) (hw _ (mi 3 rfl)) (hw _ (mi 4 rfl)) (by decide) (rm1 l Z a0 hw (q0_1 x0 x1 x2 x3) (3 : Int32) h0 ) 0 [(.int (q0_1 x0 x1 x2 x3)), (.int (3 : Int32))] [] pd__II_J rfl rfl (st := [(.int (3 : Int32)), (.int (q0_1 x0 x1 x2 x3))]) rfl (Ls := #[vi x0, vi x1, vi x2, vj x3, s2, vi (q0_1 x0 x1 x2 x3), vi (q0_2 x0 x1 x2 x3), vj (f1 (q0_1 x0 x1 x2 x3) (0 : Int32)), s2, vj (f1 (q0_1 x0 x1 x2 x3) (1 : Int32)), s2, vj (f1 (q0_1 x0 x1 x2 x3) (2 : Int32)), s2, us, us, us, us, us, us, us, us, us, us, us, us, us, us, us]) rfl (Nat.le_of_eq rfl) (by decide) (by decide) (by decide) (by decide)
  refine c4 ?_
  refine o_lstore B4 45 47 (l' := #[vi x0, vi x1, vi x2, vj x3, s2, vi (q0_1 x0 x1 x2 x3), vi (q0_2 x0 x1 x2 x3), vj (f1 (q0_1 x0 x1 x2 x3) (0 : Int32)), s2, vj (f1 (q0_1 x0 x1 x2 x3) (1 : Int32)), s2, vj (f1 (q0_1 x0 x1 x2 x3) (2 : Int32)), s2, vj (f1 (q0_1 x0 x1 x2 x3) (3 : Int32)), s2, us, us, us, us, us, us, us, us, us, us, us, us, us]) at_45 rfl rfl ?_
  refine o_iloadN B4 47 48 (v := x2) at_47 rfl rfl ?_
  refine o_iconst B4 48 49 (1 : Int32) at_48 rfl (by decide) ?_
  refine o_iand B4 49 50 at_49 rfl ?_
  have dm1 : ∀ {P : Outcome → State → Prop}, OG p.tables e below P (T4.setTop (mkF m 59 #[vi x0, vi x1, vi x2, vj x3, s2, vi (q0_1 x0 x1 x2 x3), vi (q0_2 x0 x1 x2 x3), vj (f1 (q0_1 x0 x1 x2 x3) (0 : Int32)), s2, vj (f1 (q0_1 x0 x1 x2 x3) (1 : Int32)), s2, vj (f1 (q0_1 x0 x1 x2 x3) (2 : Int32)), s2, vj (f1 (q0_1 x0 x1 x2 x3) (3 : Int32)), s2, us, us, us, us, us, us, us, us, us, us, us, us, us] [(.long (q0_3 x0 x1 x2 x3))])) → OG p.tables e below P (T4.setTop (mkF m 50 #[vi x0, vi x1, vi x2, vj x3, s2, vi (q0_1 x0 x1 x2 x3), vi (q0_2 x0 x1 x2 x3), vj (f1 (q0_1 x0 x1 x2 x3) (0 : Int32)), s2, vj (f1 (q0_1 x0 x1 x2 x3) (1 : Int32)), s2, vj (f1 (q0_1 x0 x1 x2 x3) (2 : Int32)), s2, vj (f1 (q0_1 x0 x1 x2 x3) (3 : Int32)), s2, us, us, us, us, us, us, us, us, us, us, us, us, us] [(.int (x2 &&& (1 : Int32)))])) := by
    intro P k
    by_cases k2 : (x2 &&& (1 : Int32)) = 0
    · refine o_ifY B4 50 58 at_50 (XT.i0_eq_t k2) (by decide) (by decide) ?_
      refine o_lconst B4 58 59 (0 : Int64) at_58 rfl (by decide) ?_
      have y0 : (q0_3 x0 x1 x2 x3) = (0 : Int64) := by simp only [q0_3, if_pos k2]
      rw [y0] at k
      exact k
    · refine o_ifN B4 50 53 at_50 rfl (XT.i0_eq_f k2) ?_
      refine o_lload B4 53 55 (v := (f1 (q0_1 x0 x1 x2 x3) (0 : Int32))) at_53 rfl rfl ?_
      refine o_goto B4 55 59 at_55 (by decide) (by decide) ?_
      have y0 : (q0_3 x0 x1 x2 x3) = (f1 (q0_1 x0 x1 x2 x3) (0 : Int32)) := by simp only [q0_3, if_neg k2]
      rw [y0] at k
      exact k
  refine dm1 ?_
  refine o_iloadN B4 59 60 (v := x2) at_59 rfl rfl ?_
  refine o_iconst B4 60 61 (2 : Int32) at_60 rfl (by decide) ?_
  refine o_iand B4 61 62 at_61 rfl ?_
  have dm3 : ∀ {P : Outcome → State → Prop}, OG p.tables e below P (T4.setTop (mkF m 71 #[vi x0, vi x1, vi x2, vj x3, s2, vi (q0_1 x0 x1 x2 x3), vi (q0_2 x0 x1 x2 x3), vj (f1 (q0_1 x0 x1 x2 x3) (0 : Int32)), s2, vj (f1 (q0_1 x0 x1 x2 x3) (1 : Int32)), s2, vj (f1 (q0_1 x0 x1 x2 x3) (2 : Int32)), s2, vj (f1 (q0_1 x0 x1 x2 x3) (3 : Int32)), s2, us, us, us, us, us, us, us, us, us, us, us, us, us] [(.long (q0_4 x0 x1 x2 x3)), (.long (q0_3 x0 x1 x2 x3))])) → OG p.tables e below P (T4.setTop (mkF m 62 #[vi x0, vi x1, vi x2, vj x3, s2, vi (q0_1 x0 x1 x2 x3), vi (q0_2 x0 x1 x2 x3), vj (f1 (q0_1 x0 x1 x2 x3) (0 : Int32)), s2, vj (f1 (q0_1 x0 x1 x2 x3) (1 : Int32)), s2, vj (f1 (q0_1 x0 x1 x2 x3) (2 : Int32)), s2, vj (f1 (q0_1 x0 x1 x2 x3) (3 : Int32)), s2, us, us, us, us, us, us, us, us, us, us, us, us, us] [(.int (x2 &&& (2 : Int32))), (.long (q0_3 x0 x1 x2 x3))])) := by
    intro P k
    by_cases k4 : (x2 &&& (2 : Int32)) = 0
    · refine o_ifY B4 62 70 at_62 (XT.i0_eq_t k4) (by decide) (by decide) ?_
      refine o_lconst B4 70 71 (0 : Int64) at_70 rfl (by decide) ?_
      have y0 : (q0_4 x0 x1 x2 x3) = (0 : Int64) := by simp only [q0_4, if_pos k4]
      rw [y0] at k
      exact k
    · refine o_ifN B4 62 65 at_62 rfl (XT.i0_eq_f k4) ?_
      refine o_lload B4 65 67 (v := (f1 (q0_1 x0 x1 x2 x3) (1 : Int32))) at_65 rfl rfl ?_
      refine o_goto B4 67 71 at_67 (by decide) (by decide) ?_
      have y0 : (q0_4 x0 x1 x2 x3) = (f1 (q0_1 x0 x1 x2 x3) (1 : Int32)) := by simp only [q0_4, if_neg k4]
      rw [y0] at k
      exact k
  refine dm3 ?_
  refine o_lor B4 71 72 at_71 rfl ?_
  refine o_iloadN B4 72 73 (v := x2) at_72 rfl rfl ?_
  refine o_iconst B4 73 74 (4 : Int32) at_73 rfl (by decide) ?_
  refine o_iand B4 74 75 at_74 rfl ?_
  have dm5 : ∀ {P : Outcome → State → Prop}, OG p.tables e below P (T4.setTop (mkF m 84 #[vi x0, vi x1, vi x2, vj x3, s2, vi (q0_1 x0 x1 x2 x3), vi (q0_2 x0 x1 x2 x3), vj (f1 (q0_1 x0 x1 x2 x3) (0 : Int32)), s2, vj (f1 (q0_1 x0 x1 x2 x3) (1 : Int32)), s2, vj (f1 (q0_1 x0 x1 x2 x3) (2 : Int32)), s2, vj (f1 (q0_1 x0 x1 x2 x3) (3 : Int32)), s2, us, us, us, us, us, us, us, us, us, us, us, us, us] [(.long (q0_5 x0 x1 x2 x3)), (.long ((q0_3 x0 x1 x2 x3) ||| (q0_4 x0 x1 x2 x3)))])) → OG p.tables e below P (T4.setTop (mkF m 75 #[vi x0, vi x1, vi x2, vj x3, s2, vi (q0_1 x0 x1 x2 x3), vi (q0_2 x0 x1 x2 x3), vj (f1 (q0_1 x0 x1 x2 x3) (0 : Int32)), s2, vj (f1 (q0_1 x0 x1 x2 x3) (1 : Int32)), s2, vj (f1 (q0_1 x0 x1 x2 x3) (2 : Int32)), s2, vj (f1 (q0_1 x0 x1 x2 x3) (3 : Int32)), s2, us, us, us, us, us, us, us, us, us, us, us, us, us] [(.int (x2 &&& (4 : Int32))), (.long ((q0_3 x0 x1 x2 x3) ||| (q0_4 x0 x1 x2 x3)))])) := by
    intro P k
    by_cases k6 : (x2 &&& (4 : Int32)) = 0
    · refine o_ifY B4 75 83 at_75 (XT.i0_eq_t k6) (by decide) (by decide) ?_
      refine o_lconst B4 83 84 (0 : Int64) at_83 rfl (by decide) ?_
      have y0 : (q0_5 x0 x1 x2 x3) = (0 : Int64) := by simp only [q0_5, if_pos k6]
      rw [y0] at k
      exact k
    · refine o_ifN B4 75 78 at_75 rfl (XT.i0_eq_f k6) ?_
      refine o_lload B4 78 80 (v := (f1 (q0_1 x0 x1 x2 x3) (2 : Int32))) at_78 rfl rfl ?_
      refine o_goto B4 80 84 at_80 (by decide) (by decide) ?_
      have y0 : (q0_5 x0 x1 x2 x3) = (f1 (q0_1 x0 x1 x2 x3) (2 : Int32)) := by simp only [q0_5, if_neg k6]
      rw [y0] at k
      exact k
  refine dm5 ?_
  refine o_lor B4 84 85 at_84 rfl ?_
  refine o_iloadN B4 85 86 (v := x2) at_85 rfl rfl ?_
  refine o_bipush B4 86 88 (8 : Int32) at_86 rfl (by decide) ?_
  refine o_iand B4 88 89 at_88 rfl ?_
  have dm7 : ∀ {P : Outcome → State → Prop}, OG p.tables e below P (T4.setTop (mkF m 98 #[vi x0, vi x1, vi x2, vj x3, s2, vi (q0_1 x0 x1 x2 x3), vi (q0_2 x0 x1 x2 x3), vj (f1 (q0_1 x0 x1 x2 x3) (0 : Int32)), s2, vj (f1 (q0_1 x0 x1 x2 x3) (1 : Int32)), s2, vj (f1 (q0_1 x0 x1 x2 x3) (2 : Int32)), s2, vj (f1 (q0_1 x0 x1 x2 x3) (3 : Int32)), s2, us, us, us, us, us, us, us, us, us, us, us, us, us] [(.long (q0_6 x0 x1 x2 x3)), (.long (((q0_3 x0 x1 x2 x3) ||| (q0_4 x0 x1 x2 x3)) ||| (q0_5 x0 x1 x2 x3)))])) → OG p.tables e below P (T4.setTop (mkF m 89 #[vi x0, vi x1, vi x2, vj x3, s2, vi (q0_1 x0 x1 x2 x3), vi (q0_2 x0 x1 x2 x3), vj (f1 (q0_1 x0 x1 x2 x3) (0 : Int32)), s2, vj (f1 (q0_1 x0 x1 x2 x3) (1 : Int32)), s2, vj (f1 (q0_1 x0 x1 x2 x3) (2 : Int32)), s2, vj (f1 (q0_1 x0 x1 x2 x3) (3 : Int32)), s2, us, us, us, us, us, us, us, us, us, us, us, us, us] [(.int (x2 &&& (8 : Int32))), (.long (((q0_3 x0 x1 x2 x3) ||| (q0_4 x0 x1 x2 x3)) ||| (q0_5 x0 x1 x2 x3)))])) := by
    intro P k
    by_cases k8 : (x2 &&& (8 : Int32)) = 0
    · refine o_ifY B4 89 97 at_89 (XT.i0_eq_t k8) (by decide) (by decide) ?_
      refine o_lconst B4 97 98 (0 : Int64) at_97 rfl (by decide) ?_
      have y0 : (q0_6 x0 x1 x2 x3) = (0 : Int64) := by simp only [q0_6, if_pos k8]
      rw [y0] at k
      exact k
    · refine o_ifN B4 89 92 at_89 rfl (XT.i0_eq_f k8) ?_
      refine o_lload B4 92 94 (v := (f1 (q0_1 x0 x1 x2 x3) (3 : Int32))) at_92 rfl rfl ?_
      refine o_goto B4 94 98 at_94 (by decide) (by decide) ?_
      have y0 : (q0_6 x0 x1 x2 x3) = (f1 (q0_1 x0 x1 x2 x3) (3 : Int32)) := by simp only [q0_6, if_neg k8]
      rw [y0] at k
      exact k
  refine dm7 ?_
  refine o_lor B4 98 99 at_98 rfl ?_
  refine o_lstore B4 99 101 (l' := #[vi x0, vi x1, vi x2, vj x3, s2, vi (q0_1 x0 x1 x2 x3), vi (q0_2 x0 x1 x2 x3), vj (f1 (q0_1 x0 x1 x2 x3) (0 : Int32)), s2, vj (f1 (q0_1 x0 x1 x2 x3) (1 : Int32)), s2, vj (f1 (q0_1 x0 x1 x2 x3) (2 : Int32)), s2, vj (f1 (q0_1 x0 x1 x2 x3) (3 : Int32)), s2, vj (q0_7 x0 x1 x2 x3), s2, us, us, us, us, us, us, us, us, us, us, us]) at_99 rfl rfl ?_
  refine o_lloadN B4 101 102 (v := x3) at_101 rfl rfl ?_
  refine o_lload B4 102 104 (v := (q0_7 x0 x1 x2 x3)) at_102 rfl rfl ?_
  refine o_land B4 104 105 at_104 rfl ?_
  refine o_lstore B4 105 107 (l' := #[vi x0, vi x1, vi x2, vj x3, s2, vi (q0_1 x0 x1 x2 x3), vi (q0_2 x0 x1 x2 x3), vj (f1 (q0_1 x0 x1 x2 x3) (0 : Int32)), s2, vj (f1 (q0_1 x0 x1 x2 x3) (1 : Int32)), s2, vj (f1 (q0_1 x0 x1 x2 x3) (2 : Int32)), s2, vj (f1 (q0_1 x0 x1 x2 x3) (3 : Int32)), s2, vj (q0_7 x0 x1 x2 x3), s2, vj (x3 &&& (q0_7 x0 x1 x2 x3)), s2, us, us, us, us, us, us, us, us, us]) at_105 rfl rfl ?_
  refine o_lload B4 107 109 (v := (x3 &&& (q0_7 x0 x1 x2 x3))) at_107 rfl rfl ?_
  refine o_lload B4 109 111 (v := (f1 (q0_1 x0 x1 x2 x3) (0 : Int32))) at_109 rfl rfl ?_
  refine o_land B4 111 112 at_111 rfl ?_
  refine o_lconst B4 112 113 (0 : Int64) at_112 rfl (by decide) ?_
  refine o_lcmp B4 113 114 at_113 rfl ?_
  have dm9 : ∀ {P : Outcome → State → Prop}, OG p.tables e below P (T4.setTop (mkF m 122 #[vi x0, vi x1, vi x2, vj x3, s2, vi (q0_1 x0 x1 x2 x3), vi (q0_2 x0 x1 x2 x3), vj (f1 (q0_1 x0 x1 x2 x3) (0 : Int32)), s2, vj (f1 (q0_1 x0 x1 x2 x3) (1 : Int32)), s2, vj (f1 (q0_1 x0 x1 x2 x3) (2 : Int32)), s2, vj (f1 (q0_1 x0 x1 x2 x3) (3 : Int32)), s2, vj (q0_7 x0 x1 x2 x3), s2, vj (x3 &&& (q0_7 x0 x1 x2 x3)), s2, us, us, us, us, us, us, us, us, us] [(.int (q0_8 x0 x1 x2 x3))])) → OG p.tables e below P (T4.setTop (mkF m 114 #[vi x0, vi x1, vi x2, vj x3, s2, vi (q0_1 x0 x1 x2 x3), vi (q0_2 x0 x1 x2 x3), vj (f1 (q0_1 x0 x1 x2 x3) (0 : Int32)), s2, vj (f1 (q0_1 x0 x1 x2 x3) (1 : Int32)), s2, vj (f1 (q0_1 x0 x1 x2 x3) (2 : Int32)), s2, vj (f1 (q0_1 x0 x1 x2 x3) (3 : Int32)), s2, vj (q0_7 x0 x1 x2 x3), s2, vj (x3 &&& (q0_7 x0 x1 x2 x3)), s2, us, us, us, us, us, us, us, us, us] [(.int (XT.cmpL ((x3 &&& (q0_7 x0 x1 x2 x3)) &&& (f1 (q0_1 x0 x1 x2 x3) (0 : Int32))) (0 : Int64)))])) := by
    intro P k
    by_cases k10 : ((x3 &&& (q0_7 x0 x1 x2 x3)) &&& (f1 (q0_1 x0 x1 x2 x3) (0 : Int32))) = (0 : Int64)
    · refine o_ifN B4 114 117 at_114 rfl (XT.ll_ne_f k10) ?_
      refine o_iconst B4 117 118 (1 : Int32) at_117 rfl (by decide) ?_
      refine o_goto B4 118 122 at_118 (by decide) (by decide) ?_
      have y0 : (q0_8 x0 x1 x2 x3) = (1 : Int32) := by simp only [q0_8, if_pos k10]
      rw [y0] at k
      exact k
    · refine o_ifY B4 114 121 at_114 (XT.ll_ne_t k10) (by decide) (by decide) ?_
      refine o_iconst B4 121 122 (0 : Int32) at_121 rfl (by decide) ?_
      have y0 : (q0_8 x0 x1 x2 x3) = (0 : Int32) := by simp only [q0_8, if_neg k10]
      rw [y0] at k
      exact k
  refine dm9 ?_
  refine o_istore B4 122 124 (l' := #[vi x0, vi x1, vi x2, vj x3, s2, vi (q0_1 x0 x1 x2 x3), vi (q0_2 x0 x1 x2 x3), vj (f1 (q0_1 x0 x1 x2 x3) (0 : Int32)), s2, vj (f1 (q0_1 x0 x1 x2 x3) (1 : Int32)), s2, vj (f1 (q0_1 x0 x1 x2 x3) (2 : Int32)), s2, vj (f1 (q0_1 x0 x1 x2 x3) (3 : Int32)), s2, vj (q0_7 x0 x1 x2 x3), s2, vj (x3 &&& (q0_7 x0 x1 x2 x3)), s2, vi (q0_8 x0 x1 x2 x3), us, us, us, us, us, us, us, us]) at_122 rfl rfl ?_
  refine o_lload B4 124 126 (v := (x3 &&& (q0_7 x0 x1 x2 x3))) at_124 rfl rfl ?_
  refine o_lload B4 126 128 (v := (f1 (q0_1 x0 x1 x2 x3) (1 : Int32))) at_126 rfl rfl ?_
  refine o_land B4 128 129 at_128 rfl ?_
  refine o_lconst B4 129 130 (0 : Int64) at_129 rfl (by decide) ?_
  refine o_lcmp B4 130 131 at_130 rfl ?_
  have dm11 : ∀ {P : Outcome → State → Prop}, OG p.tables e below P (T4.setTop (mkF m 139 #[vi x0, vi x1, vi x2, vj x3, s2, vi (q0_1 x0 x1 x2 x3), vi (q0_2 x0 x1 x2 x3), vj (f1 (q0_1 x0 x1 x2 x3) (0 : Int32)), s2, vj (f1 (q0_1 x0 x1 x2 x3) (1 : Int32)), s2, vj (f1 (q0_1 x0 x1 x2 x3) (2 : Int32)), s2, vj (f1 (q0_1 x0 x1 x2 x3) (3 : Int32)), s2, vj (q0_7 x0 x1 x2 x3), s2, vj (x3 &&& (q0_7 x0 x1 x2 x3)), s2, vi (q0_8 x0 x1 x2 x3), us, us, us, us, us, us, us, us] [(.int (q0_9 x0 x1 x2 x3))])) → OG p.tables e below P (T4.setTop (mkF m 131 #[vi x0, vi x1, vi x2, vj x3, s2, vi (q0_1 x0 x1 x2 x3), vi (q0_2 x0 x1 x2 x3), vj (f1 (q0_1 x0 x1 x2 x3) (0 : Int32)), s2, vj (f1 (q0_1 x0 x1 x2 x3) (1 : Int32)), s2, vj (f1 (q0_1 x0 x1 x2 x3) (2 : Int32)), s2, vj (f1 (q0_1 x0 x1 x2 x3) (3 : Int32)), s2, vj (q0_7 x0 x1 x2 x3), s2, vj (x3 &&& (q0_7 x0 x1 x2 x3)), s2, vi (q0_8 x0 x1 x2 x3), us, us, us, us, us, us, us, us] [(.int (XT.cmpL ((x3 &&& (q0_7 x0 x1 x2 x3)) &&& (f1 (q0_1 x0 x1 x2 x3) (1 : Int32))) (0 : Int64)))])) := by
    intro P k
    by_cases k12 : ((x3 &&& (q0_7 x0 x1 x2 x3)) &&& (f1 (q0_1 x0 x1 x2 x3) (1 : Int32))) = (0 : Int64)
    · refine o_ifN B4 131 134 at_131 rfl (XT.ll_ne_f k12) ?_
      refine o_iconst B4 134 135 (1 : Int32) at_134 rfl (by decide) ?_
      refine o_goto B4 135 139 at_135 (by decide) (by decide) ?_
      have y0 : (q0_9 x0 x1 x2 x3) = (1 : Int32) := by simp only [q0_9, if_pos k12]
      rw [y0] at k
      exact k
    · refine o_ifY B4 131 138 at_131 (XT.ll_ne_t k12) (by decide) (by decide) ?_
      refine o_iconst B4 138 139 (0 : Int32) at_138 rfl (by decide) ?_
      have y0 : (q0_9 x0 x1 x2 x3) = (0 : Int32) := by simp only [q0_9, if_neg k12]
      rw [y0] at k
      exact k
  refine dm11 ?_
  refine o_istore B4 139 141 (l' := #[vi x0, vi x1, vi x2, vj x3, s2, vi (q0_1 x0 x1 x2 x3), vi (q0_2 x0 x1 x2 x3), vj (f1 (q0_1 x0 x1 x2 x3) (0 : Int32)), s2, vj (f1 (q0_1 x0 x1 x2 x3) (1 : Int32)), s2, vj (f1 (q0_1 x0 x1 x2 x3) (2 : Int32)), s2, vj (f1 (q0_1 x0 x1 x2 x3) (3 : Int32)), s2, vj (q0_7 x0 x1 x2 x3), s2, vj (x3 &&& (q0_7 x0 x1 x2 x3)), s2, vi (q0_8 x0 x1 x2 x3), vi (q0_9 x0 x1 x2 x3), us, us, us, us, us, us, us]) at_139 rfl rfl ?_
  refine o_lload B4 141 143 (v := (x3 &&& (q0_7 x0 x1 x2 x3))) at_141 rfl rfl ?_
  refine o_lload B4 143 145 (v := (f1 (q0_1 x0 x1 x2 x3) (2 : Int32))) at_143 rfl rfl ?_
  refine o_land B4 145 146 at_145 rfl ?_
  refine o_lconst B4 146 147 (0 : Int64) at_146 rfl (by decide) ?_
  refine o_lcmp B4 147 148 at_147 rfl ?_
  have dm13 : ∀ {P : Outcome → State → Prop}, OG p.tables e below P (T4.setTop (mkF m 156 #[vi x0, vi x1, vi x2, vj x3, s2, vi (q0_1 x0 x1 x2 x3), vi (q0_2 x0 x1 x2 x3), vj (f1 (q0_1 x0 x1 x2 x3) (0 : Int32)), s2, vj (f1 (q0_1 x0 x1 x2 x3) (1 : Int32)), s2, vj (f1 (q0_1 x0 x1 x2 x3) (2 : Int32)), s2, vj (f1 (q0_1 x0 x1 x2 x3) (3 : Int32)), s2, vj (q0_7 x0 x1 x2 x3), s2, vj (x3 &&& (q0_7 x0 x1 x2 x3)), s2, vi (q0_8 x0 x1 x2 x3), vi (q0_9 x0 x1 x2 x3), us, us, us, us, us, us, us] [(.int (q0_10 x0 x1 x2 x3))])) → OG p.tables e below P (T4.setTop (mkF m 148 #[vi x0, vi x1, vi x2, vj x3, s2, vi (q0_1 x0 x1 x2 x3), vi (q0_2 x0 x1 x2 x3), vj (f1 (q0_1 x0 x1 x2 x3) (0 : Int32)), s2, vj (f1 (q0_1 x0 x1 x2 x3) (1 : Int32)), s2, vj (f1 (q0_1 x0 x1 x2 x3) (2 : Int32)), s2, vj (f1 (q0_1 x0 x1 x2 x3) (3 : Int32)), s2, vj (q0_7 x0 x1 x2 x3), s2, vj (x3 &&& (q0_7 x0 x1 x2 x3)), s2, vi (q0_8 x0 x1 x2 x3), vi (q0_9 x0 x1 x2 x3), us, us, us, us, us, us, us] [(.int (XT.cmpL ((x3 &&& (q0_7 x0 x1 x2 x3)) &&& (f1 (q0_1 x0 x1 x2 x3) (2 : Int32))) (0 : Int64)))])) := by
    intro P k
    by_cases k14 : ((x3 &&& (q0_7 x0 x1 x2 x3)) &&& (f1 (q0_1 x0 x1 x2 x3) (2 : Int32))) = (0 : Int64)
    · refine o_ifN B4 148 151 at_148 rfl (XT.ll_ne_f k14) ?_
      refine o_iconst B4 151 152 (1 : Int32) at_151 rfl (by decide) ?_
      refine o_goto B4 152 156 at_152 (by decide) (by decide) ?_
      have y0 : (q0_10 x0 x1 x2 x3) = (1 : Int32) := by simp only [q0_10, if_pos k14]
      rw [y0] at k
      exact k
    · refine o_ifY B4 148 155 at_148 (XT.ll_ne_t k14) (by decide) (by decide) ?_
      refine o_iconst B4 155 156 (0 : Int32) at_155 rfl (by decide) ?_
      have y0 : (q0_10 x0 x1 x2 x3) = (0 : Int32) := by simp only [q0_10, if_neg k14]
      rw [y0] at k
      exact k
  refine dm13 ?_
  refine o_istore B4 156 158 (l' := #[vi x0, vi x1, vi x2, vj x3, s2, vi (q0_1 x0 x1 x2 x3), vi (q0_2 x0 x1 x2 x3), vj (f1 (q0_1 x0 x1 x2 x3) (0 : Int32)), s2, vj (f1 (q0_1 x0 x1 x2 x3) (1 : Int32)), s2, vj (f1 (q0_1 x0 x1 x2 x3) (2 : Int32)), s2, vj (f1 (q0_1 x0 x1 x2 x3) (3 : Int32)), s2, vj (q0_7 x0 x1 x2 x3), s2, vj (x3 &&& (q0_7 x0 x1 x2 x3)), s2, vi (q0_8 x0 x1 x2 x3), vi (q0_9 x0 x1 x2 x3), vi (q0_10 x0 x1 x2 x3), us, us, us, us, us, us]) at_156 rfl rfl ?_
  refine o_lload B4 158 160 (v := (x3 &&& (q0_7 x0 x1 x2 x3))) at_158 rfl rfl ?_
  refine o_lload B4 160 162 (v := (f1 (q0_1 x0 x1 x2 x3) (3 : Int32))) at_160 rfl rfl ?_
  refine o_land B4 162 163 at_162 rfl ?_
  refine o_lconst B4 163 164 (0 : Int64) at_163 rfl (by decide) ?_
  refine o_lcmp B4 164 165 at_164 rfl ?_
  have dm15 : ∀ {P : Outcome → State → Prop}, OG p.tables e below P (T4.setTop (mkF m 173 #[vi x0, vi x1, vi x2, vj x3, s2, vi (q0_1 x0 x1 x2 x3), vi (q0_2 x0 x1 x2 x3), vj (f1 (q0_1 x0 x1 x2 x3) (0 : Int32)), s2, vj (f1 (q0_1 x0 x1 x2 x3) (1 : Int32)), s2, vj (f1 (q0_1 x0 x1 x2 x3) (2 : Int32)), s2, vj (f1 (q0_1 x0 x1 x2 x3) (3 : Int32)), s2, vj (q0_7 x0 x1 x2 x3), s2, vj (x3 &&& (q0_7 x0 x1 x2 x3)), s2, vi (q0_8 x0 x1 x2 x3), vi (q0_9 x0 x1 x2 x3), vi (q0_10 x0 x1 x2 x3), us, us, us, us, us, us] [(.int (q0_11 x0 x1 x2 x3))])) → OG p.tables e below P (T4.setTop (mkF m 165 #[vi x0, vi x1, vi x2, vj x3, s2, vi (q0_1 x0 x1 x2 x3), vi (q0_2 x0 x1 x2 x3), vj (f1 (q0_1 x0 x1 x2 x3) (0 : Int32)), s2, vj (f1 (q0_1 x0 x1 x2 x3) (1 : Int32)), s2, vj (f1 (q0_1 x0 x1 x2 x3) (2 : Int32)), s2, vj (f1 (q0_1 x0 x1 x2 x3) (3 : Int32)), s2, vj (q0_7 x0 x1 x2 x3), s2, vj (x3 &&& (q0_7 x0 x1 x2 x3)), s2, vi (q0_8 x0 x1 x2 x3), vi (q0_9 x0 x1 x2 x3), vi (q0_10 x0 x1 x2 x3), us, us, us, us, us, us] [(.int (XT.cmpL ((x3 &&& (q0_7 x0 x1 x2 x3)) &&& (f1 (q0_1 x0 x1 x2 x3) (3 : Int32))) (0 : Int64)))])) := by
    intro P k
    by_cases k16 : ((x3 &&& (q0_7 x0 x1 x2 x3)) &&& (f1 (q0_1 x0 x1 x2 x3) (3 : Int32))) = (0 : Int64)
    · refine o_ifN B4 165 168 at_165 rfl (XT.ll_ne_f k16) ?_
      refine o_iconst B4 168 169 (1 : Int32) at_168 rfl (by decide) ?_
      refine o_goto B4 169 173 at_169 (by decide) (by decide) ?_
      have y0 : (q0_11 x0 x1 x2 x3) = (1 : Int32) := by simp only [q0_11, if_pos k16]
      rw [y0] at k
      exact k
    · refine o_ifY B4 165 172 at_165 (XT.ll_ne_t k16) (by decide) (by decide) ?_
      refine o_iconst B4 172 173 (0 : Int32) at_172 rfl (by decide) ?_
      have y0 : (q0_11 x0 x1 x2 x3) = (0 : Int32) := by simp only [q0_11, if_neg k16]
      rw [y0] at k
      exact k
  refine dm15 ?_
  refine o_istore B4 173 175 (l' := #[vi x0, vi x1, vi x2, vj x3, s2, vi (q0_1 x0 x1 x2 x3), vi (q0_2 x0 x1 x2 x3), vj (f1 (q0_1 x0 x1 x2 x3) (0 : Int32)), s2, vj (f1 (q0_1 x0 x1 x2 x3) (1 : Int32)), s2, vj (f1 (q0_1 x0 x1 x2 x3) (2 : Int32)), s2, vj (f1 (q0_1 x0 x1 x2 x3) (3 : Int32)), s2, vj (q0_7 x0 x1 x2 x3), s2, vj (x3 &&& (q0_7 x0 x1 x2 x3)), s2, vi (q0_8 x0 x1 x2 x3), vi (q0_9 x0 x1 x2 x3), vi (q0_10 x0 x1 x2 x3), vi (q0_11 x0 x1 x2 x3), us, us, us, us, us]) at_173 rfl rfl ?_
  refine o_iload B4 175 177 (v := (q0_8 x0 x1 x2 x3)) at_175 rfl rfl ?_
  have dm17 : ∀ {P : Outcome → State → Prop}, OG p.tables e below P (T4.setTop (mkF m 185 #[vi x0, vi x1, vi x2, vj x3, s2, vi (q0_1 x0 x1 x2 x3), vi (q0_2 x0 x1 x2 x3), vj (f1 (q0_1 x0 x1 x2 x3) (0 : Int32)), s2, vj (f1 (q0_1 x0 x1 x2 x3) (1 : Int32)), s2, vj (f1 (q0_1 x0 x1 x2 x3) (2 : Int32)), s2, vj (f1 (q0_1 x0 x1 x2 x3) (3 : Int32)), s2, vj (q0_7 x0 x1 x2 x3), s2, vj (x3 &&& (q0_7 x0 x1 x2 x3)), s2, vi (q0_8 x0 x1 x2 x3), vi (q0_9 x0 x1 x2 x3), vi (q0_10 x0 x1 x2 x3), vi (q0_11 x0 x1 x2 x3), us, us, us, us, us] [(.int (q0_8 x0 x1 x2 x3))])) → OG p.tables e below P (T4.setTop (mkF m 177 #[vi x0, vi x1, vi x2, vj x3, s2, vi (q0_1 x0 x1 x2 x3), vi (q0_2 x0 x1 x2 x3), vj (f1 (q0_1 x0 x1 x2 x3) (0 : Int32)), s2, vj (f1 (q0_1 x0 x1 x2 x3) (1 : Int32)), s2, vj (f1 (q0_1 x0 x1 x2 x3) (2 : Int32)), s2, vj (f1 (q0_1 x0 x1 x2 x3) (3 : Int32)), s2, vj (q0_7 x0 x1 x2 x3), s2, vj (x3 &&& (q0_7 x0 x1 x2 x3)), s2, vi (q0_8 x0 x1 x2 x3), vi (q0_9 x0 x1 x2 x3), vi (q0_10 x0 x1 x2 x3), vi (q0_11 x0 x1 x2 x3), us, us, us, us, us] [(.int (q0_8 x0 x1 x2 x3))])) := by
    intro P k
    by_cases k18 : ((x3 &&& (q0_7 x0 x1 x2 x3)) &&& (f1 (q0_1 x0 x1 x2 x3) (0 : Int32))) = (0 : Int64)
    · refine o_ifN B4 177 180 at_177 rfl ((b_eq_f (c := ((x3 &&& (q0_7 x0 x1 x2 x3)) &&& (f1 (q0_1 x0 x1 x2 x3) (0 : Int32))) = (0 : Int64))) k18) ?_
      refine o_iconst B4 180 181 (1 : Int32) at_180 rfl (by decide) ?_
      refine o_goto B4 181 185 at_181 (by decide) (by decide) ?_
      have y0 : (q0_8 x0 x1 x2 x3) = (1 : Int32) := by simp only [q0_8, if_pos k18]
      rw [y0] at k
      rw [y0]
      exact k
    · refine o_ifY B4 177 184 at_177 ((b_eq_t (c := ((x3 &&& (q0_7 x0 x1 x2 x3)) &&& (f1 (q0_1 x0 x1 x2 x3) (0 : Int32))) = (0 : Int64))) k18) (by decide) (by decide) ?_
      refine o_iconst B4 184 185 (0 : Int32) at_184 rfl (by decide) ?_
      have y0 : (q0_8 x0 x1 x2 x3) = (0 : Int32) := by simp only [q0_8, if_neg k18]
      rw [y0] at k
      rw [y0]
      exact k
  refine dm17 ?_
  refine o_iload B4 185 187 (v := (q0_9 x0 x1 x2 x3)) at_185 rfl rfl ?_
  have dm19 : ∀ {P : Outcome → State → Prop}, OG p.tables e below P (T4.setTop (mkF m 195 #[vi x0, vi x1, vi x2, vj x3, s2, vi (q0_1 x0 x1 x2 x3), vi (q0_2 x0 x1 x2 x3), vj (f1 (q0_1 x0 x1 x2 x3) (0 : Int32)), s2, vj (f1 (q0_1 x0 x1 x2 x3) (1 : Int32)), s2, vj (f1 (q0_1 x0 x1 x2 x3) (2 : Int32)), s2, vj (f1 (q0_1 x0 x1 x2 x3) (3 : Int32)), s2, vj (q0_7 x0 x1 x2 x3), s2, vj (x3 &&& (q0_7 x0 x1 x2 x3)), s2, vi (q0_8 x0 x1 x2 x3), vi (q0_9 x0 x1 x2 x3), vi (q0_10 x0 x1 x2 x3), vi (q0_11 x0 x1 x2 x3), us, us, us, us, us] [(.int (q0_9 x0 x1 x2 x3)), (.int (q0_8 x0 x1 x2 x3))])) → OG p.tables e below P (T4.setTop (mkF m 187 #[vi x0, vi x1, vi x2, vj x3, s2, vi (q0_1 x0 x1 x2 x3), vi (q0_2 x0 x1 x2 x3), vj (f1 (q0_1 x0 x1 x2 x3) (0 : Int32)), s2, vj (f1 (q0_1 x0 x1 x2 x3) (1 : Int32)), s2, vj (f1 (q0_1 x0 x1 x2 x3) (2 : Int32)), s2, vj (f1 (q0_1 x0 x1 x2 x3) (3 : Int32)), s2, vj (q0_7 x0 x1 x2 x3), s2, vj (x3 &&& (q0_7 x0 x1 x2 x3)), s2, vi (q0_8 x0 x1 x2 x3), vi (q0_9 x0 x1 x2 x3), vi (q0_10 x0 x1 x2 x3), vi (q0_11 x0 x1 x2 x3), us, us, us, us, us] [(.int (q0_9 x0 x1 x2 x3)), (.int (q0_8 x0 x1 x2 x3))])) := by
    intro P k
    by_cases k20 : ((x3 &&& (q0_7 x0 x1 x2 x3)) &&& (f1 (q0_1 x0 x1 x2 x3) (1 : Int32))) = (0 : Int64)
    · refine o_ifN B4 187 190 at_187 rfl ((b_eq_f (c := ((x3 &&& (q0_7 x0 x1 x2 x3)) &&& (f1 (q0_1 x0 x1 x2 x3) (1 : Int32))) = (0 : Int64))) k20) ?_
      refine o_iconst B4 190 191 (1 : Int32) at_190 rfl (by decide) ?_
      refine o_goto B4 191 195 at_191 (by decide) (by decide) ?_
      have y0 : (q0_9 x0 x1 x2 x3) = (1 : Int32) := by simp only [q0_9, if_pos k20]
      rw [y0] at k
      rw [y0]
      exact k
    · refine o_ifY B4 187 194 at_187 ((b_eq_t (c := ((x3 &&& (q0_7 x0 x1 x2 x3)) &&& (f1 (q0_1 x0 x1 x2 x3) (1 : Int32))) = (0 : Int64))) k20) (by decide) (by decide) ?_
      refine o_iconst B4 194 195 (0 : Int32) at_194 rfl (by decide) ?_
      have y0 : (q0_9 x0 x1 x2 x3) = (0 : Int32) := by simp only [q0_9, if_neg k20]
      rw [y0] at k
      rw [y0]
      exact k
  refine dm19 ?_
  refine o_iadd B4 195 196 at_195 rfl ?_
  refine o_iload B4 196 198 (v := (q0_10 x0 x1 x2 x3)) at_196 rfl rfl ?_
  have dm21 : ∀ {P : Outcome → State → Prop}, OG p.tables e below P (T4.setTop (mkF m 206 #[vi x0, vi x1, vi x2, vj x3, s2, vi (q0_1 x0 x1 x2 x3), vi (q0_2 x0 x1 x2 x3), vj (f1 (q0_1 x0 x1 x2 x3) (0 : Int32)), s2, vj (f1 (q0_1 x0 x1 x2 x3) (1 : Int32)), s2, vj (f1 (q0_1 x0 x1 x2 x3) (2 : Int32)), s2, vj (f1 (q0_1 x0 x1 x2 x3) (3 : Int32)), s2, vj (q0_7 x0 x1 x2 x3), s2, vj (x3 &&& (q0_7 x0 x1 x2 x3)), s2, vi (q0_8 x0 x1 x2 x3), vi (q0_9 x0 x1 x2 x3), vi (q0_10 x0 x1 x2 x3), vi (q0_11 x0 x1 x2 x3), us, us, us, us, us] [(.int (q0_10 x0 x1 x2 x3)), (.int ((q0_8 x0 x1 x2 x3) + (q0_9 x0 x1 x2 x3)))])) → OG p.tables e below P (T4.setTop (mkF m 198 #[vi x0, vi x1, vi x2, vj x3, s2, vi (q0_1 x0 x1 x2 x3), vi (q0_2 x0 x1 x2 x3), vj (f1 (q0_1 x0 x1 x2 x3) (0 : Int32)), s2, vj (f1 (q0_1 x0 x1 x2 x3) (1 : Int32)), s2, vj (f1 (q0_1 x0 x1 x2 x3) (2 : Int32)), s2, vj (f1 (q0_1 x0 x1 x2 x3) (3 : Int32)), s2, vj (q0_7 x0 x1 x2 x3), s2, vj (x3 &&& (q0_7 x0 x1 x2 x3)), s2, vi (q0_8 x0 x1 x2 x3), vi (q0_9 x0 x1 x2 x3), vi (q0_10 x0 x1 x2 x3), vi (q0_11 x0 x1 x2 x3), us, us, us, us, us] [(.int (q0_10 x0 x1 x2 x3)), (.int ((q0_8 x0 x1 x2 x3) + (q0_9 x0 x1 x2 x3)))])) := by
    intro P k
    by_cases k22 : ((x3 &&& (q0_7 x0 x1 x2 x3)) &&& (f1 (q0_1 x0 x1 x2 x3) (2 : Int32))) = (0 : Int64)
    · refine o_ifN B4 198 201 at_198 rfl ((b_eq_f (c := ((x3 &&& (q0_7 x0 x1 x2 x3)) &&& (f1 (q0_1 x0 x1 x2 x3) (2 : Int32))) = (0 : Int64))) k22) ?_
      refine o_iconst B4 201 202 (1 : Int32) at_201 rfl (by decide) ?_
      refine o_goto B4 202 206 at_202 (by decide) (by decide) ?_
      have y0 : (q0_10 x0 x1 x2 x3) = (1 : Int32) := by simp only [q0_10, if_pos k22]
      rw [y0] at k
      rw [y0]
      exact k
    · refine o_ifY B4 198 205 at_198 ((b_eq_t (c := ((x3 &&& (q0_7 x0 x1 x2 x3)) &&& (f1 (q0_1 x0 x1 x2 x3) (2 : Int32))) = (0 : Int64))) k22) (by decide) (by decide) ?_
      refine o_iconst B4 205 206 (0 : Int32) at_205 rfl (by decide) ?_
      have y0 : (q0_10 x0 x1 x2 x3) = (0 : Int32) := by simp only [q0_10, if_neg k22]
      rw [y0] at k
      rw [y0]
      exact k
  refine dm21 ?_
  refine o_iadd B4 206 207 at_206 rfl ?_
  refine o_iload B4 207 209 (v := (q0_11 x0 x1 x2 x3)) at_207 rfl rfl ?_
  have dm23 : ∀ {P : Outcome → State → Prop}, OG p.tables e below P (T4.setTop (mkF m 217 #[vi x0, vi x1, vi x2, vj x3, s2, vi (q0_1 x0 x1 x2 x3), vi (q0_2 x0 x1 x2 x3), vj (f1 (q0_1 x0 x1 x2 x3) (0 : Int32)), s2, vj (f1 (q0_1 x0 x1 x2 x3) (1 : Int32)), s2, vj (f1 (q0_1 x0 x1 x2 x3) (2 : Int32)), s2, vj (f1 (q0_1 x0 x1 x2 x3) (3 : Int32)), s2, vj (q0_7 x0 x1 x2 x3), s2, vj (x3 &&& (q0_7 x0 x1 x2 x3)), s2, vi (q0_8 x0 x1 x2 x3), vi (q0_9 x0 x1 x2 x3), vi (q0_10 x0 x1 x2 x3), vi (q0_11 x0 x1 x2 x3), us, us, us, us, us] [(.int (q0_11 x0 x1 x2 x3)), (.int (((q0_8 x0 x1 x2 x3) + (q0_9 x0 x1 x2 x3)) + (q0_10 x0 x1 x2 x3)))])) → OG p.tables e below P (T4.setTop (mkF m 209 #[vi x0, vi x1, vi x2, vj x3, s2, vi (q0_1 x0 x1 x2 x3), vi (q0_2 x0 x1 x2 x3), vj (f1 (q0_1 x0 x1 x2 x3) (0 : Int32)), s2, vj (f1 (q0_1 x0 x1 x2 x3) (1 : Int32)), s2, vj (f1 (q0_1 x0 x1 x2 x3) (2 : Int32)), s2, vj (f1 (q0_1 x0 x1 x2 x3) (3 : Int32)), s2, vj (q0_7 x0 x1 x2 x3), s2, vj (x3 &&& (q0_7 x0 x1 x2 x3)), s2, vi (q0_8 x0 x1 x2 x3), vi (q0_9 x0 x1 x2 x3), vi (q0_10 x0 x1 x2 x3), vi (q0_11 x0 x1 x2 x3), us, us, us, us, us] [(.int (q0_11 x0 x1 x2 x3)), (.int (((q0_8 x0 x1 x2 x3) + (q0_9 x0 x1 x2 x3)) + (q0_10 x0 x1 x2 x3)))])) := by
    intro P k
    by_cases k24 : ((x3 &&& (q0_7 x0 x1 x2 x3)) &&& (f1 (q0_1 x0 x1 x2 x3) (3 : Int32))) = (0 : Int64)
    · refine o_ifN B4 209 212 at_209 rfl ((b_eq_f (c := ((x3 &&& (q0_7 x0 x1 x2 x3)) &&& (f1 (q0_1 x0 x1 x2 x3) (3 : Int32))) = (0 : Int64))) k24) ?_
      refine o_iconst B4 212 213 (1 : Int32) at_212 rfl (by decide) ?_
      refine o_goto B4 213 217 at_213 (by decide) (by decide) ?_
      have y0 : (q0_11 x0 x1 x2 x3) = (1 : Int32) := by simp only [q0_11, if_pos k24]
      rw [y0] at k
      rw [y0]
      exact k
    · refine o_ifY B4 209 216 at_209 ((b_eq_t (c := ((x3 &&& (q0_7 x0 x1 x2 x3)) &&& (f1 (q0_1 x0 x1 x2 x3) (3 : Int32))) = (0 : Int64))) k24) (by decide) (by decide) ?_
      refine o_iconst B4 216 217 (0 : Int32) at_216 rfl (by decide) ?_
      have y0 : (q0_11 x0 x1 x2 x3) = (0 : Int32) := by simp only [q0_11, if_neg k24]
      rw [y0] at k
      rw [y0]
      exact k
  refine dm23 ?_
  refine o_iadd B4 217 218 at_217 rfl ?_
  refine o_istore B4 218 220 (l' := #[vi x0, vi x1, vi x2, vj x3, s2, vi (q0_1 x0 x1 x2 x3), vi (q0_2 x0 x1 x2 x3), vj (f1 (q0_1 x0 x1 x2 x3) (0 : Int32)), s2, vj (f1 (q0_1 x0 x1 x2 x3) (1 : Int32)), s2, vj (f1 (q0_1 x0 x1 x2 x3) (2 : Int32)), s2, vj (f1 (q0_1 x0 x1 x2 x3) (3 : Int32)), s2, vj (q0_7 x0 x1 x2 x3), s2, vj (x3 &&& (q0_7 x0 x1 x2 x3)), s2, vi (q0_8 x0 x1 x2 x3), vi (q0_9 x0 x1 x2 x3), vi (q0_10 x0 x1 x2 x3), vi (q0_11 x0 x1 x2 x3), vi (q0_12 x0 x1 x2 x3), us, us, us, us]) at_218 rfl rfl ?_
  refine o_iload B4 220 222 (v := (q0_12 x0 x1 x2 x3)) at_220 rfl rfl ?_
  refine o_iload B4 222 224 (v := (q0_2 x0 x1 x2 x3)) at_222 rfl rfl ?_
  by_cases k25 : (q0_12 x0 x1 x2 x3) < (q0_2 x0 x1 x2 x3)
  · refine o_icN B4 224 227 at_224 rfl (XT.ii_ge_f k25) ?_
    refine o_iconst B4 227 228 (1 : Int32) at_227 rfl (by decide) ?_
    refine o_retZ (t := .boolean) B4 228 at_228 hret hlk (by simp) (by decide) (by decide) ⟨(congrArg (fun z => some (Value.int z)) ((show nar .boolean (1 : Int32) = (1 : Int32) from rfl).trans (show f0 x0 x1 x2 x3 = (1 : Int32) from (if_pos k25).trans (rfl)).symm)), N0⟩
  · refine o_icY B4 224 229 at_224 (XT.ii_ge_t k25) (by decide) (by decide) ?_
    refine o_lconst B4 229 230 (0 : Int64) at_229 rfl (by decide) ?_
    refine o_lstore B4 230 232 (l' := #[vi x0, vi x1, vi x2, vj x3, s2, vi (q0_1 x0 x1 x2 x3), vi (q0_2 x0 x1 x2 x3), vj (f1 (q0_1 x0 x1 x2 x3) (0 : Int32)), s2, vj (f1 (q0_1 x0 x1 x2 x3) (1 : Int32)), s2, vj (f1 (q0_1 x0 x1 x2 x3) (2 : Int32)), s2, vj (f1 (q0_1 x0 x1 x2 x3) (3 : Int32)), s2, vj (q0_7 x0 x1 x2 x3), s2, vj (x3 &&& (q0_7 x0 x1 x2 x3)), s2, vi (q0_8 x0 x1 x2 x3), vi (q0_9 x0 x1 x2 x3), vi (q0_10 x0 x1 x2 x3), vi (q0_11 x0 x1 x2 x3), vi (q0_12 x0 x1 x2 x3), vj 0, s2, us, us]) at_230 rfl rfl ?_
    refine o_iconst B4 232 233 (0 : Int32) at_232 rfl (by decide) ?_
    refine o_istore B4 233 235 (l' := #[vi x0, vi x1, vi x2, vj x3, s2, vi (q0_1 x0 x1 x2 x3), vi (q0_2 x0 x1 x2 x3), vj (f1 (q0_1 x0 x1 x2 x3) (0 : Int32)), s2, vj (f1 (q0_1 x0 x1 x2 x3) (1 : Int32)), s2, vj (f1 (q0_1 x0 x1 x2 x3) (2 : Int32)), s2, vj (f1 (q0_1 x0 x1 x2 x3) (3 : Int32)), s2, vj (q0_7 x0 x1 x2 x3), s2, vj (x3 &&& (q0_7 x0 x1 x2 x3)), s2, vi (q0_8 x0 x1 x2 x3), vi (q0_9 x0 x1 x2 x3), vi (q0_10 x0 x1 x2 x3), vi (q0_11 x0 x1 x2 x3), vi (q0_12 x0 x1 x2 x3), vj 0, s2, vi 0, us]) at_233 rfl rfl ?_
    refine o_iload B4 235 237 (v := (q0_8 x0 x1 x2 x3)) at_235 rfl rfl ?_
    have dm26 : ∀ {P : Outcome → State → Prop}, OG p.tables e below P (T4.setTop (mkF m 256 #[vi x0, vi x1, vi x2, vj x3, s2, vi (q0_1 x0 x1 x2 x3), vi (q0_2 x0 x1 x2 x3), vj (f1 (q0_1 x0 x1 x2 x3) (0 : Int32)), s2, vj (f1 (q0_1 x0 x1 x2 x3) (1 : Int32)), s2, vj (f1 (q0_1 x0 x1 x2 x3) (2 : Int32)), s2, vj (f1 (q0_1 x0 x1 x2 x3) (3 : Int32)), s2, vj (q0_7 x0 x1 x2 x3), s2, vj (x3 &&& (q0_7 x0 x1 x2 x3)), s2, vi (q0_8 x0 x1 x2 x3), vi (q0_9 x0 x1 x2 x3), vi (q0_10 x0 x1 x2 x3), vi (q0_11 x0 x1 x2 x3), vi (q0_12 x0 x1 x2 x3), vj (q0_15 x0 x1 x2 x3), s2, vi (q0_16 x0 x1 x2 x3), us] [])) → OG p.tables e below P (T4.setTop (mkF m 237 #[vi x0, vi x1, vi x2, vj x3, s2, vi (q0_1 x0 x1 x2 x3), vi (q0_2 x0 x1 x2 x3), vj (f1 (q0_1 x0 x1 x2 x3) (0 : Int32)), s2, vj (f1 (q0_1 x0 x1 x2 x3) (1 : Int32)), s2, vj (f1 (q0_1 x0 x1 x2 x3) (2 : Int32)), s2, vj (f1 (q0_1 x0 x1 x2 x3) (3 : Int32)), s2, vj (q0_7 x0 x1 x2 x3), s2, vj (x3 &&& (q0_7 x0 x1 x2 x3)), s2, vi (q0_8 x0 x1 x2 x3), vi (q0_9 x0 x1 x2 x3), vi (q0_10 x0 x1 x2 x3), vi (q0_11 x0 x1 x2 x3), vi (q0_12 x0 x1 x2 x3), vj 0, s2, vi 0, us] [(.int (q0_8 x0 x1 x2 x3))])) := by
      intro P k
      by_cases k27 : ((x3 &&& (q0_7 x0 x1 x2 x3)) &&& (f1 (q0_1 x0 x1 x2 x3) (0 : Int32))) = (0 : Int64)
      · refine o_ifN B4 237 240 at_237 rfl ((b_eq_f (c := ((x3 &&& (q0_7 x0 x1 x2 x3)) &&& (f1 (q0_1 x0 x1 x2 x3) (0 : Int32))) = (0 : Int64))) k27) ?_
        refine o_iload B4 240 242 (v := (0 : Int32)) at_240 rfl rfl ?_
        refine o_iload B4 242 244 (v := (q0_2 x0 x1 x2 x3)) at_242 rfl rfl ?_
        by_cases k28 : (0 : Int32) < (q0_2 x0 x1 x2 x3)
        · refine o_icN B4 244 247 at_244 rfl (XT.ii_ge_f k28) ?_
          refine o_lload B4 247 249 (v := (0 : Int64)) at_247 rfl rfl ?_
          refine o_lconst B4 249 250 (1 : Int64) at_249 rfl (by decide) ?_
          refine o_lor B4 250 251 at_250 rfl ?_
          refine o_topJ (show ((0 : Int64) ||| (1 : Int64)) = (1 : Int64) by decide) ?_
          refine o_lstore B4 251 253 (l' := #[vi x0, vi x1, vi x2, vj x3, s2, vi (q0_1 x0 x1 x2 x3), vi (q0_2 x0 x1 x2 x3), vj (f1 (q0_1 x0 x1 x2 x3) (0 : Int32)), s2, vj (f1 (q0_1 x0 x1 x2 x3) (1 : Int32)), s2, vj (f1 (q0_1 x0 x1 x2 x3) (2 : Int32)), s2, vj (f1 (q0_1 x0 x1 x2 x3) (3 : Int32)), s2, vj (q0_7 x0 x1 x2 x3), s2, vj (x3 &&& (q0_7 x0 x1 x2 x3)), s2, vi (q0_8 x0 x1 x2 x3), vi (q0_9 x0 x1 x2 x3), vi (q0_10 x0 x1 x2 x3), vi (q0_11 x0 x1 x2 x3), vi (q0_12 x0 x1 x2 x3), vj 1, s2, vi 0, us]) at_251 rfl rfl ?_
          refine o_iincC B4 253 256 (l' := #[vi x0, vi x1, vi x2, vj x3, s2, vi (q0_1 x0 x1 x2 x3), vi (q0_2 x0 x1 x2 x3), vj (f1 (q0_1 x0 x1 x2 x3) (0 : Int32)), s2, vj (f1 (q0_1 x0 x1 x2 x3) (1 : Int32)), s2, vj (f1 (q0_1 x0 x1 x2 x3) (2 : Int32)), s2, vj (f1 (q0_1 x0 x1 x2 x3) (3 : Int32)), s2, vj (q0_7 x0 x1 x2 x3), s2, vj (x3 &&& (q0_7 x0 x1 x2 x3)), s2, vi (q0_8 x0 x1 x2 x3), vi (q0_9 x0 x1 x2 x3), vi (q0_10 x0 x1 x2 x3), vi (q0_11 x0 x1 x2 x3), vi (q0_12 x0 x1 x2 x3), vj 1, s2, vi 1, us]) (1 : Int32) (1 : Int32) at_253 rfl (by decide) rfl (by decide) rfl ?_
          have y0 : (q0_15 x0 x1 x2 x3) = (1 : Int64) := by simp only [q0_13, q0_14, q0_15, q0_16, if_pos k27, if_pos k28]
          have y1 : (q0_16 x0 x1 x2 x3) = (1 : Int32) := by simp only [q0_13, q0_14, q0_15, q0_16, if_pos k27, if_pos k28]
          rw [y0, y1] at k
          exact k
        · refine o_icY B4 244 256 at_244 (XT.ii_ge_t k28) (by decide) (by decide) ?_
          have y0 : (q0_15 x0 x1 x2 x3) = (0 : Int64) := by simp only [q0_13, q0_14, q0_15, q0_16, if_pos k27, if_neg k28]
          have y1 : (q0_16 x0 x1 x2 x3) = (0 : Int32) := by simp only [q0_13, q0_14, q0_15, q0_16, if_pos k27, if_neg k28]
          rw [y0, y1] at k
          exact k
      · refine o_ifY B4 237 256 at_237 ((b_eq_t (c := ((x3 &&& (q0_7 x0 x1 x2 x3)) &&& (f1 (q0_1 x0 x1 x2 x3) (0 : Int32))) = (0 : Int64))) k27) (by decide) (by decide) ?_
        have y0 : (q0_15 x0 x1 x2 x3) = (0 : Int64) := by simp only [q0_13, q0_14, q0_15, q0_16, if_neg k27]
        have y1 : (q0_16 x0 x1 x2 x3) = (0 : Int32) := by simp only [q0_13, q0_14, q0_15, q0_16, if_neg k27]
        rw [y0, y1] at k
        exact k
    refine dm26 ?_
    refine o_iload B4 256 258 (v := (q0_9 x0 x1 x2 x3)) at_256 rfl rfl ?_
    have dm29 : ∀ {P : Outcome → State → Prop}, OG p.tables e below P (T4.setTop (mkF m 279 #[vi x0, vi x1, vi x2, vj x3, s2, vi (q0_1 x0 x1 x2 x3), vi (q0_2 x0 x1 x2 x3), vj (f1 (q0_1 x0 x1 x2 x3) (0 : Int32)), s2, vj (f1 (q0_1 x0 x1 x2 x3) (1 : Int32)), s2, vj (f1 (q0_1 x0 x1 x2 x3) (2 : Int32)), s2, vj (f1 (q0_1 x0 x1 x2 x3) (3 : Int32)), s2, vj (q0_7 x0 x1 x2 x3), s2, vj (x3 &&& (q0_7 x0 x1 x2 x3)), s2, vi (q0_8 x0 x1 x2 x3), vi (q0_9 x0 x1 x2 x3), vi (q0_10 x0 x1 x2 x3), vi (q0_11 x0 x1 x2 x3), vi (q0_12 x0 x1 x2 x3), vj (q0_19 x0 x1 x2 x3), s2, vi (q0_20 x0 x1 x2 x3), us] [])) → OG p.tables e below P (T4.setTop (mkF m 258 #[vi x0, vi x1, vi x2, vj x3, s2, vi (q0_1 x0 x1 x2 x3), vi (q0_2 x0 x1 x2 x3), vj (f1 (q0_1 x0 x1 x2 x3) (0 : Int32)), s2, vj (f1 (q0_1 x0 x1 x2 x3) (1 : Int32)), s2, vj (f1 (q0_1 x0 x1 x2 x3) (2 : Int32)), s2, vj (f1 (q0_1 x0 x1 x2 x3) (3 : Int32)), s2, vj (q0_7 x0 x1 x2 x3), s2, vj (x3 &&& (q0_7 x0 x1 x2 x3)), s2, vi (q0_8 x0 x1 x2 x3), vi (q0_9 x0 x1 x2 x3), vi (q0_10 x0 x1 x2 x3), vi (q0_11 x0 x1 x2 x3), vi (q0_12 x0 x1 x2 x3), vj (q0_15 x0 x1 x2 x3), s2, vi (q0_16 x0 x1 x2 x3), us] [(.int (q0_9 x0 x1 x2 x3))])) := by
      intro P k
      by_cases k30 : ((x3 &&& (q0_7 x0 x1 x2 x3)) &&& (f1 (q0_1 x0 x1 x2 x3) (1 : Int32))) = (0 : Int64)
      · refine o_ifN B4 258 261 at_258 rfl ((b_eq_f (c := ((x3 &&& (q0_7 x0 x1 x2 x3)) &&& (f1 (q0_1 x0 x1 x2 x3) (1 : Int32))) = (0 : Int64))) k30) ?_
        refine o_iload B4 261 263 (v := (q0_16 x0 x1 x2 x3)) at_261 rfl rfl ?_
        refine o_iload B4 263 265 (v := (q0_2 x0 x1 x2 x3)) at_263 rfl rfl ?_
        by_cases k31 : (q0_16 x0 x1 x2 x3) < (q0_2 x0 x1 x2 x3)
        · refine o_icN B4 265 268 at_265 rfl (XT.ii_ge_f k31) ?_
          refine o_lload B4 268 270 (v := (q0_15 x0 x1 x2 x3)) at_268 rfl rfl ?_
          refine o_ldc2 B4 270 273 at_270 rfl (hw _ (mi 12 rfl)) ?_
          refine o_lor B4 273 274 at_273 rfl ?_
          refine o_lstore B4 274 276 (l' := #[vi x0, vi x1, vi x2, vj x3, s2, vi (q0_1 x0 x1 x2 x3), vi (q0_2 x0 x1 x2 x3), vj (f1 (q0_1 x0 x1 x2 x3) (0 : Int32)), s2, vj (f1 (q0_1 x0 x1 x2 x3) (1 : Int32)), s2, vj (f1 (q0_1 x0 x1 x2 x3) (2 : Int32)), s2, vj (f1 (q0_1 x0 x1 x2 x3) (3 : Int32)), s2, vj (q0_7 x0 x1 x2 x3), s2, vj (x3 &&& (q0_7 x0 x1 x2 x3)), s2, vi (q0_8 x0 x1 x2 x3), vi (q0_9 x0 x1 x2 x3), vi (q0_10 x0 x1 x2 x3), vi (q0_11 x0 x1 x2 x3), vi (q0_12 x0 x1 x2 x3), vj ((q0_15 x0 x1 x2 x3) ||| (2 : Int64)), s2, vi (q0_16 x0 x1 x2 x3), us]) at_274 rfl rfl ?_
          refine o_iinc B4 276 279 (l' := #[vi x0, vi x1, vi x2, vj x3, s2, vi (q0_1 x0 x1 x2 x3), vi (q0_2 x0 x1 x2 x3), vj (f1 (q0_1 x0 x1 x2 x3) (0 : Int32)), s2, vj (f1 (q0_1 x0 x1 x2 x3) (1 : Int32)), s2, vj (f1 (q0_1 x0 x1 x2 x3) (2 : Int32)), s2, vj (f1 (q0_1 x0 x1 x2 x3) (3 : Int32)), s2, vj (q0_7 x0 x1 x2 x3), s2, vj (x3 &&& (q0_7 x0 x1 x2 x3)), s2, vi (q0_8 x0 x1 x2 x3), vi (q0_9 x0 x1 x2 x3), vi (q0_10 x0 x1 x2 x3), vi (q0_11 x0 x1 x2 x3), vi (q0_12 x0 x1 x2 x3), vj ((q0_15 x0 x1 x2 x3) ||| (2 : Int64)), s2, vi ((q0_16 x0 x1 x2 x3) + (1 : Int32)), us]) (1 : Int32) at_276 rfl (by decide) rfl rfl ?_
          have y0 : (q0_19 x0 x1 x2 x3) = ((q0_15 x0 x1 x2 x3) ||| (2 : Int64)) := by simp only [q0_17, q0_18, q0_19, q0_20, if_pos k30, if_pos k31]
          have y1 : (q0_20 x0 x1 x2 x3) = ((q0_16 x0 x1 x2 x3) + (1 : Int32)) := by simp only [q0_17, q0_18, q0_19, q0_20, if_pos k30, if_pos k31]
          rw [y0, y1] at k
          exact k
        · refine o_icY B4 265 279 at_265 (XT.ii_ge_t k31) (by decide) (by decide) ?_
          have y0 : (q0_19 x0 x1 x2 x3) = (q0_15 x0 x1 x2 x3) := by simp only [q0_17, q0_18, q0_19, q0_20, if_pos k30, if_neg k31]
          have y1 : (q0_20 x0 x1 x2 x3) = (q0_16 x0 x1 x2 x3) := by simp only [q0_17, q0_18, q0_19, q0_20, if_pos k30, if_neg k31]
          rw [y0, y1] at k
          exact k
      · refine o_ifY B4 258 279 at_258 ((b_eq_t (c := ((x3 &&& (q0_7 x0 x1 x2 x3)) &&& (f1 (q0_1 x0 x1 x2 x3) (1 : Int32))) = (0 : Int64))) k30) (by decide) (by decide) ?_
        have y0 : (q0_19 x0 x1 x2 x3) = (q0_15 x0 x1 x2 x3) := by simp only [q0_17, q0_18, q0_19, q0_20, if_neg k30]
        have y1 : (q0_20 x0 x1 x2 x3) = (q0_16 x0 x1 x2 x3) := by simp only [q0_17, q0_18, q0_19, q0_20, if_neg k30]
        rw [y0, y1] at k
        exact k
    refine dm29 ?_
    refine o_iload B4 279 281 (v := (q0_10 x0 x1 x2 x3)) at_279 rfl rfl ?_
    have dm32 : ∀ {P : Outcome → State → Prop}, OG p.tables e below P (T4.setTop (mkF m 302 #[vi x0, vi x1, vi x2, vj x3, s2, vi (q0_1 x0 x1 x2 x3), vi (q0_2 x0 x1 x2 x3), vj (f1 (q0_1 x0 x1 x2 x3) (0 : Int32)), s2, vj (f1 (q0_1 x0 x1 x2 x3) (1 : Int32)), s2, vj (f1 (q0_1 x0 x1 x2 x3) (2 : Int32)), s2, vj (f1 (q0_1 x0 x1 x2 x3) (3 : Int32)), s2, vj (q0_7 x0 x1 x2 x3), s2, vj (x3 &&& (q0_7 x0 x1 x2 x3)), s2, vi (q0_8 x0 x1 x2 x3), vi (q0_9 x0 x1 x2 x3), vi (q0_10 x0 x1 x2 x3), vi (q0_11 x0 x1 x2 x3), vi (q0_12 x0 x1 x2 x3), vj (q0_23 x0 x1 x2 x3), s2, vi (q0_24 x0 x1 x2 x3), us] [])) → OG p.tables e below P (T4.setTop (mkF m 281 #[vi x0, vi x1, vi x2, vj x3, s2, vi (q0_1 x0 x1 x2 x3), vi (q0_2 x0 x1 x2 x3), vj (f1 (q0_1 x0 x1 x2 x3) (0 : Int32)), s2, vj (f1 (q0_1 x0 x1 x2 x3) (1 : Int32)), s2, vj (f1 (q0_1 x0 x1 x2 x3) (2 : Int32)), s2, vj (f1 (q0_1 x0 x1 x2 x3) (3 : Int32)), s2, vj (q0_7 x0 x1 x2 x3), s2, vj (x3 &&& (q0_7 x0 x1 x2 x3)), s2, vi (q0_8 x0 x1 x2 x3), vi (q0_9 x0 x1 x2 x3), vi (q0_10 x0 x1 x2 x3), vi (q0_11 x0 x1 x2 x3), vi (q0_12 x0 x1 x2 x3), vj (q0_19 x0 x1 x2 x3), s2, vi (q0_20 x0 x1 x2 x3), us] [(.int (q0_10 x0 x1 x2 x3))])) := by
      intro P k
      by_cases k33 : ((x3 &&& (q0_7 x0 x1 x2 x3)) &&& (f1 (q0_1 x0 x1 x2 x3) (2 : Int32))) = (0 : Int64)
      · refine o_ifN B4 281 284 at_281 rfl ((b_eq_f (c := ((x3 &&& (q0_7 x0 x1 x2 x3)) &&& (f1 (q0_1 x0 x1 x2 x3) (2 : Int32))) = (0 : Int64))) k33) ?_
        refine o_iload B4 284 286 (v := (q0_20 x0 x1 x2 x3)) at_284 rfl rfl ?_
        refine o_iload B4 286 288 (v := (q0_2 x0 x1 x2 x3)) at_286 rfl rfl ?_
        by_cases k34 : (q0_20 x0 x1 x2 x3) < (q0_2 x0 x1 x2 x3)
        · refine o_icN B4 288 291 at_288 rfl (XT.ii_ge_f k34) ?_
          refine o_lload B4 291 293 (v := (q0_19 x0 x1 x2 x3)) at_291 rfl rfl ?_
          refine o_ldc2 B4 293 296 at_293 rfl (hw _ (mi 13 rfl)) ?_
          refine o_lor B4 296 297 at_296 rfl ?_
          refine o_lstore B4 297 299 (l' := #[vi x0, vi x1, vi x2, vj x3, s2, vi (q0_1 x0 x1 x2 x3), vi (q0_2 x0 x1 x2 x3), vj (f1 (q0_1 x0 x1 x2 x3) (0 : Int32)), s2, vj (f1 (q0_1 x0 x1 x2 x3) (1 : Int32)), s2, vj (f1 (q0_1 x0 x1 x2 x3) (2 : Int32)), s2, vj (f1 (q0_1 x0 x1 x2 x3) (3 : Int32)), s2, vj (q0_7 x0 x1 x2 x3), s2, vj (x3 &&& (q0_7 x0 x1 x2 x3)), s2, vi (q0_8 x0 x1 x2 x3), vi (q0_9 x0 x1 x2 x3), vi (q0_10 x0 x1 x2 x3), vi (q0_11 x0 x1 x2 x3), vi (q0_12 x0 x1 x2 x3), vj ((q0_19 x0 x1 x2 x3) ||| (4 : Int64)), s2, vi (q0_20 x0 x1 x2 x3), us]) at_297 rfl rfl ?_
          refine o_iinc B4 299 302 (l' := #[vi x0, vi x1, vi x2, vj x3, s2, vi (q0_1 x0 x1 x2 x3), vi (q0_2 x0 x1 x2 x3), vj (f1 (q0_1 x0 x1 x2 x3) (0 : Int32)), s2, vj (f1 (q0_1 x0 x1 x2 x3) (1 : Int32)), s2, vj (f1 (q0_1 x0 x1 x2 x3) (2 : Int32)), s2, vj (f1 (q0_1 x0 x1 x2 x3) (3 : Int32)), s2, vj (q0_7 x0 x1 x2 x3), s2, vj (x3 &&& (q0_7 x0 x1 x2 x3)), s2, vi (q0_8 x0 x1 x2 x3), vi (q0_9 x0 x1 x2 x3), vi (q0_10 x0 x1 x2 x3), vi (q0_11 x0 x1 x2 x3), vi (q0_12 x0 x1 x2 x3), vj ((q0_19 x0 x1 x2 x3) ||| (4 : Int64)), s2, vi ((q0_20 x0 x1 x2 x3) + (1 : Int32)), us]) (1 : Int32) at_299 rfl (by decide) rfl rfl ?_
          have y0 : (q0_23 x0 x1 x2 x3) = ((q0_19 x0 x1 x2 x3) ||| (4 : Int64)) := by simp only [q0_21, q0_22, q0_23, q0_24, if_pos k33, if_pos k34]
          have y1 : (q0_24 x0 x1 x2 x3) = ((q0_20 x0 x1 x2 x3) + (1 : Int32)) := by simp only [q0_21, q0_22, q0_23, q0_24, if_pos k33, if_pos k34]
          rw [y0, y1] at k
          exact k
        · refine o_icY B4 288 302 at_288 (XT.ii_ge_t k34) (by decide) (by decide) ?_
          have y0 : (q0_23 x0 x1 x2 x3) = (q0_19 x0 x1 x2 x3) := by simp only [q0_21, q0_22, q0_23, q0_24, if_pos k33, if_neg k34]
          have y1 : (q0_24 x0 x1 x2 x3) = (q0_20 x0 x1 x2 x3) := by simp only [q0_21, q0_22, q0_23, q0_24, if_pos k33, if_neg k34]
          rw [y0, y1] at k
          exact k
      · refine o_ifY B4 281 302 at_281 ((b_eq_t (c := ((x3 &&& (q0_7 x0 x1 x2 x3)) &&& (f1 (q0_1 x0 x1 x2 x3) (2 : Int32))) = (0 : Int64))) k33) (by decide) (by decide) ?_
        have y0 : (q0_23 x0 x1 x2 x3) = (q0_19 x0 x1 x2 x3) := by simp only [q0_21, q0_22, q0_23, q0_24, if_neg k33]
        have y1 : (q0_24 x0 x1 x2 x3) = (q0_20 x0 x1 x2 x3) := by simp only [q0_21, q0_22, q0_23, q0_24, if_neg k33]
        rw [y0, y1] at k
        exact k
    refine dm32 ?_
    refine o_iload B4 302 304 (v := (q0_11 x0 x1 x2 x3)) at_302 rfl rfl ?_
    have dm35 : ∀ {P : Outcome → State → Prop}, OG p.tables e below P (T4.setTop (mkF m 325 #[vi x0, vi x1, vi x2, vj x3, s2, vi (q0_1 x0 x1 x2 x3), vi (q0_2 x0 x1 x2 x3), vj (f1 (q0_1 x0 x1 x2 x3) (0 : Int32)), s2, vj (f1 (q0_1 x0 x1 x2 x3) (1 : Int32)), s2, vj (f1 (q0_1 x0 x1 x2 x3) (2 : Int32)), s2, vj (f1 (q0_1 x0 x1 x2 x3) (3 : Int32)), s2, vj (q0_7 x0 x1 x2 x3), s2, vj (x3 &&& (q0_7 x0 x1 x2 x3)), s2, vi (q0_8 x0 x1 x2 x3), vi (q0_9 x0 x1 x2 x3), vi (q0_10 x0 x1 x2 x3), vi (q0_11 x0 x1 x2 x3), vi (q0_12 x0 x1 x2 x3), vj (q0_27 x0 x1 x2 x3), s2, vi (q0_28 x0 x1 x2 x3), us] [])) → OG p.tables e below P (T4.setTop (mkF m 304 #[vi x0, vi x1, vi x2, vj x3, s2, vi (q0_1 x0 x1 x2 x3), vi (q0_2 x0 x1 x2 x3), vj (f1 (q0_1 x0 x1 x2 x3) (0 : Int32)), s2, vj (f1 (q0_1 x0 x1 x2 x3) (1 : Int32)), s2, vj (f1 (q0_1 x0 x1 x2 x3) (2 : Int32)), s2, vj (f1 (q0_1 x0 x1 x2 x3) (3 : Int32)), s2, vj (q0_7 x0 x1 x2 x3), s2, vj (x3 &&& (q0_7 x0 x1 x2 x3)), s2, vi (q0_8 x0 x1 x2 x3), vi (q0_9 x0 x1 x2 x3), vi (q0_10 x0 x1 x2 x3), vi (q0_11 x0 x1 x2 x3), vi (q0_12 x0 x1 x2 x3), vj (q0_23 x0 x1 x2 x3), s2, vi (q0_24 x0 x1 x2 x3), us] [(.int (q0_11 x0 x1 x2 x3))])) := by
      intro P k
      by_cases k36 : ((x3 &&& (q0_7 x0 x1 x2 x3)) &&& (f1 (q0_1 x0 x1 x2 x3) (3 : Int32))) = (0 : Int64)
      · refine o_ifN B4 304 307 at_304 rfl ((b_eq_f (c := ((x3 &&& (q0_7 x0 x1 x2 x3)) &&& (f1 (q0_1 x0 x1 x2 x3) (3 : Int32))) = (0 : Int64))) k36) ?_
        refine o_iload B4 307 309 (v := (q0_24 x0 x1 x2 x3)) at_307 rfl rfl ?_
        refine o_iload B4 309 311 (v := (q0_2 x0 x1 x2 x3)) at_309 rfl rfl ?_
        by_cases k37 : (q0_24 x0 x1 x2 x3) < (q0_2 x0 x1 x2 x3)
        · refine o_icN B4 311 314 at_311 rfl (XT.ii_ge_f k37) ?_
          refine o_lload B4 314 316 (v := (q0_23 x0 x1 x2 x3)) at_314 rfl rfl ?_
          refine o_ldc2 B4 316 319 at_316 rfl (hw _ (mi 14 rfl)) ?_
          refine o_lor B4 319 320 at_319 rfl ?_
          refine o_lstore B4 320 322 (l' := #[vi x0, vi x1, vi x2, vj x3, s2, vi (q0_1 x0 x1 x2 x3), vi (q0_2 x0 x1 x2 x3), vj (f1 (q0_1 x0 x1 x2 x3) (0 : Int32)), s2, vj (f1 (q0_1 x0 x1 x2 x3) (1 : Int32)), s2, vj (f1 (q0_1 x0 x1 x2 x3) (2 : Int32)), s2, vj (f1 (q0_1 x0 x1 x2 x3) (3 : Int32)), s2, vj (q0_7 x0 x1 x2 x3), s2, vj (x3 &&& (q0_7 x0 x1 x2 x3)), s2, vi (q0_8 x0 x1 x2 x3), vi (q0_9 x0 x1 x2 x3), vi (q0_10 x0 x1 x2 x3), vi (q0_11 x0 x1 x2 x3), vi (q0_12 x0 x1 x2 x3), vj ((q0_23 x0 x1 x2 x3) ||| (8 : Int64)), s2, vi (q0_24 x0 x1 x2 x3), us]) at_320 rfl rfl ?_
          refine o_iinc B4 322 325 (l' := #[vi x0, vi x1, vi x2, vj x3, s2, vi (q0_1 x0 x1 x2 x3), vi (q0_2 x0 x1 x2 x3), vj (f1 (q0_1 x0 x1 x2 x3) (0 : Int32)), s2, vj (f1 (q0_1 x0 x1 x2 x3) (1 : Int32)), s2, vj (f1 (q0_1 x0 x1 x2 x3) (2 : Int32)), s2, vj (f1 (q0_1 x0 x1 x2 x3) (3 : Int32)), s2, vj (q0_7 x0 x1 x2 x3), s2, vj (x3 &&& (q0_7 x0 x1 x2 x3)), s2, vi (q0_8 x0 x1 x2 x3), vi (q0_9 x0 x1 x2 x3), vi (q0_10 x0 x1 x2 x3), vi (q0_11 x0 x1 x2 x3), vi (q0_12 x0 x1 x2 x3), vj ((q0_23 x0 x1 x2 x3) ||| (8 : Int64)), s2, vi ((q0_24 x0 x1 x2 x3) + (1 : Int32)), us]) (1 : Int32) at_322 rfl (by decide) rfl rfl ?_
          have y0 : (q0_27 x0 x1 x2 x3) = ((q0_23 x0 x1 x2 x3) ||| (8 : Int64)) := by simp only [q0_25, q0_26, q0_27, q0_28, if_pos k36, if_pos k37]
          have y1 : (q0_28 x0 x1 x2 x3) = ((q0_24 x0 x1 x2 x3) + (1 : Int32)) := by simp only [q0_25, q0_26, q0_27, q0_28, if_pos k36, if_pos k37]
          rw [y0, y1] at k
          exact k
        · refine o_icY B4 311 325 at_311 (XT.ii_ge_t k37) (by decide) (by decide) ?_
          have y0 : (q0_27 x0 x1 x2 x3) = (q0_23 x0 x1 x2 x3) := by simp only [q0_25, q0_26, q0_27, q0_28, if_pos k36, if_neg k37]
          have y1 : (q0_28 x0 x1 x2 x3) = (q0_24 x0 x1 x2 x3) := by simp only [q0_25, q0_26, q0_27, q0_28, if_pos k36, if_neg k37]
          rw [y0, y1] at k
          exact k
      · refine o_ifY B4 304 325 at_304 ((b_eq_t (c := ((x3 &&& (q0_7 x0 x1 x2 x3)) &&& (f1 (q0_1 x0 x1 x2 x3) (3 : Int32))) = (0 : Int64))) k36) (by decide) (by decide) ?_
        have y0 : (q0_27 x0 x1 x2 x3) = (q0_23 x0 x1 x2 x3) := by simp only [q0_25, q0_26, q0_27, q0_28, if_neg k36]
        have y1 : (q0_28 x0 x1 x2 x3) = (q0_24 x0 x1 x2 x3) := by simp only [q0_25, q0_26, q0_27, q0_28, if_neg k36]
        rw [y0, y1] at k
        exact k
    refine dm35 ?_
    by_cases k38 : (q0_2 x0 x1 x2 x3) = (1 : Int32)
    · rw [k38]
      obtain ⟨a41, T41, h41, z41, B41, E41, X41, D41, c41⟩ := o_new B4 325 328 at_325 rfl (hw _ (mi 15 rfl)) (hw _ (mi 16 rfl)) (hw _ (mi 17 rfl)) (by decide) (by decide) (Ls := #[vi x0, vi x1, vi x2, vj x3, s2, vi (q0_1 x0 x1 x2 x3), vi 1, vj (f1 (q0_1 x0 x1 x2 x3) (0 : Int32)), s2, vj (f1 (q0_1 x0 x1 x2 x3) (1 : Int32)), s2, vj (f1 (q0_1 x0 x1 x2 x3) (2 : Int32)), s2, vj (f1 (q0_1 x0 x1 x2 x3) (3 : Int32)), s2, vj (q0_7 x0 x1 x2 x3), s2, vj (x3 &&& (q0_7 x0 x1 x2 x3)), s2, vi (q0_8 x0 x1 x2 x3), vi (q0_9 x0 x1 x2 x3), vi (q0_10 x0 x1 x2 x3), vi (q0_11 x0 x1 x2 x3), vi (q0_12 x0 x1 x2 x3), vj (q0_27 x0 x1 x2 x3), s2, vi (q0_28 x0 x1 x2 x3), us]) (rest := [])
      have g41 : n0 ≤ a41 := by rw [z41]; exact hz
      have s41 : n0 ≤ h41.size := Nat.le_trans hz E41.1
      have F42 : Fld Z h41 a41 "com/example/hyperplane/hyperplane/Blocks" "words" "I" (.int (0 : Int32)) := D41 (Or.inr (hw _ (mi 29 rfl))) (ty := .int) (by decide)
      have F43 : Fld Z h41 a41 "com/example/hyperplane/hyperplane/Blocks" "blocksPerGroup" "I" (.int (0 : Int32)) := D41 (Or.inr (hw _ (mi 41 rfl))) (ty := .int) (by decide)
      have F44 : Fld Z h41 a41 "com/example/hyperplane/hyperplane/Blocks" "keyBlocks" "I" (.int (0 : Int32)) := D41 (Or.inr (hw _ (mi 43 rfl))) (ty := .int) (by decide)
      have F45 : Fld Z h41 a41 "com/example/hyperplane/hyperplane/Blocks" "groupWidths" "[I" .null := D41 (Or.inr (hw _ (mi 46 rfl))) (ty := (.array .int)) (by decide)
      have F46 : Fld Z h41 a41 "com/example/hyperplane/hyperplane/Blocks" "firstWords" "[I" .null := D41 (Or.inr (hw _ (mi 48 rfl))) (ty := (.array .int)) (by decide)
      have F47 : Fld Z h41 a41 "com/example/hyperplane/hyperplane/Blocks" "shifts" "[I" .null := D41 (Or.inr (hw _ (mi 50 rfl))) (ty := (.array .int)) (by decide)
      have F48 : Fld Z h41 a41 "com/example/hyperplane/hyperplane/Blocks" "lowMasks" "[J" .null := D41 (Or.inr (hw _ (mi 53 rfl))) (ty := (.array .long)) (by decide)
      have F49 : Fld Z h41 a41 "com/example/hyperplane/hyperplane/Blocks" "highMasks" "[J" .null := D41 (Or.inr (hw _ (mi 55 rfl))) (ty := (.array .long)) (by decide)
      have F50 : Fld Z h41 a41 "com/example/hyperplane/hyperplane/Blocks" "blockOffsets" "[I" .null := D41 (Or.inr (hw _ (mi 57 rfl))) (ty := (.array .int)) (by decide)
      have F51 : Fld Z h41 a41 "com/example/hyperplane/hyperplane/Blocks" "blockWidths" "[I" .null := D41 (Or.inr (hw _ (mi 59 rfl))) (ty := (.array .int)) (by decide)
      have F52 : Fld Z h41 a41 "com/example/hyperplane/hyperplane/Blocks" "blockMasks" "[J" .null := D41 (Or.inr (hw _ (mi 61 rfl))) (ty := (.array .long)) (by decide)
      have F53 : Fld Z h41 a41 "com/example/hyperplane/hyperplane/Blocks" "keys" "[J" .null := D41 (Or.inr (hw _ (mi 63 rfl))) (ty := (.array .long)) (by decide)
      have F54 : Fld Z h41 a41 "com/example/hyperplane/hyperplane/Blocks" "tableGroups" "[I" .null := D41 (Or.inr (hw _ (mi 65 rfl))) (ty := (.array .int)) (by decide)
      have F55 : Fld Z h41 a41 "com/example/hyperplane/hyperplane/Blocks" "blockEnds" "[I" .null := D41 (Or.inr (hw _ (mi 67 rfl))) (ty := (.array .int)) (by decide)
      refine c41 ?_
      refine o_dup B41 328 329 at_328 rfl rfl ?_
      refine o_bipush B41 329 331 (64 : Int32) at_329 rfl (by decide) ?_
      refine o_iconst B41 331 332 (0 : Int32) at_331 rfl (by decide) ?_
      refine o_iconst B41 332 333 (3 : Int32) at_332 rfl (by decide) ?_
      refine o_iconst B41 333 334 (4 : Int32) at_333 rfl (by decide) ?_
      refine o_iload B41 334 336 (v := (1 : Int32)) at_334 rfl rfl ?_
      obtain ⟨v56, T56, L56, B56, Q56, c56⟩ := o_callN B41 336 339 at_336 rfl rfl (hw _ (mi 18 rfl)) (hw _ (mi 19 rfl)) (hw _ (mi 17 rfl)) (hw _ (mi 20 rfl)) (by decide) (rm2_4_1 l Z a0 hw a41 (64 : Int32) (3 : Int32) h41 n0 s41 g41 X41 F42 F43 F44 F45 F46 F47 F48 F49 F50 F51 F52 F53 F54 F55 own_hp) 1 [(.int (64 : Int32)), (.int (0 : Int32)), (.int (3 : Int32)), (.int (4 : Int32)), (.int (1 : Int32))] [(.ref a41)] pd__IIIII_V rfl rfl (st := [(.int (1 : Int32)), (.int (4 : Int32)), (.int (3 : Int32)), (.int (0 : Int32)), (.int (64 : Int32)), (.ref a41), (.ref a41)]) rfl (Ls := #[vi x0, vi x1, vi x2, vj x3, s2, vi (q0_1 x0 x1 x2 x3), vi 1, vj (f1 (q0_1 x0 x1 x2 x3) (0 : Int32)), s2, vj (f1 (q0_1 x0 x1 x2 x3) (1 : Int32)), s2, vj (f1 (q0_1 x0 x1 x2 x3) (2 : Int32)), s2, vj (f1 (q0_1 x0 x1 x2 x3) (3 : Int32)), s2, vj (q0_7 x0 x1 x2 x3), s2, vj (x3 &&& (q0_7 x0 x1 x2 x3)), s2, vi (q0_8 x0 x1 x2 x3), vi (q0_9 x0 x1 x2 x3), vi (q0_10 x0 x1 x2 x3), vi (q0_11 x0 x1 x2 x3), vi (q0_12 x0 x1 x2 x3), vj (q0_27 x0 x1 x2 x3), s2, vi (q0_28 x0 x1 x2 x3), us]) rfl (Nat.le_of_eq rfl) (by decide) (by decide) (by decide) (by decide)
      obtain ⟨rfl, M56, K56, H56_w, H56_p, H56_k, fw56, sh56, lm56, hm56, bm56, H56_fw, J56_fw, H56_sh, J56_sh, H56_lm, J56_lm, H56_hm, J56_hm, H56_bm, J56_bm⟩ := Q56
      have N56 := Fr.app N0 M56
      have s56 : n0 ≤ T56.heap.size := Nat.le_trans s41 K56.1
      have M56m : AJ Z _ bm56 12 own_ms := J56_bm
      refine c56 ?_
      show OG p.tables e below _ (T56.setTop (mkF m 339 #[vi x0, vi x1, vi x2, vj x3, s2, vi (q0_1 x0 x1 x2 x3), vi 1, vj (f1 (q0_1 x0 x1 x2 x3) (0 : Int32)), s2, vj (f1 (q0_1 x0 x1 x2 x3) (1 : Int32)), s2, vj (f1 (q0_1 x0 x1 x2 x3) (2 : Int32)), s2, vj (f1 (q0_1 x0 x1 x2 x3) (3 : Int32)), s2, vj (q0_7 x0 x1 x2 x3), s2, vj (x3 &&& (q0_7 x0 x1 x2 x3)), s2, vi (q0_8 x0 x1 x2 x3), vi (q0_9 x0 x1 x2 x3), vi (q0_10 x0 x1 x2 x3), vi (q0_11 x0 x1 x2 x3), vi (q0_12 x0 x1 x2 x3), vj (q0_27 x0 x1 x2 x3), s2, vi (q0_28 x0 x1 x2 x3), us] [(.ref a41)]))
      refine o_astore B56 339 341 (l' := #[vi x0, vi x1, vi x2, vj x3, s2, vi (q0_1 x0 x1 x2 x3), vi 1, vj (f1 (q0_1 x0 x1 x2 x3) (0 : Int32)), s2, vj (f1 (q0_1 x0 x1 x2 x3) (1 : Int32)), s2, vj (f1 (q0_1 x0 x1 x2 x3) (2 : Int32)), s2, vj (f1 (q0_1 x0 x1 x2 x3) (3 : Int32)), s2, vj (q0_7 x0 x1 x2 x3), s2, vj (x3 &&& (q0_7 x0 x1 x2 x3)), s2, vi (q0_8 x0 x1 x2 x3), vi (q0_9 x0 x1 x2 x3), vi (q0_10 x0 x1 x2 x3), vi (q0_11 x0 x1 x2 x3), vi (q0_12 x0 x1 x2 x3), vj (q0_27 x0 x1 x2 x3), s2, vi (q0_28 x0 x1 x2 x3), vr a41]) at_339 rfl rfl rfl ?_
      refine o_aload B56 341 343 (v := (.ref a41)) at_341 rfl rfl rfl ?_
      refine o_iload B56 343 345 (v := (q0_1 x0 x1 x2 x3)) at_343 rfl rfl ?_
      refine o_lload B56 345 347 (v := (x3 &&& (q0_7 x0 x1 x2 x3))) at_345 rfl rfl ?_
      have F57 := (X41.keep K56)
      obtain ⟨T58, B58, c58⟩ := o_callVP B56 347 350 at_347 rfl (hw _ (mi 87 rfl)) (hw _ (mi 88 rfl)) (hw _ (mi 90 rfl)) (hw _ (mi 89 rfl)) (hw _ (mi 17 rfl)) (hw _ (mi 91 rfl)) (by decide) F57 (rm12 l Z a0 hw a41 own_ms (1 : Int32) bm56 (q0_1 x0 x1 x2 x3) (x3 &&& (q0_7 x0 x1 x2 x3)) T56.heap H56_p H56_k H56_bm M56m (own_gr x0 x1 x2 x3) (by decide) (own_ag x0 x1 x2 x3 1 (by decide) k38 k25)) 0 [(.int (q0_1 x0 x1 x2 x3)), (.long (x3 &&& (q0_7 x0 x1 x2 x3)))] [] pd__IJ_J rfl rfl (st := [(.long (x3 &&& (q0_7 x0 x1 x2 x3))), (.int (q0_1 x0 x1 x2 x3)), (.ref a41)]) rfl (Ls := #[vi x0, vi x1, vi x2, vj x3, s2, vi (q0_1 x0 x1 x2 x3), vi 1, vj (f1 (q0_1 x0 x1 x2 x3) (0 : Int32)), s2, vj (f1 (q0_1 x0 x1 x2 x3) (1 : Int32)), s2, vj (f1 (q0_1 x0 x1 x2 x3) (2 : Int32)), s2, vj (f1 (q0_1 x0 x1 x2 x3) (3 : Int32)), s2, vj (q0_7 x0 x1 x2 x3), s2, vj (x3 &&& (q0_7 x0 x1 x2 x3)), s2, vi (q0_8 x0 x1 x2 x3), vi (q0_9 x0 x1 x2 x3), vi (q0_10 x0 x1 x2 x3), vi (q0_11 x0 x1 x2 x3), vi (q0_12 x0 x1 x2 x3), vj (q0_27 x0 x1 x2 x3), s2, vi (q0_28 x0 x1 x2 x3), vr a41]) rfl (Nat.le_of_eq rfl) (by decide) (by decide) (by decide) (by decide)
      refine c58 ?_
      refine o_lload B58 350 352 (v := (q0_27 x0 x1 x2 x3)) at_350 rfl rfl ?_
      refine o_lcmp B58 352 353 at_352 rfl ?_
      by_cases k39 : (q0_29 x0 x1 x2 x3) = (q0_27 x0 x1 x2 x3)
      · refine o_ifN B58 353 356 at_353 rfl (XT.ll_ne_f k39) ?_
        refine o_iconst B58 356 357 (1 : Int32) at_356 rfl (by decide) ?_
        refine o_goto B58 357 361 at_357 (by decide) (by decide) ?_
        refine o_retZ (t := .boolean) B58 361 at_361 hret hlk (by simp) (by decide) (by decide) ⟨(congrArg (fun z => some (Value.int z)) ((show nar .boolean (1 : Int32) = (1 : Int32) from rfl).trans (show f0 x0 x1 x2 x3 = (1 : Int32) from (if_neg k25).trans ((if_pos k38).trans ((if_pos k39).trans (rfl)))).symm)), N56⟩
      · refine o_ifY B58 353 360 at_353 (XT.ll_ne_t k39) (by decide) (by decide) ?_
        refine o_iconst B58 360 361 (0 : Int32) at_360 rfl (by decide) ?_
        refine o_retZ (t := .boolean) B58 361 at_361 hret hlk (by simp) (by decide) (by decide) ⟨(congrArg (fun z => some (Value.int z)) ((show nar .boolean (0 : Int32) = (0 : Int32) from rfl).trans (show f0 x0 x1 x2 x3 = (0 : Int32) from (if_neg k25).trans ((if_pos k38).trans ((if_neg k39).trans (rfl)))).symm)), N56⟩
    · by_cases k40 : (q0_2 x0 x1 x2 x3) = (2 : Int32)
      · rw [k40]
        obtain ⟨a59, T59, h59, z59, B59, E59, X59, D59, c59⟩ := o_new B4 325 328 at_325 rfl (hw _ (mi 15 rfl)) (hw _ (mi 16 rfl)) (hw _ (mi 17 rfl)) (by decide) (by decide) (Ls := #[vi x0, vi x1, vi x2, vj x3, s2, vi (q0_1 x0 x1 x2 x3), vi 2, vj (f1 (q0_1 x0 x1 x2 x3) (0 : Int32)), s2, vj (f1 (q0_1 x0 x1 x2 x3) (1 : Int32)), s2, vj (f1 (q0_1 x0 x1 x2 x3) (2 : Int32)), s2, vj (f1 (q0_1 x0 x1 x2 x3) (3 : Int32)), s2, vj (q0_7 x0 x1 x2 x3), s2, vj (x3 &&& (q0_7 x0 x1 x2 x3)), s2, vi (q0_8 x0 x1 x2 x3), vi (q0_9 x0 x1 x2 x3), vi (q0_10 x0 x1 x2 x3), vi (q0_11 x0 x1 x2 x3), vi (q0_12 x0 x1 x2 x3), vj (q0_27 x0 x1 x2 x3), s2, vi (q0_28 x0 x1 x2 x3), us]) (rest := [])
        have g59 : n0 ≤ a59 := by rw [z59]; exact hz
        have s59 : n0 ≤ h59.size := Nat.le_trans hz E59.1
        have F60 : Fld Z h59 a59 "com/example/hyperplane/hyperplane/Blocks" "words" "I" (.int (0 : Int32)) := D59 (Or.inr (hw _ (mi 29 rfl))) (ty := .int) (by decide)
        have F61 : Fld Z h59 a59 "com/example/hyperplane/hyperplane/Blocks" "blocksPerGroup" "I" (.int (0 : Int32)) := D59 (Or.inr (hw _ (mi 41 rfl))) (ty := .int) (by decide)
        have F62 : Fld Z h59 a59 "com/example/hyperplane/hyperplane/Blocks" "keyBlocks" "I" (.int (0 : Int32)) := D59 (Or.inr (hw _ (mi 43 rfl))) (ty := .int) (by decide)
        have F63 : Fld Z h59 a59 "com/example/hyperplane/hyperplane/Blocks" "groupWidths" "[I" .null := D59 (Or.inr (hw _ (mi 46 rfl))) (ty := (.array .int)) (by decide)
        have F64 : Fld Z h59 a59 "com/example/hyperplane/hyperplane/Blocks" "firstWords" "[I" .null := D59 (Or.inr (hw _ (mi 48 rfl))) (ty := (.array .int)) (by decide)
        have F65 : Fld Z h59 a59 "com/example/hyperplane/hyperplane/Blocks" "shifts" "[I" .null := D59 (Or.inr (hw _ (mi 50 rfl))) (ty := (.array .int)) (by decide)
        have F66 : Fld Z h59 a59 "com/example/hyperplane/hyperplane/Blocks" "lowMasks" "[J" .null := D59 (Or.inr (hw _ (mi 53 rfl))) (ty := (.array .long)) (by decide)
        have F67 : Fld Z h59 a59 "com/example/hyperplane/hyperplane/Blocks" "highMasks" "[J" .null := D59 (Or.inr (hw _ (mi 55 rfl))) (ty := (.array .long)) (by decide)
        have F68 : Fld Z h59 a59 "com/example/hyperplane/hyperplane/Blocks" "blockOffsets" "[I" .null := D59 (Or.inr (hw _ (mi 57 rfl))) (ty := (.array .int)) (by decide)
        have F69 : Fld Z h59 a59 "com/example/hyperplane/hyperplane/Blocks" "blockWidths" "[I" .null := D59 (Or.inr (hw _ (mi 59 rfl))) (ty := (.array .int)) (by decide)
        have F70 : Fld Z h59 a59 "com/example/hyperplane/hyperplane/Blocks" "blockMasks" "[J" .null := D59 (Or.inr (hw _ (mi 61 rfl))) (ty := (.array .long)) (by decide)
        have F71 : Fld Z h59 a59 "com/example/hyperplane/hyperplane/Blocks" "keys" "[J" .null := D59 (Or.inr (hw _ (mi 63 rfl))) (ty := (.array .long)) (by decide)
        have F72 : Fld Z h59 a59 "com/example/hyperplane/hyperplane/Blocks" "tableGroups" "[I" .null := D59 (Or.inr (hw _ (mi 65 rfl))) (ty := (.array .int)) (by decide)
        have F73 : Fld Z h59 a59 "com/example/hyperplane/hyperplane/Blocks" "blockEnds" "[I" .null := D59 (Or.inr (hw _ (mi 67 rfl))) (ty := (.array .int)) (by decide)
        refine c59 ?_
        refine o_dup B59 328 329 at_328 rfl rfl ?_
        refine o_bipush B59 329 331 (64 : Int32) at_329 rfl (by decide) ?_
        refine o_iconst B59 331 332 (0 : Int32) at_331 rfl (by decide) ?_
        refine o_iconst B59 332 333 (3 : Int32) at_332 rfl (by decide) ?_
        refine o_iconst B59 333 334 (4 : Int32) at_333 rfl (by decide) ?_
        refine o_iload B59 334 336 (v := (2 : Int32)) at_334 rfl rfl ?_
        obtain ⟨v74, T74, L74, B74, Q74, c74⟩ := o_callN B59 336 339 at_336 rfl rfl (hw _ (mi 18 rfl)) (hw _ (mi 19 rfl)) (hw _ (mi 17 rfl)) (hw _ (mi 20 rfl)) (by decide) (rm2_4_2 l Z a0 hw a59 (64 : Int32) (3 : Int32) h59 n0 s59 g59 X59 F60 F61 F62 F63 F64 F65 F66 F67 F68 F69 F70 F71 F72 F73 own_hp) 1 [(.int (64 : Int32)), (.int (0 : Int32)), (.int (3 : Int32)), (.int (4 : Int32)), (.int (2 : Int32))] [(.ref a59)] pd__IIIII_V rfl rfl (st := [(.int (2 : Int32)), (.int (4 : Int32)), (.int (3 : Int32)), (.int (0 : Int32)), (.int (64 : Int32)), (.ref a59), (.ref a59)]) rfl (Ls := #[vi x0, vi x1, vi x2, vj x3, s2, vi (q0_1 x0 x1 x2 x3), vi 2, vj (f1 (q0_1 x0 x1 x2 x3) (0 : Int32)), s2, vj (f1 (q0_1 x0 x1 x2 x3) (1 : Int32)), s2, vj (f1 (q0_1 x0 x1 x2 x3) (2 : Int32)), s2, vj (f1 (q0_1 x0 x1 x2 x3) (3 : Int32)), s2, vj (q0_7 x0 x1 x2 x3), s2, vj (x3 &&& (q0_7 x0 x1 x2 x3)), s2, vi (q0_8 x0 x1 x2 x3), vi (q0_9 x0 x1 x2 x3), vi (q0_10 x0 x1 x2 x3), vi (q0_11 x0 x1 x2 x3), vi (q0_12 x0 x1 x2 x3), vj (q0_27 x0 x1 x2 x3), s2, vi (q0_28 x0 x1 x2 x3), us]) rfl (Nat.le_of_eq rfl) (by decide) (by decide) (by decide) (by decide)
        obtain ⟨rfl, M74, K74, H74_w, H74_p, H74_k, fw74, sh74, lm74, hm74, bm74, H74_fw, J74_fw, H74_sh, J74_sh, H74_lm, J74_lm, H74_hm, J74_hm, H74_bm, J74_bm⟩ := Q74
        have N74 := Fr.app N0 M74
        have s74 : n0 ≤ T74.heap.size := Nat.le_trans s59 K74.1
        have M74m : AJ Z _ bm74 12 own_ms := J74_bm
        refine c74 ?_
        show OG p.tables e below _ (T74.setTop (mkF m 339 #[vi x0, vi x1, vi x2, vj x3, s2, vi (q0_1 x0 x1 x2 x3), vi 2, vj (f1 (q0_1 x0 x1 x2 x3) (0 : Int32)), s2, vj (f1 (q0_1 x0 x1 x2 x3) (1 : Int32)), s2, vj (f1 (q0_1 x0 x1 x2 x3) (2 : Int32)), s2, vj (f1 (q0_1 x0 x1 x2 x3) (3 : Int32)), s2, vj (q0_7 x0 x1 x2 x3), s2, vj (x3 &&& (q0_7 x0 x1 x2 x3)), s2, vi (q0_8 x0 x1 x2 x3), vi (q0_9 x0 x1 x2 x3), vi (q0_10 x0 x1 x2 x3), vi (q0_11 x0 x1 x2 x3), vi (q0_12 x0 x1 x2 x3), vj (q0_27 x0 x1 x2 x3), s2, vi (q0_28 x0 x1 x2 x3), us] [(.ref a59)]))
        refine o_astore B74 339 341 (l' := #[vi x0, vi x1, vi x2, vj x3, s2, vi (q0_1 x0 x1 x2 x3), vi 2, vj (f1 (q0_1 x0 x1 x2 x3) (0 : Int32)), s2, vj (f1 (q0_1 x0 x1 x2 x3) (1 : Int32)), s2, vj (f1 (q0_1 x0 x1 x2 x3) (2 : Int32)), s2, vj (f1 (q0_1 x0 x1 x2 x3) (3 : Int32)), s2, vj (q0_7 x0 x1 x2 x3), s2, vj (x3 &&& (q0_7 x0 x1 x2 x3)), s2, vi (q0_8 x0 x1 x2 x3), vi (q0_9 x0 x1 x2 x3), vi (q0_10 x0 x1 x2 x3), vi (q0_11 x0 x1 x2 x3), vi (q0_12 x0 x1 x2 x3), vj (q0_27 x0 x1 x2 x3), s2, vi (q0_28 x0 x1 x2 x3), vr a59]) at_339 rfl rfl rfl ?_
        refine o_aload B74 341 343 (v := (.ref a59)) at_341 rfl rfl rfl ?_
        refine o_iload B74 343 345 (v := (q0_1 x0 x1 x2 x3)) at_343 rfl rfl ?_
        refine o_lload B74 345 347 (v := (x3 &&& (q0_7 x0 x1 x2 x3))) at_345 rfl rfl ?_
        have F75 := (X59.keep K74)
        obtain ⟨T76, B76, c76⟩ := o_callVP B74 347 350 at_347 rfl (hw _ (mi 87 rfl)) (hw _ (mi 88 rfl)) (hw _ (mi 90 rfl)) (hw _ (mi 89 rfl)) (hw _ (mi 17 rfl)) (hw _ (mi 91 rfl)) (by decide) F75 (rm12 l Z a0 hw a59 own_ms (2 : Int32) bm74 (q0_1 x0 x1 x2 x3) (x3 &&& (q0_7 x0 x1 x2 x3)) T74.heap H74_p H74_k H74_bm M74m (own_gr x0 x1 x2 x3) (by decide) (own_ag x0 x1 x2 x3 2 (by decide) k40 k25)) 0 [(.int (q0_1 x0 x1 x2 x3)), (.long (x3 &&& (q0_7 x0 x1 x2 x3)))] [] pd__IJ_J rfl rfl (st := [(.long (x3 &&& (q0_7 x0 x1 x2 x3))), (.int (q0_1 x0 x1 x2 x3)), (.ref a59)]) rfl (Ls := #[vi x0, vi x1, vi x2, vj x3, s2, vi (q0_1 x0 x1 x2 x3), vi 2, vj (f1 (q0_1 x0 x1 x2 x3) (0 : Int32)), s2, vj (f1 (q0_1 x0 x1 x2 x3) (1 : Int32)), s2, vj (f1 (q0_1 x0 x1 x2 x3) (2 : Int32)), s2, vj (f1 (q0_1 x0 x1 x2 x3) (3 : Int32)), s2, vj (q0_7 x0 x1 x2 x3), s2, vj (x3 &&& (q0_7 x0 x1 x2 x3)), s2, vi (q0_8 x0 x1 x2 x3), vi (q0_9 x0 x1 x2 x3), vi (q0_10 x0 x1 x2 x3), vi (q0_11 x0 x1 x2 x3), vi (q0_12 x0 x1 x2 x3), vj (q0_27 x0 x1 x2 x3), s2, vi (q0_28 x0 x1 x2 x3), vr a59]) rfl (Nat.le_of_eq rfl) (by decide) (by decide) (by decide) (by decide)
        refine c76 ?_
        refine o_lload B76 350 352 (v := (q0_27 x0 x1 x2 x3)) at_350 rfl rfl ?_
        refine o_lcmp B76 352 353 at_352 rfl ?_
        by_cases k41 : (q0_30 x0 x1 x2 x3) = (q0_27 x0 x1 x2 x3)
        · refine o_ifN B76 353 356 at_353 rfl (XT.ll_ne_f k41) ?_
          refine o_iconst B76 356 357 (1 : Int32) at_356 rfl (by decide) ?_
          refine o_goto B76 357 361 at_357 (by decide) (by decide) ?_
          refine o_retZ (t := .boolean) B76 361 at_361 hret hlk (by simp) (by decide) (by decide) ⟨(congrArg (fun z => some (Value.int z)) ((show nar .boolean (1 : Int32) = (1 : Int32) from rfl).trans (show f0 x0 x1 x2 x3 = (1 : Int32) from (if_neg k25).trans ((if_neg k38).trans ((if_pos k40).trans ((if_pos k41).trans (rfl))))).symm)), N74⟩
        · refine o_ifY B76 353 360 at_353 (XT.ll_ne_t k41) (by decide) (by decide) ?_
          refine o_iconst B76 360 361 (0 : Int32) at_360 rfl (by decide) ?_
          refine o_retZ (t := .boolean) B76 361 at_361 hret hlk (by simp) (by decide) (by decide) ⟨(congrArg (fun z => some (Value.int z)) ((show nar .boolean (0 : Int32) = (0 : Int32) from rfl).trans (show f0 x0 x1 x2 x3 = (0 : Int32) from (if_neg k25).trans ((if_neg k38).trans ((if_pos k40).trans ((if_neg k41).trans (rfl))))).symm)), N74⟩
      · by_cases k42 : (q0_2 x0 x1 x2 x3) = (3 : Int32)
        · rw [k42]
          obtain ⟨a77, T77, h77, z77, B77, E77, X77, D77, c77⟩ := o_new B4 325 328 at_325 rfl (hw _ (mi 15 rfl)) (hw _ (mi 16 rfl)) (hw _ (mi 17 rfl)) (by decide) (by decide) (Ls := #[vi x0, vi x1, vi x2, vj x3, s2, vi (q0_1 x0 x1 x2 x3), vi 3, vj (f1 (q0_1 x0 x1 x2 x3) (0 : Int32)), s2, vj (f1 (q0_1 x0 x1 x2 x3) (1 : Int32)), s2, vj (f1 (q0_1 x0 x1 x2 x3) (2 : Int32)), s2, vj (f1 (q0_1 x0 x1 x2 x3) (3 : Int32)), s2, vj (q0_7 x0 x1 x2 x3), s2, vj (x3 &&& (q0_7 x0 x1 x2 x3)), s2, vi (q0_8 x0 x1 x2 x3), vi (q0_9 x0 x1 x2 x3), vi (q0_10 x0 x1 x2 x3), vi (q0_11 x0 x1 x2 x3), vi (q0_12 x0 x1 x2 x3), vj (q0_27 x0 x1 x2 x3), s2, vi (q0_28 x0 x1 x2 x3), us]) (rest := [])
          have g77 : n0 ≤ a77 := by rw [z77]; exact hz
          have s77 : n0 ≤ h77.size := Nat.le_trans hz E77.1
          have F78 : Fld Z h77 a77 "com/example/hyperplane/hyperplane/Blocks" "words" "I" (.int (0 : Int32)) := D77 (Or.inr (hw _ (mi 29 rfl))) (ty := .int) (by decide)
          have F79 : Fld Z h77 a77 "com/example/hyperplane/hyperplane/Blocks" "blocksPerGroup" "I" (.int (0 : Int32)) := D77 (Or.inr (hw _ (mi 41 rfl))) (ty := .int) (by decide)
          have F80 : Fld Z h77 a77 "com/example/hyperplane/hyperplane/Blocks" "keyBlocks" "I" (.int (0 : Int32)) := D77 (Or.inr (hw _ (mi 43 rfl))) (ty := .int) (by decide)
          have F81 : Fld Z h77 a77 "com/example/hyperplane/hyperplane/Blocks" "groupWidths" "[I" .null := D77 (Or.inr (hw _ (mi 46 rfl))) (ty := (.array .int)) (by decide)
          have F82 : Fld Z h77 a77 "com/example/hyperplane/hyperplane/Blocks" "firstWords" "[I" .null := D77 (Or.inr (hw _ (mi 48 rfl))) (ty := (.array .int)) (by decide)
          have F83 : Fld Z h77 a77 "com/example/hyperplane/hyperplane/Blocks" "shifts" "[I" .null := D77 (Or.inr (hw _ (mi 50 rfl))) (ty := (.array .int)) (by decide)
          have F84 : Fld Z h77 a77 "com/example/hyperplane/hyperplane/Blocks" "lowMasks" "[J" .null := D77 (Or.inr (hw _ (mi 53 rfl))) (ty := (.array .long)) (by decide)
          have F85 : Fld Z h77 a77 "com/example/hyperplane/hyperplane/Blocks" "highMasks" "[J" .null := D77 (Or.inr (hw _ (mi 55 rfl))) (ty := (.array .long)) (by decide)
          have F86 : Fld Z h77 a77 "com/example/hyperplane/hyperplane/Blocks" "blockOffsets" "[I" .null := D77 (Or.inr (hw _ (mi 57 rfl))) (ty := (.array .int)) (by decide)
          have F87 : Fld Z h77 a77 "com/example/hyperplane/hyperplane/Blocks" "blockWidths" "[I" .null := D77 (Or.inr (hw _ (mi 59 rfl))) (ty := (.array .int)) (by decide)
          have F88 : Fld Z h77 a77 "com/example/hyperplane/hyperplane/Blocks" "blockMasks" "[J" .null := D77 (Or.inr (hw _ (mi 61 rfl))) (ty := (.array .long)) (by decide)
          have F89 : Fld Z h77 a77 "com/example/hyperplane/hyperplane/Blocks" "keys" "[J" .null := D77 (Or.inr (hw _ (mi 63 rfl))) (ty := (.array .long)) (by decide)
          have F90 : Fld Z h77 a77 "com/example/hyperplane/hyperplane/Blocks" "tableGroups" "[I" .null := D77 (Or.inr (hw _ (mi 65 rfl))) (ty := (.array .int)) (by decide)
          have F91 : Fld Z h77 a77 "com/example/hyperplane/hyperplane/Blocks" "blockEnds" "[I" .null := D77 (Or.inr (hw _ (mi 67 rfl))) (ty := (.array .int)) (by decide)
          refine c77 ?_
          refine o_dup B77 328 329 at_328 rfl rfl ?_
          refine o_bipush B77 329 331 (64 : Int32) at_329 rfl (by decide) ?_
          refine o_iconst B77 331 332 (0 : Int32) at_331 rfl (by decide) ?_
          refine o_iconst B77 332 333 (3 : Int32) at_332 rfl (by decide) ?_
          refine o_iconst B77 333 334 (4 : Int32) at_333 rfl (by decide) ?_
          refine o_iload B77 334 336 (v := (3 : Int32)) at_334 rfl rfl ?_
          obtain ⟨v92, T92, L92, B92, Q92, c92⟩ := o_callN B77 336 339 at_336 rfl rfl (hw _ (mi 18 rfl)) (hw _ (mi 19 rfl)) (hw _ (mi 17 rfl)) (hw _ (mi 20 rfl)) (by decide) (rm2_4_3 l Z a0 hw a77 (64 : Int32) (3 : Int32) h77 n0 s77 g77 X77 F78 F79 F80 F81 F82 F83 F84 F85 F86 F87 F88 F89 F90 F91 own_hp) 1 [(.int (64 : Int32)), (.int (0 : Int32)), (.int (3 : Int32)), (.int (4 : Int32)), (.int (3 : Int32))] [(.ref a77)] pd__IIIII_V rfl rfl (st := [(.int (3 : Int32)), (.int (4 : Int32)), (.int (3 : Int32)), (.int (0 : Int32)), (.int (64 : Int32)), (.ref a77), (.ref a77)]) rfl (Ls := #[vi x0, vi x1, vi x2, vj x3, s2, vi (q0_1 x0 x1 x2 x3), vi 3, vj (f1 (q0_1 x0 x1 x2 x3) (0 : Int32)), s2, vj (f1 (q0_1 x0 x1 x2 x3) (1 : Int32)), s2, vj (f1 (q0_1 x0 x1 x2 x3) (2 : Int32)), s2, vj (f1 (q0_1 x0 x1 x2 x3) (3 : Int32)), s2, vj (q0_7 x0 x1 x2 x3), s2, vj (x3 &&& (q0_7 x0 x1 x2 x3)), s2, vi (q0_8 x0 x1 x2 x3), vi (q0_9 x0 x1 x2 x3), vi (q0_10 x0 x1 x2 x3), vi (q0_11 x0 x1 x2 x3), vi (q0_12 x0 x1 x2 x3), vj (q0_27 x0 x1 x2 x3), s2, vi (q0_28 x0 x1 x2 x3), us]) rfl (Nat.le_of_eq rfl) (by decide) (by decide) (by decide) (by decide)
          obtain ⟨rfl, M92, K92, H92_w, H92_p, H92_k, fw92, sh92, lm92, hm92, bm92, H92_fw, J92_fw, H92_sh, J92_sh, H92_lm, J92_lm, H92_hm, J92_hm, H92_bm, J92_bm⟩ := Q92
          have N92 := Fr.app N0 M92
          have s92 : n0 ≤ T92.heap.size := Nat.le_trans s77 K92.1
          have M92m : AJ Z _ bm92 12 own_ms := J92_bm
          refine c92 ?_
          show OG p.tables e below _ (T92.setTop (mkF m 339 #[vi x0, vi x1, vi x2, vj x3, s2, vi (q0_1 x0 x1 x2 x3), vi 3, vj (f1 (q0_1 x0 x1 x2 x3) (0 : Int32)), s2, vj (f1 (q0_1 x0 x1 x2 x3) (1 : Int32)), s2, vj (f1 (q0_1 x0 x1 x2 x3) (2 : Int32)), s2, vj (f1 (q0_1 x0 x1 x2 x3) (3 : Int32)), s2, vj (q0_7 x0 x1 x2 x3), s2, vj (x3 &&& (q0_7 x0 x1 x2 x3)), s2, vi (q0_8 x0 x1 x2 x3), vi (q0_9 x0 x1 x2 x3), vi (q0_10 x0 x1 x2 x3), vi (q0_11 x0 x1 x2 x3), vi (q0_12 x0 x1 x2 x3), vj (q0_27 x0 x1 x2 x3), s2, vi (q0_28 x0 x1 x2 x3), us] [(.ref a77)]))
          refine o_astore B92 339 341 (l' := #[vi x0, vi x1, vi x2, vj x3, s2, vi (q0_1 x0 x1 x2 x3), vi 3, vj (f1 (q0_1 x0 x1 x2 x3) (0 : Int32)), s2, vj (f1 (q0_1 x0 x1 x2 x3) (1 : Int32)), s2, vj (f1 (q0_1 x0 x1 x2 x3) (2 : Int32)), s2, vj (f1 (q0_1 x0 x1 x2 x3) (3 : Int32)), s2, vj (q0_7 x0 x1 x2 x3), s2, vj (x3 &&& (q0_7 x0 x1 x2 x3)), s2, vi (q0_8 x0 x1 x2 x3), vi (q0_9 x0 x1 x2 x3), vi (q0_10 x0 x1 x2 x3), vi (q0_11 x0 x1 x2 x3), vi (q0_12 x0 x1 x2 x3), vj (q0_27 x0 x1 x2 x3), s2, vi (q0_28 x0 x1 x2 x3), vr a77]) at_339 rfl rfl rfl ?_
          refine o_aload B92 341 343 (v := (.ref a77)) at_341 rfl rfl rfl ?_
          refine o_iload B92 343 345 (v := (q0_1 x0 x1 x2 x3)) at_343 rfl rfl ?_
          refine o_lload B92 345 347 (v := (x3 &&& (q0_7 x0 x1 x2 x3))) at_345 rfl rfl ?_
          have F93 := (X77.keep K92)
          obtain ⟨T94, B94, c94⟩ := o_callVP B92 347 350 at_347 rfl (hw _ (mi 87 rfl)) (hw _ (mi 88 rfl)) (hw _ (mi 90 rfl)) (hw _ (mi 89 rfl)) (hw _ (mi 17 rfl)) (hw _ (mi 91 rfl)) (by decide) F93 (rm12 l Z a0 hw a77 own_ms (3 : Int32) bm92 (q0_1 x0 x1 x2 x3) (x3 &&& (q0_7 x0 x1 x2 x3)) T92.heap H92_p H92_k H92_bm M92m (own_gr x0 x1 x2 x3) (by decide) (own_ag x0 x1 x2 x3 3 (by decide) k42 k25)) 0 [(.int (q0_1 x0 x1 x2 x3)), (.long (x3 &&& (q0_7 x0 x1 x2 x3)))] [] pd__IJ_J rfl rfl (st := [(.long (x3 &&& (q0_7 x0 x1 x2 x3))), (.int (q0_1 x0 x1 x2 x3)), (.ref a77)]) rfl (Ls := #[vi x0, vi x1, vi x2, vj x3, s2, vi (q0_1 x0 x1 x2 x3), vi 3, vj (f1 (q0_1 x0 x1 x2 x3) (0 : Int32)), s2, vj (f1 (q0_1 x0 x1 x2 x3) (1 : Int32)), s2, vj (f1 (q0_1 x0 x1 x2 x3) (2 : Int32)), s2, vj (f1 (q0_1 x0 x1 x2 x3) (3 : Int32)), s2, vj (q0_7 x0 x1 x2 x3), s2, vj (x3 &&& (q0_7 x0 x1 x2 x3)), s2, vi (q0_8 x0 x1 x2 x3), vi (q0_9 x0 x1 x2 x3), vi (q0_10 x0 x1 x2 x3), vi (q0_11 x0 x1 x2 x3), vi (q0_12 x0 x1 x2 x3), vj (q0_27 x0 x1 x2 x3), s2, vi (q0_28 x0 x1 x2 x3), vr a77]) rfl (Nat.le_of_eq rfl) (by decide) (by decide) (by decide) (by decide)
          refine c94 ?_
          refine o_lload B94 350 352 (v := (q0_27 x0 x1 x2 x3)) at_350 rfl rfl ?_
          refine o_lcmp B94 352 353 at_352 rfl ?_
          by_cases k43 : (q0_31 x0 x1 x2 x3) = (q0_27 x0 x1 x2 x3)
          · refine o_ifN B94 353 356 at_353 rfl (XT.ll_ne_f k43) ?_
            refine o_iconst B94 356 357 (1 : Int32) at_356 rfl (by decide) ?_
            refine o_goto B94 357 361 at_357 (by decide) (by decide) ?_
            refine o_retZ (t := .boolean) B94 361 at_361 hret hlk (by simp) (by decide) (by decide) ⟨(congrArg (fun z => some (Value.int z)) ((show nar .boolean (1 : Int32) = (1 : Int32) from rfl).trans (show f0 x0 x1 x2 x3 = (1 : Int32) from (if_neg k25).trans ((if_neg k38).trans ((if_neg k40).trans ((if_pos k42).trans ((if_pos k43).trans (rfl)))))).symm)), N92⟩
          · refine o_ifY B94 353 360 at_353 (XT.ll_ne_t k43) (by decide) (by decide) ?_
            refine o_iconst B94 360 361 (0 : Int32) at_360 rfl (by decide) ?_
            refine o_retZ (t := .boolean) B94 361 at_361 hret hlk (by simp) (by decide) (by decide) ⟨(congrArg (fun z => some (Value.int z)) ((show nar .boolean (0 : Int32) = (0 : Int32) from rfl).trans (show f0 x0 x1 x2 x3 = (0 : Int32) from (if_neg k25).trans ((if_neg k38).trans ((if_neg k40).trans ((if_pos k42).trans ((if_neg k43).trans (rfl)))))).symm)), N92⟩
        · have k44 : (q0_2 x0 x1 x2 x3) = (4 : Int32) := (own_kb x0 x1 x2 x3 k38 k40 k42)
          rw [k44]
          obtain ⟨a95, T95, h95, z95, B95, E95, X95, D95, c95⟩ := o_new B4 325 328 at_325 rfl (hw _ (mi 15 rfl)) (hw _ (mi 16 rfl)) (hw _ (mi 17 rfl)) (by decide) (by decide) (Ls := #[vi x0, vi x1, vi x2, vj x3, s2, vi (q0_1 x0 x1 x2 x3), vi 4, vj (f1 (q0_1 x0 x1 x2 x3) (0 : Int32)), s2, vj (f1 (q0_1 x0 x1 x2 x3) (1 : Int32)), s2, vj (f1 (q0_1 x0 x1 x2 x3) (2 : Int32)), s2, vj (f1 (q0_1 x0 x1 x2 x3) (3 : Int32)), s2, vj (q0_7 x0 x1 x2 x3), s2, vj (x3 &&& (q0_7 x0 x1 x2 x3)), s2, vi (q0_8 x0 x1 x2 x3), vi (q0_9 x0 x1 x2 x3), vi (q0_10 x0 x1 x2 x3), vi (q0_11 x0 x1 x2 x3), vi (q0_12 x0 x1 x2 x3), vj (q0_27 x0 x1 x2 x3), s2, vi (q0_28 x0 x1 x2 x3), us]) (rest := [])
          have g95 : n0 ≤ a95 := by rw [z95]; exact hz
          have s95 : n0 ≤ h95.size := Nat.le_trans hz E95.1
          have F96 : Fld Z h95 a95 "com/example/hyperplane/hyperplane/Blocks" "words" "I" (.int (0 : Int32)) := D95 (Or.inr (hw _ (mi 29 rfl))) (ty := .int) (by decide)
          have F97 : Fld Z h95 a95 "com/example/hyperplane/hyperplane/Blocks" "blocksPerGroup" "I" (.int (0 : Int32)) := D95 (Or.inr (hw _ (mi 41 rfl))) (ty := .int) (by decide)
          have F98 : Fld Z h95 a95 "com/example/hyperplane/hyperplane/Blocks" "keyBlocks" "I" (.int (0 : Int32)) := D95 (Or.inr (hw _ (mi 43 rfl))) (ty := .int) (by decide)
          have F99 : Fld Z h95 a95 "com/example/hyperplane/hyperplane/Blocks" "groupWidths" "[I" .null := D95 (Or.inr (hw _ (mi 46 rfl))) (ty := (.array .int)) (by decide)
          have F100 : Fld Z h95 a95 "com/example/hyperplane/hyperplane/Blocks" "firstWords" "[I" .null := D95 (Or.inr (hw _ (mi 48 rfl))) (ty := (.array .int)) (by decide)
          have F101 : Fld Z h95 a95 "com/example/hyperplane/hyperplane/Blocks" "shifts" "[I" .null := D95 (Or.inr (hw _ (mi 50 rfl))) (ty := (.array .int)) (by decide)
          have F102 : Fld Z h95 a95 "com/example/hyperplane/hyperplane/Blocks" "lowMasks" "[J" .null := D95 (Or.inr (hw _ (mi 53 rfl))) (ty := (.array .long)) (by decide)
          have F103 : Fld Z h95 a95 "com/example/hyperplane/hyperplane/Blocks" "highMasks" "[J" .null := D95 (Or.inr (hw _ (mi 55 rfl))) (ty := (.array .long)) (by decide)
          have F104 : Fld Z h95 a95 "com/example/hyperplane/hyperplane/Blocks" "blockOffsets" "[I" .null := D95 (Or.inr (hw _ (mi 57 rfl))) (ty := (.array .int)) (by decide)
          have F105 : Fld Z h95 a95 "com/example/hyperplane/hyperplane/Blocks" "blockWidths" "[I" .null := D95 (Or.inr (hw _ (mi 59 rfl))) (ty := (.array .int)) (by decide)
          have F106 : Fld Z h95 a95 "com/example/hyperplane/hyperplane/Blocks" "blockMasks" "[J" .null := D95 (Or.inr (hw _ (mi 61 rfl))) (ty := (.array .long)) (by decide)
          have F107 : Fld Z h95 a95 "com/example/hyperplane/hyperplane/Blocks" "keys" "[J" .null := D95 (Or.inr (hw _ (mi 63 rfl))) (ty := (.array .long)) (by decide)
          have F108 : Fld Z h95 a95 "com/example/hyperplane/hyperplane/Blocks" "tableGroups" "[I" .null := D95 (Or.inr (hw _ (mi 65 rfl))) (ty := (.array .int)) (by decide)
          have F109 : Fld Z h95 a95 "com/example/hyperplane/hyperplane/Blocks" "blockEnds" "[I" .null := D95 (Or.inr (hw _ (mi 67 rfl))) (ty := (.array .int)) (by decide)
          refine c95 ?_
          refine o_dup B95 328 329 at_328 rfl rfl ?_
          refine o_bipush B95 329 331 (64 : Int32) at_329 rfl (by decide) ?_
          refine o_iconst B95 331 332 (0 : Int32) at_331 rfl (by decide) ?_
          refine o_iconst B95 332 333 (3 : Int32) at_332 rfl (by decide) ?_
          refine o_iconst B95 333 334 (4 : Int32) at_333 rfl (by decide) ?_
          refine o_iload B95 334 336 (v := (4 : Int32)) at_334 rfl rfl ?_
          obtain ⟨v110, T110, L110, B110, Q110, c110⟩ := o_callN B95 336 339 at_336 rfl rfl (hw _ (mi 18 rfl)) (hw _ (mi 19 rfl)) (hw _ (mi 17 rfl)) (hw _ (mi 20 rfl)) (by decide) (rm2_4_4 l Z a0 hw a95 (64 : Int32) (3 : Int32) h95 n0 s95 g95 X95 F96 F97 F98 F99 F100 F101 F102 F103 F104 F105 F106 F107 F108 F109 own_hp) 1 [(.int (64 : Int32)), (.int (0 : Int32)), (.int (3 : Int32)), (.int (4 : Int32)), (.int (4 : Int32))] [(.ref a95)] pd__IIIII_V rfl rfl (st := [(.int (4 : Int32)), (.int (4 : Int32)), (.int (3 : Int32)), (.int (0 : Int32)), (.int (64 : Int32)), (.ref a95), (.ref a95)]) rfl (Ls := #[vi x0, vi x1, vi x2, vj x3, s2, vi (q0_1 x0 x1 x2 x3), vi 4, vj (f1 (q0_1 x0 x1 x2 x3) (0 : Int32)), s2, vj (f1 (q0_1 x0 x1 x2 x3) (1 : Int32)), s2, vj (f1 (q0_1 x0 x1 x2 x3) (2 : Int32)), s2, vj (f1 (q0_1 x0 x1 x2 x3) (3 : Int32)), s2, vj (q0_7 x0 x1 x2 x3), s2, vj (x3 &&& (q0_7 x0 x1 x2 x3)), s2, vi (q0_8 x0 x1 x2 x3), vi (q0_9 x0 x1 x2 x3), vi (q0_10 x0 x1 x2 x3), vi (q0_11 x0 x1 x2 x3), vi (q0_12 x0 x1 x2 x3), vj (q0_27 x0 x1 x2 x3), s2, vi (q0_28 x0 x1 x2 x3), us]) rfl (Nat.le_of_eq rfl) (by decide) (by decide) (by decide) (by decide)
          obtain ⟨rfl, M110, K110, H110_w, H110_p, H110_k, fw110, sh110, lm110, hm110, bm110, H110_fw, J110_fw, H110_sh, J110_sh, H110_lm, J110_lm, H110_hm, J110_hm, H110_bm, J110_bm⟩ := Q110
          have N110 := Fr.app N0 M110
          have s110 : n0 ≤ T110.heap.size := Nat.le_trans s95 K110.1
          have M110m : AJ Z _ bm110 12 own_ms := J110_bm
          refine c110 ?_
          show OG p.tables e below _ (T110.setTop (mkF m 339 #[vi x0, vi x1, vi x2, vj x3, s2, vi (q0_1 x0 x1 x2 x3), vi 4, vj (f1 (q0_1 x0 x1 x2 x3) (0 : Int32)), s2, vj (f1 (q0_1 x0 x1 x2 x3) (1 : Int32)), s2, vj (f1 (q0_1 x0 x1 x2 x3) (2 : Int32)), s2, vj (f1 (q0_1 x0 x1 x2 x3) (3 : Int32)), s2, vj (q0_7 x0 x1 x2 x3), s2, vj (x3 &&& (q0_7 x0 x1 x2 x3)), s2, vi (q0_8 x0 x1 x2 x3), vi (q0_9 x0 x1 x2 x3), vi (q0_10 x0 x1 x2 x3), vi (q0_11 x0 x1 x2 x3), vi (q0_12 x0 x1 x2 x3), vj (q0_27 x0 x1 x2 x3), s2, vi (q0_28 x0 x1 x2 x3), us] [(.ref a95)]))
          refine o_astore B110 339 341 (l' := #[vi x0, vi x1, vi x2, vj x3, s2, vi (q0_1 x0 x1 x2 x3), vi 4, vj (f1 (q0_1 x0 x1 x2 x3) (0 : Int32)), s2, vj (f1 (q0_1 x0 x1 x2 x3) (1 : Int32)), s2, vj (f1 (q0_1 x0 x1 x2 x3) (2 : Int32)), s2, vj (f1 (q0_1 x0 x1 x2 x3) (3 : Int32)), s2, vj (q0_7 x0 x1 x2 x3), s2, vj (x3 &&& (q0_7 x0 x1 x2 x3)), s2, vi (q0_8 x0 x1 x2 x3), vi (q0_9 x0 x1 x2 x3), vi (q0_10 x0 x1 x2 x3), vi (q0_11 x0 x1 x2 x3), vi (q0_12 x0 x1 x2 x3), vj (q0_27 x0 x1 x2 x3), s2, vi (q0_28 x0 x1 x2 x3), vr a95]) at_339 rfl rfl rfl ?_
          refine o_aload B110 341 343 (v := (.ref a95)) at_341 rfl rfl rfl ?_
          refine o_iload B110 343 345 (v := (q0_1 x0 x1 x2 x3)) at_343 rfl rfl ?_
          refine o_lload B110 345 347 (v := (x3 &&& (q0_7 x0 x1 x2 x3))) at_345 rfl rfl ?_
          have F111 := (X95.keep K110)
          obtain ⟨T112, B112, c112⟩ := o_callVP B110 347 350 at_347 rfl (hw _ (mi 87 rfl)) (hw _ (mi 88 rfl)) (hw _ (mi 90 rfl)) (hw _ (mi 89 rfl)) (hw _ (mi 17 rfl)) (hw _ (mi 91 rfl)) (by decide) F111 (rm12 l Z a0 hw a95 own_ms (4 : Int32) bm110 (q0_1 x0 x1 x2 x3) (x3 &&& (q0_7 x0 x1 x2 x3)) T110.heap H110_p H110_k H110_bm M110m (own_gr x0 x1 x2 x3) (by decide) (own_ag x0 x1 x2 x3 4 (by decide) k44 k25)) 0 [(.int (q0_1 x0 x1 x2 x3)), (.long (x3 &&& (q0_7 x0 x1 x2 x3)))] [] pd__IJ_J rfl rfl (st := [(.long (x3 &&& (q0_7 x0 x1 x2 x3))), (.int (q0_1 x0 x1 x2 x3)), (.ref a95)]) rfl (Ls := #[vi x0, vi x1, vi x2, vj x3, s2, vi (q0_1 x0 x1 x2 x3), vi 4, vj (f1 (q0_1 x0 x1 x2 x3) (0 : Int32)), s2, vj (f1 (q0_1 x0 x1 x2 x3) (1 : Int32)), s2, vj (f1 (q0_1 x0 x1 x2 x3) (2 : Int32)), s2, vj (f1 (q0_1 x0 x1 x2 x3) (3 : Int32)), s2, vj (q0_7 x0 x1 x2 x3), s2, vj (x3 &&& (q0_7 x0 x1 x2 x3)), s2, vi (q0_8 x0 x1 x2 x3), vi (q0_9 x0 x1 x2 x3), vi (q0_10 x0 x1 x2 x3), vi (q0_11 x0 x1 x2 x3), vi (q0_12 x0 x1 x2 x3), vj (q0_27 x0 x1 x2 x3), s2, vi (q0_28 x0 x1 x2 x3), vr a95]) rfl (Nat.le_of_eq rfl) (by decide) (by decide) (by decide) (by decide)
          refine c112 ?_
          refine o_lload B112 350 352 (v := (q0_27 x0 x1 x2 x3)) at_350 rfl rfl ?_
          refine o_lcmp B112 352 353 at_352 rfl ?_
          by_cases k45 : (q0_32 x0 x1 x2 x3) = (q0_27 x0 x1 x2 x3)
          · refine o_ifN B112 353 356 at_353 rfl (XT.ll_ne_f k45) ?_
            refine o_iconst B112 356 357 (1 : Int32) at_356 rfl (by decide) ?_
            refine o_goto B112 357 361 at_357 (by decide) (by decide) ?_
            refine o_retZ (t := .boolean) B112 361 at_361 hret hlk (by simp) (by decide) (by decide) ⟨(congrArg (fun z => some (Value.int z)) ((show nar .boolean (1 : Int32) = (1 : Int32) from rfl).trans (show f0 x0 x1 x2 x3 = (1 : Int32) from (if_neg k25).trans ((if_neg k38).trans ((if_neg k40).trans ((if_neg k42).trans ((if_pos k45).trans (rfl)))))).symm)), N110⟩
          · refine o_ifY B112 353 360 at_353 (XT.ll_ne_t k45) (by decide) (by decide) ?_
            refine o_iconst B112 360 361 (0 : Int32) at_360 rfl (by decide) ?_
            refine o_retZ (t := .boolean) B112 361 at_361 hret hlk (by simp) (by decide) (by decide) ⟨(congrArg (fun z => some (Value.int z)) ((show nar .boolean (0 : Int32) = (0 : Int32) from rfl).trans (show f0 x0 x1 x2 x3 = (0 : Int32) from (if_neg k25).trans ((if_neg k38).trans ((if_neg k40).trans ((if_neg k42).trans ((if_neg k45).trans (rfl)))))).symm)), N110⟩
theorem own_ll (x0 x1 x2 : Int32) (x3 : Int64) (k : Int32) (hk4 : k = 1 ∨ k = 2 ∨ k = 3 ∨ k = 4) (e : q0_2 x0 x1 x2 x3 = k) (h : ¬ q0_12 x0 x1 x2 x3 < q0_2 x0 x1 x2 x3) : f12 own_ms k (q0_1 x0 x1 x2 x3) (x3 &&& (q0_7 x0 x1 x2 x3)) = q0_27 x0 x1 x2 x3 := by
  have m0 : own_ms ((q0_1 x0 x1 x2 x3).toInt.toNat * 4 + 0) = f1 (q0_1 x0 x1 x2 x3) (0 : Int32) := own_msf x0 x1 x2 x3 0
  have m1 : own_ms ((q0_1 x0 x1 x2 x3).toInt.toNat * 4 + 1) = f1 (q0_1 x0 x1 x2 x3) (1 : Int32) := own_msf x0 x1 x2 x3 1
  have m2 : own_ms ((q0_1 x0 x1 x2 x3).toInt.toNat * 4 + 2) = f1 (q0_1 x0 x1 x2 x3) (2 : Int32) := own_msf x0 x1 x2 x3 2
  have m3 : own_ms ((q0_1 x0 x1 x2 x3).toInt.toNat * 4 + 3) = f1 (q0_1 x0 x1 x2 x3) (3 : Int32) := own_msf x0 x1 x2 x3 3
  rw [e] at h
  simp only [q0_12, q0_8, q0_9, q0_10, q0_11] at h
  simp only [q0_27, q0_25, q0_24, q0_23, q0_22, q0_21, q0_20, q0_19, q0_18, q0_17, q0_16, q0_15, q0_14, q0_13, e]
  unfold f12
  simp only [own_ka, Nat.zero_add, Nat.reduceAdd, m0, m1, m2, m3]
  clear e
  by_cases a0 : ((x3 &&& (q0_7 x0 x1 x2 x3)) &&& (f1 (q0_1 x0 x1 x2 x3) (0 : Int32))) = (0 : Int64)
  · by_cases a1 : ((x3 &&& (q0_7 x0 x1 x2 x3)) &&& (f1 (q0_1 x0 x1 x2 x3) (1 : Int32))) = (0 : Int64)
    · by_cases a2 : ((x3 &&& (q0_7 x0 x1 x2 x3)) &&& (f1 (q0_1 x0 x1 x2 x3) (2 : Int32))) = (0 : Int64)
      · by_cases a3 : ((x3 &&& (q0_7 x0 x1 x2 x3)) &&& (f1 (q0_1 x0 x1 x2 x3) (3 : Int32))) = (0 : Int64)
        · simp only [if_pos a0, if_pos a1, if_pos a2, if_pos a3] at h ⊢
          clear a0 a1 a2 a3 m0 m1 m2 m3
          rcases hk4 with rfl | rfl | rfl | rfl <;> revert h <;> decide
        · simp only [if_pos a0, if_pos a1, if_pos a2, if_neg a3] at h ⊢
          clear a0 a1 a2 a3 m0 m1 m2 m3
          rcases hk4 with rfl | rfl | rfl | rfl <;> revert h <;> decide
      · by_cases a3 : ((x3 &&& (q0_7 x0 x1 x2 x3)) &&& (f1 (q0_1 x0 x1 x2 x3) (3 : Int32))) = (0 : Int64)
        · simp only [if_pos a0, if_pos a1, if_neg a2, if_pos a3] at h ⊢
          clear a0 a1 a2 a3 m0 m1 m2 m3
          rcases hk4 with rfl | rfl | rfl | rfl <;> revert h <;> decide
        · simp only [if_pos a0, if_pos a1, if_neg a2, if_neg a3] at h ⊢
          clear a0 a1 a2 a3 m0 m1 m2 m3
          rcases hk4 with rfl | rfl | rfl | rfl <;> revert h <;> decide
    · by_cases a2 : ((x3 &&& (q0_7 x0 x1 x2 x3)) &&& (f1 (q0_1 x0 x1 x2 x3) (2 : Int32))) = (0 : Int64)
      · by_cases a3 : ((x3 &&& (q0_7 x0 x1 x2 x3)) &&& (f1 (q0_1 x0 x1 x2 x3) (3 : Int32))) = (0 : Int64)
        · simp only [if_pos a0, if_neg a1, if_pos a2, if_pos a3] at h ⊢
          clear a0 a1 a2 a3 m0 m1 m2 m3
          rcases hk4 with rfl | rfl | rfl | rfl <;> revert h <;> decide
        · simp only [if_pos a0, if_neg a1, if_pos a2, if_neg a3] at h ⊢
          clear a0 a1 a2 a3 m0 m1 m2 m3
          rcases hk4 with rfl | rfl | rfl | rfl <;> revert h <;> decide
      · by_cases a3 : ((x3 &&& (q0_7 x0 x1 x2 x3)) &&& (f1 (q0_1 x0 x1 x2 x3) (3 : Int32))) = (0 : Int64)
        · simp only [if_pos a0, if_neg a1, if_neg a2, if_pos a3] at h ⊢
          clear a0 a1 a2 a3 m0 m1 m2 m3
          rcases hk4 with rfl | rfl | rfl | rfl <;> revert h <;> decide
        · simp only [if_pos a0, if_neg a1, if_neg a2, if_neg a3] at h ⊢
          clear a0 a1 a2 a3 m0 m1 m2 m3
          rcases hk4 with rfl | rfl | rfl | rfl <;> revert h <;> decide
  · by_cases a1 : ((x3 &&& (q0_7 x0 x1 x2 x3)) &&& (f1 (q0_1 x0 x1 x2 x3) (1 : Int32))) = (0 : Int64)
    · by_cases a2 : ((x3 &&& (q0_7 x0 x1 x2 x3)) &&& (f1 (q0_1 x0 x1 x2 x3) (2 : Int32))) = (0 : Int64)
      · by_cases a3 : ((x3 &&& (q0_7 x0 x1 x2 x3)) &&& (f1 (q0_1 x0 x1 x2 x3) (3 : Int32))) = (0 : Int64)
        · simp only [if_neg a0, if_pos a1, if_pos a2, if_pos a3] at h ⊢
          clear a0 a1 a2 a3 m0 m1 m2 m3
          rcases hk4 with rfl | rfl | rfl | rfl <;> revert h <;> decide
        · simp only [if_neg a0, if_pos a1, if_pos a2, if_neg a3] at h ⊢
          clear a0 a1 a2 a3 m0 m1 m2 m3
          rcases hk4 with rfl | rfl | rfl | rfl <;> revert h <;> decide
      · by_cases a3 : ((x3 &&& (q0_7 x0 x1 x2 x3)) &&& (f1 (q0_1 x0 x1 x2 x3) (3 : Int32))) = (0 : Int64)
        · simp only [if_neg a0, if_pos a1, if_neg a2, if_pos a3] at h ⊢
          clear a0 a1 a2 a3 m0 m1 m2 m3
          rcases hk4 with rfl | rfl | rfl | rfl <;> revert h <;> decide
        · simp only [if_neg a0, if_pos a1, if_neg a2, if_neg a3] at h ⊢
          clear a0 a1 a2 a3 m0 m1 m2 m3
          rcases hk4 with rfl | rfl | rfl | rfl <;> revert h <;> decide
    · by_cases a2 : ((x3 &&& (q0_7 x0 x1 x2 x3)) &&& (f1 (q0_1 x0 x1 x2 x3) (2 : Int32))) = (0 : Int64)
      · by_cases a3 : ((x3 &&& (q0_7 x0 x1 x2 x3)) &&& (f1 (q0_1 x0 x1 x2 x3) (3 : Int32))) = (0 : Int64)
        · simp only [if_neg a0, if_neg a1, if_pos a2, if_pos a3] at h ⊢
          clear a0 a1 a2 a3 m0 m1 m2 m3
          rcases hk4 with rfl | rfl | rfl | rfl <;> revert h <;> decide
        · simp only [if_neg a0, if_neg a1, if_pos a2, if_neg a3] at h ⊢
          clear a0 a1 a2 a3 m0 m1 m2 m3
          rcases hk4 with rfl | rfl | rfl | rfl <;> revert h <;> decide
      · by_cases a3 : ((x3 &&& (q0_7 x0 x1 x2 x3)) &&& (f1 (q0_1 x0 x1 x2 x3) (3 : Int32))) = (0 : Int64)
        · simp only [if_neg a0, if_neg a1, if_neg a2, if_pos a3] at h ⊢
          clear a0 a1 a2 a3 m0 m1 m2 m3
          rcases hk4 with rfl | rfl | rfl | rfl <;> revert h <;> decide
        · simp only [if_neg a0, if_neg a1, if_neg a2, if_neg a3] at h ⊢
          clear a0 a1 a2 a3 m0 m1 m2 m3
          rcases hk4 with rfl | rfl | rfl | rfl <;> revert h <;> decide
theorem law_true (x0 x1 x2 : Int32) (x3 : Int64) : f0 x0 x1 x2 x3 = 1 := by
  unfold f0
  by_cases h : q0_12 x0 x1 x2 x3 < q0_2 x0 x1 x2 x3
  · rw [if_pos h]
  · rw [if_neg h]
    by_cases h1 : q0_2 x0 x1 x2 x3 = 1
    · rw [if_pos h1, if_pos (show q0_29 x0 x1 x2 x3 = q0_27 x0 x1 x2 x3 from own_ll x0 x1 x2 x3 1 (by decide) h1 h)]
    · rw [if_neg h1]
      by_cases h2 : q0_2 x0 x1 x2 x3 = 2
      · rw [if_pos h2, if_pos (show q0_30 x0 x1 x2 x3 = q0_27 x0 x1 x2 x3 from own_ll x0 x1 x2 x3 2 (by decide) h2 h)]
      · rw [if_neg h2]
        by_cases h3 : q0_2 x0 x1 x2 x3 = 3
        · rw [if_pos h3, if_pos (show q0_31 x0 x1 x2 x3 = q0_27 x0 x1 x2 x3 from own_ll x0 x1 x2 x3 3 (by decide) h3 h)]
        · rw [if_neg h3, if_pos (show q0_32 x0 x1 x2 x3 = q0_27 x0 x1 x2 x3 from own_ll x0 x1 x2 x3 4 (by decide) (own_kb x0 x1 x2 x3 h1 h2 h3) h)]

set_option maxRecDepth 65536 in
set_option maxHeartbeats 40000000 in
theorem comes_1 {Post : Tables → Env → Array Value → State → Outcome → State → Prop} (hpost : ∀ tb e args s v u, (limb_1_1.after args s (.returned v) u = true ∧ limb_1_2.after args s (.returned v) u = true ∧ True) → FrameEnd s (.returned v) u (Jvm.fieldLocs frame_1_writes args s ++ Jvm.arrayLocs frame_1_arrays args s ++ Jvm.staticLocs frame_1_statics s) 32 320 → Post tb e args s (.returned v) u) :
    ArmFor flags0 classFile x code maxLocals ret World_1 tables_1 room_1 Calls_1 rest_1 Pre_1 Post := by
  intro l hfl _ _ p e ha hc hk s m args below hf hA hF happ hP
  obtain ⟨hcalls, hrest, hpre⟩ := hP
  obtain ⟨-, -, -, hnamed, -, -, -, hat⟩ := (Spec.applies_iff hf).mp happ
  obtain ⟨hg, hn⟩ := and_e (Cond.before_iff.mp (show (Jvm.Cond.and given_1 narrow_1).before args s = true from hpre))
  obtain ⟨g0, hg⟩ := and_e hg
  obtain ⟨g1, hg⟩ := and_e hg
  obtain ⟨g2, hg⟩ := and_e hg
  obtain ⟨g3, hg⟩ := and_e hg
  obtain ⟨w0, w1, w2, w3, rfl⟩ : ∃ w0 w1 w2 w3 : Value, args = #[w0, w1, w2, w3] := by
    have hs : args.size = 4 := by simpa [Cond.value, given_1] using g0
    obtain ⟨L⟩ := args
    match L, hs with
    | [w0, w1, w2, w3], _ => exact ⟨w0, w1, w2, w3, rfl⟩
  have hw := fun d (hd : d ∈ tables_1) => atoms_spec (ws := Jvm.Cond.code x code maxLocals ret :: tables_1) hat d (List.mem_cons_of_mem _ hd)
  obtain ⟨i0, e0⟩ := is_v g1
  obtain rfl : w0 = (.int i0) := Option.some.inj e0
  obtain ⟨i1, e1⟩ := is_v g2
  obtain rfl : w1 = (.int i1) := Option.some.inj e1
  obtain ⟨i2, e2⟩ := is_v g3
  obtain rfl : w2 = (.int i2) := Option.some.inj e2
  obtain ⟨i3, e3⟩ := isL_v hg
  obtain rfl : w3 = (.long i3) := Option.some.inj e3
  obtain ⟨n, o, h1, h2, h3, v, L, rfl, ⟨rfl, N⟩, hq⟩ := rm0 l s _ hw tables_1 i0 i1 i2 i3 s.heap s.heap.size (Nat.le_refl _) p e ha hc hk s m _ below hf ((Spec.applies_iff_loose hf).mp happ).1 ⟨rfl, State.Warmed39.refl s, rfl⟩ trivial
  rw [law_true] at h3 hq
  refine ⟨n, _, h1, h2, h3, hpost _ _ _ _ _ _ ⟨Cond.after_iff.mpr rfl, Cond.after_iff.mpr (eq_i res_at (Term.int_eval (1)) rfl), trivial⟩ ⟨hq.1, hq.2.1, (hq.2.2.sift fun y hy => Or.inr (N y hy)).mono (by decide) (by decide)⟩⟩
theorem main_1_1 : Claimed_1_1 := comes_1 fun _ _ _ _ _ _ h hF => ⟨h.1, hF⟩
theorem main_1_2 : Claimed_1_2 := comes_1 fun _ _ _ _ _ _ h hF => ⟨h.2.1, hF⟩
end Jvm.Pilot.@@N@@
namespace Jvm.Pilot.@@N@@
open Jvm Jvm.ClassFile Sem Op Lib Jvm.Free Jvm.Stand Jvm.Pilot.@@N@@.Jvm.D
/-! MADE BY PROGRAM (witnessworld.py) out of the Statement's table words and the real class files: 18 classes; the members and pool entries that the words name. The judged class is class 1, her method 2. -/
namespace start1
open Jvm.ClassFile
def u (s : String) : CpInfo := .utf8 (stringToUtf16 s)
/-- a pool by its gaps: so many unusable entries, then the entry; so many at the end -/
def gap : Nat → List CpInfo → List CpInfo
  | 0, r => r
  | n + 1, r => .unusable :: gap n r
def poolList (es : List (Nat × CpInfo)) (last : Nat) : List CpInfo := es.foldr (fun e r => gap e.1 (e.2 :: r)) (gap last [])
def pool (es : List (Nat × CpInfo)) (last : Nat) : Array CpInfo := ⟨poolList es last⟩
def fileOf (pool : Array CpInfo) (this : Nat) (attrs : Array Attribute := #[]) (ms : Array MethodInfo := #[]) (fl : Nat := 33) (sup : Nat := 0) (ifs : Array Nat := #[]) (fds : Array FieldInfo := #[]) : ClassFile where
  minorVersion := 0
  majorVersion := 65
  constantPool := pool
  accessFlags := fl
  thisClass := this
  superClass := sup
  interfaces := ifs
  fields := fds
  methods := ms
  attributes := attrs
def plain (name : String) (sup : Option ClassId) : Class where
  name := name
  kind := .ordinary
  loader := none
  accessFlags := 33
  super := sup
  interfaces := #[]
  cf := none
  fields := #[]
  methods := #[]
  instanceTypes := #[]
  staticTypes := #[]
  resolved := #[]
  callSites := []
  init := .initialized
  statics := none
  mirror := none

def pool0 : Array CpInfo := pool [(5, u "<init>"), (0, u "()V"), (1, .class_ 10), (1, u "java/lang/Object")] 113

def k0c0 : Code := { maxStack := 0, maxLocals := 1, code := object_method_1_code, exceptionTable := #[], attributes := #[] }
def k0m0 : Method := { name := "<init>", desc := "()V", sig := { parameters := [], returnType := none }, accessFlags := 1, code := some k0c0 }
/-- java/lang/Object -/
def k0 : Class := { plain "java/lang/Object" none with
  accessFlags := 33
  interfaces := #[]
  cf := some (fileOf pool0 8 #[] #[{ accessFlags := 1, nameIndex := 5, descriptorIndex := 6, attributes := #[] }] 33 0 #[] #[])
  fields := #[]
  methods := #[k0m0]
  instanceTypes := #[]
  staticTypes := #[]
  resolved := Array.replicate 124 none
  statics := none }

def pool1 : Array CpInfo := pool [(2, .class_ 4), (1, u "java/lang/Object"), (0, u "<init>"), (0, u "()V"), (0, .long 63), (1, .long 4032), (1, .long 126976), (1, .long 4063232), (1, .long 1984), (1, .long 63488), (1, .long 2031616), (1, .integer 2147483647), (0, .methodref 23 24), (0, .class_ 25), (0, .nameAndType 26 27), (0, u "com/example/hyperplane/hyperplane/BlocksKeyAgreeingPinLaw"), (0, u "mask"), (0, u "(II)J"), (0, .long 2), (1, .long 4), (1, .long 8), (1, .class_ 35), (0, u "com/example/hyperplane/hyperplane/Blocks"), (0, .methodref 34 37), (0, .nameAndType 5 38), (0, u "(IIIII)V"), (0, .methodref 34 40), (0, .nameAndType 41 42), (0, u "keyAgreeing"), (0, u "(IJ)J"), (3, u "law"), (0, u "(IIIJ)Z")] 2

def k1m0 : Method := { name := "<init>", desc := "()V", sig := { parameters := [], returnType := none }, accessFlags := 2, code := none }
def k1c1 : Code := { maxStack := 2, maxLocals := 2, code := method_2_code, exceptionTable := #[], attributes := #[] }
def k1m1 : Method := { name := "mask", desc := "(II)J", sig := { parameters := [.int, .int], returnType := some .long }, accessFlags := 10, code := some k1c1 }
def k1c2 : Code := { maxStack := 7, maxLocals := 28, code := code, exceptionTable := #[], attributes := #[] }
def k1m2 : Method := { name := "law", desc := "(IIIJ)Z", sig := { parameters := [.int, .int, .int, .long], returnType := some .boolean }, accessFlags := 9, code := some k1c2 }
/-- com/example/hyperplane/hyperplane/BlocksKeyAgreeingPinLaw -/
def k1 : Class := { plain "com/example/hyperplane/hyperplane/BlocksKeyAgreeingPinLaw" (some 0) with
  accessFlags := 49
  interfaces := #[]
  cf := some (fileOf pool1 23 #[] #[{ accessFlags := 2, nameIndex := 5, descriptorIndex := 6, attributes := #[] }, { accessFlags := 10, nameIndex := 26, descriptorIndex := 27, attributes := #[] }, { accessFlags := 9, nameIndex := 46, descriptorIndex := 47, attributes := #[] }] 49 2 #[] #[])
  fields := #[]
  methods := #[k1m0, k1m1, k1m2]
  instanceTypes := #[]
  staticTypes := #[]
  resolved := Array.replicate 50 none
  statics := none }

def pool2 : Array CpInfo := pool [(2, .class_ 4), (1, u "com/example/hyperplane/hyperplane/Blocks"), (1, u "(II)I"), (2, u "<init>"), (0, u "(IIIII)V"), (0, .methodref 2 12), (0, .nameAndType 13 6), (0, u "requireThreshold"), (0, .methodref 15 16), (0, .class_ 17), (0, .nameAndType 18 19), (0, u "com/example/hyperplane/hyperplane/Fingerprint"), (0, u "words"), (0, u "(I)I"), (5, .methodref 26 27), (0, .class_ 28), (0, .nameAndType 9 29), (0, u "java/lang/Object"), (0, u "()V"), (0, .fieldref 2 31), (0, .nameAndType 18 32), (0, u "I"), (14, .methodref 2 48), (0, .nameAndType 49 50), (0, u "binomial"), (0, u "(II)J"), (0, .long 4096), (4, .fieldref 2 57), (0, .nameAndType 58 32), (0, u "blocksPerGroup"), (0, .fieldref 2 60), (0, .nameAndType 61 32), (0, u "keyBlocks"), (0, .fieldref 2 63), (0, .nameAndType 64 65), (0, u "groupWidths"), (0, u "[I"), (0, .fieldref 2 67), (0, .nameAndType 68 65), (0, u "firstWords"), (0, .fieldref 2 70), (0, .nameAndType 71 65), (0, u "shifts"), (0, .fieldref 2 73), (0, .nameAndType 74 75), (0, u "lowMasks"), (0, u "[J"), (0, .fieldref 2 77), (0, .nameAndType 78 75), (0, u "highMasks"), (0, .fieldref 2 80), (0, .nameAndType 81 65), (0, u "blockOffsets"), (0, .fieldref 2 83), (0, .nameAndType 84 65), (0, u "blockWidths"), (0, .fieldref 2 86), (0, .nameAndType 87 75), (0, u "blockMasks"), (0, .class_ 89), (0, u "java/lang/Long"), (0, .long 18446744073709551615), (1, .fieldref 2 93), (0, .nameAndType 94 75), (0, u "keys"), (0, .fieldref 2 96), (0, .nameAndType 97 65), (0, u "tableGroups"), (0, .fieldref 2 99), (0, .nameAndType 100 65), (0, u "blockEnds"), (0, .methodref 88 102), (0, .nameAndType 103 104), (0, u "numberOfTrailingZeros"), (0, u "(J)I"), (0, .methodref 2 106), (0, .nameAndType 107 6), (0, u "blockOffset"), (0, .methodref 2 109), (0, .nameAndType 110 6), (0, u "blockWidth"), (59, .methodref 2 171), (0, .nameAndType 172 19), (0, u "maxThreshold"), (20, u "keyAgreeing"), (0, u "(IJ)J"), (6, u "MAX_TABLES"), (2, u "MAX_SORTED_BITS"), (1, u "MAX_SEARCHED_KEY_BLOCKS"), (1, u "BUCKETING"), (0, u "D"), (0, u "KEYING"), (0, u "VISITING"), (0, u "COMPARING"), (0, u "READING"), (0, u "FEW_PAIRS")] 49

def k2c0 : Code := { maxStack := 6, maxLocals := 17, code := prog_2_method_3_code, exceptionTable := #[], attributes := #[] }
def k2m0 : Method := { name := "<init>", desc := "(IIIII)V", sig := { parameters := [.int, .int, .int, .int, .int], returnType := none }, accessFlags := 0, code := some k2c0 }
def k2c1 : Code := { maxStack := 4, maxLocals := 5, code := prog_2_method_10_code, exceptionTable := #[], attributes := #[] }
def k2m1 : Method := { name := "binomial", desc := "(II)J", sig := { parameters := [.int, .int], returnType := some .long }, accessFlags := 10, code := some k2c1 }
def k2c2 : Code := { maxStack := 2, maxLocals := 1, code := prog_2_method_11_code, exceptionTable := #[], attributes := #[] }
def k2m2 : Method := { name := "maxThreshold", desc := "(I)I", sig := { parameters := [.int], returnType := some .int }, accessFlags := 8, code := some k2c2 }
def k2c3 : Code := { maxStack := 5, maxLocals := 3, code := prog_2_method_13_code, exceptionTable := #[], attributes := #[] }
def k2m3 : Method := { name := "requireThreshold", desc := "(II)I", sig := { parameters := [.int, .int], returnType := some .int }, accessFlags := 8, code := some k2c3 }
def k2c4 : Code := { maxStack := 3, maxLocals := 3, code := prog_2_method_23_code, exceptionTable := #[], attributes := #[] }
def k2m4 : Method := { name := "blockOffset", desc := "(II)I", sig := { parameters := [.int, .int], returnType := some .int }, accessFlags := 0, code := some k2c4 }
def k2c5 : Code := { maxStack := 3, maxLocals := 3, code := prog_2_method_24_code, exceptionTable := #[], attributes := #[] }
def k2m5 : Method := { name := "blockWidth", desc := "(II)I", sig := { parameters := [.int, .int], returnType := some .int }, accessFlags := 0, code := some k2c5 }
def k2c6 : Code := { maxStack := 5, maxLocals := 9, code := prog_2_method_32_code, exceptionTable := #[], attributes := #[] }
def k2m6 : Method := { name := "keyAgreeing", desc := "(IJ)J", sig := { parameters := [.int, .long], returnType := some .long }, accessFlags := 0, code := some k2c6 }
/-- com/example/hyperplane/hyperplane/Blocks -/
def k2 : Class := { plain "com/example/hyperplane/hyperplane/Blocks" (some 0) with
  accessFlags := 48
  interfaces := #[]
  cf := some (fileOf pool2 2 #[] #[{ accessFlags := 0, nameIndex := 9, descriptorIndex := 10, attributes := #[] }, { accessFlags := 10, nameIndex := 49, descriptorIndex := 50, attributes := #[] }, { accessFlags := 8, nameIndex := 172, descriptorIndex := 19, attributes := #[] }, { accessFlags := 8, nameIndex := 13, descriptorIndex := 6, attributes := #[] }, { accessFlags := 0, nameIndex := 107, descriptorIndex := 6, attributes := #[] }, { accessFlags := 0, nameIndex := 110, descriptorIndex := 6, attributes := #[] }, { accessFlags := 0, nameIndex := 193, descriptorIndex := 194, attributes := #[] }] 48 26 #[] #[{ accessFlags := 24, nameIndex := 201, descriptorIndex := 32, attributes := #[] }, { accessFlags := 24, nameIndex := 204, descriptorIndex := 32, attributes := #[] }, { accessFlags := 26, nameIndex := 206, descriptorIndex := 32, attributes := #[] }, { accessFlags := 26, nameIndex := 208, descriptorIndex := 209, attributes := #[] }, { accessFlags := 26, nameIndex := 210, descriptorIndex := 209, attributes := #[] }, { accessFlags := 26, nameIndex := 211, descriptorIndex := 209, attributes := #[] }, { accessFlags := 26, nameIndex := 212, descriptorIndex := 209, attributes := #[] }, { accessFlags := 26, nameIndex := 213, descriptorIndex := 209, attributes := #[] }, { accessFlags := 26, nameIndex := 214, descriptorIndex := 209, attributes := #[] }, { accessFlags := 18, nameIndex := 18, descriptorIndex := 32, attributes := #[] }, { accessFlags := 18, nameIndex := 58, descriptorIndex := 32, attributes := #[] }, { accessFlags := 18, nameIndex := 61, descriptorIndex := 32, attributes := #[] }, { accessFlags := 18, nameIndex := 64, descriptorIndex := 65, attributes := #[] }, { accessFlags := 18, nameIndex := 68, descriptorIndex := 65, attributes := #[] }, { accessFlags := 18, nameIndex := 71, descriptorIndex := 65, attributes := #[] }, { accessFlags := 18, nameIndex := 74, descriptorIndex := 75, attributes := #[] }, { accessFlags := 18, nameIndex := 78, descriptorIndex := 75, attributes := #[] }, { accessFlags := 18, nameIndex := 81, descriptorIndex := 65, attributes := #[] }, { accessFlags := 18, nameIndex := 84, descriptorIndex := 65, attributes := #[] }, { accessFlags := 18, nameIndex := 87, descriptorIndex := 75, attributes := #[] }, { accessFlags := 18, nameIndex := 94, descriptorIndex := 75, attributes := #[] }, { accessFlags := 18, nameIndex := 97, descriptorIndex := 65, attributes := #[] }, { accessFlags := 18, nameIndex := 100, descriptorIndex := 65, attributes := #[] }])
  fields := #[{ name := "MAX_TABLES", type := .int, accessFlags := 24, slot := 0, constantValue := 0 }, { name := "MAX_SORTED_BITS", type := .int, accessFlags := 24, slot := 1, constantValue := 0 }, { name := "MAX_SEARCHED_KEY_BLOCKS", type := .int, accessFlags := 26, slot := 2, constantValue := 0 }, { name := "BUCKETING", type := .double, accessFlags := 26, slot := 3, constantValue := 0 }, { name := "KEYING", type := .double, accessFlags := 26, slot := 4, constantValue := 0 }, { name := "VISITING", type := .double, accessFlags := 26, slot := 5, constantValue := 0 }, { name := "COMPARING", type := .double, accessFlags := 26, slot := 6, constantValue := 0 }, { name := "READING", type := .double, accessFlags := 26, slot := 7, constantValue := 0 }, { name := "FEW_PAIRS", type := .double, accessFlags := 26, slot := 8, constantValue := 0 }, { name := "words", type := .int, accessFlags := 18, slot := 0, constantValue := 0 }, { name := "blocksPerGroup", type := .int, accessFlags := 18, slot := 1, constantValue := 0 }, { name := "keyBlocks", type := .int, accessFlags := 18, slot := 2, constantValue := 0 }, { name := "groupWidths", type := (.array .int), accessFlags := 18, slot := 3, constantValue := 0 }, { name := "firstWords", type := (.array .int), accessFlags := 18, slot := 4, constantValue := 0 }, { name := "shifts", type := (.array .int), accessFlags := 18, slot := 5, constantValue := 0 }, { name := "lowMasks", type := (.array .long), accessFlags := 18, slot := 6, constantValue := 0 }, { name := "highMasks", type := (.array .long), accessFlags := 18, slot := 7, constantValue := 0 }, { name := "blockOffsets", type := (.array .int), accessFlags := 18, slot := 8, constantValue := 0 }, { name := "blockWidths", type := (.array .int), accessFlags := 18, slot := 9, constantValue := 0 }, { name := "blockMasks", type := (.array .long), accessFlags := 18, slot := 10, constantValue := 0 }, { name := "keys", type := (.array .long), accessFlags := 18, slot := 11, constantValue := 0 }, { name := "tableGroups", type := (.array .int), accessFlags := 18, slot := 12, constantValue := 0 }, { name := "blockEnds", type := (.array .int), accessFlags := 18, slot := 13, constantValue := 0 }]
  methods := #[k2m0, k2m1, k2m2, k2m3, k2m4, k2m5, k2m6]
  instanceTypes := #[.int, .int, .int, (.array .int), (.array .int), (.array .int), (.array .long), (.array .long), (.array .int), (.array .int), (.array .long), (.array .long), (.array .int), (.array .int)]
  staticTypes := #[.int, .int, .int, .double, .double, .double, .double, .double, .double]
  resolved := Array.replicate 264 none
  statics := none }

def pool3 : Array CpInfo := pool [(1, .class_ 2), (0, u "com/example/hyperplane/hyperplane/Fingerprint"), (3, .class_ 8), (1, u "java/lang/Object"), (0, u "<init>"), (0, u "()V"), (11, u "HEX"), (0, u "Ljava/util/HexFormat;"), (55, u "(I)I"), (37, u "MAX_WIDTH"), (0, u "I"), (2, u "MAX_WORDS"), (1, u "WORD_DIGITS"), (2, u "words")] 55

def k3m0 : Method := { name := "<init>", desc := "()V", sig := { parameters := [], returnType := none }, accessFlags := 2, code := none }
def k3c1 : Code := { maxStack := 3, maxLocals := 1, code := prog_12_method_2_code, exceptionTable := #[], attributes := #[] }
def k3m1 : Method := { name := "words", desc := "(I)I", sig := { parameters := [.int], returnType := some .int }, accessFlags := 8, code := some k3c1 }
/-- com/example/hyperplane/hyperplane/Fingerprint -/
def k3 : Class := { plain "com/example/hyperplane/hyperplane/Fingerprint" (some 0) with
  accessFlags := 49
  interfaces := #[]
  cf := some (fileOf pool3 1 #[] #[{ accessFlags := 2, nameIndex := 9, descriptorIndex := 10, attributes := #[] }, { accessFlags := 8, nameIndex := 126, descriptorIndex := 79, attributes := #[] }] 49 6 #[] #[{ accessFlags := 25, nameIndex := 117, descriptorIndex := 118, attributes := #[] }, { accessFlags := 24, nameIndex := 121, descriptorIndex := 118, attributes := #[] }, { accessFlags := 26, nameIndex := 123, descriptorIndex := 118, attributes := #[] }, { accessFlags := 26, nameIndex := 22, descriptorIndex := 23, attributes := #[] }])
  fields := #[{ name := "MAX_WIDTH", type := .int, accessFlags := 25, slot := 0, constantValue := 0 }, { name := "MAX_WORDS", type := .int, accessFlags := 24, slot := 1, constantValue := 0 }, { name := "WORD_DIGITS", type := .int, accessFlags := 26, slot := 2, constantValue := 0 }, { name := "HEX", type := (.object "java/util/HexFormat"), accessFlags := 26, slot := 3, constantValue := 0 }]
  methods := #[k3m0, k3m1]
  instanceTypes := #[]
  staticTypes := #[.int, .int, .int, (.object "java/util/HexFormat")]
  resolved := Array.replicate 182 none
  statics := none }

def pool4 : Array CpInfo := pool [(1, .class_ 2), (0, u "java/io/Serializable"), (0, .class_ 4), (0, u "java/lang/Object")] 2

/-- java/io/Serializable -/
def k4 : Class := { plain "java/io/Serializable" (some 0) with
  accessFlags := 1537
  interfaces := #[]
  cf := some (fileOf pool4 1 #[] #[] 1537 3 #[] #[])
  fields := #[]
  methods := #[]
  instanceTypes := #[]
  staticTypes := #[]
  resolved := Array.replicate 7 none
  statics := none }

def pool5 : Array CpInfo := pool [(2, .class_ 4), (1, u "java/lang/Object"), (0, u "<init>"), (0, u "()V"), (1, .class_ 10), (1, u "java/lang/Number"), (2, .class_ 14), (0, u "java/io/Serializable"), (0, u "serialVersionUID"), (0, u "J")] 20

def k5m0 : Method := { name := "<init>", desc := "()V", sig := { parameters := [], returnType := none }, accessFlags := 1, code := none }
/-- java/lang/Number -/
def k5 : Class := { plain "java/lang/Number" (some 0) with
  accessFlags := 1057
  interfaces := #[4]
  cf := some (fileOf pool5 8 #[] #[{ accessFlags := 1, nameIndex := 5, descriptorIndex := 6, attributes := #[] }] 1057 2 #[13] #[{ accessFlags := 26, nameIndex := 15, descriptorIndex := 16, attributes := #[] }])
  fields := #[{ name := "serialVersionUID", type := .long, accessFlags := 26, slot := 0, constantValue := 0 }]
  methods := #[k5m0]
  instanceTypes := #[]
  staticTypes := #[.long]
  resolved := Array.replicate 37 none
  statics := none }

def pool6 : Array CpInfo := pool [(1, .class_ 2), (0, u "java/lang/Comparable"), (0, .class_ 4), (0, u "java/lang/Object")] 7

/-- java/lang/Comparable -/
def k6 : Class := { plain "java/lang/Comparable" (some 0) with
  accessFlags := 1537
  interfaces := #[]
  cf := some (fileOf pool6 1 #[] #[] 1537 3 #[] #[])
  fields := #[]
  methods := #[]
  instanceTypes := #[]
  staticTypes := #[]
  resolved := Array.replicate 12 none
  statics := none }

def pool7 : Array CpInfo := pool [(1, .class_ 2), (0, u "java/lang/constant/Constable"), (0, .class_ 4), (0, u "java/lang/Object")] 6

/-- java/lang/constant/Constable -/
def k7 : Class := { plain "java/lang/constant/Constable" (some 0) with
  accessFlags := 1537
  interfaces := #[]
  cf := some (fileOf pool7 1 #[] #[] 1537 3 #[] #[])
  fields := #[]
  methods := #[]
  instanceTypes := #[]
  staticTypes := #[]
  resolved := Array.replicate 11 none
  statics := none }

def pool8 : Array CpInfo := pool [(1, .class_ 2), (0, u "java/lang/constant/ConstantDesc"), (0, .class_ 4), (0, u "java/lang/Object")] 32

/-- java/lang/constant/ConstantDesc -/
def k8 : Class := { plain "java/lang/constant/ConstantDesc" (some 0) with
  accessFlags := 1537
  interfaces := #[]
  cf := some (fileOf pool8 1 #[] #[] 1537 3 #[] #[])
  fields := #[]
  methods := #[]
  instanceTypes := #[]
  staticTypes := #[]
  resolved := Array.replicate 37 none
  statics := none }

def pool9 : Array CpInfo := pool [(1, .class_ 2), (0, u "java/lang/Long"), (15, .class_ 20), (1, u "java/lang/Integer"), (80, u "(J)I"), (133, .class_ 237), (1, u "java/lang/Long$LongCache"), (33, .class_ 272), (0, u "java/lang/Number"), (2, u "value"), (0, u "J"), (33, u "(I)I"), (0, .methodref 18 312), (0, .nameAndType 313 310), (0, u "numberOfTrailingZeros"), (47, u "TYPE"), (0, u "Ljava/lang/Class;"), (0, .class_ 364), (0, u "java/lang/Comparable"), (0, .class_ 366), (0, u "java/lang/constant/Constable"), (0, .class_ 368), (0, u "java/lang/constant/ConstantDesc"), (0, u "MIN_VALUE"), (1, u "MAX_VALUE"), (4, u "SIZE"), (0, u "I"), (1, u "BYTES"), (1, u "serialVersionUID")] 142

def k9c0 : Code := { maxStack := 4, maxLocals := 3, code := jdk_35_method_49_code, exceptionTable := #[], attributes := #[] }
def k9m0 : Method := { name := "numberOfTrailingZeros", desc := "(J)I", sig := { parameters := [.long], returnType := some .int }, accessFlags := 9, code := some k9c0 }
/-- java/lang/Long -/
def k9 : Class := { plain "java/lang/Long" (some 5) with
  accessFlags := 49
  interfaces := #[6, 7, 8]
  cf := some (fileOf pool9 1 #[.nestMembers #[235]] #[{ accessFlags := 9, nameIndex := 313, descriptorIndex := 101, attributes := #[] }] 49 271 #[363, 365, 367] #[{ accessFlags := 25, nameIndex := 369, descriptorIndex := 276, attributes := #[] }, { accessFlags := 25, nameIndex := 371, descriptorIndex := 276, attributes := #[] }, { accessFlags := 25, nameIndex := 361, descriptorIndex := 362, attributes := #[] }, { accessFlags := 18, nameIndex := 275, descriptorIndex := 276, attributes := #[] }, { accessFlags := 25, nameIndex := 376, descriptorIndex := 377, attributes := #[] }, { accessFlags := 25, nameIndex := 379, descriptorIndex := 377, attributes := #[] }, { accessFlags := 26, nameIndex := 381, descriptorIndex := 276, attributes := #[] }])
  fields := #[{ name := "MIN_VALUE", type := .long, accessFlags := 25, slot := 0, constantValue := 0 }, { name := "MAX_VALUE", type := .long, accessFlags := 25, slot := 1, constantValue := 0 }, { name := "TYPE", type := (.object "java/lang/Class"), accessFlags := 25, slot := 2, constantValue := 0 }, { name := "value", type := .long, accessFlags := 18, slot := 0, constantValue := 0 }, { name := "SIZE", type := .int, accessFlags := 25, slot := 3, constantValue := 0 }, { name := "BYTES", type := .int, accessFlags := 25, slot := 4, constantValue := 0 }, { name := "serialVersionUID", type := .long, accessFlags := 26, slot := 5, constantValue := 0 }]
  methods := #[k9m0]
  instanceTypes := #[.long]
  staticTypes := #[.long, .long, (.object "java/lang/Class"), .int, .int, .long]
  resolved := Array.replicate 524 none
  statics := none }

def pool10 : Array CpInfo := pool [(1, .class_ 2), (0, u "java/lang/Integer"), (16, u "digits"), (0, u "[C"), (33, u "(I)I"), (30, u "DigitOnes"), (0, u "[B"), (2, u "DigitTens"), (99, .class_ 190), (0, u "java/lang/Integer$IntegerCache"), (3, u "I"), (8, .class_ 204), (0, u "java/lang/Number"), (2, u "value"), (56, .integer 65536), (37, u "TYPE"), (0, u "Ljava/lang/Class;"), (0, .class_ 305), (0, u "java/lang/Comparable"), (0, .class_ 307), (0, u "java/lang/constant/Constable"), (0, .class_ 309), (0, u "java/lang/constant/ConstantDesc"), (0, u "MIN_VALUE"), (1, u "MAX_VALUE"), (3, u "SIZE"), (1, u "BYTES"), (1, u "serialVersionUID"), (0, u "J"), (84, u "numberOfTrailingZeros")] 46

def k10c0 : Code := { maxStack := 3, maxLocals := 2, code := jdk_33_method_48_code, exceptionTable := #[], attributes := #[] }
def k10m0 : Method := { name := "numberOfTrailingZeros", desc := "(I)I", sig := { parameters := [.int], returnType := some .int }, accessFlags := 9, code := some k10c0 }
/-- java/lang/Integer -/
def k10 : Class := { plain "java/lang/Integer" (some 5) with
  accessFlags := 49
  interfaces := #[6, 7, 8]
  cf := some (fileOf pool10 1 #[.nestMembers #[189]] #[{ accessFlags := 9, nameIndex := 406, descriptorIndex := 54, attributes := #[] }] 49 203 #[304, 306, 308] #[{ accessFlags := 25, nameIndex := 310, descriptorIndex := 194, attributes := #[] }, { accessFlags := 25, nameIndex := 312, descriptorIndex := 194, attributes := #[] }, { accessFlags := 25, nameIndex := 302, descriptorIndex := 303, attributes := #[] }, { accessFlags := 24, nameIndex := 19, descriptorIndex := 20, attributes := #[] }, { accessFlags := 24, nameIndex := 89, descriptorIndex := 86, attributes := #[] }, { accessFlags := 24, nameIndex := 85, descriptorIndex := 86, attributes := #[] }, { accessFlags := 18, nameIndex := 207, descriptorIndex := 194, attributes := #[] }, { accessFlags := 25, nameIndex := 316, descriptorIndex := 194, attributes := #[] }, { accessFlags := 25, nameIndex := 318, descriptorIndex := 194, attributes := #[] }, { accessFlags := 26, nameIndex := 320, descriptorIndex := 321, attributes := #[] }])
  fields := #[{ name := "MIN_VALUE", type := .int, accessFlags := 25, slot := 0, constantValue := 0 }, { name := "MAX_VALUE", type := .int, accessFlags := 25, slot := 1, constantValue := 0 }, { name := "TYPE", type := (.object "java/lang/Class"), accessFlags := 25, slot := 2, constantValue := 0 }, { name := "digits", type := (.array .char), accessFlags := 24, slot := 3, constantValue := 0 }, { name := "DigitTens", type := (.array .byte), accessFlags := 24, slot := 4, constantValue := 0 }, { name := "DigitOnes", type := (.array .byte), accessFlags := 24, slot := 5, constantValue := 0 }, { name := "value", type := .int, accessFlags := 18, slot := 0, constantValue := 0 }, { name := "SIZE", type := .int, accessFlags := 25, slot := 6, constantValue := 0 }, { name := "BYTES", type := .int, accessFlags := 25, slot := 7, constantValue := 0 }, { name := "serialVersionUID", type := .long, accessFlags := 26, slot := 8, constantValue := 0 }]
  methods := #[k10m0]
  instanceTypes := #[.int]
  staticTypes := #[.int, .int, (.object "java/lang/Class"), (.array .char), (.array .byte), (.array .byte), .int, .int, .long]
  resolved := Array.replicate 453 none
  statics := none }

def pool11 : Array CpInfo := pool [(1, u "java/lang/Cloneable"), (0, .class_ 1), (0, u "java/lang/Object"), (0, .class_ 3)] 3

/-- java/lang/Cloneable -/
def k11 : Class := { plain "java/lang/Cloneable" (some 0) with
  accessFlags := 1537
  interfaces := #[]
  cf := some (fileOf pool11 2 #[] #[] 1537 4 #[] #[])
  fields := #[]
  methods := #[]
  instanceTypes := #[]
  staticTypes := #[]
  resolved := Array.replicate 8 none
  statics := none }

/-- the primitive byte -/
def k12 : Class := { plain "byte" none with kind := .primitive 'B', accessFlags := 0x411 }
/-- [B -/
def k13 : Class := { plain "[B" (some 0) with kind := .array 12 .byte, interfaces := #[11, 4], accessFlags := 1041 }

/-- the primitive int -/
def k14 : Class := { plain "int" none with kind := .primitive 'I', accessFlags := 0x411 }
/-- [I -/
def k15 : Class := { plain "[I" (some 0) with kind := .array 14 .int, interfaces := #[11, 4], accessFlags := 1041 }

/-- the primitive long -/
def k16 : Class := { plain "long" none with kind := .primitive 'J', accessFlags := 0x411 }
/-- [J -/
def k17 : Class := { plain "[J" (some 0) with kind := .array 16 .long, interfaces := #[11, 4], accessFlags := 1041 }

def heap : Heap := #[]
def classes : Array Class := #[k0, k1, k2, k3, k4, k5, k6, k7, k8, k9, k10, k11, k12, k13, k14, k15, k16, k17]
def interned : List (Array UInt16 × Addr) := []
def slotsUsed : Nat := 0
def theMethod : MethodId := ⟨1, 2⟩
def args0 : Array Value := #[.int 5, .int 3, .int 7, .long 1]
def aboutOver (below : List Frame) : State where
  vm := { classes := classes, interned := interned.toArray }
  heap := heap
  slotsUsed := slotsUsed
  threads := #[{ frames := .invoking theMethod args0 :: below }]
def below0 : List Frame := [.native { method := ⟨0, 0⟩, args := #[] }]
def about1 : State := aboutOver below0
def p0 : Program := .bare "" "" ""
def e0 : Env := launch0.env 0 0 0
theorem w_frames : about1.frames = Frame.invoking theMethod args0 :: below0 := rfl
set_option maxRecDepth 65536 in
theorem w_args : argsFit about1.vm theMethod args0 = true := by decide +kernel
set_option maxRecDepth 65536 in
theorem w_heap : heapFits about1 = true := by decide +kernel
set_option maxRecDepth 65536 in
theorem w_runnable : about1.curStatus? = some .runnable := by decide +kernel
set_option maxRecDepth 65536 in
theorem w_alone : about1.alone = true := by decide +kernel
set_option maxRecDepth 65536 in
theorem w_named : about1.methodNamed? x = some theMethod := by decide +kernel
set_option maxRecDepth 65536 in
theorem w_hears : about1.hears theMethod below0 = true := by decide +kernel
set_option maxRecDepth 65536 in
theorem w_ripe : about1.ripe theMethod args0 below0 = true := by decide +kernel
theorem w_running : about1.status = .running := rfl
set_option maxRecDepth 65536 in
theorem w_room : about1.hasRoom e0.platform room_1 = true :=
  launch0.hasRoom_least _ room_1 (by decide +kernel) (by decide +kernel) (by decide +kernel) (by decide +kernel) (by decide +kernel) (by decide +kernel)
theorem allAtoms_all (ts : List Jvm.Cond) (a : Array Jvm.Value) (st : Jvm.State) : (allAtoms ts).before a st = ts.all (fun c => c.before a st) := by
  induction ts with
  | nil => rfl
  | cons c t ih =>
    show (Jvm.Cond.and c (allAtoms t)).before a st = _
    rw [Jvm.Cond.before_and, ih, List.all_cons]
def words1 : List Jvm.Cond := Jvm.Cond.code x code maxLocals ret :: tables_1
/-- a 'code' word, met by the world's own term for the bytes: nothing is compared byte by byte -/
theorem code_word {y : MethodName} {bytes : ByteArray} {mx : Nat} {rt : Option FieldType} {a : Array Value} {s : State} {m : MethodId} {meth : Method} {c : Code} (h1 : s.methodNamed? y = some m) (h2 : s.vm.method? m = some meth) (h3 : meth.code = some c) (h4 : c.code = bytes)
    (h5 : (c.maxLocals == mx && c.exceptionTable.isEmpty && decide (c.maxStack ≤ mostOperands) && decide (meth.sig.returnType = rt) && !meth.locks && decide (parseMethodDescriptor y.desc = some meth.sig)) = true) : (Jvm.Cond.code y bytes mx rt).before a s = true := by
  simp only [Bool.and_eq_true, beq_iff_eq, Bool.not_eq_true', decide_eq_true_eq] at h5
  obtain ⟨⟨⟨⟨⟨g1, g2⟩, g3⟩, g4⟩, g5⟩, g6⟩ := h5
  simp [Cond.before, Cond.holds, Cond.value, h1, h2, h3, h4, g1, g2, g3, g4, g5, g6]
def isCode : Jvm.Cond → Bool
  | .code _ _ _ _ => true
  | _ => false
theorem all_split {L : List Jvm.Cond} {P : Jvm.Cond → Bool} (h1 : L.all (fun c => isCode c || P c) = true) (h2 : ∀ c ∈ L.filter isCode, P c = true) : L.all P = true := by
  refine List.all_eq_true.mpr fun c hc => ?_
  have h := List.all_eq_true.mp h1 c hc
  rcases Bool.eq_false_or_eq_true (isCode c) with hi | hi
  · exact h2 c (List.mem_filter.mpr ⟨hc, hi⟩)
  · simpa [hi] using h
set_option maxRecDepth 65536 in
theorem w_c0 : (Jvm.Cond.code x code maxLocals ret).before args0 about1 = true := code_word (m := ⟨1, 2⟩) (meth := k1m2) (c := k1c2) (by decide +kernel) rfl rfl rfl (by decide +kernel)
set_option maxRecDepth 65536 in
theorem w_c1 : (Jvm.Cond.code ({ cls := "com/example/hyperplane/hyperplane/BlocksKeyAgreeingPinLaw", name := "mask", desc := "(II)J" } : Jvm.MethodName) method_2_code (2 : Nat) (Option.some Jvm.ClassFile.FieldType.long)).before args0 about1 = true := code_word (m := ⟨1, 1⟩) (meth := k1m1) (c := k1c1) (by decide +kernel) rfl rfl rfl (by decide +kernel)
set_option maxRecDepth 65536 in
theorem w_c2 : (Jvm.Cond.code ({ cls := "com/example/hyperplane/hyperplane/Blocks", name := "<init>", desc := "(IIIII)V" } : Jvm.MethodName) prog_2_method_3_code (17 : Nat) (Option.none : Option Jvm.ClassFile.FieldType)).before args0 about1 = true := code_word (m := ⟨2, 0⟩) (meth := k2m0) (c := k2c0) (by decide +kernel) rfl rfl rfl (by decide +kernel)
set_option maxRecDepth 65536 in
theorem w_c3 : (Jvm.Cond.code ({ cls := "java/lang/Object", name := "<init>", desc := "()V" } : Jvm.MethodName) object_method_1_code (1 : Nat) (Option.none : Option Jvm.ClassFile.FieldType)).before args0 about1 = true := code_word (m := ⟨0, 0⟩) (meth := k0m0) (c := k0c0) (by decide +kernel) rfl rfl rfl (by decide +kernel)
set_option maxRecDepth 65536 in
theorem w_c4 : (Jvm.Cond.code ({ cls := "com/example/hyperplane/hyperplane/Fingerprint", name := "words", desc := "(I)I" } : Jvm.MethodName) prog_12_method_2_code (1 : Nat) (Option.some Jvm.ClassFile.FieldType.int)).before args0 about1 = true := code_word (m := ⟨3, 1⟩) (meth := k3m1) (c := k3c1) (by decide +kernel) rfl rfl rfl (by decide +kernel)
set_option maxRecDepth 65536 in
theorem w_c5 : (Jvm.Cond.code ({ cls := "com/example/hyperplane/hyperplane/Blocks", name := "requireThreshold", desc := "(II)I" } : Jvm.MethodName) prog_2_method_13_code (3 : Nat) (Option.some Jvm.ClassFile.FieldType.int)).before args0 about1 = true := code_word (m := ⟨2, 3⟩) (meth := k2m3) (c := k2c3) (by decide +kernel) rfl rfl rfl (by decide +kernel)
set_option maxRecDepth 65536 in
theorem w_c6 : (Jvm.Cond.code ({ cls := "com/example/hyperplane/hyperplane/Blocks", name := "maxThreshold", desc := "(I)I" } : Jvm.MethodName) prog_2_method_11_code (1 : Nat) (Option.some Jvm.ClassFile.FieldType.int)).before args0 about1 = true := code_word (m := ⟨2, 2⟩) (meth := k2m2) (c := k2c2) (by decide +kernel) rfl rfl rfl (by decide +kernel)
set_option maxRecDepth 65536 in
theorem w_c7 : (Jvm.Cond.code ({ cls := "com/example/hyperplane/hyperplane/Blocks", name := "binomial", desc := "(II)J" } : Jvm.MethodName) prog_2_method_10_code (5 : Nat) (Option.some Jvm.ClassFile.FieldType.long)).before args0 about1 = true := code_word (m := ⟨2, 1⟩) (meth := k2m1) (c := k2c1) (by decide +kernel) rfl rfl rfl (by decide +kernel)
set_option maxRecDepth 65536 in
theorem w_c8 : (Jvm.Cond.code ({ cls := "java/lang/Long", name := "numberOfTrailingZeros", desc := "(J)I" } : Jvm.MethodName) jdk_35_method_49_code (3 : Nat) (Option.some Jvm.ClassFile.FieldType.int)).before args0 about1 = true := code_word (m := ⟨9, 0⟩) (meth := k9m0) (c := k9c0) (by decide +kernel) rfl rfl rfl (by decide +kernel)
set_option maxRecDepth 65536 in
theorem w_c9 : (Jvm.Cond.code ({ cls := "java/lang/Integer", name := "numberOfTrailingZeros", desc := "(I)I" } : Jvm.MethodName) jdk_33_method_48_code (2 : Nat) (Option.some Jvm.ClassFile.FieldType.int)).before args0 about1 = true := code_word (m := ⟨10, 0⟩) (meth := k10m0) (c := k10c0) (by decide +kernel) rfl rfl rfl (by decide +kernel)
set_option maxRecDepth 65536 in
theorem w_c10 : (Jvm.Cond.code ({ cls := "com/example/hyperplane/hyperplane/Blocks", name := "blockOffset", desc := "(II)I" } : Jvm.MethodName) prog_2_method_23_code (3 : Nat) (Option.some Jvm.ClassFile.FieldType.int)).before args0 about1 = true := code_word (m := ⟨2, 4⟩) (meth := k2m4) (c := k2c4) (by decide +kernel) rfl rfl rfl (by decide +kernel)
set_option maxRecDepth 65536 in
theorem w_c11 : (Jvm.Cond.code ({ cls := "com/example/hyperplane/hyperplane/Blocks", name := "blockWidth", desc := "(II)I" } : Jvm.MethodName) prog_2_method_24_code (3 : Nat) (Option.some Jvm.ClassFile.FieldType.int)).before args0 about1 = true := code_word (m := ⟨2, 5⟩) (meth := k2m5) (c := k2c5) (by decide +kernel) rfl rfl rfl (by decide +kernel)
set_option maxRecDepth 65536 in
theorem w_c12 : (Jvm.Cond.code ({ cls := "com/example/hyperplane/hyperplane/Blocks", name := "keyAgreeing", desc := "(IJ)J" } : Jvm.MethodName) prog_2_method_32_code (9 : Nat) (Option.some Jvm.ClassFile.FieldType.long)).before args0 about1 = true := code_word (m := ⟨2, 6⟩) (meth := k2m6) (c := k2c6) (by decide +kernel) rfl rfl rfl (by decide +kernel)
def codes1 : List Jvm.Cond := [Jvm.Cond.code x code maxLocals ret, Jvm.Cond.code ({ cls := "com/example/hyperplane/hyperplane/BlocksKeyAgreeingPinLaw", name := "mask", desc := "(II)J" } : Jvm.MethodName) method_2_code (2 : Nat) (Option.some Jvm.ClassFile.FieldType.long), Jvm.Cond.code ({ cls := "com/example/hyperplane/hyperplane/Blocks", name := "<init>", desc := "(IIIII)V" } : Jvm.MethodName) prog_2_method_3_code (17 : Nat) (Option.none : Option Jvm.ClassFile.FieldType), Jvm.Cond.code ({ cls := "java/lang/Object", name := "<init>", desc := "()V" } : Jvm.MethodName) object_method_1_code (1 : Nat) (Option.none : Option Jvm.ClassFile.FieldType), Jvm.Cond.code ({ cls := "com/example/hyperplane/hyperplane/Fingerprint", name := "words", desc := "(I)I" } : Jvm.MethodName) prog_12_method_2_code (1 : Nat) (Option.some Jvm.ClassFile.FieldType.int), Jvm.Cond.code ({ cls := "com/example/hyperplane/hyperplane/Blocks", name := "requireThreshold", desc := "(II)I" } : Jvm.MethodName) prog_2_method_13_code (3 : Nat) (Option.some Jvm.ClassFile.FieldType.int), Jvm.Cond.code ({ cls := "com/example/hyperplane/hyperplane/Blocks", name := "maxThreshold", desc := "(I)I" } : Jvm.MethodName) prog_2_method_11_code (1 : Nat) (Option.some Jvm.ClassFile.FieldType.int), Jvm.Cond.code ({ cls := "com/example/hyperplane/hyperplane/Blocks", name := "binomial", desc := "(II)J" } : Jvm.MethodName) prog_2_method_10_code (5 : Nat) (Option.some Jvm.ClassFile.FieldType.long), Jvm.Cond.code ({ cls := "java/lang/Long", name := "numberOfTrailingZeros", desc := "(J)I" } : Jvm.MethodName) jdk_35_method_49_code (3 : Nat) (Option.some Jvm.ClassFile.FieldType.int), Jvm.Cond.code ({ cls := "java/lang/Integer", name := "numberOfTrailingZeros", desc := "(I)I" } : Jvm.MethodName) jdk_33_method_48_code (2 : Nat) (Option.some Jvm.ClassFile.FieldType.int), Jvm.Cond.code ({ cls := "com/example/hyperplane/hyperplane/Blocks", name := "blockOffset", desc := "(II)I" } : Jvm.MethodName) prog_2_method_23_code (3 : Nat) (Option.some Jvm.ClassFile.FieldType.int), Jvm.Cond.code ({ cls := "com/example/hyperplane/hyperplane/Blocks", name := "blockWidth", desc := "(II)I" } : Jvm.MethodName) prog_2_method_24_code (3 : Nat) (Option.some Jvm.ClassFile.FieldType.int), Jvm.Cond.code ({ cls := "com/example/hyperplane/hyperplane/Blocks", name := "keyAgreeing", desc := "(IJ)J" } : Jvm.MethodName) prog_2_method_32_code (9 : Nat) (Option.some Jvm.ClassFile.FieldType.long)]
set_option maxRecDepth 65536 in
theorem codes_eq : words1.filter isCode = codes1 := rfl
theorem w_codes : ∀ c ∈ words1.filter isCode, c.before args0 about1 = true := by
  rw [codes_eq]
  intro c hc
  simp only [codes1, List.mem_cons, List.not_mem_nil, or_false] at hc
  rcases hc with rfl | rfl | rfl | rfl | rfl | rfl | rfl | rfl | rfl | rfl | rfl | rfl | rfl
  · exact w_c0
  · exact w_c1
  · exact w_c2
  · exact w_c3
  · exact w_c4
  · exact w_c5
  · exact w_c6
  · exact w_c7
  · exact w_c8
  · exact w_c9
  · exact w_c10
  · exact w_c11
  · exact w_c12
set_option maxRecDepth 65536 in
theorem w_t1 : (words1.take 24).all (fun c => isCode c || c.before args0 about1) = true := by decide +kernel
set_option maxRecDepth 65536 in
theorem w_t2 : ((words1.drop 24).take 24).all (fun c => isCode c || c.before args0 about1) = true := by decide +kernel
set_option maxRecDepth 65536 in
theorem w_t3 : (((words1.drop 24).drop 24).take 24).all (fun c => isCode c || c.before args0 about1) = true := by decide +kernel
set_option maxRecDepth 65536 in
theorem w_t4 : (((words1.drop 24).drop 24).drop 24).all (fun c => isCode c || c.before args0 about1) = true := by decide +kernel
theorem w_tables : (allAtoms (Jvm.Cond.code x code maxLocals ret :: tables_1)).before args0 about1 = true := by
  rw [allAtoms_all]
  show words1.all (fun c => c.before args0 about1) = true
  refine all_split ?_ w_codes
  rw [← List.take_append_drop 24 words1, List.all_append, w_t1, ← List.take_append_drop 24 (words1.drop 24), List.all_append, w_t2, ← List.take_append_drop 24 ((words1.drop 24).drop 24), List.all_append, w_t3, w_t4]
  rfl
set_option maxRecDepth 65536 in
theorem w_case : (Jvm.Cond.and given_1 narrow_1).before args0 about1 = true := by decide +kernel
theorem w_applies : (headSpec (Jvm.Cond.code x code maxLocals ret :: tables_1) room_1).applies x e0.platform about1 = true :=
  (Spec.applies_iff w_frames).mpr ⟨w_running, w_runnable, w_alone, w_named, w_hears, w_ripe, w_room, w_tables⟩
theorem atStart : AtStart classFile x code maxLocals ret World_1 tables_1 room_1 Calls_1 rest_1 Pre_1 launch0 p0 e0 about1 theMethod args0 below0 :=
  ⟨lists_1, trivial, launch0.admits_env _ _ _, launch0.least_env, fairChoices_fair.cas, fairChoices_fair.clock, w_frames, w_args, w_heap, w_applies, trivial, trivial, w_case⟩
end start1
theorem witness_1 : WitnessClaimed_1 := ⟨start1.p0, start1.e0, start1.about1, start1.theMethod, start1.args0, start1.below0, start1.atStart⟩
end Jvm.Pilot.@@N@@
