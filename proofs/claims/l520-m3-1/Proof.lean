import JvmDerived
import JvmDerived.Pilot.@@N@@Statement
import JvmDerived.Pilot.@@N@@Code
set_option linter.unusedVariables false
set_option linter.unusedSimpArgs false
namespace Jvm.OwnGo
open Sem ClassFile Op Lib Jvm.Stand Jvm.Free Jvm.LawKit Jvm.RoadKit
/-- the context of one walk: program, launch, environment, room, start, method, arguments, frames below, the method's record, its code, the tables' state, the words' arguments, the first new address -/
abbrev Cx : Type := Program × Launch × Env × Room × State × MethodId × Array Value × List Frame × Method × Code × State × Array Value × Nat × (Outcome → State → List Loc → Prop) × Nat × State
abbrev Cx.p (κ : Cx) : Program := κ.1
abbrev Cx.l (κ : Cx) : Launch := κ.2.1
abbrev Cx.e (κ : Cx) : Env := κ.2.2.1
abbrev Cx.R (κ : Cx) : Room := κ.2.2.2.1
abbrev Cx.s (κ : Cx) : State := κ.2.2.2.2.1
abbrev Cx.m (κ : Cx) : MethodId := κ.2.2.2.2.2.1
abbrev Cx.args (κ : Cx) : Array Value := κ.2.2.2.2.2.2.1
abbrev Cx.below (κ : Cx) : List Frame := κ.2.2.2.2.2.2.2.1
abbrev Cx.meth (κ : Cx) : Method := κ.2.2.2.2.2.2.2.2.1
abbrev Cx.c (κ : Cx) : Code := κ.2.2.2.2.2.2.2.2.2.1
abbrev Cx.Z (κ : Cx) : State := κ.2.2.2.2.2.2.2.2.2.2.1
abbrev Cx.a0 (κ : Cx) : Array Value := κ.2.2.2.2.2.2.2.2.2.2.2.1
abbrev Cx.n0 (κ : Cx) : Nat := κ.2.2.2.2.2.2.2.2.2.2.2.2.1
abbrev Cx.E (κ : Cx) : Outcome → State → List Loc → Prop := κ.2.2.2.2.2.2.2.2.2.2.2.2.2.1
abbrev Cx.kmin (κ : Cx) : Nat := κ.2.2.2.2.2.2.2.2.2.2.2.2.2.2.1
abbrev Cx.s0 (κ : Cx) : State := κ.2.2.2.2.2.2.2.2.2.2.2.2.2.2.2
/-- what is known of the context throughout the walk of a body -/
def OkK (km : Nat) (κ : Cx) (l : Launch) (Z : State) (a0 : Array Value) (n0 : Nat) (R : Room) (own nm : String) (bytes : ByteArray) (maxL : Nat) (ret : Option FieldType) : Prop :=
  κ.p.tables.exec = Jvm.exec ∧ κ.c.code = bytes ∧ κ.c.maxLocals = maxL ∧ κ.Z.Warmed39 κ.s.vm ∧ κ.s.vm.findClass own = some κ.m.cls ∧ κ.meth.sig.returnType = ret ∧ κ.meth.locks = false ∧ κ.meth.name = nm ∧ κ.l = l ∧ κ.Z = Z ∧ κ.a0 = a0 ∧ κ.n0 = n0 ∧ κ.R = R ∧ κ.kmin = km ∧ (∀ o t L, FrameEnd κ.s o t L κ.R.cells κ.R.slots → κ.kmin ≤ t.heap.size → κ.E o t L)
abbrev Ok (κ : Cx) (l : Launch) (Z : State) (a0 : Array Value) (n0 : Nat) (R : Room) (own nm : String) (bytes : ByteArray) (maxL : Nat) (ret : Option FieldType) : Prop := OkK 0 κ l Z a0 n0 R own nm bytes maxL ret
section B
variable {km : Nat} {κ : Cx} {l : Launch} {Z : State} {a0 : Array Value} {n0 : Nat} {R : Room} {own nm : String} {bytes : ByteArray} {maxL : Nat} {ret : Option FieldType}
theorem OkK.exec (B : OkK km κ l Z a0 n0 R own nm bytes maxL ret) : κ.p.tables.exec = Jvm.exec := B.1
theorem OkK.byt (B : OkK km κ l Z a0 n0 R own nm bytes maxL ret) : κ.c.code = bytes := B.2.1
theorem OkK.mxl (B : OkK km κ l Z a0 n0 R own nm bytes maxL ret) : κ.c.maxLocals = maxL := B.2.2.1
theorem OkK.warm (B : OkK km κ l Z a0 n0 R own nm bytes maxL ret) : Z.Warmed39 κ.s.vm := B.2.2.2.2.2.2.2.2.2.1 ▸ B.2.2.2.1
theorem OkK.hown (B : OkK km κ l Z a0 n0 R own nm bytes maxL ret) : κ.s.vm.findClass own = some κ.m.cls := B.2.2.2.2.1
theorem OkK.rets (B : OkK km κ l Z a0 n0 R own nm bytes maxL ret) : κ.meth.sig.returnType = ret := B.2.2.2.2.2.1
theorem OkK.nolock (B : OkK km κ l Z a0 n0 R own nm bytes maxL ret) : κ.meth.locks = false := B.2.2.2.2.2.2.1
theorem OkK.name (B : OkK km κ l Z a0 n0 R own nm bytes maxL ret) : κ.meth.name = nm := B.2.2.2.2.2.2.2.1
theorem OkK.hl (B : OkK km κ l Z a0 n0 R own nm bytes maxL ret) : κ.l = l := B.2.2.2.2.2.2.2.2.1
theorem OkK.hn (B : OkK km κ l Z a0 n0 R own nm bytes maxL ret) : κ.n0 = n0 := B.2.2.2.2.2.2.2.2.2.2.2.1
theorem OkK.room (B : OkK km κ l Z a0 n0 R own nm bytes maxL ret) : κ.R = R := B.2.2.2.2.2.2.2.2.2.2.2.2.1
theorem OkK.hkm (B : OkK km κ l Z a0 n0 R own nm bytes maxL ret) : κ.kmin = km := B.2.2.2.2.2.2.2.2.2.2.2.2.2.1
theorem OkK.hE (B : OkK km κ l Z a0 n0 R own nm bytes maxL ret) : ∀ o t L, FrameEnd κ.s o t L κ.R.cells κ.R.slots → κ.kmin ≤ t.heap.size → κ.E o t L := B.2.2.2.2.2.2.2.2.2.2.2.2.2.2
end B
/-- FROM HERE THE RUN ENDS AS Q SAYS: heap h, k cells and n slots made so far, the frame at pc with locals L and operands st -/
def Go (κ : Cx) (Q : Option Value → Heap → Prop) (h : Heap) (k n pc : Nat) (L : Array Slot) (st : List Value) : Prop :=
  ∀ (T : State) (locs : List Loc), Stand κ.p κ.l κ.e κ.R κ.s κ.m κ.args κ.below κ.meth κ.c T locs k n → Fr κ.n0 locs → T.heap = h →
    ∃ t o, Steps κ.p.tables κ.e κ.below (T.setTop (mkF κ.m pc L st)) t ∧ t.status = .running ∧ Ended t κ.below o ∧ ∃ v L', o = .returned v ∧ (Q v t.heap ∧ Fr κ.n0 L') ∧ κ.E o t L'
/-- a decode fact with the next pc -/
def Dc (bytes : ByteArray) (pc : Nat) (i : Instr) (len pc' : Nat) : Prop := decode bytes pc = .ok (i, len) ∧ pc + len = pc'
/-- a branch's decode fact: the pc behind it, the pc that it goes to -/
def Db (bytes : ByteArray) (pc : Nat) (i : Instr) (o : Int) (pc1 pc2 : Nat) : Prop := decode bytes pc = .ok (i, 3) ∧ pc + 3 = pc1 ∧ (pc : Int) + o = (pc2 : Int)
/-- a body's contract: with these arguments at this heap it ends as Q says -/
def Ct (l : Launch) (Z : State) (n0 : Nat) (y : MethodName) (bytes : ByteArray) (maxL : Nat) (ret : Option FieldType) (ws : List Jvm.Cond) (rm : Room) (as' : Array Value) (h0 : Heap) (Q : Option Value → Heap → Prop) : Prop :=
  MetFree l y (head1 (Jvm.Cond.code y bytes maxL ret :: ws) rm) (fun a U => a = as' ∧ Z.Warmed39 U.vm ∧ U.heap = h0) (fun _ _ _ _ _ => True) (fun _ U o U' => ∃ v L, o = .returned v ∧ (Q v U'.heap ∧ Fr n0 L) ∧ FrameEnd U o U' L rm.cells rm.slots)
theorem Ct.of {l : Launch} {Z : State} {a0 : Array Value} {n0 : Nat} {y : MethodName} {bytes : ByteArray} {maxL : Nat} {ret : Option FieldType} {ws : List Jvm.Cond} {rm : Room} {as' : Array Value} {h0 : Heap} {Q : Option Value → Heap → Prop} {L0 : Array Slot}
    (hp : plainFor y = true) (hf : ∀ m : MethodId, entryFrame m as' maxL = mkF m 0 L0 [])
    (body : ∀ κ : Cx, Ok κ l Z a0 n0 rm y.cls y.name bytes maxL ret → Go κ Q h0 0 0 0 L0 []) : Ct l Z n0 y bytes maxL ret ws rm as' h0 Q := by
  refine MetFree.of_bodySF hp hisR ?_
  intro p e s m args below meth c s₁ Bd hml0 hP hK
  obtain ⟨rfl, hZ, hh⟩ := hP
  have hown : s.vm.findClass y.cls = some m.cls := findClass_of_methodNamed Bd.named
  have hnm := (name_of_methodNamed Bd.named Bd.method).1
  have X0 : Stand p l e rm s m args below meth c s₁ [] 0 0 := Stand.of_body Bd
  have e0 : s₁.heap = h0 := by rw [← hh, Bd.state]; rfl
  have q := body (p, l, e, rm, s, m, args, below, meth, c, Z, a0, n0, fun o t L => FrameEnd s o t L rm.cells rm.slots, 0, s) ⟨Bd.exec, Bd.bytes, hml0, hZ, hown, Bd.returns, Bd.notSynchronized, hnm, rfl, rfl, rfl, rfl, rfl, rfl, fun _ _ _ q _ => q⟩ s₁ [] X0 (Fr.nil n0) e0
  obtain ⟨t, o, h1, h2, h3, h4⟩ := q
  exact ⟨t, o, castTop (hf m) h1, h2, h3, h4⟩
section G
variable {km : Nat} {κ : Cx} {l : Launch} {Z : State} {a0 : Array Value} {n0 : Nat} {R : Room} {own nm : String} {bytes : ByteArray} {maxL : Nat} {ret : Option FieldType} {Q : Option Value → Heap → Prop} {h : Heap} {k n pc pc' pc1 pc2 : Nat} {L L' : Array Slot} {st st' : List Value} {o : Int} {x y : Int32} {u w : Int64} {a : Addr} {v v' : Value}
theorem go_step (hs : ∀ (T : State) (locs : List Loc), Stand κ.p κ.l κ.e κ.R κ.s κ.m κ.args κ.below κ.meth κ.c T locs k n → T.heap = h → ∀ target, Steps κ.p.tables κ.e κ.below (T.setTop (mkF κ.m pc' L' st')) target → Steps κ.p.tables κ.e κ.below (T.setTop (mkF κ.m pc L st)) target)
    (g : Go κ Q h k n pc' L' st') : Go κ Q h k n pc L st := fun T locs X N e => by
  obtain ⟨t, o, h1, h2⟩ := g T locs X N e
  exact ⟨t, o, hs T locs X e t h1, h2⟩
theorem go_cast {h' : Heap} {k' n' : Nat} (g : Go κ Q h' k' n' pc' L' st') (e1 : h' = h) (e2 : k' = k) (e3 : n' = n) (e4 : pc' = pc) (e5 : L' = L) (e6 : st' = st) : Go κ Q h k n pc L st := by
  subst e1 e2 e3 e4 e5 e6; exact g
theorem go_mono {Q' : Option Value → Heap → Prop} (g : Go κ Q h k n pc L st) (q : ∀ v h', Q v h' → Q' v h') : Go κ Q' h k n pc L st := fun T locs X N e => by
  obtain ⟨t, o, h1, h2, h3, v, L', h4, ⟨h5, h6⟩, h7⟩ := g T locs X N e
  exact ⟨t, o, h1, h2, h3, v, L', h4, ⟨q _ _ h5, h6⟩, h7⟩
theorem go_iadd (B : OkK km κ l Z a0 n0 R own nm bytes maxL ret) (hd : Dc bytes pc (.iadd) 1 pc') (g : Go κ Q h k n pc' L (.int (x + y) :: st)) : Go κ Q h k n pc L (.int y :: .int x :: st) := by
  obtain ⟨d, rfl⟩ := hd
  exact go_step (fun T locs X e t q => XS.iadd X.here B.exec rfl (hb B.byt d) rfl q) g
theorem go_isub (B : OkK km κ l Z a0 n0 R own nm bytes maxL ret) (hd : Dc bytes pc (.isub) 1 pc') (g : Go κ Q h k n pc' L (.int (x - y) :: st)) : Go κ Q h k n pc L (.int y :: .int x :: st) := by
  obtain ⟨d, rfl⟩ := hd
  exact go_step (fun T locs X e t q => XS.isub X.here B.exec rfl (hb B.byt d) rfl q) g
theorem go_iand (B : OkK km κ l Z a0 n0 R own nm bytes maxL ret) (hd : Dc bytes pc (.iand) 1 pc') (g : Go κ Q h k n pc' L (.int (x &&& y) :: st)) : Go κ Q h k n pc L (.int y :: .int x :: st) := by
  obtain ⟨d, rfl⟩ := hd
  exact go_step (fun T locs X e t q => XS.iand X.here B.exec rfl (hb B.byt d) rfl q) g
theorem go_imul (B : OkK km κ l Z a0 n0 R own nm bytes maxL ret) (hd : Dc bytes pc (.imul) 1 pc') (g : Go κ Q h k n pc' L (.int (x * y) :: st)) : Go κ Q h k n pc L (.int y :: .int x :: st) := by
  obtain ⟨d, rfl⟩ := hd
  exact go_step (fun T locs X e t q => XS.imul X.here B.exec rfl (hb B.byt d) rfl q) g
theorem go_ixor (B : OkK km κ l Z a0 n0 R own nm bytes maxL ret) (hd : Dc bytes pc (.ixor) 1 pc') (g : Go κ Q h k n pc' L (.int (x ^^^ y) :: st)) : Go κ Q h k n pc L (.int y :: .int x :: st) := by
  obtain ⟨d, rfl⟩ := hd
  exact go_step (fun T locs X e t q => XT.ixor X.here B.exec rfl (hb B.byt d) rfl q) g
theorem go_ior (B : OkK km κ l Z a0 n0 R own nm bytes maxL ret) (hd : Dc bytes pc (.ior) 1 pc') (g : Go κ Q h k n pc' L (.int (x ||| y) :: st)) : Go κ Q h k n pc L (.int y :: .int x :: st) := by
  obtain ⟨d, rfl⟩ := hd
  exact go_step (fun T locs X e t q => XT.ior X.here B.exec rfl (hb B.byt d) rfl q) g
theorem go_ishl (B : OkK km κ l Z a0 n0 R own nm bytes maxL ret) (hd : Dc bytes pc (.ishl) 1 pc') (g : Go κ Q h k n pc' L (.int (x <<< (y &&& 31)) :: st)) : Go κ Q h k n pc L (.int y :: .int x :: st) := by
  obtain ⟨d, rfl⟩ := hd
  exact go_step (fun T locs X e t q => XT.ishl X.here B.exec rfl (hb B.byt d) rfl q) g
theorem go_ishr (B : OkK km κ l Z a0 n0 R own nm bytes maxL ret) (hd : Dc bytes pc (.ishr) 1 pc') (g : Go κ Q h k n pc' L (.int (x >>> (y &&& 31)) :: st)) : Go κ Q h k n pc L (.int y :: .int x :: st) := by
  obtain ⟨d, rfl⟩ := hd
  exact go_step (fun T locs X e t q => XT.ishr X.here B.exec rfl (hb B.byt d) rfl q) g
theorem go_iushr (B : OkK km κ l Z a0 n0 R own nm bytes maxL ret) (hd : Dc bytes pc (.iushr) 1 pc') (g : Go κ Q h k n pc' L (.int (XT.ushr x y) :: st)) : Go κ Q h k n pc L (.int y :: .int x :: st) := by
  obtain ⟨d, rfl⟩ := hd
  exact go_step (fun T locs X e t q => XT.iushr X.here B.exec rfl (hb B.byt d) rfl q) g
theorem go_idiv (B : OkK km κ l Z a0 n0 R own nm bytes maxL ret) (hd : Dc bytes pc (.idiv) 1 pc') (hy : y ≠ 0) (g : Go κ Q h k n pc' L (.int (x / y) :: st)) : Go κ Q h k n pc L (.int y :: .int x :: st) := by
  obtain ⟨d, rfl⟩ := hd
  exact go_step (fun T locs X e t q => XS.idiv X.here B.exec rfl (hb B.byt d) rfl hy q) g
theorem go_irem (B : OkK km κ l Z a0 n0 R own nm bytes maxL ret) (hd : Dc bytes pc (.irem) 1 pc') (hy : y ≠ 0) (g : Go κ Q h k n pc' L (.int (x % y) :: st)) : Go κ Q h k n pc L (.int y :: .int x :: st) := by
  obtain ⟨d, rfl⟩ := hd
  exact go_step (fun T locs X e t q => iremM X B.exec rfl (hb B.byt d) rfl hy q) g
theorem go_ineg (B : OkK km κ l Z a0 n0 R own nm bytes maxL ret) (hd : Dc bytes pc (.ineg) 1 pc') (g : Go κ Q h k n pc' L (.int (-x) :: st)) : Go κ Q h k n pc L (.int x :: st) := by
  obtain ⟨d, rfl⟩ := hd
  exact go_step (fun T locs X e t q => XS.ineg X.here B.exec rfl (hb B.byt d) rfl q) g
theorem go_ladd (B : OkK km κ l Z a0 n0 R own nm bytes maxL ret) (hd : Dc bytes pc (.ladd) 1 pc') (g : Go κ Q h k n pc' L (.long (u + w) :: st)) : Go κ Q h k n pc L (.long w :: .long u :: st) := by
  obtain ⟨d, rfl⟩ := hd
  exact go_step (fun T locs X e t q => XT.ladd X.here B.exec rfl (hb B.byt d) rfl q) g
theorem go_lsub (B : OkK km κ l Z a0 n0 R own nm bytes maxL ret) (hd : Dc bytes pc (.lsub) 1 pc') (g : Go κ Q h k n pc' L (.long (u - w) :: st)) : Go κ Q h k n pc L (.long w :: .long u :: st) := by
  obtain ⟨d, rfl⟩ := hd
  exact go_step (fun T locs X e t q => XT.lsub X.here B.exec rfl (hb B.byt d) rfl q) g
theorem go_lmul (B : OkK km κ l Z a0 n0 R own nm bytes maxL ret) (hd : Dc bytes pc (.lmul) 1 pc') (g : Go κ Q h k n pc' L (.long (u * w) :: st)) : Go κ Q h k n pc L (.long w :: .long u :: st) := by
  obtain ⟨d, rfl⟩ := hd
  exact go_step (fun T locs X e t q => XT.lmul X.here B.exec rfl (hb B.byt d) rfl q) g
theorem go_land (B : OkK km κ l Z a0 n0 R own nm bytes maxL ret) (hd : Dc bytes pc (.land) 1 pc') (g : Go κ Q h k n pc' L (.long (u &&& w) :: st)) : Go κ Q h k n pc L (.long w :: .long u :: st) := by
  obtain ⟨d, rfl⟩ := hd
  exact go_step (fun T locs X e t q => XT.land X.here B.exec rfl (hb B.byt d) rfl q) g
theorem go_lor (B : OkK km κ l Z a0 n0 R own nm bytes maxL ret) (hd : Dc bytes pc (.lor) 1 pc') (g : Go κ Q h k n pc' L (.long (u ||| w) :: st)) : Go κ Q h k n pc L (.long w :: .long u :: st) := by
  obtain ⟨d, rfl⟩ := hd
  exact go_step (fun T locs X e t q => XT.lor X.here B.exec rfl (hb B.byt d) rfl q) g
theorem go_lxor (B : OkK km κ l Z a0 n0 R own nm bytes maxL ret) (hd : Dc bytes pc (.lxor) 1 pc') (g : Go κ Q h k n pc' L (.long (u ^^^ w) :: st)) : Go κ Q h k n pc L (.long w :: .long u :: st) := by
  obtain ⟨d, rfl⟩ := hd
  exact go_step (fun T locs X e t q => XT.lxor X.here B.exec rfl (hb B.byt d) rfl q) g
theorem go_ldiv (B : OkK km κ l Z a0 n0 R own nm bytes maxL ret) (hd : Dc bytes pc (.ldiv) 1 pc') (hy : w ≠ 0) (g : Go κ Q h k n pc' L (.long (u / w) :: st)) : Go κ Q h k n pc L (.long w :: .long u :: st) := by
  obtain ⟨d, rfl⟩ := hd
  exact go_step (fun T locs X e t q => XT.ldiv X.here B.exec rfl (hb B.byt d) rfl hy q) g
theorem go_lrem (B : OkK km κ l Z a0 n0 R own nm bytes maxL ret) (hd : Dc bytes pc (.lrem) 1 pc') (hy : w ≠ 0) (g : Go κ Q h k n pc' L (.long (u - (u / w) * w) :: st)) : Go κ Q h k n pc L (.long w :: .long u :: st) := by
  obtain ⟨d, rfl⟩ := hd
  exact go_step (fun T locs X e t q => XT.lrem X.here B.exec rfl (hb B.byt d) rfl hy q) g
theorem go_lshl (B : OkK km κ l Z a0 n0 R own nm bytes maxL ret) (hd : Dc bytes pc (.lshl) 1 pc') (g : Go κ Q h k n pc' L (.long (u <<< (y.toInt64 &&& 63)) :: st)) : Go κ Q h k n pc L (.int y :: .long u :: st) := by
  obtain ⟨d, rfl⟩ := hd
  exact go_step (fun T locs X e t q => XT.lshl X.here B.exec rfl (hb B.byt d) rfl q) g
theorem go_lshr (B : OkK km κ l Z a0 n0 R own nm bytes maxL ret) (hd : Dc bytes pc (.lshr) 1 pc') (g : Go κ Q h k n pc' L (.long (u >>> (y.toInt64 &&& 63)) :: st)) : Go κ Q h k n pc L (.int y :: .long u :: st) := by
  obtain ⟨d, rfl⟩ := hd
  exact go_step (fun T locs X e t q => XT.lshr X.here B.exec rfl (hb B.byt d) rfl q) g
theorem go_lushr (B : OkK km κ l Z a0 n0 R own nm bytes maxL ret) (hd : Dc bytes pc (.lushr) 1 pc') (g : Go κ Q h k n pc' L (.long (XT.ushrL u y) :: st)) : Go κ Q h k n pc L (.int y :: .long u :: st) := by
  obtain ⟨d, rfl⟩ := hd
  exact go_step (fun T locs X e t q => XT.lushr X.here B.exec rfl (hb B.byt d) rfl q) g
theorem go_lneg (B : OkK km κ l Z a0 n0 R own nm bytes maxL ret) (hd : Dc bytes pc (.lneg) 1 pc') (g : Go κ Q h k n pc' L (.long (-u) :: st)) : Go κ Q h k n pc L (.long u :: st) := by
  obtain ⟨d, rfl⟩ := hd
  exact go_step (fun T locs X e t q => XT.lneg X.here B.exec rfl (hb B.byt d) rfl q) g
theorem go_i2l (B : OkK km κ l Z a0 n0 R own nm bytes maxL ret) (hd : Dc bytes pc (.i2l) 1 pc') (g : Go κ Q h k n pc' L (.long x.toInt64 :: st)) : Go κ Q h k n pc L (.int x :: st) := by
  obtain ⟨d, rfl⟩ := hd
  exact go_step (fun T locs X e t q => XT.i2l X.here B.exec rfl (hb B.byt d) rfl q) g
theorem go_l2i (B : OkK km κ l Z a0 n0 R own nm bytes maxL ret) (hd : Dc bytes pc (.l2i) 1 pc') (g : Go κ Q h k n pc' L (.int u.toInt32 :: st)) : Go κ Q h k n pc L (.long u :: st) := by
  obtain ⟨d, rfl⟩ := hd
  exact go_step (fun T locs X e t q => XT.l2i X.here B.exec rfl (hb B.byt d) rfl q) g
theorem go_i2b (B : OkK km κ l Z a0 n0 R own nm bytes maxL ret) (hd : Dc bytes pc (.i2b) 1 pc') (g : Go κ Q h k n pc' L (.int x.toInt8.toInt32 :: st)) : Go κ Q h k n pc L (.int x :: st) := by
  obtain ⟨d, rfl⟩ := hd
  exact go_step (fun T locs X e t q => XT.i2b X.here B.exec rfl (hb B.byt d) rfl q) g
theorem go_i2c (B : OkK km κ l Z a0 n0 R own nm bytes maxL ret) (hd : Dc bytes pc (.i2c) 1 pc') (g : Go κ Q h k n pc' L (.int x.toUInt32.toUInt16.toUInt32.toInt32 :: st)) : Go κ Q h k n pc L (.int x :: st) := by
  obtain ⟨d, rfl⟩ := hd
  exact go_step (fun T locs X e t q => XT.i2c X.here B.exec rfl (hb B.byt d) rfl q) g
theorem go_lcmp (B : OkK km κ l Z a0 n0 R own nm bytes maxL ret) (hd : Dc bytes pc (.lcmp) 1 pc') (g : Go κ Q h k n pc' L (.int (XT.cmpL u w) :: st)) : Go κ Q h k n pc L (.long w :: .long u :: st) := by
  obtain ⟨d, rfl⟩ := hd
  exact go_step (fun T locs X e t q => XT.lcmp X.here B.exec rfl (hb B.byt d) rfl q) g
theorem go_pop (B : OkK km κ l Z a0 n0 R own nm bytes maxL ret) (hd : Dc bytes pc (.pop) 1 pc') (hc : v.category = 1) (g : Go κ Q h k n pc' L (st)) : Go κ Q h k n pc L (v :: st) := by
  obtain ⟨d, rfl⟩ := hd
  exact go_step (fun T locs X e t q => XT.pop X.here B.exec rfl (hb B.byt d) rfl hc q) g
theorem go_dup (B : OkK km κ l Z a0 n0 R own nm bytes maxL ret) (hd : Dc bytes pc (.dup) 1 pc') (hc : v.category = 1) (g : Go κ Q h k n pc' L (v :: v :: st)) : Go κ Q h k n pc L (v :: st) := by
  obtain ⟨d, rfl⟩ := hd
  exact go_step (fun T locs X e t q => XS.dup X.here B.exec rfl (hb B.byt d) rfl hc q) g
theorem go_dup_x1 (B : OkK km κ l Z a0 n0 R own nm bytes maxL ret) (hd : Dc bytes pc (.dup_x1) 1 pc') (hc : v.category = 1) (hc' : v'.category = 1) (g : Go κ Q h k n pc' L (v :: v' :: v :: st)) : Go κ Q h k n pc L (v :: v' :: st) := by
  obtain ⟨d, rfl⟩ := hd
  exact go_step (fun T locs X e t q => XT.dupX1 X.here B.exec rfl (hb B.byt d) rfl hc hc' q) g
theorem go_dup2 (B : OkK km κ l Z a0 n0 R own nm bytes maxL ret) (hd : Dc bytes pc (.dup2) 1 pc') (hc : v.category = 1) (hc' : v'.category = 1) (g : Go κ Q h k n pc' L (v :: v' :: v :: v' :: st)) : Go κ Q h k n pc L (v :: v' :: st) := by
  obtain ⟨d, rfl⟩ := hd
  exact go_step (fun T locs X e t q => XT.dup2 X.here B.exec rfl (hb B.byt d) rfl hc hc' q) g
theorem go_dup2l (B : OkK km κ l Z a0 n0 R own nm bytes maxL ret) (hd : Dc bytes pc (.dup2) 1 pc') (g : Go κ Q h k n pc' L (.long u :: .long u :: st)) : Go κ Q h k n pc L (.long u :: st) := by
  obtain ⟨d, rfl⟩ := hd
  exact go_step (fun T locs X e t q => XT.dup2L X.here B.exec rfl (hb B.byt d) rfl q) g
theorem go_iconst (B : OkK km κ l Z a0 n0 R own nm bytes maxL ret) (hd : Dc bytes pc (.iconst o) 1 pc') (hv : Int32.ofInt o = x) (g : Go κ Q h k n pc' L (.int x :: st)) : Go κ Q h k n pc L (st) := by
  obtain ⟨d, rfl⟩ := hd
  exact go_step (fun T locs X e t q => XT.iconstV X.here B.exec rfl x (hb B.byt d) hv q) g
theorem go_bipush (B : OkK km κ l Z a0 n0 R own nm bytes maxL ret) (hd : Dc bytes pc (.bipush o) 2 pc') (hv : (Int8.ofInt o).toInt32 = x) (g : Go κ Q h k n pc' L (.int x :: st)) : Go κ Q h k n pc L (st) := by
  obtain ⟨d, rfl⟩ := hd
  exact go_step (fun T locs X e t q => XT.bipushV X.here B.exec rfl x (hb B.byt d) hv q) g
theorem go_sipush (B : OkK km κ l Z a0 n0 R own nm bytes maxL ret) (hd : Dc bytes pc (.sipush o) 3 pc') (hv : (Int16.ofInt o).toInt32 = x) (g : Go κ Q h k n pc' L (.int x :: st)) : Go κ Q h k n pc L (st) := by
  obtain ⟨d, rfl⟩ := hd
  exact go_step (fun T locs X e t q => XT.sipushV X.here B.exec rfl x (hb B.byt d) hv q) g
theorem go_lconst (B : OkK km κ l Z a0 n0 R own nm bytes maxL ret) {j : Fin 2} (hd : Dc bytes pc (.lconst j) 1 pc') (hv : Int64.ofNat j = u) (g : Go κ Q h k n pc' L (.long u :: st)) : Go κ Q h k n pc L (st) := by
  obtain ⟨d, rfl⟩ := hd
  exact go_step (fun T locs X e t q => XT.lconstV X.here B.exec rfl u (hb B.byt d) hv q) g
theorem go_aconst_null (B : OkK km κ l Z a0 n0 R own nm bytes maxL ret) (hd : Dc bytes pc (.aconst_null) 1 pc') (g : Go κ Q h k n pc' L (.null :: st)) : Go κ Q h k n pc L (st) := by
  obtain ⟨d, rfl⟩ := hd
  exact go_step (fun T locs X e t q => XS.aconstNull X.here B.exec rfl (hb B.byt d) q) g
theorem go_iload_n (B : OkK km κ l Z a0 n0 R own nm bytes maxL ret) {j : Fin 4} (hd : Dc bytes pc (.iload_n j) 1 pc') (hl : L[j.val]? = some (.val (.int x))) (g : Go κ Q h k n pc' L (.int x :: st)) : Go κ Q h k n pc L (st) := by
  obtain ⟨d, rfl⟩ := hd
  exact go_step (fun T locs X e t q => XS.iloadN X.here B.exec rfl (hb B.byt d) hl q) g
theorem go_iload (B : OkK km κ l Z a0 n0 R own nm bytes maxL ret) {j : Nat} (hd : Dc bytes pc (.iload j) 2 pc') (hl : L[j]? = some (.val (.int x))) (g : Go κ Q h k n pc' L (.int x :: st)) : Go κ Q h k n pc L (st) := by
  obtain ⟨d, rfl⟩ := hd
  exact go_step (fun T locs X e t q => XS.iload X.here B.exec rfl (hb B.byt d) hl q) g
theorem go_istore_n (B : OkK km κ l Z a0 n0 R own nm bytes maxL ret) {j : Fin 4} (L' : Array Slot) (hd : Dc bytes pc (.istore_n j) 1 pc') (hl : storeLocals L j.val (.int x) = some L') (g : Go κ Q h k n pc' L' st) : Go κ Q h k n pc L (.int x :: st) := by
  obtain ⟨d, rfl⟩ := hd
  exact go_step (fun T locs X e t q => XS.istoreN X.here B.exec rfl (hb B.byt d) rfl hl q) g
theorem go_istore (B : OkK km κ l Z a0 n0 R own nm bytes maxL ret) {j : Nat} (L' : Array Slot) (hd : Dc bytes pc (.istore j) 2 pc') (hl : storeLocals L j (.int x) = some L') (g : Go κ Q h k n pc' L' st) : Go κ Q h k n pc L (.int x :: st) := by
  obtain ⟨d, rfl⟩ := hd
  exact go_step (fun T locs X e t q => XS.istore X.here B.exec rfl (hb B.byt d) rfl hl q) g
theorem go_lload_n (B : OkK km κ l Z a0 n0 R own nm bytes maxL ret) {j : Fin 4} (hd : Dc bytes pc (.lload_n j) 1 pc') (hl : L[j.val]? = some (.val (.long u))) (g : Go κ Q h k n pc' L (.long u :: st)) : Go κ Q h k n pc L (st) := by
  obtain ⟨d, rfl⟩ := hd
  exact go_step (fun T locs X e t q => XT.lloadN X.here B.exec rfl (hb B.byt d) hl q) g
theorem go_lload (B : OkK km κ l Z a0 n0 R own nm bytes maxL ret) {j : Nat} (hd : Dc bytes pc (.lload j) 2 pc') (hl : L[j]? = some (.val (.long u))) (g : Go κ Q h k n pc' L (.long u :: st)) : Go κ Q h k n pc L (st) := by
  obtain ⟨d, rfl⟩ := hd
  exact go_step (fun T locs X e t q => XT.lload X.here B.exec rfl (hb B.byt d) hl q) g
theorem go_lstore_n (B : OkK km κ l Z a0 n0 R own nm bytes maxL ret) {j : Fin 4} (L' : Array Slot) (hd : Dc bytes pc (.lstore_n j) 1 pc') (hl : storeLocals L j.val (.long u) = some L') (g : Go κ Q h k n pc' L' st) : Go κ Q h k n pc L (.long u :: st) := by
  obtain ⟨d, rfl⟩ := hd
  exact go_step (fun T locs X e t q => XT.lstoreN X.here B.exec rfl (hb B.byt d) rfl hl q) g
theorem go_lstore (B : OkK km κ l Z a0 n0 R own nm bytes maxL ret) {j : Nat} (L' : Array Slot) (hd : Dc bytes pc (.lstore j) 2 pc') (hl : storeLocals L j (.long u) = some L') (g : Go κ Q h k n pc' L' st) : Go κ Q h k n pc L (.long u :: st) := by
  obtain ⟨d, rfl⟩ := hd
  exact go_step (fun T locs X e t q => XT.lstore X.here B.exec rfl (hb B.byt d) rfl hl q) g
theorem go_aload_n (B : OkK km κ l Z a0 n0 R own nm bytes maxL ret) {j : Fin 4} (hd : Dc bytes pc (.aload_n j) 1 pc') (hl : L[j.val]? = some (.val (v))) (hv : v.isRef = true) (g : Go κ Q h k n pc' L (v :: st)) : Go κ Q h k n pc L (st) := by
  obtain ⟨d, rfl⟩ := hd
  exact go_step (fun T locs X e t q => XS.aloadN X.here B.exec rfl (hb B.byt d) hl hv q) g
theorem go_aload (B : OkK km κ l Z a0 n0 R own nm bytes maxL ret) {j : Nat} (hd : Dc bytes pc (.aload j) 2 pc') (hl : L[j]? = some (.val (v))) (hv : v.isRef = true) (g : Go κ Q h k n pc' L (v :: st)) : Go κ Q h k n pc L (st) := by
  obtain ⟨d, rfl⟩ := hd
  exact go_step (fun T locs X e t q => XS.aload X.here B.exec rfl (hb B.byt d) hl hv q) g
theorem go_astore_n (B : OkK km κ l Z a0 n0 R own nm bytes maxL ret) {j : Fin 4} (L' : Array Slot) (hd : Dc bytes pc (.astore_n j) 1 pc') (hv : v.isRef = true) (hl : storeLocals L j.val (v) = some L') (g : Go κ Q h k n pc' L' st) : Go κ Q h k n pc L (v :: st) := by
  obtain ⟨d, rfl⟩ := hd
  exact go_step (fun T locs X e t q => XS.astoreN X.here B.exec rfl (hb B.byt d) rfl hv hl q) g
theorem go_astore (B : OkK km κ l Z a0 n0 R own nm bytes maxL ret) {j : Nat} (L' : Array Slot) (hd : Dc bytes pc (.astore j) 2 pc') (hv : v.isRef = true) (hl : storeLocals L j (v) = some L') (g : Go κ Q h k n pc' L' st) : Go κ Q h k n pc L (v :: st) := by
  obtain ⟨d, rfl⟩ := hd
  exact go_step (fun T locs X e t q => XS.astore X.here B.exec rfl (hb B.byt d) rfl hv hl q) g
theorem go_iinc (B : OkK km κ l Z a0 n0 R own nm bytes maxL ret) {j : Nat} {z : Int32} (L' : Array Slot) (hd : Dc bytes pc (.iinc j o) 3 pc') (hz : Int32.ofInt o = z) (hl : L[j]? = some (.val (.int x))) (hl' : storeLocals L j (.int (x + z)) = some L') (g : Go κ Q h k n pc' L' st) : Go κ Q h k n pc L st := by
  obtain ⟨d, rfl⟩ := hd
  subst hz
  exact go_step (fun T locs X e t q => XS.iinc X.here B.exec rfl (hb B.byt d) hl hl' q) g
theorem go_goto (B : OkK km κ l Z a0 n0 R own nm bytes maxL ret) (hd : Db bytes pc (.goto o) o pc1 pc2) (g : Go κ Q h k n pc2 L st) : Go κ Q h k n pc L st := by
  obtain ⟨d, -, e2⟩ := hd
  exact go_step (fun T locs X e t q => XS.goto X.here B.exec rfl (pc0 := pc) rfl (hb B.byt d) (by omega) (by omega) q) g
theorem go_icmpeq (B : OkK km κ l Z a0 n0 R own nm bytes maxL ret) (hd : Db bytes pc (.if_icmp .eq o) o pc1 pc2) (gt : x = y → Go κ Q h k n pc2 L st) (gf : ¬ x = y → Go κ Q h k n pc1 L st) : Go κ Q h k n pc L (.int y :: .int x :: st) := by
  obtain ⟨d, rfl, e2⟩ := hd
  rcases Classical.em (x = y) with q0 | q0
  · exact go_step (fun T locs X e t q => XS.icmpYes X.here B.exec rfl (pc0 := pc) rfl (hb B.byt d) rfl (XT.ii_eq_t q0) (by omega) (by omega) q) (gt q0)
  · exact go_step (fun T locs X e t q => XS.icmpNo X.here B.exec rfl (hb B.byt d) rfl (XT.ii_eq_f q0) q) (gf q0)
theorem go_icmpne (B : OkK km κ l Z a0 n0 R own nm bytes maxL ret) (hd : Db bytes pc (.if_icmp .ne o) o pc1 pc2) (gt : ¬ x = y → Go κ Q h k n pc2 L st) (gf : x = y → Go κ Q h k n pc1 L st) : Go κ Q h k n pc L (.int y :: .int x :: st) := by
  obtain ⟨d, rfl, e2⟩ := hd
  rcases Classical.em (¬ x = y) with q0 | q0
  · exact go_step (fun T locs X e t q => XS.icmpYes X.here B.exec rfl (pc0 := pc) rfl (hb B.byt d) rfl (XT.ii_ne_t q0) (by omega) (by omega) q) (gt q0)
  · exact go_step (fun T locs X e t q => XS.icmpNo X.here B.exec rfl (hb B.byt d) rfl (XT.ii_ne_f (Classical.not_not.mp q0)) q) (gf (Classical.not_not.mp q0))
theorem go_icmplt (B : OkK km κ l Z a0 n0 R own nm bytes maxL ret) (hd : Db bytes pc (.if_icmp .lt o) o pc1 pc2) (gt : x < y → Go κ Q h k n pc2 L st) (gf : ¬ x < y → Go κ Q h k n pc1 L st) : Go κ Q h k n pc L (.int y :: .int x :: st) := by
  obtain ⟨d, rfl, e2⟩ := hd
  rcases Classical.em (x < y) with q0 | q0
  · exact go_step (fun T locs X e t q => XS.icmpYes X.here B.exec rfl (pc0 := pc) rfl (hb B.byt d) rfl (XT.ii_lt_t q0) (by omega) (by omega) q) (gt q0)
  · exact go_step (fun T locs X e t q => XS.icmpNo X.here B.exec rfl (hb B.byt d) rfl (XT.ii_lt_f q0) q) (gf q0)
theorem go_icmpge (B : OkK km κ l Z a0 n0 R own nm bytes maxL ret) (hd : Db bytes pc (.if_icmp .ge o) o pc1 pc2) (gt : ¬ x < y → Go κ Q h k n pc2 L st) (gf : x < y → Go κ Q h k n pc1 L st) : Go κ Q h k n pc L (.int y :: .int x :: st) := by
  obtain ⟨d, rfl, e2⟩ := hd
  rcases Classical.em (¬ x < y) with q0 | q0
  · exact go_step (fun T locs X e t q => XS.icmpYes X.here B.exec rfl (pc0 := pc) rfl (hb B.byt d) rfl (XT.ii_ge_t q0) (by omega) (by omega) q) (gt q0)
  · exact go_step (fun T locs X e t q => XS.icmpNo X.here B.exec rfl (hb B.byt d) rfl (XT.ii_ge_f (Classical.not_not.mp q0)) q) (gf (Classical.not_not.mp q0))
theorem go_icmpgt (B : OkK km κ l Z a0 n0 R own nm bytes maxL ret) (hd : Db bytes pc (.if_icmp .gt o) o pc1 pc2) (gt : y < x → Go κ Q h k n pc2 L st) (gf : ¬ y < x → Go κ Q h k n pc1 L st) : Go κ Q h k n pc L (.int y :: .int x :: st) := by
  obtain ⟨d, rfl, e2⟩ := hd
  rcases Classical.em (y < x) with q0 | q0
  · exact go_step (fun T locs X e t q => XS.icmpYes X.here B.exec rfl (pc0 := pc) rfl (hb B.byt d) rfl (XT.ii_gt_t q0) (by omega) (by omega) q) (gt q0)
  · exact go_step (fun T locs X e t q => XS.icmpNo X.here B.exec rfl (hb B.byt d) rfl (XT.ii_gt_f q0) q) (gf q0)
theorem go_icmple (B : OkK km κ l Z a0 n0 R own nm bytes maxL ret) (hd : Db bytes pc (.if_icmp .le o) o pc1 pc2) (gt : ¬ y < x → Go κ Q h k n pc2 L st) (gf : y < x → Go κ Q h k n pc1 L st) : Go κ Q h k n pc L (.int y :: .int x :: st) := by
  obtain ⟨d, rfl, e2⟩ := hd
  rcases Classical.em (¬ y < x) with q0 | q0
  · exact go_step (fun T locs X e t q => XS.icmpYes X.here B.exec rfl (pc0 := pc) rfl (hb B.byt d) rfl (XT.ii_le_t q0) (by omega) (by omega) q) (gt q0)
  · exact go_step (fun T locs X e t q => XS.icmpNo X.here B.exec rfl (hb B.byt d) rfl (XT.ii_le_f (Classical.not_not.mp q0)) q) (gf (Classical.not_not.mp q0))
theorem go_ifeq (B : OkK km κ l Z a0 n0 R own nm bytes maxL ret) (hd : Db bytes pc (.ifCond .eq o) o pc1 pc2) (gt : x = 0 → Go κ Q h k n pc2 L st) (gf : ¬ x = 0 → Go κ Q h k n pc1 L st) : Go κ Q h k n pc L (.int x :: st) := by
  obtain ⟨d, rfl, e2⟩ := hd
  rcases Classical.em (x = 0) with q0 | q0
  · exact go_step (fun T locs X e t q => XS.ifYes X.here B.exec rfl (pc0 := pc) rfl (hb B.byt d) rfl (XT.i0_eq_t q0) (by omega) (by omega) q) (gt q0)
  · exact go_step (fun T locs X e t q => XS.ifNo X.here B.exec rfl (hb B.byt d) rfl (XT.i0_eq_f q0) q) (gf q0)
theorem go_ifne (B : OkK km κ l Z a0 n0 R own nm bytes maxL ret) (hd : Db bytes pc (.ifCond .ne o) o pc1 pc2) (gt : ¬ x = 0 → Go κ Q h k n pc2 L st) (gf : x = 0 → Go κ Q h k n pc1 L st) : Go κ Q h k n pc L (.int x :: st) := by
  obtain ⟨d, rfl, e2⟩ := hd
  rcases Classical.em (¬ x = 0) with q0 | q0
  · exact go_step (fun T locs X e t q => XS.ifYes X.here B.exec rfl (pc0 := pc) rfl (hb B.byt d) rfl (XT.i0_ne_t q0) (by omega) (by omega) q) (gt q0)
  · exact go_step (fun T locs X e t q => XS.ifNo X.here B.exec rfl (hb B.byt d) rfl (XT.i0_ne_f (Classical.not_not.mp q0)) q) (gf (Classical.not_not.mp q0))
theorem go_iflt (B : OkK km κ l Z a0 n0 R own nm bytes maxL ret) (hd : Db bytes pc (.ifCond .lt o) o pc1 pc2) (gt : x < 0 → Go κ Q h k n pc2 L st) (gf : ¬ x < 0 → Go κ Q h k n pc1 L st) : Go κ Q h k n pc L (.int x :: st) := by
  obtain ⟨d, rfl, e2⟩ := hd
  rcases Classical.em (x < 0) with q0 | q0
  · exact go_step (fun T locs X e t q => XS.ifYes X.here B.exec rfl (pc0 := pc) rfl (hb B.byt d) rfl (XT.i0_lt_t q0) (by omega) (by omega) q) (gt q0)
  · exact go_step (fun T locs X e t q => XS.ifNo X.here B.exec rfl (hb B.byt d) rfl (XT.i0_lt_f q0) q) (gf q0)
theorem go_ifge (B : OkK km κ l Z a0 n0 R own nm bytes maxL ret) (hd : Db bytes pc (.ifCond .ge o) o pc1 pc2) (gt : ¬ x < 0 → Go κ Q h k n pc2 L st) (gf : x < 0 → Go κ Q h k n pc1 L st) : Go κ Q h k n pc L (.int x :: st) := by
  obtain ⟨d, rfl, e2⟩ := hd
  rcases Classical.em (¬ x < 0) with q0 | q0
  · exact go_step (fun T locs X e t q => XS.ifYes X.here B.exec rfl (pc0 := pc) rfl (hb B.byt d) rfl (XT.i0_ge_t q0) (by omega) (by omega) q) (gt q0)
  · exact go_step (fun T locs X e t q => XS.ifNo X.here B.exec rfl (hb B.byt d) rfl (XT.i0_ge_f (Classical.not_not.mp q0)) q) (gf (Classical.not_not.mp q0))
theorem go_ifgt (B : OkK km κ l Z a0 n0 R own nm bytes maxL ret) (hd : Db bytes pc (.ifCond .gt o) o pc1 pc2) (gt : 0 < x → Go κ Q h k n pc2 L st) (gf : ¬ 0 < x → Go κ Q h k n pc1 L st) : Go κ Q h k n pc L (.int x :: st) := by
  obtain ⟨d, rfl, e2⟩ := hd
  rcases Classical.em (0 < x) with q0 | q0
  · exact go_step (fun T locs X e t q => XS.ifYes X.here B.exec rfl (pc0 := pc) rfl (hb B.byt d) rfl (XT.i0_gt_t q0) (by omega) (by omega) q) (gt q0)
  · exact go_step (fun T locs X e t q => XS.ifNo X.here B.exec rfl (hb B.byt d) rfl (XT.i0_gt_f q0) q) (gf q0)
theorem go_ifle (B : OkK km κ l Z a0 n0 R own nm bytes maxL ret) (hd : Db bytes pc (.ifCond .le o) o pc1 pc2) (gt : ¬ 0 < x → Go κ Q h k n pc2 L st) (gf : 0 < x → Go κ Q h k n pc1 L st) : Go κ Q h k n pc L (.int x :: st) := by
  obtain ⟨d, rfl, e2⟩ := hd
  rcases Classical.em (¬ 0 < x) with q0 | q0
  · exact go_step (fun T locs X e t q => XS.ifYes X.here B.exec rfl (pc0 := pc) rfl (hb B.byt d) rfl (XT.i0_le_t q0) (by omega) (by omega) q) (gt q0)
  · exact go_step (fun T locs X e t q => XS.ifNo X.here B.exec rfl (hb B.byt d) rfl (XT.i0_le_f (Classical.not_not.mp q0)) q) (gf (Classical.not_not.mp q0))
theorem go_lifeq (B : OkK km κ l Z a0 n0 R own nm bytes maxL ret) (hd : Db bytes pc (.ifCond .eq o) o pc1 pc2) (gt : u = w → Go κ Q h k n pc2 L st) (gf : ¬ u = w → Go κ Q h k n pc1 L st) : Go κ Q h k n pc L (.int (XT.cmpL u w) :: st) := by
  obtain ⟨d, rfl, e2⟩ := hd
  rcases Classical.em (u = w) with q0 | q0
  · exact go_step (fun T locs X e t q => XS.ifYes X.here B.exec rfl (pc0 := pc) rfl (hb B.byt d) rfl (XT.ll_eq_t q0) (by omega) (by omega) q) (gt q0)
  · exact go_step (fun T locs X e t q => XS.ifNo X.here B.exec rfl (hb B.byt d) rfl (XT.ll_eq_f q0) q) (gf q0)
theorem go_lifne (B : OkK km κ l Z a0 n0 R own nm bytes maxL ret) (hd : Db bytes pc (.ifCond .ne o) o pc1 pc2) (gt : ¬ u = w → Go κ Q h k n pc2 L st) (gf : u = w → Go κ Q h k n pc1 L st) : Go κ Q h k n pc L (.int (XT.cmpL u w) :: st) := by
  obtain ⟨d, rfl, e2⟩ := hd
  rcases Classical.em (¬ u = w) with q0 | q0
  · exact go_step (fun T locs X e t q => XS.ifYes X.here B.exec rfl (pc0 := pc) rfl (hb B.byt d) rfl (XT.ll_ne_t q0) (by omega) (by omega) q) (gt q0)
  · exact go_step (fun T locs X e t q => XS.ifNo X.here B.exec rfl (hb B.byt d) rfl (XT.ll_ne_f (Classical.not_not.mp q0)) q) (gf (Classical.not_not.mp q0))
theorem go_liflt (B : OkK km κ l Z a0 n0 R own nm bytes maxL ret) (hd : Db bytes pc (.ifCond .lt o) o pc1 pc2) (gt : u < w → Go κ Q h k n pc2 L st) (gf : ¬ u < w → Go κ Q h k n pc1 L st) : Go κ Q h k n pc L (.int (XT.cmpL u w) :: st) := by
  obtain ⟨d, rfl, e2⟩ := hd
  rcases Classical.em (u < w) with q0 | q0
  · exact go_step (fun T locs X e t q => XS.ifYes X.here B.exec rfl (pc0 := pc) rfl (hb B.byt d) rfl (XT.ll_lt_t q0) (by omega) (by omega) q) (gt q0)
  · exact go_step (fun T locs X e t q => XS.ifNo X.here B.exec rfl (hb B.byt d) rfl (XT.ll_lt_f q0) q) (gf q0)
theorem go_lifge (B : OkK km κ l Z a0 n0 R own nm bytes maxL ret) (hd : Db bytes pc (.ifCond .ge o) o pc1 pc2) (gt : ¬ u < w → Go κ Q h k n pc2 L st) (gf : u < w → Go κ Q h k n pc1 L st) : Go κ Q h k n pc L (.int (XT.cmpL u w) :: st) := by
  obtain ⟨d, rfl, e2⟩ := hd
  rcases Classical.em (¬ u < w) with q0 | q0
  · exact go_step (fun T locs X e t q => XS.ifYes X.here B.exec rfl (pc0 := pc) rfl (hb B.byt d) rfl (XT.ll_ge_t q0) (by omega) (by omega) q) (gt q0)
  · exact go_step (fun T locs X e t q => XS.ifNo X.here B.exec rfl (hb B.byt d) rfl (XT.ll_ge_f (Classical.not_not.mp q0)) q) (gf (Classical.not_not.mp q0))
theorem go_lifgt (B : OkK km κ l Z a0 n0 R own nm bytes maxL ret) (hd : Db bytes pc (.ifCond .gt o) o pc1 pc2) (gt : w < u → Go κ Q h k n pc2 L st) (gf : ¬ w < u → Go κ Q h k n pc1 L st) : Go κ Q h k n pc L (.int (XT.cmpL u w) :: st) := by
  obtain ⟨d, rfl, e2⟩ := hd
  rcases Classical.em (w < u) with q0 | q0
  · exact go_step (fun T locs X e t q => XS.ifYes X.here B.exec rfl (pc0 := pc) rfl (hb B.byt d) rfl (XT.ll_gt_t q0) (by omega) (by omega) q) (gt q0)
  · exact go_step (fun T locs X e t q => XS.ifNo X.here B.exec rfl (hb B.byt d) rfl (XT.ll_gt_f q0) q) (gf q0)
theorem go_lifle (B : OkK km κ l Z a0 n0 R own nm bytes maxL ret) (hd : Db bytes pc (.ifCond .le o) o pc1 pc2) (gt : ¬ w < u → Go κ Q h k n pc2 L st) (gf : w < u → Go κ Q h k n pc1 L st) : Go κ Q h k n pc L (.int (XT.cmpL u w) :: st) := by
  obtain ⟨d, rfl, e2⟩ := hd
  rcases Classical.em (¬ w < u) with q0 | q0
  · exact go_step (fun T locs X e t q => XS.ifYes X.here B.exec rfl (pc0 := pc) rfl (hb B.byt d) rfl (XT.ll_le_t q0) (by omega) (by omega) q) (gt q0)
  · exact go_step (fun T locs X e t q => XS.ifNo X.here B.exec rfl (hb B.byt d) rfl (XT.ll_le_f (Classical.not_not.mp q0)) q) (gf (Classical.not_not.mp q0))
theorem go_acmpeq (B : OkK km κ l Z a0 n0 R own nm bytes maxL ret) (hd : Db bytes pc (.if_acmp .eq o) o pc1 pc2) (hv : v.isRef = true) (hv' : v'.isRef = true) (gt : v' = v → Go κ Q h k n pc2 L st) (gf : ¬ v' = v → Go κ Q h k n pc1 L st) : Go κ Q h k n pc L (v :: v' :: st) := by
  obtain ⟨d, rfl, e2⟩ := hd
  rcases Classical.em (v' = v) with q0 | q0
  · exact go_step (fun T locs X e t q => XT.acmpYes X.here B.exec rfl (pc0 := pc) rfl (hb B.byt d) rfl hv' hv (XT.aa_eq_t q0) (by omega) (by omega) q) (gt q0)
  · exact go_step (fun T locs X e t q => XT.acmpNo X.here B.exec rfl (hb B.byt d) rfl hv' hv (XT.aa_eq_f q0) q) (gf q0)
theorem go_acmpne (B : OkK km κ l Z a0 n0 R own nm bytes maxL ret) (hd : Db bytes pc (.if_acmp .ne o) o pc1 pc2) (hv : v.isRef = true) (hv' : v'.isRef = true) (gt : ¬ v' = v → Go κ Q h k n pc2 L st) (gf : v' = v → Go κ Q h k n pc1 L st) : Go κ Q h k n pc L (v :: v' :: st) := by
  obtain ⟨d, rfl, e2⟩ := hd
  rcases Classical.em (¬ v' = v) with q0 | q0
  · exact go_step (fun T locs X e t q => XT.acmpYes X.here B.exec rfl (pc0 := pc) rfl (hb B.byt d) rfl hv' hv (XT.aa_ne_t q0) (by omega) (by omega) q) (gt q0)
  · exact go_step (fun T locs X e t q => XT.acmpNo X.here B.exec rfl (hb B.byt d) rfl hv' hv (XT.aa_ne_f (Classical.not_not.mp q0)) q) (gf (Classical.not_not.mp q0))
theorem go_ifnull_t (B : OkK km κ l Z a0 n0 R own nm bytes maxL ret) (hd : Db bytes pc (.ifnull o) o pc1 pc2) (g : Go κ Q h k n pc2 L st) : Go κ Q h k n pc L (.null :: st) := by
  obtain ⟨d, rfl, e2⟩ := hd
  exact go_step (fun T locs X e t q => XS.ifnullYes X.here B.exec rfl (pc0 := pc) rfl (hb B.byt d) rfl (by omega) (by omega) q) g
theorem go_ifnull_f (B : OkK km κ l Z a0 n0 R own nm bytes maxL ret) (hd : Db bytes pc (.ifnull o) o pc1 pc2) (g : Go κ Q h k n pc1 L st) : Go κ Q h k n pc L (.ref a :: st) := by
  obtain ⟨d, rfl, e2⟩ := hd
  exact go_step (fun T locs X e t q => XS.ifnullNo X.here B.exec rfl (hb B.byt d) rfl q) g
theorem go_ifnonnull_t (B : OkK km κ l Z a0 n0 R own nm bytes maxL ret) (hd : Db bytes pc (.ifnonnull o) o pc1 pc2) (g : Go κ Q h k n pc2 L st) : Go κ Q h k n pc L (.ref a :: st) := by
  obtain ⟨d, rfl, e2⟩ := hd
  exact go_step (fun T locs X e t q => XT.ifnonnullYes X.here B.exec rfl (pc0 := pc) rfl (hb B.byt d) rfl (by omega) (by omega) q) g
theorem go_ifnonnull_f (B : OkK km κ l Z a0 n0 R own nm bytes maxL ret) (hd : Db bytes pc (.ifnonnull o) o pc1 pc2) (g : Go κ Q h k n pc1 L st) : Go κ Q h k n pc L (.null :: st) := by
  obtain ⟨d, rfl, e2⟩ := hd
  exact go_step (fun T locs X e t q => XT.ifnonnullNo X.here B.exec rfl (hb B.byt d) rfl q) g
/-! fields, objects, arrays, calls, returns -/
theorem go_getfield (B : OkK km κ l Z a0 n0 R own nm bytes maxL ret) {idx : Nat} {O fn d : String} (hd : Dc bytes pc (.getfield idx) 3 pc') (wl : (Jvm.Cond.fieldLink own idx O fn d).before a0 Z = true) (F : Fld Z h a O fn d v) (g : Go κ Q h k n pc' L (v :: st)) : Go κ Q h k n pc L (.ref a :: st) := fun T locs X N e => by
  obtain ⟨dd, rfl⟩ := hd
  obtain ⟨T', X', e', sp⟩ := getF X B.exec B.warm B.hown (host := "") (Or.inl wl) Via.refl e F (g := mkF κ.m pc L (.ref a :: st)) rfl rfl (hb B.byt dd)
  obtain ⟨t, o, h1, h2⟩ := g T' locs X' N e'
  exact ⟨t, o, sp _ h1, h2⟩
theorem go_getstatic (B : OkK km κ l Z a0 n0 R own nm bytes maxL ret) {idx : Nat} {O fn d : String} (hd : Dc bytes pc (.getstatic idx) 3 pc') (wl : (Jvm.Cond.fieldLink own idx O fn d).before a0 Z = true) (F : Sta Z h O fn d v) (g : Go κ Q h k n pc' L (v :: st)) : Go κ Q h k n pc L st := fun T locs X N e => by
  obtain ⟨dd, rfl⟩ := hd
  obtain ⟨T', X', e', sp⟩ := getS (host := "") X B.exec B.warm B.hown wl Via.refl e F (g := mkF κ.m pc L st) rfl (hb B.byt dd)
  obtain ⟨t, o, h1, h2⟩ := g T' locs X' N e'
  exact ⟨t, o, sp _ h1, h2⟩
theorem go_putfield (B : OkK km κ l Z a0 n0 R own nm bytes maxL ret) {idx kk : Nat} {O fn d C : String} {ty : FieldType} {old : Value} (hd : Dc bytes pc (.putfield idx) 3 pc') (wl : (Jvm.Cond.fieldLink own idx O fn d).before a0 Z = true) (F : Fld Z h a O fn d old) (E : Exa Z h a C)
    (wy : (Jvm.Cond.lays C O fn d).before a0 Z = true ∨ ((Jvm.Cond.laysFinal C O fn d).before a0 Z = true ∧ own = O ∧ nm = "<init>")) (wi : (Jvm.Cond.instantiable C kk).before a0 Z = true) (hty : parseFieldDescriptor d = some ty) (hn : narrow ty v = v) (hf : fits ty v = true) (ha : n0 ≤ a)
    (g : ∀ h', Wr h h' a (Jvm.RoadKit.slotOf Z O fn d) v → Go κ Q h' k n pc' L st) : Go κ Q h k n pc L (v :: .ref a :: st) := fun T locs X N e => by
  obtain ⟨dd, rfl⟩ := hd
  obtain ⟨T', h', X', e', W, sp⟩ := putF X B.exec B.warm B.hown (host := "") (Or.inl wl) Via.refl e F E (wy.imp id fun q => ⟨q.1, q.2.1, B.name.trans q.2.2⟩) wi hty hn hf (g := mkF κ.m pc L (v :: .ref a :: st)) rfl rfl (hb B.byt dd)
  obtain ⟨t, o, h1, h2⟩ := g h' W T' _ X' (Fr.snoc X' N (B.hn ▸ ha)) e'
  exact ⟨t, o, sp _ h1, h2⟩
theorem go_new (B : OkK km κ l Z a0 n0 R own nm bytes maxL ret) {idx nf : Nat} {C : String} (hd : Dc bytes pc (.new idx) 3 pc') (wl : (Jvm.Cond.classLink own idx C).before a0 Z = true) (wi : (Jvm.Cond.instantiable C nf).before a0 Z = true) (wz : (Jvm.Cond.initialized C).before a0 Z = true) (hc : k + 1 ≤ R.cells) (hl : n + nf ≤ R.slots)
    (g : ∀ h' b, b = h.size → Ext h h' → Exa Z h' b C → (∀ {O fn d : String} {ty : FieldType}, Laid Z a0 C O fn d → parseFieldDescriptor d = some ty → Fld Z h' b O fn d (defaultValue ty)) → Go κ Q h' (k + 1) (n + nf) pc' L (.ref b :: st)) : Go κ Q h k n pc L st := fun T locs X N e => by
  obtain ⟨dd, rfl⟩ := hd
  obtain ⟨T', h', X', e', E, A, D, -, sp⟩ := newO X B.exec B.warm B.hown wl wi wz e (g := mkF κ.m pc L st) rfl (hb B.byt dd) (by rw [B.room]; exact hc) (by rw [B.room]; exact hl)
  obtain ⟨t, o, h1, h2⟩ := g h' _ rfl E A D T' locs X' N e'
  exact ⟨t, o, sp _ h1, h2⟩
/-- an array whose places hold just these values -/
def AV (Z : State) (h : Heap) (a : Addr) (ty : FieldType) (vs : List Value) : Prop := ∃ c : Cell, Arr Z h a c ty ∧ c.slots = vs.toArray ∧ vs.length < 2 ^ 31
theorem AV.ext {ty : FieldType} {vs : List Value} {h' : Heap} (F : AV Z h a ty vs) (E : Ext h h') : AV Z h' a ty vs := by obtain ⟨c, A, r⟩ := F; exact ⟨c, A.ext E, r⟩
theorem AV.other {ty : FieldType} {vs : List Value} {h' : Heap} {b : Addr} {sl : Nat} (F : AV Z h b ty vs) (W : Wr h h' a sl v) (q : b ≠ a) : AV Z h' b ty vs := by obtain ⟨c, A, r⟩ := F; exact ⟨c, A.other W q, r⟩
theorem AV.keep {ty : FieldType} {vs : List Value} {h' : Heap} {ws : List Addr} (F : AV Z h a ty vs) (K : Keep h h' ws) (q : a ∉ ws) : AV Z h' a ty vs := by obtain ⟨c, A, r⟩ := F; exact ⟨c, ⟨K.2.1 a c A.1 q, A.2⟩, r⟩
theorem AV.same {ty : FieldType} {vs : List Value} {h' : Heap} {i : Nat} (F : AV Z h a ty vs) (W : Wr h h' a i v) : AV Z h' a ty (vs.set i v) := by
  obtain ⟨c, A, r, s⟩ := F
  exact ⟨_, A.same W, by simp [Cell.setSlot, r], by simpa using s⟩
theorem AV.lt {ty : FieldType} {vs : List Value} (F : AV Z h a ty vs) : a < h.size := by obtain ⟨c, A, -⟩ := F; exact A.lt
theorem AV.len {ty : FieldType} {vs : List Value} (F : AV Z h a ty vs) : vs.length < 2 ^ 31 := by obtain ⟨c, A, -, q⟩ := F; exact q
theorem nat_idx {i : Nat} (hj : x.toInt = (i : Int)) : ¬ x < 0 ∧ x.toNatClampNeg = i := by
  refine ⟨fun q => ?_, ?_⟩
  · have := (Int32.lt_iff_toInt_lt).mp q
    have z : (0 : Int32).toInt = 0 := rfl
    omega
  · show x.toInt.toNat = i
    omega
theorem go_arraylength (B : OkK km κ l Z a0 n0 R own nm bytes maxL ret) {ty : FieldType} {vs : List Value} (hd : Dc bytes pc .arraylength 1 pc') (A : AV Z h a ty vs) (hx : Int32.ofNat vs.length = x) (g : Go κ Q h k n pc' L (.int x :: st)) : Go κ Q h k n pc L (.ref a :: st) := by
  obtain ⟨dd, rfl⟩ := hd
  obtain ⟨c, A, r, s⟩ := A
  have e1 : (Int32.ofNat c.slots.size) = x := by rw [← hx, r]; simp
  subst e1
  exact go_step (fun T locs X e t q => X.arraylength B.exec (by rw [e]; exact A.1) (State.isArrayOf_alike B.warm.alike A.2.1) (g := mkF κ.m pc L (.ref a :: st)) rfl rfl (hb B.byt dd) _ q) g
theorem go_iaload (B : OkK km κ l Z a0 n0 R own nm bytes maxL ret) {vs : List Value} {i : Nat} (hd : Dc bytes pc .iaload 1 pc') (A : AV Z h a .int vs) (hi : x.toInt = (i : Int)) (hv : vs[i]? = some v) (g : Go κ Q h k n pc' L (v :: st)) : Go κ Q h k n pc L (.int x :: .ref a :: st) := by
  obtain ⟨dd, rfl⟩ := hd
  obtain ⟨c, A, r, s⟩ := A
  obtain ⟨q1, q2⟩ := nat_idx hi
  have hl : i < vs.length := (List.getElem?_eq_some_iff.mp hv).1
  exact go_step (fun T locs X e t q => X.iaload B.exec (j := x) (v := v) (by rw [e]; exact A.1) (State.isArrayOf_alike B.warm.alike A.2.1) A.2.2 (by rw [r, q2]; simp; exact ⟨Int32.not_lt.mp q1, hl⟩) (by rw [r, q2]; simpa using hv) (g := mkF κ.m pc L (.int x :: .ref a :: st)) rfl rfl (hb B.byt dd) _ q) g
theorem go_laload (B : OkK km κ l Z a0 n0 R own nm bytes maxL ret) {vs : List Value} {i : Nat} (hd : Dc bytes pc .laload 1 pc') (A : AV Z h a .long vs) (hi : x.toInt = (i : Int)) (hv : vs[i]? = some v) (g : Go κ Q h k n pc' L (v :: st)) : Go κ Q h k n pc L (.int x :: .ref a :: st) := by
  obtain ⟨dd, rfl⟩ := hd
  obtain ⟨c, A, r, s⟩ := A
  obtain ⟨q1, q2⟩ := nat_idx hi
  have hl : i < vs.length := (List.getElem?_eq_some_iff.mp hv).1
  exact go_step (fun T locs X e t q => X.laload B.exec (j := x) (v := v) (by rw [e]; exact A.1) (State.isArrayOf_alike B.warm.alike A.2.1) A.2.2 (by rw [r, q2]; simp; exact ⟨Int32.not_lt.mp q1, hl⟩) (by rw [r, q2]; simpa using hv) (g := mkF κ.m pc L (.int x :: .ref a :: st)) rfl rfl (hb B.byt dd) _ q) g
theorem go_caload (B : OkK km κ l Z a0 n0 R own nm bytes maxL ret) {vs : List Value} {i : Nat} (hd : Dc bytes pc .caload 1 pc') (A : AV Z h a .char vs) (hi : x.toInt = (i : Int)) (hv : vs[i]? = some v) (g : Go κ Q h k n pc' L (v :: st)) : Go κ Q h k n pc L (.int x :: .ref a :: st) := by
  obtain ⟨dd, rfl⟩ := hd
  obtain ⟨c, A, r, s⟩ := A
  obtain ⟨q1, q2⟩ := nat_idx hi
  have hl : i < vs.length := (List.getElem?_eq_some_iff.mp hv).1
  exact go_step (fun T locs X e t q => X.caload B.exec (j := x) (v := v) (by rw [e]; exact A.1) (State.isArrayOf_alike B.warm.alike A.2.1) A.2.2 (by rw [r, q2]; simp; exact ⟨Int32.not_lt.mp q1, hl⟩) (by rw [r, q2]; simpa using hv) (g := mkF κ.m pc L (.int x :: .ref a :: st)) rfl rfl (hb B.byt dd) _ q) g
theorem go_baload (B : OkK km κ l Z a0 n0 R own nm bytes maxL ret) {vs : List Value} {i : Nat} (hd : Dc bytes pc .baload 1 pc') (A : AV Z h a .byte vs) (hi : x.toInt = (i : Int)) (hv : vs[i]? = some v) (g : Go κ Q h k n pc' L (v :: st)) : Go κ Q h k n pc L (.int x :: .ref a :: st) := by
  obtain ⟨dd, rfl⟩ := hd
  obtain ⟨c, A, r, s⟩ := A
  obtain ⟨q1, q2⟩ := nat_idx hi
  have hl : i < vs.length := (List.getElem?_eq_some_iff.mp hv).1
  exact go_step (fun T locs X e t q => X.baloadBytes B.exec (j := x) (v := v) (by rw [e]; exact A.1) (State.isArrayOf_alike B.warm.alike A.2.1) A.2.2 (by rw [r, q2]; simp; exact ⟨Int32.not_lt.mp q1, hl⟩) (by rw [r, q2]; simpa using hv) (g := mkF κ.m pc L (.int x :: .ref a :: st)) rfl rfl (hb B.byt dd) _ q) g
theorem go_zaload (B : OkK km κ l Z a0 n0 R own nm bytes maxL ret) {vs : List Value} {i : Nat} (hd : Dc bytes pc .baload 1 pc') (A : AV Z h a .boolean vs) (hi : x.toInt = (i : Int)) (hv : vs[i]? = some v) (g : Go κ Q h k n pc' L (v :: st)) : Go κ Q h k n pc L (.int x :: .ref a :: st) := by
  obtain ⟨dd, rfl⟩ := hd
  obtain ⟨c, A, r, s⟩ := A
  obtain ⟨q1, q2⟩ := nat_idx hi
  have hl : i < vs.length := (List.getElem?_eq_some_iff.mp hv).1
  exact go_step (fun T locs X e t q => X.baloadBooleans B.exec (j := x) (v := v) (by rw [e]; exact A.1) (State.isArrayOf_alike B.warm.alike A.2.1) A.2.2 (by rw [r, q2]; simp; exact ⟨Int32.not_lt.mp q1, hl⟩) (by rw [r, q2]; simpa using hv) (g := mkF κ.m pc L (.int x :: .ref a :: st)) rfl rfl (hb B.byt dd) _ q) g
theorem go_aaload (B : OkK km κ l Z a0 n0 R own nm bytes maxL ret) {ty : FieldType} {vs : List Value} {i : Nat} (hd : Dc bytes pc .aaload 1 pc') (A : AV Z h a ty vs) (hty : ty.isReference = true) (hi : x.toInt = (i : Int)) (hv : vs[i]? = some v) (g : Go κ Q h k n pc' L (v :: st)) : Go κ Q h k n pc L (.int x :: .ref a :: st) := by
  obtain ⟨dd, rfl⟩ := hd
  obtain ⟨c, A, r, s⟩ := A
  obtain ⟨q1, q2⟩ := nat_idx hi
  have hl : i < vs.length := (List.getElem?_eq_some_iff.mp hv).1
  exact go_step (fun T locs X e t q => X.aaload B.exec (j := x) (v := v) (by rw [e]; exact A.1) (State.isArrayOf_alike B.warm.alike A.2.1) hty A.2.2 (by rw [r, q2]; simp; exact ⟨Int32.not_lt.mp q1, hl⟩) (by rw [r, q2]; simpa using hv) (g := mkF κ.m pc L (.int x :: .ref a :: st)) rfl rfl (hb B.byt dd) _ q) g
theorem go_iastore (B : OkK km κ l Z a0 n0 R own nm bytes maxL ret) {vs : List Value} {i : Nat} (hd : Dc bytes pc .iastore 1 pc') (A : AV Z h a .int vs) (hi : x.toInt = (i : Int)) (hl : i < vs.length) (ha : n0 ≤ a) (g : ∀ h', Wr h h' a i (.int y) → AV Z h' a .int (vs.set i (.int y)) → Go κ Q h' k n pc' L st) : Go κ Q h k n pc L (.int y :: .int x :: .ref a :: st) := fun T locs X N e => by
  obtain ⟨dd, rfl⟩ := hd
  have A0 := A
  obtain ⟨c, A, r, s⟩ := A
  obtain ⟨q1, q2⟩ := nat_idx hi
  obtain ⟨T', h', X', e', W, sp⟩ := stI X B.exec B.warm e A (j := x) (by rw [r, q2]; simp; exact ⟨Int32.not_lt.mp q1, hl⟩) (g := mkF κ.m pc L (.int y :: .int x :: .ref a :: st)) rfl rfl (hb B.byt dd)
  have W' : Wr h h' a i (.int y) := q2 ▸ W
  obtain ⟨t, o, h1, h2⟩ := g h' W' (A0.same W') T' _ X' (Fr.snoc X' N (B.hn ▸ ha)) e'
  exact ⟨t, o, sp _ h1, h2⟩
theorem go_lastore (B : OkK km κ l Z a0 n0 R own nm bytes maxL ret) {vs : List Value} {i : Nat} (hd : Dc bytes pc .lastore 1 pc') (A : AV Z h a .long vs) (hi : x.toInt = (i : Int)) (hl : i < vs.length) (ha : n0 ≤ a) (g : ∀ h', Wr h h' a i (.long u) → AV Z h' a .long (vs.set i (.long u)) → Go κ Q h' k n pc' L st) : Go κ Q h k n pc L (.long u :: .int x :: .ref a :: st) := fun T locs X N e => by
  obtain ⟨dd, rfl⟩ := hd
  have A0 := A
  obtain ⟨c, A, r, s⟩ := A
  obtain ⟨q1, q2⟩ := nat_idx hi
  obtain ⟨T', h', X', e', W, sp⟩ := stJ X B.exec B.warm e A (j := x) (by rw [r, q2]; simp; exact ⟨Int32.not_lt.mp q1, hl⟩) (g := mkF κ.m pc L (.long u :: .int x :: .ref a :: st)) rfl rfl (hb B.byt dd)
  have W' : Wr h h' a i (.long u) := q2 ▸ W
  obtain ⟨t, o, h1, h2⟩ := g h' W' (A0.same W') T' _ X' (Fr.snoc X' N (B.hn ▸ ha)) e'
  exact ⟨t, o, sp _ h1, h2⟩
theorem go_castore (B : OkK km κ l Z a0 n0 R own nm bytes maxL ret) {vs : List Value} {i : Nat} (hd : Dc bytes pc .castore 1 pc') (A : AV Z h a .char vs) (hi : x.toInt = (i : Int)) (hl : i < vs.length) (ha : n0 ≤ a) (g : ∀ h', Wr h h' a i (.int (nar .char y)) → AV Z h' a .char (vs.set i (.int (nar .char y))) → Go κ Q h' k n pc' L st) : Go κ Q h k n pc L (.int y :: .int x :: .ref a :: st) := fun T locs X N e => by
  obtain ⟨dd, rfl⟩ := hd
  have A0 := A
  obtain ⟨c, A, r, s⟩ := A
  obtain ⟨q1, q2⟩ := nat_idx hi
  obtain ⟨T', h', X', e', W, sp⟩ := stC X B.exec B.warm e A (j := x) (by rw [r, q2]; simp; exact ⟨Int32.not_lt.mp q1, hl⟩) (g := mkF κ.m pc L (.int y :: .int x :: .ref a :: st)) rfl rfl (hb B.byt dd)
  have W' : Wr h h' a i (.int (nar .char y)) := q2 ▸ W
  obtain ⟨t, o, h1, h2⟩ := g h' W' (A0.same W') T' _ X' (Fr.snoc X' N (B.hn ▸ ha)) e'
  exact ⟨t, o, sp _ h1, h2⟩
theorem go_bastore (B : OkK km κ l Z a0 n0 R own nm bytes maxL ret) {vs : List Value} {i : Nat} (hd : Dc bytes pc .bastore 1 pc') (A : AV Z h a .byte vs) (hi : x.toInt = (i : Int)) (hl : i < vs.length) (ha : n0 ≤ a) (g : ∀ h', Wr h h' a i (.int (nar .byte y)) → AV Z h' a .byte (vs.set i (.int (nar .byte y))) → Go κ Q h' k n pc' L st) : Go κ Q h k n pc L (.int y :: .int x :: .ref a :: st) := fun T locs X N e => by
  obtain ⟨dd, rfl⟩ := hd
  have A0 := A
  obtain ⟨c, A, r, s⟩ := A
  obtain ⟨q1, q2⟩ := nat_idx hi
  obtain ⟨T', h', X', e', W, sp⟩ := stB X B.exec B.warm e A (j := x) (by rw [r, q2]; simp; exact ⟨Int32.not_lt.mp q1, hl⟩) (g := mkF κ.m pc L (.int y :: .int x :: .ref a :: st)) rfl rfl (hb B.byt dd)
  have W' : Wr h h' a i (.int (nar .byte y)) := q2 ▸ W
  obtain ⟨t, o, h1, h2⟩ := g h' W' (A0.same W') T' _ X' (Fr.snoc X' N (B.hn ▸ ha)) e'
  exact ⟨t, o, sp _ h1, h2⟩
theorem go_zastore (B : OkK km κ l Z a0 n0 R own nm bytes maxL ret) {vs : List Value} {i : Nat} (hd : Dc bytes pc .bastore 1 pc') (A : AV Z h a .boolean vs) (hi : x.toInt = (i : Int)) (hl : i < vs.length) (ha : n0 ≤ a) (g : ∀ h', Wr h h' a i (.int (nar .boolean y)) → AV Z h' a .boolean (vs.set i (.int (nar .boolean y))) → Go κ Q h' k n pc' L st) : Go κ Q h k n pc L (.int y :: .int x :: .ref a :: st) := fun T locs X N e => by
  obtain ⟨dd, rfl⟩ := hd
  have A0 := A
  obtain ⟨c, A, r, s⟩ := A
  obtain ⟨q1, q2⟩ := nat_idx hi
  obtain ⟨T', h', X', e', W, sp⟩ := stZ X B.exec B.warm e A (j := x) (by rw [r, q2]; simp; exact ⟨Int32.not_lt.mp q1, hl⟩) (g := mkF κ.m pc L (.int y :: .int x :: .ref a :: st)) rfl rfl (hb B.byt dd)
  have W' : Wr h h' a i (.int (nar .boolean y)) := q2 ▸ W
  obtain ⟨t, o, h1, h2⟩ := g h' W' (A0.same W') T' _ X' (Fr.snoc X' N (B.hn ▸ ha)) e'
  exact ⟨t, o, sp _ h1, h2⟩
theorem go_newarray (B : OkK km κ l Z a0 n0 R own nm bytes maxL ret) {aty : ArrayType} {i cap : Nat} (hd : Dc bytes pc (.newarray aty) 2 pc') (wa : (Jvm.Cond.arrayClass (newarray.typeOf aty)).before a0 Z = true) (hi : x.toInt = (i : Int)) (hcap : i ≤ cap) (hbig : cap * 8 ≤ 536870912) (hc : k + 1 ≤ R.cells) (hl : n + cap ≤ R.slots)
    (g : ∀ h' b, b = h.size → Ext h h' → AV Z h' b (newarray.typeOf aty) (List.replicate i (defaultValue (newarray.typeOf aty))) → Exa Z h' b ("[" ++ (newarray.typeOf aty).toString) → Go κ Q h' (k + 1) (n + cap) pc' L (.ref b :: st)) : Go κ Q h k n pc L (.int x :: st) := fun T locs X N e => by
  obtain ⟨dd, rfl⟩ := hd
  obtain ⟨q1, q2⟩ := nat_idx hi
  have hcb : componentBytes (newarray.typeOf aty) ≤ 8 := by cases aty <;> decide
  have hbig' : x.toNatClampNeg * componentBytes (newarray.typeOf aty) ≤ 536870912 := Nat.le_trans (Nat.mul_le_mul (q2 ▸ hcap) hcb) hbig
  obtain ⟨cA, kA, comp, f1, f2, f3, X', sp⟩ := X.newarrayPrim B.exec (mvA B.warm wa) (g := mkF κ.m pc L (.int x :: st)) rfl (hb B.byt dd) rfl q1 hbig' (by rw [B.room]; exact hc) (by rw [B.room, q2]; omega)
  subst e
  have f1' : Z.vm.findClass ("[" ++ (newarray.typeOf aty).toString) = some cA := by rw [← B.warm.alike.findClass]; exact f1
  obtain ⟨kZ, z1, -⟩ := Vm.findClass_spec f1'
  obtain ⟨k', z2, z3⟩ := B.warm.alike.2.2 _ _ z1
  cases f2.symm.trans z2
  have f4 : kZ.kind = .array comp (newarray.typeOf aty) := by rw [← f3, z3]
  have hat : (T.heap.push { cls := cA, slots := Array.replicate x.toNatClampNeg (defaultValue (newarray.typeOf aty)), vm := .none : Cell })[T.heap.size]? = some { cls := cA, slots := Array.replicate x.toNatClampNeg (defaultValue (newarray.typeOf aty)), vm := .none } := by simp
  have hE : Ext T.heap (T.heap.push { cls := cA, slots := Array.replicate x.toNatClampNeg (defaultValue (newarray.typeOf aty)), vm := .none : Cell }) := ext_of fun a ha => by rw [Array.getElem?_push_lt ha]; exact (Array.getElem?_eq_getElem _).symm
  obtain ⟨t, o, h1, h2⟩ := g _ _ rfl hE ⟨_, ⟨hat, ⟨by simp, kZ, z1, comp, f4⟩, by simp⟩, by simp [q2], by simp; have := x.toInt_lt; omega⟩
    ⟨_, kZ, hat, f1', z1, rfl, fun q => by rw [f4] at q; cases q⟩ _ locs (X'.more (Nat.le_refl _) (by rw [q2]; omega)) N rfl
  exact ⟨t, o, sp _ h1, h2⟩
theorem go_ldcI (B : OkK km κ l Z a0 n0 R own nm bytes maxL ret) {idx : Nat} (hd : Dc bytes pc (.ldc idx) 2 pc') (wl : (Jvm.Cond.constant own idx x).before a0 Z = true) (g : Go κ Q h k n pc' L (.int x :: st)) : Go κ Q h k n pc L st := by
  obtain ⟨dd, rfl⟩ := hd
  exact go_step (fun T locs X e t q => X.ldcInt B.exec B.hown (mvT B.warm wl) (g := mkF κ.m pc L st) rfl (hb B.byt dd) _ q) g
theorem go_ldcWI (B : OkK km κ l Z a0 n0 R own nm bytes maxL ret) {idx : Nat} (hd : Dc bytes pc (.ldc_w idx) 3 pc') (wl : (Jvm.Cond.constant own idx x).before a0 Z = true) (g : Go κ Q h k n pc' L (.int x :: st)) : Go κ Q h k n pc L st := by
  obtain ⟨dd, rfl⟩ := hd
  exact go_step (fun T locs X e t q => X.ldcwInt B.exec B.hown (mvT B.warm wl) (g := mkF κ.m pc L st) rfl (hb B.byt dd) _ q) g
theorem go_ldc2J (B : OkK km κ l Z a0 n0 R own nm bytes maxL ret) {idx : Nat} (hd : Dc bytes pc (.ldc2_w idx) 3 pc') (wl : (Jvm.Cond.constantLong own idx u).before a0 Z = true) (g : Go κ Q h k n pc' L (.long u :: st)) : Go κ Q h k n pc L st := by
  obtain ⟨dd, rfl⟩ := hd
  exact go_step (fun T locs X e t q => X.ldc2Long B.exec B.hown (mvT B.warm wl) (g := mkF κ.m pc L st) rfl (hb B.byt dd) _ q) g
theorem go_initO (B : OkK km κ l Z a0 n0 R own nm bytes maxL ret) {idx W : Nat} (hd : Dc bytes pc (.invokespecial idx) 3 pc') (w1 : (Jvm.Cond.methodLink own idx Lib.objectInit).before a0 Z = true) (w2 : (Jvm.Cond.instanceMethod Lib.objectInit).before a0 Z = true) (w3 : (Jvm.Cond.code Lib.objectInit ⟨#[0xb1]⟩ 1 none).before a0 Z = true)
    (hs : L.size = maxL) (hW : (st.map fun v => v.category).sum = W) (hf : 1 ≤ R.frames) (hl : W + 12 ≤ R.locals) (g : Go κ Q h k n pc' L st) : Go κ Q h k n pc L (.ref a :: st) := fun T locs X N e => by
  obtain ⟨dd, rfl⟩ := hd
  obtain ⟨T', X', e', sp⟩ := initO X B.exec B.warm B.hown w1 w2 w3 e (g := mkF κ.m pc L (.ref a :: st)) rfl (by rw [B.mxl]; exact hs) rfl (hb B.byt dd) (by rw [B.room]; exact hf) (W := W) (by show 2 * 0 + _ ≤ _; omega) (by rw [B.room]; exact hl)
  obtain ⟨t, o, h1, h2⟩ := g T' locs X' N e'
  exact ⟨t, o, sp _ h1, h2⟩
section Call
variable {y' : MethodName} {idx W : Nat} {bytes' : ByteArray} {maxL' : Nat} {ret' : Option FieldType} {rm : Room} {as' : Array Value} {argsL : List Value} {Q' : Option Value → Heap → Prop} {ps : List FieldType} {rt : Option FieldType}
theorem go_static (B : OkK km κ l Z a0 n0 R own nm bytes maxL ret) (hd : Dc bytes pc (.invokestatic idx) 3 pc') (w1 : (Jvm.Cond.methodLink own idx y').before a0 Z = true) (w2 : (Jvm.Cond.static y').before a0 Z = true) (w3 : (Jvm.Cond.initialized y'.cls).before a0 Z = true) (w4 : (Jvm.Cond.code y' bytes' maxL' ret').before a0 Z = true)
    (hy : y'.cls ≠ "java/lang/invoke/MethodHandle" ∧ y'.cls ≠ "java/lang/invoke/VarHandle") (C : Ct l Z n0 y' bytes' maxL' ret' [] rm argsL.toArray h Q') (pd : parseMethodDescriptor y'.desc = some ⟨ps, rt⟩) (hlen : argsL.length = ps.length) (hst : st' = argsL.reverse ++ st) (hs : L.size = maxL)
    (hW : (st.map fun v => v.category).sum = W) (hf : rm.frames + 1 ≤ R.frames) (hl : W + (maxL' + 11) + rm.locals ≤ R.locals) (hc : k + rm.cells ≤ R.cells) (hn : n + rm.slots ≤ R.slots)
    (g : ∀ v h', Q' v h' → Go κ Q h' (k + rm.cells) (n + rm.slots) pc' L (v.toList ++ st)) : Go κ Q h k n pc L st' := fun T locs X N e => by
  obtain ⟨dd, rfl⟩ := hd
  have C' : Ct κ.l Z n0 y' bytes' maxL' ret' [] rm argsL.toArray h Q' := B.hl.symm ▸ C
  obtain ⟨vv, _, ⟨T', L2, k2, n2⟩, -, X', ⟨Lc, hQ, l2, y2, z2⟩, sp⟩ := Jvm.LawKit.callS X B.exec (y := y') B.hown (mvT B.warm w1) (mvT B.warm w2) (mvT B.warm w3) (mvT B.warm w4) hy
    (backOf (Q := fun v h L => Q' v h ∧ Fr n0 L) (W := W) C' B.warm w4 w3 (by rw [B.room]; exact hf) (by rw [B.room]; exact hl)) (g := mkF κ.m pc L st') rfl (by rw [B.mxl]; exact hs) (argsL := argsL) (rest := st) (lenOf pd hlen) hst (by show 2 * 0 + _ ≤ _; omega) (hb B.byt dd)
    (fun _ _ => ⟨rfl, e, by rw [B.room]; exact hc, by rw [B.room]; exact hn⟩)
  dsimp only [Pt.U, Pt.locs, Pt.cells, Pt.slots] at X' l2 y2 z2 sp hQ
  subst l2 y2 z2
  obtain ⟨t, o, h1, h2⟩ := g vv T'.heap hQ.1 T' _ X' (Fr.app N (B.hn.symm ▸ hQ.2)) rfl
  exact ⟨t, o, sp _ h1, h2⟩
theorem go_special (B : OkK km κ l Z a0 n0 R own nm bytes maxL ret) (hd : Dc bytes pc (.invokespecial idx) 3 pc') (hi : y'.name = "<init>") (w1 : (Jvm.Cond.methodLink own idx y').before a0 Z = true) (w2 : (Jvm.Cond.instanceMethod y').before a0 Z = true) (w3 : (Jvm.Cond.initialized y'.cls).before a0 Z = true) (w4 : (Jvm.Cond.code y' bytes' maxL' none).before a0 Z = true)
    (hy : y'.cls ≠ "java/lang/invoke/MethodHandle" ∧ y'.cls ≠ "java/lang/invoke/VarHandle") (C : Ct l Z n0 y' bytes' maxL' none [] rm (.ref a :: argsL).toArray h Q') (pd : parseMethodDescriptor y'.desc = some ⟨ps, rt⟩) (hlen : argsL.length = ps.length) (hst : st' = argsL.reverse ++ .ref a :: st) (hs : L.size = maxL)
    (hW : (st.map fun v => v.category).sum = W) (hf : rm.frames + 1 ≤ R.frames) (hl : W + (maxL' + 11) + rm.locals ≤ R.locals) (hc : k + rm.cells ≤ R.cells) (hn : n + rm.slots ≤ R.slots)
    (g : ∀ v h', Q' v h' → Go κ Q h' (k + rm.cells) (n + rm.slots) pc' L (v.toList ++ st)) : Go κ Q h k n pc L st' := fun T locs X N e => by
  obtain ⟨dd, rfl⟩ := hd
  have C' : Ct κ.l Z n0 y' bytes' maxL' none [] rm (.ref a :: argsL).toArray h Q' := B.hl.symm ▸ C
  obtain ⟨vv, _, ⟨T', L2, k2, n2⟩, -, X', ⟨Lc, hQ, l2, y2, z2⟩, sp⟩ := X.specialBack B.exec (y := y') hi B.hown (mvT B.warm w1) (mvT B.warm w2) (mvT B.warm w4) hy
    (backOf (Q := fun v h L => Q' v h ∧ Fr n0 L) (W := W) C' B.warm w4 w3 (by rw [B.room]; exact hf) (by rw [B.room]; exact hl)) (g := mkF κ.m pc L st') rfl (by rw [B.mxl]; exact hs) (Steps.refl _) (a := a) (argsL := argsL) (rest := st) (lenOf pd hlen) hst (by show 2 * 0 + _ ≤ _; omega) (hb B.byt dd)
    (fun _ _ => ⟨rfl, e, by rw [B.room]; exact hc, by rw [B.room]; exact hn⟩)
  dsimp only [Pt.U, Pt.locs, Pt.cells, Pt.slots] at X' l2 y2 z2 sp hQ
  subst l2 y2 z2
  obtain ⟨t, o, h1, h2⟩ := g vv T'.heap hQ.1 T' _ X' (Fr.app N (B.hn.symm ▸ hQ.2)) rfl
  exact ⟨t, o, sp.trans h1, h2⟩
theorem go_virtual (B : OkK km κ l Z a0 n0 R own nm bytes maxL ret) {C0 : String} (hd : Dc bytes pc (.invokevirtual idx) 3 pc') (w1 : (Jvm.Cond.methodLink own idx y').before a0 Z = true) (w2 : (Jvm.Cond.declares y').before a0 Z = true) (w5 : (Jvm.Cond.selects C0 y' y').before a0 Z = true) (w6 : (Jvm.Cond.instanceMethod y').before a0 Z = true) (w3 : (Jvm.Cond.initialized y'.cls).before a0 Z = true) (w4 : (Jvm.Cond.code y' bytes' maxL' ret').before a0 Z = true)
    (hy : y'.cls ≠ "java/lang/invoke/MethodHandle" ∧ y'.cls ≠ "java/lang/invoke/VarHandle") (E : Exa Z h a C0) (C : Ct l Z n0 y' bytes' maxL' ret' [] rm (.ref a :: argsL).toArray h Q') (pd : parseMethodDescriptor y'.desc = some ⟨ps, rt⟩) (hlen : argsL.length = ps.length) (hst : st' = argsL.reverse ++ .ref a :: st) (hs : L.size = maxL)
    (hW : (st.map fun v => v.category).sum = W) (hf : rm.frames + 1 ≤ R.frames) (hl : W + (maxL' + 11) + rm.locals ≤ R.locals) (hc : k + rm.cells ≤ R.cells) (hn : n + rm.slots ≤ R.slots)
    (g : ∀ v h', Q' v h' → Go κ Q h' (k + rm.cells) (n + rm.slots) pc' L (v.toList ++ st)) : Go κ Q h k n pc L st' := fun T locs X N e => by
  obtain ⟨dd, rfl⟩ := hd
  have C' : Ct κ.l Z n0 y' bytes' maxL' ret' [] rm (.ref a :: argsL).toArray h Q' := B.hl.symm ▸ C
  obtain ⟨cq, kq, qa, qb, qc⟩ := isOf B.warm e E
  obtain ⟨vv, _, ⟨T', L2, k2, n2⟩, -, X', ⟨Lc, hQ, l2, y2, z2⟩, sp⟩ := X.virtualBack B.exec (y := y') (z := y') B.hown (mvT B.warm w1) (mvT B.warm w2) (notFace_of_selects (args := #[]) (mvT B.warm w5)) (mvT B.warm w5) (mvT B.warm w6) hy
    (backOf (Q := fun v h L => Q' v h ∧ Fr n0 L) (W := W) C' B.warm w4 w3 (by rw [B.room]; exact hf) (by rw [B.room]; exact hl)) qa qc (g := mkF κ.m pc L st') rfl (by rw [B.mxl]; exact hs) (Steps.refl _) (argsL := argsL) (rest := st) (lenOf pd hlen) hst (by show 2 * 0 + _ ≤ _; omega) (hb B.byt dd)
    (fun _ _ => ⟨rfl, e, by rw [B.room]; exact hc, by rw [B.room]; exact hn⟩)
  dsimp only [Pt.U, Pt.locs, Pt.cells, Pt.slots] at X' l2 y2 z2 sp hQ
  subst l2 y2 z2
  obtain ⟨t, o, h1, h2⟩ := g vv T'.heap hQ.1 T' _ X' (Fr.app N (B.hn.symm ▸ hQ.2)) rfl
  exact ⟨t, o, sp.trans h1, h2⟩
end Call
theorem go_end (B : OkK km κ l Z a0 n0 R own nm bytes maxL ret) {vv : Option Value} (hk : k ≤ R.cells) (hn : n ≤ R.slots) (hq : Q vv h) (hv : ret = none → vv = none) (hkm : km ≤ h.size)
    (hs : ∀ (T : State) (locs : List Loc) (fs : List Frame), Stand κ.p κ.l κ.e κ.R κ.s κ.m κ.args κ.below κ.meth κ.c T locs k n → (∀ (f : JFrame) (acts : List Action), f.method = κ.m → f.locked = none → f.entered = [] → (doReturn κ.e (T.setTop f) acts vv).1 = T.setFrames fs) → Steps κ.p.tables κ.e κ.below (T.setTop (mkF κ.m pc L st)) (T.setFrames fs)) : Go κ Q h k n pc L st := fun T locs X N e => by
  obtain ⟨fs, hr, hrun, hended, hW, hsame⟩ := X.leave (v := vv) (fun q => hv (B.rets.symm.trans q)) B.nolock
  exact ⟨_, _, hs T locs fs X hr, hrun, hended, _, _, rfl, ⟨by show Q vv T.heap; rw [e]; exact hq, N⟩, B.hE _ _ _ ⟨⟨_, rfl⟩, hW, hsame.mono (by rw [B.room]; exact hk) (by rw [B.room]; exact hn)⟩ (by show κ.kmin ≤ T.heap.size; rw [e, B.hkm]; exact hkm)⟩
theorem go_ireturn (B : OkK km κ l Z a0 n0 R own nm bytes maxL (some .int)) (hd : Dc bytes pc .ireturn 1 pc') (hk : k ≤ R.cells) (hn : n ≤ R.slots) (hq : Q (some (.int x)) h) (hkm : km ≤ h.size := by first | exact Nat.zero_le _ | assumption) : Go κ Q h k n pc L (.int x :: st) :=
  go_end B hk hn hq (fun q => by cases q) hkm (fun T locs fs X hr => retOut X B.exec (t := .int) (i := .ireturn) B.rets rfl (Or.inl ⟨rfl, Or.inl rfl, x, rfl⟩) (hb B.byt hd.1) hr)
theorem go_zreturn (B : OkK km κ l Z a0 n0 R own nm bytes maxL (some .boolean)) (hd : Dc bytes pc .ireturn 1 pc') (hk : k ≤ R.cells) (hn : n ≤ R.slots) (hz : x &&& 1 = y) (hq : Q (some (.int y)) h) (hkm : km ≤ h.size := by first | exact Nat.zero_le _ | assumption) : Go κ Q h k n pc L (.int x :: st) := by
  subst hz
  exact go_end B hk hn hq (fun q => by cases q) hkm (fun T locs fs X hr => retN X B.exec (t := .boolean) B.rets (by simp) (hb B.byt hd.1) hr)
theorem go_breturn (B : OkK km κ l Z a0 n0 R own nm bytes maxL (some .byte)) (hd : Dc bytes pc .ireturn 1 pc') (hk : k ≤ R.cells) (hn : n ≤ R.slots) (hz : x.toInt8.toInt32 = y) (hq : Q (some (.int y)) h) (hkm : km ≤ h.size := by first | exact Nat.zero_le _ | assumption) : Go κ Q h k n pc L (.int x :: st) := by
  subst hz
  exact go_end B hk hn hq (fun q => by cases q) hkm (fun T locs fs X hr => retN X B.exec (t := .byte) B.rets (by simp) (hb B.byt hd.1) hr)
theorem go_lreturn (B : OkK km κ l Z a0 n0 R own nm bytes maxL (some .long)) (hd : Dc bytes pc .lreturn 1 pc') (hk : k ≤ R.cells) (hn : n ≤ R.slots) (hq : Q (some (.long u)) h) (hkm : km ≤ h.size := by first | exact Nat.zero_le _ | assumption) : Go κ Q h k n pc L (.long u :: st) :=
  go_end B hk hn hq (fun q => by cases q) hkm (fun T locs fs X hr => retOut X B.exec (t := .long) (i := .lreturn) B.rets rfl (Or.inr (Or.inl ⟨rfl, rfl, u, rfl⟩)) (hb B.byt hd.1) hr)
theorem go_areturn {ty : FieldType} (B : OkK km κ l Z a0 n0 R own nm bytes maxL (some ty)) (hd : Dc bytes pc .areturn 1 pc') (hty : ty.isReference = true) (hnr : narrow ty v = v) (hv : v.isRef = true) (hk : k ≤ R.cells) (hn : n ≤ R.slots) (hq : Q (some v) h) (hkm : km ≤ h.size := by first | exact Nat.zero_le _ | assumption) : Go κ Q h k n pc L (v :: st) :=
  go_end B hk hn hq (fun q => by cases q) hkm (fun T locs fs X hr => retOut X B.exec (t := ty) (i := .areturn) B.rets hnr (Or.inr (Or.inr (Or.inr (Or.inr ⟨rfl, hty, hv⟩)))) (hb B.byt hd.1) hr)
theorem go_return (B : OkK km κ l Z a0 n0 R own nm bytes maxL none) (hd : Dc bytes pc .return_ 1 pc') (hk : k ≤ R.cells) (hn : n ≤ R.slots) (hq : Q none h) (hkm : km ≤ h.size := by first | exact Nat.zero_le _ | assumption) : Go κ Q h k n pc L [] :=
  go_end B hk hn hq (fun _ => rfl) hkm (fun T locs fs X hr => X.returnOut B.exec B.rets (hb B.byt hd.1) hr)
end G
end Jvm.OwnGo
namespace Jvm.Pilot.@@N@@
open Jvm Jvm.ClassFile Sem Op Lib Jvm.Free Jvm.Stand Jvm.LawKit Jvm.RoadKit Bundle Jvm.Pilot.@@N@@.Jvm.D Jvm.OwnGo
def Wd (a0 : Array Value) (Z : State) : Prop := ∀ d ∈ tables_1, d.before a0 Z = true
def own_sh (k : Int32) (x : Int64) : Int64 := x ^^^ XT.ushrL x k
def own_mix (q : Int64) : Int64 := own_sh 31 (own_sh 27 (own_sh 30 q * (-4658895280553007687)) * (-7723592293110705685))
def own_max (x y : Int64) : Int64 := if x < y then y else x
def own_mh (x y : Int64) : Int64 :=
  let x1 := x >>> ((32 : Int32).toInt64 &&& 63); let x2 := x &&& 4294967295; let y1 := y >>> ((32 : Int32).toInt64 &&& 63); let y2 := y &&& 4294967295
  let z2 := x2 * y2; let t := x1 * y2 + XT.ushrL z2 32; let z1 := t &&& 4294967295; let z0 := t >>> ((32 : Int32).toInt64 &&& 63); let z1' := z1 + x2 * y1
  x1 * y1 + z0 + z1' >>> ((32 : Int32).toInt64 &&& 63)
def own_scaled (s b : Int64) : Int64 :=
  let sH := XT.ushrL s 32; let sL := s &&& 4294967295; let bH := XT.ushrL b 32; let bL := b &&& 4294967295
  let ll := sL * bL; let lh := sL * bH; let hl := sH * bL; let hh := sH * bH
  let mid := XT.ushrL ll 32 + (lh &&& 4294967295) + (hl &&& 4294967295)
  let low := mid <<< ((32 : Int32).toInt64 &&& 63) ||| (ll &&& 4294967295)
  let high := hh + XT.ushrL lh 32 + XT.ushrL hl 32 + XT.ushrL mid 32
  high <<< ((1 : Int32).toInt64 &&& 63) ||| XT.ushrL low 63
theorem pn_com_example_keys_to_bits_keystobits_KeyHash : plainName "com/example/keys_to_bits/keystobits/KeyHash" = true := by first | (simp [plainName, overriddenIn]; done) | decide +kernel
theorem d2_0 : Dc prog_11_method_8_code 0 (.lload_n 0) 1 1 := ⟨by decide +kernel, rfl⟩
theorem d2_1 : Dc prog_11_method_8_code 1 (.lload_n 0) 1 2 := ⟨by decide +kernel, rfl⟩
theorem d2_2 : Dc prog_11_method_8_code 2 (.bipush 30) 2 4 := ⟨by decide +kernel, rfl⟩
theorem d2_4 : Dc prog_11_method_8_code 4 (.lushr) 1 5 := ⟨by decide +kernel, rfl⟩
theorem d2_5 : Dc prog_11_method_8_code 5 (.lxor) 1 6 := ⟨by decide +kernel, rfl⟩
theorem d2_6 : Dc prog_11_method_8_code 6 (.ldc2_w 58) 3 9 := ⟨by decide +kernel, rfl⟩
theorem w_10 {a0 : Array Value} {Z : State} (H : Wd a0 Z) : (Jvm.Cond.constantLong "com/example/keys_to_bits/keystobits/KeyHash" (58 : Nat) (-4658895280553007687 : Int64)).before a0 Z = true := H _ (List.mem_of_getElem? (i := 10) rfl)
theorem d2_9 : Dc prog_11_method_8_code 9 (.lmul) 1 10 := ⟨by decide +kernel, rfl⟩
theorem d2_10 : Dc prog_11_method_8_code 10 (.lstore_n 2) 1 11 := ⟨by decide +kernel, rfl⟩
theorem d2_11 : Dc prog_11_method_8_code 11 (.lload_n 2) 1 12 := ⟨by decide +kernel, rfl⟩
theorem d2_12 : Dc prog_11_method_8_code 12 (.lload_n 2) 1 13 := ⟨by decide +kernel, rfl⟩
theorem d2_13 : Dc prog_11_method_8_code 13 (.bipush 27) 2 15 := ⟨by decide +kernel, rfl⟩
theorem d2_15 : Dc prog_11_method_8_code 15 (.lushr) 1 16 := ⟨by decide +kernel, rfl⟩
theorem d2_16 : Dc prog_11_method_8_code 16 (.lxor) 1 17 := ⟨by decide +kernel, rfl⟩
theorem d2_17 : Dc prog_11_method_8_code 17 (.ldc2_w 60) 3 20 := ⟨by decide +kernel, rfl⟩
theorem w_11 {a0 : Array Value} {Z : State} (H : Wd a0 Z) : (Jvm.Cond.constantLong "com/example/keys_to_bits/keystobits/KeyHash" (60 : Nat) (-7723592293110705685 : Int64)).before a0 Z = true := H _ (List.mem_of_getElem? (i := 11) rfl)
theorem d2_20 : Dc prog_11_method_8_code 20 (.lmul) 1 21 := ⟨by decide +kernel, rfl⟩
theorem d2_21 : Dc prog_11_method_8_code 21 (.lstore_n 2) 1 22 := ⟨by decide +kernel, rfl⟩
theorem d2_22 : Dc prog_11_method_8_code 22 (.lload_n 2) 1 23 := ⟨by decide +kernel, rfl⟩
theorem d2_23 : Dc prog_11_method_8_code 23 (.lload_n 2) 1 24 := ⟨by decide +kernel, rfl⟩
theorem d2_24 : Dc prog_11_method_8_code 24 (.bipush 31) 2 26 := ⟨by decide +kernel, rfl⟩
theorem d2_26 : Dc prog_11_method_8_code 26 (.lushr) 1 27 := ⟨by decide +kernel, rfl⟩
theorem d2_27 : Dc prog_11_method_8_code 27 (.lxor) 1 28 := ⟨by decide +kernel, rfl⟩
theorem d2_28 : Dc prog_11_method_8_code 28 (.lreturn) 1 29 := ⟨by decide +kernel, rfl⟩
set_option maxRecDepth 65536 in
set_option maxHeartbeats 40000000 in
theorem rmMix {l : Launch} {Z : State} {a0 : Array Value} {n0 : Nat} (H : Wd a0 Z) (q1 : Int64) (h0 : Heap) (Z0 : n0 ≤ h0.size) :
    Ct l Z n0 (⟨"com/example/keys_to_bits/keystobits/KeyHash", "mix", "(J)J"⟩ : MethodName) prog_11_method_8_code 4 (some .long) [] ({ frames := 0, cells := 0, slots := 0, locals := 0 } : Room) #[(.long q1)] h0 (fun v h => v = some (.long (own_mix q1)) ∧ h0 = h) := by
  refine Ct.of (a0 := a0) (L0 := #[.val (.long q1), .second, .unset, .unset]) (plainFor_of_name pn_com_example_keys_to_bits_keystobits_KeyHash) (fun m => by first | (simp [entryFrame, mkF, argsToLocals, Value.category]; done) | rfl) ?_
  intro κ B0
  have B : Ok κ l Z a0 n0 ({ frames := 0, cells := 0, slots := 0, locals := 0 } : Room) "com/example/keys_to_bits/keystobits/KeyHash" "mix" prog_11_method_8_code 4 (some .long) := B0
  refine go_lload_n B d2_0 rfl ?_
  refine go_lload_n B d2_1 rfl ?_
  refine go_bipush B (x := (30 : Int32)) d2_2 (by decide) ?_
  refine go_lushr B d2_4 ?_
  refine go_lxor B d2_5 ?_
  refine go_ldc2J B d2_6 (w_10 H) ?_
  refine go_lmul B d2_9 ?_
  generalize hv1 : ((q1 ^^^ (XT.ushrL q1 (30 : Int32))) * (-4658895280553007687 : Int64)) = v1
  refine go_lstore_n B #[.val (.long q1), .second, .val (.long v1), .second] d2_10 rfl ?_
  refine go_lload_n B d2_11 rfl ?_
  refine go_lload_n B d2_12 rfl ?_
  refine go_bipush B (x := (27 : Int32)) d2_13 (by decide) ?_
  refine go_lushr B d2_15 ?_
  refine go_lxor B d2_16 ?_
  refine go_ldc2J B d2_17 (w_11 H) ?_
  refine go_lmul B d2_20 ?_
  generalize hv2 : ((v1 ^^^ (XT.ushrL v1 (27 : Int32))) * (-7723592293110705685 : Int64)) = v2
  refine go_lstore_n B #[.val (.long q1), .second, .val (.long v2), .second] d2_21 rfl ?_
  refine go_lload_n B d2_22 rfl ?_
  refine go_lload_n B d2_23 rfl ?_
  refine go_bipush B (x := (31 : Int32)) d2_24 (by decide) ?_
  refine go_lushr B d2_26 ?_
  refine go_lxor B d2_27 ?_
  refine go_lreturn B d2_28 (by decide) (by decide) ?_
  subst hv1 hv2
  exact ⟨rfl, rfl⟩
theorem d5_0 : Dc jdk_29_method_45_code 0 (.lload_n 0) 1 1 := ⟨by decide +kernel, rfl⟩
theorem d5_1 : Dc jdk_29_method_45_code 1 (.bipush 32) 2 3 := ⟨by decide +kernel, rfl⟩
theorem d5_3 : Dc jdk_29_method_45_code 3 (.lshr) 1 4 := ⟨by decide +kernel, rfl⟩
theorem d5_4 : Dc jdk_29_method_45_code 4 (.lstore 4) 2 6 := ⟨by decide +kernel, rfl⟩
theorem d5_6 : Dc jdk_29_method_45_code 6 (.lload_n 0) 1 7 := ⟨by decide +kernel, rfl⟩
theorem d5_7 : Dc jdk_29_method_45_code 7 (.ldc2_w 138) 3 10 := ⟨by decide +kernel, rfl⟩
theorem w_25 {a0 : Array Value} {Z : State} (H : Wd a0 Z) : (Jvm.Cond.constantLong "java/lang/Math" (138 : Nat) (4294967295 : Int64)).before a0 Z = true := H _ (List.mem_of_getElem? (i := 25) rfl)
theorem d5_10 : Dc jdk_29_method_45_code 10 (.land) 1 11 := ⟨by decide +kernel, rfl⟩
theorem d5_11 : Dc jdk_29_method_45_code 11 (.lstore 6) 2 13 := ⟨by decide +kernel, rfl⟩
theorem d5_13 : Dc jdk_29_method_45_code 13 (.lload_n 2) 1 14 := ⟨by decide +kernel, rfl⟩
theorem d5_14 : Dc jdk_29_method_45_code 14 (.bipush 32) 2 16 := ⟨by decide +kernel, rfl⟩
theorem d5_16 : Dc jdk_29_method_45_code 16 (.lshr) 1 17 := ⟨by decide +kernel, rfl⟩
theorem d5_17 : Dc jdk_29_method_45_code 17 (.lstore 8) 2 19 := ⟨by decide +kernel, rfl⟩
theorem d5_19 : Dc jdk_29_method_45_code 19 (.lload_n 2) 1 20 := ⟨by decide +kernel, rfl⟩
theorem d5_20 : Dc jdk_29_method_45_code 20 (.ldc2_w 138) 3 23 := ⟨by decide +kernel, rfl⟩
theorem d5_23 : Dc jdk_29_method_45_code 23 (.land) 1 24 := ⟨by decide +kernel, rfl⟩
theorem d5_24 : Dc jdk_29_method_45_code 24 (.lstore 10) 2 26 := ⟨by decide +kernel, rfl⟩
theorem d5_26 : Dc jdk_29_method_45_code 26 (.lload 6) 2 28 := ⟨by decide +kernel, rfl⟩
theorem d5_28 : Dc jdk_29_method_45_code 28 (.lload 10) 2 30 := ⟨by decide +kernel, rfl⟩
theorem d5_30 : Dc jdk_29_method_45_code 30 (.lmul) 1 31 := ⟨by decide +kernel, rfl⟩
theorem d5_31 : Dc jdk_29_method_45_code 31 (.lstore 12) 2 33 := ⟨by decide +kernel, rfl⟩
theorem d5_33 : Dc jdk_29_method_45_code 33 (.lload 4) 2 35 := ⟨by decide +kernel, rfl⟩
theorem d5_35 : Dc jdk_29_method_45_code 35 (.lload 10) 2 37 := ⟨by decide +kernel, rfl⟩
theorem d5_37 : Dc jdk_29_method_45_code 37 (.lmul) 1 38 := ⟨by decide +kernel, rfl⟩
theorem d5_38 : Dc jdk_29_method_45_code 38 (.lload 12) 2 40 := ⟨by decide +kernel, rfl⟩
theorem d5_40 : Dc jdk_29_method_45_code 40 (.bipush 32) 2 42 := ⟨by decide +kernel, rfl⟩
theorem d5_42 : Dc jdk_29_method_45_code 42 (.lushr) 1 43 := ⟨by decide +kernel, rfl⟩
theorem d5_43 : Dc jdk_29_method_45_code 43 (.ladd) 1 44 := ⟨by decide +kernel, rfl⟩
theorem d5_44 : Dc jdk_29_method_45_code 44 (.lstore 14) 2 46 := ⟨by decide +kernel, rfl⟩
theorem d5_46 : Dc jdk_29_method_45_code 46 (.lload 14) 2 48 := ⟨by decide +kernel, rfl⟩
theorem d5_48 : Dc jdk_29_method_45_code 48 (.ldc2_w 138) 3 51 := ⟨by decide +kernel, rfl⟩
theorem d5_51 : Dc jdk_29_method_45_code 51 (.land) 1 52 := ⟨by decide +kernel, rfl⟩
theorem d5_52 : Dc jdk_29_method_45_code 52 (.lstore 16) 2 54 := ⟨by decide +kernel, rfl⟩
theorem d5_54 : Dc jdk_29_method_45_code 54 (.lload 14) 2 56 := ⟨by decide +kernel, rfl⟩
theorem d5_56 : Dc jdk_29_method_45_code 56 (.bipush 32) 2 58 := ⟨by decide +kernel, rfl⟩
theorem d5_58 : Dc jdk_29_method_45_code 58 (.lshr) 1 59 := ⟨by decide +kernel, rfl⟩
theorem d5_59 : Dc jdk_29_method_45_code 59 (.lstore 18) 2 61 := ⟨by decide +kernel, rfl⟩
theorem d5_61 : Dc jdk_29_method_45_code 61 (.lload 16) 2 63 := ⟨by decide +kernel, rfl⟩
theorem d5_63 : Dc jdk_29_method_45_code 63 (.lload 6) 2 65 := ⟨by decide +kernel, rfl⟩
theorem d5_65 : Dc jdk_29_method_45_code 65 (.lload 8) 2 67 := ⟨by decide +kernel, rfl⟩
theorem d5_67 : Dc jdk_29_method_45_code 67 (.lmul) 1 68 := ⟨by decide +kernel, rfl⟩
theorem d5_68 : Dc jdk_29_method_45_code 68 (.ladd) 1 69 := ⟨by decide +kernel, rfl⟩
theorem d5_69 : Dc jdk_29_method_45_code 69 (.lstore 16) 2 71 := ⟨by decide +kernel, rfl⟩
theorem d5_71 : Dc jdk_29_method_45_code 71 (.lload 4) 2 73 := ⟨by decide +kernel, rfl⟩
theorem d5_73 : Dc jdk_29_method_45_code 73 (.lload 8) 2 75 := ⟨by decide +kernel, rfl⟩
theorem d5_75 : Dc jdk_29_method_45_code 75 (.lmul) 1 76 := ⟨by decide +kernel, rfl⟩
theorem d5_76 : Dc jdk_29_method_45_code 76 (.lload 18) 2 78 := ⟨by decide +kernel, rfl⟩
theorem d5_78 : Dc jdk_29_method_45_code 78 (.ladd) 1 79 := ⟨by decide +kernel, rfl⟩
theorem d5_79 : Dc jdk_29_method_45_code 79 (.lload 16) 2 81 := ⟨by decide +kernel, rfl⟩
theorem d5_81 : Dc jdk_29_method_45_code 81 (.bipush 32) 2 83 := ⟨by decide +kernel, rfl⟩
theorem d5_83 : Dc jdk_29_method_45_code 83 (.lshr) 1 84 := ⟨by decide +kernel, rfl⟩
theorem d5_84 : Dc jdk_29_method_45_code 84 (.ladd) 1 85 := ⟨by decide +kernel, rfl⟩
theorem d5_85 : Dc jdk_29_method_45_code 85 (.lreturn) 1 86 := ⟨by decide +kernel, rfl⟩
set_option maxRecDepth 65536 in
set_option maxHeartbeats 40000000 in
theorem rmMH {l : Launch} {Z : State} {a0 : Array Value} {n0 : Nat} (H : Wd a0 Z) (x y : Int64) (h0 : Heap) (Z0 : n0 ≤ h0.size) :
    Ct l Z n0 (⟨"java/lang/Math", "multiplyHigh", "(JJ)J"⟩ : MethodName) jdk_29_method_45_code 20 (some .long) [] ({ frames := 0, cells := 0, slots := 0, locals := 0 } : Room) #[(.long x), (.long y)] h0 (fun v h => v = some (.long (own_mh x y)) ∧ h0 = h) := by
  refine Ct.of (a0 := a0) (L0 := #[.val (.long x), .second, .val (.long y), .second, .unset, .unset, .unset, .unset, .unset, .unset, .unset, .unset, .unset, .unset, .unset, .unset, .unset, .unset, .unset, .unset]) (by decide +kernel) (fun m => by first | (simp [entryFrame, mkF, argsToLocals, Value.category]; done) | rfl) ?_
  intro κ B0
  have B : Ok κ l Z a0 n0 ({ frames := 0, cells := 0, slots := 0, locals := 0 } : Room) "java/lang/Math" "multiplyHigh" jdk_29_method_45_code 20 (some .long) := B0
  refine go_lload_n B d5_0 rfl ?_
  refine go_bipush B (x := (32 : Int32)) d5_1 (by decide) ?_
  refine go_lshr B d5_3 ?_
  generalize hv3 : (x >>> ((32 : Int32).toInt64 &&& 63)) = v3
  refine go_lstore B #[.val (.long x), .second, .val (.long y), .second, .val (.long v3), .second, .unset, .unset, .unset, .unset, .unset, .unset, .unset, .unset, .unset, .unset, .unset, .unset, .unset, .unset] d5_4 rfl ?_
  refine go_lload_n B d5_6 rfl ?_
  refine go_ldc2J B d5_7 (w_25 H) ?_
  refine go_land B d5_10 ?_
  generalize hv4 : (x &&& (4294967295 : Int64)) = v4
  refine go_lstore B #[.val (.long x), .second, .val (.long y), .second, .val (.long v3), .second, .val (.long v4), .second, .unset, .unset, .unset, .unset, .unset, .unset, .unset, .unset, .unset, .unset, .unset, .unset] d5_11 rfl ?_
  refine go_lload_n B d5_13 rfl ?_
  refine go_bipush B (x := (32 : Int32)) d5_14 (by decide) ?_
  refine go_lshr B d5_16 ?_
  generalize hv5 : (y >>> ((32 : Int32).toInt64 &&& 63)) = v5
  refine go_lstore B #[.val (.long x), .second, .val (.long y), .second, .val (.long v3), .second, .val (.long v4), .second, .val (.long v5), .second, .unset, .unset, .unset, .unset, .unset, .unset, .unset, .unset, .unset, .unset] d5_17 rfl ?_
  refine go_lload_n B d5_19 rfl ?_
  refine go_ldc2J B d5_20 (w_25 H) ?_
  refine go_land B d5_23 ?_
  generalize hv6 : (y &&& (4294967295 : Int64)) = v6
  refine go_lstore B #[.val (.long x), .second, .val (.long y), .second, .val (.long v3), .second, .val (.long v4), .second, .val (.long v5), .second, .val (.long v6), .second, .unset, .unset, .unset, .unset, .unset, .unset, .unset, .unset] d5_24 rfl ?_
  refine go_lload B d5_26 rfl ?_
  refine go_lload B d5_28 rfl ?_
  refine go_lmul B d5_30 ?_
  refine go_lstore B #[.val (.long x), .second, .val (.long y), .second, .val (.long v3), .second, .val (.long v4), .second, .val (.long v5), .second, .val (.long v6), .second, .val (.long (v4 * v6)), .second, .unset, .unset, .unset, .unset, .unset, .unset] d5_31 rfl ?_
  refine go_lload B d5_33 rfl ?_
  refine go_lload B d5_35 rfl ?_
  refine go_lmul B d5_37 ?_
  refine go_lload B d5_38 rfl ?_
  refine go_bipush B (x := (32 : Int32)) d5_40 (by decide) ?_
  refine go_lushr B d5_42 ?_
  refine go_ladd B d5_43 ?_
  generalize hv7 : ((v3 * v6) + (XT.ushrL (v4 * v6) (32 : Int32))) = v7
  refine go_lstore B #[.val (.long x), .second, .val (.long y), .second, .val (.long v3), .second, .val (.long v4), .second, .val (.long v5), .second, .val (.long v6), .second, .val (.long (v4 * v6)), .second, .val (.long v7), .second, .unset, .unset, .unset, .unset] d5_44 rfl ?_
  refine go_lload B d5_46 rfl ?_
  refine go_ldc2J B d5_48 (w_25 H) ?_
  refine go_land B d5_51 ?_
  generalize hv8 : (v7 &&& (4294967295 : Int64)) = v8
  refine go_lstore B #[.val (.long x), .second, .val (.long y), .second, .val (.long v3), .second, .val (.long v4), .second, .val (.long v5), .second, .val (.long v6), .second, .val (.long (v4 * v6)), .second, .val (.long v7), .second, .val (.long v8), .second, .unset, .unset] d5_52 rfl ?_
  refine go_lload B d5_54 rfl ?_
  refine go_bipush B (x := (32 : Int32)) d5_56 (by decide) ?_
  refine go_lshr B d5_58 ?_
  generalize hv9 : (v7 >>> ((32 : Int32).toInt64 &&& 63)) = v9
  refine go_lstore B #[.val (.long x), .second, .val (.long y), .second, .val (.long v3), .second, .val (.long v4), .second, .val (.long v5), .second, .val (.long v6), .second, .val (.long (v4 * v6)), .second, .val (.long v7), .second, .val (.long v8), .second, .val (.long v9), .second] d5_59 rfl ?_
  refine go_lload B d5_61 rfl ?_
  refine go_lload B d5_63 rfl ?_
  refine go_lload B d5_65 rfl ?_
  refine go_lmul B d5_67 ?_
  refine go_ladd B d5_68 ?_
  generalize hv10 : (v8 + (v4 * v5)) = v10
  refine go_lstore B #[.val (.long x), .second, .val (.long y), .second, .val (.long v3), .second, .val (.long v4), .second, .val (.long v5), .second, .val (.long v6), .second, .val (.long (v4 * v6)), .second, .val (.long v7), .second, .val (.long v10), .second, .val (.long v9), .second] d5_69 rfl ?_
  refine go_lload B d5_71 rfl ?_
  refine go_lload B d5_73 rfl ?_
  refine go_lmul B d5_75 ?_
  refine go_lload B d5_76 rfl ?_
  refine go_ladd B d5_78 ?_
  refine go_lload B d5_79 rfl ?_
  refine go_bipush B (x := (32 : Int32)) d5_81 (by decide) ?_
  refine go_lshr B d5_83 ?_
  refine go_ladd B d5_84 ?_
  refine go_lreturn B d5_85 (by decide) (by decide) ?_
  subst hv3 hv4 hv5 hv6 hv7 hv8 hv9 hv10
  exact ⟨rfl, rfl⟩
theorem pn_com_example_keys_to_bits_keystobits_KeyHashIndexPinLaw : plainName "com/example/keys_to_bits/keystobits/KeyHashIndexPinLaw" = true := by first | (simp [plainName, overriddenIn]; done) | decide +kernel
theorem d3_0 : Dc method_2_code 0 (.lload_n 0) 1 1 := ⟨by decide +kernel, rfl⟩
theorem d3_1 : Dc method_2_code 1 (.bipush 32) 2 3 := ⟨by decide +kernel, rfl⟩
theorem d3_3 : Dc method_2_code 3 (.lushr) 1 4 := ⟨by decide +kernel, rfl⟩
theorem d3_4 : Dc method_2_code 4 (.lstore 4) 2 6 := ⟨by decide +kernel, rfl⟩
theorem d3_6 : Dc method_2_code 6 (.lload_n 0) 1 7 := ⟨by decide +kernel, rfl⟩
theorem d3_7 : Dc method_2_code 7 (.ldc2_w 9) 3 10 := ⟨by decide +kernel, rfl⟩
theorem w_16 {a0 : Array Value} {Z : State} (H : Wd a0 Z) : (Jvm.Cond.constantLong "com/example/keys_to_bits/keystobits/KeyHashIndexPinLaw" (9 : Nat) (4294967295 : Int64)).before a0 Z = true := H _ (List.mem_of_getElem? (i := 16) rfl)
theorem d3_10 : Dc method_2_code 10 (.land) 1 11 := ⟨by decide +kernel, rfl⟩
theorem d3_11 : Dc method_2_code 11 (.lstore 6) 2 13 := ⟨by decide +kernel, rfl⟩
theorem d3_13 : Dc method_2_code 13 (.lload_n 2) 1 14 := ⟨by decide +kernel, rfl⟩
theorem d3_14 : Dc method_2_code 14 (.bipush 32) 2 16 := ⟨by decide +kernel, rfl⟩
theorem d3_16 : Dc method_2_code 16 (.lushr) 1 17 := ⟨by decide +kernel, rfl⟩
theorem d3_17 : Dc method_2_code 17 (.lstore 8) 2 19 := ⟨by decide +kernel, rfl⟩
theorem d3_19 : Dc method_2_code 19 (.lload_n 2) 1 20 := ⟨by decide +kernel, rfl⟩
theorem d3_20 : Dc method_2_code 20 (.ldc2_w 9) 3 23 := ⟨by decide +kernel, rfl⟩
theorem d3_23 : Dc method_2_code 23 (.land) 1 24 := ⟨by decide +kernel, rfl⟩
theorem d3_24 : Dc method_2_code 24 (.lstore 10) 2 26 := ⟨by decide +kernel, rfl⟩
theorem d3_26 : Dc method_2_code 26 (.lload 6) 2 28 := ⟨by decide +kernel, rfl⟩
theorem d3_28 : Dc method_2_code 28 (.lload 10) 2 30 := ⟨by decide +kernel, rfl⟩
theorem d3_30 : Dc method_2_code 30 (.lmul) 1 31 := ⟨by decide +kernel, rfl⟩
theorem d3_31 : Dc method_2_code 31 (.lstore 12) 2 33 := ⟨by decide +kernel, rfl⟩
theorem d3_33 : Dc method_2_code 33 (.lload 6) 2 35 := ⟨by decide +kernel, rfl⟩
theorem d3_35 : Dc method_2_code 35 (.lload 8) 2 37 := ⟨by decide +kernel, rfl⟩
theorem d3_37 : Dc method_2_code 37 (.lmul) 1 38 := ⟨by decide +kernel, rfl⟩
theorem d3_38 : Dc method_2_code 38 (.lstore 14) 2 40 := ⟨by decide +kernel, rfl⟩
theorem d3_40 : Dc method_2_code 40 (.lload 4) 2 42 := ⟨by decide +kernel, rfl⟩
theorem d3_42 : Dc method_2_code 42 (.lload 10) 2 44 := ⟨by decide +kernel, rfl⟩
theorem d3_44 : Dc method_2_code 44 (.lmul) 1 45 := ⟨by decide +kernel, rfl⟩
theorem d3_45 : Dc method_2_code 45 (.lstore 16) 2 47 := ⟨by decide +kernel, rfl⟩
theorem d3_47 : Dc method_2_code 47 (.lload 4) 2 49 := ⟨by decide +kernel, rfl⟩
theorem d3_49 : Dc method_2_code 49 (.lload 8) 2 51 := ⟨by decide +kernel, rfl⟩
theorem d3_51 : Dc method_2_code 51 (.lmul) 1 52 := ⟨by decide +kernel, rfl⟩
theorem d3_52 : Dc method_2_code 52 (.lstore 18) 2 54 := ⟨by decide +kernel, rfl⟩
theorem d3_54 : Dc method_2_code 54 (.lload 12) 2 56 := ⟨by decide +kernel, rfl⟩
theorem d3_56 : Dc method_2_code 56 (.bipush 32) 2 58 := ⟨by decide +kernel, rfl⟩
theorem d3_58 : Dc method_2_code 58 (.lushr) 1 59 := ⟨by decide +kernel, rfl⟩
theorem d3_59 : Dc method_2_code 59 (.lload 14) 2 61 := ⟨by decide +kernel, rfl⟩
theorem d3_61 : Dc method_2_code 61 (.ldc2_w 9) 3 64 := ⟨by decide +kernel, rfl⟩
theorem d3_64 : Dc method_2_code 64 (.land) 1 65 := ⟨by decide +kernel, rfl⟩
theorem d3_65 : Dc method_2_code 65 (.ladd) 1 66 := ⟨by decide +kernel, rfl⟩
theorem d3_66 : Dc method_2_code 66 (.lload 16) 2 68 := ⟨by decide +kernel, rfl⟩
theorem d3_68 : Dc method_2_code 68 (.ldc2_w 9) 3 71 := ⟨by decide +kernel, rfl⟩
theorem d3_71 : Dc method_2_code 71 (.land) 1 72 := ⟨by decide +kernel, rfl⟩
theorem d3_72 : Dc method_2_code 72 (.ladd) 1 73 := ⟨by decide +kernel, rfl⟩
theorem d3_73 : Dc method_2_code 73 (.lstore 20) 2 75 := ⟨by decide +kernel, rfl⟩
theorem d3_75 : Dc method_2_code 75 (.lload 20) 2 77 := ⟨by decide +kernel, rfl⟩
theorem d3_77 : Dc method_2_code 77 (.bipush 32) 2 79 := ⟨by decide +kernel, rfl⟩
theorem d3_79 : Dc method_2_code 79 (.lshl) 1 80 := ⟨by decide +kernel, rfl⟩
theorem d3_80 : Dc method_2_code 80 (.lload 12) 2 82 := ⟨by decide +kernel, rfl⟩
theorem d3_82 : Dc method_2_code 82 (.ldc2_w 9) 3 85 := ⟨by decide +kernel, rfl⟩
theorem d3_85 : Dc method_2_code 85 (.land) 1 86 := ⟨by decide +kernel, rfl⟩
theorem d3_86 : Dc method_2_code 86 (.lor) 1 87 := ⟨by decide +kernel, rfl⟩
theorem d3_87 : Dc method_2_code 87 (.lstore 22) 2 89 := ⟨by decide +kernel, rfl⟩
theorem d3_89 : Dc method_2_code 89 (.lload 18) 2 91 := ⟨by decide +kernel, rfl⟩
theorem d3_91 : Dc method_2_code 91 (.lload 14) 2 93 := ⟨by decide +kernel, rfl⟩
theorem d3_93 : Dc method_2_code 93 (.bipush 32) 2 95 := ⟨by decide +kernel, rfl⟩
theorem d3_95 : Dc method_2_code 95 (.lushr) 1 96 := ⟨by decide +kernel, rfl⟩
theorem d3_96 : Dc method_2_code 96 (.ladd) 1 97 := ⟨by decide +kernel, rfl⟩
theorem d3_97 : Dc method_2_code 97 (.lload 16) 2 99 := ⟨by decide +kernel, rfl⟩
theorem d3_99 : Dc method_2_code 99 (.bipush 32) 2 101 := ⟨by decide +kernel, rfl⟩
theorem d3_101 : Dc method_2_code 101 (.lushr) 1 102 := ⟨by decide +kernel, rfl⟩
theorem d3_102 : Dc method_2_code 102 (.ladd) 1 103 := ⟨by decide +kernel, rfl⟩
theorem d3_103 : Dc method_2_code 103 (.lload 20) 2 105 := ⟨by decide +kernel, rfl⟩
theorem d3_105 : Dc method_2_code 105 (.bipush 32) 2 107 := ⟨by decide +kernel, rfl⟩
theorem d3_107 : Dc method_2_code 107 (.lushr) 1 108 := ⟨by decide +kernel, rfl⟩
theorem d3_108 : Dc method_2_code 108 (.ladd) 1 109 := ⟨by decide +kernel, rfl⟩
theorem d3_109 : Dc method_2_code 109 (.lstore 24) 2 111 := ⟨by decide +kernel, rfl⟩
theorem d3_111 : Dc method_2_code 111 (.lload 24) 2 113 := ⟨by decide +kernel, rfl⟩
theorem d3_113 : Dc method_2_code 113 (.iconst 1) 1 114 := ⟨by decide +kernel, rfl⟩
theorem d3_114 : Dc method_2_code 114 (.lshl) 1 115 := ⟨by decide +kernel, rfl⟩
theorem d3_115 : Dc method_2_code 115 (.lload 22) 2 117 := ⟨by decide +kernel, rfl⟩
theorem d3_117 : Dc method_2_code 117 (.bipush 63) 2 119 := ⟨by decide +kernel, rfl⟩
theorem d3_119 : Dc method_2_code 119 (.lushr) 1 120 := ⟨by decide +kernel, rfl⟩
theorem d3_120 : Dc method_2_code 120 (.lor) 1 121 := ⟨by decide +kernel, rfl⟩
theorem d3_121 : Dc method_2_code 121 (.lreturn) 1 122 := ⟨by decide +kernel, rfl⟩
set_option maxRecDepth 65536 in
set_option maxHeartbeats 40000000 in
theorem rmSc {l : Launch} {Z : State} {a0 : Array Value} {n0 : Nat} (H : Wd a0 Z) (x y : Int64) (h0 : Heap) (Z0 : n0 ≤ h0.size) :
    Ct l Z n0 (⟨"com/example/keys_to_bits/keystobits/KeyHashIndexPinLaw", "scaled", "(JJ)J"⟩ : MethodName) method_2_code 26 (some .long) [] ({ frames := 0, cells := 0, slots := 0, locals := 0 } : Room) #[(.long x), (.long y)] h0 (fun v h => v = some (.long (own_scaled x y)) ∧ h0 = h) := by
  refine Ct.of (a0 := a0) (L0 := #[.val (.long x), .second, .val (.long y), .second, .unset, .unset, .unset, .unset, .unset, .unset, .unset, .unset, .unset, .unset, .unset, .unset, .unset, .unset, .unset, .unset, .unset, .unset, .unset, .unset, .unset, .unset]) (plainFor_of_name pn_com_example_keys_to_bits_keystobits_KeyHashIndexPinLaw) (fun m => by first | (simp [entryFrame, mkF, argsToLocals, Value.category]; done) | rfl) ?_
  intro κ B0
  have B : Ok κ l Z a0 n0 ({ frames := 0, cells := 0, slots := 0, locals := 0 } : Room) "com/example/keys_to_bits/keystobits/KeyHashIndexPinLaw" "scaled" method_2_code 26 (some .long) := B0
  refine go_lload_n B d3_0 rfl ?_
  refine go_bipush B (x := (32 : Int32)) d3_1 (by decide) ?_
  refine go_lushr B d3_3 ?_
  generalize hv11 : (XT.ushrL x (32 : Int32)) = v11
  refine go_lstore B #[.val (.long x), .second, .val (.long y), .second, .val (.long v11), .second, .unset, .unset, .unset, .unset, .unset, .unset, .unset, .unset, .unset, .unset, .unset, .unset, .unset, .unset, .unset, .unset, .unset, .unset, .unset, .unset] d3_4 rfl ?_
  refine go_lload_n B d3_6 rfl ?_
  refine go_ldc2J B d3_7 (w_16 H) ?_
  refine go_land B d3_10 ?_
  generalize hv12 : (x &&& (4294967295 : Int64)) = v12
  refine go_lstore B #[.val (.long x), .second, .val (.long y), .second, .val (.long v11), .second, .val (.long v12), .second, .unset, .unset, .unset, .unset, .unset, .unset, .unset, .unset, .unset, .unset, .unset, .unset, .unset, .unset, .unset, .unset, .unset, .unset] d3_11 rfl ?_
  refine go_lload_n B d3_13 rfl ?_
  refine go_bipush B (x := (32 : Int32)) d3_14 (by decide) ?_
  refine go_lushr B d3_16 ?_
  generalize hv13 : (XT.ushrL y (32 : Int32)) = v13
  refine go_lstore B #[.val (.long x), .second, .val (.long y), .second, .val (.long v11), .second, .val (.long v12), .second, .val (.long v13), .second, .unset, .unset, .unset, .unset, .unset, .unset, .unset, .unset, .unset, .unset, .unset, .unset, .unset, .unset, .unset, .unset] d3_17 rfl ?_
  refine go_lload_n B d3_19 rfl ?_
  refine go_ldc2J B d3_20 (w_16 H) ?_
  refine go_land B d3_23 ?_
  generalize hv14 : (y &&& (4294967295 : Int64)) = v14
  refine go_lstore B #[.val (.long x), .second, .val (.long y), .second, .val (.long v11), .second, .val (.long v12), .second, .val (.long v13), .second, .val (.long v14), .second, .unset, .unset, .unset, .unset, .unset, .unset, .unset, .unset, .unset, .unset, .unset, .unset, .unset, .unset] d3_24 rfl ?_
  refine go_lload B d3_26 rfl ?_
  refine go_lload B d3_28 rfl ?_
  refine go_lmul B d3_30 ?_
  generalize hv15 : (v12 * v14) = v15
  refine go_lstore B #[.val (.long x), .second, .val (.long y), .second, .val (.long v11), .second, .val (.long v12), .second, .val (.long v13), .second, .val (.long v14), .second, .val (.long v15), .second, .unset, .unset, .unset, .unset, .unset, .unset, .unset, .unset, .unset, .unset, .unset, .unset] d3_31 rfl ?_
  refine go_lload B d3_33 rfl ?_
  refine go_lload B d3_35 rfl ?_
  refine go_lmul B d3_37 ?_
  generalize hv16 : (v12 * v13) = v16
  refine go_lstore B #[.val (.long x), .second, .val (.long y), .second, .val (.long v11), .second, .val (.long v12), .second, .val (.long v13), .second, .val (.long v14), .second, .val (.long v15), .second, .val (.long v16), .second, .unset, .unset, .unset, .unset, .unset, .unset, .unset, .unset, .unset, .unset] d3_38 rfl ?_
  refine go_lload B d3_40 rfl ?_
  refine go_lload B d3_42 rfl ?_
  refine go_lmul B d3_44 ?_
  generalize hv17 : (v11 * v14) = v17
  refine go_lstore B #[.val (.long x), .second, .val (.long y), .second, .val (.long v11), .second, .val (.long v12), .second, .val (.long v13), .second, .val (.long v14), .second, .val (.long v15), .second, .val (.long v16), .second, .val (.long v17), .second, .unset, .unset, .unset, .unset, .unset, .unset, .unset, .unset] d3_45 rfl ?_
  refine go_lload B d3_47 rfl ?_
  refine go_lload B d3_49 rfl ?_
  refine go_lmul B d3_51 ?_
  generalize hv18 : (v11 * v13) = v18
  refine go_lstore B #[.val (.long x), .second, .val (.long y), .second, .val (.long v11), .second, .val (.long v12), .second, .val (.long v13), .second, .val (.long v14), .second, .val (.long v15), .second, .val (.long v16), .second, .val (.long v17), .second, .val (.long v18), .second, .unset, .unset, .unset, .unset, .unset, .unset] d3_52 rfl ?_
  refine go_lload B d3_54 rfl ?_
  refine go_bipush B (x := (32 : Int32)) d3_56 (by decide) ?_
  refine go_lushr B d3_58 ?_
  refine go_lload B d3_59 rfl ?_
  refine go_ldc2J B d3_61 (w_16 H) ?_
  refine go_land B d3_64 ?_
  refine go_ladd B d3_65 ?_
  refine go_lload B d3_66 rfl ?_
  refine go_ldc2J B d3_68 (w_16 H) ?_
  refine go_land B d3_71 ?_
  refine go_ladd B d3_72 ?_
  generalize hv19 : (((XT.ushrL v15 (32 : Int32)) + (v16 &&& (4294967295 : Int64))) + (v17 &&& (4294967295 : Int64))) = v19
  refine go_lstore B #[.val (.long x), .second, .val (.long y), .second, .val (.long v11), .second, .val (.long v12), .second, .val (.long v13), .second, .val (.long v14), .second, .val (.long v15), .second, .val (.long v16), .second, .val (.long v17), .second, .val (.long v18), .second, .val (.long v19), .second, .unset, .unset, .unset, .unset] d3_73 rfl ?_
  refine go_lload B d3_75 rfl ?_
  refine go_bipush B (x := (32 : Int32)) d3_77 (by decide) ?_
  refine go_lshl B d3_79 ?_
  refine go_lload B d3_80 rfl ?_
  refine go_ldc2J B d3_82 (w_16 H) ?_
  refine go_land B d3_85 ?_
  refine go_lor B d3_86 ?_
  generalize hv20 : ((v19 <<< ((32 : Int32).toInt64 &&& 63)) ||| (v15 &&& (4294967295 : Int64))) = v20
  refine go_lstore B #[.val (.long x), .second, .val (.long y), .second, .val (.long v11), .second, .val (.long v12), .second, .val (.long v13), .second, .val (.long v14), .second, .val (.long v15), .second, .val (.long v16), .second, .val (.long v17), .second, .val (.long v18), .second, .val (.long v19), .second, .val (.long v20), .second, .unset, .unset] d3_87 rfl ?_
  refine go_lload B d3_89 rfl ?_
  refine go_lload B d3_91 rfl ?_
  refine go_bipush B (x := (32 : Int32)) d3_93 (by decide) ?_
  refine go_lushr B d3_95 ?_
  refine go_ladd B d3_96 ?_
  refine go_lload B d3_97 rfl ?_
  refine go_bipush B (x := (32 : Int32)) d3_99 (by decide) ?_
  refine go_lushr B d3_101 ?_
  refine go_ladd B d3_102 ?_
  refine go_lload B d3_103 rfl ?_
  refine go_bipush B (x := (32 : Int32)) d3_105 (by decide) ?_
  refine go_lushr B d3_107 ?_
  refine go_ladd B d3_108 ?_
  generalize hv21 : (((v18 + (XT.ushrL v16 (32 : Int32))) + (XT.ushrL v17 (32 : Int32))) + (XT.ushrL v19 (32 : Int32))) = v21
  refine go_lstore B #[.val (.long x), .second, .val (.long y), .second, .val (.long v11), .second, .val (.long v12), .second, .val (.long v13), .second, .val (.long v14), .second, .val (.long v15), .second, .val (.long v16), .second, .val (.long v17), .second, .val (.long v18), .second, .val (.long v19), .second, .val (.long v20), .second, .val (.long v21), .second] d3_109 rfl ?_
  refine go_lload B d3_111 rfl ?_
  refine go_iconst B (x := (1 : Int32)) d3_113 rfl ?_
  refine go_lshl B d3_114 ?_
  refine go_lload B d3_115 rfl ?_
  refine go_bipush B (x := (63 : Int32)) d3_117 (by decide) ?_
  refine go_lushr B d3_119 ?_
  refine go_lor B d3_120 ?_
  refine go_lreturn B d3_121 (by decide) (by decide) ?_
  subst hv11 hv12 hv13 hv14 hv15 hv16 hv17 hv18 hv19 hv20 hv21
  exact ⟨rfl, rfl⟩
theorem d1_0 : Dc jdk_29_method_66_code 0 (.lload_n 0) 1 1 := ⟨by decide +kernel, rfl⟩
theorem d1_1 : Dc jdk_29_method_66_code 1 (.lload_n 2) 1 2 := ⟨by decide +kernel, rfl⟩
theorem d1_2 : Dc jdk_29_method_66_code 2 (.lcmp) 1 3 := ⟨by decide +kernel, rfl⟩
theorem d1_3 : Db jdk_29_method_66_code 3 (.ifCond .lt 7) 7 6 10 := ⟨by decide +kernel, rfl, rfl⟩
theorem d1_10 : Dc jdk_29_method_66_code 10 (.lload_n 2) 1 11 := ⟨by decide +kernel, rfl⟩
theorem d1_11 : Dc jdk_29_method_66_code 11 (.lreturn) 1 12 := ⟨by decide +kernel, rfl⟩
theorem d1_6 : Dc jdk_29_method_66_code 6 (.lload_n 0) 1 7 := ⟨by decide +kernel, rfl⟩
theorem d1_7 : Db jdk_29_method_66_code 7 (.goto 4) 4 10 11 := ⟨by decide +kernel, rfl, rfl⟩
set_option maxRecDepth 65536 in
set_option maxHeartbeats 40000000 in
theorem rmMax {l : Launch} {Z : State} {a0 : Array Value} {n0 : Nat} (H : Wd a0 Z) (x y : Int64) (h0 : Heap) (Z0 : n0 ≤ h0.size) :
    Ct l Z n0 (⟨"java/lang/Math", "max", "(JJ)J"⟩ : MethodName) jdk_29_method_66_code 4 (some .long) [] ({ frames := 0, cells := 0, slots := 0, locals := 0 } : Room) #[(.long x), (.long y)] h0 (fun v h => v = some (.long (own_max x y)) ∧ h0 = h) := by
  refine Ct.of (a0 := a0) (L0 := #[.val (.long x), .second, .val (.long y), .second]) (by decide +kernel) (fun m => by first | (simp [entryFrame, mkF, argsToLocals, Value.category]; done) | rfl) ?_
  intro κ B0
  have B : Ok κ l Z a0 n0 ({ frames := 0, cells := 0, slots := 0, locals := 0 } : Room) "java/lang/Math" "max" jdk_29_method_66_code 4 (some .long) := B0
  refine go_lload_n B d1_0 rfl ?_
  refine go_lload_n B d1_1 rfl ?_
  refine go_lcmp B d1_2 ?_
  refine go_liflt B d1_3 (fun c3 => ?_) (fun c3 => ?_)
  · skip
    refine go_lload_n B d1_10 rfl ?_
    refine go_lreturn B d1_11 (by decide) (by decide) ?_
    exact ⟨congrArg (fun z => some (Value.long z)) (by simp [own_max, c3]), rfl⟩
  · skip
    refine go_lload_n B d1_6 rfl ?_
    refine go_goto B d1_7 ?_
    refine go_lreturn B d1_11 (by decide) (by decide) ?_
    exact ⟨congrArg (fun z => some (Value.long z)) (by simp [own_max, c3]), rfl⟩
def own_index (hash : Int64) (f : Int32) (b : Int64) : Int64 := own_mh (XT.ushrL (own_mix (hash + (f.toInt64 + 1) * (-7046029254386353131))) 1) (b <<< ((1 : Int32).toInt64 &&& 63))
theorem d4_0 : Dc prog_11_method_4_code 0 (.lload_n 0) 1 1 := ⟨by decide +kernel, rfl⟩
theorem d4_1 : Dc prog_11_method_4_code 1 (.iload_n 2) 1 2 := ⟨by decide +kernel, rfl⟩
theorem d4_2 : Dc prog_11_method_4_code 2 (.i2l) 1 3 := ⟨by decide +kernel, rfl⟩
theorem d4_3 : Dc prog_11_method_4_code 3 (.lconst 1) 1 4 := ⟨by decide +kernel, rfl⟩
theorem d4_4 : Dc prog_11_method_4_code 4 (.ladd) 1 5 := ⟨by decide +kernel, rfl⟩
theorem d4_5 : Dc prog_11_method_4_code 5 (.ldc2_w 36) 3 8 := ⟨by decide +kernel, rfl⟩
theorem w_20 {a0 : Array Value} {Z : State} (H : Wd a0 Z) : (Jvm.Cond.constantLong "com/example/keys_to_bits/keystobits/KeyHash" (36 : Nat) (-7046029254386353131 : Int64)).before a0 Z = true := H _ (List.mem_of_getElem? (i := 20) rfl)
theorem d4_8 : Dc prog_11_method_4_code 8 (.lmul) 1 9 := ⟨by decide +kernel, rfl⟩
theorem d4_9 : Dc prog_11_method_4_code 9 (.ladd) 1 10 := ⟨by decide +kernel, rfl⟩
theorem d4_10 : Dc prog_11_method_4_code 10 (.invokestatic 38) 3 13 := ⟨by decide +kernel, rfl⟩
theorem w_9 {a0 : Array Value} {Z : State} (H : Wd a0 Z) : (Jvm.Cond.code ({ cls := "com/example/keys_to_bits/keystobits/KeyHash", name := "mix", desc := "(J)J" } : Jvm.MethodName) prog_11_method_8_code (4 : Nat) (Option.some Jvm.ClassFile.FieldType.long)).before a0 Z = true := H _ (List.mem_of_getElem? (i := 9) rfl)
theorem w_8 {a0 : Array Value} {Z : State} (H : Wd a0 Z) : (Jvm.Cond.initialized "com/example/keys_to_bits/keystobits/KeyHash").before a0 Z = true := H _ (List.mem_of_getElem? (i := 8) rfl)
theorem pd_0 : parseMethodDescriptor "(J)J" = some ⟨[.long], some .long⟩ := by decide +kernel
theorem w_21 {a0 : Array Value} {Z : State} (H : Wd a0 Z) : (Jvm.Cond.methodLink "com/example/keys_to_bits/keystobits/KeyHash" (38 : Nat) ({ cls := "com/example/keys_to_bits/keystobits/KeyHash", name := "mix", desc := "(J)J" } : Jvm.MethodName)).before a0 Z = true := H _ (List.mem_of_getElem? (i := 21) rfl)
theorem w_7 {a0 : Array Value} {Z : State} (H : Wd a0 Z) : (Jvm.Cond.static ({ cls := "com/example/keys_to_bits/keystobits/KeyHash", name := "mix", desc := "(J)J" } : Jvm.MethodName)).before a0 Z = true := H _ (List.mem_of_getElem? (i := 7) rfl)
theorem d4_13 : Dc prog_11_method_4_code 13 (.lstore 5) 2 15 := ⟨by decide +kernel, rfl⟩
theorem d4_15 : Dc prog_11_method_4_code 15 (.lload 5) 2 17 := ⟨by decide +kernel, rfl⟩
theorem d4_17 : Dc prog_11_method_4_code 17 (.iconst 1) 1 18 := ⟨by decide +kernel, rfl⟩
theorem d4_18 : Dc prog_11_method_4_code 18 (.lushr) 1 19 := ⟨by decide +kernel, rfl⟩
theorem d4_19 : Dc prog_11_method_4_code 19 (.lload_n 3) 1 20 := ⟨by decide +kernel, rfl⟩
theorem d4_20 : Dc prog_11_method_4_code 20 (.iconst 1) 1 21 := ⟨by decide +kernel, rfl⟩
theorem d4_21 : Dc prog_11_method_4_code 21 (.lshl) 1 22 := ⟨by decide +kernel, rfl⟩
theorem d4_22 : Dc prog_11_method_4_code 22 (.invokestatic 41) 3 25 := ⟨by decide +kernel, rfl⟩
theorem w_24 {a0 : Array Value} {Z : State} (H : Wd a0 Z) : (Jvm.Cond.code ({ cls := "java/lang/Math", name := "multiplyHigh", desc := "(JJ)J" } : Jvm.MethodName) jdk_29_method_45_code (20 : Nat) (Option.some Jvm.ClassFile.FieldType.long)).before a0 Z = true := H _ (List.mem_of_getElem? (i := 24) rfl)
theorem w_3 {a0 : Array Value} {Z : State} (H : Wd a0 Z) : (Jvm.Cond.initialized "java/lang/Math").before a0 Z = true := H _ (List.mem_of_getElem? (i := 3) rfl)
theorem pd_1 : parseMethodDescriptor "(JJ)J" = some ⟨[.long, .long], some .long⟩ := by decide +kernel
theorem w_22 {a0 : Array Value} {Z : State} (H : Wd a0 Z) : (Jvm.Cond.methodLink "com/example/keys_to_bits/keystobits/KeyHash" (41 : Nat) ({ cls := "java/lang/Math", name := "multiplyHigh", desc := "(JJ)J" } : Jvm.MethodName)).before a0 Z = true := H _ (List.mem_of_getElem? (i := 22) rfl)
theorem w_23 {a0 : Array Value} {Z : State} (H : Wd a0 Z) : (Jvm.Cond.static ({ cls := "java/lang/Math", name := "multiplyHigh", desc := "(JJ)J" } : Jvm.MethodName)).before a0 Z = true := H _ (List.mem_of_getElem? (i := 23) rfl)
theorem d4_25 : Dc prog_11_method_4_code 25 (.lreturn) 1 26 := ⟨by decide +kernel, rfl⟩
set_option maxRecDepth 65536 in
set_option maxHeartbeats 40000000 in
theorem rmI {l : Launch} {Z : State} {a0 : Array Value} {n0 : Nat} (H : Wd a0 Z) (x : Int64) (f : Int32) (y : Int64) (h0 : Heap) (Z0 : n0 ≤ h0.size) :
    Ct l Z n0 (⟨"com/example/keys_to_bits/keystobits/KeyHash", "index", "(JIJ)J"⟩ : MethodName) prog_11_method_4_code 7 (some .long) [] ({ frames := 1, cells := 0, slots := 0, locals := 31 } : Room) #[(.long x), (.int f), (.long y)] h0 (fun v h => v = some (.long (own_index x f y)) ∧ h0 = h) := by
  refine Ct.of (a0 := a0) (L0 := #[.val (.long x), .second, .val (.int f), .val (.long y), .second, .unset, .unset]) (plainFor_of_name pn_com_example_keys_to_bits_keystobits_KeyHash) (fun m => by first | (simp [entryFrame, mkF, argsToLocals, Value.category]; done) | rfl) ?_
  intro κ B0
  have B : Ok κ l Z a0 n0 ({ frames := 1, cells := 0, slots := 0, locals := 31 } : Room) "com/example/keys_to_bits/keystobits/KeyHash" "index" prog_11_method_4_code 7 (some .long) := B0
  refine go_lload_n B d4_0 rfl ?_
  refine go_iload_n B d4_1 rfl ?_
  refine go_i2l B d4_2 ?_
  refine go_lconst B (u := (1 : Int64)) d4_3 rfl ?_
  refine go_ladd B d4_4 ?_
  refine go_ldc2J B d4_5 (w_20 H) ?_
  refine go_lmul B d4_8 ?_
  refine go_ladd B d4_9 ?_
  refine go_static B (W := 0) (argsL := [(.long (x + ((f.toInt64 + (1 : Int64)) * (-7046029254386353131 : Int64))))]) (st := []) d4_10 (w_21 H) (w_7 H) (w_8 H) (w_9 H) (by decide) (rmMix H (x + ((f.toInt64 + (1 : Int64)) * (-7046029254386353131 : Int64))) h0 Z0) pd_0 rfl rfl rfl rfl (by decide) (by decide) (by decide) (by decide) ?_
  rintro _ h22 ⟨rfl, rfl⟩
  show Go κ _ h0 _ _ 13 #[.val (.long x), .second, .val (.int f), .val (.long y), .second, .unset, .unset] [(.long (own_mix (x + ((f.toInt64 + (1 : Int64)) * (-7046029254386353131 : Int64)))))]
  refine go_lstore B #[.val (.long x), .second, .val (.int f), .val (.long y), .second, .val (.long (own_mix (x + ((f.toInt64 + (1 : Int64)) * (-7046029254386353131 : Int64))))), .second] d4_13 rfl ?_
  refine go_lload B d4_15 rfl ?_
  refine go_iconst B (x := (1 : Int32)) d4_17 rfl ?_
  refine go_lushr B d4_18 ?_
  refine go_lload_n B d4_19 rfl ?_
  refine go_iconst B (x := (1 : Int32)) d4_20 rfl ?_
  refine go_lshl B d4_21 ?_
  refine go_static B (W := 0) (argsL := [(.long (XT.ushrL (own_mix (x + ((f.toInt64 + (1 : Int64)) * (-7046029254386353131 : Int64)))) (1 : Int32))), (.long (y <<< ((1 : Int32).toInt64 &&& 63)))]) (st := []) d4_22 (w_22 H) (w_23 H) (w_3 H) (w_24 H) (by decide) (rmMH H (XT.ushrL (own_mix (x + ((f.toInt64 + (1 : Int64)) * (-7046029254386353131 : Int64)))) (1 : Int32)) (y <<< ((1 : Int32).toInt64 &&& 63)) h0 Z0) pd_1 rfl rfl rfl rfl (by decide) (by decide) (by decide) (by decide) ?_
  rintro _ h23 ⟨rfl, rfl⟩
  show Go κ _ h0 _ _ 25 #[.val (.long x), .second, .val (.int f), .val (.long y), .second, .val (.long (own_mix (x + ((f.toInt64 + (1 : Int64)) * (-7046029254386353131 : Int64))))), .second] [(.long (own_mh (XT.ushrL (own_mix (x + ((f.toInt64 + (1 : Int64)) * (-7046029254386353131 : Int64)))) (1 : Int32)) (y <<< ((1 : Int32).toInt64 &&& 63))))]
  refine go_lreturn B d4_25 (by decide) (by decide) ?_
  exact ⟨rfl, rfl⟩
abbrev own_N (x : Int64) : Nat := x.toBitVec.toNat
theorem own_N_mul (x y : Int64) : own_N (x * y) = own_N x * own_N y % 18446744073709551616 := by simp [own_N, Int64.toBitVec_mul, BitVec.toNat_mul]
theorem own_N_add (x y : Int64) : own_N (x + y) = (own_N x + own_N y) % 18446744073709551616 := by simp [own_N, Int64.toBitVec_add, BitVec.toNat_add]
theorem own_N_lt (x : Int64) : own_N x < 18446744073709551616 := x.toBitVec.isLt
theorem own_N_and (x : Int64) : own_N (x &&& 4294967295) = own_N x % 4294967296 := by
  show (x &&& 4294967295).toBitVec.toNat = _
  rw [Int64.toBitVec_and, BitVec.toNat_and]
  exact Nat.and_two_pow_sub_one_eq_mod _ 32
theorem own_N_ushr (x : Int64) (k : Int32) (n : Nat) (hk : ((k.toInt64.toUInt64 &&& Int64.toUInt64 63).toNat % 64) = n) : own_N (XT.ushrL x k) = own_N x / 2 ^ n := by
  subst hk
  show (x.toUInt64.toBitVec >>> (((k.toInt64.toUInt64 &&& Int64.toUInt64 63)).toBitVec % 64)).toNat = _
  rw [BitVec.ushiftRight_eq', BitVec.toNat_umod, BitVec.toNat_ushiftRight, Nat.shiftRight_eq_div_pow]
  rfl
theorem own_N_shl32 (x : Int64) : own_N (x <<< ((32 : Int32).toInt64 &&& 63)) = own_N x * 4294967296 % 18446744073709551616 := by
  show (x <<< ((32 : Int32).toInt64 &&& 63)).toBitVec.toNat = _
  rw [show ((32 : Int32).toInt64 &&& 63) = (32 : Int64) from by decide, Int64.toBitVec_shiftLeft, show ((32 : Int64).toBitVec.smod 64) = 32#64 from by decide]
  simp [Nat.shiftLeft_eq]
theorem own_N_shl1 (x : Int64) : own_N (x <<< ((1 : Int32).toInt64 &&& 63)) = own_N x * 2 % 18446744073709551616 := by
  show (x <<< ((1 : Int32).toInt64 &&& 63)).toBitVec.toNat = _
  rw [show ((1 : Int32).toInt64 &&& 63) = (1 : Int64) from by decide, Int64.toBitVec_shiftLeft, show ((1 : Int64).toBitVec.smod 64) = 1#64 from by decide]
  simp [Nat.shiftLeft_eq]
theorem own_N_shr (x : Int64) (hx : own_N x < 9223372036854775808) : own_N (x >>> ((32 : Int32).toInt64 &&& 63)) = own_N x / 4294967296 := by
  show (x >>> ((32 : Int32).toInt64 &&& 63)).toBitVec.toNat = _
  rw [show ((32 : Int32).toInt64 &&& 63) = (32 : Int64) from by decide, Int64.toBitVec_shiftRight, show ((32 : Int64).toBitVec.smod 64) = 32#64 from by decide, BitVec.toNat_sshiftRight'_of_msb_false (by have hx' : x.toBitVec.toNat < 9223372036854775808 := hx; rw [BitVec.msb_eq_decide]; simp; omega)]
  simp [Nat.shiftRight_eq_div_pow]
theorem own_N_or (x y : Int64) (n : Nat) (hx : own_N x % 2 ^ n = 0) (hy : own_N y < 2 ^ n) : own_N (x ||| y) = own_N x + own_N y := by
  show (x ||| y).toBitVec.toNat = _
  rw [Int64.toBitVec_or, BitVec.toNat_or]
  obtain ⟨q, hq⟩ := Nat.dvd_of_mod_eq_zero hx
  show own_N x ||| own_N y = _
  rw [hq, ← Nat.two_pow_add_eq_or_of_lt hy]
theorem own_N_eq {x y : Int64} (h : own_N x = own_N y) : x = y := Int64.toBitVec_inj.mp (BitVec.eq_of_toNat_eq h)
theorem own_N_int {x : Int64} (h : own_N x < 9223372036854775808) : x.toInt = (own_N x : Int) := by
  show x.toBitVec.toInt = _
  have h' : x.toBitVec.toNat < 9223372036854775808 := h
  rw [BitVec.toInt_eq_toNat_cond, if_pos (by omega)]
theorem own_law1 (s t : Int64) (hs : own_N s < 9223372036854775808) (ht : own_N t < 9223372036854775808) : own_N (own_mh s t) = own_N s * own_N t / 18446744073709551616 := by
  have hS : own_N s = own_N s / 4294967296 * 4294967296 + own_N s % 4294967296 := by omega
  have hT : own_N t = own_N t / 4294967296 * 4294967296 + own_N t % 4294967296 := by omega
  obtain ⟨x1, e1⟩ : ∃ z, z = own_N s / 4294967296 := ⟨_, rfl⟩
  obtain ⟨x2, e2⟩ : ∃ z, z = own_N s % 4294967296 := ⟨_, rfl⟩
  obtain ⟨y1, e3⟩ : ∃ z, z = own_N t / 4294967296 := ⟨_, rfl⟩
  obtain ⟨y2, e4⟩ : ∃ z, z = own_N t % 4294967296 := ⟨_, rfl⟩
  have b1 : x1 ≤ 2147483647 := by omega
  have b2 : x2 ≤ 4294967295 := by omega
  have b3 : y1 ≤ 2147483647 := by omega
  have b4 : y2 ≤ 4294967295 := by omega
  have p11 := Nat.mul_le_mul b1 b3
  have p12 := Nat.mul_le_mul b1 b4
  have p21 := Nat.mul_le_mul b2 b3
  have p22 := Nat.mul_le_mul b2 b4
  have hST : own_N s * own_N t = x1 * y1 * 18446744073709551616 + (x1 * y2 + x2 * y1) * 4294967296 + x2 * y2 := by
    rw [hS, hT, ← e1, ← e2, ← e3, ← e4]
    simp only [Nat.add_mul, Nat.mul_add]
    have a1 : x1 * 4294967296 * (y1 * 4294967296) = x1 * y1 * 18446744073709551616 := by rw [Nat.mul_mul_mul_comm]
    have a2 : x1 * 4294967296 * y2 = x1 * y2 * 4294967296 := by rw [Nat.mul_right_comm]
    have a3 : x2 * (y1 * 4294967296) = x2 * y1 * 4294967296 := by rw [Nat.mul_assoc]
    rw [a1, a2, a3]; omega
  unfold own_mh
  have n1 : own_N (s >>> ((32 : Int32).toInt64 &&& 63)) = x1 := by rw [own_N_shr _ hs, e1]
  have n2 : own_N (s &&& 4294967295) = x2 := by rw [own_N_and, e2]
  have n3 : own_N (t >>> ((32 : Int32).toInt64 &&& 63)) = y1 := by rw [own_N_shr _ ht, e3]
  have n4 : own_N (t &&& 4294967295) = y2 := by rw [own_N_and, e4]
  generalize (s >>> ((32 : Int32).toInt64 &&& 63)) = X1 at n1 ⊢
  generalize (s &&& 4294967295) = X2 at n2 ⊢
  generalize (t >>> ((32 : Int32).toInt64 &&& 63)) = Y1 at n3 ⊢
  generalize (t &&& 4294967295) = Y2 at n4 ⊢
  rw [hST]
  clear hST hS hT e1 e2 e3 e4 hs ht
  have m22 : own_N (X2 * Y2) = x2 * y2 := by rw [own_N_mul, n2, n4]; omega
  have m12 : own_N (X1 * Y2) = x1 * y2 := by rw [own_N_mul, n1, n4]; omega
  have m21 : own_N (X2 * Y1) = x2 * y1 := by rw [own_N_mul, n2, n3]; omega
  have m11 : own_N (X1 * Y1) = x1 * y1 := by rw [own_N_mul, n1, n3]; omega
  generalize x1 * y1 = P11 at *
  generalize x1 * y2 = P12 at *
  generalize x2 * y1 = P21 at *
  generalize x2 * y2 = P22 at *
  show own_N (X1 * Y1 + (X1 * Y2 + XT.ushrL (X2 * Y2) 32) >>> ((32 : Int32).toInt64 &&& 63) + (((X1 * Y2 + XT.ushrL (X2 * Y2) 32) &&& 4294967295) + X2 * Y1) >>> ((32 : Int32).toInt64 &&& 63)) = _
  have u22 : own_N (XT.ushrL (X2 * Y2) 32) = P22 / 4294967296 := by rw [own_N_ushr _ 32 32 (by decide), m22]
  have t0 : own_N (X1 * Y2 + XT.ushrL (X2 * Y2) 32) = P12 + P22 / 4294967296 := by rw [own_N_add, m12, u22]; omega
  generalize (X1 * Y2 + XT.ushrL (X2 * Y2) 32) = TT at t0 ⊢
  have z0 : own_N (TT >>> ((32 : Int32).toInt64 &&& 63)) = (P12 + P22 / 4294967296) / 4294967296 := by rw [own_N_shr _ (by omega), t0]
  have z1 : own_N ((TT &&& 4294967295) + X2 * Y1) = (P12 + P22 / 4294967296) % 4294967296 + P21 := by rw [own_N_add, own_N_and, t0, m21]; omega
  have z2 : own_N (((TT &&& 4294967295) + X2 * Y1) >>> ((32 : Int32).toInt64 &&& 63)) = ((P12 + P22 / 4294967296) % 4294967296 + P21) / 4294967296 := by rw [own_N_shr _ (by omega), z1]
  rw [own_N_add, own_N_add, m11, z0, z2]
  omega
theorem own_law2 (s b : Int64) (hs : own_N s < 9223372036854775808) (hb : own_N b < 4611686018427387904) : own_N (own_scaled s b) = own_N s * own_N b / 9223372036854775808 := by
  have hS : own_N s = own_N s / 4294967296 * 4294967296 + own_N s % 4294967296 := by omega
  have hT : own_N b = own_N b / 4294967296 * 4294967296 + own_N b % 4294967296 := by omega
  obtain ⟨x1, e1⟩ : ∃ z, z = own_N s / 4294967296 := ⟨_, rfl⟩
  obtain ⟨x2, e2⟩ : ∃ z, z = own_N s % 4294967296 := ⟨_, rfl⟩
  obtain ⟨y1, e3⟩ : ∃ z, z = own_N b / 4294967296 := ⟨_, rfl⟩
  obtain ⟨y2, e4⟩ : ∃ z, z = own_N b % 4294967296 := ⟨_, rfl⟩
  have b1 : x1 ≤ 2147483647 := by omega
  have b2 : x2 ≤ 4294967295 := by omega
  have b3 : y1 ≤ 1073741823 := by omega
  have b4 : y2 ≤ 4294967295 := by omega
  have p11 := Nat.mul_le_mul b1 b3
  have p12 := Nat.mul_le_mul b1 b4
  have p21 := Nat.mul_le_mul b2 b3
  have p22 := Nat.mul_le_mul b2 b4
  have hST : own_N s * own_N b = x1 * y1 * 18446744073709551616 + (x1 * y2 + x2 * y1) * 4294967296 + x2 * y2 := by
    rw [hS, hT, ← e1, ← e2, ← e3, ← e4]
    simp only [Nat.add_mul, Nat.mul_add]
    have a1 : x1 * 4294967296 * (y1 * 4294967296) = x1 * y1 * 18446744073709551616 := by rw [Nat.mul_mul_mul_comm]
    have a2 : x1 * 4294967296 * y2 = x1 * y2 * 4294967296 := by rw [Nat.mul_right_comm]
    have a3 : x2 * (y1 * 4294967296) = x2 * y1 * 4294967296 := by rw [Nat.mul_assoc]
    rw [a1, a2, a3]; omega
  have hle : own_N s * own_N b < 9223372036854775808 * 4611686018427387904 := by
    have := Nat.mul_le_mul (Nat.le_of_lt hs) (Nat.le_of_lt_succ (Nat.lt_succ_of_lt hb) : own_N b ≤ 4611686018427387904)
    rcases Nat.eq_zero_or_pos (own_N b) with q | q
    · rw [q, Nat.mul_zero]; decide
    · exact Nat.mul_lt_mul'' hs hb
  unfold own_scaled
  dsimp only
  have n1 : own_N (XT.ushrL s 32) = x1 := by rw [own_N_ushr _ 32 32 (by decide), e1]
  have n2 : own_N (s &&& 4294967295) = x2 := by rw [own_N_and, e2]
  have n3 : own_N (XT.ushrL b 32) = y1 := by rw [own_N_ushr _ 32 32 (by decide), e3]
  have n4 : own_N (b &&& 4294967295) = y2 := by rw [own_N_and, e4]
  generalize (XT.ushrL s 32) = X1 at n1 ⊢
  generalize (s &&& 4294967295) = X2 at n2 ⊢
  generalize (XT.ushrL b 32) = Y1 at n3 ⊢
  generalize (b &&& 4294967295) = Y2 at n4 ⊢
  rw [hST] at hle ⊢
  clear hST hS hT e1 e2 e3 e4 hs hb
  have m22 : own_N (X2 * Y2) = x2 * y2 := by rw [own_N_mul, n2, n4]; omega
  have m12 : own_N (X1 * Y2) = x1 * y2 := by rw [own_N_mul, n1, n4]; omega
  have m21 : own_N (X2 * Y1) = x2 * y1 := by rw [own_N_mul, n2, n3]; omega
  have m11 : own_N (X1 * Y1) = x1 * y1 := by rw [own_N_mul, n1, n3]; omega
  generalize x1 * y1 = P11 at *
  generalize x1 * y2 = P12 at *
  generalize x2 * y1 = P21 at *
  generalize x2 * y2 = P22 at *
  generalize (X2 * Y2) = LL at m22 ⊢
  generalize (X1 * Y2) = HL at m12 ⊢
  generalize (X2 * Y1) = LH at m21 ⊢
  generalize (X1 * Y1) = HH at m11 ⊢
  show own_N ((HH + XT.ushrL LH 32 + XT.ushrL HL 32 + XT.ushrL (XT.ushrL LL 32 + (LH &&& 4294967295) + (HL &&& 4294967295)) 32) <<< ((1 : Int32).toInt64 &&& 63) ||| XT.ushrL ((XT.ushrL LL 32 + (LH &&& 4294967295) + (HL &&& 4294967295)) <<< ((32 : Int32).toInt64 &&& 63) ||| (LL &&& 4294967295)) 63) = _
  have mid : own_N (XT.ushrL LL 32 + (LH &&& 4294967295) + (HL &&& 4294967295)) = P22 / 4294967296 + P21 % 4294967296 + P12 % 4294967296 := by
    rw [own_N_add, own_N_add, own_N_ushr _ 32 32 (by decide), own_N_and, own_N_and, m22, m21, m12]; omega
  generalize (XT.ushrL LL 32 + (LH &&& 4294967295) + (HL &&& 4294967295)) = MID at mid ⊢
  have low : own_N (MID <<< ((32 : Int32).toInt64 &&& 63) ||| (LL &&& 4294967295)) = (P22 / 4294967296 + P21 % 4294967296 + P12 % 4294967296) * 4294967296 % 18446744073709551616 + P22 % 4294967296 := by
    rw [own_N_or _ _ 32 (by rw [own_N_shl32, mid]; omega) (by rw [own_N_and, m22]; omega), own_N_shl32, own_N_and, mid, m22]
  have high : own_N (HH + XT.ushrL LH 32 + XT.ushrL HL 32 + XT.ushrL MID 32) = P11 + P21 / 4294967296 + P12 / 4294967296 + (P22 / 4294967296 + P21 % 4294967296 + P12 % 4294967296) / 4294967296 := by
    rw [own_N_add, own_N_add, own_N_add, own_N_ushr _ 32 32 (by decide), own_N_ushr _ 32 32 (by decide), own_N_ushr _ 32 32 (by decide), m11, m21, m12, mid]; omega
  generalize (MID <<< ((32 : Int32).toInt64 &&& 63) ||| (LL &&& 4294967295)) = LOW at low ⊢
  generalize (HH + XT.ushrL LH 32 + XT.ushrL HL 32 + XT.ushrL MID 32) = HIGH at high ⊢
  rw [own_N_or _ _ 1 (by rw [own_N_shl1, high]; omega) (by rw [own_N_ushr _ 63 63 (by decide), low]; omega), own_N_shl1, own_N_ushr _ 63 63 (by decide), high, low]
  omega
theorem own_fin (s b : Int64) (hs : own_N s < 9223372036854775808) (hb : own_N b < 4611686018427387904) (hb0 : 0 < own_N b) : ¬ own_mh s (b <<< ((1 : Int32).toInt64 &&& 63)) < 0 ∧ own_mh s (b <<< ((1 : Int32).toInt64 &&& 63)) < b ∧ own_mh s (b <<< ((1 : Int32).toInt64 &&& 63)) = own_scaled s b := by
  have hb2 : own_N (b <<< ((1 : Int32).toInt64 &&& 63)) = own_N b * 2 := by rw [own_N_shl1]; omega
  have l1 := own_law1 s (b <<< ((1 : Int32).toInt64 &&& 63)) hs (by omega)
  have l2 := own_law2 s b hs hb
  have e : own_N s * own_N (b <<< ((1 : Int32).toInt64 &&& 63)) / 18446744073709551616 = own_N s * own_N b / 9223372036854775808 := by
    rw [hb2, ← Nat.mul_assoc]; omega
  have hq : own_N s * own_N b / 9223372036854775808 < own_N b := by
    rw [Nat.div_lt_iff_lt_mul (by decide), Nat.mul_comm]
    exact Nat.mul_lt_mul_of_pos_left hs hb0
  rw [e] at l1
  refine ⟨?_, ?_, own_N_eq (l1.trans l2.symm)⟩
  · rw [Int64.lt_iff_toInt_lt, own_N_int (by omega)]
    have : (0 : Int64).toInt = 0 := rfl
    omega
  · rw [Int64.lt_iff_toInt_lt, own_N_int (by omega), own_N_int (by omega)]
    omega
theorem own_and_lt (x m : Int64) (hm : own_N m < 4611686018427387904) : own_N (x &&& m) < 4611686018427387904 := by
  show (x &&& m).toBitVec.toNat < _
  rw [Int64.toBitVec_and, BitVec.toNat_and]
  exact Nat.lt_of_le_of_lt Nat.and_le_right hm
theorem own_fin3 (q : Int64) (p : Int32) (z : Int64) (hz : own_N z < 4611686018427387904) : ¬ own_index q p (own_max 1 z) < 0 ∧ own_index q p (own_max 1 z) < own_max 1 z ∧ own_index q p (own_max 1 z) = own_scaled (XT.ushrL (own_mix (q + (p.toInt64 + (1 : Int64)) * (-7046029254386353131 : Int64))) (1 : Int32)) (own_max 1 z) := by
  refine own_fin _ _ ?_ ?_ ?_
  · rw [own_N_ushr _ 1 1 (by decide)]; have := own_N_lt (own_mix (q + (p.toInt64 + 1) * (-7046029254386353131))); omega
  · unfold own_max; split
    · exact hz
    · decide
  · unfold own_max; split
    · rename_i q
      rw [Int64.lt_iff_toInt_lt, own_N_int (x := z) (by omega)] at q
      have : (1 : Int64).toInt = 1 := rfl
      omega
    · decide
theorem d0_0 : Dc code 0 (.iload 5) 2 2 := ⟨at_0, rfl⟩
theorem d0_2 : Dc code 2 (.iconst 1) 1 3 := ⟨at_2, rfl⟩
theorem d0_3 : Dc code 3 (.iand) 1 4 := ⟨at_3, rfl⟩
theorem d0_4 : Db code 4 (.ifCond .eq 13) 13 7 17 := ⟨at_4, rfl, rfl⟩
theorem d0_24 : Dc code 24 (.lconst 1) 1 25 := ⟨at_24, rfl⟩
theorem d0_25 : Dc code 25 (.lload 6) 2 27 := ⟨at_25, rfl⟩
theorem d0_27 : Dc code 27 (.invokestatic 15) 3 30 := ⟨at_27, rfl⟩
theorem w_4 {a0 : Array Value} {Z : State} (H : Wd a0 Z) : (Jvm.Cond.code ({ cls := "java/lang/Math", name := "max", desc := "(JJ)J" } : Jvm.MethodName) jdk_29_method_66_code (4 : Nat) (Option.some Jvm.ClassFile.FieldType.long)).before a0 Z = true := H _ (List.mem_of_getElem? (i := 4) rfl)
theorem w_1 {a0 : Array Value} {Z : State} (H : Wd a0 Z) : (Jvm.Cond.methodLink "com/example/keys_to_bits/keystobits/KeyHashIndexPinLaw" (15 : Nat) ({ cls := "java/lang/Math", name := "max", desc := "(JJ)J" } : Jvm.MethodName)).before a0 Z = true := H _ (List.mem_of_getElem? (i := 1) rfl)
theorem w_2 {a0 : Array Value} {Z : State} (H : Wd a0 Z) : (Jvm.Cond.static ({ cls := "java/lang/Math", name := "max", desc := "(JJ)J" } : Jvm.MethodName)).before a0 Z = true := H _ (List.mem_of_getElem? (i := 2) rfl)
theorem d0_30 : Dc code 30 (.lstore 6) 2 32 := ⟨at_30, rfl⟩
theorem d0_32 : Dc code 32 (.lload_n 0) 1 33 := ⟨at_32, rfl⟩
theorem d0_33 : Dc code 33 (.iload_n 2) 1 34 := ⟨at_33, rfl⟩
theorem d0_34 : Dc code 34 (.i2l) 1 35 := ⟨at_34, rfl⟩
theorem d0_35 : Dc code 35 (.lconst 1) 1 36 := ⟨at_35, rfl⟩
theorem d0_36 : Dc code 36 (.ladd) 1 37 := ⟨at_36, rfl⟩
theorem d0_37 : Dc code 37 (.ldc2_w 23) 3 40 := ⟨at_37, rfl⟩
theorem w_5 {a0 : Array Value} {Z : State} (H : Wd a0 Z) : (Jvm.Cond.constantLong "com/example/keys_to_bits/keystobits/KeyHashIndexPinLaw" (23 : Nat) (-7046029254386353131 : Int64)).before a0 Z = true := H _ (List.mem_of_getElem? (i := 5) rfl)
theorem d0_40 : Dc code 40 (.lmul) 1 41 := ⟨at_40, rfl⟩
theorem d0_41 : Dc code 41 (.ladd) 1 42 := ⟨at_41, rfl⟩
theorem d0_42 : Dc code 42 (.lstore 8) 2 44 := ⟨at_42, rfl⟩
theorem d0_44 : Dc code 44 (.lload 8) 2 46 := ⟨at_44, rfl⟩
theorem d0_46 : Dc code 46 (.invokestatic 25) 3 49 := ⟨at_46, rfl⟩
theorem w_6 {a0 : Array Value} {Z : State} (H : Wd a0 Z) : (Jvm.Cond.methodLink "com/example/keys_to_bits/keystobits/KeyHashIndexPinLaw" (25 : Nat) ({ cls := "com/example/keys_to_bits/keystobits/KeyHash", name := "mix", desc := "(J)J" } : Jvm.MethodName)).before a0 Z = true := H _ (List.mem_of_getElem? (i := 6) rfl)
theorem d0_49 : Dc code 49 (.iconst 1) 1 50 := ⟨at_49, rfl⟩
theorem d0_50 : Dc code 50 (.lushr) 1 51 := ⟨at_50, rfl⟩
theorem d0_51 : Dc code 51 (.lstore 10) 2 53 := ⟨at_51, rfl⟩
theorem d0_53 : Dc code 53 (.lload 10) 2 55 := ⟨at_53, rfl⟩
theorem d0_55 : Dc code 55 (.lload 6) 2 57 := ⟨at_55, rfl⟩
theorem d0_57 : Dc code 57 (.invokestatic 29) 3 60 := ⟨at_57, rfl⟩
theorem w_15 {a0 : Array Value} {Z : State} (H : Wd a0 Z) : (Jvm.Cond.code ({ cls := "com/example/keys_to_bits/keystobits/KeyHashIndexPinLaw", name := "scaled", desc := "(JJ)J" } : Jvm.MethodName) method_2_code (26 : Nat) (Option.some Jvm.ClassFile.FieldType.long)).before a0 Z = true := H _ (List.mem_of_getElem? (i := 15) rfl)
theorem w_14 {a0 : Array Value} {Z : State} (H : Wd a0 Z) : (Jvm.Cond.initialized "com/example/keys_to_bits/keystobits/KeyHashIndexPinLaw").before a0 Z = true := H _ (List.mem_of_getElem? (i := 14) rfl)
theorem w_12 {a0 : Array Value} {Z : State} (H : Wd a0 Z) : (Jvm.Cond.methodLink "com/example/keys_to_bits/keystobits/KeyHashIndexPinLaw" (29 : Nat) ({ cls := "com/example/keys_to_bits/keystobits/KeyHashIndexPinLaw", name := "scaled", desc := "(JJ)J" } : Jvm.MethodName)).before a0 Z = true := H _ (List.mem_of_getElem? (i := 12) rfl)
theorem w_13 {a0 : Array Value} {Z : State} (H : Wd a0 Z) : (Jvm.Cond.static ({ cls := "com/example/keys_to_bits/keystobits/KeyHashIndexPinLaw", name := "scaled", desc := "(JJ)J" } : Jvm.MethodName)).before a0 Z = true := H _ (List.mem_of_getElem? (i := 13) rfl)
theorem d0_60 : Dc code 60 (.lstore 12) 2 62 := ⟨at_60, rfl⟩
theorem d0_62 : Dc code 62 (.lload_n 0) 1 63 := ⟨at_62, rfl⟩
theorem d0_63 : Dc code 63 (.iload_n 2) 1 64 := ⟨at_63, rfl⟩
theorem d0_64 : Dc code 64 (.lload 6) 2 66 := ⟨at_64, rfl⟩
theorem d0_66 : Dc code 66 (.invokestatic 32) 3 69 := ⟨at_66, rfl⟩
theorem w_19 {a0 : Array Value} {Z : State} (H : Wd a0 Z) : (Jvm.Cond.code ({ cls := "com/example/keys_to_bits/keystobits/KeyHash", name := "index", desc := "(JIJ)J" } : Jvm.MethodName) prog_11_method_4_code (7 : Nat) (Option.some Jvm.ClassFile.FieldType.long)).before a0 Z = true := H _ (List.mem_of_getElem? (i := 19) rfl)
theorem pd_2 : parseMethodDescriptor "(JIJ)J" = some ⟨[.long, .int, .long], some .long⟩ := by decide +kernel
theorem w_17 {a0 : Array Value} {Z : State} (H : Wd a0 Z) : (Jvm.Cond.methodLink "com/example/keys_to_bits/keystobits/KeyHashIndexPinLaw" (32 : Nat) ({ cls := "com/example/keys_to_bits/keystobits/KeyHash", name := "index", desc := "(JIJ)J" } : Jvm.MethodName)).before a0 Z = true := H _ (List.mem_of_getElem? (i := 17) rfl)
theorem w_18 {a0 : Array Value} {Z : State} (H : Wd a0 Z) : (Jvm.Cond.static ({ cls := "com/example/keys_to_bits/keystobits/KeyHash", name := "index", desc := "(JIJ)J" } : Jvm.MethodName)).before a0 Z = true := H _ (List.mem_of_getElem? (i := 18) rfl)
theorem d0_69 : Dc code 69 (.lstore 14) 2 71 := ⟨at_69, rfl⟩
theorem d0_71 : Dc code 71 (.lload 14) 2 73 := ⟨at_71, rfl⟩
theorem d0_73 : Dc code 73 (.lconst 0) 1 74 := ⟨at_73, rfl⟩
theorem d0_74 : Dc code 74 (.lcmp) 1 75 := ⟨at_74, rfl⟩
theorem d0_75 : Db code 75 (.ifCond .lt 23) 23 78 98 := ⟨at_75, rfl, rfl⟩
theorem d0_78 : Dc code 78 (.lload 14) 2 80 := ⟨at_78, rfl⟩
theorem d0_80 : Dc code 80 (.lload 6) 2 82 := ⟨at_80, rfl⟩
theorem d0_82 : Dc code 82 (.lcmp) 1 83 := ⟨at_82, rfl⟩
theorem d0_83 : Db code 83 (.ifCond .ge 15) 15 86 98 := ⟨at_83, rfl, rfl⟩
theorem d0_86 : Dc code 86 (.lload 14) 2 88 := ⟨at_86, rfl⟩
theorem d0_88 : Dc code 88 (.lload 12) 2 90 := ⟨at_88, rfl⟩
theorem d0_90 : Dc code 90 (.lcmp) 1 91 := ⟨at_90, rfl⟩
theorem d0_91 : Db code 91 (.ifCond .ne 7) 7 94 98 := ⟨at_91, rfl, rfl⟩
theorem d0_94 : Dc code 94 (.iconst 1) 1 95 := ⟨at_94, rfl⟩
theorem d0_95 : Db code 95 (.goto 4) 4 98 99 := ⟨at_95, rfl, rfl⟩
theorem d0_99 : Dc code 99 (.ireturn) 1 100 := ⟨at_99, rfl⟩
theorem d0_17 : Dc code 17 (.lload_n 3) 1 18 := ⟨at_17, rfl⟩
theorem d0_18 : Dc code 18 (.ldc2_w 13) 3 21 := ⟨at_18, rfl⟩
theorem w_0 {a0 : Array Value} {Z : State} (H : Wd a0 Z) : (Jvm.Cond.constantLong "com/example/keys_to_bits/keystobits/KeyHashIndexPinLaw" (13 : Nat) (4611686018427387903 : Int64)).before a0 Z = true := H _ (List.mem_of_getElem? (i := 0) rfl)
theorem d0_21 : Dc code 21 (.land) 1 22 := ⟨at_21, rfl⟩
theorem d0_22 : Dc code 22 (.lstore 6) 2 24 := ⟨at_22, rfl⟩
theorem d0_7 : Dc code 7 (.lload_n 3) 1 8 := ⟨at_7, rfl⟩
theorem d0_8 : Dc code 8 (.ldc2_w 11) 3 11 := ⟨at_8, rfl⟩
theorem w_26 {a0 : Array Value} {Z : State} (H : Wd a0 Z) : (Jvm.Cond.constantLong "com/example/keys_to_bits/keystobits/KeyHashIndexPinLaw" (11 : Nat) (65535 : Int64)).before a0 Z = true := H _ (List.mem_of_getElem? (i := 26) rfl)
theorem d0_11 : Dc code 11 (.land) 1 12 := ⟨at_11, rfl⟩
theorem d0_12 : Dc code 12 (.lstore 6) 2 14 := ⟨at_12, rfl⟩
theorem d0_14 : Db code 14 (.goto 10) 10 17 24 := ⟨at_14, rfl, rfl⟩
set_option maxRecDepth 65536 in
set_option maxHeartbeats 40000000 in
theorem rm0 {l : Launch} {Z : State} {a0 : Array Value} {n0 : Nat} (H : Wd a0 Z) (q0 : Int64) (p1 : Int32) (q2 : Int64) (p3 : Int32) (h0 : Heap) (Z0 : n0 ≤ h0.size) :
    Ct l Z n0 x code maxLocals ret tables_1 room_1 #[(.long q0), (.int p1), (.long q2), (.int p3)] h0 (fun v h => v = some (.int 1)) := by
  refine Ct.of (a0 := a0) (L0 := #[.val (.long q0), .second, .val (.int p1), .val (.long q2), .second, .val (.int p3), .unset, .unset, .unset, .unset, .unset, .unset, .unset, .unset, .unset, .unset]) (plainFor_of_name pn_com_example_keys_to_bits_keystobits_KeyHashIndexPinLaw) (fun m => by first | (simp [entryFrame, mkF, argsToLocals, Value.category, maxLocals]; done) | rfl) ?_
  intro κ B0
  have B : Ok κ l Z a0 n0 room_1 "com/example/keys_to_bits/keystobits/KeyHashIndexPinLaw" "law" code maxLocals ret := B0
  refine go_iload B d0_0 rfl ?_
  refine go_iconst B (x := (1 : Int32)) d0_2 rfl ?_
  refine go_iand B d0_3 ?_
  have J25 : ∀ z24 : Int64, (own_N z24 < 4611686018427387904) → Go κ (fun v h => v = some (.int 1)) h0 (0) (0) 24 #[.val (.long q0), .second, .val (.int p1), .val (.long q2), .second, .val (.int p3), .val (.long z24), .second, .unset, .unset, .unset, .unset, .unset, .unset, .unset, .unset] [] := by
    intro z24 hJ25
    refine go_lconst B (u := (1 : Int64)) d0_24 rfl ?_
    refine go_lload B d0_25 rfl ?_
    refine go_static B (W := 0) (argsL := [(.long (1 : Int64)), (.long z24)]) (st := []) d0_27 (w_1 H) (w_2 H) (w_3 H) (w_4 H) (by decide) (rmMax H (1 : Int64) z24 h0 Z0) pd_1 rfl rfl rfl rfl (by decide) (by decide) (by decide) (by decide) ?_
    rintro _ h26 ⟨rfl, rfl⟩
    show Go κ _ h0 _ _ 30 #[.val (.long q0), .second, .val (.int p1), .val (.long q2), .second, .val (.int p3), .val (.long z24), .second, .unset, .unset, .unset, .unset, .unset, .unset, .unset, .unset] [(.long (own_max (1 : Int64) z24))]
    refine go_lstore B #[.val (.long q0), .second, .val (.int p1), .val (.long q2), .second, .val (.int p3), .val (.long (own_max (1 : Int64) z24)), .second, .unset, .unset, .unset, .unset, .unset, .unset, .unset, .unset] d0_30 rfl ?_
    refine go_lload_n B d0_32 rfl ?_
    refine go_iload_n B d0_33 rfl ?_
    refine go_i2l B d0_34 ?_
    refine go_lconst B (u := (1 : Int64)) d0_35 rfl ?_
    refine go_ladd B d0_36 ?_
    refine go_ldc2J B d0_37 (w_5 H) ?_
    refine go_lmul B d0_40 ?_
    refine go_ladd B d0_41 ?_
    refine go_lstore B #[.val (.long q0), .second, .val (.int p1), .val (.long q2), .second, .val (.int p3), .val (.long (own_max (1 : Int64) z24)), .second, .val (.long (q0 + ((p1.toInt64 + (1 : Int64)) * (-7046029254386353131 : Int64)))), .second, .unset, .unset, .unset, .unset, .unset, .unset] d0_42 rfl ?_
    refine go_lload B d0_44 rfl ?_
    refine go_static B (W := 0) (argsL := [(.long (q0 + ((p1.toInt64 + (1 : Int64)) * (-7046029254386353131 : Int64))))]) (st := []) d0_46 (w_6 H) (w_7 H) (w_8 H) (w_9 H) (by decide) (rmMix H (q0 + ((p1.toInt64 + (1 : Int64)) * (-7046029254386353131 : Int64))) h0 Z0) pd_0 rfl rfl rfl rfl (by decide) (by decide) (by decide) (by decide) ?_
    rintro _ h27 ⟨rfl, rfl⟩
    show Go κ _ h0 _ _ 49 #[.val (.long q0), .second, .val (.int p1), .val (.long q2), .second, .val (.int p3), .val (.long (own_max (1 : Int64) z24)), .second, .val (.long (q0 + ((p1.toInt64 + (1 : Int64)) * (-7046029254386353131 : Int64)))), .second, .unset, .unset, .unset, .unset, .unset, .unset] [(.long (own_mix (q0 + ((p1.toInt64 + (1 : Int64)) * (-7046029254386353131 : Int64)))))]
    refine go_iconst B (x := (1 : Int32)) d0_49 rfl ?_
    refine go_lushr B d0_50 ?_
    refine go_lstore B #[.val (.long q0), .second, .val (.int p1), .val (.long q2), .second, .val (.int p3), .val (.long (own_max (1 : Int64) z24)), .second, .val (.long (q0 + ((p1.toInt64 + (1 : Int64)) * (-7046029254386353131 : Int64)))), .second, .val (.long (XT.ushrL (own_mix (q0 + ((p1.toInt64 + (1 : Int64)) * (-7046029254386353131 : Int64)))) (1 : Int32))), .second, .unset, .unset, .unset, .unset] d0_51 rfl ?_
    refine go_lload B d0_53 rfl ?_
    refine go_lload B d0_55 rfl ?_
    refine go_static B (W := 0) (argsL := [(.long (XT.ushrL (own_mix (q0 + ((p1.toInt64 + (1 : Int64)) * (-7046029254386353131 : Int64)))) (1 : Int32))), (.long (own_max (1 : Int64) z24))]) (st := []) d0_57 (w_12 H) (w_13 H) (w_14 H) (w_15 H) (by decide) (rmSc H (XT.ushrL (own_mix (q0 + ((p1.toInt64 + (1 : Int64)) * (-7046029254386353131 : Int64)))) (1 : Int32)) (own_max (1 : Int64) z24) h0 Z0) pd_1 rfl rfl rfl rfl (by decide) (by decide) (by decide) (by decide) ?_
    rintro _ h28 ⟨rfl, rfl⟩
    show Go κ _ h0 _ _ 60 #[.val (.long q0), .second, .val (.int p1), .val (.long q2), .second, .val (.int p3), .val (.long (own_max (1 : Int64) z24)), .second, .val (.long (q0 + ((p1.toInt64 + (1 : Int64)) * (-7046029254386353131 : Int64)))), .second, .val (.long (XT.ushrL (own_mix (q0 + ((p1.toInt64 + (1 : Int64)) * (-7046029254386353131 : Int64)))) (1 : Int32))), .second, .unset, .unset, .unset, .unset] [(.long (own_scaled (XT.ushrL (own_mix (q0 + ((p1.toInt64 + (1 : Int64)) * (-7046029254386353131 : Int64)))) (1 : Int32)) (own_max (1 : Int64) z24)))]
    refine go_lstore B #[.val (.long q0), .second, .val (.int p1), .val (.long q2), .second, .val (.int p3), .val (.long (own_max (1 : Int64) z24)), .second, .val (.long (q0 + ((p1.toInt64 + (1 : Int64)) * (-7046029254386353131 : Int64)))), .second, .val (.long (XT.ushrL (own_mix (q0 + ((p1.toInt64 + (1 : Int64)) * (-7046029254386353131 : Int64)))) (1 : Int32))), .second, .val (.long (own_scaled (XT.ushrL (own_mix (q0 + ((p1.toInt64 + (1 : Int64)) * (-7046029254386353131 : Int64)))) (1 : Int32)) (own_max (1 : Int64) z24))), .second, .unset, .unset] d0_60 rfl ?_
    refine go_lload_n B d0_62 rfl ?_
    refine go_iload_n B d0_63 rfl ?_
    refine go_lload B d0_64 rfl ?_
    refine go_static B (W := 0) (argsL := [(.long q0), (.int p1), (.long (own_max (1 : Int64) z24))]) (st := []) d0_66 (w_17 H) (w_18 H) (w_8 H) (w_19 H) (by decide) (rmI H q0 p1 (own_max (1 : Int64) z24) h0 Z0) pd_2 rfl rfl rfl rfl (by decide) (by decide) (by decide) (by decide) ?_
    rintro _ h29 ⟨rfl, rfl⟩
    show Go κ _ h0 _ _ 69 #[.val (.long q0), .second, .val (.int p1), .val (.long q2), .second, .val (.int p3), .val (.long (own_max (1 : Int64) z24)), .second, .val (.long (q0 + ((p1.toInt64 + (1 : Int64)) * (-7046029254386353131 : Int64)))), .second, .val (.long (XT.ushrL (own_mix (q0 + ((p1.toInt64 + (1 : Int64)) * (-7046029254386353131 : Int64)))) (1 : Int32))), .second, .val (.long (own_scaled (XT.ushrL (own_mix (q0 + ((p1.toInt64 + (1 : Int64)) * (-7046029254386353131 : Int64)))) (1 : Int32)) (own_max (1 : Int64) z24))), .second, .unset, .unset] [(.long (own_index q0 p1 (own_max (1 : Int64) z24)))]
    refine go_lstore B #[.val (.long q0), .second, .val (.int p1), .val (.long q2), .second, .val (.int p3), .val (.long (own_max (1 : Int64) z24)), .second, .val (.long (q0 + ((p1.toInt64 + (1 : Int64)) * (-7046029254386353131 : Int64)))), .second, .val (.long (XT.ushrL (own_mix (q0 + ((p1.toInt64 + (1 : Int64)) * (-7046029254386353131 : Int64)))) (1 : Int32))), .second, .val (.long (own_scaled (XT.ushrL (own_mix (q0 + ((p1.toInt64 + (1 : Int64)) * (-7046029254386353131 : Int64)))) (1 : Int32)) (own_max (1 : Int64) z24))), .second, .val (.long (own_index q0 p1 (own_max (1 : Int64) z24))), .second] d0_69 rfl ?_
    refine go_lload B d0_71 rfl ?_
    refine go_lconst B (u := (0 : Int64)) d0_73 rfl ?_
    refine go_lcmp B d0_74 ?_
    refine go_liflt B d0_75 (fun c75 => ?_) (fun c75 => ?_)
    · exact absurd c75 (own_fin3 q0 p1 z24 hJ25).1
    refine go_lload B d0_78 rfl ?_
    refine go_lload B d0_80 rfl ?_
    refine go_lcmp B d0_82 ?_
    refine go_lifge B d0_83 (fun c83 => ?_) (fun c83 => ?_)
    · exact absurd (own_fin3 q0 p1 z24 hJ25).2.1 c83
    refine go_lload B d0_86 rfl ?_
    refine go_lload B d0_88 rfl ?_
    refine go_lcmp B d0_90 ?_
    refine go_lifne B d0_91 (fun c91 => ?_) (fun c91 => ?_)
    · exact absurd (own_fin3 q0 p1 z24 hJ25).2.2 c91
    refine go_iconst B (x := (1 : Int32)) d0_94 rfl ?_
    refine go_goto B d0_95 ?_
    refine go_zreturn B (y := (1 : Int32)) d0_99 (by decide) (by decide) (by decide) ?_
    exact rfl
  refine go_ifeq B d0_4 (fun c4 => ?_) (fun c4 => ?_)
  · skip
    refine go_lload_n B d0_17 rfl ?_
    refine go_ldc2J B d0_18 (w_0 H) ?_
    refine go_land B d0_21 ?_
    refine go_lstore B #[.val (.long q0), .second, .val (.int p1), .val (.long q2), .second, .val (.int p3), .val (.long (q2 &&& (4611686018427387903 : Int64))), .second, .unset, .unset, .unset, .unset, .unset, .unset, .unset, .unset] d0_22 rfl ?_
    exact J25 _ (own_and_lt _ _ (by decide))
  · skip
    refine go_lload_n B d0_7 rfl ?_
    refine go_ldc2J B d0_8 (w_26 H) ?_
    refine go_land B d0_11 ?_
    refine go_lstore B #[.val (.long q0), .second, .val (.int p1), .val (.long q2), .second, .val (.int p3), .val (.long (q2 &&& (65535 : Int64))), .second, .unset, .unset, .unset, .unset, .unset, .unset, .unset, .unset] d0_12 rfl ?_
    refine go_goto B d0_14 ?_
    exact J25 _ (own_and_lt _ _ (by decide))
set_option maxRecDepth 65536 in
set_option maxHeartbeats 40000000 in
theorem comes_1 {Post : Tables → Env → Array Value → State → Outcome → State → Prop} (hpost : ∀ tb e args s v u, (limb_1_1.after args s (.returned v) u = true ∧ limb_1_2.after args s (.returned v) u = true ∧ True) → FrameEnd s (.returned v) u (Jvm.fieldLocs frame_1_writes args s ++ Jvm.arrayLocs frame_1_arrays args s ++ Jvm.staticLocs frame_1_statics s) 0 0 → Post tb e args s (.returned v) u) :
    ArmFor flags0 classFile x code maxLocals ret World_1 tables_1 room_1 Calls_1 rest_1 Pre_1 Post := by
  intro l hfl _ _ p e ha hc hk s m args below hf hA hF happ hP
  obtain ⟨hcalls, hrest, hpre⟩ := hP
  obtain ⟨-, -, -, hnamed, -, -, -, hat⟩ := (Spec.applies_iff hf).mp happ
  obtain ⟨hg, hn⟩ := and_e (Cond.before_iff.mp (show (Jvm.Cond.and given_1 narrow_1).before args s = true from hpre))
  obtain ⟨hg0, hg1⟩ := and_e hg
  obtain ⟨hk0, hg2⟩ := and_e hg1
  obtain ⟨hk1, hg3⟩ := and_e hg2
  obtain ⟨hk2, hg4⟩ := and_e hg3
  have hk3 := hg4
  obtain ⟨w0, w1, w2, w3, rfl⟩ : ∃ w0 w1 w2 w3 : Value, args = #[w0, w1, w2, w3] := by
    have hs : args.size = 4 := by simpa [Cond.value, given_1] using hg0
    obtain ⟨L⟩ := args
    match L, hs with
    | [w0, w1, w2, w3], _ => exact ⟨w0, w1, w2, w3, rfl⟩
  have hw : Wd _ s := fun d (hd : d ∈ tables_1) => atoms_spec (ws := Jvm.Cond.code x code maxLocals ret :: tables_1) hat d (List.mem_cons_of_mem _ hd)
  obtain ⟨i0, e0⟩ := isL_v hk0
  obtain rfl : w0 = (.long i0) := Option.some.inj e0
  obtain ⟨i1, e1⟩ := is_v hk1
  obtain rfl : w1 = (.int i1) := Option.some.inj e1
  obtain ⟨i2, e2⟩ := isL_v hk2
  obtain rfl : w2 = (.long i2) := Option.some.inj e2
  obtain ⟨i3, e3⟩ := is_v hk3
  obtain rfl : w3 = (.int i3) := Option.some.inj e3
  obtain ⟨n, o, h1, h2, h3, _, L, rfl, ⟨rfl, N⟩, hq⟩ := rm0 (l := l) hw i0 i1 i2 i3 s.heap (Nat.le_refl _)  p e ha hc hk s m _ below hf ((Spec.applies_iff_loose hf).mp happ).1 ⟨rfl, State.Warmed39.refl s, rfl⟩ trivial
  refine ⟨n, _, h1, h2, h3, hpost _ _ _ _ _ _ ⟨Cond.after_iff.mpr rfl, Cond.after_iff.mpr (eq_i res_at (Term.int_eval (1)) rfl), trivial⟩ ⟨hq.1, hq.2.1, (hq.2.2.sift fun y hy => Or.inr (N y hy)).mono (by decide) (by decide)⟩⟩
theorem main_1_1 : Claimed_1_1 := comes_1 fun _ _ _ _ _ _ h hF => ⟨h.1, hF⟩
theorem main_1_2 : Claimed_1_2 := comes_1 fun _ _ _ _ _ _ h hF => ⟨h.2.1, hF⟩
end Jvm.Pilot.@@N@@
namespace Jvm.Pilot.@@N@@
open Jvm Jvm.ClassFile Sem Op Lib Jvm.Free Jvm.Stand Jvm.Pilot.@@N@@.Jvm.D
/-! MADE BY PROGRAM (witnessworld.py) out of the Statement's table words and the real class files: 10 classes; the members and pool entries that the words name. The judged class is class 1, her method 2. -/
namespace start1
open Jvm.ClassFile
def u (s : String) : CpInfo := .utf8 (stringToUtf16 s)
/-- a pool by its gaps: so many unusable entries, then the entry; so many at the end -/
def gap : Nat → List CpInfo → List CpInfo
  | 0, r => r
  | n + 1, r => .unusable :: gap n r
def poolList (es : List (Nat × CpInfo)) (last : Nat) : List CpInfo := es.foldr (fun e r => gap e.1 (e.2 :: r)) (gap last [])
def pool (es : List (Nat × CpInfo)) (last : Nat) : Array CpInfo := ⟨poolList es last⟩
def fileOf (pool : Array CpInfo) (this : Nat) (attrs : Array Attribute := #[]) (ms : Array MethodInfo := #[]) (fl : Nat := 33) (sup : Nat := 0) (ifs : Array Nat := #[]) (fds : Array FieldInfo := #[]) : ClassFile where
  minorVersion := 0
  majorVersion := 65
  constantPool := pool
  accessFlags := fl
  thisClass := this
  superClass := sup
  interfaces := ifs
  fields := fds
  methods := ms
  attributes := attrs
def plain (name : String) (sup : Option ClassId) : Class where
  name := name
  kind := .ordinary
  loader := none
  accessFlags := 33
  super := sup
  interfaces := #[]
  cf := none
  fields := #[]
  methods := #[]
  instanceTypes := #[]
  staticTypes := #[]
  resolved := #[]
  callSites := []
  init := .initialized
  statics := none
  mirror := none

def pool0 : Array CpInfo := pool [(5, u "<init>"), (0, u "()V"), (1, .class_ 10), (1, u "java/lang/Object")] 113

def k0m0 : Method := { name := "<init>", desc := "()V", sig := { parameters := [], returnType := none }, accessFlags := 1, code := none }
/-- java/lang/Object -/
def k0 : Class := { plain "java/lang/Object" none with
  accessFlags := 33
  interfaces := #[]
  cf := some (fileOf pool0 8 #[] #[{ accessFlags := 1, nameIndex := 5, descriptorIndex := 6, attributes := #[] }] 33 0 #[] #[])
  fields := #[]
  methods := #[k0m0]
  instanceTypes := #[]
  staticTypes := #[]
  resolved := Array.replicate 124 none
  statics := none }

def pool1 : Array CpInfo := pool [(2, .class_ 4), (1, u "java/lang/Object"), (0, u "<init>"), (0, u "()V"), (0, .class_ 8), (0, u "com/example/keys_to_bits/keystobits/KeyHashIndexPinLaw"), (0, .long 4294967295), (1, .long 65535), (1, .long 4611686018427387903), (1, .methodref 16 17), (0, .class_ 18), (0, .nameAndType 19 20), (0, u "java/lang/Math"), (0, u "max"), (0, u "(JJ)J"), (0, .class_ 22), (0, u "com/example/keys_to_bits/keystobits/KeyHash"), (0, .long 11400714819323198485), (1, .methodref 21 26), (0, .nameAndType 27 28), (0, u "mix"), (0, u "(J)J"), (0, .methodref 7 30), (0, .nameAndType 31 20), (0, u "scaled"), (0, .methodref 21 33), (0, .nameAndType 34 35), (0, u "index"), (0, u "(JIJ)J"), (0, u "M32"), (0, u "J"), (3, u "law"), (0, u "(JIJI)Z")] 3

def k1m0 : Method := { name := "<init>", desc := "()V", sig := { parameters := [], returnType := none }, accessFlags := 2, code := none }
def k1c1 : Code := { maxStack := 6, maxLocals := 26, code := method_2_code, exceptionTable := #[], attributes := #[] }
def k1m1 : Method := { name := "scaled", desc := "(JJ)J", sig := { parameters := [.long, .long], returnType := some .long }, accessFlags := 10, code := some k1c1 }
def k1c2 : Code := { maxStack := 6, maxLocals := 16, code := code, exceptionTable := #[], attributes := #[] }
def k1m2 : Method := { name := "law", desc := "(JIJI)Z", sig := { parameters := [.long, .int, .long, .int], returnType := some .boolean }, accessFlags := 9, code := some k1c2 }
/-- com/example/keys_to_bits/keystobits/KeyHashIndexPinLaw -/
def k1 : Class := { plain "com/example/keys_to_bits/keystobits/KeyHashIndexPinLaw" (some 0) with
  accessFlags := 49
  interfaces := #[]
  cf := some (fileOf pool1 7 #[] #[{ accessFlags := 2, nameIndex := 5, descriptorIndex := 6, attributes := #[] }, { accessFlags := 10, nameIndex := 31, descriptorIndex := 20, attributes := #[] }, { accessFlags := 9, nameIndex := 41, descriptorIndex := 42, attributes := #[] }] 49 2 #[] #[{ accessFlags := 26, nameIndex := 36, descriptorIndex := 37, attributes := #[] }])
  fields := #[{ name := "M32", type := .long, accessFlags := 26, slot := 0, constantValue := 0 }]
  methods := #[k1m0, k1m1, k1m2]
  instanceTypes := #[]
  staticTypes := #[.long]
  resolved := Array.replicate 46 none
  statics := none }

def pool2 : Array CpInfo := pool [(1, .class_ 2), (0, u "java/lang/Math"), (1, .class_ 6), (1, u "java/lang/Object"), (0, u "<init>"), (0, u "()V"), (89, .class_ 100), (1, u "java/lang/Math$RandomNumberGeneratorHolder"), (20, u "(JJ)J"), (16, .long 4294967295), (3, u "multiplyHigh"), (29, u "negativeZeroFloatBits"), (0, u "J"), (2, u "negativeZeroDoubleBits"), (21, u "max"), (46, u "$assertionsDisabled"), (0, u "Z"), (91, u "twoToTheDoubleScaleDown"), (0, u "D"), (4, u "twoToTheDoubleScaleUp"), (9, u "E"), (3, u "PI"), (2, u "TAU"), (2, u "DEGREES_TO_RADIANS"), (0, u "RADIANS_TO_DEGREES")] 94

def k2m0 : Method := { name := "<init>", desc := "()V", sig := { parameters := [], returnType := none }, accessFlags := 2, code := none }
def k2c1 : Code := { maxStack := 6, maxLocals := 20, code := jdk_29_method_45_code, exceptionTable := #[], attributes := #[] }
def k2m1 : Method := { name := "multiplyHigh", desc := "(JJ)J", sig := { parameters := [.long, .long], returnType := some .long }, accessFlags := 9, code := some k2c1 }
def k2c2 : Code := { maxStack := 4, maxLocals := 4, code := jdk_29_method_66_code, exceptionTable := #[], attributes := #[] }
def k2m2 : Method := { name := "max", desc := "(JJ)J", sig := { parameters := [.long, .long], returnType := some .long }, accessFlags := 9, code := some k2c2 }
/-- java/lang/Math -/
def k2 : Class := { plain "java/lang/Math" (some 0) with
  accessFlags := 49
  interfaces := #[]
  cf := some (fileOf pool2 1 #[.nestMembers #[98]] #[{ accessFlags := 2, nameIndex := 7, descriptorIndex := 8, attributes := #[] }, { accessFlags := 9, nameIndex := 142, descriptorIndex := 121, attributes := #[] }, { accessFlags := 9, nameIndex := 198, descriptorIndex := 121, attributes := #[] }] 49 4 #[] #[{ accessFlags := 25, nameIndex := 354, descriptorIndex := 339, attributes := #[] }, { accessFlags := 25, nameIndex := 358, descriptorIndex := 339, attributes := #[] }, { accessFlags := 25, nameIndex := 361, descriptorIndex := 339, attributes := #[] }, { accessFlags := 26, nameIndex := 364, descriptorIndex := 339, attributes := #[] }, { accessFlags := 26, nameIndex := 365, descriptorIndex := 339, attributes := #[] }, { accessFlags := 26, nameIndex := 172, descriptorIndex := 173, attributes := #[] }, { accessFlags := 26, nameIndex := 176, descriptorIndex := 173, attributes := #[] }, { accessFlags := 8, nameIndex := 344, descriptorIndex := 339, attributes := #[] }, { accessFlags := 8, nameIndex := 338, descriptorIndex := 339, attributes := #[] }, { accessFlags := 4120, nameIndex := 245, descriptorIndex := 246, attributes := #[] }])
  fields := #[{ name := "E", type := .double, accessFlags := 25, slot := 0, constantValue := 0 }, { name := "PI", type := .double, accessFlags := 25, slot := 1, constantValue := 0 }, { name := "TAU", type := .double, accessFlags := 25, slot := 2, constantValue := 0 }, { name := "DEGREES_TO_RADIANS", type := .double, accessFlags := 26, slot := 3, constantValue := 0 }, { name := "RADIANS_TO_DEGREES", type := .double, accessFlags := 26, slot := 4, constantValue := 0 }, { name := "negativeZeroFloatBits", type := .long, accessFlags := 26, slot := 5, constantValue := 0 }, { name := "negativeZeroDoubleBits", type := .long, accessFlags := 26, slot := 6, constantValue := 0 }, { name := "twoToTheDoubleScaleUp", type := .double, accessFlags := 8, slot := 7, constantValue := 0 }, { name := "twoToTheDoubleScaleDown", type := .double, accessFlags := 8, slot := 8, constantValue := 0 }, { name := "$assertionsDisabled", type := .boolean, accessFlags := 4120, slot := 9, constantValue := 0 }]
  methods := #[k2m0, k2m1, k2m2]
  instanceTypes := #[]
  staticTypes := #[.double, .double, .double, .double, .double, .long, .long, .double, .double, .boolean]
  resolved := Array.replicate 460 none
  statics := none }

def pool3 : Array CpInfo := pool [(2, .class_ 4), (1, u "java/lang/Object"), (0, u "<init>"), (0, u "()V"), (1, .class_ 10), (1, u "com/example/keys_to_bits/keystobits/KeyHash"), (4, u "LITTLE_ENDIAN_LONGS"), (0, u "Ljava/lang/invoke/VarHandle;"), (9, u "(JJ)J"), (8, u "(J)J"), (0, .long 11400714819323198485), (1, .methodref 8 39), (0, .nameAndType 40 35), (0, u "mix"), (0, .methodref 42 43), (0, .class_ 44), (0, .nameAndType 45 26), (0, u "java/lang/Math"), (0, u "multiplyHigh"), (12, .long 13787848793156543929), (1, .long 10723151780598845931), (15, u "SEED"), (0, u "J"), (1, u "LENGTH_FACTOR"), (0, u "BLOCK_FACTOR"), (0, u "STATE_FACTOR"), (0, u "STEP"), (5, u "index"), (0, u "(JIJ)J")] 3

def k3m0 : Method := { name := "<init>", desc := "()V", sig := { parameters := [], returnType := none }, accessFlags := 2, code := none }
def k3c1 : Code := { maxStack := 6, maxLocals := 7, code := prog_11_method_4_code, exceptionTable := #[], attributes := #[] }
def k3m1 : Method := { name := "index", desc := "(JIJ)J", sig := { parameters := [.long, .int, .long], returnType := some .long }, accessFlags := 8, code := some k3c1 }
def k3c2 : Code := { maxStack := 5, maxLocals := 4, code := prog_11_method_8_code, exceptionTable := #[], attributes := #[] }
def k3m2 : Method := { name := "mix", desc := "(J)J", sig := { parameters := [.long], returnType := some .long }, accessFlags := 8, code := some k3c2 }
/-- com/example/keys_to_bits/keystobits/KeyHash -/
def k3 : Class := { plain "com/example/keys_to_bits/keystobits/KeyHash" (some 0) with
  accessFlags := 32
  interfaces := #[]
  cf := some (fileOf pool3 8 #[] #[{ accessFlags := 2, nameIndex := 5, descriptorIndex := 6, attributes := #[] }, { accessFlags := 8, nameIndex := 88, descriptorIndex := 89, attributes := #[] }, { accessFlags := 8, nameIndex := 40, descriptorIndex := 35, attributes := #[] }] 32 2 #[] #[{ accessFlags := 26, nameIndex := 15, descriptorIndex := 16, attributes := #[] }, { accessFlags := 26, nameIndex := 76, descriptorIndex := 77, attributes := #[] }, { accessFlags := 26, nameIndex := 79, descriptorIndex := 77, attributes := #[] }, { accessFlags := 26, nameIndex := 80, descriptorIndex := 77, attributes := #[] }, { accessFlags := 26, nameIndex := 81, descriptorIndex := 77, attributes := #[] }, { accessFlags := 24, nameIndex := 82, descriptorIndex := 77, attributes := #[] }])
  fields := #[{ name := "LITTLE_ENDIAN_LONGS", type := (.object "java/lang/invoke/VarHandle"), accessFlags := 26, slot := 0, constantValue := 0 }, { name := "SEED", type := .long, accessFlags := 26, slot := 1, constantValue := 0 }, { name := "LENGTH_FACTOR", type := .long, accessFlags := 26, slot := 2, constantValue := 0 }, { name := "BLOCK_FACTOR", type := .long, accessFlags := 26, slot := 3, constantValue := 0 }, { name := "STATE_FACTOR", type := .long, accessFlags := 26, slot := 4, constantValue := 0 }, { name := "STEP", type := .long, accessFlags := 24, slot := 5, constantValue := 0 }]
  methods := #[k3m0, k3m1, k3m2]
  instanceTypes := #[]
  staticTypes := #[(.object "java/lang/invoke/VarHandle"), .long, .long, .long, .long, .long]
  resolved := Array.replicate 93 none
  statics := none }

def pool4 : Array CpInfo := pool [(1, u "java/lang/Cloneable"), (0, .class_ 1), (0, u "java/lang/Object"), (0, .class_ 3)] 3

/-- java/lang/Cloneable -/
def k4 : Class := { plain "java/lang/Cloneable" (some 0) with
  accessFlags := 1537
  interfaces := #[]
  cf := some (fileOf pool4 2 #[] #[] 1537 4 #[] #[])
  fields := #[]
  methods := #[]
  instanceTypes := #[]
  staticTypes := #[]
  resolved := Array.replicate 8 none
  statics := none }

def pool5 : Array CpInfo := pool [(1, u "java/io/Serializable"), (0, .class_ 1), (0, u "java/lang/Object"), (0, .class_ 3)] 3

/-- java/io/Serializable -/
def k5 : Class := { plain "java/io/Serializable" (some 0) with
  accessFlags := 1537
  interfaces := #[]
  cf := some (fileOf pool5 2 #[] #[] 1537 4 #[] #[])
  fields := #[]
  methods := #[]
  instanceTypes := #[]
  staticTypes := #[]
  resolved := Array.replicate 8 none
  statics := none }

/-- the primitive byte -/
def k6 : Class := { plain "byte" none with kind := .primitive 'B', accessFlags := 0x411 }
/-- [B -/
def k7 : Class := { plain "[B" (some 0) with kind := .array 6 .byte, interfaces := #[4, 5], accessFlags := 1041 }

/-- the primitive int -/
def k8 : Class := { plain "int" none with kind := .primitive 'I', accessFlags := 0x411 }
/-- [I -/
def k9 : Class := { plain "[I" (some 0) with kind := .array 8 .int, interfaces := #[4, 5], accessFlags := 1041 }

def heap : Heap := #[]
def classes : Array Class := #[k0, k1, k2, k3, k4, k5, k6, k7, k8, k9]
def interned : List (Array UInt16 × Addr) := []
def slotsUsed : Nat := 0
def theMethod : MethodId := ⟨1, 2⟩
def args0 : Array Value := #[.long 5, .int 6, .long 7, .int 8]
def aboutOver (below : List Frame) : State where
  vm := { classes := classes, interned := interned.toArray }
  heap := heap
  slotsUsed := slotsUsed
  threads := #[{ frames := .invoking theMethod args0 :: below }]
def below0 : List Frame := [.native { method := ⟨0, 0⟩, args := #[] }]
def about1 : State := aboutOver below0
def p0 : Program := .bare "" "" ""
def e0 : Env := launch0.env 0 0 0
theorem w_frames : about1.frames = Frame.invoking theMethod args0 :: below0 := rfl
set_option maxRecDepth 65536 in
theorem w_args : argsFit about1.vm theMethod args0 = true := by decide +kernel
set_option maxRecDepth 65536 in
theorem w_heap : heapFits about1 = true := by decide +kernel
set_option maxRecDepth 65536 in
theorem w_runnable : about1.curStatus? = some .runnable := by decide +kernel
set_option maxRecDepth 65536 in
theorem w_alone : about1.alone = true := by decide +kernel
set_option maxRecDepth 65536 in
theorem w_named : about1.methodNamed? x = some theMethod := by decide +kernel
set_option maxRecDepth 65536 in
theorem w_hears : about1.hears theMethod below0 = true := by decide +kernel
set_option maxRecDepth 65536 in
theorem w_ripe : about1.ripe theMethod args0 below0 = true := by decide +kernel
theorem w_running : about1.status = .running := rfl
set_option maxRecDepth 65536 in
theorem w_room : about1.hasRoom e0.platform room_1 = true :=
  launch0.hasRoom_least _ room_1 (by decide +kernel) (by decide +kernel) (by decide +kernel) (by decide +kernel) (by decide +kernel) (by decide +kernel)
theorem allAtoms_all (ts : List Jvm.Cond) (a : Array Jvm.Value) (st : Jvm.State) : (allAtoms ts).before a st = ts.all (fun c => c.before a st) := by
  induction ts with
  | nil => rfl
  | cons c t ih =>
    show (Jvm.Cond.and c (allAtoms t)).before a st = _
    rw [Jvm.Cond.before_and, ih, List.all_cons]
def words1 : List Jvm.Cond := Jvm.Cond.code x code maxLocals ret :: tables_1
/-- a 'code' word, met by the world's own term for the bytes: nothing is compared byte by byte -/
theorem code_word {y : MethodName} {bytes : ByteArray} {mx : Nat} {rt : Option FieldType} {a : Array Value} {s : State} {m : MethodId} {meth : Method} {c : Code} (h1 : s.methodNamed? y = some m) (h2 : s.vm.method? m = some meth) (h3 : meth.code = some c) (h4 : c.code = bytes)
    (h5 : (c.maxLocals == mx && c.exceptionTable.isEmpty && decide (c.maxStack ≤ mostOperands) && decide (meth.sig.returnType = rt) && !meth.locks && decide (parseMethodDescriptor y.desc = some meth.sig)) = true) : (Jvm.Cond.code y bytes mx rt).before a s = true := by
  simp only [Bool.and_eq_true, beq_iff_eq, Bool.not_eq_true', decide_eq_true_eq] at h5
  obtain ⟨⟨⟨⟨⟨g1, g2⟩, g3⟩, g4⟩, g5⟩, g6⟩ := h5
  simp [Cond.before, Cond.holds, Cond.value, h1, h2, h3, h4, g1, g2, g3, g4, g5, g6]
def isCode : Jvm.Cond → Bool
  | .code _ _ _ _ => true
  | _ => false
theorem all_split {L : List Jvm.Cond} {P : Jvm.Cond → Bool} (h1 : L.all (fun c => isCode c || P c) = true) (h2 : ∀ c ∈ L.filter isCode, P c = true) : L.all P = true := by
  refine List.all_eq_true.mpr fun c hc => ?_
  have h := List.all_eq_true.mp h1 c hc
  rcases Bool.eq_false_or_eq_true (isCode c) with hi | hi
  · exact h2 c (List.mem_filter.mpr ⟨hc, hi⟩)
  · simpa [hi] using h
set_option maxRecDepth 65536 in
theorem w_c0 : (Jvm.Cond.code x code maxLocals ret).before args0 about1 = true := code_word (m := ⟨1, 2⟩) (meth := k1m2) (c := k1c2) (by decide +kernel) rfl rfl rfl (by decide +kernel)
set_option maxRecDepth 65536 in
theorem w_c1 : (Jvm.Cond.code ({ cls := "java/lang/Math", name := "max", desc := "(JJ)J" } : Jvm.MethodName) jdk_29_method_66_code (4 : Nat) (Option.some Jvm.ClassFile.FieldType.long)).before args0 about1 = true := code_word (m := ⟨2, 2⟩) (meth := k2m2) (c := k2c2) (by decide +kernel) rfl rfl rfl (by decide +kernel)
set_option maxRecDepth 65536 in
theorem w_c2 : (Jvm.Cond.code ({ cls := "com/example/keys_to_bits/keystobits/KeyHash", name := "mix", desc := "(J)J" } : Jvm.MethodName) prog_11_method_8_code (4 : Nat) (Option.some Jvm.ClassFile.FieldType.long)).before args0 about1 = true := code_word (m := ⟨3, 2⟩) (meth := k3m2) (c := k3c2) (by decide +kernel) rfl rfl rfl (by decide +kernel)
set_option maxRecDepth 65536 in
theorem w_c3 : (Jvm.Cond.code ({ cls := "com/example/keys_to_bits/keystobits/KeyHashIndexPinLaw", name := "scaled", desc := "(JJ)J" } : Jvm.MethodName) method_2_code (26 : Nat) (Option.some Jvm.ClassFile.FieldType.long)).before args0 about1 = true := code_word (m := ⟨1, 1⟩) (meth := k1m1) (c := k1c1) (by decide +kernel) rfl rfl rfl (by decide +kernel)
set_option maxRecDepth 65536 in
theorem w_c4 : (Jvm.Cond.code ({ cls := "com/example/keys_to_bits/keystobits/KeyHash", name := "index", desc := "(JIJ)J" } : Jvm.MethodName) prog_11_method_4_code (7 : Nat) (Option.some Jvm.ClassFile.FieldType.long)).before args0 about1 = true := code_word (m := ⟨3, 1⟩) (meth := k3m1) (c := k3c1) (by decide +kernel) rfl rfl rfl (by decide +kernel)
set_option maxRecDepth 65536 in
theorem w_c5 : (Jvm.Cond.code ({ cls := "java/lang/Math", name := "multiplyHigh", desc := "(JJ)J" } : Jvm.MethodName) jdk_29_method_45_code (20 : Nat) (Option.some Jvm.ClassFile.FieldType.long)).before args0 about1 = true := code_word (m := ⟨2, 1⟩) (meth := k2m1) (c := k2c1) (by decide +kernel) rfl rfl rfl (by decide +kernel)
def codes1 : List Jvm.Cond := [Jvm.Cond.code x code maxLocals ret, Jvm.Cond.code ({ cls := "java/lang/Math", name := "max", desc := "(JJ)J" } : Jvm.MethodName) jdk_29_method_66_code (4 : Nat) (Option.some Jvm.ClassFile.FieldType.long), Jvm.Cond.code ({ cls := "com/example/keys_to_bits/keystobits/KeyHash", name := "mix", desc := "(J)J" } : Jvm.MethodName) prog_11_method_8_code (4 : Nat) (Option.some Jvm.ClassFile.FieldType.long), Jvm.Cond.code ({ cls := "com/example/keys_to_bits/keystobits/KeyHashIndexPinLaw", name := "scaled", desc := "(JJ)J" } : Jvm.MethodName) method_2_code (26 : Nat) (Option.some Jvm.ClassFile.FieldType.long), Jvm.Cond.code ({ cls := "com/example/keys_to_bits/keystobits/KeyHash", name := "index", desc := "(JIJ)J" } : Jvm.MethodName) prog_11_method_4_code (7 : Nat) (Option.some Jvm.ClassFile.FieldType.long), Jvm.Cond.code ({ cls := "java/lang/Math", name := "multiplyHigh", desc := "(JJ)J" } : Jvm.MethodName) jdk_29_method_45_code (20 : Nat) (Option.some Jvm.ClassFile.FieldType.long)]
set_option maxRecDepth 65536 in
theorem codes_eq : words1.filter isCode = codes1 := rfl
theorem w_codes : ∀ c ∈ words1.filter isCode, c.before args0 about1 = true := by
  rw [codes_eq]
  intro c hc
  simp only [codes1, List.mem_cons, List.not_mem_nil, or_false] at hc
  rcases hc with rfl | rfl | rfl | rfl | rfl | rfl
  · exact w_c0
  · exact w_c1
  · exact w_c2
  · exact w_c3
  · exact w_c4
  · exact w_c5
set_option maxRecDepth 65536 in
theorem w_t1 : (words1.take 24).all (fun c => isCode c || c.before args0 about1) = true := by decide +kernel
set_option maxRecDepth 65536 in
theorem w_t2 : (words1.drop 24).all (fun c => isCode c || c.before args0 about1) = true := by decide +kernel
theorem w_tables : (allAtoms (Jvm.Cond.code x code maxLocals ret :: tables_1)).before args0 about1 = true := by
  rw [allAtoms_all]
  show words1.all (fun c => c.before args0 about1) = true
  refine all_split ?_ w_codes
  rw [← List.take_append_drop 24 words1, List.all_append, w_t1, w_t2]
  rfl
set_option maxRecDepth 65536 in
theorem w_case : (Jvm.Cond.and given_1 narrow_1).before args0 about1 = true := by decide +kernel
theorem w_applies : (headSpec (Jvm.Cond.code x code maxLocals ret :: tables_1) room_1).applies x e0.platform about1 = true :=
  (Spec.applies_iff w_frames).mpr ⟨w_running, w_runnable, w_alone, w_named, w_hears, w_ripe, w_room, w_tables⟩
theorem atStart : AtStart classFile x code maxLocals ret World_1 tables_1 room_1 Calls_1 rest_1 Pre_1 launch0 p0 e0 about1 theMethod args0 below0 :=
  ⟨lists_1, trivial, launch0.admits_env _ _ _, launch0.least_env, fairChoices_fair.cas, fairChoices_fair.clock, w_frames, w_args, w_heap, w_applies, trivial, trivial, w_case⟩
end start1
theorem witness_1 : WitnessClaimed_1 := ⟨start1.p0, start1.e0, start1.about1, start1.theMethod, start1.args0, start1.below0, start1.atStart⟩
end Jvm.Pilot.@@N@@
