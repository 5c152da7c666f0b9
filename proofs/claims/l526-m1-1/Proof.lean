import JvmDerived
import JvmDerived.Pilot.@@N@@Statement
import JvmDerived.Pilot.@@N@@Code
set_option linter.unusedVariables false
set_option linter.unusedSimpArgs false
namespace Jvm.OwnGo
open Sem ClassFile Op Lib Jvm.Stand Jvm.Free Jvm.LawKit Jvm.RoadKit
/-- the context of one walk: program, launch, environment, room, start, method, arguments, frames below, the method's record, its code, the tables' state, the words' arguments, the first new address -/
abbrev Cx : Type := Program × Launch × Env × Room × State × MethodId × Array Value × List Frame × Method × Code × State × Array Value × Nat × (Outcome → State → List Loc → Prop) × Nat × State
abbrev Cx.p (κ : Cx) : Program := κ.1
abbrev Cx.l (κ : Cx) : Launch := κ.2.1
abbrev Cx.e (κ : Cx) : Env := κ.2.2.1
abbrev Cx.R (κ : Cx) : Room := κ.2.2.2.1
abbrev Cx.s (κ : Cx) : State := κ.2.2.2.2.1
abbrev Cx.m (κ : Cx) : MethodId := κ.2.2.2.2.2.1
abbrev Cx.args (κ : Cx) : Array Value := κ.2.2.2.2.2.2.1
abbrev Cx.below (κ : Cx) : List Frame := κ.2.2.2.2.2.2.2.1
abbrev Cx.meth (κ : Cx) : Method := κ.2.2.2.2.2.2.2.2.1
abbrev Cx.c (κ : Cx) : Code := κ.2.2.2.2.2.2.2.2.2.1
abbrev Cx.Z (κ : Cx) : State := κ.2.2.2.2.2.2.2.2.2.2.1
abbrev Cx.a0 (κ : Cx) : Array Value := κ.2.2.2.2.2.2.2.2.2.2.2.1
abbrev Cx.n0 (κ : Cx) : Nat := κ.2.2.2.2.2.2.2.2.2.2.2.2.1
abbrev Cx.E (κ : Cx) : Outcome → State → List Loc → Prop := κ.2.2.2.2.2.2.2.2.2.2.2.2.2.1
abbrev Cx.kmin (κ : Cx) : Nat := κ.2.2.2.2.2.2.2.2.2.2.2.2.2.2.1
abbrev Cx.s0 (κ : Cx) : State := κ.2.2.2.2.2.2.2.2.2.2.2.2.2.2.2
/-- what is known of the context throughout the walk of a body -/
def OkK (km : Nat) (κ : Cx) (l : Launch) (Z : State) (a0 : Array Value) (n0 : Nat) (R : Room) (own nm : String) (bytes : ByteArray) (maxL : Nat) (ret : Option FieldType) : Prop :=
  κ.p.tables.exec = Jvm.exec ∧ κ.c.code = bytes ∧ κ.c.maxLocals = maxL ∧ κ.Z.Warmed39 κ.s.vm ∧ κ.s.vm.findClass own = some κ.m.cls ∧ κ.meth.sig.returnType = ret ∧ κ.meth.locks = false ∧ κ.meth.name = nm ∧ κ.l = l ∧ κ.Z = Z ∧ κ.a0 = a0 ∧ κ.n0 = n0 ∧ κ.R = R ∧ κ.kmin = km ∧ (∀ o t L, FrameEnd κ.s o t L κ.R.cells κ.R.slots → κ.kmin ≤ t.heap.size → κ.E o t L)
abbrev Ok (κ : Cx) (l : Launch) (Z : State) (a0 : Array Value) (n0 : Nat) (R : Room) (own nm : String) (bytes : ByteArray) (maxL : Nat) (ret : Option FieldType) : Prop := OkK 0 κ l Z a0 n0 R own nm bytes maxL ret
section B
variable {km : Nat} {κ : Cx} {l : Launch} {Z : State} {a0 : Array Value} {n0 : Nat} {R : Room} {own nm : String} {bytes : ByteArray} {maxL : Nat} {ret : Option FieldType}
theorem OkK.exec (B : OkK km κ l Z a0 n0 R own nm bytes maxL ret) : κ.p.tables.exec = Jvm.exec := B.1
theorem OkK.byt (B : OkK km κ l Z a0 n0 R own nm bytes maxL ret) : κ.c.code = bytes := B.2.1
theorem OkK.mxl (B : OkK km κ l Z a0 n0 R own nm bytes maxL ret) : κ.c.maxLocals = maxL := B.2.2.1
theorem OkK.warm (B : OkK km κ l Z a0 n0 R own nm bytes maxL ret) : Z.Warmed39 κ.s.vm := B.2.2.2.2.2.2.2.2.2.1 ▸ B.2.2.2.1
theorem OkK.hown (B : OkK km κ l Z a0 n0 R own nm bytes maxL ret) : κ.s.vm.findClass own = some κ.m.cls := B.2.2.2.2.1
theorem OkK.rets (B : OkK km κ l Z a0 n0 R own nm bytes maxL ret) : κ.meth.sig.returnType = ret := B.2.2.2.2.2.1
theorem OkK.nolock (B : OkK km κ l Z a0 n0 R own nm bytes maxL ret) : κ.meth.locks = false := B.2.2.2.2.2.2.1
theorem OkK.name (B : OkK km κ l Z a0 n0 R own nm bytes maxL ret) : κ.meth.name = nm := B.2.2.2.2.2.2.2.1
theorem OkK.hl (B : OkK km κ l Z a0 n0 R own nm bytes maxL ret) : κ.l = l := B.2.2.2.2.2.2.2.2.1
theorem OkK.hn (B : OkK km κ l Z a0 n0 R own nm bytes maxL ret) : κ.n0 = n0 := B.2.2.2.2.2.2.2.2.2.2.2.1
theorem OkK.room (B : OkK km κ l Z a0 n0 R own nm bytes maxL ret) : κ.R = R := B.2.2.2.2.2.2.2.2.2.2.2.2.1
theorem OkK.hkm (B : OkK km κ l Z a0 n0 R own nm bytes maxL ret) : κ.kmin = km := B.2.2.2.2.2.2.2.2.2.2.2.2.2.1
theorem OkK.hE (B : OkK km κ l Z a0 n0 R own nm bytes maxL ret) : ∀ o t L, FrameEnd κ.s o t L κ.R.cells κ.R.slots → κ.kmin ≤ t.heap.size → κ.E o t L := B.2.2.2.2.2.2.2.2.2.2.2.2.2.2
end B
/-- FROM HERE THE RUN ENDS AS Q SAYS: heap h, k cells and n slots made so far, the frame at pc with locals L and operands st -/
def Go (κ : Cx) (Q : Option Value → Heap → Prop) (h : Heap) (k n pc : Nat) (L : Array Slot) (st : List Value) : Prop :=
  ∀ (T : State) (locs : List Loc), Stand κ.p κ.l κ.e κ.R κ.s κ.m κ.args κ.below κ.meth κ.c T locs k n → Fr κ.n0 locs → T.heap = h →
    ∃ t o, Steps κ.p.tables κ.e κ.below (T.setTop (mkF κ.m pc L st)) t ∧ t.status = .running ∧ Ended t κ.below o ∧ ∃ v L', o = .returned v ∧ (Q v t.heap ∧ Fr κ.n0 L') ∧ κ.E o t L'
/-- a decode fact with the next pc -/
def Dc (bytes : ByteArray) (pc : Nat) (i : Instr) (len pc' : Nat) : Prop := decode bytes pc = .ok (i, len) ∧ pc + len = pc'
/-- a branch's decode fact: the pc behind it, the pc that it goes to -/
def Db (bytes : ByteArray) (pc : Nat) (i : Instr) (o : Int) (pc1 pc2 : Nat) : Prop := decode bytes pc = .ok (i, 3) ∧ pc + 3 = pc1 ∧ (pc : Int) + o = (pc2 : Int)
/-- a body's contract: with these arguments at this heap it ends as Q says -/
def Ct (l : Launch) (Z : State) (n0 : Nat) (y : MethodName) (bytes : ByteArray) (maxL : Nat) (ret : Option FieldType) (ws : List Jvm.Cond) (rm : Room) (as' : Array Value) (h0 : Heap) (Q : Option Value → Heap → Prop) : Prop :=
  MetFree l y (head1 (Jvm.Cond.code y bytes maxL ret :: ws) rm) (fun a U => a = as' ∧ Z.Warmed39 U.vm ∧ U.heap = h0) (fun _ _ _ _ _ => True) (fun _ U o U' => ∃ v L, o = .returned v ∧ (Q v U'.heap ∧ Fr n0 L) ∧ FrameEnd U o U' L rm.cells rm.slots)
theorem Ct.of {l : Launch} {Z : State} {a0 : Array Value} {n0 : Nat} {y : MethodName} {bytes : ByteArray} {maxL : Nat} {ret : Option FieldType} {ws : List Jvm.Cond} {rm : Room} {as' : Array Value} {h0 : Heap} {Q : Option Value → Heap → Prop} {L0 : Array Slot}
    (hp : plainFor y = true) (hf : ∀ m : MethodId, entryFrame m as' maxL = mkF m 0 L0 [])
    (body : ∀ κ : Cx, Ok κ l Z a0 n0 rm y.cls y.name bytes maxL ret → Go κ Q h0 0 0 0 L0 []) : Ct l Z n0 y bytes maxL ret ws rm as' h0 Q := by
  refine MetFree.of_bodySF hp hisR ?_
  intro p e s m args below meth c s₁ Bd hml0 hP hK
  obtain ⟨rfl, hZ, hh⟩ := hP
  have hown : s.vm.findClass y.cls = some m.cls := findClass_of_methodNamed Bd.named
  have hnm := (name_of_methodNamed Bd.named Bd.method).1
  have X0 : Stand p l e rm s m args below meth c s₁ [] 0 0 := Stand.of_body Bd
  have e0 : s₁.heap = h0 := by rw [← hh, Bd.state]; rfl
  have q := body (p, l, e, rm, s, m, args, below, meth, c, Z, a0, n0, fun o t L => FrameEnd s o t L rm.cells rm.slots, 0, s) ⟨Bd.exec, Bd.bytes, hml0, hZ, hown, Bd.returns, Bd.notSynchronized, hnm, rfl, rfl, rfl, rfl, rfl, rfl, fun _ _ _ q _ => q⟩ s₁ [] X0 (Fr.nil n0) e0
  obtain ⟨t, o, h1, h2, h3, h4⟩ := q
  exact ⟨t, o, castTop (hf m) h1, h2, h3, h4⟩
section G
variable {km : Nat} {κ : Cx} {l : Launch} {Z : State} {a0 : Array Value} {n0 : Nat} {R : Room} {own nm : String} {bytes : ByteArray} {maxL : Nat} {ret : Option FieldType} {Q : Option Value → Heap → Prop} {h : Heap} {k n pc pc' pc1 pc2 : Nat} {L L' : Array Slot} {st st' : List Value} {o : Int} {x y : Int32} {u w : Int64} {a : Addr} {v v' : Value}
theorem go_step (hs : ∀ (T : State) (locs : List Loc), Stand κ.p κ.l κ.e κ.R κ.s κ.m κ.args κ.below κ.meth κ.c T locs k n → T.heap = h → ∀ target, Steps κ.p.tables κ.e κ.below (T.setTop (mkF κ.m pc' L' st')) target → Steps κ.p.tables κ.e κ.below (T.setTop (mkF κ.m pc L st)) target)
    (g : Go κ Q h k n pc' L' st') : Go κ Q h k n pc L st := fun T locs X N e => by
  obtain ⟨t, o, h1, h2⟩ := g T locs X N e
  exact ⟨t, o, hs T locs X e t h1, h2⟩
theorem go_cast {h' : Heap} {k' n' : Nat} (g : Go κ Q h' k' n' pc' L' st') (e1 : h' = h) (e2 : k' = k) (e3 : n' = n) (e4 : pc' = pc) (e5 : L' = L) (e6 : st' = st) : Go κ Q h k n pc L st := by
  subst e1 e2 e3 e4 e5 e6; exact g
theorem go_mono {Q' : Option Value → Heap → Prop} (g : Go κ Q h k n pc L st) (q : ∀ v h', Q v h' → Q' v h') : Go κ Q' h k n pc L st := fun T locs X N e => by
  obtain ⟨t, o, h1, h2, h3, v, L', h4, ⟨h5, h6⟩, h7⟩ := g T locs X N e
  exact ⟨t, o, h1, h2, h3, v, L', h4, ⟨q _ _ h5, h6⟩, h7⟩
theorem go_iadd (B : OkK km κ l Z a0 n0 R own nm bytes maxL ret) (hd : Dc bytes pc (.iadd) 1 pc') (g : Go κ Q h k n pc' L (.int (x + y) :: st)) : Go κ Q h k n pc L (.int y :: .int x :: st) := by
  obtain ⟨d, rfl⟩ := hd
  exact go_step (fun T locs X e t q => XS.iadd X.here B.exec rfl (hb B.byt d) rfl q) g
theorem go_isub (B : OkK km κ l Z a0 n0 R own nm bytes maxL ret) (hd : Dc bytes pc (.isub) 1 pc') (g : Go κ Q h k n pc' L (.int (x - y) :: st)) : Go κ Q h k n pc L (.int y :: .int x :: st) := by
  obtain ⟨d, rfl⟩ := hd
  exact go_step (fun T locs X e t q => XS.isub X.here B.exec rfl (hb B.byt d) rfl q) g
theorem go_iand (B : OkK km κ l Z a0 n0 R own nm bytes maxL ret) (hd : Dc bytes pc (.iand) 1 pc') (g : Go κ Q h k n pc' L (.int (x &&& y) :: st)) : Go κ Q h k n pc L (.int y :: .int x :: st) := by
  obtain ⟨d, rfl⟩ := hd
  exact go_step (fun T locs X e t q => XS.iand X.here B.exec rfl (hb B.byt d) rfl q) g
theorem go_imul (B : OkK km κ l Z a0 n0 R own nm bytes maxL ret) (hd : Dc bytes pc (.imul) 1 pc') (g : Go κ Q h k n pc' L (.int (x * y) :: st)) : Go κ Q h k n pc L (.int y :: .int x :: st) := by
  obtain ⟨d, rfl⟩ := hd
  exact go_step (fun T locs X e t q => XS.imul X.here B.exec rfl (hb B.byt d) rfl q) g
theorem go_ixor (B : OkK km κ l Z a0 n0 R own nm bytes maxL ret) (hd : Dc bytes pc (.ixor) 1 pc') (g : Go κ Q h k n pc' L (.int (x ^^^ y) :: st)) : Go κ Q h k n pc L (.int y :: .int x :: st) := by
  obtain ⟨d, rfl⟩ := hd
  exact go_step (fun T locs X e t q => XT.ixor X.here B.exec rfl (hb B.byt d) rfl q) g
theorem go_ior (B : OkK km κ l Z a0 n0 R own nm bytes maxL ret) (hd : Dc bytes pc (.ior) 1 pc') (g : Go κ Q h k n pc' L (.int (x ||| y) :: st)) : Go κ Q h k n pc L (.int y :: .int x :: st) := by
  obtain ⟨d, rfl⟩ := hd
  exact go_step (fun T locs X e t q => XT.ior X.here B.exec rfl (hb B.byt d) rfl q) g
theorem go_ishl (B : OkK km κ l Z a0 n0 R own nm bytes maxL ret) (hd : Dc bytes pc (.ishl) 1 pc') (g : Go κ Q h k n pc' L (.int (x <<< (y &&& 31)) :: st)) : Go κ Q h k n pc L (.int y :: .int x :: st) := by
  obtain ⟨d, rfl⟩ := hd
  exact go_step (fun T locs X e t q => XT.ishl X.here B.exec rfl (hb B.byt d) rfl q) g
theorem go_ishr (B : OkK km κ l Z a0 n0 R own nm bytes maxL ret) (hd : Dc bytes pc (.ishr) 1 pc') (g : Go κ Q h k n pc' L (.int (x >>> (y &&& 31)) :: st)) : Go κ Q h k n pc L (.int y :: .int x :: st) := by
  obtain ⟨d, rfl⟩ := hd
  exact go_step (fun T locs X e t q => XT.ishr X.here B.exec rfl (hb B.byt d) rfl q) g
theorem go_iushr (B : OkK km κ l Z a0 n0 R own nm bytes maxL ret) (hd : Dc bytes pc (.iushr) 1 pc') (g : Go κ Q h k n pc' L (.int (XT.ushr x y) :: st)) : Go κ Q h k n pc L (.int y :: .int x :: st) := by
  obtain ⟨d, rfl⟩ := hd
  exact go_step (fun T locs X e t q => XT.iushr X.here B.exec rfl (hb B.byt d) rfl q) g
theorem go_idiv (B : OkK km κ l Z a0 n0 R own nm bytes maxL ret) (hd : Dc bytes pc (.idiv) 1 pc') (hy : y ≠ 0) (g : Go κ Q h k n pc' L (.int (x / y) :: st)) : Go κ Q h k n pc L (.int y :: .int x :: st) := by
  obtain ⟨d, rfl⟩ := hd
  exact go_step (fun T locs X e t q => XS.idiv X.here B.exec rfl (hb B.byt d) rfl hy q) g
theorem go_irem (B : OkK km κ l Z a0 n0 R own nm bytes maxL ret) (hd : Dc bytes pc (.irem) 1 pc') (hy : y ≠ 0) (g : Go κ Q h k n pc' L (.int (x % y) :: st)) : Go κ Q h k n pc L (.int y :: .int x :: st) := by
  obtain ⟨d, rfl⟩ := hd
  exact go_step (fun T locs X e t q => iremM X B.exec rfl (hb B.byt d) rfl hy q) g
theorem go_ineg (B : OkK km κ l Z a0 n0 R own nm bytes maxL ret) (hd : Dc bytes pc (.ineg) 1 pc') (g : Go κ Q h k n pc' L (.int (-x) :: st)) : Go κ Q h k n pc L (.int x :: st) := by
  obtain ⟨d, rfl⟩ := hd
  exact go_step (fun T locs X e t q => XS.ineg X.here B.exec rfl (hb B.byt d) rfl q) g
theorem go_ladd (B : OkK km κ l Z a0 n0 R own nm bytes maxL ret) (hd : Dc bytes pc (.ladd) 1 pc') (g : Go κ Q h k n pc' L (.long (u + w) :: st)) : Go κ Q h k n pc L (.long w :: .long u :: st) := by
  obtain ⟨d, rfl⟩ := hd
  exact go_step (fun T locs X e t q => XT.ladd X.here B.exec rfl (hb B.byt d) rfl q) g
theorem go_lsub (B : OkK km κ l Z a0 n0 R own nm bytes maxL ret) (hd : Dc bytes pc (.lsub) 1 pc') (g : Go κ Q h k n pc' L (.long (u - w) :: st)) : Go κ Q h k n pc L (.long w :: .long u :: st) := by
  obtain ⟨d, rfl⟩ := hd
  exact go_step (fun T locs X e t q => XT.lsub X.here B.exec rfl (hb B.byt d) rfl q) g
theorem go_lmul (B : OkK km κ l Z a0 n0 R own nm bytes maxL ret) (hd : Dc bytes pc (.lmul) 1 pc') (g : Go κ Q h k n pc' L (.long (u * w) :: st)) : Go κ Q h k n pc L (.long w :: .long u :: st) := by
  obtain ⟨d, rfl⟩ := hd
  exact go_step (fun T locs X e t q => XT.lmul X.here B.exec rfl (hb B.byt d) rfl q) g
theorem go_land (B : OkK km κ l Z a0 n0 R own nm bytes maxL ret) (hd : Dc bytes pc (.land) 1 pc') (g : Go κ Q h k n pc' L (.long (u &&& w) :: st)) : Go κ Q h k n pc L (.long w :: .long u :: st) := by
  obtain ⟨d, rfl⟩ := hd
  exact go_step (fun T locs X e t q => XT.land X.here B.exec rfl (hb B.byt d) rfl q) g
theorem go_lor (B : OkK km κ l Z a0 n0 R own nm bytes maxL ret) (hd : Dc bytes pc (.lor) 1 pc') (g : Go κ Q h k n pc' L (.long (u ||| w) :: st)) : Go κ Q h k n pc L (.long w :: .long u :: st) := by
  obtain ⟨d, rfl⟩ := hd
  exact go_step (fun T locs X e t q => XT.lor X.here B.exec rfl (hb B.byt d) rfl q) g
theorem go_lxor (B : OkK km κ l Z a0 n0 R own nm bytes maxL ret) (hd : Dc bytes pc (.lxor) 1 pc') (g : Go κ Q h k n pc' L (.long (u ^^^ w) :: st)) : Go κ Q h k n pc L (.long w :: .long u :: st) := by
  obtain ⟨d, rfl⟩ := hd
  exact go_step (fun T locs X e t q => XT.lxor X.here B.exec rfl (hb B.byt d) rfl q) g
theorem go_ldiv (B : OkK km κ l Z a0 n0 R own nm bytes maxL ret) (hd : Dc bytes pc (.ldiv) 1 pc') (hy : w ≠ 0) (g : Go κ Q h k n pc' L (.long (u / w) :: st)) : Go κ Q h k n pc L (.long w :: .long u :: st) := by
  obtain ⟨d, rfl⟩ := hd
  exact go_step (fun T locs X e t q => XT.ldiv X.here B.exec rfl (hb B.byt d) rfl hy q) g
theorem go_lrem (B : OkK km κ l Z a0 n0 R own nm bytes maxL ret) (hd : Dc bytes pc (.lrem) 1 pc') (hy : w ≠ 0) (g : Go κ Q h k n pc' L (.long (u - (u / w) * w) :: st)) : Go κ Q h k n pc L (.long w :: .long u :: st) := by
  obtain ⟨d, rfl⟩ := hd
  exact go_step (fun T locs X e t q => XT.lrem X.here B.exec rfl (hb B.byt d) rfl hy q) g
theorem go_lshl (B : OkK km κ l Z a0 n0 R own nm bytes maxL ret) (hd : Dc bytes pc (.lshl) 1 pc') (g : Go κ Q h k n pc' L (.long (u <<< (y.toInt64 &&& 63)) :: st)) : Go κ Q h k n pc L (.int y :: .long u :: st) := by
  obtain ⟨d, rfl⟩ := hd
  exact go_step (fun T locs X e t q => XT.lshl X.here B.exec rfl (hb B.byt d) rfl q) g
theorem go_lshr (B : OkK km κ l Z a0 n0 R own nm bytes maxL ret) (hd : Dc bytes pc (.lshr) 1 pc') (g : Go κ Q h k n pc' L (.long (u >>> (y.toInt64 &&& 63)) :: st)) : Go κ Q h k n pc L (.int y :: .long u :: st) := by
  obtain ⟨d, rfl⟩ := hd
  exact go_step (fun T locs X e t q => XT.lshr X.here B.exec rfl (hb B.byt d) rfl q) g
theorem go_lushr (B : OkK km κ l Z a0 n0 R own nm bytes maxL ret) (hd : Dc bytes pc (.lushr) 1 pc') (g : Go κ Q h k n pc' L (.long (XT.ushrL u y) :: st)) : Go κ Q h k n pc L (.int y :: .long u :: st) := by
  obtain ⟨d, rfl⟩ := hd
  exact go_step (fun T locs X e t q => XT.lushr X.here B.exec rfl (hb B.byt d) rfl q) g
theorem go_lneg (B : OkK km κ l Z a0 n0 R own nm bytes maxL ret) (hd : Dc bytes pc (.lneg) 1 pc') (g : Go κ Q h k n pc' L (.long (-u) :: st)) : Go κ Q h k n pc L (.long u :: st) := by
  obtain ⟨d, rfl⟩ := hd
  exact go_step (fun T locs X e t q => XT.lneg X.here B.exec rfl (hb B.byt d) rfl q) g
theorem go_i2l (B : OkK km κ l Z a0 n0 R own nm bytes maxL ret) (hd : Dc bytes pc (.i2l) 1 pc') (g : Go κ Q h k n pc' L (.long x.toInt64 :: st)) : Go κ Q h k n pc L (.int x :: st) := by
  obtain ⟨d, rfl⟩ := hd
  exact go_step (fun T locs X e t q => XT.i2l X.here B.exec rfl (hb B.byt d) rfl q) g
theorem go_l2i (B : OkK km κ l Z a0 n0 R own nm bytes maxL ret) (hd : Dc bytes pc (.l2i) 1 pc') (g : Go κ Q h k n pc' L (.int u.toInt32 :: st)) : Go κ Q h k n pc L (.long u :: st) := by
  obtain ⟨d, rfl⟩ := hd
  exact go_step (fun T locs X e t q => XT.l2i X.here B.exec rfl (hb B.byt d) rfl q) g
theorem go_i2b (B : OkK km κ l Z a0 n0 R own nm bytes maxL ret) (hd : Dc bytes pc (.i2b) 1 pc') (g : Go κ Q h k n pc' L (.int x.toInt8.toInt32 :: st)) : Go κ Q h k n pc L (.int x :: st) := by
  obtain ⟨d, rfl⟩ := hd
  exact go_step (fun T locs X e t q => XT.i2b X.here B.exec rfl (hb B.byt d) rfl q) g
theorem go_i2c (B : OkK km κ l Z a0 n0 R own nm bytes maxL ret) (hd : Dc bytes pc (.i2c) 1 pc') (g : Go κ Q h k n pc' L (.int x.toUInt32.toUInt16.toUInt32.toInt32 :: st)) : Go κ Q h k n pc L (.int x :: st) := by
  obtain ⟨d, rfl⟩ := hd
  exact go_step (fun T locs X e t q => XT.i2c X.here B.exec rfl (hb B.byt d) rfl q) g
theorem go_lcmp (B : OkK km κ l Z a0 n0 R own nm bytes maxL ret) (hd : Dc bytes pc (.lcmp) 1 pc') (g : Go κ Q h k n pc' L (.int (XT.cmpL u w) :: st)) : Go κ Q h k n pc L (.long w :: .long u :: st) := by
  obtain ⟨d, rfl⟩ := hd
  exact go_step (fun T locs X e t q => XT.lcmp X.here B.exec rfl (hb B.byt d) rfl q) g
theorem go_pop (B : OkK km κ l Z a0 n0 R own nm bytes maxL ret) (hd : Dc bytes pc (.pop) 1 pc') (hc : v.category = 1) (g : Go κ Q h k n pc' L (st)) : Go κ Q h k n pc L (v :: st) := by
  obtain ⟨d, rfl⟩ := hd
  exact go_step (fun T locs X e t q => XT.pop X.here B.exec rfl (hb B.byt d) rfl hc q) g
theorem go_dup (B : OkK km κ l Z a0 n0 R own nm bytes maxL ret) (hd : Dc bytes pc (.dup) 1 pc') (hc : v.category = 1) (g : Go κ Q h k n pc' L (v :: v :: st)) : Go κ Q h k n pc L (v :: st) := by
  obtain ⟨d, rfl⟩ := hd
  exact go_step (fun T locs X e t q => XS.dup X.here B.exec rfl (hb B.byt d) rfl hc q) g
theorem go_dup_x1 (B : OkK km κ l Z a0 n0 R own nm bytes maxL ret) (hd : Dc bytes pc (.dup_x1) 1 pc') (hc : v.category = 1) (hc' : v'.category = 1) (g : Go κ Q h k n pc' L (v :: v' :: v :: st)) : Go κ Q h k n pc L (v :: v' :: st) := by
  obtain ⟨d, rfl⟩ := hd
  exact go_step (fun T locs X e t q => XT.dupX1 X.here B.exec rfl (hb B.byt d) rfl hc hc' q) g
theorem go_dup2 (B : OkK km κ l Z a0 n0 R own nm bytes maxL ret) (hd : Dc bytes pc (.dup2) 1 pc') (hc : v.category = 1) (hc' : v'.category = 1) (g : Go κ Q h k n pc' L (v :: v' :: v :: v' :: st)) : Go κ Q h k n pc L (v :: v' :: st) := by
  obtain ⟨d, rfl⟩ := hd
  exact go_step (fun T locs X e t q => XT.dup2 X.here B.exec rfl (hb B.byt d) rfl hc hc' q) g
theorem go_dup2l (B : OkK km κ l Z a0 n0 R own nm bytes maxL ret) (hd : Dc bytes pc (.dup2) 1 pc') (g : Go κ Q h k n pc' L (.long u :: .long u :: st)) : Go κ Q h k n pc L (.long u :: st) := by
  obtain ⟨d, rfl⟩ := hd
  exact go_step (fun T locs X e t q => XT.dup2L X.here B.exec rfl (hb B.byt d) rfl q) g
theorem go_iconst (B : OkK km κ l Z a0 n0 R own nm bytes maxL ret) (hd : Dc bytes pc (.iconst o) 1 pc') (hv : Int32.ofInt o = x) (g : Go κ Q h k n pc' L (.int x :: st)) : Go κ Q h k n pc L (st) := by
  obtain ⟨d, rfl⟩ := hd
  exact go_step (fun T locs X e t q => XT.iconstV X.here B.exec rfl x (hb B.byt d) hv q) g
theorem go_bipush (B : OkK km κ l Z a0 n0 R own nm bytes maxL ret) (hd : Dc bytes pc (.bipush o) 2 pc') (hv : (Int8.ofInt o).toInt32 = x) (g : Go κ Q h k n pc' L (.int x :: st)) : Go κ Q h k n pc L (st) := by
  obtain ⟨d, rfl⟩ := hd
  exact go_step (fun T locs X e t q => XT.bipushV X.here B.exec rfl x (hb B.byt d) hv q) g
theorem go_sipush (B : OkK km κ l Z a0 n0 R own nm bytes maxL ret) (hd : Dc bytes pc (.sipush o) 3 pc') (hv : (Int16.ofInt o).toInt32 = x) (g : Go κ Q h k n pc' L (.int x :: st)) : Go κ Q h k n pc L (st) := by
  obtain ⟨d, rfl⟩ := hd
  exact go_step (fun T locs X e t q => XT.sipushV X.here B.exec rfl x (hb B.byt d) hv q) g
theorem go_lconst (B : OkK km κ l Z a0 n0 R own nm bytes maxL ret) {j : Fin 2} (hd : Dc bytes pc (.lconst j) 1 pc') (hv : Int64.ofNat j = u) (g : Go κ Q h k n pc' L (.long u :: st)) : Go κ Q h k n pc L (st) := by
  obtain ⟨d, rfl⟩ := hd
  exact go_step (fun T locs X e t q => XT.lconstV X.here B.exec rfl u (hb B.byt d) hv q) g
theorem go_aconst_null (B : OkK km κ l Z a0 n0 R own nm bytes maxL ret) (hd : Dc bytes pc (.aconst_null) 1 pc') (g : Go κ Q h k n pc' L (.null :: st)) : Go κ Q h k n pc L (st) := by
  obtain ⟨d, rfl⟩ := hd
  exact go_step (fun T locs X e t q => XS.aconstNull X.here B.exec rfl (hb B.byt d) q) g
theorem go_iload_n (B : OkK km κ l Z a0 n0 R own nm bytes maxL ret) {j : Fin 4} (hd : Dc bytes pc (.iload_n j) 1 pc') (hl : L[j.val]? = some (.val (.int x))) (g : Go κ Q h k n pc' L (.int x :: st)) : Go κ Q h k n pc L (st) := by
  obtain ⟨d, rfl⟩ := hd
  exact go_step (fun T locs X e t q => XS.iloadN X.here B.exec rfl (hb B.byt d) hl q) g
theorem go_iload (B : OkK km κ l Z a0 n0 R own nm bytes maxL ret) {j : Nat} (hd : Dc bytes pc (.iload j) 2 pc') (hl : L[j]? = some (.val (.int x))) (g : Go κ Q h k n pc' L (.int x :: st)) : Go κ Q h k n pc L (st) := by
  obtain ⟨d, rfl⟩ := hd
  exact go_step (fun T locs X e t q => XS.iload X.here B.exec rfl (hb B.byt d) hl q) g
theorem go_istore_n (B : OkK km κ l Z a0 n0 R own nm bytes maxL ret) {j : Fin 4} (L' : Array Slot) (hd : Dc bytes pc (.istore_n j) 1 pc') (hl : storeLocals L j.val (.int x) = some L') (g : Go κ Q h k n pc' L' st) : Go κ Q h k n pc L (.int x :: st) := by
  obtain ⟨d, rfl⟩ := hd
  exact go_step (fun T locs X e t q => XS.istoreN X.here B.exec rfl (hb B.byt d) rfl hl q) g
theorem go_istore (B : OkK km κ l Z a0 n0 R own nm bytes maxL ret) {j : Nat} (L' : Array Slot) (hd : Dc bytes pc (.istore j) 2 pc') (hl : storeLocals L j (.int x) = some L') (g : Go κ Q h k n pc' L' st) : Go κ Q h k n pc L (.int x :: st) := by
  obtain ⟨d, rfl⟩ := hd
  exact go_step (fun T locs X e t q => XS.istore X.here B.exec rfl (hb B.byt d) rfl hl q) g
theorem go_lload_n (B : OkK km κ l Z a0 n0 R own nm bytes maxL ret) {j : Fin 4} (hd : Dc bytes pc (.lload_n j) 1 pc') (hl : L[j.val]? = some (.val (.long u))) (g : Go κ Q h k n pc' L (.long u :: st)) : Go κ Q h k n pc L (st) := by
  obtain ⟨d, rfl⟩ := hd
  exact go_step (fun T locs X e t q => XT.lloadN X.here B.exec rfl (hb B.byt d) hl q) g
theorem go_lload (B : OkK km κ l Z a0 n0 R own nm bytes maxL ret) {j : Nat} (hd : Dc bytes pc (.lload j) 2 pc') (hl : L[j]? = some (.val (.long u))) (g : Go κ Q h k n pc' L (.long u :: st)) : Go κ Q h k n pc L (st) := by
  obtain ⟨d, rfl⟩ := hd
  exact go_step (fun T locs X e t q => XT.lload X.here B.exec rfl (hb B.byt d) hl q) g
theorem go_lstore_n (B : OkK km κ l Z a0 n0 R own nm bytes maxL ret) {j : Fin 4} (L' : Array Slot) (hd : Dc bytes pc (.lstore_n j) 1 pc') (hl : storeLocals L j.val (.long u) = some L') (g : Go κ Q h k n pc' L' st) : Go κ Q h k n pc L (.long u :: st) := by
  obtain ⟨d, rfl⟩ := hd
  exact go_step (fun T locs X e t q => XT.lstoreN X.here B.exec rfl (hb B.byt d) rfl hl q) g
theorem go_lstore (B : OkK km κ l Z a0 n0 R own nm bytes maxL ret) {j : Nat} (L' : Array Slot) (hd : Dc bytes pc (.lstore j) 2 pc') (hl : storeLocals L j (.long u) = some L') (g : Go κ Q h k n pc' L' st) : Go κ Q h k n pc L (.long u :: st) := by
  obtain ⟨d, rfl⟩ := hd
  exact go_step (fun T locs X e t q => XT.lstore X.here B.exec rfl (hb B.byt d) rfl hl q) g
theorem go_aload_n (B : OkK km κ l Z a0 n0 R own nm bytes maxL ret) {j : Fin 4} (hd : Dc bytes pc (.aload_n j) 1 pc') (hl : L[j.val]? = some (.val (v))) (hv : v.isRef = true) (g : Go κ Q h k n pc' L (v :: st)) : Go κ Q h k n pc L (st) := by
  obtain ⟨d, rfl⟩ := hd
  exact go_step (fun T locs X e t q => XS.aloadN X.here B.exec rfl (hb B.byt d) hl hv q) g
theorem go_aload (B : OkK km κ l Z a0 n0 R own nm bytes maxL ret) {j : Nat} (hd : Dc bytes pc (.aload j) 2 pc') (hl : L[j]? = some (.val (v))) (hv : v.isRef = true) (g : Go κ Q h k n pc' L (v :: st)) : Go κ Q h k n pc L (st) := by
  obtain ⟨d, rfl⟩ := hd
  exact go_step (fun T locs X e t q => XS.aload X.here B.exec rfl (hb B.byt d) hl hv q) g
theorem go_astore_n (B : OkK km κ l Z a0 n0 R own nm bytes maxL ret) {j : Fin 4} (L' : Array Slot) (hd : Dc bytes pc (.astore_n j) 1 pc') (hv : v.isRef = true) (hl : storeLocals L j.val (v) = some L') (g : Go κ Q h k n pc' L' st) : Go κ Q h k n pc L (v :: st) := by
  obtain ⟨d, rfl⟩ := hd
  exact go_step (fun T locs X e t q => XS.astoreN X.here B.exec rfl (hb B.byt d) rfl hv hl q) g
theorem go_astore (B : OkK km κ l Z a0 n0 R own nm bytes maxL ret) {j : Nat} (L' : Array Slot) (hd : Dc bytes pc (.astore j) 2 pc') (hv : v.isRef = true) (hl : storeLocals L j (v) = some L') (g : Go κ Q h k n pc' L' st) : Go κ Q h k n pc L (v :: st) := by
  obtain ⟨d, rfl⟩ := hd
  exact go_step (fun T locs X e t q => XS.astore X.here B.exec rfl (hb B.byt d) rfl hv hl q) g
theorem go_iinc (B : OkK km κ l Z a0 n0 R own nm bytes maxL ret) {j : Nat} {z : Int32} (L' : Array Slot) (hd : Dc bytes pc (.iinc j o) 3 pc') (hz : Int32.ofInt o = z) (hl : L[j]? = some (.val (.int x))) (hl' : storeLocals L j (.int (x + z)) = some L') (g : Go κ Q h k n pc' L' st) : Go κ Q h k n pc L st := by
  obtain ⟨d, rfl⟩ := hd
  subst hz
  exact go_step (fun T locs X e t q => XS.iinc X.here B.exec rfl (hb B.byt d) hl hl' q) g
theorem go_goto (B : OkK km κ l Z a0 n0 R own nm bytes maxL ret) (hd : Db bytes pc (.goto o) o pc1 pc2) (g : Go κ Q h k n pc2 L st) : Go κ Q h k n pc L st := by
  obtain ⟨d, -, e2⟩ := hd
  exact go_step (fun T locs X e t q => XS.goto X.here B.exec rfl (pc0 := pc) rfl (hb B.byt d) (by omega) (by omega) q) g
theorem go_icmpeq (B : OkK km κ l Z a0 n0 R own nm bytes maxL ret) (hd : Db bytes pc (.if_icmp .eq o) o pc1 pc2) (gt : x = y → Go κ Q h k n pc2 L st) (gf : ¬ x = y → Go κ Q h k n pc1 L st) : Go κ Q h k n pc L (.int y :: .int x :: st) := by
  obtain ⟨d, rfl, e2⟩ := hd
  rcases Classical.em (x = y) with q0 | q0
  · exact go_step (fun T locs X e t q => XS.icmpYes X.here B.exec rfl (pc0 := pc) rfl (hb B.byt d) rfl (XT.ii_eq_t q0) (by omega) (by omega) q) (gt q0)
  · exact go_step (fun T locs X e t q => XS.icmpNo X.here B.exec rfl (hb B.byt d) rfl (XT.ii_eq_f q0) q) (gf q0)
theorem go_icmpne (B : OkK km κ l Z a0 n0 R own nm bytes maxL ret) (hd : Db bytes pc (.if_icmp .ne o) o pc1 pc2) (gt : ¬ x = y → Go κ Q h k n pc2 L st) (gf : x = y → Go κ Q h k n pc1 L st) : Go κ Q h k n pc L (.int y :: .int x :: st) := by
  obtain ⟨d, rfl, e2⟩ := hd
  rcases Classical.em (¬ x = y) with q0 | q0
  · exact go_step (fun T locs X e t q => XS.icmpYes X.here B.exec rfl (pc0 := pc) rfl (hb B.byt d) rfl (XT.ii_ne_t q0) (by omega) (by omega) q) (gt q0)
  · exact go_step (fun T locs X e t q => XS.icmpNo X.here B.exec rfl (hb B.byt d) rfl (XT.ii_ne_f (Classical.not_not.mp q0)) q) (gf (Classical.not_not.mp q0))
theorem go_icmplt (B : OkK km κ l Z a0 n0 R own nm bytes maxL ret) (hd : Db bytes pc (.if_icmp .lt o) o pc1 pc2) (gt : x < y → Go κ Q h k n pc2 L st) (gf : ¬ x < y → Go κ Q h k n pc1 L st) : Go κ Q h k n pc L (.int y :: .int x :: st) := by
  obtain ⟨d, rfl, e2⟩ := hd
  rcases Classical.em (x < y) with q0 | q0
  · exact go_step (fun T locs X e t q => XS.icmpYes X.here B.exec rfl (pc0 := pc) rfl (hb B.byt d) rfl (XT.ii_lt_t q0) (by omega) (by omega) q) (gt q0)
  · exact go_step (fun T locs X e t q => XS.icmpNo X.here B.exec rfl (hb B.byt d) rfl (XT.ii_lt_f q0) q) (gf q0)
theorem go_icmpge (B : OkK km κ l Z a0 n0 R own nm bytes maxL ret) (hd : Db bytes pc (.if_icmp .ge o) o pc1 pc2) (gt : ¬ x < y → Go κ Q h k n pc2 L st) (gf : x < y → Go κ Q h k n pc1 L st) : Go κ Q h k n pc L (.int y :: .int x :: st) := by
  obtain ⟨d, rfl, e2⟩ := hd
  rcases Classical.em (¬ x < y) with q0 | q0
  · exact go_step (fun T locs X e t q => XS.icmpYes X.here B.exec rfl (pc0 := pc) rfl (hb B.byt d) rfl (XT.ii_ge_t q0) (by omega) (by omega) q) (gt q0)
  · exact go_step (fun T locs X e t q => XS.icmpNo X.here B.exec rfl (hb B.byt d) rfl (XT.ii_ge_f (Classical.not_not.mp q0)) q) (gf (Classical.not_not.mp q0))
theorem go_icmpgt (B : OkK km κ l Z a0 n0 R own nm bytes maxL ret) (hd : Db bytes pc (.if_icmp .gt o) o pc1 pc2) (gt : y < x → Go κ Q h k n pc2 L st) (gf : ¬ y < x → Go κ Q h k n pc1 L st) : Go κ Q h k n pc L (.int y :: .int x :: st) := by
  obtain ⟨d, rfl, e2⟩ := hd
  rcases Classical.em (y < x) with q0 | q0
  · exact go_step (fun T locs X e t q => XS.icmpYes X.here B.exec rfl (pc0 := pc) rfl (hb B.byt d) rfl (XT.ii_gt_t q0) (by omega) (by omega) q) (gt q0)
  · exact go_step (fun T locs X e t q => XS.icmpNo X.here B.exec rfl (hb B.byt d) rfl (XT.ii_gt_f q0) q) (gf q0)
theorem go_icmple (B : OkK km κ l Z a0 n0 R own nm bytes maxL ret) (hd : Db bytes pc (.if_icmp .le o) o pc1 pc2) (gt : ¬ y < x → Go κ Q h k n pc2 L st) (gf : y < x → Go κ Q h k n pc1 L st) : Go κ Q h k n pc L (.int y :: .int x :: st) := by
  obtain ⟨d, rfl, e2⟩ := hd
  rcases Classical.em (¬ y < x) with q0 | q0
  · exact go_step (fun T locs X e t q => XS.icmpYes X.here B.exec rfl (pc0 := pc) rfl (hb B.byt d) rfl (XT.ii_le_t q0) (by omega) (by omega) q) (gt q0)
  · exact go_step (fun T locs X e t q => XS.icmpNo X.here B.exec rfl (hb B.byt d) rfl (XT.ii_le_f (Classical.not_not.mp q0)) q) (gf (Classical.not_not.mp q0))
theorem go_ifeq (B : OkK km κ l Z a0 n0 R own nm bytes maxL ret) (hd : Db bytes pc (.ifCond .eq o) o pc1 pc2) (gt : x = 0 → Go κ Q h k n pc2 L st) (gf : ¬ x = 0 → Go κ Q h k n pc1 L st) : Go κ Q h k n pc L (.int x :: st) := by
  obtain ⟨d, rfl, e2⟩ := hd
  rcases Classical.em (x = 0) with q0 | q0
  · exact go_step (fun T locs X e t q => XS.ifYes X.here B.exec rfl (pc0 := pc) rfl (hb B.byt d) rfl (XT.i0_eq_t q0) (by omega) (by omega) q) (gt q0)
  · exact go_step (fun T locs X e t q => XS.ifNo X.here B.exec rfl (hb B.byt d) rfl (XT.i0_eq_f q0) q) (gf q0)
theorem go_ifne (B : OkK km κ l Z a0 n0 R own nm bytes maxL ret) (hd : Db bytes pc (.ifCond .ne o) o pc1 pc2) (gt : ¬ x = 0 → Go κ Q h k n pc2 L st) (gf : x = 0 → Go κ Q h k n pc1 L st) : Go κ Q h k n pc L (.int x :: st) := by
  obtain ⟨d, rfl, e2⟩ := hd
  rcases Classical.em (¬ x = 0) with q0 | q0
  · exact go_step (fun T locs X e t q => XS.ifYes X.here B.exec rfl (pc0 := pc) rfl (hb B.byt d) rfl (XT.i0_ne_t q0) (by omega) (by omega) q) (gt q0)
  · exact go_step (fun T locs X e t q => XS.ifNo X.here B.exec rfl (hb B.byt d) rfl (XT.i0_ne_f (Classical.not_not.mp q0)) q) (gf (Classical.not_not.mp q0))
theorem go_iflt (B : OkK km κ l Z a0 n0 R own nm bytes maxL ret) (hd : Db bytes pc (.ifCond .lt o) o pc1 pc2) (gt : x < 0 → Go κ Q h k n pc2 L st) (gf : ¬ x < 0 → Go κ Q h k n pc1 L st) : Go κ Q h k n pc L (.int x :: st) := by
  obtain ⟨d, rfl, e2⟩ := hd
  rcases Classical.em (x < 0) with q0 | q0
  · exact go_step (fun T locs X e t q => XS.ifYes X.here B.exec rfl (pc0 := pc) rfl (hb B.byt d) rfl (XT.i0_lt_t q0) (by omega) (by omega) q) (gt q0)
  · exact go_step (fun T locs X e t q => XS.ifNo X.here B.exec rfl (hb B.byt d) rfl (XT.i0_lt_f q0) q) (gf q0)
theorem go_ifge (B : OkK km κ l Z a0 n0 R own nm bytes maxL ret) (hd : Db bytes pc (.ifCond .ge o) o pc1 pc2) (gt : ¬ x < 0 → Go κ Q h k n pc2 L st) (gf : x < 0 → Go κ Q h k n pc1 L st) : Go κ Q h k n pc L (.int x :: st) := by
  obtain ⟨d, rfl, e2⟩ := hd
  rcases Classical.em (¬ x < 0) with q0 | q0
  · exact go_step (fun T locs X e t q => XS.ifYes X.here B.exec rfl (pc0 := pc) rfl (hb B.byt d) rfl (XT.i0_ge_t q0) (by omega) (by omega) q) (gt q0)
  · exact go_step (fun T locs X e t q => XS.ifNo X.here B.exec rfl (hb B.byt d) rfl (XT.i0_ge_f (Classical.not_not.mp q0)) q) (gf (Classical.not_not.mp q0))
theorem go_ifgt (B : OkK km κ l Z a0 n0 R own nm bytes maxL ret) (hd : Db bytes pc (.ifCond .gt o) o pc1 pc2) (gt : 0 < x → Go κ Q h k n pc2 L st) (gf : ¬ 0 < x → Go κ Q h k n pc1 L st) : Go κ Q h k n pc L (.int x :: st) := by
  obtain ⟨d, rfl, e2⟩ := hd
  rcases Classical.em (0 < x) with q0 | q0
  · exact go_step (fun T locs X e t q => XS.ifYes X.here B.exec rfl (pc0 := pc) rfl (hb B.byt d) rfl (XT.i0_gt_t q0) (by omega) (by omega) q) (gt q0)
  · exact go_step (fun T locs X e t q => XS.ifNo X.here B.exec rfl (hb B.byt d) rfl (XT.i0_gt_f q0) q) (gf q0)
theorem go_ifle (B : OkK km κ l Z a0 n0 R own nm bytes maxL ret) (hd : Db bytes pc (.ifCond .le o) o pc1 pc2) (gt : ¬ 0 < x → Go κ Q h k n pc2 L st) (gf : 0 < x → Go κ Q h k n pc1 L st) : Go κ Q h k n pc L (.int x :: st) := by
  obtain ⟨d, rfl, e2⟩ := hd
  rcases Classical.em (¬ 0 < x) with q0 | q0
  · exact go_step (fun T locs X e t q => XS.ifYes X.here B.exec rfl (pc0 := pc) rfl (hb B.byt d) rfl (XT.i0_le_t q0) (by omega) (by omega) q) (gt q0)
  · exact go_step (fun T locs X e t q => XS.ifNo X.here B.exec rfl (hb B.byt d) rfl (XT.i0_le_f (Classical.not_not.mp q0)) q) (gf (Classical.not_not.mp q0))
theorem go_lifeq (B : OkK km κ l Z a0 n0 R own nm bytes maxL ret) (hd : Db bytes pc (.ifCond .eq o) o pc1 pc2) (gt : u = w → Go κ Q h k n pc2 L st) (gf : ¬ u = w → Go κ Q h k n pc1 L st) : Go κ Q h k n pc L (.int (XT.cmpL u w) :: st) := by
  obtain ⟨d, rfl, e2⟩ := hd
  rcases Classical.em (u = w) with q0 | q0
  · exact go_step (fun T locs X e t q => XS.ifYes X.here B.exec rfl (pc0 := pc) rfl (hb B.byt d) rfl (XT.ll_eq_t q0) (by omega) (by omega) q) (gt q0)
  · exact go_step (fun T locs X e t q => XS.ifNo X.here B.exec rfl (hb B.byt d) rfl (XT.ll_eq_f q0) q) (gf q0)
theorem go_lifne (B : OkK km κ l Z a0 n0 R own nm bytes maxL ret) (hd : Db bytes pc (.ifCond .ne o) o pc1 pc2) (gt : ¬ u = w → Go κ Q h k n pc2 L st) (gf : u = w → Go κ Q h k n pc1 L st) : Go κ Q h k n pc L (.int (XT.cmpL u w) :: st) := by
  obtain ⟨d, rfl, e2⟩ := hd
  rcases Classical.em (¬ u = w) with q0 | q0
  · exact go_step (fun T locs X e t q => XS.ifYes X.here B.exec rfl (pc0 := pc) rfl (hb B.byt d) rfl (XT.ll_ne_t q0) (by omega) (by omega) q) (gt q0)
  · exact go_step (fun T locs X e t q => XS.ifNo X.here B.exec rfl (hb B.byt d) rfl (XT.ll_ne_f (Classical.not_not.mp q0)) q) (gf (Classical.not_not.mp q0))
theorem go_liflt (B : OkK km κ l Z a0 n0 R own nm bytes maxL ret) (hd : Db bytes pc (.ifCond .lt o) o pc1 pc2) (gt : u < w → Go κ Q h k n pc2 L st) (gf : ¬ u < w → Go κ Q h k n pc1 L st) : Go κ Q h k n pc L (.int (XT.cmpL u w) :: st) := by
  obtain ⟨d, rfl, e2⟩ := hd
  rcases Classical.em (u < w) with q0 | q0
  · exact go_step (fun T locs X e t q => XS.ifYes X.here B.exec rfl (pc0 := pc) rfl (hb B.byt d) rfl (XT.ll_lt_t q0) (by omega) (by omega) q) (gt q0)
  · exact go_step (fun T locs X e t q => XS.ifNo X.here B.exec rfl (hb B.byt d) rfl (XT.ll_lt_f q0) q) (gf q0)
theorem go_lifge (B : OkK km κ l Z a0 n0 R own nm bytes maxL ret) (hd : Db bytes pc (.ifCond .ge o) o pc1 pc2) (gt : ¬ u < w → Go κ Q h k n pc2 L st) (gf : u < w → Go κ Q h k n pc1 L st) : Go κ Q h k n pc L (.int (XT.cmpL u w) :: st) := by
  obtain ⟨d, rfl, e2⟩ := hd
  rcases Classical.em (¬ u < w) with q0 | q0
  · exact go_step (fun T locs X e t q => XS.ifYes X.here B.exec rfl (pc0 := pc) rfl (hb B.byt d) rfl (XT.ll_ge_t q0) (by omega) (by omega) q) (gt q0)
  · exact go_step (fun T locs X e t q => XS.ifNo X.here B.exec rfl (hb B.byt d) rfl (XT.ll_ge_f (Classical.not_not.mp q0)) q) (gf (Classical.not_not.mp q0))
theorem go_lifgt (B : OkK km κ l Z a0 n0 R own nm bytes maxL ret) (hd : Db bytes pc (.ifCond .gt o) o pc1 pc2) (gt : w < u → Go κ Q h k n pc2 L st) (gf : ¬ w < u → Go κ Q h k n pc1 L st) : Go κ Q h k n pc L (.int (XT.cmpL u w) :: st) := by
  obtain ⟨d, rfl, e2⟩ := hd
  rcases Classical.em (w < u) with q0 | q0
  · exact go_step (fun T locs X e t q => XS.ifYes X.here B.exec rfl (pc0 := pc) rfl (hb B.byt d) rfl (XT.ll_gt_t q0) (by omega) (by omega) q) (gt q0)
  · exact go_step (fun T locs X e t q => XS.ifNo X.here B.exec rfl (hb B.byt d) rfl (XT.ll_gt_f q0) q) (gf q0)
theorem go_lifle (B : OkK km κ l Z a0 n0 R own nm bytes maxL ret) (hd : Db bytes pc (.ifCond .le o) o pc1 pc2) (gt : ¬ w < u → Go κ Q h k n pc2 L st) (gf : w < u → Go κ Q h k n pc1 L st) : Go κ Q h k n pc L (.int (XT.cmpL u w) :: st) := by
  obtain ⟨d, rfl, e2⟩ := hd
  rcases Classical.em (¬ w < u) with q0 | q0
  · exact go_step (fun T locs X e t q => XS.ifYes X.here B.exec rfl (pc0 := pc) rfl (hb B.byt d) rfl (XT.ll_le_t q0) (by omega) (by omega) q) (gt q0)
  · exact go_step (fun T locs X e t q => XS.ifNo X.here B.exec rfl (hb B.byt d) rfl (XT.ll_le_f (Classical.not_not.mp q0)) q) (gf (Classical.not_not.mp q0))
theorem go_acmpeq (B : OkK km κ l Z a0 n0 R own nm bytes maxL ret) (hd : Db bytes pc (.if_acmp .eq o) o pc1 pc2) (hv : v.isRef = true) (hv' : v'.isRef = true) (gt : v' = v → Go κ Q h k n pc2 L st) (gf : ¬ v' = v → Go κ Q h k n pc1 L st) : Go κ Q h k n pc L (v :: v' :: st) := by
  obtain ⟨d, rfl, e2⟩ := hd
  rcases Classical.em (v' = v) with q0 | q0
  · exact go_step (fun T locs X e t q => XT.acmpYes X.here B.exec rfl (pc0 := pc) rfl (hb B.byt d) rfl hv' hv (XT.aa_eq_t q0) (by omega) (by omega) q) (gt q0)
  · exact go_step (fun T locs X e t q => XT.acmpNo X.here B.exec rfl (hb B.byt d) rfl hv' hv (XT.aa_eq_f q0) q) (gf q0)
theorem go_acmpne (B : OkK km κ l Z a0 n0 R own nm bytes maxL ret) (hd : Db bytes pc (.if_acmp .ne o) o pc1 pc2) (hv : v.isRef = true) (hv' : v'.isRef = true) (gt : ¬ v' = v → Go κ Q h k n pc2 L st) (gf : v' = v → Go κ Q h k n pc1 L st) : Go κ Q h k n pc L (v :: v' :: st) := by
  obtain ⟨d, rfl, e2⟩ := hd
  rcases Classical.em (¬ v' = v) with q0 | q0
  · exact go_step (fun T locs X e t q => XT.acmpYes X.here B.exec rfl (pc0 := pc) rfl (hb B.byt d) rfl hv' hv (XT.aa_ne_t q0) (by omega) (by omega) q) (gt q0)
  · exact go_step (fun T locs X e t q => XT.acmpNo X.here B.exec rfl (hb B.byt d) rfl hv' hv (XT.aa_ne_f (Classical.not_not.mp q0)) q) (gf (Classical.not_not.mp q0))
theorem go_ifnull_t (B : OkK km κ l Z a0 n0 R own nm bytes maxL ret) (hd : Db bytes pc (.ifnull o) o pc1 pc2) (g : Go κ Q h k n pc2 L st) : Go κ Q h k n pc L (.null :: st) := by
  obtain ⟨d, rfl, e2⟩ := hd
  exact go_step (fun T locs X e t q => XS.ifnullYes X.here B.exec rfl (pc0 := pc) rfl (hb B.byt d) rfl (by omega) (by omega) q) g
theorem go_ifnull_f (B : OkK km κ l Z a0 n0 R own nm bytes maxL ret) (hd : Db bytes pc (.ifnull o) o pc1 pc2) (g : Go κ Q h k n pc1 L st) : Go κ Q h k n pc L (.ref a :: st) := by
  obtain ⟨d, rfl, e2⟩ := hd
  exact go_step (fun T locs X e t q => XS.ifnullNo X.here B.exec rfl (hb B.byt d) rfl q) g
theorem go_ifnonnull_t (B : OkK km κ l Z a0 n0 R own nm bytes maxL ret) (hd : Db bytes pc (.ifnonnull o) o pc1 pc2) (g : Go κ Q h k n pc2 L st) : Go κ Q h k n pc L (.ref a :: st) := by
  obtain ⟨d, rfl, e2⟩ := hd
  exact go_step (fun T locs X e t q => XT.ifnonnullYes X.here B.exec rfl (pc0 := pc) rfl (hb B.byt d) rfl (by omega) (by omega) q) g
theorem go_ifnonnull_f (B : OkK km κ l Z a0 n0 R own nm bytes maxL ret) (hd : Db bytes pc (.ifnonnull o) o pc1 pc2) (g : Go κ Q h k n pc1 L st) : Go κ Q h k n pc L (.null :: st) := by
  obtain ⟨d, rfl, e2⟩ := hd
  exact go_step (fun T locs X e t q => XT.ifnonnullNo X.here B.exec rfl (hb B.byt d) rfl q) g
/-! fields, objects, arrays, calls, returns -/
theorem go_getfield (B : OkK km κ l Z a0 n0 R own nm bytes maxL ret) {idx : Nat} {O fn d : String} (hd : Dc bytes pc (.getfield idx) 3 pc') (wl : (Jvm.Cond.fieldLink own idx O fn d).before a0 Z = true) (F : Fld Z h a O fn d v) (g : Go κ Q h k n pc' L (v :: st)) : Go κ Q h k n pc L (.ref a :: st) := fun T locs X N e => by
  obtain ⟨dd, rfl⟩ := hd
  obtain ⟨T', X', e', sp⟩ := getF X B.exec B.warm B.hown (host := "") (Or.inl wl) Via.refl e F (g := mkF κ.m pc L (.ref a :: st)) rfl rfl (hb B.byt dd)
  obtain ⟨t, o, h1, h2⟩ := g T' locs X' N e'
  exact ⟨t, o, sp _ h1, h2⟩
theorem go_getstatic (B : OkK km κ l Z a0 n0 R own nm bytes maxL ret) {idx : Nat} {O fn d : String} (hd : Dc bytes pc (.getstatic idx) 3 pc') (wl : (Jvm.Cond.fieldLink own idx O fn d).before a0 Z = true) (F : Sta Z h O fn d v) (g : Go κ Q h k n pc' L (v :: st)) : Go κ Q h k n pc L st := fun T locs X N e => by
  obtain ⟨dd, rfl⟩ := hd
  obtain ⟨T', X', e', sp⟩ := getS (host := "") X B.exec B.warm B.hown wl Via.refl e F (g := mkF κ.m pc L st) rfl (hb B.byt dd)
  obtain ⟨t, o, h1, h2⟩ := g T' locs X' N e'
  exact ⟨t, o, sp _ h1, h2⟩
theorem go_putfield (B : OkK km κ l Z a0 n0 R own nm bytes maxL ret) {idx kk : Nat} {O fn d C : String} {ty : FieldType} {old : Value} (hd : Dc bytes pc (.putfield idx) 3 pc') (wl : (Jvm.Cond.fieldLink own idx O fn d).before a0 Z = true) (F : Fld Z h a O fn d old) (E : Exa Z h a C)
    (wy : (Jvm.Cond.lays C O fn d).before a0 Z = true ∨ ((Jvm.Cond.laysFinal C O fn d).before a0 Z = true ∧ own = O ∧ nm = "<init>")) (wi : (Jvm.Cond.instantiable C kk).before a0 Z = true) (hty : parseFieldDescriptor d = some ty) (hn : narrow ty v = v) (hf : fits ty v = true) (ha : n0 ≤ a)
    (g : ∀ h', Wr h h' a (Jvm.RoadKit.slotOf Z O fn d) v → Go κ Q h' k n pc' L st) : Go κ Q h k n pc L (v :: .ref a :: st) := fun T locs X N e => by
  obtain ⟨dd, rfl⟩ := hd
  obtain ⟨T', h', X', e', W, sp⟩ := putF X B.exec B.warm B.hown (host := "") (Or.inl wl) Via.refl e F E (wy.imp id fun q => ⟨q.1, q.2.1, B.name.trans q.2.2⟩) wi hty hn hf (g := mkF κ.m pc L (v :: .ref a :: st)) rfl rfl (hb B.byt dd)
  obtain ⟨t, o, h1, h2⟩ := g h' W T' _ X' (Fr.snoc X' N (B.hn ▸ ha)) e'
  exact ⟨t, o, sp _ h1, h2⟩
theorem go_new (B : OkK km κ l Z a0 n0 R own nm bytes maxL ret) {idx nf : Nat} {C : String} (hd : Dc bytes pc (.new idx) 3 pc') (wl : (Jvm.Cond.classLink own idx C).before a0 Z = true) (wi : (Jvm.Cond.instantiable C nf).before a0 Z = true) (wz : (Jvm.Cond.initialized C).before a0 Z = true) (hc : k + 1 ≤ R.cells) (hl : n + nf ≤ R.slots)
    (g : ∀ h' b, b = h.size → Ext h h' → Exa Z h' b C → (∀ {O fn d : String} {ty : FieldType}, Laid Z a0 C O fn d → parseFieldDescriptor d = some ty → Fld Z h' b O fn d (defaultValue ty)) → Go κ Q h' (k + 1) (n + nf) pc' L (.ref b :: st)) : Go κ Q h k n pc L st := fun T locs X N e => by
  obtain ⟨dd, rfl⟩ := hd
  obtain ⟨T', h', X', e', E, A, D, -, sp⟩ := newO X B.exec B.warm B.hown wl wi wz e (g := mkF κ.m pc L st) rfl (hb B.byt dd) (by rw [B.room]; exact hc) (by rw [B.room]; exact hl)
  obtain ⟨t, o, h1, h2⟩ := g h' _ rfl E A D T' locs X' N e'
  exact ⟨t, o, sp _ h1, h2⟩
/-- an array whose places hold just these values -/
def AV (Z : State) (h : Heap) (a : Addr) (ty : FieldType) (vs : List Value) : Prop := ∃ c : Cell, Arr Z h a c ty ∧ c.slots = vs.toArray ∧ vs.length < 2 ^ 31
theorem AV.ext {ty : FieldType} {vs : List Value} {h' : Heap} (F : AV Z h a ty vs) (E : Ext h h') : AV Z h' a ty vs := by obtain ⟨c, A, r⟩ := F; exact ⟨c, A.ext E, r⟩
theorem AV.other {ty : FieldType} {vs : List Value} {h' : Heap} {b : Addr} {sl : Nat} (F : AV Z h b ty vs) (W : Wr h h' a sl v) (q : b ≠ a) : AV Z h' b ty vs := by obtain ⟨c, A, r⟩ := F; exact ⟨c, A.other W q, r⟩
theorem AV.keep {ty : FieldType} {vs : List Value} {h' : Heap} {ws : List Addr} (F : AV Z h a ty vs) (K : Keep h h' ws) (q : a ∉ ws) : AV Z h' a ty vs := by obtain ⟨c, A, r⟩ := F; exact ⟨c, ⟨K.2.1 a c A.1 q, A.2⟩, r⟩
theorem AV.same {ty : FieldType} {vs : List Value} {h' : Heap} {i : Nat} (F : AV Z h a ty vs) (W : Wr h h' a i v) : AV Z h' a ty (vs.set i v) := by
  obtain ⟨c, A, r, s⟩ := F
  exact ⟨_, A.same W, by simp [Cell.setSlot, r], by simpa using s⟩
theorem AV.lt {ty : FieldType} {vs : List Value} (F : AV Z h a ty vs) : a < h.size := by obtain ⟨c, A, -⟩ := F; exact A.lt
theorem AV.len {ty : FieldType} {vs : List Value} (F : AV Z h a ty vs) : vs.length < 2 ^ 31 := by obtain ⟨c, A, -, q⟩ := F; exact q
theorem nat_idx {i : Nat} (hj : x.toInt = (i : Int)) : ¬ x < 0 ∧ x.toNatClampNeg = i := by
  refine ⟨fun q => ?_, ?_⟩
  · have := (Int32.lt_iff_toInt_lt).mp q
    have z : (0 : Int32).toInt = 0 := rfl
    omega
  · show x.toInt.toNat = i
    omega
theorem go_arraylength (B : OkK km κ l Z a0 n0 R own nm bytes maxL ret) {ty : FieldType} {vs : List Value} (hd : Dc bytes pc .arraylength 1 pc') (A : AV Z h a ty vs) (hx : Int32.ofNat vs.length = x) (g : Go κ Q h k n pc' L (.int x :: st)) : Go κ Q h k n pc L (.ref a :: st) := by
  obtain ⟨dd, rfl⟩ := hd
  obtain ⟨c, A, r, s⟩ := A
  have e1 : (Int32.ofNat c.slots.size) = x := by rw [← hx, r]; simp
  subst e1
  exact go_step (fun T locs X e t q => X.arraylength B.exec (by rw [e]; exact A.1) (State.isArrayOf_alike B.warm.alike A.2.1) (g := mkF κ.m pc L (.ref a :: st)) rfl rfl (hb B.byt dd) _ q) g
theorem go_iaload (B : OkK km κ l Z a0 n0 R own nm bytes maxL ret) {vs : List Value} {i : Nat} (hd : Dc bytes pc .iaload 1 pc') (A : AV Z h a .int vs) (hi : x.toInt = (i : Int)) (hv : vs[i]? = some v) (g : Go κ Q h k n pc' L (v :: st)) : Go κ Q h k n pc L (.int x :: .ref a :: st) := by
  obtain ⟨dd, rfl⟩ := hd
  obtain ⟨c, A, r, s⟩ := A
  obtain ⟨q1, q2⟩ := nat_idx hi
  have hl : i < vs.length := (List.getElem?_eq_some_iff.mp hv).1
  exact go_step (fun T locs X e t q => X.iaload B.exec (j := x) (v := v) (by rw [e]; exact A.1) (State.isArrayOf_alike B.warm.alike A.2.1) A.2.2 (by rw [r, q2]; simp; exact ⟨Int32.not_lt.mp q1, hl⟩) (by rw [r, q2]; simpa using hv) (g := mkF κ.m pc L (.int x :: .ref a :: st)) rfl rfl (hb B.byt dd) _ q) g
theorem go_laload (B : OkK km κ l Z a0 n0 R own nm bytes maxL ret) {vs : List Value} {i : Nat} (hd : Dc bytes pc .laload 1 pc') (A : AV Z h a .long vs) (hi : x.toInt = (i : Int)) (hv : vs[i]? = some v) (g : Go κ Q h k n pc' L (v :: st)) : Go κ Q h k n pc L (.int x :: .ref a :: st) := by
  obtain ⟨dd, rfl⟩ := hd
  obtain ⟨c, A, r, s⟩ := A
  obtain ⟨q1, q2⟩ := nat_idx hi
  have hl : i < vs.length := (List.getElem?_eq_some_iff.mp hv).1
  exact go_step (fun T locs X e t q => X.laload B.exec (j := x) (v := v) (by rw [e]; exact A.1) (State.isArrayOf_alike B.warm.alike A.2.1) A.2.2 (by rw [r, q2]; simp; exact ⟨Int32.not_lt.mp q1, hl⟩) (by rw [r, q2]; simpa using hv) (g := mkF κ.m pc L (.int x :: .ref a :: st)) rfl rfl (hb B.byt dd) _ q) g
theorem go_caload (B : OkK km κ l Z a0 n0 R own nm bytes maxL ret) {vs : List Value} {i : Nat} (hd : Dc bytes pc .caload 1 pc') (A : AV Z h a .char vs) (hi : x.toInt = (i : Int)) (hv : vs[i]? = some v) (g : Go κ Q h k n pc' L (v :: st)) : Go κ Q h k n pc L (.int x :: .ref a :: st) := by
  obtain ⟨dd, rfl⟩ := hd
  obtain ⟨c, A, r, s⟩ := A
  obtain ⟨q1, q2⟩ := nat_idx hi
  have hl : i < vs.length := (List.getElem?_eq_some_iff.mp hv).1
  exact go_step (fun T locs X e t q => X.caload B.exec (j := x) (v := v) (by rw [e]; exact A.1) (State.isArrayOf_alike B.warm.alike A.2.1) A.2.2 (by rw [r, q2]; simp; exact ⟨Int32.not_lt.mp q1, hl⟩) (by rw [r, q2]; simpa using hv) (g := mkF κ.m pc L (.int x :: .ref a :: st)) rfl rfl (hb B.byt dd) _ q) g
theorem go_baload (B : OkK km κ l Z a0 n0 R own nm bytes maxL ret) {vs : List Value} {i : Nat} (hd : Dc bytes pc .baload 1 pc') (A : AV Z h a .byte vs) (hi : x.toInt = (i : Int)) (hv : vs[i]? = some v) (g : Go κ Q h k n pc' L (v :: st)) : Go κ Q h k n pc L (.int x :: .ref a :: st) := by
  obtain ⟨dd, rfl⟩ := hd
  obtain ⟨c, A, r, s⟩ := A
  obtain ⟨q1, q2⟩ := nat_idx hi
  have hl : i < vs.length := (List.getElem?_eq_some_iff.mp hv).1
  exact go_step (fun T locs X e t q => X.baloadBytes B.exec (j := x) (v := v) (by rw [e]; exact A.1) (State.isArrayOf_alike B.warm.alike A.2.1) A.2.2 (by rw [r, q2]; simp; exact ⟨Int32.not_lt.mp q1, hl⟩) (by rw [r, q2]; simpa using hv) (g := mkF κ.m pc L (.int x :: .ref a :: st)) rfl rfl (hb B.byt dd) _ q) g
theorem go_zaload (B : OkK km κ l Z a0 n0 R own nm bytes maxL ret) {vs : List Value} {i : Nat} (hd : Dc bytes pc .baload 1 pc') (A : AV Z h a .boolean vs) (hi : x.toInt = (i : Int)) (hv : vs[i]? = some v) (g : Go κ Q h k n pc' L (v :: st)) : Go κ Q h k n pc L (.int x :: .ref a :: st) := by
  obtain ⟨dd, rfl⟩ := hd
  obtain ⟨c, A, r, s⟩ := A
  obtain ⟨q1, q2⟩ := nat_idx hi
  have hl : i < vs.length := (List.getElem?_eq_some_iff.mp hv).1
  exact go_step (fun T locs X e t q => X.baloadBooleans B.exec (j := x) (v := v) (by rw [e]; exact A.1) (State.isArrayOf_alike B.warm.alike A.2.1) A.2.2 (by rw [r, q2]; simp; exact ⟨Int32.not_lt.mp q1, hl⟩) (by rw [r, q2]; simpa using hv) (g := mkF κ.m pc L (.int x :: .ref a :: st)) rfl rfl (hb B.byt dd) _ q) g
theorem go_aaload (B : OkK km κ l Z a0 n0 R own nm bytes maxL ret) {ty : FieldType} {vs : List Value} {i : Nat} (hd : Dc bytes pc .aaload 1 pc') (A : AV Z h a ty vs) (hty : ty.isReference = true) (hi : x.toInt = (i : Int)) (hv : vs[i]? = some v) (g : Go κ Q h k n pc' L (v :: st)) : Go κ Q h k n pc L (.int x :: .ref a :: st) := by
  obtain ⟨dd, rfl⟩ := hd
  obtain ⟨c, A, r, s⟩ := A
  obtain ⟨q1, q2⟩ := nat_idx hi
  have hl : i < vs.length := (List.getElem?_eq_some_iff.mp hv).1
  exact go_step (fun T locs X e t q => X.aaload B.exec (j := x) (v := v) (by rw [e]; exact A.1) (State.isArrayOf_alike B.warm.alike A.2.1) hty A.2.2 (by rw [r, q2]; simp; exact ⟨Int32.not_lt.mp q1, hl⟩) (by rw [r, q2]; simpa using hv) (g := mkF κ.m pc L (.int x :: .ref a :: st)) rfl rfl (hb B.byt dd) _ q) g
theorem go_iastore (B : OkK km κ l Z a0 n0 R own nm bytes maxL ret) {vs : List Value} {i : Nat} (hd : Dc bytes pc .iastore 1 pc') (A : AV Z h a .int vs) (hi : x.toInt = (i : Int)) (hl : i < vs.length) (ha : n0 ≤ a) (g : ∀ h', Wr h h' a i (.int y) → AV Z h' a .int (vs.set i (.int y)) → Go κ Q h' k n pc' L st) : Go κ Q h k n pc L (.int y :: .int x :: .ref a :: st) := fun T locs X N e => by
  obtain ⟨dd, rfl⟩ := hd
  have A0 := A
  obtain ⟨c, A, r, s⟩ := A
  obtain ⟨q1, q2⟩ := nat_idx hi
  obtain ⟨T', h', X', e', W, sp⟩ := stI X B.exec B.warm e A (j := x) (by rw [r, q2]; simp; exact ⟨Int32.not_lt.mp q1, hl⟩) (g := mkF κ.m pc L (.int y :: .int x :: .ref a :: st)) rfl rfl (hb B.byt dd)
  have W' : Wr h h' a i (.int y) := q2 ▸ W
  obtain ⟨t, o, h1, h2⟩ := g h' W' (A0.same W') T' _ X' (Fr.snoc X' N (B.hn ▸ ha)) e'
  exact ⟨t, o, sp _ h1, h2⟩
theorem go_lastore (B : OkK km κ l Z a0 n0 R own nm bytes maxL ret) {vs : List Value} {i : Nat} (hd : Dc bytes pc .lastore 1 pc') (A : AV Z h a .long vs) (hi : x.toInt = (i : Int)) (hl : i < vs.length) (ha : n0 ≤ a) (g : ∀ h', Wr h h' a i (.long u) → AV Z h' a .long (vs.set i (.long u)) → Go κ Q h' k n pc' L st) : Go κ Q h k n pc L (.long u :: .int x :: .ref a :: st) := fun T locs X N e => by
  obtain ⟨dd, rfl⟩ := hd
  have A0 := A
  obtain ⟨c, A, r, s⟩ := A
  obtain ⟨q1, q2⟩ := nat_idx hi
  obtain ⟨T', h', X', e', W, sp⟩ := stJ X B.exec B.warm e A (j := x) (by rw [r, q2]; simp; exact ⟨Int32.not_lt.mp q1, hl⟩) (g := mkF κ.m pc L (.long u :: .int x :: .ref a :: st)) rfl rfl (hb B.byt dd)
  have W' : Wr h h' a i (.long u) := q2 ▸ W
  obtain ⟨t, o, h1, h2⟩ := g h' W' (A0.same W') T' _ X' (Fr.snoc X' N (B.hn ▸ ha)) e'
  exact ⟨t, o, sp _ h1, h2⟩
theorem go_castore (B : OkK km κ l Z a0 n0 R own nm bytes maxL ret) {vs : List Value} {i : Nat} (hd : Dc bytes pc .castore 1 pc') (A : AV Z h a .char vs) (hi : x.toInt = (i : Int)) (hl : i < vs.length) (ha : n0 ≤ a) (g : ∀ h', Wr h h' a i (.int (nar .char y)) → AV Z h' a .char (vs.set i (.int (nar .char y))) → Go κ Q h' k n pc' L st) : Go κ Q h k n pc L (.int y :: .int x :: .ref a :: st) := fun T locs X N e => by
  obtain ⟨dd, rfl⟩ := hd
  have A0 := A
  obtain ⟨c, A, r, s⟩ := A
  obtain ⟨q1, q2⟩ := nat_idx hi
  obtain ⟨T', h', X', e', W, sp⟩ := stC X B.exec B.warm e A (j := x) (by rw [r, q2]; simp; exact ⟨Int32.not_lt.mp q1, hl⟩) (g := mkF κ.m pc L (.int y :: .int x :: .ref a :: st)) rfl rfl (hb B.byt dd)
  have W' : Wr h h' a i (.int (nar .char y)) := q2 ▸ W
  obtain ⟨t, o, h1, h2⟩ := g h' W' (A0.same W') T' _ X' (Fr.snoc X' N (B.hn ▸ ha)) e'
  exact ⟨t, o, sp _ h1, h2⟩
theorem go_bastore (B : OkK km κ l Z a0 n0 R own nm bytes maxL ret) {vs : List Value} {i : Nat} (hd : Dc bytes pc .bastore 1 pc') (A : AV Z h a .byte vs) (hi : x.toInt = (i : Int)) (hl : i < vs.length) (ha : n0 ≤ a) (g : ∀ h', Wr h h' a i (.int (nar .byte y)) → AV Z h' a .byte (vs.set i (.int (nar .byte y))) → Go κ Q h' k n pc' L st) : Go κ Q h k n pc L (.int y :: .int x :: .ref a :: st) := fun T locs X N e => by
  obtain ⟨dd, rfl⟩ := hd
  have A0 := A
  obtain ⟨c, A, r, s⟩ := A
  obtain ⟨q1, q2⟩ := nat_idx hi
  obtain ⟨T', h', X', e', W, sp⟩ := stB X B.exec B.warm e A (j := x) (by rw [r, q2]; simp; exact ⟨Int32.not_lt.mp q1, hl⟩) (g := mkF κ.m pc L (.int y :: .int x :: .ref a :: st)) rfl rfl (hb B.byt dd)
  have W' : Wr h h' a i (.int (nar .byte y)) := q2 ▸ W
  obtain ⟨t, o, h1, h2⟩ := g h' W' (A0.same W') T' _ X' (Fr.snoc X' N (B.hn ▸ ha)) e'
  exact ⟨t, o, sp _ h1, h2⟩
theorem go_zastore (B : OkK km κ l Z a0 n0 R own nm bytes maxL ret) {vs : List Value} {i : Nat} (hd : Dc bytes pc .bastore 1 pc') (A : AV Z h a .boolean vs) (hi : x.toInt = (i : Int)) (hl : i < vs.length) (ha : n0 ≤ a) (g : ∀ h', Wr h h' a i (.int (nar .boolean y)) → AV Z h' a .boolean (vs.set i (.int (nar .boolean y))) → Go κ Q h' k n pc' L st) : Go κ Q h k n pc L (.int y :: .int x :: .ref a :: st) := fun T locs X N e => by
  obtain ⟨dd, rfl⟩ := hd
  have A0 := A
  obtain ⟨c, A, r, s⟩ := A
  obtain ⟨q1, q2⟩ := nat_idx hi
  obtain ⟨T', h', X', e', W, sp⟩ := stZ X B.exec B.warm e A (j := x) (by rw [r, q2]; simp; exact ⟨Int32.not_lt.mp q1, hl⟩) (g := mkF κ.m pc L (.int y :: .int x :: .ref a :: st)) rfl rfl (hb B.byt dd)
  have W' : Wr h h' a i (.int (nar .boolean y)) := q2 ▸ W
  obtain ⟨t, o, h1, h2⟩ := g h' W' (A0.same W') T' _ X' (Fr.snoc X' N (B.hn ▸ ha)) e'
  exact ⟨t, o, sp _ h1, h2⟩
theorem go_newarray (B : OkK km κ l Z a0 n0 R own nm bytes maxL ret) {aty : ArrayType} {i cap : Nat} (hd : Dc bytes pc (.newarray aty) 2 pc') (wa : (Jvm.Cond.arrayClass (newarray.typeOf aty)).before a0 Z = true) (hi : x.toInt = (i : Int)) (hcap : i ≤ cap) (hbig : cap * 8 ≤ 536870912) (hc : k + 1 ≤ R.cells) (hl : n + cap ≤ R.slots)
    (g : ∀ h' b, b = h.size → Ext h h' → AV Z h' b (newarray.typeOf aty) (List.replicate i (defaultValue (newarray.typeOf aty))) → Exa Z h' b ("[" ++ (newarray.typeOf aty).toString) → Go κ Q h' (k + 1) (n + cap) pc' L (.ref b :: st)) : Go κ Q h k n pc L (.int x :: st) := fun T locs X N e => by
  obtain ⟨dd, rfl⟩ := hd
  obtain ⟨q1, q2⟩ := nat_idx hi
  have hcb : componentBytes (newarray.typeOf aty) ≤ 8 := by cases aty <;> decide
  have hbig' : x.toNatClampNeg * componentBytes (newarray.typeOf aty) ≤ 536870912 := Nat.le_trans (Nat.mul_le_mul (q2 ▸ hcap) hcb) hbig
  obtain ⟨cA, kA, comp, f1, f2, f3, X', sp⟩ := X.newarrayPrim B.exec (mvA B.warm wa) (g := mkF κ.m pc L (.int x :: st)) rfl (hb B.byt dd) rfl q1 hbig' (by rw [B.room]; exact hc) (by rw [B.room, q2]; omega)
  subst e
  have f1' : Z.vm.findClass ("[" ++ (newarray.typeOf aty).toString) = some cA := by rw [← B.warm.alike.findClass]; exact f1
  obtain ⟨kZ, z1, -⟩ := Vm.findClass_spec f1'
  obtain ⟨k', z2, z3⟩ := B.warm.alike.2.2 _ _ z1
  cases f2.symm.trans z2
  have f4 : kZ.kind = .array comp (newarray.typeOf aty) := by rw [← f3, z3]
  have hat : (T.heap.push { cls := cA, slots := Array.replicate x.toNatClampNeg (defaultValue (newarray.typeOf aty)), vm := .none : Cell })[T.heap.size]? = some { cls := cA, slots := Array.replicate x.toNatClampNeg (defaultValue (newarray.typeOf aty)), vm := .none } := by simp
  have hE : Ext T.heap (T.heap.push { cls := cA, slots := Array.replicate x.toNatClampNeg (defaultValue (newarray.typeOf aty)), vm := .none : Cell }) := ext_of fun a ha => by rw [Array.getElem?_push_lt ha]; exact (Array.getElem?_eq_getElem _).symm
  obtain ⟨t, o, h1, h2⟩ := g _ _ rfl hE ⟨_, ⟨hat, ⟨by simp, kZ, z1, comp, f4⟩, by simp⟩, by simp [q2], by simp; have := x.toInt_lt; omega⟩
    ⟨_, kZ, hat, f1', z1, rfl, fun q => by rw [f4] at q; cases q⟩ _ locs (X'.more (Nat.le_refl _) (by rw [q2]; omega)) N rfl
  exact ⟨t, o, sp _ h1, h2⟩
theorem go_ldcI (B : OkK km κ l Z a0 n0 R own nm bytes maxL ret) {idx : Nat} (hd : Dc bytes pc (.ldc idx) 2 pc') (wl : (Jvm.Cond.constant own idx x).before a0 Z = true) (g : Go κ Q h k n pc' L (.int x :: st)) : Go κ Q h k n pc L st := by
  obtain ⟨dd, rfl⟩ := hd
  exact go_step (fun T locs X e t q => X.ldcInt B.exec B.hown (mvT B.warm wl) (g := mkF κ.m pc L st) rfl (hb B.byt dd) _ q) g
theorem go_ldcWI (B : OkK km κ l Z a0 n0 R own nm bytes maxL ret) {idx : Nat} (hd : Dc bytes pc (.ldc_w idx) 3 pc') (wl : (Jvm.Cond.constant own idx x).before a0 Z = true) (g : Go κ Q h k n pc' L (.int x :: st)) : Go κ Q h k n pc L st := by
  obtain ⟨dd, rfl⟩ := hd
  exact go_step (fun T locs X e t q => X.ldcwInt B.exec B.hown (mvT B.warm wl) (g := mkF κ.m pc L st) rfl (hb B.byt dd) _ q) g
theorem go_ldc2J (B : OkK km κ l Z a0 n0 R own nm bytes maxL ret) {idx : Nat} (hd : Dc bytes pc (.ldc2_w idx) 3 pc') (wl : (Jvm.Cond.constantLong own idx u).before a0 Z = true) (g : Go κ Q h k n pc' L (.long u :: st)) : Go κ Q h k n pc L st := by
  obtain ⟨dd, rfl⟩ := hd
  exact go_step (fun T locs X e t q => X.ldc2Long B.exec B.hown (mvT B.warm wl) (g := mkF κ.m pc L st) rfl (hb B.byt dd) _ q) g
theorem go_initO (B : OkK km κ l Z a0 n0 R own nm bytes maxL ret) {idx W : Nat} (hd : Dc bytes pc (.invokespecial idx) 3 pc') (w1 : (Jvm.Cond.methodLink own idx Lib.objectInit).before a0 Z = true) (w2 : (Jvm.Cond.instanceMethod Lib.objectInit).before a0 Z = true) (w3 : (Jvm.Cond.code Lib.objectInit ⟨#[0xb1]⟩ 1 none).before a0 Z = true)
    (hs : L.size = maxL) (hW : (st.map fun v => v.category).sum = W) (hf : 1 ≤ R.frames) (hl : W + 12 ≤ R.locals) (g : Go κ Q h k n pc' L st) : Go κ Q h k n pc L (.ref a :: st) := fun T locs X N e => by
  obtain ⟨dd, rfl⟩ := hd
  obtain ⟨T', X', e', sp⟩ := initO X B.exec B.warm B.hown w1 w2 w3 e (g := mkF κ.m pc L (.ref a :: st)) rfl (by rw [B.mxl]; exact hs) rfl (hb B.byt dd) (by rw [B.room]; exact hf) (W := W) (by show 2 * 0 + _ ≤ _; omega) (by rw [B.room]; exact hl)
  obtain ⟨t, o, h1, h2⟩ := g T' locs X' N e'
  exact ⟨t, o, sp _ h1, h2⟩
section Call
variable {y' : MethodName} {idx W : Nat} {bytes' : ByteArray} {maxL' : Nat} {ret' : Option FieldType} {rm : Room} {as' : Array Value} {argsL : List Value} {Q' : Option Value → Heap → Prop} {ps : List FieldType} {rt : Option FieldType}
theorem go_static (B : OkK km κ l Z a0 n0 R own nm bytes maxL ret) (hd : Dc bytes pc (.invokestatic idx) 3 pc') (w1 : (Jvm.Cond.methodLink own idx y').before a0 Z = true) (w2 : (Jvm.Cond.static y').before a0 Z = true) (w3 : (Jvm.Cond.initialized y'.cls).before a0 Z = true) (w4 : (Jvm.Cond.code y' bytes' maxL' ret').before a0 Z = true)
    (hy : y'.cls ≠ "java/lang/invoke/MethodHandle" ∧ y'.cls ≠ "java/lang/invoke/VarHandle") (C : Ct l Z n0 y' bytes' maxL' ret' [] rm argsL.toArray h Q') (pd : parseMethodDescriptor y'.desc = some ⟨ps, rt⟩) (hlen : argsL.length = ps.length) (hst : st' = argsL.reverse ++ st) (hs : L.size = maxL)
    (hW : (st.map fun v => v.category).sum = W) (hf : rm.frames + 1 ≤ R.frames) (hl : W + (maxL' + 11) + rm.locals ≤ R.locals) (hc : k + rm.cells ≤ R.cells) (hn : n + rm.slots ≤ R.slots)
    (g : ∀ v h', Q' v h' → Go κ Q h' (k + rm.cells) (n + rm.slots) pc' L (v.toList ++ st)) : Go κ Q h k n pc L st' := fun T locs X N e => by
  obtain ⟨dd, rfl⟩ := hd
  have C' : Ct κ.l Z n0 y' bytes' maxL' ret' [] rm argsL.toArray h Q' := B.hl.symm ▸ C
  obtain ⟨vv, _, ⟨T', L2, k2, n2⟩, -, X', ⟨Lc, hQ, l2, y2, z2⟩, sp⟩ := Jvm.LawKit.callS X B.exec (y := y') B.hown (mvT B.warm w1) (mvT B.warm w2) (mvT B.warm w3) (mvT B.warm w4) hy
    (backOf (Q := fun v h L => Q' v h ∧ Fr n0 L) (W := W) C' B.warm w4 w3 (by rw [B.room]; exact hf) (by rw [B.room]; exact hl)) (g := mkF κ.m pc L st') rfl (by rw [B.mxl]; exact hs) (argsL := argsL) (rest := st) (lenOf pd hlen) hst (by show 2 * 0 + _ ≤ _; omega) (hb B.byt dd)
    (fun _ _ => ⟨rfl, e, by rw [B.room]; exact hc, by rw [B.room]; exact hn⟩)
  dsimp only [Pt.U, Pt.locs, Pt.cells, Pt.slots] at X' l2 y2 z2 sp hQ
  subst l2 y2 z2
  obtain ⟨t, o, h1, h2⟩ := g vv T'.heap hQ.1 T' _ X' (Fr.app N (B.hn.symm ▸ hQ.2)) rfl
  exact ⟨t, o, sp _ h1, h2⟩
theorem go_special (B : OkK km κ l Z a0 n0 R own nm bytes maxL ret) (hd : Dc bytes pc (.invokespecial idx) 3 pc') (hi : y'.name = "<init>") (w1 : (Jvm.Cond.methodLink own idx y').before a0 Z = true) (w2 : (Jvm.Cond.instanceMethod y').before a0 Z = true) (w3 : (Jvm.Cond.initialized y'.cls).before a0 Z = true) (w4 : (Jvm.Cond.code y' bytes' maxL' none).before a0 Z = true)
    (hy : y'.cls ≠ "java/lang/invoke/MethodHandle" ∧ y'.cls ≠ "java/lang/invoke/VarHandle") (C : Ct l Z n0 y' bytes' maxL' none [] rm (.ref a :: argsL).toArray h Q') (pd : parseMethodDescriptor y'.desc = some ⟨ps, rt⟩) (hlen : argsL.length = ps.length) (hst : st' = argsL.reverse ++ .ref a :: st) (hs : L.size = maxL)
    (hW : (st.map fun v => v.category).sum = W) (hf : rm.frames + 1 ≤ R.frames) (hl : W + (maxL' + 11) + rm.locals ≤ R.locals) (hc : k + rm.cells ≤ R.cells) (hn : n + rm.slots ≤ R.slots)
    (g : ∀ v h', Q' v h' → Go κ Q h' (k + rm.cells) (n + rm.slots) pc' L (v.toList ++ st)) : Go κ Q h k n pc L st' := fun T locs X N e => by
  obtain ⟨dd, rfl⟩ := hd
  have C' : Ct κ.l Z n0 y' bytes' maxL' none [] rm (.ref a :: argsL).toArray h Q' := B.hl.symm ▸ C
  obtain ⟨vv, _, ⟨T', L2, k2, n2⟩, -, X', ⟨Lc, hQ, l2, y2, z2⟩, sp⟩ := X.specialBack B.exec (y := y') hi B.hown (mvT B.warm w1) (mvT B.warm w2) (mvT B.warm w4) hy
    (backOf (Q := fun v h L => Q' v h ∧ Fr n0 L) (W := W) C' B.warm w4 w3 (by rw [B.room]; exact hf) (by rw [B.room]; exact hl)) (g := mkF κ.m pc L st') rfl (by rw [B.mxl]; exact hs) (Steps.refl _) (a := a) (argsL := argsL) (rest := st) (lenOf pd hlen) hst (by show 2 * 0 + _ ≤ _; omega) (hb B.byt dd)
    (fun _ _ => ⟨rfl, e, by rw [B.room]; exact hc, by rw [B.room]; exact hn⟩)
  dsimp only [Pt.U, Pt.locs, Pt.cells, Pt.slots] at X' l2 y2 z2 sp hQ
  subst l2 y2 z2
  obtain ⟨t, o, h1, h2⟩ := g vv T'.heap hQ.1 T' _ X' (Fr.app N (B.hn.symm ▸ hQ.2)) rfl
  exact ⟨t, o, sp.trans h1, h2⟩
theorem go_virtual (B : OkK km κ l Z a0 n0 R own nm bytes maxL ret) {C0 : String} (hd : Dc bytes pc (.invokevirtual idx) 3 pc') (w1 : (Jvm.Cond.methodLink own idx y').before a0 Z = true) (w2 : (Jvm.Cond.declares y').before a0 Z = true) (w5 : (Jvm.Cond.selects C0 y' y').before a0 Z = true) (w6 : (Jvm.Cond.instanceMethod y').before a0 Z = true) (w3 : (Jvm.Cond.initialized y'.cls).before a0 Z = true) (w4 : (Jvm.Cond.code y' bytes' maxL' ret').before a0 Z = true)
    (hy : y'.cls ≠ "java/lang/invoke/MethodHandle" ∧ y'.cls ≠ "java/lang/invoke/VarHandle") (E : Exa Z h a C0) (C : Ct l Z n0 y' bytes' maxL' ret' [] rm (.ref a :: argsL).toArray h Q') (pd : parseMethodDescriptor y'.desc = some ⟨ps, rt⟩) (hlen : argsL.length = ps.length) (hst : st' = argsL.reverse ++ .ref a :: st) (hs : L.size = maxL)
    (hW : (st.map fun v => v.category).sum = W) (hf : rm.frames + 1 ≤ R.frames) (hl : W + (maxL' + 11) + rm.locals ≤ R.locals) (hc : k + rm.cells ≤ R.cells) (hn : n + rm.slots ≤ R.slots)
    (g : ∀ v h', Q' v h' → Go κ Q h' (k + rm.cells) (n + rm.slots) pc' L (v.toList ++ st)) : Go κ Q h k n pc L st' := fun T locs X N e => by
  obtain ⟨dd, rfl⟩ := hd
  have C' : Ct κ.l Z n0 y' bytes' maxL' ret' [] rm (.ref a :: argsL).toArray h Q' := B.hl.symm ▸ C
  obtain ⟨cq, kq, qa, qb, qc⟩ := isOf B.warm e E
  obtain ⟨vv, _, ⟨T', L2, k2, n2⟩, -, X', ⟨Lc, hQ, l2, y2, z2⟩, sp⟩ := X.virtualBack B.exec (y := y') (z := y') B.hown (mvT B.warm w1) (mvT B.warm w2) (notFace_of_selects (args := #[]) (mvT B.warm w5)) (mvT B.warm w5) (mvT B.warm w6) hy
    (backOf (Q := fun v h L => Q' v h ∧ Fr n0 L) (W := W) C' B.warm w4 w3 (by rw [B.room]; exact hf) (by rw [B.room]; exact hl)) qa qc (g := mkF κ.m pc L st') rfl (by rw [B.mxl]; exact hs) (Steps.refl _) (argsL := argsL) (rest := st) (lenOf pd hlen) hst (by show 2 * 0 + _ ≤ _; omega) (hb B.byt dd)
    (fun _ _ => ⟨rfl, e, by rw [B.room]; exact hc, by rw [B.room]; exact hn⟩)
  dsimp only [Pt.U, Pt.locs, Pt.cells, Pt.slots] at X' l2 y2 z2 sp hQ
  subst l2 y2 z2
  obtain ⟨t, o, h1, h2⟩ := g vv T'.heap hQ.1 T' _ X' (Fr.app N (B.hn.symm ▸ hQ.2)) rfl
  exact ⟨t, o, sp.trans h1, h2⟩
end Call
theorem go_end (B : OkK km κ l Z a0 n0 R own nm bytes maxL ret) {vv : Option Value} (hk : k ≤ R.cells) (hn : n ≤ R.slots) (hq : Q vv h) (hv : ret = none → vv = none) (hkm : km ≤ h.size)
    (hs : ∀ (T : State) (locs : List Loc) (fs : List Frame), Stand κ.p κ.l κ.e κ.R κ.s κ.m κ.args κ.below κ.meth κ.c T locs k n → (∀ (f : JFrame) (acts : List Action), f.method = κ.m → f.locked = none → f.entered = [] → (doReturn κ.e (T.setTop f) acts vv).1 = T.setFrames fs) → Steps κ.p.tables κ.e κ.below (T.setTop (mkF κ.m pc L st)) (T.setFrames fs)) : Go κ Q h k n pc L st := fun T locs X N e => by
  obtain ⟨fs, hr, hrun, hended, hW, hsame⟩ := X.leave (v := vv) (fun q => hv (B.rets.symm.trans q)) B.nolock
  exact ⟨_, _, hs T locs fs X hr, hrun, hended, _, _, rfl, ⟨by show Q vv T.heap; rw [e]; exact hq, N⟩, B.hE _ _ _ ⟨⟨_, rfl⟩, hW, hsame.mono (by rw [B.room]; exact hk) (by rw [B.room]; exact hn)⟩ (by show κ.kmin ≤ T.heap.size; rw [e, B.hkm]; exact hkm)⟩
theorem go_ireturn (B : OkK km κ l Z a0 n0 R own nm bytes maxL (some .int)) (hd : Dc bytes pc .ireturn 1 pc') (hk : k ≤ R.cells) (hn : n ≤ R.slots) (hq : Q (some (.int x)) h) (hkm : km ≤ h.size := by first | exact Nat.zero_le _ | assumption) : Go κ Q h k n pc L (.int x :: st) :=
  go_end B hk hn hq (fun q => by cases q) hkm (fun T locs fs X hr => retOut X B.exec (t := .int) (i := .ireturn) B.rets rfl (Or.inl ⟨rfl, Or.inl rfl, x, rfl⟩) (hb B.byt hd.1) hr)
theorem go_zreturn (B : OkK km κ l Z a0 n0 R own nm bytes maxL (some .boolean)) (hd : Dc bytes pc .ireturn 1 pc') (hk : k ≤ R.cells) (hn : n ≤ R.slots) (hz : x &&& 1 = y) (hq : Q (some (.int y)) h) (hkm : km ≤ h.size := by first | exact Nat.zero_le _ | assumption) : Go κ Q h k n pc L (.int x :: st) := by
  subst hz
  exact go_end B hk hn hq (fun q => by cases q) hkm (fun T locs fs X hr => retN X B.exec (t := .boolean) B.rets (by simp) (hb B.byt hd.1) hr)
theorem go_breturn (B : OkK km κ l Z a0 n0 R own nm bytes maxL (some .byte)) (hd : Dc bytes pc .ireturn 1 pc') (hk : k ≤ R.cells) (hn : n ≤ R.slots) (hz : x.toInt8.toInt32 = y) (hq : Q (some (.int y)) h) (hkm : km ≤ h.size := by first | exact Nat.zero_le _ | assumption) : Go κ Q h k n pc L (.int x :: st) := by
  subst hz
  exact go_end B hk hn hq (fun q => by cases q) hkm (fun T locs fs X hr => retN X B.exec (t := .byte) B.rets (by simp) (hb B.byt hd.1) hr)
theorem go_lreturn (B : OkK km κ l Z a0 n0 R own nm bytes maxL (some .long)) (hd : Dc bytes pc .lreturn 1 pc') (hk : k ≤ R.cells) (hn : n ≤ R.slots) (hq : Q (some (.long u)) h) (hkm : km ≤ h.size := by first | exact Nat.zero_le _ | assumption) : Go κ Q h k n pc L (.long u :: st) :=
  go_end B hk hn hq (fun q => by cases q) hkm (fun T locs fs X hr => retOut X B.exec (t := .long) (i := .lreturn) B.rets rfl (Or.inr (Or.inl ⟨rfl, rfl, u, rfl⟩)) (hb B.byt hd.1) hr)
theorem go_areturn {ty : FieldType} (B : OkK km κ l Z a0 n0 R own nm bytes maxL (some ty)) (hd : Dc bytes pc .areturn 1 pc') (hty : ty.isReference = true) (hnr : narrow ty v = v) (hv : v.isRef = true) (hk : k ≤ R.cells) (hn : n ≤ R.slots) (hq : Q (some v) h) (hkm : km ≤ h.size := by first | exact Nat.zero_le _ | assumption) : Go κ Q h k n pc L (v :: st) :=
  go_end B hk hn hq (fun q => by cases q) hkm (fun T locs fs X hr => retOut X B.exec (t := ty) (i := .areturn) B.rets hnr (Or.inr (Or.inr (Or.inr (Or.inr ⟨rfl, hty, hv⟩)))) (hb B.byt hd.1) hr)
theorem go_return (B : OkK km κ l Z a0 n0 R own nm bytes maxL none) (hd : Dc bytes pc .return_ 1 pc') (hk : k ≤ R.cells) (hn : n ≤ R.slots) (hq : Q none h) (hkm : km ≤ h.size := by first | exact Nat.zero_le _ | assumption) : Go κ Q h k n pc L [] :=
  go_end B hk hn hq (fun _ => rfl) hkm (fun T locs fs X hr => X.returnOut B.exec B.rets (hb B.byt hd.1) hr)
end G
end Jvm.OwnGo
namespace Jvm.OwnGo
open Sem ClassFile Op Lib Jvm.Stand Jvm.Free Jvm.LawKit Jvm.RoadKit
theorem i_lt {x y : Int32} {i j : Int} (hx : x.toInt = i) (hy : y.toInt = j) (h : i < j) : x < y := Int32.lt_iff_toInt_lt.mpr (by omega)
theorem i_nlt {x y : Int32} {i j : Int} (hx : x.toInt = i) (hy : y.toInt = j) (h : j ≤ i) : ¬ x < y := fun q => by have := Int32.lt_iff_toInt_lt.mp q; omega
theorem i_of_lt {x y : Int32} {i j : Int} (hx : x.toInt = i) (hy : y.toInt = j) (h : x < y) : i < j := by have := Int32.lt_iff_toInt_lt.mp h; omega
theorem i_of_nlt {x y : Int32} {i j : Int} (hx : x.toInt = i) (hy : y.toInt = j) (h : ¬ x < y) : j ≤ i := by
  have := Int32.le_iff_toInt_le.mp (Int32.not_lt.mp h)
  omega
theorem i_eq {x y : Int32} {i : Int} (hx : x.toInt = i) (hy : y.toInt = i) : x = y := Int32.toInt_inj.mp (hx.trans hy.symm)
theorem i_ne {x y : Int32} {i j : Int} (hx : x.toInt = i) (hy : y.toInt = j) (h : i ≠ j) : ¬ x = y := fun q => h (by rw [← hx, ← hy, q])
theorem i_of_ne {x y : Int32} {i j : Int} (hx : x.toInt = i) (hy : y.toInt = j) (h : ¬ x = y) : i ≠ j := fun q => h (i_eq hx (hy.trans q.symm))
theorem i_add {x y : Int32} {i j : Int} (hx : x.toInt = i) (hy : y.toInt = j) (h1 : -2147483648 ≤ i + j) (h2 : i + j < 2147483648) : (x + y).toInt = i + j := by
  rw [Int32.toInt_add, hx, hy]; exact Int.bmod_eq_of_le (by omega) (by omega)
theorem i_sub {x y : Int32} {i j : Int} (hx : x.toInt = i) (hy : y.toInt = j) (h1 : -2147483648 ≤ i - j) (h2 : i - j < 2147483648) : (x - y).toInt = i - j := by
  rw [Int32.toInt_sub, hx, hy]; exact Int.bmod_eq_of_le (by omega) (by omega)
theorem i_mul {x y : Int32} {i j : Int} (hx : x.toInt = i) (hy : y.toInt = j) (h1 : -2147483648 ≤ i * j) (h2 : i * j < 2147483648) : (x * y).toInt = i * j := by
  rw [Int32.toInt_mul, hx, hy]; exact Int.bmod_eq_of_le (by omega) (by omega)
/-- x & m for a mask m that isn't negative -/
theorem i_and (x m : Int32) (hm : 0 ≤ m.toInt) : 0 ≤ (x &&& m).toInt ∧ (x &&& m).toInt ≤ m.toInt := by
  have h1 : ¬ (x &&& m) < 0 := by
    rw [XT.and_neg32]
    exact fun q => by have := (XT.negI32 _).mp q.2; omega
  have h2 : 0 ≤ (x &&& m).toInt := by
    have := mt (XT.negI32 _).mpr h1
    omega
  refine ⟨h2, ?_⟩
  have e1 : (x &&& m).toInt = ((x &&& m).toBitVec.toNat : Int) := by
    show (x &&& m).toBitVec.toInt = _
    rw [BitVec.toInt_eq_toNat_cond]
    split
    · rfl
    · rename_i q
      have h3 : (x &&& m).toBitVec.toInt = _ := BitVec.toInt_eq_toNat_cond _
      rw [if_neg q] at h3
      have h4 : 0 ≤ (x &&& m).toBitVec.toInt := h2
      have := (x &&& m).toBitVec.isLt
      omega
  have e2 : m.toInt = (m.toBitVec.toNat : Int) := by
    show m.toBitVec.toInt = _
    rw [BitVec.toInt_eq_toNat_cond]
    split
    · rfl
    · rename_i q
      have h3 : m.toBitVec.toInt = _ := BitVec.toInt_eq_toNat_cond _
      rw [if_neg q] at h3
      have h4 : 0 ≤ m.toBitVec.toInt := hm
      have := m.toBitVec.isLt
      omega
  rw [e1, e2, Int32.toBitVec_and, BitVec.toNat_and]
  exact Int.ofNat_le.mpr Nat.and_le_right
theorem i_mod {x y : Int32} {i j : Int} (hx : x.toInt = i) (hy : y.toInt = j) (hi : 0 ≤ i) (hj : 0 < j) : (x % y).toInt = i % j := by
  rw [Int32.toInt_mod, hx, hy, Int.tmod_eq_emod_of_nonneg hi]
theorem i_nat {x : Int32} (h : 0 ≤ x.toInt) : ∃ n : Nat, x.toInt = (n : Int) ∧ n < 2147483648 := ⟨x.toInt.toNat, by omega, by have := x.toInt_lt; omega⟩
theorem i_ofNat {n : Nat} (h : n < 2147483648) : (Int32.ofNat n).toInt = (n : Int) := Int32.toInt_ofNat_of_lt h
end Jvm.OwnGo
namespace Jvm.OwnGo
open Sem ClassFile Op Lib Jvm.Stand Jvm.Free Jvm.LawKit Jvm.RoadKit
section G
variable {km : Nat} {κ : Cx} {l : Launch} {Z : State} {a0 : Array Value} {n0 : Nat} {R : Room} {own nm : String} {bytes : ByteArray} {maxL : Nat} {ret : Option FieldType} {Q : Option Value → Heap → Prop} {h : Heap} {k n pc pc' pc1 pc2 : Nat} {L L' : Array Slot} {st st' : List Value} {o : Int} {x y : Int32} {u w : Int64} {a b : Addr} {v v' : Value}
theorem fitC_of {c : Cell} {ty : FieldType} (A : Arr Z h a c ty) (hv : ∀ v ∈ c.slots.toList, fits ty v = true) : FitC Z c := fun i v q => by
  obtain ⟨-, kk, hk, comp, hkind⟩ := A.2.1
  have m : v ∈ c.slots.toList := by
    obtain ⟨hi, rfl⟩ := Array.getElem?_eq_some_iff.mp q
    exact Array.mem_toList_iff.mpr (Array.getElem_mem hi)
  simp [State.fitsSlot, State.slotType?, hk, hkind, hv v m]
/-- array.clone() -/
theorem go_clone (B : OkK km κ l Z a0 n0 R own nm bytes maxL ret) {ad : String} {idx W cap : Nat} {ty : FieldType} {vs : List Value} (hd : Dc bytes pc (.invokevirtual idx) 3 pc')
    (w1 : (Jvm.Cond.methodLink own idx ⟨ad, "clone", "()Ljava/lang/Object;"⟩).before a0 Z = true) (w2 : (Jvm.Cond.sameMethod ad "java/lang/Object" "clone" "()Ljava/lang/Object;").before a0 Z = true) (w3 : (Jvm.Cond.native ⟨"java/lang/Object", "clone", "()Ljava/lang/Object;"⟩).before a0 Z = true)
    (w4 : (Jvm.Cond.instanceMethod ⟨"java/lang/Object", "clone", "()Ljava/lang/Object;"⟩).before a0 Z = true) (w5 : (Jvm.Cond.selects ad ⟨ad, "clone", "()Ljava/lang/Object;"⟩ ⟨"java/lang/Object", "clone", "()Ljava/lang/Object;"⟩).before a0 Z = true) (w6 : (Jvm.Cond.castable ad "java/lang/Cloneable").before a0 Z = true)
    (A : AV Z h a ty vs) (E : Exa Z h a ad) (hv : ∀ v ∈ vs, fits ty v = true) (hs : L.size = maxL) (hW : (st.map fun v => v.category).sum = W) (hf : 1 ≤ R.frames) (hl : W + 14 ≤ R.locals) (hcap : vs.length ≤ cap) (hc : k + 1 ≤ R.cells) (hsl : n + cap ≤ R.slots)
    (g : ∀ h' b, b = h.size → Ext h h' → AV Z h' b ty vs → Exa Z h' b ad → Go κ Q h' (k + 1) (n + cap) pc' L (.ref b :: st)) : Go κ Q h k n pc L (.ref a :: st) := fun T locs X N e => by
  obtain ⟨dd, rfl⟩ := hd
  obtain ⟨c, A, r, s⟩ := A
  obtain ⟨T', h', X', e', E', A', C', sp⟩ := cloneA X B.exec B.warm B.hown w1 w2 w3 w4 w5 w6 e A E (fitC_of A (by rw [r]; simpa using hv)) (g := mkF κ.m pc L (.ref a :: st)) rfl (by rw [B.mxl]; exact hs) rfl (hb B.byt dd) (by rw [B.room]; exact hf) (W := W) (cap := cap) (by show 2 * 0 + _ ≤ _; omega) (by rw [B.room]; exact hl) (by rw [r]; simpa using hcap) (by rw [B.room]; exact hc) (by rw [B.room]; exact hsl)
  obtain ⟨t, o, h1, h2⟩ := g h' _ rfl E' ⟨_, A', r, s⟩ C' T' locs X' N e'
  exact ⟨t, o, sp _ h1, h2⟩
theorem go_checkcast (B : OkK km κ l Z a0 n0 R own nm bytes maxL ret) {K : String} {idx : Nat} (hd : Dc bytes pc (.checkcast idx) 3 pc') (wl : (Jvm.Cond.classLink own idx K).before a0 Z = true) (F : Ins Z h a K true) (g : Go κ Q h k n pc' L (.ref a :: st)) : Go κ Q h k n pc L (.ref a :: st) := fun T locs X N e => by
  obtain ⟨dd, rfl⟩ := hd
  obtain ⟨T', X', e', sp⟩ := castY X B.exec B.warm B.hown wl e F (g := mkF κ.m pc L (.ref a :: st)) rfl rfl (hb B.byt dd)
  obtain ⟨t, o, h1, h2⟩ := g T' locs X' N e'
  exact ⟨t, o, sp _ h1, h2⟩
theorem AV.arv {ty : FieldType} {vs : List Value} {d : Value} (A : AV Z h a ty vs) (hv : ∀ v ∈ vs, fits ty v = true) : ∃ kk, Arv Z h a kk ty (Int32.ofNat vs.length) vs d := by
  obtain ⟨c, A, r, s⟩ := A
  have e1 : (Int32.ofNat vs.length).toInt = (vs.length : Int) := Int32.toInt_ofNat_of_lt s
  obtain ⟨q1, q2⟩ := nat_idx e1
  refine ⟨_, c, A, rfl, by rw [r, q2]; simp, q1, fun i hi => ?_, fun i hi => ?_⟩
  · rw [r] at hi ⊢
    have hi' : i < vs.length := by simpa using hi
    simp [List.getD, hi']
  · rw [r] at hi
    have hi' : i < vs.length := by simpa using hi
    have e : vs.getD i d = vs[i] := by simp [List.getD, hi']
    rw [e]
    exact hv _ (List.getElem_mem hi')
theorem AV.of_arv {ty : FieldType} {vs : List Value} {d : Value} {kk : ClassId} {z : Int32} (F : Arv Z h a kk ty z vs d) (e : vs.length = z.toNatClampNeg) : AV Z h a ty vs := by
  obtain ⟨c, A, -, S, N, H, -⟩ := F
  refine ⟨c, A, ?_, by rw [e]; exact (back32 N).2⟩
  apply Array.ext_getElem?
  intro i
  rcases Nat.lt_or_ge i vs.length with q | q
  · rw [H i (by omega)]; simp [List.getD, q]
  · rw [Array.getElem?_eq_none (by omega)]; simp [q]
/-- System.arraycopy between two arrays of one primitive kind: from place sp on, dc places, to place dp on -/
theorem go_arraycopy (B : OkK km κ l Z a0 n0 R own nm bytes maxL ret) {idx W si di ni : Nat} {ty : FieldType} {vs ws : List Value} {sp dp cn : Int32} (hd : Dc bytes pc (.invokestatic idx) 3 pc')
    (w1 : (Jvm.Cond.methodLink own idx Jvm.Stand.acN).before a0 Z = true) (w2 : (Jvm.Cond.native Jvm.Stand.acN).before a0 Z = true) (w3 : (Jvm.Cond.static Jvm.Stand.acN).before a0 Z = true) (w4 : (Jvm.Cond.initialized "java/lang/System").before a0 Z = true)
    (A : AV Z h a ty vs) (A2 : AV Z h b ty ws) (hp : refKind ty = false) (hv : ∀ v ∈ vs, fits ty v = true) (hw : ∀ v ∈ ws, fits ty v = true) (hsp : sp.toInt = (si : Int)) (hdp : dp.toInt = (di : Int)) (hcn : cn.toInt = (ni : Int)) (h4 : si + ni ≤ vs.length) (h5 : di + ni ≤ ws.length) (ge : n0 ≤ b)
    (hs : L.size = maxL) (hW : (st.map fun v => v.category).sum = W) (hf : 1 ≤ R.frames) (hl : W + 18 ≤ R.locals)
    (g : ∀ h', Keep h h' [b] → AV Z h' b ty (ws.take di ++ (vs.drop si).take ni ++ ws.drop (di + ni)) → Go κ Q h' k n pc' L st) : Go κ Q h k n pc L (.int cn :: .int dp :: .ref b :: .int sp :: .ref a :: st) := fun T locs X N e => by
  obtain ⟨dd, rfl⟩ := hd
  obtain ⟨k1, F1⟩ := A.arv (d := .null) hv
  obtain ⟨k2, F2⟩ := A2.arv (d := .null) hw
  obtain ⟨p1, p2⟩ := nat_idx hsp
  obtain ⟨d1, d2⟩ := nat_idx hdp
  obtain ⟨m1, m2⟩ := nat_idx hcn
  have eA : (Int32.ofNat vs.length).toNatClampNeg = vs.length := (nat_idx (Int32.toInt_ofNat_of_lt A.len)).2
  have eB : (Int32.ofNat ws.length).toNatClampNeg = ws.length := (nat_idx (Int32.toInt_ofNat_of_lt A2.len)).2
  have hus : (vs.drop si).take ni = (List.range cn.toNatClampNeg).map fun i => vs.getD (sp.toNatClampNeg + i) .null := by
    rw [m2, p2]
    apply List.ext_getElem?
    intro i
    rcases Nat.lt_or_ge i ni with q | q
    · rw [List.getElem?_take_of_lt q, List.getElem?_drop]
      simp only [List.getElem?_map, List.getElem?_range q, Option.map_some, List.getD]
      rw [List.getElem?_eq_getElem (by omega)]; rfl
    · rw [List.getElem?_eq_none (by simp; omega), List.getElem?_eq_none (by simp; omega)]
  obtain ⟨T', h', L2, X', e', N', K, F3, sp'⟩ := cpA X B.exec B.warm B.hown w1 w2 w3 w4 e F1 F2 (Or.inl ⟨rfl, hp⟩) p1 d1 m1 (by rw [p2, m2, eA]; exact h4) (by rw [d2, m2, eB]; exact h5) hus (by rw [d2, m2]; exact h5) N (B.hn ▸ ge) (g := mkF κ.m pc L (.int cn :: .int dp :: .ref b :: .int sp :: .ref a :: st)) rfl (by rw [B.mxl]; exact hs) rfl (hb B.byt dd) (by rw [B.room]; exact hf) (W := W) (by show 2 * 0 + _ ≤ _; omega) (by rw [B.room]; exact hl)
  rw [d2, m2] at F3
  have F4 := AV.of_arv F3 (by rw [eB]; simp; omega)
  obtain ⟨t, o, h1, h2⟩ := g h' K F4 T' _ X' N' e'
  exact ⟨t, o, sp' _ h1, h2⟩
end G
end Jvm.OwnGo
namespace Jvm.OwnGo
open Sem ClassFile Op Lib Jvm.Stand Jvm.Free Jvm.LawKit Jvm.RoadKit
theorem go_instanceof {km : Nat} {κ : Cx} {l : Launch} {Z : State} {a0 : Array Value} {n0 : Nat} {R : Room} {own nm : String} {bytes : ByteArray} {maxL : Nat} {ret : Option FieldType} {Q : Option Value → Heap → Prop} {h : Heap} {k n pc pc' : Nat} {L : Array Slot} {st : List Value} {a : Addr} (B : OkK km κ l Z a0 n0 R own nm bytes maxL ret) {K : String} {idx : Nat} (hd : Dc bytes pc (.instanceof idx) 3 pc') (wl : (Jvm.Cond.classLink own idx K).before a0 Z = true) (F : Ins Z h a K true) (g : Go κ Q h k n pc' L (.int 1 :: st)) : Go κ Q h k n pc L (.ref a :: st) := fun T locs X N e => by
  obtain ⟨dd, rfl⟩ := hd
  obtain ⟨T', X', e', sp⟩ := instY X B.exec B.warm B.hown wl e F (g := mkF κ.m pc L (.ref a :: st)) rfl rfl (hb B.byt dd)
  obtain ⟨t, o, h1, h2⟩ := g T' locs X' N e'
  exact ⟨t, o, sp _ h1, h2⟩
end Jvm.OwnGo
namespace Jvm.OwnGo
open Sem ClassFile Op Lib Jvm.Stand Jvm.Free Jvm.LawKit Jvm.RoadKit
/-- a cell that is no class's statics -/
def Nst (h : Heap) (x : Addr) : Prop := ∃ c : Cell, h[x]? = some c ∧ c.vm.isStatics = false
theorem nst_exa {Z : State} {h : Heap} {a : Addr} {C : String} (E : Exa Z h a C) : Nst h a := by obtain ⟨c, k, h1, -, -, h4, -⟩ := E; exact ⟨c, h1, h4⟩
theorem sta_keep {Z : State} {h h' : Heap} {C n d : String} {v : Value} {ws : List Addr} (F : Sta Z h C n d v) (K : Keep h h' ws) (q : ∀ x ∈ ws, Nst h x) : Sta Z h' C n d v := by
  obtain ⟨cf, i, k, f, st, cell, h1, h2, h3, h4, h5, h6, h7⟩ := F
  refine ⟨cf, i, k, f, st, cell, h1, h2, h3, h4, K.2.1 st cell h5 fun m => ?_, h6, h7⟩
  obtain ⟨c, e1, e2⟩ := q st m
  cases h5.symm.trans e1
  rw [h6] at e2
  cases e2
end Jvm.OwnGo
namespace Jvm.Pilot.@@N@@
open Jvm Jvm.ClassFile Sem Op Lib Jvm.Free Jvm.Stand Jvm.LawKit Jvm.RoadKit Bundle Jvm.Pilot.@@N@@.Jvm.D Jvm.OwnGo
def Wd (a0 : Array Value) (Z : State) : Prop := ∀ d ∈ tables_1, d.before a0 Z = true
def own_sel (m p w i : Int32) : Int32 := if i < p ∧ (XT.ushr m i &&& (1 : Int32)) = w then 1 else 0
def own_b (t : Bool) : Int32 := if t then 1 else 0
def own_pk : List Bool → Nat → List Int32
  | [], _ => []
  | true :: r, i => Int32.ofNat i :: own_pk r (i + 1)
  | false :: r, i => own_pk r (i + 1)
def own_pn (i t0 : Nat) : Nat := i
/-- the array while it is filled: the picks among the first i places, then zeros -/
def own_ca (t : List Bool) (i : Nat) : List Int32 := own_pk (t.take i) 0 ++ List.replicate ((own_pk t 0).length - (own_pk (t.take i) 0).length) 0
def own_c (t : List Bool) (i : Nat) : Nat := (own_pk (t.take i) 0).length
def own_v (xs : List Int32) : List Value := xs.map Value.int
theorem own_v_len (xs : List Int32) : (own_v xs).length = xs.length := by simp [own_v]
theorem own_v_set (xs : List Int32) (j : Nat) (y : Int32) : (own_v xs).set j (.int y) = own_v (xs.set j y) := by simp [own_v, List.map_set]
theorem own_v_rep (n : Nat) : List.replicate n (Value.int 0) = own_v (List.replicate n 0) := by simp [own_v]
theorem own_v_at (xs : List Int32) (i : Nat) (h : i < xs.length) : (own_v xs)[i]? = some (.int (xs.getD i 0)) := by simp [own_v, List.getD, h]
theorem own_bt {t : Bool} (h : own_b t = 1) : t = true := by cases t <;> simp_all [own_b]
theorem own_bf {t : Bool} (h : ¬ own_b t = 1) : t = false := by cases t <;> simp_all [own_b]
theorem own_sum (t0 t1 t2 t3 t4 t5 : Bool) : (own_b t0 + own_b t1 + own_b t2 + own_b t3 + own_b t4 + own_b t5).toInt = (((own_pk [t0, t1, t2, t3, t4, t5] 0).length : Nat) : Int) := by
  cases t0 <;> cases t1 <;> cases t2 <;> cases t3 <;> cases t4 <;> cases t5 <;> decide
theorem own_pk_le (t0 t1 t2 t3 t4 t5 : Bool) : (own_pk [t0, t1, t2, t3, t4, t5] 0).length ≤ 6 := by
  cases t0 <;> cases t1 <;> cases t2 <;> cases t3 <;> cases t4 <;> cases t5 <;> decide
theorem own_ca_0 (t : List Bool) : List.replicate (own_pk t 0).length (0 : Int32) = own_ca t 0 := by simp [own_ca, own_pk]
theorem own_c_0 (t : List Bool) : own_c t 0 = 0 := by simp [own_c, own_pk]
theorem own_f0 (t0 t1 t2 t3 t4 t5 : Bool) (h : t0 = false) : own_ca [t0, t1, t2, t3, t4, t5] 1 = own_ca [t0, t1, t2, t3, t4, t5] 0 ∧ own_c [t0, t1, t2, t3, t4, t5] 1 = own_c [t0, t1, t2, t3, t4, t5] 0 := by
  subst h
  cases t1 <;> cases t2 <;> cases t3 <;> cases t4 <;> cases t5 <;> decide
theorem own_t0 (t0 t1 t2 t3 t4 t5 : Bool) (h : t0 = true) : (own_ca [t0, t1, t2, t3, t4, t5] 0).set (own_c [t0, t1, t2, t3, t4, t5] 0) (0 : Int32) = own_ca [t0, t1, t2, t3, t4, t5] 1 ∧ own_c [t0, t1, t2, t3, t4, t5] 1 = own_c [t0, t1, t2, t3, t4, t5] 0 + 1 ∧ own_c [t0, t1, t2, t3, t4, t5] 0 < (own_ca [t0, t1, t2, t3, t4, t5] 0).length := by
  subst h
  cases t1 <;> cases t2 <;> cases t3 <;> cases t4 <;> cases t5 <;> decide
theorem own_f1 (t0 t1 t2 t3 t4 t5 : Bool) (h : t1 = false) : own_ca [t0, t1, t2, t3, t4, t5] 2 = own_ca [t0, t1, t2, t3, t4, t5] 1 ∧ own_c [t0, t1, t2, t3, t4, t5] 2 = own_c [t0, t1, t2, t3, t4, t5] 1 := by
  subst h
  cases t0 <;> cases t2 <;> cases t3 <;> cases t4 <;> cases t5 <;> decide
theorem own_t1 (t0 t1 t2 t3 t4 t5 : Bool) (h : t1 = true) : (own_ca [t0, t1, t2, t3, t4, t5] 1).set (own_c [t0, t1, t2, t3, t4, t5] 1) (1 : Int32) = own_ca [t0, t1, t2, t3, t4, t5] 2 ∧ own_c [t0, t1, t2, t3, t4, t5] 2 = own_c [t0, t1, t2, t3, t4, t5] 1 + 1 ∧ own_c [t0, t1, t2, t3, t4, t5] 1 < (own_ca [t0, t1, t2, t3, t4, t5] 1).length := by
  subst h
  cases t0 <;> cases t2 <;> cases t3 <;> cases t4 <;> cases t5 <;> decide
theorem own_f2 (t0 t1 t2 t3 t4 t5 : Bool) (h : t2 = false) : own_ca [t0, t1, t2, t3, t4, t5] 3 = own_ca [t0, t1, t2, t3, t4, t5] 2 ∧ own_c [t0, t1, t2, t3, t4, t5] 3 = own_c [t0, t1, t2, t3, t4, t5] 2 := by
  subst h
  cases t0 <;> cases t1 <;> cases t3 <;> cases t4 <;> cases t5 <;> decide
theorem own_t2 (t0 t1 t2 t3 t4 t5 : Bool) (h : t2 = true) : (own_ca [t0, t1, t2, t3, t4, t5] 2).set (own_c [t0, t1, t2, t3, t4, t5] 2) (2 : Int32) = own_ca [t0, t1, t2, t3, t4, t5] 3 ∧ own_c [t0, t1, t2, t3, t4, t5] 3 = own_c [t0, t1, t2, t3, t4, t5] 2 + 1 ∧ own_c [t0, t1, t2, t3, t4, t5] 2 < (own_ca [t0, t1, t2, t3, t4, t5] 2).length := by
  subst h
  cases t0 <;> cases t1 <;> cases t3 <;> cases t4 <;> cases t5 <;> decide
theorem own_f3 (t0 t1 t2 t3 t4 t5 : Bool) (h : t3 = false) : own_ca [t0, t1, t2, t3, t4, t5] 4 = own_ca [t0, t1, t2, t3, t4, t5] 3 ∧ own_c [t0, t1, t2, t3, t4, t5] 4 = own_c [t0, t1, t2, t3, t4, t5] 3 := by
  subst h
  cases t0 <;> cases t1 <;> cases t2 <;> cases t4 <;> cases t5 <;> decide
theorem own_t3 (t0 t1 t2 t3 t4 t5 : Bool) (h : t3 = true) : (own_ca [t0, t1, t2, t3, t4, t5] 3).set (own_c [t0, t1, t2, t3, t4, t5] 3) (3 : Int32) = own_ca [t0, t1, t2, t3, t4, t5] 4 ∧ own_c [t0, t1, t2, t3, t4, t5] 4 = own_c [t0, t1, t2, t3, t4, t5] 3 + 1 ∧ own_c [t0, t1, t2, t3, t4, t5] 3 < (own_ca [t0, t1, t2, t3, t4, t5] 3).length := by
  subst h
  cases t0 <;> cases t1 <;> cases t2 <;> cases t4 <;> cases t5 <;> decide
theorem own_f4 (t0 t1 t2 t3 t4 t5 : Bool) (h : t4 = false) : own_ca [t0, t1, t2, t3, t4, t5] 5 = own_ca [t0, t1, t2, t3, t4, t5] 4 ∧ own_c [t0, t1, t2, t3, t4, t5] 5 = own_c [t0, t1, t2, t3, t4, t5] 4 := by
  subst h
  cases t0 <;> cases t1 <;> cases t2 <;> cases t3 <;> cases t5 <;> decide
theorem own_t4 (t0 t1 t2 t3 t4 t5 : Bool) (h : t4 = true) : (own_ca [t0, t1, t2, t3, t4, t5] 4).set (own_c [t0, t1, t2, t3, t4, t5] 4) (4 : Int32) = own_ca [t0, t1, t2, t3, t4, t5] 5 ∧ own_c [t0, t1, t2, t3, t4, t5] 5 = own_c [t0, t1, t2, t3, t4, t5] 4 + 1 ∧ own_c [t0, t1, t2, t3, t4, t5] 4 < (own_ca [t0, t1, t2, t3, t4, t5] 4).length := by
  subst h
  cases t0 <;> cases t1 <;> cases t2 <;> cases t3 <;> cases t5 <;> decide
theorem own_f5 (t0 t1 t2 t3 t4 t5 : Bool) (h : t5 = false) : own_ca [t0, t1, t2, t3, t4, t5] 6 = own_ca [t0, t1, t2, t3, t4, t5] 5 ∧ own_c [t0, t1, t2, t3, t4, t5] 6 = own_c [t0, t1, t2, t3, t4, t5] 5 := by
  subst h
  cases t0 <;> cases t1 <;> cases t2 <;> cases t3 <;> cases t4 <;> decide
theorem own_t5 (t0 t1 t2 t3 t4 t5 : Bool) (h : t5 = true) : (own_ca [t0, t1, t2, t3, t4, t5] 5).set (own_c [t0, t1, t2, t3, t4, t5] 5) (5 : Int32) = own_ca [t0, t1, t2, t3, t4, t5] 6 ∧ own_c [t0, t1, t2, t3, t4, t5] 6 = own_c [t0, t1, t2, t3, t4, t5] 5 + 1 ∧ own_c [t0, t1, t2, t3, t4, t5] 5 < (own_ca [t0, t1, t2, t3, t4, t5] 5).length := by
  subst h
  cases t0 <;> cases t1 <;> cases t2 <;> cases t3 <;> cases t4 <;> decide
theorem own_ca_6 (t0 t1 t2 t3 t4 t5 : Bool) : own_ca [t0, t1, t2, t3, t4, t5] 6 = own_pk [t0, t1, t2, t3, t4, t5] 0 := by
  simp [own_ca]
theorem own_c_le (t0 t1 t2 t3 t4 t5 : Bool) (i : Nat) : own_c [t0, t1, t2, t3, t4, t5] i ≤ 6 := by
  unfold own_c
  rcases i with _ | _ | _ | _ | _ | _ | i <;> (first | (cases t0 <;> cases t1 <;> cases t2 <;> cases t3 <;> cases t4 <;> cases t5 <;> decide) | skip)
  rw [List.take_of_length_le (by simp)]
  exact own_pk_le _ _ _ _ _ _
theorem pn_com_example_handpick_handpick_SetWalkOthersPinLaw : plainName "com/example/handpick/handpick/SetWalkOthersPinLaw" = true := by first | (simp [plainName, overriddenIn]; done) | decide +kernel
theorem d2_0 : Dc method_3_code 0 (.iload_n 3) 1 1 := ⟨by decide +kernel, rfl⟩
theorem d2_1 : Dc method_3_code 1 (.iload_n 1) 1 2 := ⟨by decide +kernel, rfl⟩
theorem d2_2 : Db method_3_code 2 (.if_icmp .ge 16) 16 5 18 := ⟨by decide +kernel, rfl, rfl⟩
theorem d2_18 : Dc method_3_code 18 (.iconst 0) 1 19 := ⟨by decide +kernel, rfl⟩
theorem d2_19 : Dc method_3_code 19 (.ireturn) 1 20 := ⟨by decide +kernel, rfl⟩
theorem d2_5 : Dc method_3_code 5 (.iload_n 0) 1 6 := ⟨by decide +kernel, rfl⟩
theorem d2_6 : Dc method_3_code 6 (.iload_n 3) 1 7 := ⟨by decide +kernel, rfl⟩
theorem d2_7 : Dc method_3_code 7 (.iushr) 1 8 := ⟨by decide +kernel, rfl⟩
theorem d2_8 : Dc method_3_code 8 (.iconst 1) 1 9 := ⟨by decide +kernel, rfl⟩
theorem d2_9 : Dc method_3_code 9 (.iand) 1 10 := ⟨by decide +kernel, rfl⟩
theorem d2_10 : Dc method_3_code 10 (.iload_n 2) 1 11 := ⟨by decide +kernel, rfl⟩
theorem d2_11 : Db method_3_code 11 (.if_icmp .ne 7) 7 14 18 := ⟨by decide +kernel, rfl, rfl⟩
theorem d2_14 : Dc method_3_code 14 (.iconst 1) 1 15 := ⟨by decide +kernel, rfl⟩
theorem d2_15 : Db method_3_code 15 (.goto 4) 4 18 19 := ⟨by decide +kernel, rfl, rfl⟩
set_option maxRecDepth 65536 in
set_option maxHeartbeats 40000000 in
theorem rmS {l : Launch} {Z : State} {a0 : Array Value} {n0 : Nat} (H : Wd a0 Z) (m p w i : Int32) (h0 : Heap) (Z0 : n0 ≤ h0.size) :
    Ct l Z n0 (⟨"com/example/handpick/handpick/SetWalkOthersPinLaw", "sel", "(IIII)I"⟩ : MethodName) method_3_code 4 (some .int) [] ({ frames := 0, cells := 0, slots := 0, locals := 0 } : Room) #[(.int m), (.int p), (.int w), (.int i)] h0 (fun v h => v = some (.int (own_sel m p w i)) ∧ h0 = h) := by
  refine Ct.of (a0 := a0) (L0 := #[.val (.int m), .val (.int p), .val (.int w), .val (.int i)]) (plainFor_of_name pn_com_example_handpick_handpick_SetWalkOthersPinLaw) (fun m => by first | (simp [entryFrame, mkF, argsToLocals, Value.category]; done) | rfl) ?_
  intro κ B0
  have B : Ok κ l Z a0 n0 ({ frames := 0, cells := 0, slots := 0, locals := 0 } : Room) "com/example/handpick/handpick/SetWalkOthersPinLaw" "sel" method_3_code 4 (some .int) := B0
  refine go_iload_n B d2_0 rfl ?_
  refine go_iload_n B d2_1 rfl ?_
  refine go_icmpge B d2_2 (fun c2 => ?_) (fun c2 => ?_)
  · skip
    refine go_iconst B (x := (0 : Int32)) d2_18 rfl ?_
    refine go_ireturn B d2_19 (by decide) (by decide) ?_
    exact ⟨congrArg (fun z => some (Value.int z)) (by simp [own_sel, c2]), rfl⟩
  · skip
    refine go_iload_n B d2_5 rfl ?_
    refine go_iload_n B d2_6 rfl ?_
    refine go_iushr B d2_7 ?_
    refine go_iconst B (x := (1 : Int32)) d2_8 rfl ?_
    refine go_iand B d2_9 ?_
    refine go_iload_n B d2_10 rfl ?_
    refine go_icmpne B d2_11 (fun c11 => ?_) (fun c11 => ?_)
    · skip
      refine go_iconst B (x := (0 : Int32)) d2_18 rfl ?_
      refine go_ireturn B d2_19 (by decide) (by decide) ?_
      exact ⟨congrArg (fun z => some (Value.int z)) (by simp [own_sel, c2, c11]), rfl⟩
    · skip
      refine go_iconst B (x := (1 : Int32)) d2_14 rfl ?_
      refine go_goto B d2_15 ?_
      refine go_ireturn B d2_19 (by decide) (by decide) ?_
      exact ⟨congrArg (fun z => some (Value.int z)) (by simp [own_sel, c2, c11]), rfl⟩
theorem d1_0 : Dc method_4_code 0 (.iload_n 0) 1 1 := ⟨by decide +kernel, rfl⟩
theorem d1_1 : Dc method_4_code 1 (.iload_n 1) 1 2 := ⟨by decide +kernel, rfl⟩
theorem d1_2 : Dc method_4_code 2 (.iload_n 2) 1 3 := ⟨by decide +kernel, rfl⟩
theorem d1_3 : Dc method_4_code 3 (.iconst 0) 1 4 := ⟨by decide +kernel, rfl⟩
theorem d1_4 : Dc method_4_code 4 (.invokestatic 24) 3 7 := ⟨by decide +kernel, rfl⟩
theorem w_7 {a0 : Array Value} {Z : State} (H : Wd a0 Z) : (Jvm.Cond.code ({ cls := "com/example/handpick/handpick/SetWalkOthersPinLaw", name := "sel", desc := "(IIII)I" } : Jvm.MethodName) method_3_code (4 : Nat) (Option.some Jvm.ClassFile.FieldType.int)).before a0 Z = true := H _ (List.mem_of_getElem? (i := 7) rfl)
theorem w_3 {a0 : Array Value} {Z : State} (H : Wd a0 Z) : (Jvm.Cond.initialized "com/example/handpick/handpick/SetWalkOthersPinLaw").before a0 Z = true := H _ (List.mem_of_getElem? (i := 3) rfl)
theorem pd_0 : parseMethodDescriptor "(IIII)I" = some ⟨[.int, .int, .int, .int], some .int⟩ := by decide +kernel
theorem w_5 {a0 : Array Value} {Z : State} (H : Wd a0 Z) : (Jvm.Cond.methodLink "com/example/handpick/handpick/SetWalkOthersPinLaw" (24 : Nat) ({ cls := "com/example/handpick/handpick/SetWalkOthersPinLaw", name := "sel", desc := "(IIII)I" } : Jvm.MethodName)).before a0 Z = true := H _ (List.mem_of_getElem? (i := 5) rfl)
theorem w_6 {a0 : Array Value} {Z : State} (H : Wd a0 Z) : (Jvm.Cond.static ({ cls := "com/example/handpick/handpick/SetWalkOthersPinLaw", name := "sel", desc := "(IIII)I" } : Jvm.MethodName)).before a0 Z = true := H _ (List.mem_of_getElem? (i := 6) rfl)
theorem d1_7 : Dc method_4_code 7 (.iload_n 0) 1 8 := ⟨by decide +kernel, rfl⟩
theorem d1_8 : Dc method_4_code 8 (.iload_n 1) 1 9 := ⟨by decide +kernel, rfl⟩
theorem d1_9 : Dc method_4_code 9 (.iload_n 2) 1 10 := ⟨by decide +kernel, rfl⟩
theorem d1_10 : Dc method_4_code 10 (.iconst 1) 1 11 := ⟨by decide +kernel, rfl⟩
theorem d1_11 : Dc method_4_code 11 (.invokestatic 24) 3 14 := ⟨by decide +kernel, rfl⟩
theorem d1_14 : Dc method_4_code 14 (.iadd) 1 15 := ⟨by decide +kernel, rfl⟩
theorem d1_15 : Dc method_4_code 15 (.iload_n 0) 1 16 := ⟨by decide +kernel, rfl⟩
theorem d1_16 : Dc method_4_code 16 (.iload_n 1) 1 17 := ⟨by decide +kernel, rfl⟩
theorem d1_17 : Dc method_4_code 17 (.iload_n 2) 1 18 := ⟨by decide +kernel, rfl⟩
theorem d1_18 : Dc method_4_code 18 (.iconst 2) 1 19 := ⟨by decide +kernel, rfl⟩
theorem d1_19 : Dc method_4_code 19 (.invokestatic 24) 3 22 := ⟨by decide +kernel, rfl⟩
theorem d1_22 : Dc method_4_code 22 (.iadd) 1 23 := ⟨by decide +kernel, rfl⟩
theorem d1_23 : Dc method_4_code 23 (.iload_n 0) 1 24 := ⟨by decide +kernel, rfl⟩
theorem d1_24 : Dc method_4_code 24 (.iload_n 1) 1 25 := ⟨by decide +kernel, rfl⟩
theorem d1_25 : Dc method_4_code 25 (.iload_n 2) 1 26 := ⟨by decide +kernel, rfl⟩
theorem d1_26 : Dc method_4_code 26 (.iconst 3) 1 27 := ⟨by decide +kernel, rfl⟩
theorem d1_27 : Dc method_4_code 27 (.invokestatic 24) 3 30 := ⟨by decide +kernel, rfl⟩
theorem d1_30 : Dc method_4_code 30 (.iadd) 1 31 := ⟨by decide +kernel, rfl⟩
theorem d1_31 : Dc method_4_code 31 (.iload_n 0) 1 32 := ⟨by decide +kernel, rfl⟩
theorem d1_32 : Dc method_4_code 32 (.iload_n 1) 1 33 := ⟨by decide +kernel, rfl⟩
theorem d1_33 : Dc method_4_code 33 (.iload_n 2) 1 34 := ⟨by decide +kernel, rfl⟩
theorem d1_34 : Dc method_4_code 34 (.iconst 4) 1 35 := ⟨by decide +kernel, rfl⟩
theorem d1_35 : Dc method_4_code 35 (.invokestatic 24) 3 38 := ⟨by decide +kernel, rfl⟩
theorem d1_38 : Dc method_4_code 38 (.iadd) 1 39 := ⟨by decide +kernel, rfl⟩
theorem d1_39 : Dc method_4_code 39 (.iload_n 0) 1 40 := ⟨by decide +kernel, rfl⟩
theorem d1_40 : Dc method_4_code 40 (.iload_n 1) 1 41 := ⟨by decide +kernel, rfl⟩
theorem d1_41 : Dc method_4_code 41 (.iload_n 2) 1 42 := ⟨by decide +kernel, rfl⟩
theorem d1_42 : Dc method_4_code 42 (.iconst 5) 1 43 := ⟨by decide +kernel, rfl⟩
theorem d1_43 : Dc method_4_code 43 (.invokestatic 24) 3 46 := ⟨by decide +kernel, rfl⟩
theorem d1_46 : Dc method_4_code 46 (.iadd) 1 47 := ⟨by decide +kernel, rfl⟩
theorem d1_47 : Dc method_4_code 47 (.istore_n 3) 1 48 := ⟨by decide +kernel, rfl⟩
theorem d1_48 : Dc method_4_code 48 (.iload_n 3) 1 49 := ⟨by decide +kernel, rfl⟩
theorem d1_49 : Dc method_4_code 49 (.newarray .int) 2 51 := ⟨by decide +kernel, rfl⟩
theorem w_8 {a0 : Array Value} {Z : State} (H : Wd a0 Z) : (Jvm.Cond.arrayClass Jvm.ClassFile.FieldType.int).before a0 Z = true := H _ (List.mem_of_getElem? (i := 8) rfl)
theorem d1_51 : Dc method_4_code 51 (.astore 4) 2 53 := ⟨by decide +kernel, rfl⟩
theorem d1_53 : Dc method_4_code 53 (.iconst 0) 1 54 := ⟨by decide +kernel, rfl⟩
theorem d1_54 : Dc method_4_code 54 (.istore 5) 2 56 := ⟨by decide +kernel, rfl⟩
theorem d1_56 : Dc method_4_code 56 (.iload_n 0) 1 57 := ⟨by decide +kernel, rfl⟩
theorem d1_57 : Dc method_4_code 57 (.iload_n 1) 1 58 := ⟨by decide +kernel, rfl⟩
theorem d1_58 : Dc method_4_code 58 (.iload_n 2) 1 59 := ⟨by decide +kernel, rfl⟩
theorem d1_59 : Dc method_4_code 59 (.iconst 0) 1 60 := ⟨by decide +kernel, rfl⟩
theorem d1_60 : Dc method_4_code 60 (.invokestatic 24) 3 63 := ⟨by decide +kernel, rfl⟩
theorem d1_63 : Dc method_4_code 63 (.iconst 1) 1 64 := ⟨by decide +kernel, rfl⟩
theorem d1_64 : Db method_4_code 64 (.if_icmp .ne 12) 12 67 76 := ⟨by decide +kernel, rfl, rfl⟩
theorem d1_76 : Dc method_4_code 76 (.iload_n 0) 1 77 := ⟨by decide +kernel, rfl⟩
theorem d1_77 : Dc method_4_code 77 (.iload_n 1) 1 78 := ⟨by decide +kernel, rfl⟩
theorem d1_78 : Dc method_4_code 78 (.iload_n 2) 1 79 := ⟨by decide +kernel, rfl⟩
theorem d1_79 : Dc method_4_code 79 (.iconst 1) 1 80 := ⟨by decide +kernel, rfl⟩
theorem d1_80 : Dc method_4_code 80 (.invokestatic 24) 3 83 := ⟨by decide +kernel, rfl⟩
theorem d1_83 : Dc method_4_code 83 (.iconst 1) 1 84 := ⟨by decide +kernel, rfl⟩
theorem d1_84 : Db method_4_code 84 (.if_icmp .ne 12) 12 87 96 := ⟨by decide +kernel, rfl, rfl⟩
theorem d1_96 : Dc method_4_code 96 (.iload_n 0) 1 97 := ⟨by decide +kernel, rfl⟩
theorem d1_97 : Dc method_4_code 97 (.iload_n 1) 1 98 := ⟨by decide +kernel, rfl⟩
theorem d1_98 : Dc method_4_code 98 (.iload_n 2) 1 99 := ⟨by decide +kernel, rfl⟩
theorem d1_99 : Dc method_4_code 99 (.iconst 2) 1 100 := ⟨by decide +kernel, rfl⟩
theorem d1_100 : Dc method_4_code 100 (.invokestatic 24) 3 103 := ⟨by decide +kernel, rfl⟩
theorem d1_103 : Dc method_4_code 103 (.iconst 1) 1 104 := ⟨by decide +kernel, rfl⟩
theorem d1_104 : Db method_4_code 104 (.if_icmp .ne 12) 12 107 116 := ⟨by decide +kernel, rfl, rfl⟩
theorem d1_116 : Dc method_4_code 116 (.iload_n 0) 1 117 := ⟨by decide +kernel, rfl⟩
theorem d1_117 : Dc method_4_code 117 (.iload_n 1) 1 118 := ⟨by decide +kernel, rfl⟩
theorem d1_118 : Dc method_4_code 118 (.iload_n 2) 1 119 := ⟨by decide +kernel, rfl⟩
theorem d1_119 : Dc method_4_code 119 (.iconst 3) 1 120 := ⟨by decide +kernel, rfl⟩
theorem d1_120 : Dc method_4_code 120 (.invokestatic 24) 3 123 := ⟨by decide +kernel, rfl⟩
theorem d1_123 : Dc method_4_code 123 (.iconst 1) 1 124 := ⟨by decide +kernel, rfl⟩
theorem d1_124 : Db method_4_code 124 (.if_icmp .ne 12) 12 127 136 := ⟨by decide +kernel, rfl, rfl⟩
theorem d1_136 : Dc method_4_code 136 (.iload_n 0) 1 137 := ⟨by decide +kernel, rfl⟩
theorem d1_137 : Dc method_4_code 137 (.iload_n 1) 1 138 := ⟨by decide +kernel, rfl⟩
theorem d1_138 : Dc method_4_code 138 (.iload_n 2) 1 139 := ⟨by decide +kernel, rfl⟩
theorem d1_139 : Dc method_4_code 139 (.iconst 4) 1 140 := ⟨by decide +kernel, rfl⟩
theorem d1_140 : Dc method_4_code 140 (.invokestatic 24) 3 143 := ⟨by decide +kernel, rfl⟩
theorem d1_143 : Dc method_4_code 143 (.iconst 1) 1 144 := ⟨by decide +kernel, rfl⟩
theorem d1_144 : Db method_4_code 144 (.if_icmp .ne 12) 12 147 156 := ⟨by decide +kernel, rfl, rfl⟩
theorem d1_156 : Dc method_4_code 156 (.iload_n 0) 1 157 := ⟨by decide +kernel, rfl⟩
theorem d1_157 : Dc method_4_code 157 (.iload_n 1) 1 158 := ⟨by decide +kernel, rfl⟩
theorem d1_158 : Dc method_4_code 158 (.iload_n 2) 1 159 := ⟨by decide +kernel, rfl⟩
theorem d1_159 : Dc method_4_code 159 (.iconst 5) 1 160 := ⟨by decide +kernel, rfl⟩
theorem d1_160 : Dc method_4_code 160 (.invokestatic 24) 3 163 := ⟨by decide +kernel, rfl⟩
theorem d1_163 : Dc method_4_code 163 (.iconst 1) 1 164 := ⟨by decide +kernel, rfl⟩
theorem d1_164 : Db method_4_code 164 (.if_icmp .ne 12) 12 167 176 := ⟨by decide +kernel, rfl, rfl⟩
theorem d1_176 : Dc method_4_code 176 (.aload 4) 2 178 := ⟨by decide +kernel, rfl⟩
theorem d1_178 : Dc method_4_code 178 (.areturn) 1 179 := ⟨by decide +kernel, rfl⟩
theorem d1_167 : Dc method_4_code 167 (.aload 4) 2 169 := ⟨by decide +kernel, rfl⟩
theorem d1_169 : Dc method_4_code 169 (.iload 5) 2 171 := ⟨by decide +kernel, rfl⟩
theorem d1_171 : Dc method_4_code 171 (.iconst 5) 1 172 := ⟨by decide +kernel, rfl⟩
theorem d1_172 : Dc method_4_code 172 (.iastore) 1 173 := ⟨by decide +kernel, rfl⟩
theorem d1_173 : Dc method_4_code 173 (.iinc 5 1) 3 176 := ⟨by decide +kernel, rfl⟩
theorem d1_147 : Dc method_4_code 147 (.aload 4) 2 149 := ⟨by decide +kernel, rfl⟩
theorem d1_149 : Dc method_4_code 149 (.iload 5) 2 151 := ⟨by decide +kernel, rfl⟩
theorem d1_151 : Dc method_4_code 151 (.iconst 4) 1 152 := ⟨by decide +kernel, rfl⟩
theorem d1_152 : Dc method_4_code 152 (.iastore) 1 153 := ⟨by decide +kernel, rfl⟩
theorem d1_153 : Dc method_4_code 153 (.iinc 5 1) 3 156 := ⟨by decide +kernel, rfl⟩
theorem d1_127 : Dc method_4_code 127 (.aload 4) 2 129 := ⟨by decide +kernel, rfl⟩
theorem d1_129 : Dc method_4_code 129 (.iload 5) 2 131 := ⟨by decide +kernel, rfl⟩
theorem d1_131 : Dc method_4_code 131 (.iconst 3) 1 132 := ⟨by decide +kernel, rfl⟩
theorem d1_132 : Dc method_4_code 132 (.iastore) 1 133 := ⟨by decide +kernel, rfl⟩
theorem d1_133 : Dc method_4_code 133 (.iinc 5 1) 3 136 := ⟨by decide +kernel, rfl⟩
theorem d1_107 : Dc method_4_code 107 (.aload 4) 2 109 := ⟨by decide +kernel, rfl⟩
theorem d1_109 : Dc method_4_code 109 (.iload 5) 2 111 := ⟨by decide +kernel, rfl⟩
theorem d1_111 : Dc method_4_code 111 (.iconst 2) 1 112 := ⟨by decide +kernel, rfl⟩
theorem d1_112 : Dc method_4_code 112 (.iastore) 1 113 := ⟨by decide +kernel, rfl⟩
theorem d1_113 : Dc method_4_code 113 (.iinc 5 1) 3 116 := ⟨by decide +kernel, rfl⟩
theorem d1_87 : Dc method_4_code 87 (.aload 4) 2 89 := ⟨by decide +kernel, rfl⟩
theorem d1_89 : Dc method_4_code 89 (.iload 5) 2 91 := ⟨by decide +kernel, rfl⟩
theorem d1_91 : Dc method_4_code 91 (.iconst 1) 1 92 := ⟨by decide +kernel, rfl⟩
theorem d1_92 : Dc method_4_code 92 (.iastore) 1 93 := ⟨by decide +kernel, rfl⟩
theorem d1_93 : Dc method_4_code 93 (.iinc 5 1) 3 96 := ⟨by decide +kernel, rfl⟩
theorem d1_67 : Dc method_4_code 67 (.aload 4) 2 69 := ⟨by decide +kernel, rfl⟩
theorem d1_69 : Dc method_4_code 69 (.iload 5) 2 71 := ⟨by decide +kernel, rfl⟩
theorem d1_71 : Dc method_4_code 71 (.iconst 0) 1 72 := ⟨by decide +kernel, rfl⟩
theorem d1_72 : Dc method_4_code 72 (.iastore) 1 73 := ⟨by decide +kernel, rfl⟩
theorem d1_73 : Dc method_4_code 73 (.iinc 5 1) 3 76 := ⟨by decide +kernel, rfl⟩
set_option maxRecDepth 65536 in
set_option maxHeartbeats 40000000 in
theorem rmP {l : Launch} {Z : State} {a0 : Array Value} {n0 : Nat} (H : Wd a0 Z) (m p w : Int32) (t0 t1 t2 t3 t4 t5 : Bool) (h0 : Heap) (Z0 : n0 ≤ h0.size) (e0 : own_sel m p w 0 = own_b t0) (e1 : own_sel m p w 1 = own_b t1) (e2 : own_sel m p w 2 = own_b t2) (e3 : own_sel m p w 3 = own_b t3) (e4 : own_sel m p w 4 = own_b t4) (e5 : own_sel m p w 5 = own_b t5) :
    Ct l Z n0 (⟨"com/example/handpick/handpick/SetWalkOthersPinLaw", "pick", "(III)[I"⟩ : MethodName) method_4_code 6 (some (.array .int)) [] ({ frames := 1, cells := 1, slots := 6, locals := 20 } : Room) #[(.int m), (.int p), (.int w)] h0 (fun v h => ∃ b, v = some (.ref b) ∧ h0.size ≤ b ∧ Keep h0 h [] ∧ AV Z h b .int (own_v (own_pk [t0, t1, t2, t3, t4, t5] 0))) := by
  refine Ct.of (a0 := a0) (L0 := #[.val (.int m), .val (.int p), .val (.int w), .unset, .unset, .unset]) (plainFor_of_name pn_com_example_handpick_handpick_SetWalkOthersPinLaw) (fun m => by first | (simp [entryFrame, mkF, argsToLocals, Value.category]; done) | rfl) ?_
  intro κ B0
  have B : Ok κ l Z a0 n0 ({ frames := 1, cells := 1, slots := 6, locals := 20 } : Room) "com/example/handpick/handpick/SetWalkOthersPinLaw" "pick" method_4_code 6 (some (.array .int)) := B0
  refine go_iload_n B d1_0 rfl ?_
  refine go_iload_n B d1_1 rfl ?_
  refine go_iload_n B d1_2 rfl ?_
  refine go_iconst B (x := (0 : Int32)) d1_3 rfl ?_
  refine go_static B (W := 0) (argsL := [(.int m), (.int p), (.int w), (.int (0 : Int32))]) (st := []) d1_4 (w_5 H) (w_6 H) (w_3 H) (w_7 H) (by decide) (rmS H m p w (0 : Int32) h0 Z0) pd_0 rfl rfl rfl rfl (by decide) (by decide) (by decide) (by decide) ?_
  rintro _ h2 ⟨hv1, rfl⟩
  rw [e0] at hv1
  subst hv1
  show Go κ _ h0 _ _ 7 #[.val (.int m), .val (.int p), .val (.int w), .unset, .unset, .unset] [(.int (own_b t0))]
  refine go_iload_n B d1_7 rfl ?_
  refine go_iload_n B d1_8 rfl ?_
  refine go_iload_n B d1_9 rfl ?_
  refine go_iconst B (x := (1 : Int32)) d1_10 rfl ?_
  refine go_static B (W := 1) (argsL := [(.int m), (.int p), (.int w), (.int (1 : Int32))]) (st := [(.int (own_b t0))]) d1_11 (w_5 H) (w_6 H) (w_3 H) (w_7 H) (by decide) (rmS H m p w (1 : Int32) h0 Z0) pd_0 rfl rfl rfl rfl (by decide) (by decide) (by decide) (by decide) ?_
  rintro _ h4 ⟨hv3, rfl⟩
  rw [e1] at hv3
  subst hv3
  show Go κ _ h0 _ _ 14 #[.val (.int m), .val (.int p), .val (.int w), .unset, .unset, .unset] [(.int (own_b t1)), (.int (own_b t0))]
  refine go_iadd B d1_14 ?_
  refine go_iload_n B d1_15 rfl ?_
  refine go_iload_n B d1_16 rfl ?_
  refine go_iload_n B d1_17 rfl ?_
  refine go_iconst B (x := (2 : Int32)) d1_18 rfl ?_
  refine go_static B (W := 1) (argsL := [(.int m), (.int p), (.int w), (.int (2 : Int32))]) (st := [(.int ((own_b t0) + (own_b t1)))]) d1_19 (w_5 H) (w_6 H) (w_3 H) (w_7 H) (by decide) (rmS H m p w (2 : Int32) h0 Z0) pd_0 rfl rfl rfl rfl (by decide) (by decide) (by decide) (by decide) ?_
  rintro _ h6 ⟨hv5, rfl⟩
  rw [e2] at hv5
  subst hv5
  show Go κ _ h0 _ _ 22 #[.val (.int m), .val (.int p), .val (.int w), .unset, .unset, .unset] [(.int (own_b t2)), (.int ((own_b t0) + (own_b t1)))]
  refine go_iadd B d1_22 ?_
  refine go_iload_n B d1_23 rfl ?_
  refine go_iload_n B d1_24 rfl ?_
  refine go_iload_n B d1_25 rfl ?_
  refine go_iconst B (x := (3 : Int32)) d1_26 rfl ?_
  refine go_static B (W := 1) (argsL := [(.int m), (.int p), (.int w), (.int (3 : Int32))]) (st := [(.int (((own_b t0) + (own_b t1)) + (own_b t2)))]) d1_27 (w_5 H) (w_6 H) (w_3 H) (w_7 H) (by decide) (rmS H m p w (3 : Int32) h0 Z0) pd_0 rfl rfl rfl rfl (by decide) (by decide) (by decide) (by decide) ?_
  rintro _ h8 ⟨hv7, rfl⟩
  rw [e3] at hv7
  subst hv7
  show Go κ _ h0 _ _ 30 #[.val (.int m), .val (.int p), .val (.int w), .unset, .unset, .unset] [(.int (own_b t3)), (.int (((own_b t0) + (own_b t1)) + (own_b t2)))]
  refine go_iadd B d1_30 ?_
  refine go_iload_n B d1_31 rfl ?_
  refine go_iload_n B d1_32 rfl ?_
  refine go_iload_n B d1_33 rfl ?_
  refine go_iconst B (x := (4 : Int32)) d1_34 rfl ?_
  refine go_static B (W := 1) (argsL := [(.int m), (.int p), (.int w), (.int (4 : Int32))]) (st := [(.int ((((own_b t0) + (own_b t1)) + (own_b t2)) + (own_b t3)))]) d1_35 (w_5 H) (w_6 H) (w_3 H) (w_7 H) (by decide) (rmS H m p w (4 : Int32) h0 Z0) pd_0 rfl rfl rfl rfl (by decide) (by decide) (by decide) (by decide) ?_
  rintro _ h10 ⟨hv9, rfl⟩
  rw [e4] at hv9
  subst hv9
  show Go κ _ h0 _ _ 38 #[.val (.int m), .val (.int p), .val (.int w), .unset, .unset, .unset] [(.int (own_b t4)), (.int ((((own_b t0) + (own_b t1)) + (own_b t2)) + (own_b t3)))]
  refine go_iadd B d1_38 ?_
  refine go_iload_n B d1_39 rfl ?_
  refine go_iload_n B d1_40 rfl ?_
  refine go_iload_n B d1_41 rfl ?_
  refine go_iconst B (x := (5 : Int32)) d1_42 rfl ?_
  refine go_static B (W := 1) (argsL := [(.int m), (.int p), (.int w), (.int (5 : Int32))]) (st := [(.int (((((own_b t0) + (own_b t1)) + (own_b t2)) + (own_b t3)) + (own_b t4)))]) d1_43 (w_5 H) (w_6 H) (w_3 H) (w_7 H) (by decide) (rmS H m p w (5 : Int32) h0 Z0) pd_0 rfl rfl rfl rfl (by decide) (by decide) (by decide) (by decide) ?_
  rintro _ h12 ⟨hv11, rfl⟩
  rw [e5] at hv11
  subst hv11
  show Go κ _ h0 _ _ 46 #[.val (.int m), .val (.int p), .val (.int w), .unset, .unset, .unset] [(.int (own_b t5)), (.int (((((own_b t0) + (own_b t1)) + (own_b t2)) + (own_b t3)) + (own_b t4)))]
  refine go_iadd B d1_46 ?_
  generalize hv13 : ((((((own_b t0) + (own_b t1)) + (own_b t2)) + (own_b t3)) + (own_b t4)) + (own_b t5)) = v13
  refine go_istore_n B #[.val (.int m), .val (.int p), .val (.int w), .val (.int v13), .unset, .unset] d1_47 rfl ?_
  refine go_iload_n B d1_48 rfl ?_
  refine go_newarray B (i := (own_pk [t0, t1, t2, t3, t4, t5] 0).length) (cap := 6) d1_49 (w_8 H) (by subst hv13; exact own_sum _ _ _ _ _ _) (own_pk_le _ _ _ _ _ _) (by decide) (by decide) (by decide) ?_
  intro h14 a15 hba15 Ea15 Aa15 Ca15
  have ge_a15 : n0 ≤ a15 := by have q1 := Z0; omega
  have fr_a15 : h0.size ≤ a15 := by have q1 := (show Keep h0 h0 [] from (Keep.refl h0 [])).1; omega
  refine go_astore B #[.val (.int m), .val (.int p), .val (.int w), .val (.int v13), .val (.ref a15), .unset] d1_51 rfl rfl ?_
  refine go_iconst B (x := (0 : Int32)) d1_53 rfl ?_
  refine go_istore B #[.val (.int m), .val (.int p), .val (.int w), .val (.int v13), .val (.ref a15), .val (.int (0 : Int32))] d1_54 rfl ?_
  have A16 : AV Z h14 a15 .int (own_v (own_ca [t0, t1, t2, t3, t4, t5] 0)) := by rw [← own_ca_0, ← own_v_rep]; exact Aa15
  have hk17 : (0 : Int32).toInt = ((own_c [t0, t1, t2, t3, t4, t5] 0 : Nat) : Int) := by rw [own_c_0]; rfl
  refine go_iload_n B d1_56 rfl ?_
  refine go_iload_n B d1_57 rfl ?_
  refine go_iload_n B d1_58 rfl ?_
  refine go_iconst B (x := (0 : Int32)) d1_59 rfl ?_
  refine go_static B (W := 0) (argsL := [(.int m), (.int p), (.int w), (.int (0 : Int32))]) (st := []) d1_60 (w_5 H) (w_6 H) (w_3 H) (w_7 H) (by decide) (rmS H m p w (0 : Int32) h14 (Nat.le_trans Z0 Ea15.1)) pd_0 rfl rfl rfl rfl (by decide) (by decide) (by decide) (by decide) ?_
  rintro _ h19 ⟨hv18, rfl⟩
  rw [e0] at hv18
  subst hv18
  show Go κ _ h14 _ _ 63 #[.val (.int m), .val (.int p), .val (.int w), .val (.int v13), .val (.ref a15), .val (.int (0 : Int32))] [(.int (own_b t0))]
  refine go_iconst B (x := (1 : Int32)) d1_63 rfl ?_
  have J22 : ∀ h20 : Heap, ∀ z21 : Int32, (Keep h14 h20 [a15] ∧ AV Z h20 a15 .int (own_v (own_ca [t0, t1, t2, t3, t4, t5] 1)) ∧ z21.toInt = ((own_c [t0, t1, t2, t3, t4, t5] 1 : Nat) : Int)) → Go κ (fun v h => ∃ b, v = some (.ref b) ∧ h0.size ≤ b ∧ Keep h0 h [] ∧ AV Z h b .int (own_v (own_pk [t0, t1, t2, t3, t4, t5] 0))) h20 (0 + 0 + 0 + 0 + 0 + 0 + 0 + 1 + 0) (0 + 0 + 0 + 0 + 0 + 0 + 0 + 6 + 0) 76 #[.val (.int m), .val (.int p), .val (.int w), .val (.int v13), .val (.ref a15), .val (.int z21)] [] := by
    intro h20 z21 hJ22
    obtain ⟨K23, A24, hk25⟩ := hJ22
    refine go_iload_n B d1_76 rfl ?_
    refine go_iload_n B d1_77 rfl ?_
    refine go_iload_n B d1_78 rfl ?_
    refine go_iconst B (x := (1 : Int32)) d1_79 rfl ?_
    refine go_static B (W := 0) (argsL := [(.int m), (.int p), (.int w), (.int (1 : Int32))]) (st := []) d1_80 (w_5 H) (w_6 H) (w_3 H) (w_7 H) (by decide) (rmS H m p w (1 : Int32) h20 (Nat.le_trans (Nat.le_trans Z0 Ea15.1) K23.1)) pd_0 rfl rfl rfl rfl (by decide) (by decide) (by decide) (by decide) ?_
    rintro _ h27 ⟨hv26, rfl⟩
    rw [e1] at hv26
    subst hv26
    show Go κ _ h20 _ _ 83 #[.val (.int m), .val (.int p), .val (.int w), .val (.int v13), .val (.ref a15), .val (.int z21)] [(.int (own_b t1))]
    refine go_iconst B (x := (1 : Int32)) d1_83 rfl ?_
    have J30 : ∀ h28 : Heap, ∀ z29 : Int32, (Keep h20 h28 [a15] ∧ AV Z h28 a15 .int (own_v (own_ca [t0, t1, t2, t3, t4, t5] 2)) ∧ z29.toInt = ((own_c [t0, t1, t2, t3, t4, t5] 2 : Nat) : Int)) → Go κ (fun v h => ∃ b, v = some (.ref b) ∧ h0.size ≤ b ∧ Keep h0 h [] ∧ AV Z h b .int (own_v (own_pk [t0, t1, t2, t3, t4, t5] 0))) h28 (0 + 0 + 0 + 0 + 0 + 0 + 0 + 1 + 0 + 0) (0 + 0 + 0 + 0 + 0 + 0 + 0 + 6 + 0 + 0) 96 #[.val (.int m), .val (.int p), .val (.int w), .val (.int v13), .val (.ref a15), .val (.int z29)] [] := by
      intro h28 z29 hJ30
      obtain ⟨K31, A32, hk33⟩ := hJ30
      refine go_iload_n B d1_96 rfl ?_
      refine go_iload_n B d1_97 rfl ?_
      refine go_iload_n B d1_98 rfl ?_
      refine go_iconst B (x := (2 : Int32)) d1_99 rfl ?_
      have f35 : n0 ≤ h28.size := (Nat.le_trans (Nat.le_trans (Nat.le_trans Z0 Ea15.1) K23.1) K31.1)
      refine go_static B (W := 0) (argsL := [(.int m), (.int p), (.int w), (.int (2 : Int32))]) (st := []) d1_100 (w_5 H) (w_6 H) (w_3 H) (w_7 H) (by decide) (rmS H m p w (2 : Int32) h28 f35) pd_0 rfl rfl rfl rfl (by decide) (by decide) (by decide) (by decide) ?_
      rintro _ h36 ⟨hv34, rfl⟩
      rw [e2] at hv34
      subst hv34
      show Go κ _ h28 _ _ 103 #[.val (.int m), .val (.int p), .val (.int w), .val (.int v13), .val (.ref a15), .val (.int z29)] [(.int (own_b t2))]
      refine go_iconst B (x := (1 : Int32)) d1_103 rfl ?_
      have J39 : ∀ h37 : Heap, ∀ z38 : Int32, (Keep h28 h37 [a15] ∧ AV Z h37 a15 .int (own_v (own_ca [t0, t1, t2, t3, t4, t5] 3)) ∧ z38.toInt = ((own_c [t0, t1, t2, t3, t4, t5] 3 : Nat) : Int)) → Go κ (fun v h => ∃ b, v = some (.ref b) ∧ h0.size ≤ b ∧ Keep h0 h [] ∧ AV Z h b .int (own_v (own_pk [t0, t1, t2, t3, t4, t5] 0))) h37 (0 + 0 + 0 + 0 + 0 + 0 + 0 + 1 + 0 + 0 + 0) (0 + 0 + 0 + 0 + 0 + 0 + 0 + 6 + 0 + 0 + 0) 116 #[.val (.int m), .val (.int p), .val (.int w), .val (.int v13), .val (.ref a15), .val (.int z38)] [] := by
        intro h37 z38 hJ39
        obtain ⟨K40, A41, hk42⟩ := hJ39
        refine go_iload_n B d1_116 rfl ?_
        refine go_iload_n B d1_117 rfl ?_
        refine go_iload_n B d1_118 rfl ?_
        refine go_iconst B (x := (3 : Int32)) d1_119 rfl ?_
        refine go_static B (W := 0) (argsL := [(.int m), (.int p), (.int w), (.int (3 : Int32))]) (st := []) d1_120 (w_5 H) (w_6 H) (w_3 H) (w_7 H) (by decide) (rmS H m p w (3 : Int32) h37 (Nat.le_trans f35 K40.1)) pd_0 rfl rfl rfl rfl (by decide) (by decide) (by decide) (by decide) ?_
        rintro _ h44 ⟨hv43, rfl⟩
        rw [e3] at hv43
        subst hv43
        show Go κ _ h37 _ _ 123 #[.val (.int m), .val (.int p), .val (.int w), .val (.int v13), .val (.ref a15), .val (.int z38)] [(.int (own_b t3))]
        refine go_iconst B (x := (1 : Int32)) d1_123 rfl ?_
        have J47 : ∀ h45 : Heap, ∀ z46 : Int32, (Keep h37 h45 [a15] ∧ AV Z h45 a15 .int (own_v (own_ca [t0, t1, t2, t3, t4, t5] 4)) ∧ z46.toInt = ((own_c [t0, t1, t2, t3, t4, t5] 4 : Nat) : Int)) → Go κ (fun v h => ∃ b, v = some (.ref b) ∧ h0.size ≤ b ∧ Keep h0 h [] ∧ AV Z h b .int (own_v (own_pk [t0, t1, t2, t3, t4, t5] 0))) h45 (0 + 0 + 0 + 0 + 0 + 0 + 0 + 1 + 0 + 0 + 0 + 0) (0 + 0 + 0 + 0 + 0 + 0 + 0 + 6 + 0 + 0 + 0 + 0) 136 #[.val (.int m), .val (.int p), .val (.int w), .val (.int v13), .val (.ref a15), .val (.int z46)] [] := by
          intro h45 z46 hJ47
          obtain ⟨K48, A49, hk50⟩ := hJ47
          refine go_iload_n B d1_136 rfl ?_
          refine go_iload_n B d1_137 rfl ?_
          refine go_iload_n B d1_138 rfl ?_
          refine go_iconst B (x := (4 : Int32)) d1_139 rfl ?_
          refine go_static B (W := 0) (argsL := [(.int m), (.int p), (.int w), (.int (4 : Int32))]) (st := []) d1_140 (w_5 H) (w_6 H) (w_3 H) (w_7 H) (by decide) (rmS H m p w (4 : Int32) h45 (Nat.le_trans (Nat.le_trans f35 K40.1) K48.1)) pd_0 rfl rfl rfl rfl (by decide) (by decide) (by decide) (by decide) ?_
          rintro _ h52 ⟨hv51, rfl⟩
          rw [e4] at hv51
          subst hv51
          show Go κ _ h45 _ _ 143 #[.val (.int m), .val (.int p), .val (.int w), .val (.int v13), .val (.ref a15), .val (.int z46)] [(.int (own_b t4))]
          refine go_iconst B (x := (1 : Int32)) d1_143 rfl ?_
          have J55 : ∀ h53 : Heap, ∀ z54 : Int32, (Keep h45 h53 [a15] ∧ AV Z h53 a15 .int (own_v (own_ca [t0, t1, t2, t3, t4, t5] 5)) ∧ z54.toInt = ((own_c [t0, t1, t2, t3, t4, t5] 5 : Nat) : Int)) → Go κ (fun v h => ∃ b, v = some (.ref b) ∧ h0.size ≤ b ∧ Keep h0 h [] ∧ AV Z h b .int (own_v (own_pk [t0, t1, t2, t3, t4, t5] 0))) h53 (0 + 0 + 0 + 0 + 0 + 0 + 0 + 1 + 0 + 0 + 0 + 0 + 0) (0 + 0 + 0 + 0 + 0 + 0 + 0 + 6 + 0 + 0 + 0 + 0 + 0) 156 #[.val (.int m), .val (.int p), .val (.int w), .val (.int v13), .val (.ref a15), .val (.int z54)] [] := by
            intro h53 z54 hJ55
            obtain ⟨K56, A57, hk58⟩ := hJ55
            refine go_iload_n B d1_156 rfl ?_
            refine go_iload_n B d1_157 rfl ?_
            refine go_iload_n B d1_158 rfl ?_
            refine go_iconst B (x := (5 : Int32)) d1_159 rfl ?_
            have f60 : n0 ≤ h53.size := (Nat.le_trans (Nat.le_trans (Nat.le_trans f35 K40.1) K48.1) K56.1)
            refine go_static B (W := 0) (argsL := [(.int m), (.int p), (.int w), (.int (5 : Int32))]) (st := []) d1_160 (w_5 H) (w_6 H) (w_3 H) (w_7 H) (by decide) (rmS H m p w (5 : Int32) h53 f60) pd_0 rfl rfl rfl rfl (by decide) (by decide) (by decide) (by decide) ?_
            rintro _ h61 ⟨hv59, rfl⟩
            rw [e5] at hv59
            subst hv59
            show Go κ _ h53 _ _ 163 #[.val (.int m), .val (.int p), .val (.int w), .val (.int v13), .val (.ref a15), .val (.int z54)] [(.int (own_b t5))]
            refine go_iconst B (x := (1 : Int32)) d1_163 rfl ?_
            have J64 : ∀ h62 : Heap, ∀ z63 : Int32, (Keep h53 h62 [a15] ∧ AV Z h62 a15 .int (own_v (own_ca [t0, t1, t2, t3, t4, t5] 6)) ∧ z63.toInt = ((own_c [t0, t1, t2, t3, t4, t5] 6 : Nat) : Int)) → Go κ (fun v h => ∃ b, v = some (.ref b) ∧ h0.size ≤ b ∧ Keep h0 h [] ∧ AV Z h b .int (own_v (own_pk [t0, t1, t2, t3, t4, t5] 0))) h62 (0 + 0 + 0 + 0 + 0 + 0 + 0 + 1 + 0 + 0 + 0 + 0 + 0 + 0) (0 + 0 + 0 + 0 + 0 + 0 + 0 + 6 + 0 + 0 + 0 + 0 + 0 + 0) 176 #[.val (.int m), .val (.int p), .val (.int w), .val (.int v13), .val (.ref a15), .val (.int z63)] [] := by
              intro h62 z63 hJ64
              obtain ⟨K65, A66, hk67⟩ := hJ64
              refine go_aload B d1_176 rfl rfl ?_
              refine go_areturn B d1_178 rfl rfl rfl (by decide) (by decide) ?_
              have f68 : Keep h0 h62 [] := (Keep.trans (Keep.trans (Keep.trans (Keep.trans (Keep.trans (Keep.trans (Keep.ext (Keep.refl h0 []) Ea15) K23 (allS (Or.inr fr_a15) all0)) K31 (allS (Or.inr fr_a15) all0)) K40 (allS (Or.inr fr_a15) all0)) K48 (allS (Or.inr fr_a15) all0)) K56 (allS (Or.inr fr_a15) all0)) K65 (allS (Or.inr fr_a15) all0))
              exact ⟨a15, rfl, by omega, f68, by rw [← own_ca_6]; exact A66⟩
            refine go_icmpne B d1_164 (fun c164 => ?_) (fun c164 => ?_)
            · skip
              exact J64 h53 _ ⟨Keep.refl _ _, by rw [(own_f5 _ _ _ _ _ _ (own_bf c164)).1]; exact A57, by rw [(own_f5 _ _ _ _ _ _ (own_bf c164)).2]; exact hk58⟩
            · skip
              refine go_aload B d1_167 rfl rfl ?_
              refine go_iload B d1_169 rfl ?_
              refine go_iconst B (x := (5 : Int32)) d1_171 rfl ?_
              refine go_iastore B (i := (own_c [t0, t1, t2, t3, t4, t5] 5)) d1_172 A57 hk58 (by rw [own_v_len]; exact (own_t5 _ _ _ _ _ _ (own_bt c164)).2.2) ge_a15 ?_
              intro h69 W70 A71
              have A72 : AV Z h69 a15 .int ((own_v (own_ca [t0, t1, t2, t3, t4, t5] 5)).set (own_c [t0, t1, t2, t3, t4, t5] 5) (.int (5 : Int32))) := A71
              refine go_iinc B #[.val (.int m), .val (.int p), .val (.int w), .val (.int v13), .val (.ref a15), .val (.int (z54 + (1 : Int32)))] d1_173 (z := (1 : Int32)) rfl rfl rfl ?_
              exact J64 h69 _ ⟨Keep.of_wr W70, by rw [← (own_t5 _ _ _ _ _ _ (own_bt c164)).1, ← own_v_set]; exact A72, by rw [(own_t5 _ _ _ _ _ _ (own_bt c164)).2.1]; have := own_c_le t0 t1 t2 t3 t4 t5 5; rw [i_add hk58 (show (1 : Int32).toInt = 1 from rfl) (by omega) (by omega)]; omega⟩
          refine go_icmpne B d1_144 (fun c144 => ?_) (fun c144 => ?_)
          · skip
            exact J55 h45 _ ⟨Keep.refl _ _, by rw [(own_f4 _ _ _ _ _ _ (own_bf c144)).1]; exact A49, by rw [(own_f4 _ _ _ _ _ _ (own_bf c144)).2]; exact hk50⟩
          · skip
            refine go_aload B d1_147 rfl rfl ?_
            refine go_iload B d1_149 rfl ?_
            refine go_iconst B (x := (4 : Int32)) d1_151 rfl ?_
            refine go_iastore B (i := (own_c [t0, t1, t2, t3, t4, t5] 4)) d1_152 A49 hk50 (by rw [own_v_len]; exact (own_t4 _ _ _ _ _ _ (own_bt c144)).2.2) ge_a15 ?_
            intro h73 W74 A75
            have A76 : AV Z h73 a15 .int ((own_v (own_ca [t0, t1, t2, t3, t4, t5] 4)).set (own_c [t0, t1, t2, t3, t4, t5] 4) (.int (4 : Int32))) := A75
            refine go_iinc B #[.val (.int m), .val (.int p), .val (.int w), .val (.int v13), .val (.ref a15), .val (.int (z46 + (1 : Int32)))] d1_153 (z := (1 : Int32)) rfl rfl rfl ?_
            exact J55 h73 _ ⟨Keep.of_wr W74, by rw [← (own_t4 _ _ _ _ _ _ (own_bt c144)).1, ← own_v_set]; exact A76, by rw [(own_t4 _ _ _ _ _ _ (own_bt c144)).2.1]; have := own_c_le t0 t1 t2 t3 t4 t5 4; rw [i_add hk50 (show (1 : Int32).toInt = 1 from rfl) (by omega) (by omega)]; omega⟩
        refine go_icmpne B d1_124 (fun c124 => ?_) (fun c124 => ?_)
        · skip
          exact J47 h37 _ ⟨Keep.refl _ _, by rw [(own_f3 _ _ _ _ _ _ (own_bf c124)).1]; exact A41, by rw [(own_f3 _ _ _ _ _ _ (own_bf c124)).2]; exact hk42⟩
        · skip
          refine go_aload B d1_127 rfl rfl ?_
          refine go_iload B d1_129 rfl ?_
          refine go_iconst B (x := (3 : Int32)) d1_131 rfl ?_
          refine go_iastore B (i := (own_c [t0, t1, t2, t3, t4, t5] 3)) d1_132 A41 hk42 (by rw [own_v_len]; exact (own_t3 _ _ _ _ _ _ (own_bt c124)).2.2) ge_a15 ?_
          intro h77 W78 A79
          have A80 : AV Z h77 a15 .int ((own_v (own_ca [t0, t1, t2, t3, t4, t5] 3)).set (own_c [t0, t1, t2, t3, t4, t5] 3) (.int (3 : Int32))) := A79
          refine go_iinc B #[.val (.int m), .val (.int p), .val (.int w), .val (.int v13), .val (.ref a15), .val (.int (z38 + (1 : Int32)))] d1_133 (z := (1 : Int32)) rfl rfl rfl ?_
          exact J47 h77 _ ⟨Keep.of_wr W78, by rw [← (own_t3 _ _ _ _ _ _ (own_bt c124)).1, ← own_v_set]; exact A80, by rw [(own_t3 _ _ _ _ _ _ (own_bt c124)).2.1]; have := own_c_le t0 t1 t2 t3 t4 t5 3; rw [i_add hk42 (show (1 : Int32).toInt = 1 from rfl) (by omega) (by omega)]; omega⟩
      refine go_icmpne B d1_104 (fun c104 => ?_) (fun c104 => ?_)
      · skip
        exact J39 h28 _ ⟨Keep.refl _ _, by rw [(own_f2 _ _ _ _ _ _ (own_bf c104)).1]; exact A32, by rw [(own_f2 _ _ _ _ _ _ (own_bf c104)).2]; exact hk33⟩
      · skip
        refine go_aload B d1_107 rfl rfl ?_
        refine go_iload B d1_109 rfl ?_
        refine go_iconst B (x := (2 : Int32)) d1_111 rfl ?_
        refine go_iastore B (i := (own_c [t0, t1, t2, t3, t4, t5] 2)) d1_112 A32 hk33 (by rw [own_v_len]; exact (own_t2 _ _ _ _ _ _ (own_bt c104)).2.2) ge_a15 ?_
        intro h81 W82 A83
        have A84 : AV Z h81 a15 .int ((own_v (own_ca [t0, t1, t2, t3, t4, t5] 2)).set (own_c [t0, t1, t2, t3, t4, t5] 2) (.int (2 : Int32))) := A83
        refine go_iinc B #[.val (.int m), .val (.int p), .val (.int w), .val (.int v13), .val (.ref a15), .val (.int (z29 + (1 : Int32)))] d1_113 (z := (1 : Int32)) rfl rfl rfl ?_
        exact J39 h81 _ ⟨Keep.of_wr W82, by rw [← (own_t2 _ _ _ _ _ _ (own_bt c104)).1, ← own_v_set]; exact A84, by rw [(own_t2 _ _ _ _ _ _ (own_bt c104)).2.1]; have := own_c_le t0 t1 t2 t3 t4 t5 2; rw [i_add hk33 (show (1 : Int32).toInt = 1 from rfl) (by omega) (by omega)]; omega⟩
    refine go_icmpne B d1_84 (fun c84 => ?_) (fun c84 => ?_)
    · skip
      exact J30 h20 _ ⟨Keep.refl _ _, by rw [(own_f1 _ _ _ _ _ _ (own_bf c84)).1]; exact A24, by rw [(own_f1 _ _ _ _ _ _ (own_bf c84)).2]; exact hk25⟩
    · skip
      refine go_aload B d1_87 rfl rfl ?_
      refine go_iload B d1_89 rfl ?_
      refine go_iconst B (x := (1 : Int32)) d1_91 rfl ?_
      refine go_iastore B (i := (own_c [t0, t1, t2, t3, t4, t5] 1)) d1_92 A24 hk25 (by rw [own_v_len]; exact (own_t1 _ _ _ _ _ _ (own_bt c84)).2.2) ge_a15 ?_
      intro h85 W86 A87
      have A88 : AV Z h85 a15 .int ((own_v (own_ca [t0, t1, t2, t3, t4, t5] 1)).set (own_c [t0, t1, t2, t3, t4, t5] 1) (.int (1 : Int32))) := A87
      refine go_iinc B #[.val (.int m), .val (.int p), .val (.int w), .val (.int v13), .val (.ref a15), .val (.int (z21 + (1 : Int32)))] d1_93 (z := (1 : Int32)) rfl rfl rfl ?_
      exact J30 h85 _ ⟨Keep.of_wr W86, by rw [← (own_t1 _ _ _ _ _ _ (own_bt c84)).1, ← own_v_set]; exact A88, by rw [(own_t1 _ _ _ _ _ _ (own_bt c84)).2.1]; have := own_c_le t0 t1 t2 t3 t4 t5 1; rw [i_add hk25 (show (1 : Int32).toInt = 1 from rfl) (by omega) (by omega)]; omega⟩
  refine go_icmpne B d1_64 (fun c64 => ?_) (fun c64 => ?_)
  · skip
    exact J22 h14 _ ⟨Keep.refl _ _, by rw [(own_f0 _ _ _ _ _ _ (own_bf c64)).1]; exact A16, by rw [(own_f0 _ _ _ _ _ _ (own_bf c64)).2]; exact hk17⟩
  · skip
    refine go_aload B d1_67 rfl rfl ?_
    refine go_iload B d1_69 rfl ?_
    refine go_iconst B (x := (0 : Int32)) d1_71 rfl ?_
    refine go_iastore B (i := (own_c [t0, t1, t2, t3, t4, t5] 0)) d1_72 A16 hk17 (by rw [own_v_len]; exact (own_t0 _ _ _ _ _ _ (own_bt c64)).2.2) ge_a15 ?_
    intro h89 W90 A91
    have A92 : AV Z h89 a15 .int ((own_v (own_ca [t0, t1, t2, t3, t4, t5] 0)).set (own_c [t0, t1, t2, t3, t4, t5] 0) (.int (0 : Int32))) := A91
    refine go_iinc B #[.val (.int m), .val (.int p), .val (.int w), .val (.int v13), .val (.ref a15), .val (.int ((0 : Int32) + (1 : Int32)))] d1_73 (z := (1 : Int32)) rfl rfl rfl ?_
    rw [show ((0 : Int32) + (1 : Int32)) = (1 : Int32) from by decide]
    exact J22 h89 _ ⟨Keep.of_wr W90, by rw [← (own_t0 _ _ _ _ _ _ (own_bt c64)).1, ← own_v_set]; exact A92, by rw [(own_t0 _ _ _ _ _ _ (own_bt c64)).2.1, own_c_0]; rfl⟩
def own_oth : List Int32 → List Int32 → List Int32
  | _, [] => []
  | [], i :: r => i :: own_oth [] r
  | s :: S, i :: r => if s = i then own_oth S r else i :: own_oth (s :: S) r
def own_rng : Nat → Nat → List Int32
  | _, 0 => []
  | i, m + 1 => Int32.ofNat i :: own_rng (i + 1) m
theorem own_oth_nil (S : List Int32) : own_oth S [] = [] := by cases S <;> rfl
theorem own_oth_n (i : Int32) (r : List Int32) : own_oth [] (i :: r) = i :: own_oth [] r := rfl
theorem own_oth_e (s i : Int32) (S r : List Int32) (h : s = i) : own_oth (s :: S) (i :: r) = own_oth S r := by simp [own_oth, h]
theorem own_oth_ne (s i : Int32) (S r : List Int32) (h : ¬ s = i) : own_oth (s :: S) (i :: r) = i :: own_oth (s :: S) r := by simp [own_oth, h]
theorem own_push (P : List Int32) (n : Nat) (x : Int32) (h : P.length < n) : (P ++ List.replicate (n - P.length) 0).set P.length x = (P ++ [x]) ++ List.replicate (n - (P ++ [x]).length) 0 := by
  obtain ⟨k, hk⟩ : ∃ k, n - P.length = k + 1 := ⟨n - P.length - 1, by omega⟩
  rw [hk, show n - (P ++ [x]).length = k by simp; omega, List.replicate_succ]
  simp [List.set_append]
theorem own_drop (S : List Int32) (k : Nat) (h : k < S.length) : S.drop k = S.getD k 0 :: S.drop (k + 1) := by
  rw [List.drop_eq_getElem_cons h]; simp [List.getD, h]
theorem own_of {i : Nat} {x : Int32} (h : x.toInt = (i : Int)) (hi : i < 2147483648) : Int32.ofNat i = x := i_eq (i_ofNat hi) h
theorem d3_15 : Dc prog_89_method_2_code 15 (.iload 5) 2 17 := ⟨by decide +kernel, rfl⟩
theorem d3_17 : Dc prog_89_method_2_code 17 (.iload_n 1) 1 18 := ⟨by decide +kernel, rfl⟩
theorem d3_18 : Db prog_89_method_2_code 18 (.if_icmp .ge 38) 38 21 56 := ⟨by decide +kernel, rfl, rfl⟩
theorem d3_21 : Dc prog_89_method_2_code 21 (.iload_n 3) 1 22 := ⟨by decide +kernel, rfl⟩
theorem d3_22 : Dc prog_89_method_2_code 22 (.aload_n 0) 1 23 := ⟨by decide +kernel, rfl⟩
theorem d3_23 : Dc prog_89_method_2_code 23 (.arraylength) 1 24 := ⟨by decide +kernel, rfl⟩
theorem d3_24 : Db prog_89_method_2_code 24 (.if_icmp .ge 17) 17 27 41 := ⟨by decide +kernel, rfl, rfl⟩
theorem d3_41 : Dc prog_89_method_2_code 41 (.aload_n 2) 1 42 := ⟨by decide +kernel, rfl⟩
theorem d3_42 : Dc prog_89_method_2_code 42 (.iload 4) 2 44 := ⟨by decide +kernel, rfl⟩
theorem d3_44 : Dc prog_89_method_2_code 44 (.iload 5) 2 46 := ⟨by decide +kernel, rfl⟩
theorem d3_46 : Dc prog_89_method_2_code 46 (.iastore) 1 47 := ⟨by decide +kernel, rfl⟩
theorem d3_47 : Dc prog_89_method_2_code 47 (.iinc 4 1) 3 50 := ⟨by decide +kernel, rfl⟩
theorem d3_50 : Dc prog_89_method_2_code 50 (.iinc 5 1) 3 53 := ⟨by decide +kernel, rfl⟩
theorem d3_53 : Db prog_89_method_2_code 53 (.goto (-38)) (-38) 56 15 := ⟨by decide +kernel, rfl, rfl⟩
theorem d3_27 : Dc prog_89_method_2_code 27 (.aload_n 0) 1 28 := ⟨by decide +kernel, rfl⟩
theorem d3_28 : Dc prog_89_method_2_code 28 (.iload_n 3) 1 29 := ⟨by decide +kernel, rfl⟩
theorem d3_29 : Dc prog_89_method_2_code 29 (.iaload) 1 30 := ⟨by decide +kernel, rfl⟩
theorem d3_30 : Dc prog_89_method_2_code 30 (.iload 5) 2 32 := ⟨by decide +kernel, rfl⟩
theorem d3_32 : Db prog_89_method_2_code 32 (.if_icmp .ne 9) 9 35 41 := ⟨by decide +kernel, rfl, rfl⟩
theorem d3_35 : Dc prog_89_method_2_code 35 (.iinc 3 1) 3 38 := ⟨by decide +kernel, rfl⟩
theorem d3_38 : Db prog_89_method_2_code 38 (.goto 12) 12 41 50 := ⟨by decide +kernel, rfl, rfl⟩
set_option maxRecDepth 65536 in
set_option maxHeartbeats 40000000 in
theorem loop15 {κ : Cx} {l : Launch} {Z : State} {a0 : Array Value} {n0 : Nat} (H : Wd a0 Z) (B : Ok κ l Z a0 n0 ({ frames := 0, cells := 1, slots := 6, locals := 0 } : Room) "com/example/handpick/handpick/SetWalk" "others" prog_89_method_2_code 6 (some (.array .int))) {Q : Option Value → Heap → Prop} {k nn pn : Nat} {p : Int32} {a b : Addr} {S tot : List Int32} (hpn : pn ≤ 6) (hp : p.toInt = (pn : Int)) (hS : S.length ≤ 6) (hT : tot.length ≤ 6) (gb : n0 ≤ b) (nab : a ≠ b) :
    ∀ (m i : Nat), i + m = pn → ∀ (kn : Nat) (kv jv iv : Int32) (P : List Int32), kn ≤ S.length → iv.toInt = (i : Int) → kv.toInt = (kn : Int) → jv.toInt = (P.length : Int) → P ++ own_oth (S.drop kn) (own_rng i m) = tot → ∀ (h : Heap), AV Z h a .int (own_v S) → AV Z h b .int (own_v (P ++ List.replicate (tot.length - P.length) 0)) →
    (∀ h' kv' jv' iv', Keep h h' [b] → AV Z h' b .int (own_v tot) → Go κ Q h' k nn 56 #[.val (.ref a), .val (.int p), .val (.ref b), .val (.int kv'), .val (.int jv'), .val (.int iv')] []) → Go κ Q h k nn 15 #[.val (.ref a), .val (.int p), .val (.ref b), .val (.int kv), .val (.int jv), .val (.int iv)] [] := by
  intro m
  induction m with
  | zero =>
    intro i him kn kv jv iv P hkl hi hk hj htot h A1 A2 g
    refine go_iload B d3_15 rfl ?_
    refine go_iload_n B d3_17 rfl ?_
    refine go_icmpge B d3_18 (fun c18 => ?_) (fun c18 => ?_)
    rotate_left
    · exact absurd c18 (i_nlt hi hp (by omega))
    rw [own_rng, own_oth_nil, List.append_nil] at htot
    subst htot
    exact g h kv jv iv (Keep.refl _ _) (by simpa using A2)
  | succ m ih =>
    intro i him kn kv jv iv P hkl hi hk hj htot h A1 A2 g
    have hPl : P.length ≤ tot.length := by rw [← htot]; simp
    refine go_iload B d3_15 rfl ?_
    refine go_iload_n B d3_17 rfl ?_
    refine go_icmpge B d3_18 (fun c18 => ?_) (fun c18 => ?_)
    · exact absurd (i_lt hi hp (by omega)) c18
    refine go_iload_n B d3_21 rfl ?_
    refine go_aload_n B d3_22 rfl rfl ?_
    refine go_arraylength B (x := (Int32.ofNat S.length)) d3_23 A1 (by rw [own_v_len]) ?_
    refine go_icmpge B d3_24 (fun c24 => ?_) (fun c24 => ?_)
    · skip
      have hlt : P.length < tot.length := by rw [← htot, own_rng, show S.drop kn = [] from List.drop_of_length_le (by have := i_of_nlt hk (i_ofNat (by omega)) c24; omega), own_oth_n]; simp
      refine go_aload_n B d3_41 rfl rfl ?_
      refine go_iload B d3_42 rfl ?_
      refine go_iload B d3_44 rfl ?_
      refine go_iastore B (i := P.length) d3_46 A2 hj (by rw [own_v_len]; simp; omega) gb ?_
      intro h93 W94 A95
      have A96 : AV Z h93 b .int (own_v ((P ++ [iv]) ++ List.replicate (tot.length - (P ++ [iv]).length) 0)) := (by rw [← own_push _ _ _ (by omega), ← own_v_set]; exact A95)
      refine go_iinc B #[.val (.ref a), .val (.int p), .val (.ref b), .val (.int kv), .val (.int (jv + (1 : Int32))), .val (.int iv)] d3_47 (z := (1 : Int32)) rfl rfl rfl ?_
      refine go_iinc B #[.val (.ref a), .val (.int p), .val (.ref b), .val (.int kv), .val (.int (jv + (1 : Int32))), .val (.int (iv + (1 : Int32)))] d3_50 (z := (1 : Int32)) rfl rfl rfl ?_
      refine go_goto B d3_53 ?_
      refine ih (i + 1) (by omega) kn _ _ _ (P ++ [iv]) hkl (by rw [i_add hi (show (1 : Int32).toInt = 1 from rfl) (by omega) (by omega)]; omega) hk (by rw [i_add hj (show (1 : Int32).toInt = 1 from rfl) (by omega) (by omega)]; simp) (by rw [← htot, own_rng, show S.drop kn = [] from List.drop_of_length_le (by have := i_of_nlt hk (i_ofNat (by omega)) c24; omega), own_oth_n, own_of hi (by omega), List.append_assoc, List.singleton_append]) h93 (AV.other A1 W94 nab) A96 ?_
      intro h' kv' jv' iv' K' A'
      exact g h' kv' jv' iv' (((Keep.wr (Keep.refl h [b]) W94 (Or.inl (by simp)))).trans K' (allS (Or.inl (by simp)) all0)) A'
    · skip
      refine go_aload_n B d3_27 rfl rfl ?_
      refine go_iload_n B d3_28 rfl ?_
      refine go_iaload B (i := kn) (v := (.int (S.getD kn 0))) d3_29 A1 hk (own_v_at S kn (by have := i_of_lt hk (i_ofNat (by omega)) c24; omega)) ?_
      refine go_iload B d3_30 rfl ?_
      refine go_icmpne B d3_32 (fun c32 => ?_) (fun c32 => ?_)
      · skip
        have hlt : P.length < tot.length := by rw [← htot, own_rng, own_drop S kn (by have := i_of_lt hk (i_ofNat (by omega)) c24; omega), own_oth_ne _ _ _ _ (fun q => c32 (q.trans (own_of hi (by omega))))]; simp
        refine go_aload_n B d3_41 rfl rfl ?_
        refine go_iload B d3_42 rfl ?_
        refine go_iload B d3_44 rfl ?_
        refine go_iastore B (i := P.length) d3_46 A2 hj (by rw [own_v_len]; simp; omega) gb ?_
        intro h97 W98 A99
        have A100 : AV Z h97 b .int (own_v ((P ++ [iv]) ++ List.replicate (tot.length - (P ++ [iv]).length) 0)) := (by rw [← own_push _ _ _ (by omega), ← own_v_set]; exact A99)
        refine go_iinc B #[.val (.ref a), .val (.int p), .val (.ref b), .val (.int kv), .val (.int (jv + (1 : Int32))), .val (.int iv)] d3_47 (z := (1 : Int32)) rfl rfl rfl ?_
        refine go_iinc B #[.val (.ref a), .val (.int p), .val (.ref b), .val (.int kv), .val (.int (jv + (1 : Int32))), .val (.int (iv + (1 : Int32)))] d3_50 (z := (1 : Int32)) rfl rfl rfl ?_
        refine go_goto B d3_53 ?_
        refine ih (i + 1) (by omega) kn _ _ _ (P ++ [iv]) hkl (by rw [i_add hi (show (1 : Int32).toInt = 1 from rfl) (by omega) (by omega)]; omega) hk (by rw [i_add hj (show (1 : Int32).toInt = 1 from rfl) (by omega) (by omega)]; simp) (by rw [← htot, own_rng, own_drop S kn (by have := i_of_lt hk (i_ofNat (by omega)) c24; omega), own_oth_ne _ _ _ _ (fun q => c32 (q.trans (own_of hi (by omega)))), own_of hi (by omega), List.append_assoc, List.singleton_append]) h97 (AV.other A1 W98 nab) A100 ?_
        intro h' kv' jv' iv' K' A'
        exact g h' kv' jv' iv' (((Keep.wr (Keep.refl h [b]) W98 (Or.inl (by simp)))).trans K' (allS (Or.inl (by simp)) all0)) A'
      · skip
        refine go_iinc B #[.val (.ref a), .val (.int p), .val (.ref b), .val (.int (kv + (1 : Int32))), .val (.int jv), .val (.int iv)] d3_35 (z := (1 : Int32)) rfl rfl rfl ?_
        refine go_goto B d3_38 ?_
        refine go_iinc B #[.val (.ref a), .val (.int p), .val (.ref b), .val (.int (kv + (1 : Int32))), .val (.int jv), .val (.int (iv + (1 : Int32)))] d3_50 (z := (1 : Int32)) rfl rfl rfl ?_
        refine go_goto B d3_53 ?_
        have hkS : kn < S.length := by have := i_of_lt hk (i_ofNat (by omega)) c24; omega
        refine ih (i + 1) (by omega) (kn + 1) _ _ _ P (by omega) (by rw [i_add hi (show (1 : Int32).toInt = 1 from rfl) (by omega) (by omega)]; omega) (by rw [i_add hk (show (1 : Int32).toInt = 1 from rfl) (by omega) (by omega)]; omega) hj (by rw [← htot, own_rng, own_drop S kn hkS, own_oth_e _ _ _ _ (c32.trans (own_of hi (by omega)).symm)]) h A1 A2 ?_
        exact g
theorem pn_com_example_handpick_handpick_SetWalk : plainName "com/example/handpick/handpick/SetWalk" = true := by first | (simp [plainName, overriddenIn]; done) | decide +kernel
theorem d3_0 : Dc prog_89_method_2_code 0 (.iload_n 1) 1 1 := ⟨by decide +kernel, rfl⟩
theorem d3_1 : Dc prog_89_method_2_code 1 (.aload_n 0) 1 2 := ⟨by decide +kernel, rfl⟩
theorem d3_2 : Dc prog_89_method_2_code 2 (.arraylength) 1 3 := ⟨by decide +kernel, rfl⟩
theorem d3_3 : Dc prog_89_method_2_code 3 (.isub) 1 4 := ⟨by decide +kernel, rfl⟩
theorem d3_4 : Dc prog_89_method_2_code 4 (.newarray .int) 2 6 := ⟨by decide +kernel, rfl⟩
theorem d3_6 : Dc prog_89_method_2_code 6 (.astore_n 2) 1 7 := ⟨by decide +kernel, rfl⟩
theorem d3_7 : Dc prog_89_method_2_code 7 (.iconst 0) 1 8 := ⟨by decide +kernel, rfl⟩
theorem d3_8 : Dc prog_89_method_2_code 8 (.istore_n 3) 1 9 := ⟨by decide +kernel, rfl⟩
theorem d3_9 : Dc prog_89_method_2_code 9 (.iconst 0) 1 10 := ⟨by decide +kernel, rfl⟩
theorem d3_10 : Dc prog_89_method_2_code 10 (.istore 4) 2 12 := ⟨by decide +kernel, rfl⟩
theorem d3_12 : Dc prog_89_method_2_code 12 (.iconst 0) 1 13 := ⟨by decide +kernel, rfl⟩
theorem d3_13 : Dc prog_89_method_2_code 13 (.istore 5) 2 15 := ⟨by decide +kernel, rfl⟩
theorem d3_56 : Dc prog_89_method_2_code 56 (.aload_n 2) 1 57 := ⟨by decide +kernel, rfl⟩
theorem d3_57 : Dc prog_89_method_2_code 57 (.areturn) 1 58 := ⟨by decide +kernel, rfl⟩
set_option maxRecDepth 65536 in
set_option maxHeartbeats 40000000 in
theorem rmO {l : Launch} {Z : State} {a0 : Array Value} {n0 : Nat} (H : Wd a0 Z) (a : Addr) (p : Int32) (pn : Nat) (S tot : List Int32) (h0 : Heap) (Z0 : n0 ≤ h0.size) (A1 : AV Z h0 a .int (own_v S)) (hpn : pn ≤ 6) (hp : p.toInt = (pn : Int)) (hS : S.length ≤ 6) (hT : tot.length ≤ 6) (hTS : tot.length + S.length = pn) (htot : own_oth S (own_rng 0 pn) = tot) :
    Ct l Z n0 (⟨"com/example/handpick/handpick/SetWalk", "others", "([II)[I"⟩ : MethodName) prog_89_method_2_code 6 (some (.array .int)) [] ({ frames := 0, cells := 1, slots := 6, locals := 0 } : Room) #[(.ref a), (.int p)] h0 (fun v h => ∃ b, v = some (.ref b) ∧ h0.size ≤ b ∧ Keep h0 h [] ∧ AV Z h b .int (own_v tot)) := by
  refine Ct.of (a0 := a0) (L0 := #[.val (.ref a), .val (.int p), .unset, .unset, .unset, .unset]) (plainFor_of_name pn_com_example_handpick_handpick_SetWalk) (fun m => by first | (simp [entryFrame, mkF, argsToLocals, Value.category]; done) | rfl) ?_
  intro κ B0
  have B : Ok κ l Z a0 n0 ({ frames := 0, cells := 1, slots := 6, locals := 0 } : Room) "com/example/handpick/handpick/SetWalk" "others" prog_89_method_2_code 6 (some (.array .int)) := B0
  refine go_iload_n B d3_0 rfl ?_
  refine go_aload_n B d3_1 rfl rfl ?_
  refine go_arraylength B (x := (Int32.ofNat S.length)) d3_2 A1 (by rw [own_v_len]) ?_
  refine go_isub B d3_3 ?_
  refine go_newarray B (i := tot.length) (cap := 6) d3_4 (w_8 H) (by rw [i_sub hp (i_ofNat (by omega)) (by omega) (by omega)]; omega) hT (by decide) (by decide) (by decide) ?_
  intro h101 a102 hba102 Ea102 Aa102 Ca102
  have ne_a102_a : a102 ≠ a := Nat.ne_of_gt (Nat.lt_of_lt_of_le (A1).lt (by omega))
  have ge_a102 : n0 ≤ a102 := by have q1 := Z0; omega
  refine go_astore_n B #[.val (.ref a), .val (.int p), .val (.ref a102), .unset, .unset, .unset] d3_6 rfl rfl ?_
  refine go_iconst B (x := (0 : Int32)) d3_7 rfl ?_
  refine go_istore_n B #[.val (.ref a), .val (.int p), .val (.ref a102), .val (.int (0 : Int32)), .unset, .unset] d3_8 rfl ?_
  refine go_iconst B (x := (0 : Int32)) d3_9 rfl ?_
  refine go_istore B #[.val (.ref a), .val (.int p), .val (.ref a102), .val (.int (0 : Int32)), .val (.int (0 : Int32)), .unset] d3_10 rfl ?_
  refine go_iconst B (x := (0 : Int32)) d3_12 rfl ?_
  refine go_istore B #[.val (.ref a), .val (.int p), .val (.ref a102), .val (.int (0 : Int32)), .val (.int (0 : Int32)), .val (.int (0 : Int32))] d3_13 rfl ?_
  refine loop15 H B hpn hp hS hT ge_a102 (Ne.symm ne_a102_a) pn 0 (by omega) 0 _ _ _ [] (by omega) rfl rfl rfl htot h101 (AV.ext A1 Ea102) (by have q : AV Z h101 a102 .int (List.replicate tot.length (Value.int 0)) := Aa102; simpa [own_v] using q) ?_
  intro h' kv' jv' iv' K' A'
  refine go_aload_n B d3_56 rfl rfl ?_
  refine go_areturn B d3_57 rfl rfl rfl (by decide) (by decide) ?_
  exact ⟨a102, rfl, by omega, (Keep.ext (Keep.refl h0 []) Ea102).trans K' (allS (Or.inr (by omega)) all0), A'⟩
theorem d4_0 : Dc method_5_code 0 (.aload_n 0) 1 1 := ⟨by decide +kernel, rfl⟩
theorem d4_1 : Dc method_5_code 1 (.arraylength) 1 2 := ⟨by decide +kernel, rfl⟩
theorem d4_2 : Dc method_5_code 2 (.aload_n 1) 1 3 := ⟨by decide +kernel, rfl⟩
theorem d4_3 : Dc method_5_code 3 (.arraylength) 1 4 := ⟨by decide +kernel, rfl⟩
theorem d4_4 : Db method_5_code 4 (.if_icmp .eq 5) 5 7 9 := ⟨by decide +kernel, rfl, rfl⟩
theorem d4_9 : Dc method_5_code 9 (.aload_n 0) 1 10 := ⟨by decide +kernel, rfl⟩
theorem d4_10 : Dc method_5_code 10 (.arraylength) 1 11 := ⟨by decide +kernel, rfl⟩
theorem d4_11 : Db method_5_code 11 (.ifCond .le 14) 14 14 25 := ⟨by decide +kernel, rfl, rfl⟩
theorem d4_25 : Dc method_5_code 25 (.aload_n 0) 1 26 := ⟨by decide +kernel, rfl⟩
theorem d4_26 : Dc method_5_code 26 (.arraylength) 1 27 := ⟨by decide +kernel, rfl⟩
theorem d4_27 : Dc method_5_code 27 (.iconst 1) 1 28 := ⟨by decide +kernel, rfl⟩
theorem d4_28 : Db method_5_code 28 (.if_icmp .le 14) 14 31 42 := ⟨by decide +kernel, rfl, rfl⟩
theorem d4_42 : Dc method_5_code 42 (.aload_n 0) 1 43 := ⟨by decide +kernel, rfl⟩
theorem d4_43 : Dc method_5_code 43 (.arraylength) 1 44 := ⟨by decide +kernel, rfl⟩
theorem d4_44 : Dc method_5_code 44 (.iconst 2) 1 45 := ⟨by decide +kernel, rfl⟩
theorem d4_45 : Db method_5_code 45 (.if_icmp .le 14) 14 48 59 := ⟨by decide +kernel, rfl, rfl⟩
theorem d4_59 : Dc method_5_code 59 (.aload_n 0) 1 60 := ⟨by decide +kernel, rfl⟩
theorem d4_60 : Dc method_5_code 60 (.arraylength) 1 61 := ⟨by decide +kernel, rfl⟩
theorem d4_61 : Dc method_5_code 61 (.iconst 3) 1 62 := ⟨by decide +kernel, rfl⟩
theorem d4_62 : Db method_5_code 62 (.if_icmp .le 14) 14 65 76 := ⟨by decide +kernel, rfl, rfl⟩
theorem d4_76 : Dc method_5_code 76 (.aload_n 0) 1 77 := ⟨by decide +kernel, rfl⟩
theorem d4_77 : Dc method_5_code 77 (.arraylength) 1 78 := ⟨by decide +kernel, rfl⟩
theorem d4_78 : Dc method_5_code 78 (.iconst 4) 1 79 := ⟨by decide +kernel, rfl⟩
theorem d4_79 : Db method_5_code 79 (.if_icmp .le 14) 14 82 93 := ⟨by decide +kernel, rfl, rfl⟩
theorem d4_93 : Dc method_5_code 93 (.aload_n 0) 1 94 := ⟨by decide +kernel, rfl⟩
theorem d4_94 : Dc method_5_code 94 (.arraylength) 1 95 := ⟨by decide +kernel, rfl⟩
theorem d4_95 : Dc method_5_code 95 (.iconst 5) 1 96 := ⟨by decide +kernel, rfl⟩
theorem d4_96 : Db method_5_code 96 (.if_icmp .le 14) 14 99 110 := ⟨by decide +kernel, rfl, rfl⟩
theorem d4_110 : Dc method_5_code 110 (.iconst 1) 1 111 := ⟨by decide +kernel, rfl⟩
theorem d4_111 : Dc method_5_code 111 (.ireturn) 1 112 := ⟨by decide +kernel, rfl⟩
theorem d4_99 : Dc method_5_code 99 (.aload_n 0) 1 100 := ⟨by decide +kernel, rfl⟩
theorem d4_100 : Dc method_5_code 100 (.iconst 5) 1 101 := ⟨by decide +kernel, rfl⟩
theorem d4_101 : Dc method_5_code 101 (.iaload) 1 102 := ⟨by decide +kernel, rfl⟩
theorem d4_102 : Dc method_5_code 102 (.aload_n 1) 1 103 := ⟨by decide +kernel, rfl⟩
theorem d4_103 : Dc method_5_code 103 (.iconst 5) 1 104 := ⟨by decide +kernel, rfl⟩
theorem d4_104 : Dc method_5_code 104 (.iaload) 1 105 := ⟨by decide +kernel, rfl⟩
theorem d4_105 : Db method_5_code 105 (.if_icmp .eq 5) 5 108 110 := ⟨by decide +kernel, rfl, rfl⟩
theorem d4_82 : Dc method_5_code 82 (.aload_n 0) 1 83 := ⟨by decide +kernel, rfl⟩
theorem d4_83 : Dc method_5_code 83 (.iconst 4) 1 84 := ⟨by decide +kernel, rfl⟩
theorem d4_84 : Dc method_5_code 84 (.iaload) 1 85 := ⟨by decide +kernel, rfl⟩
theorem d4_85 : Dc method_5_code 85 (.aload_n 1) 1 86 := ⟨by decide +kernel, rfl⟩
theorem d4_86 : Dc method_5_code 86 (.iconst 4) 1 87 := ⟨by decide +kernel, rfl⟩
theorem d4_87 : Dc method_5_code 87 (.iaload) 1 88 := ⟨by decide +kernel, rfl⟩
theorem d4_88 : Db method_5_code 88 (.if_icmp .eq 5) 5 91 93 := ⟨by decide +kernel, rfl, rfl⟩
theorem d4_65 : Dc method_5_code 65 (.aload_n 0) 1 66 := ⟨by decide +kernel, rfl⟩
theorem d4_66 : Dc method_5_code 66 (.iconst 3) 1 67 := ⟨by decide +kernel, rfl⟩
theorem d4_67 : Dc method_5_code 67 (.iaload) 1 68 := ⟨by decide +kernel, rfl⟩
theorem d4_68 : Dc method_5_code 68 (.aload_n 1) 1 69 := ⟨by decide +kernel, rfl⟩
theorem d4_69 : Dc method_5_code 69 (.iconst 3) 1 70 := ⟨by decide +kernel, rfl⟩
theorem d4_70 : Dc method_5_code 70 (.iaload) 1 71 := ⟨by decide +kernel, rfl⟩
theorem d4_71 : Db method_5_code 71 (.if_icmp .eq 5) 5 74 76 := ⟨by decide +kernel, rfl, rfl⟩
theorem d4_48 : Dc method_5_code 48 (.aload_n 0) 1 49 := ⟨by decide +kernel, rfl⟩
theorem d4_49 : Dc method_5_code 49 (.iconst 2) 1 50 := ⟨by decide +kernel, rfl⟩
theorem d4_50 : Dc method_5_code 50 (.iaload) 1 51 := ⟨by decide +kernel, rfl⟩
theorem d4_51 : Dc method_5_code 51 (.aload_n 1) 1 52 := ⟨by decide +kernel, rfl⟩
theorem d4_52 : Dc method_5_code 52 (.iconst 2) 1 53 := ⟨by decide +kernel, rfl⟩
theorem d4_53 : Dc method_5_code 53 (.iaload) 1 54 := ⟨by decide +kernel, rfl⟩
theorem d4_54 : Db method_5_code 54 (.if_icmp .eq 5) 5 57 59 := ⟨by decide +kernel, rfl, rfl⟩
theorem d4_31 : Dc method_5_code 31 (.aload_n 0) 1 32 := ⟨by decide +kernel, rfl⟩
theorem d4_32 : Dc method_5_code 32 (.iconst 1) 1 33 := ⟨by decide +kernel, rfl⟩
theorem d4_33 : Dc method_5_code 33 (.iaload) 1 34 := ⟨by decide +kernel, rfl⟩
theorem d4_34 : Dc method_5_code 34 (.aload_n 1) 1 35 := ⟨by decide +kernel, rfl⟩
theorem d4_35 : Dc method_5_code 35 (.iconst 1) 1 36 := ⟨by decide +kernel, rfl⟩
theorem d4_36 : Dc method_5_code 36 (.iaload) 1 37 := ⟨by decide +kernel, rfl⟩
theorem d4_37 : Db method_5_code 37 (.if_icmp .eq 5) 5 40 42 := ⟨by decide +kernel, rfl, rfl⟩
theorem d4_14 : Dc method_5_code 14 (.aload_n 0) 1 15 := ⟨by decide +kernel, rfl⟩
theorem d4_15 : Dc method_5_code 15 (.iconst 0) 1 16 := ⟨by decide +kernel, rfl⟩
theorem d4_16 : Dc method_5_code 16 (.iaload) 1 17 := ⟨by decide +kernel, rfl⟩
theorem d4_17 : Dc method_5_code 17 (.aload_n 1) 1 18 := ⟨by decide +kernel, rfl⟩
theorem d4_18 : Dc method_5_code 18 (.iconst 0) 1 19 := ⟨by decide +kernel, rfl⟩
theorem d4_19 : Dc method_5_code 19 (.iaload) 1 20 := ⟨by decide +kernel, rfl⟩
theorem d4_20 : Db method_5_code 20 (.if_icmp .eq 5) 5 23 25 := ⟨by decide +kernel, rfl, rfl⟩
set_option maxRecDepth 65536 in
set_option maxHeartbeats 40000000 in
theorem rmE {l : Launch} {Z : State} {a0 : Array Value} {n0 : Nat} (H : Wd a0 Z) (a b : Addr) (S : List Int32) (h0 : Heap) (Z0 : n0 ≤ h0.size) (A1 : AV Z h0 a .int (own_v S)) (A2 : AV Z h0 b .int (own_v S)) (hS : S.length ≤ 6) :
    Ct l Z n0 (⟨"com/example/handpick/handpick/SetWalkOthersPinLaw", "eq", "([I[I)Z"⟩ : MethodName) method_5_code 2 (some .boolean) [] ({ frames := 0, cells := 0, slots := 0, locals := 0 } : Room) #[(.ref a), (.ref b)] h0 (fun v h => v = some (.int 1) ∧ h0 = h) := by
  refine Ct.of (a0 := a0) (L0 := #[.val (.ref a), .val (.ref b)]) (plainFor_of_name pn_com_example_handpick_handpick_SetWalkOthersPinLaw) (fun m => by first | (simp [entryFrame, mkF, argsToLocals, Value.category]; done) | rfl) ?_
  intro κ B0
  have B : Ok κ l Z a0 n0 ({ frames := 0, cells := 0, slots := 0, locals := 0 } : Room) "com/example/handpick/handpick/SetWalkOthersPinLaw" "eq" method_5_code 2 (some .boolean) := B0
  refine go_aload_n B d4_0 rfl rfl ?_
  refine go_arraylength B (x := (Int32.ofNat S.length)) d4_1 A1 (by rw [own_v_len]) ?_
  refine go_aload_n B d4_2 rfl rfl ?_
  refine go_arraylength B (x := (Int32.ofNat S.length)) d4_3 A2 (by rw [own_v_len]) ?_
  refine go_icmpeq B d4_4 (fun c4 => ?_) (fun c4 => ?_)
  rotate_left
  · exact absurd rfl c4
  refine go_aload_n B d4_9 rfl rfl ?_
  refine go_arraylength B (x := (Int32.ofNat S.length)) d4_10 A1 (by rw [own_v_len]) ?_
  have J103 : (True) → Go κ (fun v h => v = some (.int 1) ∧ h0 = h) h0 (0) (0) 25 #[.val (.ref a), .val (.ref b)] [] := by
    intro hJ103
    refine go_aload_n B d4_25 rfl rfl ?_
    refine go_arraylength B (x := (Int32.ofNat S.length)) d4_26 A1 (by rw [own_v_len]) ?_
    refine go_iconst B (x := (1 : Int32)) d4_27 rfl ?_
    have J104 : (True) → Go κ (fun v h => v = some (.int 1) ∧ h0 = h) h0 (0) (0) 42 #[.val (.ref a), .val (.ref b)] [] := by
      intro hJ104
      refine go_aload_n B d4_42 rfl rfl ?_
      refine go_arraylength B (x := (Int32.ofNat S.length)) d4_43 A1 (by rw [own_v_len]) ?_
      refine go_iconst B (x := (2 : Int32)) d4_44 rfl ?_
      have J105 : (True) → Go κ (fun v h => v = some (.int 1) ∧ h0 = h) h0 (0) (0) 59 #[.val (.ref a), .val (.ref b)] [] := by
        intro hJ105
        refine go_aload_n B d4_59 rfl rfl ?_
        refine go_arraylength B (x := (Int32.ofNat S.length)) d4_60 A1 (by rw [own_v_len]) ?_
        refine go_iconst B (x := (3 : Int32)) d4_61 rfl ?_
        have J106 : (True) → Go κ (fun v h => v = some (.int 1) ∧ h0 = h) h0 (0) (0) 76 #[.val (.ref a), .val (.ref b)] [] := by
          intro hJ106
          refine go_aload_n B d4_76 rfl rfl ?_
          refine go_arraylength B (x := (Int32.ofNat S.length)) d4_77 A1 (by rw [own_v_len]) ?_
          refine go_iconst B (x := (4 : Int32)) d4_78 rfl ?_
          have J107 : (True) → Go κ (fun v h => v = some (.int 1) ∧ h0 = h) h0 (0) (0) 93 #[.val (.ref a), .val (.ref b)] [] := by
            intro hJ107
            refine go_aload_n B d4_93 rfl rfl ?_
            refine go_arraylength B (x := (Int32.ofNat S.length)) d4_94 A1 (by rw [own_v_len]) ?_
            refine go_iconst B (x := (5 : Int32)) d4_95 rfl ?_
            have J108 : (True) → Go κ (fun v h => v = some (.int 1) ∧ h0 = h) h0 (0) (0) 110 #[.val (.ref a), .val (.ref b)] [] := by
              intro hJ108
              refine go_iconst B (x := (1 : Int32)) d4_110 rfl ?_
              refine go_zreturn B (y := (1 : Int32)) d4_111 (by decide) (by decide) (by decide) ?_
              exact ⟨rfl, rfl⟩
            refine go_icmple B d4_96 (fun c96 => ?_) (fun c96 => ?_)
            · skip
              exact J108  trivial
            · skip
              refine go_aload_n B d4_99 rfl rfl ?_
              refine go_iconst B (x := (5 : Int32)) d4_100 rfl ?_
              refine go_iaload B (i := 5) (v := (.int (S.getD 5 0))) d4_101 A1 rfl (own_v_at S 5 (by have := i_of_lt (show (5 : Int32).toInt = 5 from rfl) (i_ofNat (by omega)) c96; omega)) ?_
              refine go_aload_n B d4_102 rfl rfl ?_
              refine go_iconst B (x := (5 : Int32)) d4_103 rfl ?_
              refine go_iaload B (i := 5) (v := (.int (S.getD 5 0))) d4_104 A2 rfl (own_v_at S 5 (by have := i_of_lt (show (5 : Int32).toInt = 5 from rfl) (i_ofNat (by omega)) c96; omega)) ?_
              refine go_icmpeq B d4_105 (fun c105 => ?_) (fun c105 => ?_)
              rotate_left
              · exact absurd rfl c105
              exact J108  trivial
          refine go_icmple B d4_79 (fun c79 => ?_) (fun c79 => ?_)
          · skip
            exact J107  trivial
          · skip
            refine go_aload_n B d4_82 rfl rfl ?_
            refine go_iconst B (x := (4 : Int32)) d4_83 rfl ?_
            refine go_iaload B (i := 4) (v := (.int (S.getD 4 0))) d4_84 A1 rfl (own_v_at S 4 (by have := i_of_lt (show (4 : Int32).toInt = 4 from rfl) (i_ofNat (by omega)) c79; omega)) ?_
            refine go_aload_n B d4_85 rfl rfl ?_
            refine go_iconst B (x := (4 : Int32)) d4_86 rfl ?_
            refine go_iaload B (i := 4) (v := (.int (S.getD 4 0))) d4_87 A2 rfl (own_v_at S 4 (by have := i_of_lt (show (4 : Int32).toInt = 4 from rfl) (i_ofNat (by omega)) c79; omega)) ?_
            refine go_icmpeq B d4_88 (fun c88 => ?_) (fun c88 => ?_)
            rotate_left
            · exact absurd rfl c88
            exact J107  trivial
        refine go_icmple B d4_62 (fun c62 => ?_) (fun c62 => ?_)
        · skip
          exact J106  trivial
        · skip
          refine go_aload_n B d4_65 rfl rfl ?_
          refine go_iconst B (x := (3 : Int32)) d4_66 rfl ?_
          refine go_iaload B (i := 3) (v := (.int (S.getD 3 0))) d4_67 A1 rfl (own_v_at S 3 (by have := i_of_lt (show (3 : Int32).toInt = 3 from rfl) (i_ofNat (by omega)) c62; omega)) ?_
          refine go_aload_n B d4_68 rfl rfl ?_
          refine go_iconst B (x := (3 : Int32)) d4_69 rfl ?_
          refine go_iaload B (i := 3) (v := (.int (S.getD 3 0))) d4_70 A2 rfl (own_v_at S 3 (by have := i_of_lt (show (3 : Int32).toInt = 3 from rfl) (i_ofNat (by omega)) c62; omega)) ?_
          refine go_icmpeq B d4_71 (fun c71 => ?_) (fun c71 => ?_)
          rotate_left
          · exact absurd rfl c71
          exact J106  trivial
      refine go_icmple B d4_45 (fun c45 => ?_) (fun c45 => ?_)
      · skip
        exact J105  trivial
      · skip
        refine go_aload_n B d4_48 rfl rfl ?_
        refine go_iconst B (x := (2 : Int32)) d4_49 rfl ?_
        refine go_iaload B (i := 2) (v := (.int (S.getD 2 0))) d4_50 A1 rfl (own_v_at S 2 (by have := i_of_lt (show (2 : Int32).toInt = 2 from rfl) (i_ofNat (by omega)) c45; omega)) ?_
        refine go_aload_n B d4_51 rfl rfl ?_
        refine go_iconst B (x := (2 : Int32)) d4_52 rfl ?_
        refine go_iaload B (i := 2) (v := (.int (S.getD 2 0))) d4_53 A2 rfl (own_v_at S 2 (by have := i_of_lt (show (2 : Int32).toInt = 2 from rfl) (i_ofNat (by omega)) c45; omega)) ?_
        refine go_icmpeq B d4_54 (fun c54 => ?_) (fun c54 => ?_)
        rotate_left
        · exact absurd rfl c54
        exact J105  trivial
    refine go_icmple B d4_28 (fun c28 => ?_) (fun c28 => ?_)
    · skip
      exact J104  trivial
    · skip
      refine go_aload_n B d4_31 rfl rfl ?_
      refine go_iconst B (x := (1 : Int32)) d4_32 rfl ?_
      refine go_iaload B (i := 1) (v := (.int (S.getD 1 0))) d4_33 A1 rfl (own_v_at S 1 (by have := i_of_lt (show (1 : Int32).toInt = 1 from rfl) (i_ofNat (by omega)) c28; omega)) ?_
      refine go_aload_n B d4_34 rfl rfl ?_
      refine go_iconst B (x := (1 : Int32)) d4_35 rfl ?_
      refine go_iaload B (i := 1) (v := (.int (S.getD 1 0))) d4_36 A2 rfl (own_v_at S 1 (by have := i_of_lt (show (1 : Int32).toInt = 1 from rfl) (i_ofNat (by omega)) c28; omega)) ?_
      refine go_icmpeq B d4_37 (fun c37 => ?_) (fun c37 => ?_)
      rotate_left
      · exact absurd rfl c37
      exact J104  trivial
  refine go_ifle B d4_11 (fun c11 => ?_) (fun c11 => ?_)
  · skip
    exact J103  trivial
  · skip
    refine go_aload_n B d4_14 rfl rfl ?_
    refine go_iconst B (x := (0 : Int32)) d4_15 rfl ?_
    refine go_iaload B (i := 0) (v := (.int (S.getD 0 0))) d4_16 A1 rfl (own_v_at S 0 (by have := i_of_lt (show (0 : Int32).toInt = 0 from rfl) (i_ofNat (by omega)) c11; omega)) ?_
    refine go_aload_n B d4_17 rfl rfl ?_
    refine go_iconst B (x := (0 : Int32)) d4_18 rfl ?_
    refine go_iaload B (i := 0) (v := (.int (S.getD 0 0))) d4_19 A2 rfl (own_v_at S 0 (by have := i_of_lt (show (0 : Int32).toInt = 0 from rfl) (i_ofNat (by omega)) c11; omega)) ?_
    refine go_icmpeq B d4_20 (fun c20 => ?_) (fun c20 => ?_)
    rotate_left
    · exact absurd rfl c20
    exact J103  trivial
def own_g (pn i : Nat) (b w : Bool) : Bool := decide (i < pn) && (b == w)
def own_gl (pn : Nat) (b0 b1 b2 b3 b4 b5 w : Bool) : List Bool := [own_g pn 0 b0 w, own_g pn 1 b1 w, own_g pn 2 b2 w, own_g pn 3 b3 w, own_g pn 4 b4 w, own_g pn 5 b5 w]
theorem own_sel1 {m p i : Int32} {pn j : Nat} (hp : p.toInt = (pn : Int)) (hi : i.toInt = (j : Int)) : own_sel m p 1 i = own_b (own_g pn j (decide ((XT.ushr m i &&& (1 : Int32)) = 1)) true) := by
  unfold own_sel own_b own_g
  have e : i < p ↔ j < pn := ⟨fun q => by have := i_of_lt hi hp q; omega, fun q => i_lt hi hp (by omega)⟩
  simp [e]
theorem own_sel0 {m p i : Int32} {pn j : Nat} (hp : p.toInt = (pn : Int)) (hi : i.toInt = (j : Int)) : own_sel m p 0 i = own_b (own_g pn j (decide ((XT.ushr m i &&& (1 : Int32)) = 1)) false) := by
  unfold own_sel own_b own_g
  have e : i < p ↔ j < pn := ⟨fun q => by have := i_of_lt hi hp q; omega, fun q => i_lt hi hp (by omega)⟩
  have e2 : (XT.ushr m i &&& (1 : Int32)) = 0 ↔ ¬ (XT.ushr m i &&& (1 : Int32)) = 1 := by
    rcases and_one (XT.ushr m i) with q | q <;> rw [q] <;> decide
  simp [e, e2]
def own_all (pn : Nat) (b0 b1 b2 b3 b4 b5 : Bool) : Bool := decide (own_oth (own_pk (own_gl pn b0 b1 b2 b3 b4 b5 true) 0) (own_rng 0 pn) = own_pk (own_gl pn b0 b1 b2 b3 b4 b5 false) 0) && decide ((own_pk (own_gl pn b0 b1 b2 b3 b4 b5 false) 0).length + (own_pk (own_gl pn b0 b1 b2 b3 b4 b5 true) 0).length = pn)
theorem own_law : ∀ pn : Fin 7, ∀ b0 b1 b2 b3 b4 b5 : Bool, own_all pn.val b0 b1 b2 b3 b4 b5 = true := by decide +kernel
theorem d0_0 : Dc code 0 (.iload_n 0) 1 1 := ⟨at_0, rfl⟩
theorem d0_1 : Dc code 1 (.ldc 7) 2 3 := ⟨at_1, rfl⟩
theorem w_0 {a0 : Array Value} {Z : State} (H : Wd a0 Z) : (Jvm.Cond.constant "com/example/handpick/handpick/SetWalkOthersPinLaw" (7 : Nat) (2147483647 : Int32)).before a0 Z = true := H _ (List.mem_of_getElem? (i := 0) rfl)
theorem d0_3 : Dc code 3 (.iand) 1 4 := ⟨at_3, rfl⟩
theorem d0_4 : Dc code 4 (.bipush 7) 2 6 := ⟨at_4, rfl⟩
theorem d0_6 : Dc code 6 (.irem) 1 7 := ⟨at_6, rfl⟩
theorem d0_7 : Dc code 7 (.istore_n 2) 1 8 := ⟨at_7, rfl⟩
theorem d0_8 : Dc code 8 (.iload_n 1) 1 9 := ⟨at_8, rfl⟩
theorem d0_9 : Dc code 9 (.iconst 1) 1 10 := ⟨at_9, rfl⟩
theorem d0_10 : Dc code 10 (.iload_n 2) 1 11 := ⟨at_10, rfl⟩
theorem d0_11 : Dc code 11 (.ishl) 1 12 := ⟨at_11, rfl⟩
theorem d0_12 : Dc code 12 (.iconst 1) 1 13 := ⟨at_12, rfl⟩
theorem d0_13 : Dc code 13 (.isub) 1 14 := ⟨at_13, rfl⟩
theorem d0_14 : Dc code 14 (.iand) 1 15 := ⟨at_14, rfl⟩
theorem d0_15 : Dc code 15 (.istore_n 3) 1 16 := ⟨at_15, rfl⟩
theorem d0_16 : Dc code 16 (.iload_n 3) 1 17 := ⟨at_16, rfl⟩
theorem d0_17 : Dc code 17 (.iload_n 2) 1 18 := ⟨at_17, rfl⟩
theorem d0_18 : Dc code 18 (.iconst 1) 1 19 := ⟨at_18, rfl⟩
theorem d0_19 : Dc code 19 (.invokestatic 8) 3 22 := ⟨at_19, rfl⟩
theorem w_4 {a0 : Array Value} {Z : State} (H : Wd a0 Z) : (Jvm.Cond.code ({ cls := "com/example/handpick/handpick/SetWalkOthersPinLaw", name := "pick", desc := "(III)[I" } : Jvm.MethodName) method_4_code (6 : Nat) (Option.some (Jvm.ClassFile.FieldType.array Jvm.ClassFile.FieldType.int))).before a0 Z = true := H _ (List.mem_of_getElem? (i := 4) rfl)
theorem pd_1 : parseMethodDescriptor "(III)[I" = some ⟨[.int, .int, .int], some (.array .int)⟩ := by decide +kernel
theorem w_1 {a0 : Array Value} {Z : State} (H : Wd a0 Z) : (Jvm.Cond.methodLink "com/example/handpick/handpick/SetWalkOthersPinLaw" (8 : Nat) ({ cls := "com/example/handpick/handpick/SetWalkOthersPinLaw", name := "pick", desc := "(III)[I" } : Jvm.MethodName)).before a0 Z = true := H _ (List.mem_of_getElem? (i := 1) rfl)
theorem w_2 {a0 : Array Value} {Z : State} (H : Wd a0 Z) : (Jvm.Cond.static ({ cls := "com/example/handpick/handpick/SetWalkOthersPinLaw", name := "pick", desc := "(III)[I" } : Jvm.MethodName)).before a0 Z = true := H _ (List.mem_of_getElem? (i := 2) rfl)
theorem d0_22 : Dc code 22 (.astore 4) 2 24 := ⟨at_22, rfl⟩
theorem d0_24 : Dc code 24 (.iload_n 3) 1 25 := ⟨at_24, rfl⟩
theorem d0_25 : Dc code 25 (.iload_n 2) 1 26 := ⟨at_25, rfl⟩
theorem d0_26 : Dc code 26 (.iconst 0) 1 27 := ⟨at_26, rfl⟩
theorem d0_27 : Dc code 27 (.invokestatic 8) 3 30 := ⟨at_27, rfl⟩
theorem d0_30 : Dc code 30 (.astore 5) 2 32 := ⟨at_30, rfl⟩
theorem d0_32 : Dc code 32 (.aload 4) 2 34 := ⟨at_32, rfl⟩
theorem d0_34 : Dc code 34 (.iload_n 2) 1 35 := ⟨at_34, rfl⟩
theorem d0_35 : Dc code 35 (.invokestatic 14) 3 38 := ⟨at_35, rfl⟩
theorem w_12 {a0 : Array Value} {Z : State} (H : Wd a0 Z) : (Jvm.Cond.code ({ cls := "com/example/handpick/handpick/SetWalk", name := "others", desc := "([II)[I" } : Jvm.MethodName) prog_89_method_2_code (6 : Nat) (Option.some (Jvm.ClassFile.FieldType.array Jvm.ClassFile.FieldType.int))).before a0 Z = true := H _ (List.mem_of_getElem? (i := 12) rfl)
theorem w_11 {a0 : Array Value} {Z : State} (H : Wd a0 Z) : (Jvm.Cond.initialized "com/example/handpick/handpick/SetWalk").before a0 Z = true := H _ (List.mem_of_getElem? (i := 11) rfl)
theorem pd_2 : parseMethodDescriptor "([II)[I" = some ⟨[(.array .int), .int], some (.array .int)⟩ := by decide +kernel
theorem w_9 {a0 : Array Value} {Z : State} (H : Wd a0 Z) : (Jvm.Cond.methodLink "com/example/handpick/handpick/SetWalkOthersPinLaw" (14 : Nat) ({ cls := "com/example/handpick/handpick/SetWalk", name := "others", desc := "([II)[I" } : Jvm.MethodName)).before a0 Z = true := H _ (List.mem_of_getElem? (i := 9) rfl)
theorem w_10 {a0 : Array Value} {Z : State} (H : Wd a0 Z) : (Jvm.Cond.static ({ cls := "com/example/handpick/handpick/SetWalk", name := "others", desc := "([II)[I" } : Jvm.MethodName)).before a0 Z = true := H _ (List.mem_of_getElem? (i := 10) rfl)
theorem d0_38 : Dc code 38 (.astore 6) 2 40 := ⟨at_38, rfl⟩
theorem d0_40 : Dc code 40 (.aload 6) 2 42 := ⟨at_40, rfl⟩
theorem d0_42 : Dc code 42 (.aload 5) 2 44 := ⟨at_42, rfl⟩
theorem d0_44 : Dc code 44 (.invokestatic 20) 3 47 := ⟨at_44, rfl⟩
theorem w_15 {a0 : Array Value} {Z : State} (H : Wd a0 Z) : (Jvm.Cond.code ({ cls := "com/example/handpick/handpick/SetWalkOthersPinLaw", name := "eq", desc := "([I[I)Z" } : Jvm.MethodName) method_5_code (2 : Nat) (Option.some Jvm.ClassFile.FieldType.boolean)).before a0 Z = true := H _ (List.mem_of_getElem? (i := 15) rfl)
theorem pd_3 : parseMethodDescriptor "([I[I)Z" = some ⟨[(.array .int), (.array .int)], some .boolean⟩ := by decide +kernel
theorem w_13 {a0 : Array Value} {Z : State} (H : Wd a0 Z) : (Jvm.Cond.methodLink "com/example/handpick/handpick/SetWalkOthersPinLaw" (20 : Nat) ({ cls := "com/example/handpick/handpick/SetWalkOthersPinLaw", name := "eq", desc := "([I[I)Z" } : Jvm.MethodName)).before a0 Z = true := H _ (List.mem_of_getElem? (i := 13) rfl)
theorem w_14 {a0 : Array Value} {Z : State} (H : Wd a0 Z) : (Jvm.Cond.static ({ cls := "com/example/handpick/handpick/SetWalkOthersPinLaw", name := "eq", desc := "([I[I)Z" } : Jvm.MethodName)).before a0 Z = true := H _ (List.mem_of_getElem? (i := 14) rfl)
theorem d0_47 : Db code 47 (.ifCond .eq 21) 21 50 68 := ⟨at_47, rfl, rfl⟩
theorem d0_50 : Dc code 50 (.aload 4) 2 52 := ⟨at_50, rfl⟩
theorem d0_52 : Dc code 52 (.iload_n 3) 1 53 := ⟨at_52, rfl⟩
theorem d0_53 : Dc code 53 (.iload_n 2) 1 54 := ⟨at_53, rfl⟩
theorem d0_54 : Dc code 54 (.iconst 1) 1 55 := ⟨at_54, rfl⟩
theorem d0_55 : Dc code 55 (.invokestatic 8) 3 58 := ⟨at_55, rfl⟩
theorem d0_58 : Dc code 58 (.invokestatic 20) 3 61 := ⟨at_58, rfl⟩
theorem d0_61 : Db code 61 (.ifCond .eq 7) 7 64 68 := ⟨at_61, rfl, rfl⟩
theorem d0_64 : Dc code 64 (.iconst 1) 1 65 := ⟨at_64, rfl⟩
theorem d0_65 : Db code 65 (.goto 4) 4 68 69 := ⟨at_65, rfl, rfl⟩
theorem d0_69 : Dc code 69 (.ireturn) 1 70 := ⟨at_69, rfl⟩
set_option maxRecDepth 65536 in
set_option maxHeartbeats 40000000 in
theorem rm0 {l : Launch} {Z : State} {a0 : Array Value} {n0 : Nat} (H : Wd a0 Z) (p0 p1 : Int32) (h0 : Heap) (Z0 : n0 ≤ h0.size) :
    Ct l Z n0 x code maxLocals ret tables_1 room_1 #[(.int p0), (.int p1)] h0 (fun v h => v = some (.int 1)) := by
  refine Ct.of (a0 := a0) (L0 := #[.val (.int p0), .val (.int p1), .unset, .unset, .unset, .unset, .unset]) (plainFor_of_name pn_com_example_handpick_handpick_SetWalkOthersPinLaw) (fun m => by first | (simp [entryFrame, mkF, argsToLocals, Value.category, maxLocals]; done) | rfl) ?_
  intro κ B0
  have B : Ok κ l Z a0 n0 room_1 "com/example/handpick/handpick/SetWalkOthersPinLaw" "law" code maxLocals ret := B0
  obtain ⟨p, hpd⟩ : ∃ z, z = (p0 &&& (2147483647 : Int32)) % (7 : Int32) := ⟨_, rfl⟩
  have hp0 : 0 ≤ p.toInt ∧ p.toInt ≤ 6 := by
    have hm := i_mod (rfl : (p0 &&& (2147483647 : Int32)).toInt = _) (show (7 : Int32).toInt = 7 from rfl) (i_and p0 2147483647 (by decide)).1 (by decide)
    rw [← hpd] at hm
    omega
  obtain ⟨pn, hp, -⟩ := i_nat hp0.1
  have hpn : pn ≤ 6 := by omega
  obtain ⟨mk, hmk⟩ : ∃ z, z = p1 &&& (((1 : Int32) <<< (p &&& 31)) - (1 : Int32)) := ⟨_, rfl⟩
  obtain ⟨b0, hb0⟩ : ∃ z, z = decide ((XT.ushr mk (0 : Int32) &&& (1 : Int32)) = 1) := ⟨_, rfl⟩
  obtain ⟨b1, hb1⟩ : ∃ z, z = decide ((XT.ushr mk (1 : Int32) &&& (1 : Int32)) = 1) := ⟨_, rfl⟩
  obtain ⟨b2, hb2⟩ : ∃ z, z = decide ((XT.ushr mk (2 : Int32) &&& (1 : Int32)) = 1) := ⟨_, rfl⟩
  obtain ⟨b3, hb3⟩ : ∃ z, z = decide ((XT.ushr mk (3 : Int32) &&& (1 : Int32)) = 1) := ⟨_, rfl⟩
  obtain ⟨b4, hb4⟩ : ∃ z, z = decide ((XT.ushr mk (4 : Int32) &&& (1 : Int32)) = 1) := ⟨_, rfl⟩
  obtain ⟨b5, hb5⟩ : ∃ z, z = decide ((XT.ushr mk (5 : Int32) &&& (1 : Int32)) = 1) := ⟨_, rfl⟩
  have hall := own_law ⟨pn, by omega⟩ b0 b1 b2 b3 b4 b5
  unfold own_all at hall
  rw [Bool.and_eq_true] at hall
  have hoth := of_decide_eq_true hall.1
  have hlen := of_decide_eq_true hall.2
  simp only [own_gl] at hoth hlen
  refine go_iload_n B d0_0 rfl ?_
  refine go_ldcI B d0_1 (w_0 H) ?_
  refine go_iand B d0_3 ?_
  refine go_bipush B (x := (7 : Int32)) d0_4 (by decide) ?_
  refine go_irem B d0_6 (by decide) ?_
  rw [show ((p0 &&& (2147483647 : Int32)) % (7 : Int32)) = p from hpd.symm]
  refine go_istore_n B #[.val (.int p0), .val (.int p1), .val (.int p), .unset, .unset, .unset, .unset] d0_7 rfl ?_
  refine go_iload_n B d0_8 rfl ?_
  refine go_iconst B (x := (1 : Int32)) d0_9 rfl ?_
  refine go_iload_n B d0_10 rfl ?_
  refine go_ishl B d0_11 ?_
  refine go_iconst B (x := (1 : Int32)) d0_12 rfl ?_
  refine go_isub B d0_13 ?_
  refine go_iand B d0_14 ?_
  rw [show (p1 &&& (((1 : Int32) <<< (p &&& 31)) - (1 : Int32))) = mk from hmk.symm]
  refine go_istore_n B #[.val (.int p0), .val (.int p1), .val (.int p), .val (.int mk), .unset, .unset, .unset] d0_15 rfl ?_
  refine go_iload_n B d0_16 rfl ?_
  refine go_iload_n B d0_17 rfl ?_
  refine go_iconst B (x := (1 : Int32)) d0_18 rfl ?_
  refine go_static B (W := 0) (argsL := [(.int mk), (.int p), (.int (1 : Int32))]) (st := []) d0_19 (w_1 H) (w_2 H) (w_3 H) (w_4 H) (by decide) (rmP H mk p (1 : Int32) (own_g pn 0 b0 true) (own_g pn 1 b1 true) (own_g pn 2 b2 true) (own_g pn 3 b3 true) (own_g pn 4 b4 true) (own_g pn 5 b5 true) h0 Z0 (by rw [own_sel1 hp (show (0 : Int32).toInt = ((0 : Nat) : Int) from rfl), ← hb0]) (by rw [own_sel1 hp (show (1 : Int32).toInt = ((1 : Nat) : Int) from rfl), ← hb1]) (by rw [own_sel1 hp (show (2 : Int32).toInt = ((2 : Nat) : Int) from rfl), ← hb2]) (by rw [own_sel1 hp (show (3 : Int32).toInt = ((3 : Nat) : Int) from rfl), ← hb3]) (by rw [own_sel1 hp (show (4 : Int32).toInt = ((4 : Nat) : Int) from rfl), ← hb4]) (by rw [own_sel1 hp (show (5 : Int32).toInt = ((5 : Nat) : Int) from rfl), ← hb5])) pd_1 rfl rfl rfl rfl (by decide) (by decide) (by decide) (by decide) ?_
  rintro _ h113 ⟨b109, rfl, g110, K111, A112⟩
  have ge_b109 : n0 ≤ b109 := by have q1 := Z0; omega
  show Go κ _ h113 _ _ 22 #[.val (.int p0), .val (.int p1), .val (.int p), .val (.int mk), .unset, .unset, .unset] [(.ref b109)]
  refine go_astore B #[.val (.int p0), .val (.int p1), .val (.int p), .val (.int mk), .val (.ref b109), .unset, .unset] d0_22 rfl rfl ?_
  refine go_iload_n B d0_24 rfl ?_
  refine go_iload_n B d0_25 rfl ?_
  refine go_iconst B (x := (0 : Int32)) d0_26 rfl ?_
  refine go_static B (W := 0) (argsL := [(.int mk), (.int p), (.int (0 : Int32))]) (st := []) d0_27 (w_1 H) (w_2 H) (w_3 H) (w_4 H) (by decide) (rmP H mk p (0 : Int32) (own_g pn 0 b0 false) (own_g pn 1 b1 false) (own_g pn 2 b2 false) (own_g pn 3 b3 false) (own_g pn 4 b4 false) (own_g pn 5 b5 false) h113 (Nat.le_trans Z0 K111.1) (by rw [own_sel0 hp (show (0 : Int32).toInt = ((0 : Nat) : Int) from rfl), ← hb0]) (by rw [own_sel0 hp (show (1 : Int32).toInt = ((1 : Nat) : Int) from rfl), ← hb1]) (by rw [own_sel0 hp (show (2 : Int32).toInt = ((2 : Nat) : Int) from rfl), ← hb2]) (by rw [own_sel0 hp (show (3 : Int32).toInt = ((3 : Nat) : Int) from rfl), ← hb3]) (by rw [own_sel0 hp (show (4 : Int32).toInt = ((4 : Nat) : Int) from rfl), ← hb4]) (by rw [own_sel0 hp (show (5 : Int32).toInt = ((5 : Nat) : Int) from rfl), ← hb5])) pd_1 rfl rfl rfl rfl (by decide) (by decide) (by decide) (by decide) ?_
  rintro _ h118 ⟨b114, rfl, g115, K116, A117⟩
  have ne_b114_b109 : b114 ≠ b109 := Nat.ne_of_gt (Nat.lt_of_lt_of_le (A112).lt (by omega))
  have ge_b114 : n0 ≤ b114 := by have q1 := (Nat.le_trans Z0 K111.1); omega
  show Go κ _ h118 _ _ 30 #[.val (.int p0), .val (.int p1), .val (.int p), .val (.int mk), .val (.ref b109), .unset, .unset] [(.ref b114)]
  refine go_astore B #[.val (.int p0), .val (.int p1), .val (.int p), .val (.int mk), .val (.ref b109), .val (.ref b114), .unset] d0_30 rfl rfl ?_
  refine go_aload B d0_32 rfl rfl ?_
  refine go_iload_n B d0_34 rfl ?_
  refine go_static B (W := 0) (argsL := [(.ref b109), (.int p)]) (st := []) d0_35 (w_9 H) (w_10 H) (w_11 H) (w_12 H) (by decide) (rmO H b109 p pn _ _ h118 (Nat.le_trans (Nat.le_trans Z0 K111.1) K116.1) (AV.keep A112 K116 nin0) hpn hp (own_pk_le _ _ _ _ _ _) (own_pk_le _ _ _ _ _ _) hlen hoth) pd_2 rfl rfl rfl rfl (by decide) (by decide) (by decide) (by decide) ?_
  rintro _ h123 ⟨b119, rfl, g120, K121, A122⟩
  have ne_b119_b109 : b119 ≠ b109 := Nat.ne_of_gt (Nat.lt_of_lt_of_le ((AV.keep A112 K116 nin0)).lt (by omega))
  have ne_b119_b114 : b119 ≠ b114 := Nat.ne_of_gt (Nat.lt_of_lt_of_le (A117).lt (by omega))
  have ge_b119 : n0 ≤ b119 := by have q1 := (Nat.le_trans (Nat.le_trans Z0 K111.1) K116.1); omega
  show Go κ _ h123 _ _ 38 #[.val (.int p0), .val (.int p1), .val (.int p), .val (.int mk), .val (.ref b109), .val (.ref b114), .unset] [(.ref b119)]
  refine go_astore B #[.val (.int p0), .val (.int p1), .val (.int p), .val (.int mk), .val (.ref b109), .val (.ref b114), .val (.ref b119)] d0_38 rfl rfl ?_
  refine go_aload B d0_40 rfl rfl ?_
  refine go_aload B d0_42 rfl rfl ?_
  have f124 : n0 ≤ h123.size := (Nat.le_trans (Nat.le_trans (Nat.le_trans Z0 K111.1) K116.1) K121.1)
  refine go_static B (W := 0) (argsL := [(.ref b119), (.ref b114)]) (st := []) d0_44 (w_13 H) (w_14 H) (w_3 H) (w_15 H) (by decide) (rmE H b119 b114 _ h123 f124 A122 (AV.keep A117 K121 nin0) (own_pk_le _ _ _ _ _ _)) pd_3 rfl rfl rfl rfl (by decide) (by decide) (by decide) (by decide) ?_
  rintro _ h125 ⟨rfl, rfl⟩
  show Go κ _ h123 _ _ 47 #[.val (.int p0), .val (.int p1), .val (.int p), .val (.int mk), .val (.ref b109), .val (.ref b114), .val (.ref b119)] [(.int (1 : Int32))]
  refine go_ifeq B d0_47 (fun c47 => ?_) (fun c47 => ?_)
  · exact absurd c47 (by decide)
  refine go_aload B d0_50 rfl rfl ?_
  refine go_iload_n B d0_52 rfl ?_
  refine go_iload_n B d0_53 rfl ?_
  refine go_iconst B (x := (1 : Int32)) d0_54 rfl ?_
  refine go_static B (W := 1) (argsL := [(.int mk), (.int p), (.int (1 : Int32))]) (st := [(.ref b109)]) d0_55 (w_1 H) (w_2 H) (w_3 H) (w_4 H) (by decide) (rmP H mk p (1 : Int32) (own_g pn 0 b0 true) (own_g pn 1 b1 true) (own_g pn 2 b2 true) (own_g pn 3 b3 true) (own_g pn 4 b4 true) (own_g pn 5 b5 true) h123 f124 (by rw [own_sel1 hp (show (0 : Int32).toInt = ((0 : Nat) : Int) from rfl), ← hb0]) (by rw [own_sel1 hp (show (1 : Int32).toInt = ((1 : Nat) : Int) from rfl), ← hb1]) (by rw [own_sel1 hp (show (2 : Int32).toInt = ((2 : Nat) : Int) from rfl), ← hb2]) (by rw [own_sel1 hp (show (3 : Int32).toInt = ((3 : Nat) : Int) from rfl), ← hb3]) (by rw [own_sel1 hp (show (4 : Int32).toInt = ((4 : Nat) : Int) from rfl), ← hb4]) (by rw [own_sel1 hp (show (5 : Int32).toInt = ((5 : Nat) : Int) from rfl), ← hb5])) pd_1 rfl rfl rfl rfl (by decide) (by decide) (by decide) (by decide) ?_
  rintro _ h130 ⟨b126, rfl, g127, K128, A129⟩
  have ne_b126_b109 : b126 ≠ b109 := Nat.ne_of_gt (Nat.lt_of_lt_of_le ((AV.keep (AV.keep A112 K116 nin0) K121 nin0)).lt (by omega))
  have ne_b126_b114 : b126 ≠ b114 := Nat.ne_of_gt (Nat.lt_of_lt_of_le ((AV.keep A117 K121 nin0)).lt (by omega))
  have ne_b126_b119 : b126 ≠ b119 := Nat.ne_of_gt (Nat.lt_of_lt_of_le (A122).lt (by omega))
  have ge_b126 : n0 ≤ b126 := by have q1 := f124; omega
  show Go κ _ h130 _ _ 58 #[.val (.int p0), .val (.int p1), .val (.int p), .val (.int mk), .val (.ref b109), .val (.ref b114), .val (.ref b119)] [(.ref b126), (.ref b109)]
  have f131 : AV Z h130 b109 .int (own_v (own_pk [own_g pn 0 b0 true, own_g pn 1 b1 true, own_g pn 2 b2 true, own_g pn 3 b3 true, own_g pn 4 b4 true, own_g pn 5 b5 true] 0)) := (AV.keep (AV.keep (AV.keep A112 K116 nin0) K121 nin0) K128 nin0)
  refine go_static B (W := 0) (argsL := [(.ref b109), (.ref b126)]) (st := []) d0_58 (w_13 H) (w_14 H) (w_3 H) (w_15 H) (by decide) (rmE H b109 b126 _ h130 (Nat.le_trans f124 K128.1) f131 A129 (own_pk_le _ _ _ _ _ _)) pd_3 rfl rfl rfl rfl (by decide) (by decide) (by decide) (by decide) ?_
  rintro _ h132 ⟨rfl, rfl⟩
  show Go κ _ h130 _ _ 61 #[.val (.int p0), .val (.int p1), .val (.int p), .val (.int mk), .val (.ref b109), .val (.ref b114), .val (.ref b119)] [(.int (1 : Int32))]
  refine go_ifeq B d0_61 (fun c61 => ?_) (fun c61 => ?_)
  · exact absurd c61 (by decide)
  refine go_iconst B (x := (1 : Int32)) d0_64 rfl ?_
  refine go_goto B d0_65 ?_
  refine go_zreturn B (y := (1 : Int32)) d0_69 (by decide) (by decide) (by decide) ?_
  exact rfl
set_option maxRecDepth 65536 in
set_option maxHeartbeats 40000000 in
theorem comes_1 {Post : Tables → Env → Array Value → State → Outcome → State → Prop} (hpost : ∀ tb e args s v u, (limb_1_1.after args s (.returned v) u = true ∧ limb_1_2.after args s (.returned v) u = true ∧ True) → FrameEnd s (.returned v) u (Jvm.fieldLocs frame_1_writes args s ++ Jvm.arrayLocs frame_1_arrays args s ++ Jvm.staticLocs frame_1_statics s) 16 128 → Post tb e args s (.returned v) u) :
    ArmFor flags0 classFile x code maxLocals ret World_1 tables_1 room_1 Calls_1 rest_1 Pre_1 Post := by
  intro l hfl _ _ p e ha hc hk s m args below hf hA hF happ hP
  obtain ⟨hcalls, hrest, hpre⟩ := hP
  obtain ⟨-, -, -, hnamed, -, -, -, hat⟩ := (Spec.applies_iff hf).mp happ
  obtain ⟨hg, hn⟩ := and_e (Cond.before_iff.mp (show (Jvm.Cond.and given_1 narrow_1).before args s = true from hpre))
  obtain ⟨hg0, hg1⟩ := and_e hg
  obtain ⟨hk0, hg2⟩ := and_e hg1
  have hk1 := hg2
  obtain ⟨w0, w1, rfl⟩ : ∃ w0 w1 : Value, args = #[w0, w1] := by
    have hs : args.size = 2 := by simpa [Cond.value, given_1] using hg0
    obtain ⟨L⟩ := args
    match L, hs with
    | [w0, w1], _ => exact ⟨w0, w1, rfl⟩
  have hw : Wd _ s := fun d (hd : d ∈ tables_1) => atoms_spec (ws := Jvm.Cond.code x code maxLocals ret :: tables_1) hat d (List.mem_cons_of_mem _ hd)
  obtain ⟨i0, e0⟩ := is_v hk0
  obtain rfl : w0 = (.int i0) := Option.some.inj e0
  obtain ⟨i1, e1⟩ := is_v hk1
  obtain rfl : w1 = (.int i1) := Option.some.inj e1
  obtain ⟨n, o, h1, h2, h3, _, L, rfl, ⟨rfl, N⟩, hq⟩ := rm0 (l := l) hw i0 i1 s.heap (Nat.le_refl _)  p e ha hc hk s m _ below hf ((Spec.applies_iff_loose hf).mp happ).1 ⟨rfl, State.Warmed39.refl s, rfl⟩ trivial
  refine ⟨n, _, h1, h2, h3, hpost _ _ _ _ _ _ ⟨Cond.after_iff.mpr rfl, Cond.after_iff.mpr (eq_i res_at (Term.int_eval (1)) rfl), trivial⟩ ⟨hq.1, hq.2.1, (hq.2.2.sift fun y hy => Or.inr (N y hy)).mono (by decide) (by decide)⟩⟩
theorem main_1_1 : Claimed_1_1 := comes_1 fun _ _ _ _ _ _ h hF => ⟨h.1, hF⟩
theorem main_1_2 : Claimed_1_2 := comes_1 fun _ _ _ _ _ _ h hF => ⟨h.2.1, hF⟩
end Jvm.Pilot.@@N@@
namespace Jvm.Pilot.@@N@@
open Jvm Jvm.ClassFile Sem Op Lib Jvm.Free Jvm.Stand Jvm.Pilot.@@N@@.Jvm.D
/-! MADE BY PROGRAM (witnessworld.py) out of the Statement's table words and the real class files: 9 classes; the members and pool entries that the words name. The judged class is class 1, her method 1. -/
namespace start1
open Jvm.ClassFile
def u (s : String) : CpInfo := .utf8 (stringToUtf16 s)
/-- a pool by its gaps: so many unusable entries, then the entry; so many at the end -/
def gap : Nat → List CpInfo → List CpInfo
  | 0, r => r
  | n + 1, r => .unusable :: gap n r
def poolList (es : List (Nat × CpInfo)) (last : Nat) : List CpInfo := es.foldr (fun e r => gap e.1 (e.2 :: r)) (gap last [])
def pool (es : List (Nat × CpInfo)) (last : Nat) : Array CpInfo := ⟨poolList es last⟩
def fileOf (pool : Array CpInfo) (this : Nat) (attrs : Array Attribute := #[]) (ms : Array MethodInfo := #[]) (fl : Nat := 33) (sup : Nat := 0) (ifs : Array Nat := #[]) (fds : Array FieldInfo := #[]) : ClassFile where
  minorVersion := 0
  majorVersion := 65
  constantPool := pool
  accessFlags := fl
  thisClass := this
  superClass := sup
  interfaces := ifs
  fields := fds
  methods := ms
  attributes := attrs
def plain (name : String) (sup : Option ClassId) : Class where
  name := name
  kind := .ordinary
  loader := none
  accessFlags := 33
  super := sup
  interfaces := #[]
  cf := none
  fields := #[]
  methods := #[]
  instanceTypes := #[]
  staticTypes := #[]
  resolved := #[]
  callSites := []
  init := .initialized
  statics := none
  mirror := none

def pool0 : Array CpInfo := pool [(5, u "<init>"), (0, u "()V"), (1, .class_ 10), (1, u "java/lang/Object")] 113

def k0m0 : Method := { name := "<init>", desc := "()V", sig := { parameters := [], returnType := none }, accessFlags := 1, code := none }
/-- java/lang/Object -/
def k0 : Class := { plain "java/lang/Object" none with
  accessFlags := 33
  interfaces := #[]
  cf := some (fileOf pool0 8 #[] #[{ accessFlags := 1, nameIndex := 5, descriptorIndex := 6, attributes := #[] }] 33 0 #[] #[])
  fields := #[]
  methods := #[k0m0]
  instanceTypes := #[]
  staticTypes := #[]
  resolved := Array.replicate 124 none
  statics := none }

def pool1 : Array CpInfo := pool [(2, .class_ 4), (1, u "java/lang/Object"), (0, u "<init>"), (0, u "()V"), (0, .integer 2147483647), (0, .methodref 9 10), (0, .class_ 11), (0, .nameAndType 12 13), (0, u "com/example/handpick/handpick/SetWalkOthersPinLaw"), (0, u "pick"), (0, u "(III)[I"), (0, .methodref 15 16), (0, .class_ 17), (0, .nameAndType 18 19), (0, u "com/example/handpick/handpick/SetWalk"), (0, u "others"), (0, u "([II)[I"), (0, .methodref 9 21), (0, .nameAndType 22 23), (0, u "eq"), (0, u "([I[I)Z"), (0, .methodref 9 25), (0, .nameAndType 26 27), (0, u "sel"), (0, u "(IIII)I"), (2, u "law"), (0, u "(II)Z")] 5

def k1m0 : Method := { name := "<init>", desc := "()V", sig := { parameters := [], returnType := none }, accessFlags := 1, code := none }
def k1c1 : Code := { maxStack := 4, maxLocals := 7, code := code, exceptionTable := #[], attributes := #[] }
def k1m1 : Method := { name := "law", desc := "(II)Z", sig := { parameters := [.int, .int], returnType := some .boolean }, accessFlags := 9, code := some k1c1 }
def k1c2 : Code := { maxStack := 2, maxLocals := 4, code := method_3_code, exceptionTable := #[], attributes := #[] }
def k1m2 : Method := { name := "sel", desc := "(IIII)I", sig := { parameters := [.int, .int, .int, .int], returnType := some .int }, accessFlags := 10, code := some k1c2 }
def k1c3 : Code := { maxStack := 5, maxLocals := 6, code := method_4_code, exceptionTable := #[], attributes := #[] }
def k1m3 : Method := { name := "pick", desc := "(III)[I", sig := { parameters := [.int, .int, .int], returnType := some (.array .int) }, accessFlags := 10, code := some k1c3 }
def k1c4 : Code := { maxStack := 3, maxLocals := 2, code := method_5_code, exceptionTable := #[], attributes := #[] }
def k1m4 : Method := { name := "eq", desc := "([I[I)Z", sig := { parameters := [(.array .int), (.array .int)], returnType := some .boolean }, accessFlags := 10, code := some k1c4 }
/-- com/example/handpick/handpick/SetWalkOthersPinLaw -/
def k1 : Class := { plain "com/example/handpick/handpick/SetWalkOthersPinLaw" (some 0) with
  accessFlags := 49
  interfaces := #[]
  cf := some (fileOf pool1 9 #[] #[{ accessFlags := 1, nameIndex := 5, descriptorIndex := 6, attributes := #[] }, { accessFlags := 9, nameIndex := 30, descriptorIndex := 31, attributes := #[] }, { accessFlags := 10, nameIndex := 26, descriptorIndex := 27, attributes := #[] }, { accessFlags := 10, nameIndex := 12, descriptorIndex := 13, attributes := #[] }, { accessFlags := 10, nameIndex := 22, descriptorIndex := 23, attributes := #[] }] 49 2 #[] #[])
  fields := #[]
  methods := #[k1m0, k1m1, k1m2, k1m3, k1m4]
  instanceTypes := #[]
  staticTypes := #[]
  resolved := Array.replicate 37 none
  statics := none }

def pool2 : Array CpInfo := pool [(2, .class_ 4), (1, u "java/lang/Object"), (0, u "<init>"), (0, u "()V"), (1, .class_ 10), (1, u "com/example/handpick/handpick/SetWalk$Visitor"), (6, .class_ 18), (0, u "com/example/handpick/handpick/SetWalk"), (2, u "others"), (0, u "([II)[I")] 10

def k2m0 : Method := { name := "<init>", desc := "()V", sig := { parameters := [], returnType := none }, accessFlags := 2, code := none }
def k2c1 : Code := { maxStack := 3, maxLocals := 6, code := prog_89_method_2_code, exceptionTable := #[], attributes := #[] }
def k2m1 : Method := { name := "others", desc := "([II)[I", sig := { parameters := [(.array .int), .int], returnType := some (.array .int) }, accessFlags := 8, code := some k2c1 }
/-- com/example/handpick/handpick/SetWalk -/
def k2 : Class := { plain "com/example/handpick/handpick/SetWalk" (some 0) with
  accessFlags := 48
  interfaces := #[]
  cf := some (fileOf pool2 17 #[.nestMembers #[8]] #[{ accessFlags := 2, nameIndex := 5, descriptorIndex := 6, attributes := #[] }, { accessFlags := 8, nameIndex := 21, descriptorIndex := 22, attributes := #[] }] 48 2 #[] #[])
  fields := #[]
  methods := #[k2m0, k2m1]
  instanceTypes := #[]
  staticTypes := #[]
  resolved := Array.replicate 33 none
  statics := none }

def pool3 : Array CpInfo := pool [(1, u "java/lang/Cloneable"), (0, .class_ 1), (0, u "java/lang/Object"), (0, .class_ 3)] 3

/-- java/lang/Cloneable -/
def k3 : Class := { plain "java/lang/Cloneable" (some 0) with
  accessFlags := 1537
  interfaces := #[]
  cf := some (fileOf pool3 2 #[] #[] 1537 4 #[] #[])
  fields := #[]
  methods := #[]
  instanceTypes := #[]
  staticTypes := #[]
  resolved := Array.replicate 8 none
  statics := none }

def pool4 : Array CpInfo := pool [(1, u "java/io/Serializable"), (0, .class_ 1), (0, u "java/lang/Object"), (0, .class_ 3)] 3

/-- java/io/Serializable -/
def k4 : Class := { plain "java/io/Serializable" (some 0) with
  accessFlags := 1537
  interfaces := #[]
  cf := some (fileOf pool4 2 #[] #[] 1537 4 #[] #[])
  fields := #[]
  methods := #[]
  instanceTypes := #[]
  staticTypes := #[]
  resolved := Array.replicate 8 none
  statics := none }

/-- the primitive byte -/
def k5 : Class := { plain "byte" none with kind := .primitive 'B', accessFlags := 0x411 }
/-- [B -/
def k6 : Class := { plain "[B" (some 0) with kind := .array 5 .byte, interfaces := #[3, 4], accessFlags := 1041 }

/-- the primitive int -/
def k7 : Class := { plain "int" none with kind := .primitive 'I', accessFlags := 0x411 }
/-- [I -/
def k8 : Class := { plain "[I" (some 0) with kind := .array 7 .int, interfaces := #[3, 4], accessFlags := 1041 }

def heap : Heap := #[]
def classes : Array Class := #[k0, k1, k2, k3, k4, k5, k6, k7, k8]
def interned : List (Array UInt16 × Addr) := []
def slotsUsed : Nat := 0
def theMethod : MethodId := ⟨1, 1⟩
def args0 : Array Value := #[.int 5, .int 6]
def aboutOver (below : List Frame) : State where
  vm := { classes := classes, interned := interned.toArray }
  heap := heap
  slotsUsed := slotsUsed
  threads := #[{ frames := .invoking theMethod args0 :: below }]
def below0 : List Frame := [.native { method := ⟨0, 0⟩, args := #[] }]
def about1 : State := aboutOver below0
def p0 : Program := .bare "" "" ""
def e0 : Env := launch0.env 0 0 0
theorem w_frames : about1.frames = Frame.invoking theMethod args0 :: below0 := rfl
set_option maxRecDepth 65536 in
theorem w_args : argsFit about1.vm theMethod args0 = true := by decide +kernel
set_option maxRecDepth 65536 in
theorem w_heap : heapFits about1 = true := by decide +kernel
set_option maxRecDepth 65536 in
theorem w_runnable : about1.curStatus? = some .runnable := by decide +kernel
set_option maxRecDepth 65536 in
theorem w_alone : about1.alone = true := by decide +kernel
set_option maxRecDepth 65536 in
theorem w_named : about1.methodNamed? x = some theMethod := by decide +kernel
set_option maxRecDepth 65536 in
theorem w_hears : about1.hears theMethod below0 = true := by decide +kernel
set_option maxRecDepth 65536 in
theorem w_ripe : about1.ripe theMethod args0 below0 = true := by decide +kernel
theorem w_running : about1.status = .running := rfl
set_option maxRecDepth 65536 in
theorem w_room : about1.hasRoom e0.platform room_1 = true :=
  launch0.hasRoom_least _ room_1 (by decide +kernel) (by decide +kernel) (by decide +kernel) (by decide +kernel) (by decide +kernel) (by decide +kernel)
theorem allAtoms_all (ts : List Jvm.Cond) (a : Array Jvm.Value) (st : Jvm.State) : (allAtoms ts).before a st = ts.all (fun c => c.before a st) := by
  induction ts with
  | nil => rfl
  | cons c t ih =>
    show (Jvm.Cond.and c (allAtoms t)).before a st = _
    rw [Jvm.Cond.before_and, ih, List.all_cons]
def words1 : List Jvm.Cond := Jvm.Cond.code x code maxLocals ret :: tables_1
/-- a 'code' word, met by the world's own term for the bytes: nothing is compared byte by byte -/
theorem code_word {y : MethodName} {bytes : ByteArray} {mx : Nat} {rt : Option FieldType} {a : Array Value} {s : State} {m : MethodId} {meth : Method} {c : Code} (h1 : s.methodNamed? y = some m) (h2 : s.vm.method? m = some meth) (h3 : meth.code = some c) (h4 : c.code = bytes)
    (h5 : (c.maxLocals == mx && c.exceptionTable.isEmpty && decide (c.maxStack ≤ mostOperands) && decide (meth.sig.returnType = rt) && !meth.locks && decide (parseMethodDescriptor y.desc = some meth.sig)) = true) : (Jvm.Cond.code y bytes mx rt).before a s = true := by
  simp only [Bool.and_eq_true, beq_iff_eq, Bool.not_eq_true', decide_eq_true_eq] at h5
  obtain ⟨⟨⟨⟨⟨g1, g2⟩, g3⟩, g4⟩, g5⟩, g6⟩ := h5
  simp [Cond.before, Cond.holds, Cond.value, h1, h2, h3, h4, g1, g2, g3, g4, g5, g6]
def isCode : Jvm.Cond → Bool
  | .code _ _ _ _ => true
  | _ => false
theorem all_split {L : List Jvm.Cond} {P : Jvm.Cond → Bool} (h1 : L.all (fun c => isCode c || P c) = true) (h2 : ∀ c ∈ L.filter isCode, P c = true) : L.all P = true := by
  refine List.all_eq_true.mpr fun c hc => ?_
  have h := List.all_eq_true.mp h1 c hc
  rcases Bool.eq_false_or_eq_true (isCode c) with hi | hi
  · exact h2 c (List.mem_filter.mpr ⟨hc, hi⟩)
  · simpa [hi] using h
set_option maxRecDepth 65536 in
theorem w_c0 : (Jvm.Cond.code x code maxLocals ret).before args0 about1 = true := code_word (m := ⟨1, 1⟩) (meth := k1m1) (c := k1c1) (by decide +kernel) rfl rfl rfl (by decide +kernel)
set_option maxRecDepth 65536 in
theorem w_c1 : (Jvm.Cond.code ({ cls := "com/example/handpick/handpick/SetWalkOthersPinLaw", name := "pick", desc := "(III)[I" } : Jvm.MethodName) method_4_code (6 : Nat) (Option.some (Jvm.ClassFile.FieldType.array Jvm.ClassFile.FieldType.int))).before args0 about1 = true := code_word (m := ⟨1, 3⟩) (meth := k1m3) (c := k1c3) (by decide +kernel) rfl rfl rfl (by decide +kernel)
set_option maxRecDepth 65536 in
theorem w_c2 : (Jvm.Cond.code ({ cls := "com/example/handpick/handpick/SetWalkOthersPinLaw", name := "sel", desc := "(IIII)I" } : Jvm.MethodName) method_3_code (4 : Nat) (Option.some Jvm.ClassFile.FieldType.int)).before args0 about1 = true := code_word (m := ⟨1, 2⟩) (meth := k1m2) (c := k1c2) (by decide +kernel) rfl rfl rfl (by decide +kernel)
set_option maxRecDepth 65536 in
theorem w_c3 : (Jvm.Cond.code ({ cls := "com/example/handpick/handpick/SetWalk", name := "others", desc := "([II)[I" } : Jvm.MethodName) prog_89_method_2_code (6 : Nat) (Option.some (Jvm.ClassFile.FieldType.array Jvm.ClassFile.FieldType.int))).before args0 about1 = true := code_word (m := ⟨2, 1⟩) (meth := k2m1) (c := k2c1) (by decide +kernel) rfl rfl rfl (by decide +kernel)
set_option maxRecDepth 65536 in
theorem w_c4 : (Jvm.Cond.code ({ cls := "com/example/handpick/handpick/SetWalkOthersPinLaw", name := "eq", desc := "([I[I)Z" } : Jvm.MethodName) method_5_code (2 : Nat) (Option.some Jvm.ClassFile.FieldType.boolean)).before args0 about1 = true := code_word (m := ⟨1, 4⟩) (meth := k1m4) (c := k1c4) (by decide +kernel) rfl rfl rfl (by decide +kernel)
def codes1 : List Jvm.Cond := [Jvm.Cond.code x code maxLocals ret, Jvm.Cond.code ({ cls := "com/example/handpick/handpick/SetWalkOthersPinLaw", name := "pick", desc := "(III)[I" } : Jvm.MethodName) method_4_code (6 : Nat) (Option.some (Jvm.ClassFile.FieldType.array Jvm.ClassFile.FieldType.int)), Jvm.Cond.code ({ cls := "com/example/handpick/handpick/SetWalkOthersPinLaw", name := "sel", desc := "(IIII)I" } : Jvm.MethodName) method_3_code (4 : Nat) (Option.some Jvm.ClassFile.FieldType.int), Jvm.Cond.code ({ cls := "com/example/handpick/handpick/SetWalk", name := "others", desc := "([II)[I" } : Jvm.MethodName) prog_89_method_2_code (6 : Nat) (Option.some (Jvm.ClassFile.FieldType.array Jvm.ClassFile.FieldType.int)), Jvm.Cond.code ({ cls := "com/example/handpick/handpick/SetWalkOthersPinLaw", name := "eq", desc := "([I[I)Z" } : Jvm.MethodName) method_5_code (2 : Nat) (Option.some Jvm.ClassFile.FieldType.boolean)]
set_option maxRecDepth 65536 in
theorem codes_eq : words1.filter isCode = codes1 := rfl
theorem w_codes : ∀ c ∈ words1.filter isCode, c.before args0 about1 = true := by
  rw [codes_eq]
  intro c hc
  simp only [codes1, List.mem_cons, List.not_mem_nil, or_false] at hc
  rcases hc with rfl | rfl | rfl | rfl | rfl
  · exact w_c0
  · exact w_c1
  · exact w_c2
  · exact w_c3
  · exact w_c4
set_option maxRecDepth 65536 in
theorem w_t1 : words1.all (fun c => isCode c || c.before args0 about1) = true := by decide +kernel
theorem w_tables : (allAtoms (Jvm.Cond.code x code maxLocals ret :: tables_1)).before args0 about1 = true := by
  rw [allAtoms_all]
  show words1.all (fun c => c.before args0 about1) = true
  refine all_split ?_ w_codes
  rw [w_t1]
set_option maxRecDepth 65536 in
theorem w_case : (Jvm.Cond.and given_1 narrow_1).before args0 about1 = true := by decide +kernel
theorem w_applies : (headSpec (Jvm.Cond.code x code maxLocals ret :: tables_1) room_1).applies x e0.platform about1 = true :=
  (Spec.applies_iff w_frames).mpr ⟨w_running, w_runnable, w_alone, w_named, w_hears, w_ripe, w_room, w_tables⟩
theorem atStart : AtStart classFile x code maxLocals ret World_1 tables_1 room_1 Calls_1 rest_1 Pre_1 launch0 p0 e0 about1 theMethod args0 below0 :=
  ⟨lists_1, trivial, launch0.admits_env _ _ _, launch0.least_env, fairChoices_fair.cas, fairChoices_fair.clock, w_frames, w_args, w_heap, w_applies, trivial, trivial, w_case⟩
end start1
theorem witness_1 : WitnessClaimed_1 := ⟨start1.p0, start1.e0, start1.about1, start1.theMethod, start1.args0, start1.below0, start1.atStart⟩
end Jvm.Pilot.@@N@@
