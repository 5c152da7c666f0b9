import JvmDerived
import JvmDerived.Pilot.@@N@@Statement
import JvmDerived.Pilot.@@N@@Code
set_option linter.unusedVariables false
set_option linter.unusedSimpArgs false
namespace Jvm.OwnGo
open Sem ClassFile Op Lib Jvm.Stand Jvm.Free Jvm.LawKit Jvm.RoadKit
/-- the context of one walk: program, launch, environment, room, start, method, arguments, frames below, the method's record, its code, the tables' state, the words' arguments, the first new address -/
abbrev Cx : Type := Program × Launch × Env × Room × State × MethodId × Array Value × List Frame × Method × Code × State × Array Value × Nat × (Outcome → State → List Loc → Prop) × Nat × State
abbrev Cx.p (κ : Cx) : Program := κ.1
abbrev Cx.l (κ : Cx) : Launch := κ.2.1
abbrev Cx.e (κ : Cx) : Env := κ.2.2.1
abbrev Cx.R (κ : Cx) : Room := κ.2.2.2.1
abbrev Cx.s (κ : Cx) : State := κ.2.2.2.2.1
abbrev Cx.m (κ : Cx) : MethodId := κ.2.2.2.2.2.1
abbrev Cx.args (κ : Cx) : Array Value := κ.2.2.2.2.2.2.1
abbrev Cx.below (κ : Cx) : List Frame := κ.2.2.2.2.2.2.2.1
abbrev Cx.meth (κ : Cx) : Method := κ.2.2.2.2.2.2.2.2.1
abbrev Cx.c (κ : Cx) : Code := κ.2.2.2.2.2.2.2.2.2.1
abbrev Cx.Z (κ : Cx) : State := κ.2.2.2.2.2.2.2.2.2.2.1
abbrev Cx.a0 (κ : Cx) : Array Value := κ.2.2.2.2.2.2.2.2.2.2.2.1
abbrev Cx.n0 (κ : Cx) : Nat := κ.2.2.2.2.2.2.2.2.2.2.2.2.1
abbrev Cx.E (κ : Cx) : Outcome → State → List Loc → Prop := κ.2.2.2.2.2.2.2.2.2.2.2.2.2.1
abbrev Cx.kmin (κ : Cx) : Nat := κ.2.2.2.2.2.2.2.2.2.2.2.2.2.2.1
abbrev Cx.s0 (κ : Cx) : State := κ.2.2.2.2.2.2.2.2.2.2.2.2.2.2.2
/-- what is known of the context throughout the walk of a body -/
def OkK (km : Nat) (κ : Cx) (l : Launch) (Z : State) (a0 : Array Value) (n0 : Nat) (R : Room) (own nm : String) (bytes : ByteArray) (maxL : Nat) (ret : Option FieldType) : Prop :=
  κ.p.tables.exec = Jvm.exec ∧ κ.c.code = bytes ∧ κ.c.maxLocals = maxL ∧ κ.Z.Warmed39 κ.s.vm ∧ κ.s.vm.findClass own = some κ.m.cls ∧ κ.meth.sig.returnType = ret ∧ κ.meth.locks = false ∧ κ.meth.name = nm ∧ κ.l = l ∧ κ.Z = Z ∧ κ.a0 = a0 ∧ κ.n0 = n0 ∧ κ.R = R ∧ κ.kmin = km ∧ (∀ o t L, FrameEnd κ.s o t L κ.R.cells κ.R.slots → κ.kmin ≤ t.heap.size → κ.E o t L)
abbrev Ok (κ : Cx) (l : Launch) (Z : State) (a0 : Array Value) (n0 : Nat) (R : Room) (own nm : String) (bytes : ByteArray) (maxL : Nat) (ret : Option FieldType) : Prop := OkK 0 κ l Z a0 n0 R own nm bytes maxL ret
section B
variable {km : Nat} {κ : Cx} {l : Launch} {Z : State} {a0 : Array Value} {n0 : Nat} {R : Room} {own nm : String} {bytes : ByteArray} {maxL : Nat} {ret : Option FieldType}
theorem OkK.exec (B : OkK km κ l Z a0 n0 R own nm bytes maxL ret) : κ.p.tables.exec = Jvm.exec := B.1
theorem OkK.byt (B : OkK km κ l Z a0 n0 R own nm bytes maxL ret) : κ.c.code = bytes := B.2.1
theorem OkK.mxl (B : OkK km κ l Z a0 n0 R own nm bytes maxL ret) : κ.c.maxLocals = maxL := B.2.2.1
theorem OkK.warm (B : OkK km κ l Z a0 n0 R own nm bytes maxL ret) : Z.Warmed39 κ.s.vm := B.2.2.2.2.2.2.2.2.2.1 ▸ B.2.2.2.1
theorem OkK.hown (B : OkK km κ l Z a0 n0 R own nm bytes maxL ret) : κ.s.vm.findClass own = some κ.m.cls := B.2.2.2.2.1
theorem OkK.rets (B : OkK km κ l Z a0 n0 R own nm bytes maxL ret) : κ.meth.sig.returnType = ret := B.2.2.2.2.2.1
theorem OkK.nolock (B : OkK km κ l Z a0 n0 R own nm bytes maxL ret) : κ.meth.locks = false := B.2.2.2.2.2.2.1
theorem OkK.name (B : OkK km κ l Z a0 n0 R own nm bytes maxL ret) : κ.meth.name = nm := B.2.2.2.2.2.2.2.1
theorem OkK.hl (B : OkK km κ l Z a0 n0 R own nm bytes maxL ret) : κ.l = l := B.2.2.2.2.2.2.2.2.1
theorem OkK.hn (B : OkK km κ l Z a0 n0 R own nm bytes maxL ret) : κ.n0 = n0 := B.2.2.2.2.2.2.2.2.2.2.2.1
theorem OkK.room (B : OkK km κ l Z a0 n0 R own nm bytes maxL ret) : κ.R = R := B.2.2.2.2.2.2.2.2.2.2.2.2.1
theorem OkK.hkm (B : OkK km κ l Z a0 n0 R own nm bytes maxL ret) : κ.kmin = km := B.2.2.2.2.2.2.2.2.2.2.2.2.2.1
theorem OkK.hE (B : OkK km κ l Z a0 n0 R own nm bytes maxL ret) : ∀ o t L, FrameEnd κ.s o t L κ.R.cells κ.R.slots → κ.kmin ≤ t.heap.size → κ.E o t L := B.2.2.2.2.2.2.2.2.2.2.2.2.2.2
end B
/-- FROM HERE THE RUN ENDS AS Q SAYS: heap h, k cells and n slots made so far, the frame at pc with locals L and operands st -/
def Go (κ : Cx) (Q : Option Value → Heap → Prop) (h : Heap) (k n pc : Nat) (L : Array Slot) (st : List Value) : Prop :=
  ∀ (T : State) (locs : List Loc), Stand κ.p κ.l κ.e κ.R κ.s κ.m κ.args κ.below κ.meth κ.c T locs k n → Fr κ.n0 locs → T.heap = h →
    ∃ t o, Steps κ.p.tables κ.e κ.below (T.setTop (mkF κ.m pc L st)) t ∧ t.status = .running ∧ Ended t κ.below o ∧ ∃ v L', o = .returned v ∧ (Q v t.heap ∧ Fr κ.n0 L') ∧ κ.E o t L'
/-- a decode fact with the next pc -/
def Dc (bytes : ByteArray) (pc : Nat) (i : Instr) (len pc' : Nat) : Prop := decode bytes pc = .ok (i, len) ∧ pc + len = pc'
/-- a branch's decode fact: the pc behind it, the pc that it goes to -/
def Db (bytes : ByteArray) (pc : Nat) (i : Instr) (o : Int) (pc1 pc2 : Nat) : Prop := decode bytes pc = .ok (i, 3) ∧ pc + 3 = pc1 ∧ (pc : Int) + o = (pc2 : Int)
/-- a body's contract: with these arguments at this heap it ends as Q says -/
def Ct (l : Launch) (Z : State) (n0 : Nat) (y : MethodName) (bytes : ByteArray) (maxL : Nat) (ret : Option FieldType) (ws : List Jvm.Cond) (rm : Room) (as' : Array Value) (h0 : Heap) (Q : Option Value → Heap → Prop) : Prop :=
  MetFree l y (head1 (Jvm.Cond.code y bytes maxL ret :: ws) rm) (fun a U => a = as' ∧ Z.Warmed39 U.vm ∧ U.heap = h0) (fun _ _ _ _ _ => True) (fun _ U o U' => ∃ v L, o = .returned v ∧ (Q v U'.heap ∧ Fr n0 L) ∧ FrameEnd U o U' L rm.cells rm.slots)
theorem Ct.of {l : Launch} {Z : State} {a0 : Array Value} {n0 : Nat} {y : MethodName} {bytes : ByteArray} {maxL : Nat} {ret : Option FieldType} {ws : List Jvm.Cond} {rm : Room} {as' : Array Value} {h0 : Heap} {Q : Option Value → Heap → Prop} {L0 : Array Slot}
    (hp : plainFor y = true) (hf : ∀ m : MethodId, entryFrame m as' maxL = mkF m 0 L0 [])
    (body : ∀ κ : Cx, Ok κ l Z a0 n0 rm y.cls y.name bytes maxL ret → Go κ Q h0 0 0 0 L0 []) : Ct l Z n0 y bytes maxL ret ws rm as' h0 Q := by
  refine MetFree.of_bodySF hp hisR ?_
  intro p e s m args below meth c s₁ Bd hml0 hP hK
  obtain ⟨rfl, hZ, hh⟩ := hP
  have hown : s.vm.findClass y.cls = some m.cls := findClass_of_methodNamed Bd.named
  have hnm := (name_of_methodNamed Bd.named Bd.method).1
  have X0 : Stand p l e rm s m args below meth c s₁ [] 0 0 := Stand.of_body Bd
  have e0 : s₁.heap = h0 := by rw [← hh, Bd.state]; rfl
  have q := body (p, l, e, rm, s, m, args, below, meth, c, Z, a0, n0, fun o t L => FrameEnd s o t L rm.cells rm.slots, 0, s) ⟨Bd.exec, Bd.bytes, hml0, hZ, hown, Bd.returns, Bd.notSynchronized, hnm, rfl, rfl, rfl, rfl, rfl, rfl, fun _ _ _ q _ => q⟩ s₁ [] X0 (Fr.nil n0) e0
  obtain ⟨t, o, h1, h2, h3, h4⟩ := q
  exact ⟨t, o, castTop (hf m) h1, h2, h3, h4⟩
section G
variable {km : Nat} {κ : Cx} {l : Launch} {Z : State} {a0 : Array Value} {n0 : Nat} {R : Room} {own nm : String} {bytes : ByteArray} {maxL : Nat} {ret : Option FieldType} {Q : Option Value → Heap → Prop} {h : Heap} {k n pc pc' pc1 pc2 : Nat} {L L' : Array Slot} {st st' : List Value} {o : Int} {x y : Int32} {u w : Int64} {a : Addr} {v v' : Value}
theorem go_step (hs : ∀ (T : State) (locs : List Loc), Stand κ.p κ.l κ.e κ.R κ.s κ.m κ.args κ.below κ.meth κ.c T locs k n → T.heap = h → ∀ target, Steps κ.p.tables κ.e κ.below (T.setTop (mkF κ.m pc' L' st')) target → Steps κ.p.tables κ.e κ.below (T.setTop (mkF κ.m pc L st)) target)
    (g : Go κ Q h k n pc' L' st') : Go κ Q h k n pc L st := fun T locs X N e => by
  obtain ⟨t, o, h1, h2⟩ := g T locs X N e
  exact ⟨t, o, hs T locs X e t h1, h2⟩
theorem go_cast {h' : Heap} {k' n' : Nat} (g : Go κ Q h' k' n' pc' L' st') (e1 : h' = h) (e2 : k' = k) (e3 : n' = n) (e4 : pc' = pc) (e5 : L' = L) (e6 : st' = st) : Go κ Q h k n pc L st := by
  subst e1 e2 e3 e4 e5 e6; exact g
theorem go_mono {Q' : Option Value → Heap → Prop} (g : Go κ Q h k n pc L st) (q : ∀ v h', Q v h' → Q' v h') : Go κ Q' h k n pc L st := fun T locs X N e => by
  obtain ⟨t, o, h1, h2, h3, v, L', h4, ⟨h5, h6⟩, h7⟩ := g T locs X N e
  exact ⟨t, o, h1, h2, h3, v, L', h4, ⟨q _ _ h5, h6⟩, h7⟩
theorem go_iadd (B : OkK km κ l Z a0 n0 R own nm bytes maxL ret) (hd : Dc bytes pc (.iadd) 1 pc') (g : Go κ Q h k n pc' L (.int (x + y) :: st)) : Go κ Q h k n pc L (.int y :: .int x :: st) := by
  obtain ⟨d, rfl⟩ := hd
  exact go_step (fun T locs X e t q => XS.iadd X.here B.exec rfl (hb B.byt d) rfl q) g
theorem go_isub (B : OkK km κ l Z a0 n0 R own nm bytes maxL ret) (hd : Dc bytes pc (.isub) 1 pc') (g : Go κ Q h k n pc' L (.int (x - y) :: st)) : Go κ Q h k n pc L (.int y :: .int x :: st) := by
  obtain ⟨d, rfl⟩ := hd
  exact go_step (fun T locs X e t q => XS.isub X.here B.exec rfl (hb B.byt d) rfl q) g
theorem go_iand (B : OkK km κ l Z a0 n0 R own nm bytes maxL ret) (hd : Dc bytes pc (.iand) 1 pc') (g : Go κ Q h k n pc' L (.int (x &&& y) :: st)) : Go κ Q h k n pc L (.int y :: .int x :: st) := by
  obtain ⟨d, rfl⟩ := hd
  exact go_step (fun T locs X e t q => XS.iand X.here B.exec rfl (hb B.byt d) rfl q) g
theorem go_imul (B : OkK km κ l Z a0 n0 R own nm bytes maxL ret) (hd : Dc bytes pc (.imul) 1 pc') (g : Go κ Q h k n pc' L (.int (x * y) :: st)) : Go κ Q h k n pc L (.int y :: .int x :: st) := by
  obtain ⟨d, rfl⟩ := hd
  exact go_step (fun T locs X e t q => XS.imul X.here B.exec rfl (hb B.byt d) rfl q) g
theorem go_ixor (B : OkK km κ l Z a0 n0 R own nm bytes maxL ret) (hd : Dc bytes pc (.ixor) 1 pc') (g : Go κ Q h k n pc' L (.int (x ^^^ y) :: st)) : Go κ Q h k n pc L (.int y :: .int x :: st) := by
  obtain ⟨d, rfl⟩ := hd
  exact go_step (fun T locs X e t q => XT.ixor X.here B.exec rfl (hb B.byt d) rfl q) g
theorem go_ior (B : OkK km κ l Z a0 n0 R own nm bytes maxL ret) (hd : Dc bytes pc (.ior) 1 pc') (g : Go κ Q h k n pc' L (.int (x ||| y) :: st)) : Go κ Q h k n pc L (.int y :: .int x :: st) := by
  obtain ⟨d, rfl⟩ := hd
  exact go_step (fun T locs X e t q => XT.ior X.here B.exec rfl (hb B.byt d) rfl q) g
theorem go_ishl (B : OkK km κ l Z a0 n0 R own nm bytes maxL ret) (hd : Dc bytes pc (.ishl) 1 pc') (g : Go κ Q h k n pc' L (.int (x <<< (y &&& 31)) :: st)) : Go κ Q h k n pc L (.int y :: .int x :: st) := by
  obtain ⟨d, rfl⟩ := hd
  exact go_step (fun T locs X e t q => XT.ishl X.here B.exec rfl (hb B.byt d) rfl q) g
theorem go_ishr (B : OkK km κ l Z a0 n0 R own nm bytes maxL ret) (hd : Dc bytes pc (.ishr) 1 pc') (g : Go κ Q h k n pc' L (.int (x >>> (y &&& 31)) :: st)) : Go κ Q h k n pc L (.int y :: .int x :: st) := by
  obtain ⟨d, rfl⟩ := hd
  exact go_step (fun T locs X e t q => XT.ishr X.here B.exec rfl (hb B.byt d) rfl q) g
theorem go_iushr (B : OkK km κ l Z a0 n0 R own nm bytes maxL ret) (hd : Dc bytes pc (.iushr) 1 pc') (g : Go κ Q h k n pc' L (.int (XT.ushr x y) :: st)) : Go κ Q h k n pc L (.int y :: .int x :: st) := by
  obtain ⟨d, rfl⟩ := hd
  exact go_step (fun T locs X e t q => XT.iushr X.here B.exec rfl (hb B.byt d) rfl q) g
theorem go_idiv (B : OkK km κ l Z a0 n0 R own nm bytes maxL ret) (hd : Dc bytes pc (.idiv) 1 pc') (hy : y ≠ 0) (g : Go κ Q h k n pc' L (.int (x / y) :: st)) : Go κ Q h k n pc L (.int y :: .int x :: st) := by
  obtain ⟨d, rfl⟩ := hd
  exact go_step (fun T locs X e t q => XS.idiv X.here B.exec rfl (hb B.byt d) rfl hy q) g
theorem go_irem (B : OkK km κ l Z a0 n0 R own nm bytes maxL ret) (hd : Dc bytes pc (.irem) 1 pc') (hy : y ≠ 0) (g : Go κ Q h k n pc' L (.int (x % y) :: st)) : Go κ Q h k n pc L (.int y :: .int x :: st) := by
  obtain ⟨d, rfl⟩ := hd
  exact go_step (fun T locs X e t q => iremM X B.exec rfl (hb B.byt d) rfl hy q) g
theorem go_ineg (B : OkK km κ l Z a0 n0 R own nm bytes maxL ret) (hd : Dc bytes pc (.ineg) 1 pc') (g : Go κ Q h k n pc' L (.int (-x) :: st)) : Go κ Q h k n pc L (.int x :: st) := by
  obtain ⟨d, rfl⟩ := hd
  exact go_step (fun T locs X e t q => XS.ineg X.here B.exec rfl (hb B.byt d) rfl q) g
theorem go_ladd (B : OkK km κ l Z a0 n0 R own nm bytes maxL ret) (hd : Dc bytes pc (.ladd) 1 pc') (g : Go κ Q h k n pc' L (.long (u + w) :: st)) : Go κ Q h k n pc L (.long w :: .long u :: st) := by
  obtain ⟨d, rfl⟩ := hd
  exact go_step (fun T locs X e t q => XT.ladd X.here B.exec rfl (hb B.byt d) rfl q) g
theorem go_lsub (B : OkK km κ l Z a0 n0 R own nm bytes maxL ret) (hd : Dc bytes pc (.lsub) 1 pc') (g : Go κ Q h k n pc' L (.long (u - w) :: st)) : Go κ Q h k n pc L (.long w :: .long u :: st) := by
  obtain ⟨d, rfl⟩ := hd
  exact go_step (fun T locs X e t q => XT.lsub X.here B.exec rfl (hb B.byt d) rfl q) g
theorem go_lmul (B : OkK km κ l Z a0 n0 R own nm bytes maxL ret) (hd : Dc bytes pc (.lmul) 1 pc') (g : Go κ Q h k n pc' L (.long (u * w) :: st)) : Go κ Q h k n pc L (.long w :: .long u :: st) := by
  obtain ⟨d, rfl⟩ := hd
  exact go_step (fun T locs X e t q => XT.lmul X.here B.exec rfl (hb B.byt d) rfl q) g
theorem go_land (B : OkK km κ l Z a0 n0 R own nm bytes maxL ret) (hd : Dc bytes pc (.land) 1 pc') (g : Go κ Q h k n pc' L (.long (u &&& w) :: st)) : Go κ Q h k n pc L (.long w :: .long u :: st) := by
  obtain ⟨d, rfl⟩ := hd
  exact go_step (fun T locs X e t q => XT.land X.here B.exec rfl (hb B.byt d) rfl q) g
theorem go_lor (B : OkK km κ l Z a0 n0 R own nm bytes maxL ret) (hd : Dc bytes pc (.lor) 1 pc') (g : Go κ Q h k n pc' L (.long (u ||| w) :: st)) : Go κ Q h k n pc L (.long w :: .long u :: st) := by
  obtain ⟨d, rfl⟩ := hd
  exact go_step (fun T locs X e t q => XT.lor X.here B.exec rfl (hb B.byt d) rfl q) g
theorem go_lxor (B : OkK km κ l Z a0 n0 R own nm bytes maxL ret) (hd : Dc bytes pc (.lxor) 1 pc') (g : Go κ Q h k n pc' L (.long (u ^^^ w) :: st)) : Go κ Q h k n pc L (.long w :: .long u :: st) := by
  obtain ⟨d, rfl⟩ := hd
  exact go_step (fun T locs X e t q => XT.lxor X.here B.exec rfl (hb B.byt d) rfl q) g
theorem go_ldiv (B : OkK km κ l Z a0 n0 R own nm bytes maxL ret) (hd : Dc bytes pc (.ldiv) 1 pc') (hy : w ≠ 0) (g : Go κ Q h k n pc' L (.long (u / w) :: st)) : Go κ Q h k n pc L (.long w :: .long u :: st) := by
  obtain ⟨d, rfl⟩ := hd
  exact go_step (fun T locs X e t q => XT.ldiv X.here B.exec rfl (hb B.byt d) rfl hy q) g
theorem go_lrem (B : OkK km κ l Z a0 n0 R own nm bytes maxL ret) (hd : Dc bytes pc (.lrem) 1 pc') (hy : w ≠ 0) (g : Go κ Q h k n pc' L (.long (u - (u / w) * w) :: st)) : Go κ Q h k n pc L (.long w :: .long u :: st) := by
  obtain ⟨d, rfl⟩ := hd
  exact go_step (fun T locs X e t q => XT.lrem X.here B.exec rfl (hb B.byt d) rfl hy q) g
theorem go_lshl (B : OkK km κ l Z a0 n0 R own nm bytes maxL ret) (hd : Dc bytes pc (.lshl) 1 pc') (g : Go κ Q h k n pc' L (.long (u <<< (y.toInt64 &&& 63)) :: st)) : Go κ Q h k n pc L (.int y :: .long u :: st) := by
  obtain ⟨d, rfl⟩ := hd
  exact go_step (fun T locs X e t q => XT.lshl X.here B.exec rfl (hb B.byt d) rfl q) g
theorem go_lshr (B : OkK km κ l Z a0 n0 R own nm bytes maxL ret) (hd : Dc bytes pc (.lshr) 1 pc') (g : Go κ Q h k n pc' L (.long (u >>> (y.toInt64 &&& 63)) :: st)) : Go κ Q h k n pc L (.int y :: .long u :: st) := by
  obtain ⟨d, rfl⟩ := hd
  exact go_step (fun T locs X e t q => XT.lshr X.here B.exec rfl (hb B.byt d) rfl q) g
theorem go_lushr (B : OkK km κ l Z a0 n0 R own nm bytes maxL ret) (hd : Dc bytes pc (.lushr) 1 pc') (g : Go κ Q h k n pc' L (.long (XT.ushrL u y) :: st)) : Go κ Q h k n pc L (.int y :: .long u :: st) := by
  obtain ⟨d, rfl⟩ := hd
  exact go_step (fun T locs X e t q => XT.lushr X.here B.exec rfl (hb B.byt d) rfl q) g
theorem go_lneg (B : OkK km κ l Z a0 n0 R own nm bytes maxL ret) (hd : Dc bytes pc (.lneg) 1 pc') (g : Go κ Q h k n pc' L (.long (-u) :: st)) : Go κ Q h k n pc L (.long u :: st) := by
  obtain ⟨d, rfl⟩ := hd
  exact go_step (fun T locs X e t q => XT.lneg X.here B.exec rfl (hb B.byt d) rfl q) g
theorem go_i2l (B : OkK km κ l Z a0 n0 R own nm bytes maxL ret) (hd : Dc bytes pc (.i2l) 1 pc') (g : Go κ Q h k n pc' L (.long x.toInt64 :: st)) : Go κ Q h k n pc L (.int x :: st) := by
  obtain ⟨d, rfl⟩ := hd
  exact go_step (fun T locs X e t q => XT.i2l X.here B.exec rfl (hb B.byt d) rfl q) g
theorem go_l2i (B : OkK km κ l Z a0 n0 R own nm bytes maxL ret) (hd : Dc bytes pc (.l2i) 1 pc') (g : Go κ Q h k n pc' L (.int u.toInt32 :: st)) : Go κ Q h k n pc L (.long u :: st) := by
  obtain ⟨d, rfl⟩ := hd
  exact go_step (fun T locs X e t q => XT.l2i X.here B.exec rfl (hb B.byt d) rfl q) g
theorem go_i2b (B : OkK km κ l Z a0 n0 R own nm bytes maxL ret) (hd : Dc bytes pc (.i2b) 1 pc') (g : Go κ Q h k n pc' L (.int x.toInt8.toInt32 :: st)) : Go κ Q h k n pc L (.int x :: st) := by
  obtain ⟨d, rfl⟩ := hd
  exact go_step (fun T locs X e t q => XT.i2b X.here B.exec rfl (hb B.byt d) rfl q) g
theorem go_i2c (B : OkK km κ l Z a0 n0 R own nm bytes maxL ret) (hd : Dc bytes pc (.i2c) 1 pc') (g : Go κ Q h k n pc' L (.int x.toUInt32.toUInt16.toUInt32.toInt32 :: st)) : Go κ Q h k n pc L (.int x :: st) := by
  obtain ⟨d, rfl⟩ := hd
  exact go_step (fun T locs X e t q => XT.i2c X.here B.exec rfl (hb B.byt d) rfl q) g
theorem go_lcmp (B : OkK km κ l Z a0 n0 R own nm bytes maxL ret) (hd : Dc bytes pc (.lcmp) 1 pc') (g : Go κ Q h k n pc' L (.int (XT.cmpL u w) :: st)) : Go κ Q h k n pc L (.long w :: .long u :: st) := by
  obtain ⟨d, rfl⟩ := hd
  exact go_step (fun T locs X e t q => XT.lcmp X.here B.exec rfl (hb B.byt d) rfl q) g
theorem go_pop (B : OkK km κ l Z a0 n0 R own nm bytes maxL ret) (hd : Dc bytes pc (.pop) 1 pc') (hc : v.category = 1) (g : Go κ Q h k n pc' L (st)) : Go κ Q h k n pc L (v :: st) := by
  obtain ⟨d, rfl⟩ := hd
  exact go_step (fun T locs X e t q => XT.pop X.here B.exec rfl (hb B.byt d) rfl hc q) g
theorem go_dup (B : OkK km κ l Z a0 n0 R own nm bytes maxL ret) (hd : Dc bytes pc (.dup) 1 pc') (hc : v.category = 1) (g : Go κ Q h k n pc' L (v :: v :: st)) : Go κ Q h k n pc L (v :: st) := by
  obtain ⟨d, rfl⟩ := hd
  exact go_step (fun T locs X e t q => XS.dup X.here B.exec rfl (hb B.byt d) rfl hc q) g
theorem go_dup_x1 (B : OkK km κ l Z a0 n0 R own nm bytes maxL ret) (hd : Dc bytes pc (.dup_x1) 1 pc') (hc : v.category = 1) (hc' : v'.category = 1) (g : Go κ Q h k n pc' L (v :: v' :: v :: st)) : Go κ Q h k n pc L (v :: v' :: st) := by
  obtain ⟨d, rfl⟩ := hd
  exact go_step (fun T locs X e t q => XT.dupX1 X.here B.exec rfl (hb B.byt d) rfl hc hc' q) g
theorem go_dup2 (B : OkK km κ l Z a0 n0 R own nm bytes maxL ret) (hd : Dc bytes pc (.dup2) 1 pc') (hc : v.category = 1) (hc' : v'.category = 1) (g : Go κ Q h k n pc' L (v :: v' :: v :: v' :: st)) : Go κ Q h k n pc L (v :: v' :: st) := by
  obtain ⟨d, rfl⟩ := hd
  exact go_step (fun T locs X e t q => XT.dup2 X.here B.exec rfl (hb B.byt d) rfl hc hc' q) g
theorem go_dup2l (B : OkK km κ l Z a0 n0 R own nm bytes maxL ret) (hd : Dc bytes pc (.dup2) 1 pc') (g : Go κ Q h k n pc' L (.long u :: .long u :: st)) : Go κ Q h k n pc L (.long u :: st) := by
  obtain ⟨d, rfl⟩ := hd
  exact go_step (fun T locs X e t q => XT.dup2L X.here B.exec rfl (hb B.byt d) rfl q) g
theorem go_iconst (B : OkK km κ l Z a0 n0 R own nm bytes maxL ret) (hd : Dc bytes pc (.iconst o) 1 pc') (hv : Int32.ofInt o = x) (g : Go κ Q h k n pc' L (.int x :: st)) : Go κ Q h k n pc L (st) := by
  obtain ⟨d, rfl⟩ := hd
  exact go_step (fun T locs X e t q => XT.iconstV X.here B.exec rfl x (hb B.byt d) hv q) g
theorem go_bipush (B : OkK km κ l Z a0 n0 R own nm bytes maxL ret) (hd : Dc bytes pc (.bipush o) 2 pc') (hv : (Int8.ofInt o).toInt32 = x) (g : Go κ Q h k n pc' L (.int x :: st)) : Go κ Q h k n pc L (st) := by
  obtain ⟨d, rfl⟩ := hd
  exact go_step (fun T locs X e t q => XT.bipushV X.here B.exec rfl x (hb B.byt d) hv q) g
theorem go_sipush (B : OkK km κ l Z a0 n0 R own nm bytes maxL ret) (hd : Dc bytes pc (.sipush o) 3 pc') (hv : (Int16.ofInt o).toInt32 = x) (g : Go κ Q h k n pc' L (.int x :: st)) : Go κ Q h k n pc L (st) := by
  obtain ⟨d, rfl⟩ := hd
  exact go_step (fun T locs X e t q => XT.sipushV X.here B.exec rfl x (hb B.byt d) hv q) g
theorem go_lconst (B : OkK km κ l Z a0 n0 R own nm bytes maxL ret) {j : Fin 2} (hd : Dc bytes pc (.lconst j) 1 pc') (hv : Int64.ofNat j = u) (g : Go κ Q h k n pc' L (.long u :: st)) : Go κ Q h k n pc L (st) := by
  obtain ⟨d, rfl⟩ := hd
  exact go_step (fun T locs X e t q => XT.lconstV X.here B.exec rfl u (hb B.byt d) hv q) g
theorem go_aconst_null (B : OkK km κ l Z a0 n0 R own nm bytes maxL ret) (hd : Dc bytes pc (.aconst_null) 1 pc') (g : Go κ Q h k n pc' L (.null :: st)) : Go κ Q h k n pc L (st) := by
  obtain ⟨d, rfl⟩ := hd
  exact go_step (fun T locs X e t q => XS.aconstNull X.here B.exec rfl (hb B.byt d) q) g
theorem go_iload_n (B : OkK km κ l Z a0 n0 R own nm bytes maxL ret) {j : Fin 4} (hd : Dc bytes pc (.iload_n j) 1 pc') (hl : L[j.val]? = some (.val (.int x))) (g : Go κ Q h k n pc' L (.int x :: st)) : Go κ Q h k n pc L (st) := by
  obtain ⟨d, rfl⟩ := hd
  exact go_step (fun T locs X e t q => XS.iloadN X.here B.exec rfl (hb B.byt d) hl q) g
theorem go_iload (B : OkK km κ l Z a0 n0 R own nm bytes maxL ret) {j : Nat} (hd : Dc bytes pc (.iload j) 2 pc') (hl : L[j]? = some (.val (.int x))) (g : Go κ Q h k n pc' L (.int x :: st)) : Go κ Q h k n pc L (st) := by
  obtain ⟨d, rfl⟩ := hd
  exact go_step (fun T locs X e t q => XS.iload X.here B.exec rfl (hb B.byt d) hl q) g
theorem go_istore_n (B : OkK km κ l Z a0 n0 R own nm bytes maxL ret) {j : Fin 4} (L' : Array Slot) (hd : Dc bytes pc (.istore_n j) 1 pc') (hl : storeLocals L j.val (.int x) = some L') (g : Go κ Q h k n pc' L' st) : Go κ Q h k n pc L (.int x :: st) := by
  obtain ⟨d, rfl⟩ := hd
  exact go_step (fun T locs X e t q => XS.istoreN X.here B.exec rfl (hb B.byt d) rfl hl q) g
theorem go_istore (B : OkK km κ l Z a0 n0 R own nm bytes maxL ret) {j : Nat} (L' : Array Slot) (hd : Dc bytes pc (.istore j) 2 pc') (hl : storeLocals L j (.int x) = some L') (g : Go κ Q h k n pc' L' st) : Go κ Q h k n pc L (.int x :: st) := by
  obtain ⟨d, rfl⟩ := hd
  exact go_step (fun T locs X e t q => XS.istore X.here B.exec rfl (hb B.byt d) rfl hl q) g
theorem go_lload_n (B : OkK km κ l Z a0 n0 R own nm bytes maxL ret) {j : Fin 4} (hd : Dc bytes pc (.lload_n j) 1 pc') (hl : L[j.val]? = some (.val (.long u))) (g : Go κ Q h k n pc' L (.long u :: st)) : Go κ Q h k n pc L (st) := by
  obtain ⟨d, rfl⟩ := hd
  exact go_step (fun T locs X e t q => XT.lloadN X.here B.exec rfl (hb B.byt d) hl q) g
theorem go_lload (B : OkK km κ l Z a0 n0 R own nm bytes maxL ret) {j : Nat} (hd : Dc bytes pc (.lload j) 2 pc') (hl : L[j]? = some (.val (.long u))) (g : Go κ Q h k n pc' L (.long u :: st)) : Go κ Q h k n pc L (st) := by
  obtain ⟨d, rfl⟩ := hd
  exact go_step (fun T locs X e t q => XT.lload X.here B.exec rfl (hb B.byt d) hl q) g
theorem go_lstore_n (B : OkK km κ l Z a0 n0 R own nm bytes maxL ret) {j : Fin 4} (L' : Array Slot) (hd : Dc bytes pc (.lstore_n j) 1 pc') (hl : storeLocals L j.val (.long u) = some L') (g : Go κ Q h k n pc' L' st) : Go κ Q h k n pc L (.long u :: st) := by
  obtain ⟨d, rfl⟩ := hd
  exact go_step (fun T locs X e t q => XT.lstoreN X.here B.exec rfl (hb B.byt d) rfl hl q) g
theorem go_lstore (B : OkK km κ l Z a0 n0 R own nm bytes maxL ret) {j : Nat} (L' : Array Slot) (hd : Dc bytes pc (.lstore j) 2 pc') (hl : storeLocals L j (.long u) = some L') (g : Go κ Q h k n pc' L' st) : Go κ Q h k n pc L (.long u :: st) := by
  obtain ⟨d, rfl⟩ := hd
  exact go_step (fun T locs X e t q => XT.lstore X.here B.exec rfl (hb B.byt d) rfl hl q) g
theorem go_aload_n (B : OkK km κ l Z a0 n0 R own nm bytes maxL ret) {j : Fin 4} (hd : Dc bytes pc (.aload_n j) 1 pc') (hl : L[j.val]? = some (.val (v))) (hv : v.isRef = true) (g : Go κ Q h k n pc' L (v :: st)) : Go κ Q h k n pc L (st) := by
  obtain ⟨d, rfl⟩ := hd
  exact go_step (fun T locs X e t q => XS.aloadN X.here B.exec rfl (hb B.byt d) hl hv q) g
theorem go_aload (B : OkK km κ l Z a0 n0 R own nm bytes maxL ret) {j : Nat} (hd : Dc bytes pc (.aload j) 2 pc') (hl : L[j]? = some (.val (v))) (hv : v.isRef = true) (g : Go κ Q h k n pc' L (v :: st)) : Go κ Q h k n pc L (st) := by
  obtain ⟨d, rfl⟩ := hd
  exact go_step (fun T locs X e t q => XS.aload X.here B.exec rfl (hb B.byt d) hl hv q) g
theorem go_astore_n (B : OkK km κ l Z a0 n0 R own nm bytes maxL ret) {j : Fin 4} (L' : Array Slot) (hd : Dc bytes pc (.astore_n j) 1 pc') (hv : v.isRef = true) (hl : storeLocals L j.val (v) = some L') (g : Go κ Q h k n pc' L' st) : Go κ Q h k n pc L (v :: st) := by
  obtain ⟨d, rfl⟩ := hd
  exact go_step (fun T locs X e t q => XS.astoreN X.here B.exec rfl (hb B.byt d) rfl hv hl q) g
theorem go_astore (B : OkK km κ l Z a0 n0 R own nm bytes maxL ret) {j : Nat} (L' : Array Slot) (hd : Dc bytes pc (.astore j) 2 pc') (hv : v.isRef = true) (hl : storeLocals L j (v) = some L') (g : Go κ Q h k n pc' L' st) : Go κ Q h k n pc L (v :: st) := by
  obtain ⟨d, rfl⟩ := hd
  exact go_step (fun T locs X e t q => XS.astore X.here B.exec rfl (hb B.byt d) rfl hv hl q) g
theorem go_iinc (B : OkK km κ l Z a0 n0 R own nm bytes maxL ret) {j : Nat} {z : Int32} (L' : Array Slot) (hd : Dc bytes pc (.iinc j o) 3 pc') (hz : Int32.ofInt o = z) (hl : L[j]? = some (.val (.int x))) (hl' : storeLocals L j (.int (x + z)) = some L') (g : Go κ Q h k n pc' L' st) : Go κ Q h k n pc L st := by
  obtain ⟨d, rfl⟩ := hd
  subst hz
  exact go_step (fun T locs X e t q => XS.iinc X.here B.exec rfl (hb B.byt d) hl hl' q) g
theorem go_goto (B : OkK km κ l Z a0 n0 R own nm bytes maxL ret) (hd : Db bytes pc (.goto o) o pc1 pc2) (g : Go κ Q h k n pc2 L st) : Go κ Q h k n pc L st := by
  obtain ⟨d, -, e2⟩ := hd
  exact go_step (fun T locs X e t q => XS.goto X.here B.exec rfl (pc0 := pc) rfl (hb B.byt d) (by omega) (by omega) q) g
theorem go_icmpeq (B : OkK km κ l Z a0 n0 R own nm bytes maxL ret) (hd : Db bytes pc (.if_icmp .eq o) o pc1 pc2) (gt : x = y → Go κ Q h k n pc2 L st) (gf : ¬ x = y → Go κ Q h k n pc1 L st) : Go κ Q h k n pc L (.int y :: .int x :: st) := by
  obtain ⟨d, rfl, e2⟩ := hd
  rcases Classical.em (x = y) with q0 | q0
  · exact go_step (fun T locs X e t q => XS.icmpYes X.here B.exec rfl (pc0 := pc) rfl (hb B.byt d) rfl (XT.ii_eq_t q0) (by omega) (by omega) q) (gt q0)
  · exact go_step (fun T locs X e t q => XS.icmpNo X.here B.exec rfl (hb B.byt d) rfl (XT.ii_eq_f q0) q) (gf q0)
theorem go_icmpne (B : OkK km κ l Z a0 n0 R own nm bytes maxL ret) (hd : Db bytes pc (.if_icmp .ne o) o pc1 pc2) (gt : ¬ x = y → Go κ Q h k n pc2 L st) (gf : x = y → Go κ Q h k n pc1 L st) : Go κ Q h k n pc L (.int y :: .int x :: st) := by
  obtain ⟨d, rfl, e2⟩ := hd
  rcases Classical.em (¬ x = y) with q0 | q0
  · exact go_step (fun T locs X e t q => XS.icmpYes X.here B.exec rfl (pc0 := pc) rfl (hb B.byt d) rfl (XT.ii_ne_t q0) (by omega) (by omega) q) (gt q0)
  · exact go_step (fun T locs X e t q => XS.icmpNo X.here B.exec rfl (hb B.byt d) rfl (XT.ii_ne_f (Classical.not_not.mp q0)) q) (gf (Classical.not_not.mp q0))
theorem go_icmplt (B : OkK km κ l Z a0 n0 R own nm bytes maxL ret) (hd : Db bytes pc (.if_icmp .lt o) o pc1 pc2) (gt : x < y → Go κ Q h k n pc2 L st) (gf : ¬ x < y → Go κ Q h k n pc1 L st) : Go κ Q h k n pc L (.int y :: .int x :: st) := by
  obtain ⟨d, rfl, e2⟩ := hd
  rcases Classical.em (x < y) with q0 | q0
  · exact go_step (fun T locs X e t q => XS.icmpYes X.here B.exec rfl (pc0 := pc) rfl (hb B.byt d) rfl (XT.ii_lt_t q0) (by omega) (by omega) q) (gt q0)
  · exact go_step (fun T locs X e t q => XS.icmpNo X.here B.exec rfl (hb B.byt d) rfl (XT.ii_lt_f q0) q) (gf q0)
theorem go_icmpge (B : OkK km κ l Z a0 n0 R own nm bytes maxL ret) (hd : Db bytes pc (.if_icmp .ge o) o pc1 pc2) (gt : ¬ x < y → Go κ Q h k n pc2 L st) (gf : x < y → Go κ Q h k n pc1 L st) : Go κ Q h k n pc L (.int y :: .int x :: st) := by
  obtain ⟨d, rfl, e2⟩ := hd
  rcases Classical.em (¬ x < y) with q0 | q0
  · exact go_step (fun T locs X e t q => XS.icmpYes X.here B.exec rfl (pc0 := pc) rfl (hb B.byt d) rfl (XT.ii_ge_t q0) (by omega) (by omega) q) (gt q0)
  · exact go_step (fun T locs X e t q => XS.icmpNo X.here B.exec rfl (hb B.byt d) rfl (XT.ii_ge_f (Classical.not_not.mp q0)) q) (gf (Classical.not_not.mp q0))
theorem go_icmpgt (B : OkK km κ l Z a0 n0 R own nm bytes maxL ret) (hd : Db bytes pc (.if_icmp .gt o) o pc1 pc2) (gt : y < x → Go κ Q h k n pc2 L st) (gf : ¬ y < x → Go κ Q h k n pc1 L st) : Go κ Q h k n pc L (.int y :: .int x :: st) := by
  obtain ⟨d, rfl, e2⟩ := hd
  rcases Classical.em (y < x) with q0 | q0
  · exact go_step (fun T locs X e t q => XS.icmpYes X.here B.exec rfl (pc0 := pc) rfl (hb B.byt d) rfl (XT.ii_gt_t q0) (by omega) (by omega) q) (gt q0)
  · exact go_step (fun T locs X e t q => XS.icmpNo X.here B.exec rfl (hb B.byt d) rfl (XT.ii_gt_f q0) q) (gf q0)
theorem go_icmple (B : OkK km κ l Z a0 n0 R own nm bytes maxL ret) (hd : Db bytes pc (.if_icmp .le o) o pc1 pc2) (gt : ¬ y < x → Go κ Q h k n pc2 L st) (gf : y < x → Go κ Q h k n pc1 L st) : Go κ Q h k n pc L (.int y :: .int x :: st) := by
  obtain ⟨d, rfl, e2⟩ := hd
  rcases Classical.em (¬ y < x) with q0 | q0
  · exact go_step (fun T locs X e t q => XS.icmpYes X.here B.exec rfl (pc0 := pc) rfl (hb B.byt d) rfl (XT.ii_le_t q0) (by omega) (by omega) q) (gt q0)
  · exact go_step (fun T locs X e t q => XS.icmpNo X.here B.exec rfl (hb B.byt d) rfl (XT.ii_le_f (Classical.not_not.mp q0)) q) (gf (Classical.not_not.mp q0))
theorem go_ifeq (B : OkK km κ l Z a0 n0 R own nm bytes maxL ret) (hd : Db bytes pc (.ifCond .eq o) o pc1 pc2) (gt : x = 0 → Go κ Q h k n pc2 L st) (gf : ¬ x = 0 → Go κ Q h k n pc1 L st) : Go κ Q h k n pc L (.int x :: st) := by
  obtain ⟨d, rfl, e2⟩ := hd
  rcases Classical.em (x = 0) with q0 | q0
  · exact go_step (fun T locs X e t q => XS.ifYes X.here B.exec rfl (pc0 := pc) rfl (hb B.byt d) rfl (XT.i0_eq_t q0) (by omega) (by omega) q) (gt q0)
  · exact go_step (fun T locs X e t q => XS.ifNo X.here B.exec rfl (hb B.byt d) rfl (XT.i0_eq_f q0) q) (gf q0)
theorem go_ifne (B : OkK km κ l Z a0 n0 R own nm bytes maxL ret) (hd : Db bytes pc (.ifCond .ne o) o pc1 pc2) (gt : ¬ x = 0 → Go κ Q h k n pc2 L st) (gf : x = 0 → Go κ Q h k n pc1 L st) : Go κ Q h k n pc L (.int x :: st) := by
  obtain ⟨d, rfl, e2⟩ := hd
  rcases Classical.em (¬ x = 0) with q0 | q0
  · exact go_step (fun T locs X e t q => XS.ifYes X.here B.exec rfl (pc0 := pc) rfl (hb B.byt d) rfl (XT.i0_ne_t q0) (by omega) (by omega) q) (gt q0)
  · exact go_step (fun T locs X e t q => XS.ifNo X.here B.exec rfl (hb B.byt d) rfl (XT.i0_ne_f (Classical.not_not.mp q0)) q) (gf (Classical.not_not.mp q0))
theorem go_iflt (B : OkK km κ l Z a0 n0 R own nm bytes maxL ret) (hd : Db bytes pc (.ifCond .lt o) o pc1 pc2) (gt : x < 0 → Go κ Q h k n pc2 L st) (gf : ¬ x < 0 → Go κ Q h k n pc1 L st) : Go κ Q h k n pc L (.int x :: st) := by
  obtain ⟨d, rfl, e2⟩ := hd
  rcases Classical.em (x < 0) with q0 | q0
  · exact go_step (fun T locs X e t q => XS.ifYes X.here B.exec rfl (pc0 := pc) rfl (hb B.byt d) rfl (XT.i0_lt_t q0) (by omega) (by omega) q) (gt q0)
  · exact go_step (fun T locs X e t q => XS.ifNo X.here B.exec rfl (hb B.byt d) rfl (XT.i0_lt_f q0) q) (gf q0)
theorem go_ifge (B : OkK km κ l Z a0 n0 R own nm bytes maxL ret) (hd : Db bytes pc (.ifCond .ge o) o pc1 pc2) (gt : ¬ x < 0 → Go κ Q h k n pc2 L st) (gf : x < 0 → Go κ Q h k n pc1 L st) : Go κ Q h k n pc L (.int x :: st) := by
  obtain ⟨d, rfl, e2⟩ := hd
  rcases Classical.em (¬ x < 0) with q0 | q0
  · exact go_step (fun T locs X e t q => XS.ifYes X.here B.exec rfl (pc0 := pc) rfl (hb B.byt d) rfl (XT.i0_ge_t q0) (by omega) (by omega) q) (gt q0)
  · exact go_step (fun T locs X e t q => XS.ifNo X.here B.exec rfl (hb B.byt d) rfl (XT.i0_ge_f (Classical.not_not.mp q0)) q) (gf (Classical.not_not.mp q0))
theorem go_ifgt (B : OkK km κ l Z a0 n0 R own nm bytes maxL ret) (hd : Db bytes pc (.ifCond .gt o) o pc1 pc2) (gt : 0 < x → Go κ Q h k n pc2 L st) (gf : ¬ 0 < x → Go κ Q h k n pc1 L st) : Go κ Q h k n pc L (.int x :: st) := by
  obtain ⟨d, rfl, e2⟩ := hd
  rcases Classical.em (0 < x) with q0 | q0
  · exact go_step (fun T locs X e t q => XS.ifYes X.here B.exec rfl (pc0 := pc) rfl (hb B.byt d) rfl (XT.i0_gt_t q0) (by omega) (by omega) q) (gt q0)
  · exact go_step (fun T locs X e t q => XS.ifNo X.here B.exec rfl (hb B.byt d) rfl (XT.i0_gt_f q0) q) (gf q0)
theorem go_ifle (B : OkK km κ l Z a0 n0 R own nm bytes maxL ret) (hd : Db bytes pc (.ifCond .le o) o pc1 pc2) (gt : ¬ 0 < x → Go κ Q h k n pc2 L st) (gf : 0 < x → Go κ Q h k n pc1 L st) : Go κ Q h k n pc L (.int x :: st) := by
  obtain ⟨d, rfl, e2⟩ := hd
  rcases Classical.em (¬ 0 < x) with q0 | q0
  · exact go_step (fun T locs X e t q => XS.ifYes X.here B.exec rfl (pc0 := pc) rfl (hb B.byt d) rfl (XT.i0_le_t q0) (by omega) (by omega) q) (gt q0)
  · exact go_step (fun T locs X e t q => XS.ifNo X.here B.exec rfl (hb B.byt d) rfl (XT.i0_le_f (Classical.not_not.mp q0)) q) (gf (Classical.not_not.mp q0))
theorem go_lifeq (B : OkK km κ l Z a0 n0 R own nm bytes maxL ret) (hd : Db bytes pc (.ifCond .eq o) o pc1 pc2) (gt : u = w → Go κ Q h k n pc2 L st) (gf : ¬ u = w → Go κ Q h k n pc1 L st) : Go κ Q h k n pc L (.int (XT.cmpL u w) :: st) := by
  obtain ⟨d, rfl, e2⟩ := hd
  rcases Classical.em (u = w) with q0 | q0
  · exact go_step (fun T locs X e t q => XS.ifYes X.here B.exec rfl (pc0 := pc) rfl (hb B.byt d) rfl (XT.ll_eq_t q0) (by omega) (by omega) q) (gt q0)
  · exact go_step (fun T locs X e t q => XS.ifNo X.here B.exec rfl (hb B.byt d) rfl (XT.ll_eq_f q0) q) (gf q0)
theorem go_lifne (B : OkK km κ l Z a0 n0 R own nm bytes maxL ret) (hd : Db bytes pc (.ifCond .ne o) o pc1 pc2) (gt : ¬ u = w → Go κ Q h k n pc2 L st) (gf : u = w → Go κ Q h k n pc1 L st) : Go κ Q h k n pc L (.int (XT.cmpL u w) :: st) := by
  obtain ⟨d, rfl, e2⟩ := hd
  rcases Classical.em (¬ u = w) with q0 | q0
  · exact go_step (fun T locs X e t q => XS.ifYes X.here B.exec rfl (pc0 := pc) rfl (hb B.byt d) rfl (XT.ll_ne_t q0) (by omega) (by omega) q) (gt q0)
  · exact go_step (fun T locs X e t q => XS.ifNo X.here B.exec rfl (hb B.byt d) rfl (XT.ll_ne_f (Classical.not_not.mp q0)) q) (gf (Classical.not_not.mp q0))
theorem go_liflt (B : OkK km κ l Z a0 n0 R own nm bytes maxL ret) (hd : Db bytes pc (.ifCond .lt o) o pc1 pc2) (gt : u < w → Go κ Q h k n pc2 L st) (gf : ¬ u < w → Go κ Q h k n pc1 L st) : Go κ Q h k n pc L (.int (XT.cmpL u w) :: st) := by
  obtain ⟨d, rfl, e2⟩ := hd
  rcases Classical.em (u < w) with q0 | q0
  · exact go_step (fun T locs X e t q => XS.ifYes X.here B.exec rfl (pc0 := pc) rfl (hb B.byt d) rfl (XT.ll_lt_t q0) (by omega) (by omega) q) (gt q0)
  · exact go_step (fun T locs X e t q => XS.ifNo X.here B.exec rfl (hb B.byt d) rfl (XT.ll_lt_f q0) q) (gf q0)
theorem go_lifge (B : OkK km κ l Z a0 n0 R own nm bytes maxL ret) (hd : Db bytes pc (.ifCond .ge o) o pc1 pc2) (gt : ¬ u < w → Go κ Q h k n pc2 L st) (gf : u < w → Go κ Q h k n pc1 L st) : Go κ Q h k n pc L (.int (XT.cmpL u w) :: st) := by
  obtain ⟨d, rfl, e2⟩ := hd
  rcases Classical.em (¬ u < w) with q0 | q0
  · exact go_step (fun T locs X e t q => XS.ifYes X.here B.exec rfl (pc0 := pc) rfl (hb B.byt d) rfl (XT.ll_ge_t q0) (by omega) (by omega) q) (gt q0)
  · exact go_step (fun T locs X e t q => XS.ifNo X.here B.exec rfl (hb B.byt d) rfl (XT.ll_ge_f (Classical.not_not.mp q0)) q) (gf (Classical.not_not.mp q0))
theorem go_lifgt (B : OkK km κ l Z a0 n0 R own nm bytes maxL ret) (hd : Db bytes pc (.ifCond .gt o) o pc1 pc2) (gt : w < u → Go κ Q h k n pc2 L st) (gf : ¬ w < u → Go κ Q h k n pc1 L st) : Go κ Q h k n pc L (.int (XT.cmpL u w) :: st) := by
  obtain ⟨d, rfl, e2⟩ := hd
  rcases Classical.em (w < u) with q0 | q0
  · exact go_step (fun T locs X e t q => XS.ifYes X.here B.exec rfl (pc0 := pc) rfl (hb B.byt d) rfl (XT.ll_gt_t q0) (by omega) (by omega) q) (gt q0)
  · exact go_step (fun T locs X e t q => XS.ifNo X.here B.exec rfl (hb B.byt d) rfl (XT.ll_gt_f q0) q) (gf q0)
theorem go_lifle (B : OkK km κ l Z a0 n0 R own nm bytes maxL ret) (hd : Db bytes pc (.ifCond .le o) o pc1 pc2) (gt : ¬ w < u → Go κ Q h k n pc2 L st) (gf : w < u → Go κ Q h k n pc1 L st) : Go κ Q h k n pc L (.int (XT.cmpL u w) :: st) := by
  obtain ⟨d, rfl, e2⟩ := hd
  rcases Classical.em (¬ w < u) with q0 | q0
  · exact go_step (fun T locs X e t q => XS.ifYes X.here B.exec rfl (pc0 := pc) rfl (hb B.byt d) rfl (XT.ll_le_t q0) (by omega) (by omega) q) (gt q0)
  · exact go_step (fun T locs X e t q => XS.ifNo X.here B.exec rfl (hb B.byt d) rfl (XT.ll_le_f (Classical.not_not.mp q0)) q) (gf (Classical.not_not.mp q0))
theorem go_acmpeq (B : OkK km κ l Z a0 n0 R own nm bytes maxL ret) (hd : Db bytes pc (.if_acmp .eq o) o pc1 pc2) (hv : v.isRef = true) (hv' : v'.isRef = true) (gt : v' = v → Go κ Q h k n pc2 L st) (gf : ¬ v' = v → Go κ Q h k n pc1 L st) : Go κ Q h k n pc L (v :: v' :: st) := by
  obtain ⟨d, rfl, e2⟩ := hd
  rcases Classical.em (v' = v) with q0 | q0
  · exact go_step (fun T locs X e t q => XT.acmpYes X.here B.exec rfl (pc0 := pc) rfl (hb B.byt d) rfl hv' hv (XT.aa_eq_t q0) (by omega) (by omega) q) (gt q0)
  · exact go_step (fun T locs X e t q => XT.acmpNo X.here B.exec rfl (hb B.byt d) rfl hv' hv (XT.aa_eq_f q0) q) (gf q0)
theorem go_acmpne (B : OkK km κ l Z a0 n0 R own nm bytes maxL ret) (hd : Db bytes pc (.if_acmp .ne o) o pc1 pc2) (hv : v.isRef = true) (hv' : v'.isRef = true) (gt : ¬ v' = v → Go κ Q h k n pc2 L st) (gf : v' = v → Go κ Q h k n pc1 L st) : Go κ Q h k n pc L (v :: v' :: st) := by
  obtain ⟨d, rfl, e2⟩ := hd
  rcases Classical.em (¬ v' = v) with q0 | q0
  · exact go_step (fun T locs X e t q => XT.acmpYes X.here B.exec rfl (pc0 := pc) rfl (hb B.byt d) rfl hv' hv (XT.aa_ne_t q0) (by omega) (by omega) q) (gt q0)
  · exact go_step (fun T locs X e t q => XT.acmpNo X.here B.exec rfl (hb B.byt d) rfl hv' hv (XT.aa_ne_f (Classical.not_not.mp q0)) q) (gf (Classical.not_not.mp q0))
theorem go_ifnull_t (B : OkK km κ l Z a0 n0 R own nm bytes maxL ret) (hd : Db bytes pc (.ifnull o) o pc1 pc2) (g : Go κ Q h k n pc2 L st) : Go κ Q h k n pc L (.null :: st) := by
  obtain ⟨d, rfl, e2⟩ := hd
  exact go_step (fun T locs X e t q => XS.ifnullYes X.here B.exec rfl (pc0 := pc) rfl (hb B.byt d) rfl (by omega) (by omega) q) g
theorem go_ifnull_f (B : OkK km κ l Z a0 n0 R own nm bytes maxL ret) (hd : Db bytes pc (.ifnull o) o pc1 pc2) (g : Go κ Q h k n pc1 L st) : Go κ Q h k n pc L (.ref a :: st) := by
  obtain ⟨d, rfl, e2⟩ := hd
  exact go_step (fun T locs X e t q => XS.ifnullNo X.here B.exec rfl (hb B.byt d) rfl q) g
theorem go_ifnonnull_t (B : OkK km κ l Z a0 n0 R own nm bytes maxL ret) (hd : Db bytes pc (.ifnonnull o) o pc1 pc2) (g : Go κ Q h k n pc2 L st) : Go κ Q h k n pc L (.ref a :: st) := by
  obtain ⟨d, rfl, e2⟩ := hd
  exact go_step (fun T locs X e t q => XT.ifnonnullYes X.here B.exec rfl (pc0 := pc) rfl (hb B.byt d) rfl (by omega) (by omega) q) g
theorem go_ifnonnull_f (B : OkK km κ l Z a0 n0 R own nm bytes maxL ret) (hd : Db bytes pc (.ifnonnull o) o pc1 pc2) (g : Go κ Q h k n pc1 L st) : Go κ Q h k n pc L (.null :: st) := by
  obtain ⟨d, rfl, e2⟩ := hd
  exact go_step (fun T locs X e t q => XT.ifnonnullNo X.here B.exec rfl (hb B.byt d) rfl q) g
/-! fields, objects, arrays, calls, returns -/
theorem go_getfield (B : OkK km κ l Z a0 n0 R own nm bytes maxL ret) {idx : Nat} {O fn d : String} (hd : Dc bytes pc (.getfield idx) 3 pc') (wl : (Jvm.Cond.fieldLink own idx O fn d).before a0 Z = true) (F : Fld Z h a O fn d v) (g : Go κ Q h k n pc' L (v :: st)) : Go κ Q h k n pc L (.ref a :: st) := fun T locs X N e => by
  obtain ⟨dd, rfl⟩ := hd
  obtain ⟨T', X', e', sp⟩ := getF X B.exec B.warm B.hown (host := "") (Or.inl wl) Via.refl e F (g := mkF κ.m pc L (.ref a :: st)) rfl rfl (hb B.byt dd)
  obtain ⟨t, o, h1, h2⟩ := g T' locs X' N e'
  exact ⟨t, o, sp _ h1, h2⟩
theorem go_getstatic (B : OkK km κ l Z a0 n0 R own nm bytes maxL ret) {idx : Nat} {O fn d : String} (hd : Dc bytes pc (.getstatic idx) 3 pc') (wl : (Jvm.Cond.fieldLink own idx O fn d).before a0 Z = true) (F : Sta Z h O fn d v) (g : Go κ Q h k n pc' L (v :: st)) : Go κ Q h k n pc L st := fun T locs X N e => by
  obtain ⟨dd, rfl⟩ := hd
  obtain ⟨T', X', e', sp⟩ := getS (host := "") X B.exec B.warm B.hown wl Via.refl e F (g := mkF κ.m pc L st) rfl (hb B.byt dd)
  obtain ⟨t, o, h1, h2⟩ := g T' locs X' N e'
  exact ⟨t, o, sp _ h1, h2⟩
theorem go_putfield (B : OkK km κ l Z a0 n0 R own nm bytes maxL ret) {idx kk : Nat} {O fn d C : String} {ty : FieldType} {old : Value} (hd : Dc bytes pc (.putfield idx) 3 pc') (wl : (Jvm.Cond.fieldLink own idx O fn d).before a0 Z = true) (F : Fld Z h a O fn d old) (E : Exa Z h a C)
    (wy : (Jvm.Cond.lays C O fn d).before a0 Z = true ∨ ((Jvm.Cond.laysFinal C O fn d).before a0 Z = true ∧ own = O ∧ nm = "<init>")) (wi : (Jvm.Cond.instantiable C kk).before a0 Z = true) (hty : parseFieldDescriptor d = some ty) (hn : narrow ty v = v) (hf : fits ty v = true) (ha : n0 ≤ a)
    (g : ∀ h', Wr h h' a (Jvm.RoadKit.slotOf Z O fn d) v → Go κ Q h' k n pc' L st) : Go κ Q h k n pc L (v :: .ref a :: st) := fun T locs X N e => by
  obtain ⟨dd, rfl⟩ := hd
  obtain ⟨T', h', X', e', W, sp⟩ := putF X B.exec B.warm B.hown (host := "") (Or.inl wl) Via.refl e F E (wy.imp id fun q => ⟨q.1, q.2.1, B.name.trans q.2.2⟩) wi hty hn hf (g := mkF κ.m pc L (v :: .ref a :: st)) rfl rfl (hb B.byt dd)
  obtain ⟨t, o, h1, h2⟩ := g h' W T' _ X' (Fr.snoc X' N (B.hn ▸ ha)) e'
  exact ⟨t, o, sp _ h1, h2⟩
theorem go_new (B : OkK km κ l Z a0 n0 R own nm bytes maxL ret) {idx nf : Nat} {C : String} (hd : Dc bytes pc (.new idx) 3 pc') (wl : (Jvm.Cond.classLink own idx C).before a0 Z = true) (wi : (Jvm.Cond.instantiable C nf).before a0 Z = true) (wz : (Jvm.Cond.initialized C).before a0 Z = true) (hc : k + 1 ≤ R.cells) (hl : n + nf ≤ R.slots)
    (g : ∀ h' b, b = h.size → Ext h h' → Exa Z h' b C → (∀ {O fn d : String} {ty : FieldType}, Laid Z a0 C O fn d → parseFieldDescriptor d = some ty → Fld Z h' b O fn d (defaultValue ty)) → Go κ Q h' (k + 1) (n + nf) pc' L (.ref b :: st)) : Go κ Q h k n pc L st := fun T locs X N e => by
  obtain ⟨dd, rfl⟩ := hd
  obtain ⟨T', h', X', e', E, A, D, -, sp⟩ := newO X B.exec B.warm B.hown wl wi wz e (g := mkF κ.m pc L st) rfl (hb B.byt dd) (by rw [B.room]; exact hc) (by rw [B.room]; exact hl)
  obtain ⟨t, o, h1, h2⟩ := g h' _ rfl E A D T' locs X' N e'
  exact ⟨t, o, sp _ h1, h2⟩
/-- an array whose places hold just these values -/
def AV (Z : State) (h : Heap) (a : Addr) (ty : FieldType) (vs : List Value) : Prop := ∃ c : Cell, Arr Z h a c ty ∧ c.slots = vs.toArray ∧ vs.length < 2 ^ 31
theorem AV.ext {ty : FieldType} {vs : List Value} {h' : Heap} (F : AV Z h a ty vs) (E : Ext h h') : AV Z h' a ty vs := by obtain ⟨c, A, r⟩ := F; exact ⟨c, A.ext E, r⟩
theorem AV.other {ty : FieldType} {vs : List Value} {h' : Heap} {b : Addr} {sl : Nat} (F : AV Z h b ty vs) (W : Wr h h' a sl v) (q : b ≠ a) : AV Z h' b ty vs := by obtain ⟨c, A, r⟩ := F; exact ⟨c, A.other W q, r⟩
theorem AV.keep {ty : FieldType} {vs : List Value} {h' : Heap} {ws : List Addr} (F : AV Z h a ty vs) (K : Keep h h' ws) (q : a ∉ ws) : AV Z h' a ty vs := by obtain ⟨c, A, r⟩ := F; exact ⟨c, ⟨K.2.1 a c A.1 q, A.2⟩, r⟩
theorem AV.same {ty : FieldType} {vs : List Value} {h' : Heap} {i : Nat} (F : AV Z h a ty vs) (W : Wr h h' a i v) : AV Z h' a ty (vs.set i v) := by
  obtain ⟨c, A, r, s⟩ := F
  exact ⟨_, A.same W, by simp [Cell.setSlot, r], by simpa using s⟩
theorem AV.lt {ty : FieldType} {vs : List Value} (F : AV Z h a ty vs) : a < h.size := by obtain ⟨c, A, -⟩ := F; exact A.lt
theorem AV.len {ty : FieldType} {vs : List Value} (F : AV Z h a ty vs) : vs.length < 2 ^ 31 := by obtain ⟨c, A, -, q⟩ := F; exact q
theorem nat_idx {i : Nat} (hj : x.toInt = (i : Int)) : ¬ x < 0 ∧ x.toNatClampNeg = i := by
  refine ⟨fun q => ?_, ?_⟩
  · have := (Int32.lt_iff_toInt_lt).mp q
    have z : (0 : Int32).toInt = 0 := rfl
    omega
  · show x.toInt.toNat = i
    omega
theorem go_arraylength (B : OkK km κ l Z a0 n0 R own nm bytes maxL ret) {ty : FieldType} {vs : List Value} (hd : Dc bytes pc .arraylength 1 pc') (A : AV Z h a ty vs) (hx : Int32.ofNat vs.length = x) (g : Go κ Q h k n pc' L (.int x :: st)) : Go κ Q h k n pc L (.ref a :: st) := by
  obtain ⟨dd, rfl⟩ := hd
  obtain ⟨c, A, r, s⟩ := A
  have e1 : (Int32.ofNat c.slots.size) = x := by rw [← hx, r]; simp
  subst e1
  exact go_step (fun T locs X e t q => X.arraylength B.exec (by rw [e]; exact A.1) (State.isArrayOf_alike B.warm.alike A.2.1) (g := mkF κ.m pc L (.ref a :: st)) rfl rfl (hb B.byt dd) _ q) g
theorem go_iaload (B : OkK km κ l Z a0 n0 R own nm bytes maxL ret) {vs : List Value} {i : Nat} (hd : Dc bytes pc .iaload 1 pc') (A : AV Z h a .int vs) (hi : x.toInt = (i : Int)) (hv : vs[i]? = some v) (g : Go κ Q h k n pc' L (v :: st)) : Go κ Q h k n pc L (.int x :: .ref a :: st) := by
  obtain ⟨dd, rfl⟩ := hd
  obtain ⟨c, A, r, s⟩ := A
  obtain ⟨q1, q2⟩ := nat_idx hi
  have hl : i < vs.length := (List.getElem?_eq_some_iff.mp hv).1
  exact go_step (fun T locs X e t q => X.iaload B.exec (j := x) (v := v) (by rw [e]; exact A.1) (State.isArrayOf_alike B.warm.alike A.2.1) A.2.2 (by rw [r, q2]; simp; exact ⟨Int32.not_lt.mp q1, hl⟩) (by rw [r, q2]; simpa using hv) (g := mkF κ.m pc L (.int x :: .ref a :: st)) rfl rfl (hb B.byt dd) _ q) g
theorem go_laload (B : OkK km κ l Z a0 n0 R own nm bytes maxL ret) {vs : List Value} {i : Nat} (hd : Dc bytes pc .laload 1 pc') (A : AV Z h a .long vs) (hi : x.toInt = (i : Int)) (hv : vs[i]? = some v) (g : Go κ Q h k n pc' L (v :: st)) : Go κ Q h k n pc L (.int x :: .ref a :: st) := by
  obtain ⟨dd, rfl⟩ := hd
  obtain ⟨c, A, r, s⟩ := A
  obtain ⟨q1, q2⟩ := nat_idx hi
  have hl : i < vs.length := (List.getElem?_eq_some_iff.mp hv).1
  exact go_step (fun T locs X e t q => X.laload B.exec (j := x) (v := v) (by rw [e]; exact A.1) (State.isArrayOf_alike B.warm.alike A.2.1) A.2.2 (by rw [r, q2]; simp; exact ⟨Int32.not_lt.mp q1, hl⟩) (by rw [r, q2]; simpa using hv) (g := mkF κ.m pc L (.int x :: .ref a :: st)) rfl rfl (hb B.byt dd) _ q) g
theorem go_caload (B : OkK km κ l Z a0 n0 R own nm bytes maxL ret) {vs : List Value} {i : Nat} (hd : Dc bytes pc .caload 1 pc') (A : AV Z h a .char vs) (hi : x.toInt = (i : Int)) (hv : vs[i]? = some v) (g : Go κ Q h k n pc' L (v :: st)) : Go κ Q h k n pc L (.int x :: .ref a :: st) := by
  obtain ⟨dd, rfl⟩ := hd
  obtain ⟨c, A, r, s⟩ := A
  obtain ⟨q1, q2⟩ := nat_idx hi
  have hl : i < vs.length := (List.getElem?_eq_some_iff.mp hv).1
  exact go_step (fun T locs X e t q => X.caload B.exec (j := x) (v := v) (by rw [e]; exact A.1) (State.isArrayOf_alike B.warm.alike A.2.1) A.2.2 (by rw [r, q2]; simp; exact ⟨Int32.not_lt.mp q1, hl⟩) (by rw [r, q2]; simpa using hv) (g := mkF κ.m pc L (.int x :: .ref a :: st)) rfl rfl (hb B.byt dd) _ q) g
theorem go_baload (B : OkK km κ l Z a0 n0 R own nm bytes maxL ret) {vs : List Value} {i : Nat} (hd : Dc bytes pc .baload 1 pc') (A : AV Z h a .byte vs) (hi : x.toInt = (i : Int)) (hv : vs[i]? = some v) (g : Go κ Q h k n pc' L (v :: st)) : Go κ Q h k n pc L (.int x :: .ref a :: st) := by
  obtain ⟨dd, rfl⟩ := hd
  obtain ⟨c, A, r, s⟩ := A
  obtain ⟨q1, q2⟩ := nat_idx hi
  have hl : i < vs.length := (List.getElem?_eq_some_iff.mp hv).1
  exact go_step (fun T locs X e t q => X.baloadBytes B.exec (j := x) (v := v) (by rw [e]; exact A.1) (State.isArrayOf_alike B.warm.alike A.2.1) A.2.2 (by rw [r, q2]; simp; exact ⟨Int32.not_lt.mp q1, hl⟩) (by rw [r, q2]; simpa using hv) (g := mkF κ.m pc L (.int x :: .ref a :: st)) rfl rfl (hb B.byt dd) _ q) g
theorem go_zaload (B : OkK km κ l Z a0 n0 R own nm bytes maxL ret) {vs : List Value} {i : Nat} (hd : Dc bytes pc .baload 1 pc') (A : AV Z h a .boolean vs) (hi : x.toInt = (i : Int)) (hv : vs[i]? = some v) (g : Go κ Q h k n pc' L (v :: st)) : Go κ Q h k n pc L (.int x :: .ref a :: st) := by
  obtain ⟨dd, rfl⟩ := hd
  obtain ⟨c, A, r, s⟩ := A
  obtain ⟨q1, q2⟩ := nat_idx hi
  have hl : i < vs.length := (List.getElem?_eq_some_iff.mp hv).1
  exact go_step (fun T locs X e t q => X.baloadBooleans B.exec (j := x) (v := v) (by rw [e]; exact A.1) (State.isArrayOf_alike B.warm.alike A.2.1) A.2.2 (by rw [r, q2]; simp; exact ⟨Int32.not_lt.mp q1, hl⟩) (by rw [r, q2]; simpa using hv) (g := mkF κ.m pc L (.int x :: .ref a :: st)) rfl rfl (hb B.byt dd) _ q) g
theorem go_aaload (B : OkK km κ l Z a0 n0 R own nm bytes maxL ret) {ty : FieldType} {vs : List Value} {i : Nat} (hd : Dc bytes pc .aaload 1 pc') (A : AV Z h a ty vs) (hty : ty.isReference = true) (hi : x.toInt = (i : Int)) (hv : vs[i]? = some v) (g : Go κ Q h k n pc' L (v :: st)) : Go κ Q h k n pc L (.int x :: .ref a :: st) := by
  obtain ⟨dd, rfl⟩ := hd
  obtain ⟨c, A, r, s⟩ := A
  obtain ⟨q1, q2⟩ := nat_idx hi
  have hl : i < vs.length := (List.getElem?_eq_some_iff.mp hv).1
  exact go_step (fun T locs X e t q => X.aaload B.exec (j := x) (v := v) (by rw [e]; exact A.1) (State.isArrayOf_alike B.warm.alike A.2.1) hty A.2.2 (by rw [r, q2]; simp; exact ⟨Int32.not_lt.mp q1, hl⟩) (by rw [r, q2]; simpa using hv) (g := mkF κ.m pc L (.int x :: .ref a :: st)) rfl rfl (hb B.byt dd) _ q) g
theorem go_iastore (B : OkK km κ l Z a0 n0 R own nm bytes maxL ret) {vs : List Value} {i : Nat} (hd : Dc bytes pc .iastore 1 pc') (A : AV Z h a .int vs) (hi : x.toInt = (i : Int)) (hl : i < vs.length) (ha : n0 ≤ a) (g : ∀ h', Wr h h' a i (.int y) → AV Z h' a .int (vs.set i (.int y)) → Go κ Q h' k n pc' L st) : Go κ Q h k n pc L (.int y :: .int x :: .ref a :: st) := fun T locs X N e => by
  obtain ⟨dd, rfl⟩ := hd
  have A0 := A
  obtain ⟨c, A, r, s⟩ := A
  obtain ⟨q1, q2⟩ := nat_idx hi
  obtain ⟨T', h', X', e', W, sp⟩ := stI X B.exec B.warm e A (j := x) (by rw [r, q2]; simp; exact ⟨Int32.not_lt.mp q1, hl⟩) (g := mkF κ.m pc L (.int y :: .int x :: .ref a :: st)) rfl rfl (hb B.byt dd)
  have W' : Wr h h' a i (.int y) := q2 ▸ W
  obtain ⟨t, o, h1, h2⟩ := g h' W' (A0.same W') T' _ X' (Fr.snoc X' N (B.hn ▸ ha)) e'
  exact ⟨t, o, sp _ h1, h2⟩
theorem go_lastore (B : OkK km κ l Z a0 n0 R own nm bytes maxL ret) {vs : List Value} {i : Nat} (hd : Dc bytes pc .lastore 1 pc') (A : AV Z h a .long vs) (hi : x.toInt = (i : Int)) (hl : i < vs.length) (ha : n0 ≤ a) (g : ∀ h', Wr h h' a i (.long u) → AV Z h' a .long (vs.set i (.long u)) → Go κ Q h' k n pc' L st) : Go κ Q h k n pc L (.long u :: .int x :: .ref a :: st) := fun T locs X N e => by
  obtain ⟨dd, rfl⟩ := hd
  have A0 := A
  obtain ⟨c, A, r, s⟩ := A
  obtain ⟨q1, q2⟩ := nat_idx hi
  obtain ⟨T', h', X', e', W, sp⟩ := stJ X B.exec B.warm e A (j := x) (by rw [r, q2]; simp; exact ⟨Int32.not_lt.mp q1, hl⟩) (g := mkF κ.m pc L (.long u :: .int x :: .ref a :: st)) rfl rfl (hb B.byt dd)
  have W' : Wr h h' a i (.long u) := q2 ▸ W
  obtain ⟨t, o, h1, h2⟩ := g h' W' (A0.same W') T' _ X' (Fr.snoc X' N (B.hn ▸ ha)) e'
  exact ⟨t, o, sp _ h1, h2⟩
theorem go_castore (B : OkK km κ l Z a0 n0 R own nm bytes maxL ret) {vs : List Value} {i : Nat} (hd : Dc bytes pc .castore 1 pc') (A : AV Z h a .char vs) (hi : x.toInt = (i : Int)) (hl : i < vs.length) (ha : n0 ≤ a) (g : ∀ h', Wr h h' a i (.int (nar .char y)) → AV Z h' a .char (vs.set i (.int (nar .char y))) → Go κ Q h' k n pc' L st) : Go κ Q h k n pc L (.int y :: .int x :: .ref a :: st) := fun T locs X N e => by
  obtain ⟨dd, rfl⟩ := hd
  have A0 := A
  obtain ⟨c, A, r, s⟩ := A
  obtain ⟨q1, q2⟩ := nat_idx hi
  obtain ⟨T', h', X', e', W, sp⟩ := stC X B.exec B.warm e A (j := x) (by rw [r, q2]; simp; exact ⟨Int32.not_lt.mp q1, hl⟩) (g := mkF κ.m pc L (.int y :: .int x :: .ref a :: st)) rfl rfl (hb B.byt dd)
  have W' : Wr h h' a i (.int (nar .char y)) := q2 ▸ W
  obtain ⟨t, o, h1, h2⟩ := g h' W' (A0.same W') T' _ X' (Fr.snoc X' N (B.hn ▸ ha)) e'
  exact ⟨t, o, sp _ h1, h2⟩
theorem go_bastore (B : OkK km κ l Z a0 n0 R own nm bytes maxL ret) {vs : List Value} {i : Nat} (hd : Dc bytes pc .bastore 1 pc') (A : AV Z h a .byte vs) (hi : x.toInt = (i : Int)) (hl : i < vs.length) (ha : n0 ≤ a) (g : ∀ h', Wr h h' a i (.int (nar .byte y)) → AV Z h' a .byte (vs.set i (.int (nar .byte y))) → Go κ Q h' k n pc' L st) : Go κ Q h k n pc L (.int y :: .int x :: .ref a :: st) := fun T locs X N e => by
  obtain ⟨dd, rfl⟩ := hd
  have A0 := A
  obtain ⟨c, A, r, s⟩ := A
  obtain ⟨q1, q2⟩ := nat_idx hi
  obtain ⟨T', h', X', e', W, sp⟩ := stB X B.exec B.warm e A (j := x) (by rw [r, q2]; simp; exact ⟨Int32.not_lt.mp q1, hl⟩) (g := mkF κ.m pc L (.int y :: .int x :: .ref a :: st)) rfl rfl (hb B.byt dd)
  have W' : Wr h h' a i (.int (nar .byte y)) := q2 ▸ W
  obtain ⟨t, o, h1, h2⟩ := g h' W' (A0.same W') T' _ X' (Fr.snoc X' N (B.hn ▸ ha)) e'
  exact ⟨t, o, sp _ h1, h2⟩
theorem go_zastore (B : OkK km κ l Z a0 n0 R own nm bytes maxL ret) {vs : List Value} {i : Nat} (hd : Dc bytes pc .bastore 1 pc') (A : AV Z h a .boolean vs) (hi : x.toInt = (i : Int)) (hl : i < vs.length) (ha : n0 ≤ a) (g : ∀ h', Wr h h' a i (.int (nar .boolean y)) → AV Z h' a .boolean (vs.set i (.int (nar .boolean y))) → Go κ Q h' k n pc' L st) : Go κ Q h k n pc L (.int y :: .int x :: .ref a :: st) := fun T locs X N e => by
  obtain ⟨dd, rfl⟩ := hd
  have A0 := A
  obtain ⟨c, A, r, s⟩ := A
  obtain ⟨q1, q2⟩ := nat_idx hi
  obtain ⟨T', h', X', e', W, sp⟩ := stZ X B.exec B.warm e A (j := x) (by rw [r, q2]; simp; exact ⟨Int32.not_lt.mp q1, hl⟩) (g := mkF κ.m pc L (.int y :: .int x :: .ref a :: st)) rfl rfl (hb B.byt dd)
  have W' : Wr h h' a i (.int (nar .boolean y)) := q2 ▸ W
  obtain ⟨t, o, h1, h2⟩ := g h' W' (A0.same W') T' _ X' (Fr.snoc X' N (B.hn ▸ ha)) e'
  exact ⟨t, o, sp _ h1, h2⟩
theorem go_newarray (B : OkK km κ l Z a0 n0 R own nm bytes maxL ret) {aty : ArrayType} {i cap : Nat} (hd : Dc bytes pc (.newarray aty) 2 pc') (wa : (Jvm.Cond.arrayClass (newarray.typeOf aty)).before a0 Z = true) (hi : x.toInt = (i : Int)) (hcap : i ≤ cap) (hbig : cap * 8 ≤ 536870912) (hc : k + 1 ≤ R.cells) (hl : n + cap ≤ R.slots)
    (g : ∀ h' b, b = h.size → Ext h h' → AV Z h' b (newarray.typeOf aty) (List.replicate i (defaultValue (newarray.typeOf aty))) → Exa Z h' b ("[" ++ (newarray.typeOf aty).toString) → Go κ Q h' (k + 1) (n + cap) pc' L (.ref b :: st)) : Go κ Q h k n pc L (.int x :: st) := fun T locs X N e => by
  obtain ⟨dd, rfl⟩ := hd
  obtain ⟨q1, q2⟩ := nat_idx hi
  have hcb : componentBytes (newarray.typeOf aty) ≤ 8 := by cases aty <;> decide
  have hbig' : x.toNatClampNeg * componentBytes (newarray.typeOf aty) ≤ 536870912 := Nat.le_trans (Nat.mul_le_mul (q2 ▸ hcap) hcb) hbig
  obtain ⟨cA, kA, comp, f1, f2, f3, X', sp⟩ := X.newarrayPrim B.exec (mvA B.warm wa) (g := mkF κ.m pc L (.int x :: st)) rfl (hb B.byt dd) rfl q1 hbig' (by rw [B.room]; exact hc) (by rw [B.room, q2]; omega)
  subst e
  have f1' : Z.vm.findClass ("[" ++ (newarray.typeOf aty).toString) = some cA := by rw [← B.warm.alike.findClass]; exact f1
  obtain ⟨kZ, z1, -⟩ := Vm.findClass_spec f1'
  obtain ⟨k', z2, z3⟩ := B.warm.alike.2.2 _ _ z1
  cases f2.symm.trans z2
  have f4 : kZ.kind = .array comp (newarray.typeOf aty) := by rw [← f3, z3]
  have hat : (T.heap.push { cls := cA, slots := Array.replicate x.toNatClampNeg (defaultValue (newarray.typeOf aty)), vm := .none : Cell })[T.heap.size]? = some { cls := cA, slots := Array.replicate x.toNatClampNeg (defaultValue (newarray.typeOf aty)), vm := .none } := by simp
  have hE : Ext T.heap (T.heap.push { cls := cA, slots := Array.replicate x.toNatClampNeg (defaultValue (newarray.typeOf aty)), vm := .none : Cell }) := ext_of fun a ha => by rw [Array.getElem?_push_lt ha]; exact (Array.getElem?_eq_getElem _).symm
  obtain ⟨t, o, h1, h2⟩ := g _ _ rfl hE ⟨_, ⟨hat, ⟨by simp, kZ, z1, comp, f4⟩, by simp⟩, by simp [q2], by simp; have := x.toInt_lt; omega⟩
    ⟨_, kZ, hat, f1', z1, rfl, fun q => by rw [f4] at q; cases q⟩ _ locs (X'.more (Nat.le_refl _) (by rw [q2]; omega)) N rfl
  exact ⟨t, o, sp _ h1, h2⟩
theorem go_ldcI (B : OkK km κ l Z a0 n0 R own nm bytes maxL ret) {idx : Nat} (hd : Dc bytes pc (.ldc idx) 2 pc') (wl : (Jvm.Cond.constant own idx x).before a0 Z = true) (g : Go κ Q h k n pc' L (.int x :: st)) : Go κ Q h k n pc L st := by
  obtain ⟨dd, rfl⟩ := hd
  exact go_step (fun T locs X e t q => X.ldcInt B.exec B.hown (mvT B.warm wl) (g := mkF κ.m pc L st) rfl (hb B.byt dd) _ q) g
theorem go_ldcWI (B : OkK km κ l Z a0 n0 R own nm bytes maxL ret) {idx : Nat} (hd : Dc bytes pc (.ldc_w idx) 3 pc') (wl : (Jvm.Cond.constant own idx x).before a0 Z = true) (g : Go κ Q h k n pc' L (.int x :: st)) : Go κ Q h k n pc L st := by
  obtain ⟨dd, rfl⟩ := hd
  exact go_step (fun T locs X e t q => X.ldcwInt B.exec B.hown (mvT B.warm wl) (g := mkF κ.m pc L st) rfl (hb B.byt dd) _ q) g
theorem go_ldc2J (B : OkK km κ l Z a0 n0 R own nm bytes maxL ret) {idx : Nat} (hd : Dc bytes pc (.ldc2_w idx) 3 pc') (wl : (Jvm.Cond.constantLong own idx u).before a0 Z = true) (g : Go κ Q h k n pc' L (.long u :: st)) : Go κ Q h k n pc L st := by
  obtain ⟨dd, rfl⟩ := hd
  exact go_step (fun T locs X e t q => X.ldc2Long B.exec B.hown (mvT B.warm wl) (g := mkF κ.m pc L st) rfl (hb B.byt dd) _ q) g
theorem go_initO (B : OkK km κ l Z a0 n0 R own nm bytes maxL ret) {idx W : Nat} (hd : Dc bytes pc (.invokespecial idx) 3 pc') (w1 : (Jvm.Cond.methodLink own idx Lib.objectInit).before a0 Z = true) (w2 : (Jvm.Cond.instanceMethod Lib.objectInit).before a0 Z = true) (w3 : (Jvm.Cond.code Lib.objectInit ⟨#[0xb1]⟩ 1 none).before a0 Z = true)
    (hs : L.size = maxL) (hW : (st.map fun v => v.category).sum = W) (hf : 1 ≤ R.frames) (hl : W + 12 ≤ R.locals) (g : Go κ Q h k n pc' L st) : Go κ Q h k n pc L (.ref a :: st) := fun T locs X N e => by
  obtain ⟨dd, rfl⟩ := hd
  obtain ⟨T', X', e', sp⟩ := initO X B.exec B.warm B.hown w1 w2 w3 e (g := mkF κ.m pc L (.ref a :: st)) rfl (by rw [B.mxl]; exact hs) rfl (hb B.byt dd) (by rw [B.room]; exact hf) (W := W) (by show 2 * 0 + _ ≤ _; omega) (by rw [B.room]; exact hl)
  obtain ⟨t, o, h1, h2⟩ := g T' locs X' N e'
  exact ⟨t, o, sp _ h1, h2⟩
section Call
variable {y' : MethodName} {idx W : Nat} {bytes' : ByteArray} {maxL' : Nat} {ret' : Option FieldType} {rm : Room} {as' : Array Value} {argsL : List Value} {Q' : Option Value → Heap → Prop} {ps : List FieldType} {rt : Option FieldType}
theorem go_static (B : OkK km κ l Z a0 n0 R own nm bytes maxL ret) (hd : Dc bytes pc (.invokestatic idx) 3 pc') (w1 : (Jvm.Cond.methodLink own idx y').before a0 Z = true) (w2 : (Jvm.Cond.static y').before a0 Z = true) (w3 : (Jvm.Cond.initialized y'.cls).before a0 Z = true) (w4 : (Jvm.Cond.code y' bytes' maxL' ret').before a0 Z = true)
    (hy : y'.cls ≠ "java/lang/invoke/MethodHandle" ∧ y'.cls ≠ "java/lang/invoke/VarHandle") (C : Ct l Z n0 y' bytes' maxL' ret' [] rm argsL.toArray h Q') (pd : parseMethodDescriptor y'.desc = some ⟨ps, rt⟩) (hlen : argsL.length = ps.length) (hst : st' = argsL.reverse ++ st) (hs : L.size = maxL)
    (hW : (st.map fun v => v.category).sum = W) (hf : rm.frames + 1 ≤ R.frames) (hl : W + (maxL' + 11) + rm.locals ≤ R.locals) (hc : k + rm.cells ≤ R.cells) (hn : n + rm.slots ≤ R.slots)
    (g : ∀ v h', Q' v h' → Go κ Q h' (k + rm.cells) (n + rm.slots) pc' L (v.toList ++ st)) : Go κ Q h k n pc L st' := fun T locs X N e => by
  obtain ⟨dd, rfl⟩ := hd
  have C' : Ct κ.l Z n0 y' bytes' maxL' ret' [] rm argsL.toArray h Q' := B.hl.symm ▸ C
  obtain ⟨vv, _, ⟨T', L2, k2, n2⟩, -, X', ⟨Lc, hQ, l2, y2, z2⟩, sp⟩ := Jvm.LawKit.callS X B.exec (y := y') B.hown (mvT B.warm w1) (mvT B.warm w2) (mvT B.warm w3) (mvT B.warm w4) hy
    (backOf (Q := fun v h L => Q' v h ∧ Fr n0 L) (W := W) C' B.warm w4 w3 (by rw [B.room]; exact hf) (by rw [B.room]; exact hl)) (g := mkF κ.m pc L st') rfl (by rw [B.mxl]; exact hs) (argsL := argsL) (rest := st) (lenOf pd hlen) hst (by show 2 * 0 + _ ≤ _; omega) (hb B.byt dd)
    (fun _ _ => ⟨rfl, e, by rw [B.room]; exact hc, by rw [B.room]; exact hn⟩)
  dsimp only [Pt.U, Pt.locs, Pt.cells, Pt.slots] at X' l2 y2 z2 sp hQ
  subst l2 y2 z2
  obtain ⟨t, o, h1, h2⟩ := g vv T'.heap hQ.1 T' _ X' (Fr.app N (B.hn.symm ▸ hQ.2)) rfl
  exact ⟨t, o, sp _ h1, h2⟩
theorem go_special (B : OkK km κ l Z a0 n0 R own nm bytes maxL ret) (hd : Dc bytes pc (.invokespecial idx) 3 pc') (hi : y'.name = "<init>") (w1 : (Jvm.Cond.methodLink own idx y').before a0 Z = true) (w2 : (Jvm.Cond.instanceMethod y').before a0 Z = true) (w3 : (Jvm.Cond.initialized y'.cls).before a0 Z = true) (w4 : (Jvm.Cond.code y' bytes' maxL' none).before a0 Z = true)
    (hy : y'.cls ≠ "java/lang/invoke/MethodHandle" ∧ y'.cls ≠ "java/lang/invoke/VarHandle") (C : Ct l Z n0 y' bytes' maxL' none [] rm (.ref a :: argsL).toArray h Q') (pd : parseMethodDescriptor y'.desc = some ⟨ps, rt⟩) (hlen : argsL.length = ps.length) (hst : st' = argsL.reverse ++ .ref a :: st) (hs : L.size = maxL)
    (hW : (st.map fun v => v.category).sum = W) (hf : rm.frames + 1 ≤ R.frames) (hl : W + (maxL' + 11) + rm.locals ≤ R.locals) (hc : k + rm.cells ≤ R.cells) (hn : n + rm.slots ≤ R.slots)
    (g : ∀ v h', Q' v h' → Go κ Q h' (k + rm.cells) (n + rm.slots) pc' L (v.toList ++ st)) : Go κ Q h k n pc L st' := fun T locs X N e => by
  obtain ⟨dd, rfl⟩ := hd
  have C' : Ct κ.l Z n0 y' bytes' maxL' none [] rm (.ref a :: argsL).toArray h Q' := B.hl.symm ▸ C
  obtain ⟨vv, _, ⟨T', L2, k2, n2⟩, -, X', ⟨Lc, hQ, l2, y2, z2⟩, sp⟩ := X.specialBack B.exec (y := y') hi B.hown (mvT B.warm w1) (mvT B.warm w2) (mvT B.warm w4) hy
    (backOf (Q := fun v h L => Q' v h ∧ Fr n0 L) (W := W) C' B.warm w4 w3 (by rw [B.room]; exact hf) (by rw [B.room]; exact hl)) (g := mkF κ.m pc L st') rfl (by rw [B.mxl]; exact hs) (Steps.refl _) (a := a) (argsL := argsL) (rest := st) (lenOf pd hlen) hst (by show 2 * 0 + _ ≤ _; omega) (hb B.byt dd)
    (fun _ _ => ⟨rfl, e, by rw [B.room]; exact hc, by rw [B.room]; exact hn⟩)
  dsimp only [Pt.U, Pt.locs, Pt.cells, Pt.slots] at X' l2 y2 z2 sp hQ
  subst l2 y2 z2
  obtain ⟨t, o, h1, h2⟩ := g vv T'.heap hQ.1 T' _ X' (Fr.app N (B.hn.symm ▸ hQ.2)) rfl
  exact ⟨t, o, sp.trans h1, h2⟩
theorem go_virtual (B : OkK km κ l Z a0 n0 R own nm bytes maxL ret) {C0 : String} (hd : Dc bytes pc (.invokevirtual idx) 3 pc') (w1 : (Jvm.Cond.methodLink own idx y').before a0 Z = true) (w2 : (Jvm.Cond.declares y').before a0 Z = true) (w5 : (Jvm.Cond.selects C0 y' y').before a0 Z = true) (w6 : (Jvm.Cond.instanceMethod y').before a0 Z = true) (w3 : (Jvm.Cond.initialized y'.cls).before a0 Z = true) (w4 : (Jvm.Cond.code y' bytes' maxL' ret').before a0 Z = true)
    (hy : y'.cls ≠ "java/lang/invoke/MethodHandle" ∧ y'.cls ≠ "java/lang/invoke/VarHandle") (E : Exa Z h a C0) (C : Ct l Z n0 y' bytes' maxL' ret' [] rm (.ref a :: argsL).toArray h Q') (pd : parseMethodDescriptor y'.desc = some ⟨ps, rt⟩) (hlen : argsL.length = ps.length) (hst : st' = argsL.reverse ++ .ref a :: st) (hs : L.size = maxL)
    (hW : (st.map fun v => v.category).sum = W) (hf : rm.frames + 1 ≤ R.frames) (hl : W + (maxL' + 11) + rm.locals ≤ R.locals) (hc : k + rm.cells ≤ R.cells) (hn : n + rm.slots ≤ R.slots)
    (g : ∀ v h', Q' v h' → Go κ Q h' (k + rm.cells) (n + rm.slots) pc' L (v.toList ++ st)) : Go κ Q h k n pc L st' := fun T locs X N e => by
  obtain ⟨dd, rfl⟩ := hd
  have C' : Ct κ.l Z n0 y' bytes' maxL' ret' [] rm (.ref a :: argsL).toArray h Q' := B.hl.symm ▸ C
  obtain ⟨cq, kq, qa, qb, qc⟩ := isOf B.warm e E
  obtain ⟨vv, _, ⟨T', L2, k2, n2⟩, -, X', ⟨Lc, hQ, l2, y2, z2⟩, sp⟩ := X.virtualBack B.exec (y := y') (z := y') B.hown (mvT B.warm w1) (mvT B.warm w2) (notFace_of_selects (args := #[]) (mvT B.warm w5)) (mvT B.warm w5) (mvT B.warm w6) hy
    (backOf (Q := fun v h L => Q' v h ∧ Fr n0 L) (W := W) C' B.warm w4 w3 (by rw [B.room]; exact hf) (by rw [B.room]; exact hl)) qa qc (g := mkF κ.m pc L st') rfl (by rw [B.mxl]; exact hs) (Steps.refl _) (argsL := argsL) (rest := st) (lenOf pd hlen) hst (by show 2 * 0 + _ ≤ _; omega) (hb B.byt dd)
    (fun _ _ => ⟨rfl, e, by rw [B.room]; exact hc, by rw [B.room]; exact hn⟩)
  dsimp only [Pt.U, Pt.locs, Pt.cells, Pt.slots] at X' l2 y2 z2 sp hQ
  subst l2 y2 z2
  obtain ⟨t, o, h1, h2⟩ := g vv T'.heap hQ.1 T' _ X' (Fr.app N (B.hn.symm ▸ hQ.2)) rfl
  exact ⟨t, o, sp.trans h1, h2⟩
end Call
theorem go_end (B : OkK km κ l Z a0 n0 R own nm bytes maxL ret) {vv : Option Value} (hk : k ≤ R.cells) (hn : n ≤ R.slots) (hq : Q vv h) (hv : ret = none → vv = none) (hkm : km ≤ h.size)
    (hs : ∀ (T : State) (locs : List Loc) (fs : List Frame), Stand κ.p κ.l κ.e κ.R κ.s κ.m κ.args κ.below κ.meth κ.c T locs k n → (∀ (f : JFrame) (acts : List Action), f.method = κ.m → f.locked = none → f.entered = [] → (doReturn κ.e (T.setTop f) acts vv).1 = T.setFrames fs) → Steps κ.p.tables κ.e κ.below (T.setTop (mkF κ.m pc L st)) (T.setFrames fs)) : Go κ Q h k n pc L st := fun T locs X N e => by
  obtain ⟨fs, hr, hrun, hended, hW, hsame⟩ := X.leave (v := vv) (fun q => hv (B.rets.symm.trans q)) B.nolock
  exact ⟨_, _, hs T locs fs X hr, hrun, hended, _, _, rfl, ⟨by show Q vv T.heap; rw [e]; exact hq, N⟩, B.hE _ _ _ ⟨⟨_, rfl⟩, hW, hsame.mono (by rw [B.room]; exact hk) (by rw [B.room]; exact hn)⟩ (by show κ.kmin ≤ T.heap.size; rw [e, B.hkm]; exact hkm)⟩
theorem go_ireturn (B : OkK km κ l Z a0 n0 R own nm bytes maxL (some .int)) (hd : Dc bytes pc .ireturn 1 pc') (hk : k ≤ R.cells) (hn : n ≤ R.slots) (hq : Q (some (.int x)) h) (hkm : km ≤ h.size := by first | exact Nat.zero_le _ | assumption) : Go κ Q h k n pc L (.int x :: st) :=
  go_end B hk hn hq (fun q => by cases q) hkm (fun T locs fs X hr => retOut X B.exec (t := .int) (i := .ireturn) B.rets rfl (Or.inl ⟨rfl, Or.inl rfl, x, rfl⟩) (hb B.byt hd.1) hr)
theorem go_zreturn (B : OkK km κ l Z a0 n0 R own nm bytes maxL (some .boolean)) (hd : Dc bytes pc .ireturn 1 pc') (hk : k ≤ R.cells) (hn : n ≤ R.slots) (hz : x &&& 1 = y) (hq : Q (some (.int y)) h) (hkm : km ≤ h.size := by first | exact Nat.zero_le _ | assumption) : Go κ Q h k n pc L (.int x :: st) := by
  subst hz
  exact go_end B hk hn hq (fun q => by cases q) hkm (fun T locs fs X hr => retN X B.exec (t := .boolean) B.rets (by simp) (hb B.byt hd.1) hr)
theorem go_breturn (B : OkK km κ l Z a0 n0 R own nm bytes maxL (some .byte)) (hd : Dc bytes pc .ireturn 1 pc') (hk : k ≤ R.cells) (hn : n ≤ R.slots) (hz : x.toInt8.toInt32 = y) (hq : Q (some (.int y)) h) (hkm : km ≤ h.size := by first | exact Nat.zero_le _ | assumption) : Go κ Q h k n pc L (.int x :: st) := by
  subst hz
  exact go_end B hk hn hq (fun q => by cases q) hkm (fun T locs fs X hr => retN X B.exec (t := .byte) B.rets (by simp) (hb B.byt hd.1) hr)
theorem go_lreturn (B : OkK km κ l Z a0 n0 R own nm bytes maxL (some .long)) (hd : Dc bytes pc .lreturn 1 pc') (hk : k ≤ R.cells) (hn : n ≤ R.slots) (hq : Q (some (.long u)) h) (hkm : km ≤ h.size := by first | exact Nat.zero_le _ | assumption) : Go κ Q h k n pc L (.long u :: st) :=
  go_end B hk hn hq (fun q => by cases q) hkm (fun T locs fs X hr => retOut X B.exec (t := .long) (i := .lreturn) B.rets rfl (Or.inr (Or.inl ⟨rfl, rfl, u, rfl⟩)) (hb B.byt hd.1) hr)
theorem go_areturn {ty : FieldType} (B : OkK km κ l Z a0 n0 R own nm bytes maxL (some ty)) (hd : Dc bytes pc .areturn 1 pc') (hty : ty.isReference = true) (hnr : narrow ty v = v) (hv : v.isRef = true) (hk : k ≤ R.cells) (hn : n ≤ R.slots) (hq : Q (some v) h) (hkm : km ≤ h.size := by first | exact Nat.zero_le _ | assumption) : Go κ Q h k n pc L (v :: st) :=
  go_end B hk hn hq (fun q => by cases q) hkm (fun T locs fs X hr => retOut X B.exec (t := ty) (i := .areturn) B.rets hnr (Or.inr (Or.inr (Or.inr (Or.inr ⟨rfl, hty, hv⟩)))) (hb B.byt hd.1) hr)
theorem go_return (B : OkK km κ l Z a0 n0 R own nm bytes maxL none) (hd : Dc bytes pc .return_ 1 pc') (hk : k ≤ R.cells) (hn : n ≤ R.slots) (hq : Q none h) (hkm : km ≤ h.size := by first | exact Nat.zero_le _ | assumption) : Go κ Q h k n pc L [] :=
  go_end B hk hn hq (fun _ => rfl) hkm (fun T locs fs X hr => X.returnOut B.exec B.rets (hb B.byt hd.1) hr)
end G
end Jvm.OwnGo
namespace Jvm.OwnGo
open Sem ClassFile Op Lib Jvm.Stand Jvm.Free Jvm.LawKit Jvm.RoadKit
theorem i_lt {x y : Int32} {i j : Int} (hx : x.toInt = i) (hy : y.toInt = j) (h : i < j) : x < y := Int32.lt_iff_toInt_lt.mpr (by omega)
theorem i_nlt {x y : Int32} {i j : Int} (hx : x.toInt = i) (hy : y.toInt = j) (h : j ≤ i) : ¬ x < y := fun q => by have := Int32.lt_iff_toInt_lt.mp q; omega
theorem i_of_lt {x y : Int32} {i j : Int} (hx : x.toInt = i) (hy : y.toInt = j) (h : x < y) : i < j := by have := Int32.lt_iff_toInt_lt.mp h; omega
theorem i_of_nlt {x y : Int32} {i j : Int} (hx : x.toInt = i) (hy : y.toInt = j) (h : ¬ x < y) : j ≤ i := by
  have := Int32.le_iff_toInt_le.mp (Int32.not_lt.mp h)
  omega
theorem i_eq {x y : Int32} {i : Int} (hx : x.toInt = i) (hy : y.toInt = i) : x = y := Int32.toInt_inj.mp (hx.trans hy.symm)
theorem i_ne {x y : Int32} {i j : Int} (hx : x.toInt = i) (hy : y.toInt = j) (h : i ≠ j) : ¬ x = y := fun q => h (by rw [← hx, ← hy, q])
theorem i_of_ne {x y : Int32} {i j : Int} (hx : x.toInt = i) (hy : y.toInt = j) (h : ¬ x = y) : i ≠ j := fun q => h (i_eq hx (hy.trans q.symm))
theorem i_add {x y : Int32} {i j : Int} (hx : x.toInt = i) (hy : y.toInt = j) (h1 : -2147483648 ≤ i + j) (h2 : i + j < 2147483648) : (x + y).toInt = i + j := by
  rw [Int32.toInt_add, hx, hy]; exact Int.bmod_eq_of_le (by omega) (by omega)
theorem i_sub {x y : Int32} {i j : Int} (hx : x.toInt = i) (hy : y.toInt = j) (h1 : -2147483648 ≤ i - j) (h2 : i - j < 2147483648) : (x - y).toInt = i - j := by
  rw [Int32.toInt_sub, hx, hy]; exact Int.bmod_eq_of_le (by omega) (by omega)
theorem i_mul {x y : Int32} {i j : Int} (hx : x.toInt = i) (hy : y.toInt = j) (h1 : -2147483648 ≤ i * j) (h2 : i * j < 2147483648) : (x * y).toInt = i * j := by
  rw [Int32.toInt_mul, hx, hy]; exact Int.bmod_eq_of_le (by omega) (by omega)
/-- x & m for a mask m that isn't negative -/
theorem i_and (x m : Int32) (hm : 0 ≤ m.toInt) : 0 ≤ (x &&& m).toInt ∧ (x &&& m).toInt ≤ m.toInt := by
  have h1 : ¬ (x &&& m) < 0 := by
    rw [XT.and_neg32]
    exact fun q => by have := (XT.negI32 _).mp q.2; omega
  have h2 : 0 ≤ (x &&& m).toInt := by
    have := mt (XT.negI32 _).mpr h1
    omega
  refine ⟨h2, ?_⟩
  have e1 : (x &&& m).toInt = ((x &&& m).toBitVec.toNat : Int) := by
    show (x &&& m).toBitVec.toInt = _
    rw [BitVec.toInt_eq_toNat_cond]
    split
    · rfl
    · rename_i q
      have h3 : (x &&& m).toBitVec.toInt = _ := BitVec.toInt_eq_toNat_cond _
      rw [if_neg q] at h3
      have h4 : 0 ≤ (x &&& m).toBitVec.toInt := h2
      have := (x &&& m).toBitVec.isLt
      omega
  have e2 : m.toInt = (m.toBitVec.toNat : Int) := by
    show m.toBitVec.toInt = _
    rw [BitVec.toInt_eq_toNat_cond]
    split
    · rfl
    · rename_i q
      have h3 : m.toBitVec.toInt = _ := BitVec.toInt_eq_toNat_cond _
      rw [if_neg q] at h3
      have h4 : 0 ≤ m.toBitVec.toInt := hm
      have := m.toBitVec.isLt
      omega
  rw [e1, e2, Int32.toBitVec_and, BitVec.toNat_and]
  exact Int.ofNat_le.mpr Nat.and_le_right
theorem i_mod {x y : Int32} {i j : Int} (hx : x.toInt = i) (hy : y.toInt = j) (hi : 0 ≤ i) (hj : 0 < j) : (x % y).toInt = i % j := by
  rw [Int32.toInt_mod, hx, hy, Int.tmod_eq_emod_of_nonneg hi]
theorem i_nat {x : Int32} (h : 0 ≤ x.toInt) : ∃ n : Nat, x.toInt = (n : Int) ∧ n < 2147483648 := ⟨x.toInt.toNat, by omega, by have := x.toInt_lt; omega⟩
theorem i_ofNat {n : Nat} (h : n < 2147483648) : (Int32.ofNat n).toInt = (n : Int) := Int32.toInt_ofNat_of_lt h
end Jvm.OwnGo
namespace Jvm.OwnGo
open Sem ClassFile Op Lib Jvm.Stand Jvm.Free Jvm.LawKit Jvm.RoadKit
section G
variable {km : Nat} {κ : Cx} {l : Launch} {Z : State} {a0 : Array Value} {n0 : Nat} {R : Room} {own nm : String} {bytes : ByteArray} {maxL : Nat} {ret : Option FieldType} {Q : Option Value → Heap → Prop} {h : Heap} {k n pc pc' pc1 pc2 : Nat} {L L' : Array Slot} {st st' : List Value} {o : Int} {x y : Int32} {u w : Int64} {a b : Addr} {v v' : Value}
theorem fitC_of {c : Cell} {ty : FieldType} (A : Arr Z h a c ty) (hv : ∀ v ∈ c.slots.toList, fits ty v = true) : FitC Z c := fun i v q => by
  obtain ⟨-, kk, hk, comp, hkind⟩ := A.2.1
  have m : v ∈ c.slots.toList := by
    obtain ⟨hi, rfl⟩ := Array.getElem?_eq_some_iff.mp q
    exact Array.mem_toList_iff.mpr (Array.getElem_mem hi)
  simp [State.fitsSlot, State.slotType?, hk, hkind, hv v m]
/-- array.clone() -/
theorem go_clone (B : OkK km κ l Z a0 n0 R own nm bytes maxL ret) {ad : String} {idx W cap : Nat} {ty : FieldType} {vs : List Value} (hd : Dc bytes pc (.invokevirtual idx) 3 pc')
    (w1 : (Jvm.Cond.methodLink own idx ⟨ad, "clone", "()Ljava/lang/Object;"⟩).before a0 Z = true) (w2 : (Jvm.Cond.sameMethod ad "java/lang/Object" "clone" "()Ljava/lang/Object;").before a0 Z = true) (w3 : (Jvm.Cond.native ⟨"java/lang/Object", "clone", "()Ljava/lang/Object;"⟩).before a0 Z = true)
    (w4 : (Jvm.Cond.instanceMethod ⟨"java/lang/Object", "clone", "()Ljava/lang/Object;"⟩).before a0 Z = true) (w5 : (Jvm.Cond.selects ad ⟨ad, "clone", "()Ljava/lang/Object;"⟩ ⟨"java/lang/Object", "clone", "()Ljava/lang/Object;"⟩).before a0 Z = true) (w6 : (Jvm.Cond.castable ad "java/lang/Cloneable").before a0 Z = true)
    (A : AV Z h a ty vs) (E : Exa Z h a ad) (hv : ∀ v ∈ vs, fits ty v = true) (hs : L.size = maxL) (hW : (st.map fun v => v.category).sum = W) (hf : 1 ≤ R.frames) (hl : W + 14 ≤ R.locals) (hcap : vs.length ≤ cap) (hc : k + 1 ≤ R.cells) (hsl : n + cap ≤ R.slots)
    (g : ∀ h' b, b = h.size → Ext h h' → AV Z h' b ty vs → Exa Z h' b ad → Go κ Q h' (k + 1) (n + cap) pc' L (.ref b :: st)) : Go κ Q h k n pc L (.ref a :: st) := fun T locs X N e => by
  obtain ⟨dd, rfl⟩ := hd
  obtain ⟨c, A, r, s⟩ := A
  obtain ⟨T', h', X', e', E', A', C', sp⟩ := cloneA X B.exec B.warm B.hown w1 w2 w3 w4 w5 w6 e A E (fitC_of A (by rw [r]; simpa using hv)) (g := mkF κ.m pc L (.ref a :: st)) rfl (by rw [B.mxl]; exact hs) rfl (hb B.byt dd) (by rw [B.room]; exact hf) (W := W) (cap := cap) (by show 2 * 0 + _ ≤ _; omega) (by rw [B.room]; exact hl) (by rw [r]; simpa using hcap) (by rw [B.room]; exact hc) (by rw [B.room]; exact hsl)
  obtain ⟨t, o, h1, h2⟩ := g h' _ rfl E' ⟨_, A', r, s⟩ C' T' locs X' N e'
  exact ⟨t, o, sp _ h1, h2⟩
theorem go_checkcast (B : OkK km κ l Z a0 n0 R own nm bytes maxL ret) {K : String} {idx : Nat} (hd : Dc bytes pc (.checkcast idx) 3 pc') (wl : (Jvm.Cond.classLink own idx K).before a0 Z = true) (F : Ins Z h a K true) (g : Go κ Q h k n pc' L (.ref a :: st)) : Go κ Q h k n pc L (.ref a :: st) := fun T locs X N e => by
  obtain ⟨dd, rfl⟩ := hd
  obtain ⟨T', X', e', sp⟩ := castY X B.exec B.warm B.hown wl e F (g := mkF κ.m pc L (.ref a :: st)) rfl rfl (hb B.byt dd)
  obtain ⟨t, o, h1, h2⟩ := g T' locs X' N e'
  exact ⟨t, o, sp _ h1, h2⟩
theorem AV.arv {ty : FieldType} {vs : List Value} {d : Value} (A : AV Z h a ty vs) (hv : ∀ v ∈ vs, fits ty v = true) : ∃ kk, Arv Z h a kk ty (Int32.ofNat vs.length) vs d := by
  obtain ⟨c, A, r, s⟩ := A
  have e1 : (Int32.ofNat vs.length).toInt = (vs.length : Int) := Int32.toInt_ofNat_of_lt s
  obtain ⟨q1, q2⟩ := nat_idx e1
  refine ⟨_, c, A, rfl, by rw [r, q2]; simp, q1, fun i hi => ?_, fun i hi => ?_⟩
  · rw [r] at hi ⊢
    have hi' : i < vs.length := by simpa using hi
    simp [List.getD, hi']
  · rw [r] at hi
    have hi' : i < vs.length := by simpa using hi
    have e : vs.getD i d = vs[i] := by simp [List.getD, hi']
    rw [e]
    exact hv _ (List.getElem_mem hi')
theorem AV.of_arv {ty : FieldType} {vs : List Value} {d : Value} {kk : ClassId} {z : Int32} (F : Arv Z h a kk ty z vs d) (e : vs.length = z.toNatClampNeg) : AV Z h a ty vs := by
  obtain ⟨c, A, -, S, N, H, -⟩ := F
  refine ⟨c, A, ?_, by rw [e]; exact (back32 N).2⟩
  apply Array.ext_getElem?
  intro i
  rcases Nat.lt_or_ge i vs.length with q | q
  · rw [H i (by omega)]; simp [List.getD, q]
  · rw [Array.getElem?_eq_none (by omega)]; simp [q]
/-- System.arraycopy between two arrays of one primitive kind: from place sp on, dc places, to place dp on -/
theorem go_arraycopy (B : OkK km κ l Z a0 n0 R own nm bytes maxL ret) {idx W si di ni : Nat} {ty : FieldType} {vs ws : List Value} {sp dp cn : Int32} (hd : Dc bytes pc (.invokestatic idx) 3 pc')
    (w1 : (Jvm.Cond.methodLink own idx Jvm.Stand.acN).before a0 Z = true) (w2 : (Jvm.Cond.native Jvm.Stand.acN).before a0 Z = true) (w3 : (Jvm.Cond.static Jvm.Stand.acN).before a0 Z = true) (w4 : (Jvm.Cond.initialized "java/lang/System").before a0 Z = true)
    (A : AV Z h a ty vs) (A2 : AV Z h b ty ws) (hp : refKind ty = false) (hv : ∀ v ∈ vs, fits ty v = true) (hw : ∀ v ∈ ws, fits ty v = true) (hsp : sp.toInt = (si : Int)) (hdp : dp.toInt = (di : Int)) (hcn : cn.toInt = (ni : Int)) (h4 : si + ni ≤ vs.length) (h5 : di + ni ≤ ws.length) (ge : n0 ≤ b)
    (hs : L.size = maxL) (hW : (st.map fun v => v.category).sum = W) (hf : 1 ≤ R.frames) (hl : W + 18 ≤ R.locals)
    (g : ∀ h', Keep h h' [b] → AV Z h' b ty (ws.take di ++ (vs.drop si).take ni ++ ws.drop (di + ni)) → Go κ Q h' k n pc' L st) : Go κ Q h k n pc L (.int cn :: .int dp :: .ref b :: .int sp :: .ref a :: st) := fun T locs X N e => by
  obtain ⟨dd, rfl⟩ := hd
  obtain ⟨k1, F1⟩ := A.arv (d := .null) hv
  obtain ⟨k2, F2⟩ := A2.arv (d := .null) hw
  obtain ⟨p1, p2⟩ := nat_idx hsp
  obtain ⟨d1, d2⟩ := nat_idx hdp
  obtain ⟨m1, m2⟩ := nat_idx hcn
  have eA : (Int32.ofNat vs.length).toNatClampNeg = vs.length := (nat_idx (Int32.toInt_ofNat_of_lt A.len)).2
  have eB : (Int32.ofNat ws.length).toNatClampNeg = ws.length := (nat_idx (Int32.toInt_ofNat_of_lt A2.len)).2
  have hus : (vs.drop si).take ni = (List.range cn.toNatClampNeg).map fun i => vs.getD (sp.toNatClampNeg + i) .null := by
    rw [m2, p2]
    apply List.ext_getElem?
    intro i
    rcases Nat.lt_or_ge i ni with q | q
    · rw [List.getElem?_take_of_lt q, List.getElem?_drop]
      simp only [List.getElem?_map, List.getElem?_range q, Option.map_some, List.getD]
      rw [List.getElem?_eq_getElem (by omega)]; rfl
    · rw [List.getElem?_eq_none (by simp; omega), List.getElem?_eq_none (by simp; omega)]
  obtain ⟨T', h', L2, X', e', N', K, F3, sp'⟩ := cpA X B.exec B.warm B.hown w1 w2 w3 w4 e F1 F2 (Or.inl ⟨rfl, hp⟩) p1 d1 m1 (by rw [p2, m2, eA]; exact h4) (by rw [d2, m2, eB]; exact h5) hus (by rw [d2, m2]; exact h5) N (B.hn ▸ ge) (g := mkF κ.m pc L (.int cn :: .int dp :: .ref b :: .int sp :: .ref a :: st)) rfl (by rw [B.mxl]; exact hs) rfl (hb B.byt dd) (by rw [B.room]; exact hf) (W := W) (by show 2 * 0 + _ ≤ _; omega) (by rw [B.room]; exact hl)
  rw [d2, m2] at F3
  have F4 := AV.of_arv F3 (by rw [eB]; simp; omega)
  obtain ⟨t, o, h1, h2⟩ := g h' K F4 T' _ X' N' e'
  exact ⟨t, o, sp' _ h1, h2⟩
end G
end Jvm.OwnGo
namespace Jvm.OwnGo
open Sem ClassFile Op Lib Jvm.Stand Jvm.Free Jvm.LawKit Jvm.RoadKit
theorem go_instanceof {km : Nat} {κ : Cx} {l : Launch} {Z : State} {a0 : Array Value} {n0 : Nat} {R : Room} {own nm : String} {bytes : ByteArray} {maxL : Nat} {ret : Option FieldType} {Q : Option Value → Heap → Prop} {h : Heap} {k n pc pc' : Nat} {L : Array Slot} {st : List Value} {a : Addr} (B : OkK km κ l Z a0 n0 R own nm bytes maxL ret) {K : String} {idx : Nat} (hd : Dc bytes pc (.instanceof idx) 3 pc') (wl : (Jvm.Cond.classLink own idx K).before a0 Z = true) (F : Ins Z h a K true) (g : Go κ Q h k n pc' L (.int 1 :: st)) : Go κ Q h k n pc L (.ref a :: st) := fun T locs X N e => by
  obtain ⟨dd, rfl⟩ := hd
  obtain ⟨T', X', e', sp⟩ := instY X B.exec B.warm B.hown wl e F (g := mkF κ.m pc L (.ref a :: st)) rfl rfl (hb B.byt dd)
  obtain ⟨t, o, h1, h2⟩ := g T' locs X' N e'
  exact ⟨t, o, sp _ h1, h2⟩
end Jvm.OwnGo
namespace Jvm.OwnGo
open Sem ClassFile Op Lib Jvm.Stand Jvm.Free Jvm.LawKit Jvm.RoadKit
/-- a cell that is no class's statics -/
def Nst (h : Heap) (x : Addr) : Prop := ∃ c : Cell, h[x]? = some c ∧ c.vm.isStatics = false
theorem nst_exa {Z : State} {h : Heap} {a : Addr} {C : String} (E : Exa Z h a C) : Nst h a := by obtain ⟨c, k, h1, -, -, h4, -⟩ := E; exact ⟨c, h1, h4⟩
theorem sta_keep {Z : State} {h h' : Heap} {C n d : String} {v : Value} {ws : List Addr} (F : Sta Z h C n d v) (K : Keep h h' ws) (q : ∀ x ∈ ws, Nst h x) : Sta Z h' C n d v := by
  obtain ⟨cf, i, k, f, st, cell, h1, h2, h3, h4, h5, h6, h7⟩ := F
  refine ⟨cf, i, k, f, st, cell, h1, h2, h3, h4, K.2.1 st cell h5 fun m => ?_, h6, h7⟩
  obtain ⟨c, e1, e2⟩ := q st m
  cases h5.symm.trans e1
  rw [h6] at e2
  cases e2
end Jvm.OwnGo
namespace Jvm.OwnGo
open Sem ClassFile Op Lib Jvm.Stand Jvm.Free Jvm.LawKit Jvm.RoadKit
/-- a field of a static's object, as the case says it -/
theorem int_fld {s : State} {args : Array Value} {a : Addr} {C n d : String} {t : Term} {z : Int32} (ev : t.eval args s none [] s = some (.ref a)) (h : (Jvm.Cond.eq (Term.field t C n d) (Term.int z)).value args s none s [] = some true) : Fld s s.heap a C n d (.int z) := by
  obtain ⟨x, y, hx, hy, k1, k2⟩ := cmp_v (Or.inl h)
  obtain rfl := Option.some.inj (hy.symm.trans (Term.int_eval z))
  obtain ⟨w, rfl⟩ := k2
  have e := gotT (Cond.eq_ints hx hy) h
  subst e
  exact Fld.start ((fld_at ev).symm.trans hx)
end Jvm.OwnGo
namespace Jvm.OwnGo
open Sem ClassFile Op Lib Jvm.Stand Jvm.Free Jvm.LawKit Jvm.RoadKit
theorem size_of {s : State} {args : Array Value} {a : Addr} {t : Term} {ty : FieldType} {c : Cell} {n : Nat} (hn : n < 2147483648) (ev : t.eval args s none [] s = some (.ref a)) (A : Arr s s.heap a c ty) (h2 : (Jvm.Cond.eq (Term.length t) (Term.int (Int32.ofNat n))).value args s none s [] = some true) : c.slots.size = n := by
  obtain ⟨x, y, hx, hy, k1, k2⟩ := cmp_v (Or.inl h2)
  obtain rfl := Option.some.inj (hy.symm.trans (Term.int_eval _))
  obtain ⟨w, rfl⟩ := k2
  have e := gotT (Cond.eq_ints hx hy) h2
  have hA := Arr.fin (Vm.Alike.refl _) A
  simp only [Term.eval, ev, Option.bind_eq_bind, Option.bind_some, hA] at hx
  split at hx
  · rename_i q
    have e2 : c.slots.size.toInt32 = w := by simpa using hx
    have e3 := congrArg Int32.toInt (e2.trans e)
    rw [len_toInt q, Int32.toInt_ofNat_of_lt (by omega)] at e3
    omega
  · cases hx
/-- an array of ints (bytes, chars ..), as the case says it -/
theorem av_ints {s : State} {args : Array Value} {a : Addr} {t : Term} {ty : FieldType} {xs : List Int32} (ev : t.eval args s none [] s = some (.ref a)) (h1 : (Jvm.Cond.arrayOf t ty).value args s none s [] = some true) (h2 : (Jvm.Cond.eq (Term.length t) (Term.int (Int32.ofNat xs.length))).value args s none s [] = some true)
    (h3 : ∀ (i : Nat) (hi : i < xs.length), (Jvm.Cond.eq (Term.elem t (Term.int (Int32.ofNat i))) (Term.int xs[i])).value args s none s [] = some true) (hn : xs.length < 2147483648 := by simp) : AV s s.heap a ty (xs.map Value.int) := by
  obtain ⟨c, A⟩ := Arr.start ev h1
  have hs := size_of hn ev A h2
  refine ⟨c, A, ?_, by simpa using hn⟩
  apply Array.ext_getElem?
  intro i
  rcases Nat.lt_or_ge i xs.length with q | q
  · have h := h3 i q
    obtain ⟨x, y, hx, hy, k1, k2⟩ := cmp_v (Or.inl h)
    obtain rfl := Option.some.inj (hy.symm.trans (Term.int_eval _))
    obtain ⟨w, rfl⟩ := k2
    have e := gotT (Cond.eq_ints hx hy) h
    subst e
    have r := (elem_in hx ev (Term.int_eval _) A.1).2
    rw [(nat_idx (Int32.toInt_ofNat_of_lt (by omega : i < 2 ^ 31))).2] at r
    rw [r]; simp [q]
  · rw [Array.getElem?_eq_none (by omega)]; simp [q]
/-- an array of references, as the case says it -/
theorem av_refs {s : State} {args : Array Value} {a : Addr} {t : Term} {ty : FieldType} {bs : List Addr} (ev : t.eval args s none [] s = some (.ref a)) (h1 : (Jvm.Cond.arrayOf t ty).value args s none s [] = some true) (h2 : (Jvm.Cond.eq (Term.length t) (Term.int (Int32.ofNat bs.length))).value args s none s [] = some true)
    (h3 : ∀ (i : Nat) (hi : i < bs.length), ∃ u : Term, u.eval args s none [] s = some (.ref bs[i]) ∧ (Jvm.Cond.eq (Term.elem t (Term.int (Int32.ofNat i))) u).value args s none s [] = some true) (hn : bs.length < 2147483648 := by simp) : AV s s.heap a ty (bs.map Value.ref) := by
  obtain ⟨c, A⟩ := Arr.start ev h1
  have hs := size_of hn ev A h2
  refine ⟨c, A, ?_, by simpa using hn⟩
  apply Array.ext_getElem?
  intro i
  rcases Nat.lt_or_ge i bs.length with q | q
  · obtain ⟨u, eu, h⟩ := h3 i q
    obtain ⟨x, y, hx, hy, k1, k2⟩ := cmp_v (Or.inl h)
    obtain rfl := Option.some.inj (hy.symm.trans eu)
    have e := gotT (eq_R hx hy k2.2 k2.1) h
    subst e
    have r := (elem_in hx ev (Term.int_eval _) A.1).2
    rw [(nat_idx (Int32.toInt_ofNat_of_lt (by omega : i < 2 ^ 31))).2] at r
    rw [r]; simp [q]
  · rw [Array.getElem?_eq_none (by omega)]; simp [q]
end Jvm.OwnGo
namespace Jvm.OwnGo
open Sem ClassFile Op Lib Jvm.Stand Jvm.Free Jvm.LawKit Jvm.RoadKit
section W
variable {km : Nat} {κ : Cx} {l : Launch} {Z : State} {a0 : Array Value} {n0 : Nat} {R : Room} {own nm : String} {bytes : ByteArray} {maxL : Nat} {ret : Option FieldType} {Q : Option Value → Heap → Prop} {h : Heap} {k n pc pc' pc1 pc2 : Nat} {L L' : Array Slot} {st st' : List Value} {o : Int} {x y : Int32} {u w : Int64} {a : Addr} {v v' : Value}
/-- a walk that may have interned: the start with other tables, what was interned since, the wide end -/
def WK (κ : Cx) : Prop := κ.s = κ.s0.setVm κ.s.vm ∧ κ.s0.Since κ.s.vm κ.kmin ∧ κ.E = fun o t L => ReturnedEndW κ.s0 o t L κ.R.cells κ.R.slots
/-- the context over other tables -/
abbrev Cx.re (κ : Cx) (vm : Vm) (k1 : Nat) : Cx := (κ.p, κ.l, κ.e, κ.R, κ.s0.setVm vm, κ.m, κ.args, κ.below, κ.meth, κ.c, κ.Z, κ.a0, κ.n0, κ.E, k1, κ.s0)
theorem WK.re (W : WK κ) {vm : Vm} {k1 : Nat} (hS : κ.s0.Since vm k1) : WK (κ.re vm k1) := ⟨rfl, hS, W.2.2⟩
theorem WK.base (W : WK κ) (vm : Vm) : κ.s.setVm vm = κ.s0.setVm vm := by rw [W.1]; rfl
theorem OkK.re (B : OkK km κ l Z a0 n0 R own nm bytes maxL ret) (W : WK κ) {vm : Vm} {k1 : Nat} (hS : κ.s0.Since vm k1) (hZ : Z.Warmed39 vm) (ho : vm.findClass own = some κ.m.cls) : OkK k1 (κ.re vm k1) l Z a0 n0 R own nm bytes maxL ret := by
  obtain ⟨b1, b2, b3, b4, b5, b6, b7, b8, b9, b10, b11, b12, b13, b14, b15⟩ := B
  refine ⟨b1, b2, b3, ?_, ho, b6, b7, b8, b9, b10, b11, b12, b13, rfl, ?_⟩
  · show κ.Z.Warmed39 vm
    rw [b10]; exact hZ
  · intro o t L hF hk
    show κ.E o t L
    rw [W.2.2]
    obtain ⟨⟨v, rfl⟩, hW, hs⟩ := hF
    obtain ⟨p, q, r⟩ := hS.ended (U := t) hW hk hs
    exact ⟨⟨v, rfl⟩, p, q, r⟩
/-- a body's contract, wide -/
def CtW (l : Launch) (Z : State) (n0 : Nat) (y : MethodName) (bytes : ByteArray) (maxL : Nat) (ret : Option FieldType) (ws : List Jvm.Cond) (rm : Room) (as' : Array Value) (h0 : Heap) (Q : Option Value → Heap → Prop) : Prop :=
  MetFree l y (head1 (Jvm.Cond.code y bytes maxL ret :: ws) rm) (fun a U => a = as' ∧ Z.Warmed39 U.vm ∧ U.heap = h0) (fun _ _ _ _ _ => True) (fun _ U o U' => ∃ v L, o = .returned v ∧ (Q v U'.heap ∧ Fr n0 L) ∧ ReturnedEndW U o U' L rm.cells rm.slots)
theorem CtW.of {y : MethodName} {ws : List Jvm.Cond} {rm : Room} {as' : Array Value} {h0 : Heap} {L0 : Array Slot}
    (hp : plainFor y = true) (hf : ∀ m : MethodId, entryFrame m as' maxL = mkF m 0 L0 [])
    (body : ∀ κ : Cx, WK κ → Ok κ l Z a0 n0 rm y.cls y.name bytes maxL ret → Go κ Q h0 0 0 0 L0 []) : CtW l Z n0 y bytes maxL ret ws rm as' h0 Q := by
  refine MetFree.of_bodySF hp hisR ?_
  intro p e s m args below meth c s₁ Bd hml0 hP hK
  obtain ⟨rfl, hZ, hh⟩ := hP
  have hown : s.vm.findClass y.cls = some m.cls := findClass_of_methodNamed Bd.named
  have hnm := (name_of_methodNamed Bd.named Bd.method).1
  have X0 : Stand p l e rm s m args below meth c s₁ [] 0 0 := Stand.of_body Bd
  have e0 : s₁.heap = h0 := by rw [← hh, Bd.state]; rfl
  have q := body (p, l, e, rm, s, m, args, below, meth, c, Z, a0, n0, fun o t L => ReturnedEndW s o t L rm.cells rm.slots, 0, s) ⟨rfl, (State.WarmedH.refl s).since 0, rfl⟩ ⟨Bd.exec, Bd.bytes, hml0, hZ, hown, Bd.returns, Bd.notSynchronized, hnm, rfl, rfl, rfl, rfl, rfl, rfl, fun _ _ _ q _ => ReturnedEndW.of_narrow q.1 q.2.1 q.2.2⟩ s₁ [] X0 (Fr.nil n0) e0
  obtain ⟨t, o, h1, h2, h3, h4⟩ := q
  exact ⟨t, o, castTop (hf m) h1, h2, h3, h4⟩
/-- ldc of a string constant -/
theorem go_ldcS (B : OkK km κ l Z a0 n0 R own nm bytes maxL ret) (W : WK κ) {idx nn : Nat} {text : String} (hd : Dc bytes pc (.ldc idx) 2 pc') (wl : (Jvm.Cond.stringLink own idx text).before a0 Z = true) (wS : ∀ a ∈ Bundle.stringAtoms, a.before a0 Z = true) (hkm : km ≤ h.size)
    (hn : 4 * text.toList.length ≤ nn) (hbig : nn ≤ 536870912) (hc : k + 2 ≤ R.cells) (hl : n + (nn + 4) ≤ R.slots)
    (g : ∀ κ' km' h' b, WK κ' → OkK km' κ' l Z a0 n0 R own nm bytes maxL ret → km' ≤ h'.size → Ext h h' → Go κ' Q h' (k + 2) (n + (nn + 4)) pc' L (.ref b :: st)) : Go κ Q h k n pc L st := fun T locs X N e => by
  obtain ⟨dd, rfl⟩ := hd
  have X1 : Stand κ.p κ.l κ.e κ.R (κ.s0.setVm κ.s.vm) κ.m κ.args κ.below κ.meth κ.c T locs k n := by rw [← W.1]; exact X
  obtain ⟨b, T', h', k1, X', e', E, hS, hk1, hZ, ho, sp⟩ := ldcS X1 B.exec B.warm B.hown wl wS e W.2.1 (by rw [B.hkm]; exact hkm) (g := mkF κ.m pc L st) rfl (hb B.byt dd) hn hbig (by rw [B.room]; exact hc) (by rw [B.room]; exact hl)
  obtain ⟨t, o, h1, h2⟩ := g (κ.re T'.vm k1) k1 h' b (W.re hS) (B.re W hS hZ ho) hk1 E T' locs X' N e'
  exact ⟨t, o, sp _ h1, h2⟩
section Call
variable {y' : MethodName} {idx W' : Nat} {bytes' : ByteArray} {maxL' : Nat} {ret' : Option FieldType} {rm : Room} {as' : Array Value} {argsL : List Value} {Q' : Option Value → Heap → Prop} {ps : List FieldType} {rt : Option FieldType}
/-- behind a wide callee -/
theorem back_wide (B : OkK km κ l Z a0 n0 R own nm bytes maxL ret) (W : WK κ) (hkm : km ≤ h.size) {T' : State} (hS : κ.s.Since T'.vm T'.heap.size) (hg : h.size ≤ T'.heap.size) :
    WK (κ.re T'.vm T'.heap.size) ∧ OkK T'.heap.size (κ.re T'.vm T'.heap.size) l Z a0 n0 R own nm bytes maxL ret := by
  have hS0 : (κ.s0.setVm κ.s.vm).Since T'.vm T'.heap.size := by rw [← W.1]; exact hS
  have hS1 := W.2.1.trans hS0 (by rw [B.hkm]; omega)
  exact ⟨W.re hS1, B.re W hS1 (State.Warmed39.trans B.warm hS.1) ((hS.1.alike.findClass _ _).trans B.hown)⟩
theorem go_staticW (B : OkK km κ l Z a0 n0 R own nm bytes maxL ret) (Wk : WK κ) (hkm : km ≤ h.size) (hd : Dc bytes pc (.invokestatic idx) 3 pc') (w1 : (Jvm.Cond.methodLink own idx y').before a0 Z = true) (w2 : (Jvm.Cond.static y').before a0 Z = true) (w3 : (Jvm.Cond.initialized y'.cls).before a0 Z = true) (w4 : (Jvm.Cond.code y' bytes' maxL' ret').before a0 Z = true)
    (hy : y'.cls ≠ "java/lang/invoke/MethodHandle" ∧ y'.cls ≠ "java/lang/invoke/VarHandle") (C : CtW l Z n0 y' bytes' maxL' ret' [] rm argsL.toArray h Q') (pd : parseMethodDescriptor y'.desc = some ⟨ps, rt⟩) (hlen : argsL.length = ps.length) (hst : st' = argsL.reverse ++ st) (hs : L.size = maxL)
    (hW : (st.map fun v => v.category).sum = W') (hf : rm.frames + 1 ≤ R.frames) (hl : W' + (maxL' + 11) + rm.locals ≤ R.locals) (hc : k + rm.cells ≤ R.cells) (hn : n + rm.slots ≤ R.slots)
    (g : ∀ κ' km' v h', WK κ' → OkK km' κ' l Z a0 n0 R own nm bytes maxL ret → km' ≤ h'.size → Q' v h' → Go κ' Q h' (k + rm.cells) (n + rm.slots) pc' L (v.toList ++ st)) : Go κ Q h k n pc L st' := fun T locs X N e => by
  obtain ⟨dd, rfl⟩ := hd
  have C' : CtW κ.l Z n0 y' bytes' maxL' ret' [] rm argsL.toArray h Q' := B.hl.symm ▸ C
  obtain ⟨vv, _, ⟨T', L2, k2, n2⟩, -, X', hS, hg, ⟨Lc, hQ, l2, y2, z2⟩, sp⟩ := callSS X B.exec (y := y') B.hown (mvT B.warm w1) (mvT B.warm w2) (mvT B.warm w3) (mvT B.warm w4) hy
    (backOfS (Q := fun v h L => Q' v h ∧ Fr n0 L) (W := W') C' B.warm w4 w3 (by rw [B.room]; exact hf) (by rw [B.room]; exact hl)) (g := mkF κ.m pc L st') rfl (by rw [B.mxl]; exact hs) (argsL := argsL) (rest := st) (lenOf pd hlen) hst (by show 2 * 0 + _ ≤ _; omega) (hb B.byt dd)
    (fun _ _ => ⟨rfl, e, by rw [B.room]; exact hc, by rw [B.room]; exact hn⟩)
  dsimp only [Pt.U, Pt.locs, Pt.cells, Pt.slots] at X' hS hg l2 y2 z2 sp hQ
  subst l2 y2 z2
  rw [Wk.base] at X'
  obtain ⟨q1, q2⟩ := back_wide B Wk hkm hS (by rw [← e]; exact hg)
  obtain ⟨t, o, h1, h2⟩ := g _ _ vv T'.heap q1 q2 (Nat.le_refl _) hQ.1 T' _ X' (Fr.app N (B.hn.symm ▸ hQ.2)) rfl
  exact ⟨t, o, sp.trans h1, h2⟩
theorem go_specialW (B : OkK km κ l Z a0 n0 R own nm bytes maxL ret) (Wk : WK κ) (hkm : km ≤ h.size) (hd : Dc bytes pc (.invokespecial idx) 3 pc') (hi : y'.name = "<init>") (w1 : (Jvm.Cond.methodLink own idx y').before a0 Z = true) (w2 : (Jvm.Cond.instanceMethod y').before a0 Z = true) (w3 : (Jvm.Cond.initialized y'.cls).before a0 Z = true) (w4 : (Jvm.Cond.code y' bytes' maxL' none).before a0 Z = true)
    (hy : y'.cls ≠ "java/lang/invoke/MethodHandle" ∧ y'.cls ≠ "java/lang/invoke/VarHandle") (C : CtW l Z n0 y' bytes' maxL' none [] rm (.ref a :: argsL).toArray h Q') (pd : parseMethodDescriptor y'.desc = some ⟨ps, rt⟩) (hlen : argsL.length = ps.length) (hst : st' = argsL.reverse ++ .ref a :: st) (hs : L.size = maxL)
    (hW : (st.map fun v => v.category).sum = W') (hf : rm.frames + 1 ≤ R.frames) (hl : W' + (maxL' + 11) + rm.locals ≤ R.locals) (hc : k + rm.cells ≤ R.cells) (hn : n + rm.slots ≤ R.slots)
    (g : ∀ κ' km' v h', WK κ' → OkK km' κ' l Z a0 n0 R own nm bytes maxL ret → km' ≤ h'.size → Q' v h' → Go κ' Q h' (k + rm.cells) (n + rm.slots) pc' L (v.toList ++ st)) : Go κ Q h k n pc L st' := fun T locs X N e => by
  obtain ⟨dd, rfl⟩ := hd
  have C' : CtW κ.l Z n0 y' bytes' maxL' none [] rm (.ref a :: argsL).toArray h Q' := B.hl.symm ▸ C
  obtain ⟨vv, _, ⟨T', L2, k2, n2⟩, -, X', hS, hg, ⟨Lc, hQ, l2, y2, z2⟩, sp⟩ := X.specialBackS B.exec (y := y') hi B.hown (mvT B.warm w1) (mvT B.warm w2) (mvT B.warm w4) hy
    (backOfS (Q := fun v h L => Q' v h ∧ Fr n0 L) (W := W') C' B.warm w4 w3 (by rw [B.room]; exact hf) (by rw [B.room]; exact hl)) (g := mkF κ.m pc L st') rfl (by rw [B.mxl]; exact hs) (Steps.refl _) (a := a) (argsL := argsL) (rest := st) (lenOf pd hlen) hst (by show 2 * 0 + _ ≤ _; omega) (hb B.byt dd)
    (fun _ _ => ⟨rfl, e, by rw [B.room]; exact hc, by rw [B.room]; exact hn⟩)
  dsimp only [Pt.U, Pt.locs, Pt.cells, Pt.slots] at X' hS hg l2 y2 z2 sp hQ
  subst l2 y2 z2
  rw [Wk.base] at X'
  obtain ⟨q1, q2⟩ := back_wide B Wk hkm hS (by rw [← e]; exact hg)
  obtain ⟨t, o, h1, h2⟩ := g _ _ vv T'.heap q1 q2 (Nat.le_refl _) hQ.1 T' _ X' (Fr.app N (B.hn.symm ▸ hQ.2)) rfl
  exact ⟨t, o, sp.trans h1, h2⟩
theorem go_virtualW (B : OkK km κ l Z a0 n0 R own nm bytes maxL ret) (Wk : WK κ) (hkm : km ≤ h.size) {C0 : String} (hd : Dc bytes pc (.invokevirtual idx) 3 pc') (w1 : (Jvm.Cond.methodLink own idx y').before a0 Z = true) (w2 : (Jvm.Cond.declares y').before a0 Z = true) (w5 : (Jvm.Cond.selects C0 y' y').before a0 Z = true) (w6 : (Jvm.Cond.instanceMethod y').before a0 Z = true) (w3 : (Jvm.Cond.initialized y'.cls).before a0 Z = true) (w4 : (Jvm.Cond.code y' bytes' maxL' ret').before a0 Z = true)
    (hy : y'.cls ≠ "java/lang/invoke/MethodHandle" ∧ y'.cls ≠ "java/lang/invoke/VarHandle") (E : Exa Z h a C0) (C : CtW l Z n0 y' bytes' maxL' ret' [] rm (.ref a :: argsL).toArray h Q') (pd : parseMethodDescriptor y'.desc = some ⟨ps, rt⟩) (hlen : argsL.length = ps.length) (hst : st' = argsL.reverse ++ .ref a :: st) (hs : L.size = maxL)
    (hW : (st.map fun v => v.category).sum = W') (hf : rm.frames + 1 ≤ R.frames) (hl : W' + (maxL' + 11) + rm.locals ≤ R.locals) (hc : k + rm.cells ≤ R.cells) (hn : n + rm.slots ≤ R.slots)
    (g : ∀ κ' km' v h', WK κ' → OkK km' κ' l Z a0 n0 R own nm bytes maxL ret → km' ≤ h'.size → Q' v h' → Go κ' Q h' (k + rm.cells) (n + rm.slots) pc' L (v.toList ++ st)) : Go κ Q h k n pc L st' := fun T locs X N e => by
  obtain ⟨dd, rfl⟩ := hd
  have C' : CtW κ.l Z n0 y' bytes' maxL' ret' [] rm (.ref a :: argsL).toArray h Q' := B.hl.symm ▸ C
  obtain ⟨cq, kq, qa, qb, qc⟩ := isOf B.warm e E
  obtain ⟨vv, _, ⟨T', L2, k2, n2⟩, -, X', hS, hg, ⟨Lc, hQ, l2, y2, z2⟩, sp⟩ := X.virtualBackS B.exec (y := y') (z := y') B.hown (mvT B.warm w1) (mvT B.warm w2) (notFace_of_selects (args := #[]) (mvT B.warm w5)) (mvT B.warm w5) (mvT B.warm w6) hy
    (backOfS (Q := fun v h L => Q' v h ∧ Fr n0 L) (W := W') C' B.warm w4 w3 (by rw [B.room]; exact hf) (by rw [B.room]; exact hl)) qa qc (g := mkF κ.m pc L st') rfl (by rw [B.mxl]; exact hs) (Steps.refl _) (argsL := argsL) (rest := st) (lenOf pd hlen) hst (by show 2 * 0 + _ ≤ _; omega) (hb B.byt dd)
    (fun _ _ => ⟨rfl, e, by rw [B.room]; exact hc, by rw [B.room]; exact hn⟩)
  dsimp only [Pt.U, Pt.locs, Pt.cells, Pt.slots] at X' hS hg l2 y2 z2 sp hQ
  subst l2 y2 z2
  rw [Wk.base] at X'
  obtain ⟨q1, q2⟩ := back_wide B Wk hkm hS (by rw [← e]; exact hg)
  obtain ⟨t, o, h1, h2⟩ := g _ _ vv T'.heap q1 q2 (Nat.le_refl _) hQ.1 T' _ X' (Fr.app N (B.hn.symm ▸ hQ.2)) rfl
  exact ⟨t, o, sp.trans h1, h2⟩
/-- invokeinterface, narrow callee, found in a superinterface or not -/
theorem go_interface (B : OkK km κ l Z a0 n0 R own nm bytes maxL ret) {C0 : String} {xi : MethodName} {cnt : Nat} (hd : Dc bytes pc (.invokeinterface idx cnt) 5 pc') (w1 : (Jvm.Cond.methodLink own idx xi).before a0 Z = true) (w2 : (Jvm.Cond.declares xi).before a0 Z = true) (w8 : (Jvm.Cond.interfaceMethod xi.cls xi.cls xi.name xi.desc).before a0 Z = true) (w8m : ((Jvm.Cond.interfaceMethod xi.cls xi.cls xi.name xi.desc).onTables && (Jvm.Cond.interfaceMethod xi.cls xi.cls xi.name xi.desc).keepsFace) = true)
    (w5 : (Jvm.Cond.selects C0 xi y').before a0 Z = true) (w6 : (Jvm.Cond.instanceMethod y').before a0 Z = true) (w9 : (Jvm.Cond.publicMethod y').before a0 Z = true) (w10 : (Jvm.Cond.unhidden C0 xi.name xi.desc).before a0 Z = true) (w11 : (Jvm.Cond.castable C0 xi.cls).before a0 Z = true) (w3 : (Jvm.Cond.initialized y'.cls).before a0 Z = true) (w4 : (Jvm.Cond.code y' bytes' maxL' ret').before a0 Z = true)
    (hy : xi.cls ≠ "java/lang/invoke/MethodHandle" ∧ xi.cls ≠ "java/lang/invoke/VarHandle") (E : Exa Z h a C0) (C : Ct l Z n0 y' bytes' maxL' ret' [] rm (.ref a :: argsL).toArray h Q') (pd : parseMethodDescriptor xi.desc = some ⟨ps, rt⟩) (hlen : argsL.length = ps.length) (hst : st' = argsL.reverse ++ .ref a :: st) (hs : L.size = maxL)
    (hW : (st.map fun v => v.category).sum = W') (hf : rm.frames + 1 ≤ R.frames) (hl : W' + (maxL' + 11) + rm.locals ≤ R.locals) (hc : k + rm.cells ≤ R.cells) (hn : n + rm.slots ≤ R.slots)
    (g : ∀ v h', Q' v h' → Go κ Q h' (k + rm.cells) (n + rm.slots) pc' L (v.toList ++ st)) : Go κ Q h k n pc L st' := fun T locs X N e => by
  obtain ⟨dd, rfl⟩ := hd
  have C' : Ct κ.l Z n0 y' bytes' maxL' ret' [] rm (.ref a :: argsL).toArray h Q' := B.hl.symm ▸ C
  obtain ⟨cq, kq, qa, qb, qc⟩ := isOf B.warm e E
  obtain ⟨vv, _, ⟨T', L2, k2, n2⟩, -, X', ⟨Lc, hQ, l2, y2, z2⟩, sp⟩ := X.interfaceBack B.exec (xi := xi) (y := y') B.hown (mvT B.warm w1) (mvT B.warm w2) (mvT B.warm w8 w8m) (mvT B.warm w5) (mvT B.warm w6) (mvT B.warm w9) (mvT B.warm w10) (mvT B.warm w11) hy
    (backOf (Q := fun v h L => Q' v h ∧ Fr n0 L) (W := W') C' B.warm w4 w3 (by rw [B.room]; exact hf) (by rw [B.room]; exact hl)) qa qb qc (g := mkF κ.m pc L st') rfl (by rw [B.mxl]; exact hs) (Steps.refl _) (argsL := argsL) (rest := st) (lenOf pd hlen) hst (by show 2 * 0 + _ ≤ _; omega) (hb B.byt dd)
    (fun _ _ => ⟨rfl, e, by rw [B.room]; exact hc, by rw [B.room]; exact hn⟩)
  dsimp only [Pt.U, Pt.locs, Pt.cells, Pt.slots] at X' l2 y2 z2 sp hQ
  subst l2 y2 z2
  obtain ⟨t, o, h1, h2⟩ := g vv T'.heap hQ.1 T' _ X' (Fr.app N (B.hn.symm ▸ hQ.2)) rfl
  exact ⟨t, o, sp.trans h1, h2⟩
end Call
end W
end Jvm.OwnGo
namespace Jvm.OwnGo
open Sem ClassFile Op Lib Jvm.Stand Jvm.Free Jvm.LawKit Jvm.RoadKit
section D
variable {km : Nat} {κ : Cx} {l : Launch} {Z : State} {a0 : Array Value} {n0 : Nat} {R : Room} {own nm : String} {bytes : ByteArray} {maxL : Nat} {ret : Option FieldType} {Q : Option Value → Heap → Prop} {h : Heap} {k n pc pc' pc1 pc2 : Nat} {L L' : Array Slot} {st st' : List Value} {o : Int} {x y : Int32} {u w : Int64} {a : Addr} {v v' : Value} {d d' : UInt64}
theorem go_i2d (B : OkK km κ l Z a0 n0 R own nm bytes maxL ret) (hd : Dc bytes pc (.i2d) 1 pc') (g : Go κ Q h k n pc' L (.double (FP.i2d x) :: st)) : Go κ Q h k n pc L (.int x :: st) := by
  obtain ⟨dd, rfl⟩ := hd
  exact go_step (fun T locs X e t q => XS.i2dS X.here B.exec rfl (hb B.byt dd) rfl rfl q) g
theorem go_l2d (B : OkK km κ l Z a0 n0 R own nm bytes maxL ret) (hd : Dc bytes pc (.l2d) 1 pc') (g : Go κ Q h k n pc' L (.double (FP.l2d u) :: st)) : Go κ Q h k n pc L (.long u :: st) := by
  obtain ⟨dd, rfl⟩ := hd
  exact go_step (fun T locs X e t q => XS.l2dS X.here B.exec rfl (hb B.byt dd) rfl rfl q) g
theorem go_dneg (B : OkK km κ l Z a0 n0 R own nm bytes maxL ret) (hd : Dc bytes pc (.dneg) 1 pc') (g : Go κ Q h k n pc' L (.double (FP.dneg d) :: st)) : Go κ Q h k n pc L (.double d :: st) := by
  obtain ⟨dd, rfl⟩ := hd
  exact go_step (fun T locs X e t q => XS.dnegS X.here B.exec rfl (hb B.byt dd) rfl rfl q) g
theorem go_dcmp (B : OkK km κ l Z a0 n0 R own nm bytes maxL ret) {op : CmpOp} (hd : Dc bytes pc (.dcmp op) 1 pc') (hv : cmpValue (FP.dcmp d d') op = x) (g : Go κ Q h k n pc' L (.int x :: st)) : Go κ Q h k n pc L (.double d' :: .double d :: st) := by
  obtain ⟨dd, rfl⟩ := hd
  exact go_step (fun T locs X e t q => XS.dcmpS X.here B.exec rfl (hb B.byt dd) rfl hv q) g
theorem go_dload_n (B : OkK km κ l Z a0 n0 R own nm bytes maxL ret) {j : Fin 4} (hd : Dc bytes pc (.dload_n j) 1 pc') (hl : L[j.val]? = some (.val (.double d))) (g : Go κ Q h k n pc' L (.double d :: st)) : Go κ Q h k n pc L st := by
  obtain ⟨dd, rfl⟩ := hd
  exact go_step (fun T locs X e t q => XT.dloadN X.here B.exec rfl (hb B.byt dd) hl q) g
theorem go_dload (B : OkK km κ l Z a0 n0 R own nm bytes maxL ret) {j : Nat} (hd : Dc bytes pc (.dload j) 2 pc') (hl : L[j]? = some (.val (.double d))) (g : Go κ Q h k n pc' L (.double d :: st)) : Go κ Q h k n pc L st := by
  obtain ⟨dd, rfl⟩ := hd
  exact go_step (fun T locs X e t q => XT.dload X.here B.exec rfl (hb B.byt dd) hl q) g
theorem go_dstore_n (B : OkK km κ l Z a0 n0 R own nm bytes maxL ret) {j : Fin 4} (L' : Array Slot) (hd : Dc bytes pc (.dstore_n j) 1 pc') (hl : storeLocals L j.val (.double d) = some L') (g : Go κ Q h k n pc' L' st) : Go κ Q h k n pc L (.double d :: st) := by
  obtain ⟨dd, rfl⟩ := hd
  exact go_step (fun T locs X e t q => XS.dstoreN X.here B.exec rfl (hb B.byt dd) rfl hl q) g
theorem go_dstore (B : OkK km κ l Z a0 n0 R own nm bytes maxL ret) {j : Nat} (L' : Array Slot) (hd : Dc bytes pc (.dstore j) 2 pc') (hl : storeLocals L j (.double d) = some L') (g : Go κ Q h k n pc' L' st) : Go κ Q h k n pc L (.double d :: st) := by
  obtain ⟨dd, rfl⟩ := hd
  exact go_step (fun T locs X e t q => XS.dstore X.here B.exec rfl (hb B.byt dd) rfl hl q) g
theorem go_dreturn (B : OkK km κ l Z a0 n0 R own nm bytes maxL (some .double)) (hd : Dc bytes pc .dreturn 1 pc') (hk : k ≤ R.cells) (hn : n ≤ R.slots) (hq : Q (some (.double d)) h) (hkm : km ≤ h.size := by first | exact Nat.zero_le _ | assumption) : Go κ Q h k n pc L (.double d :: st) :=
  go_end B hk hn hq (fun q => by cases q) hkm (fun T locs fs X hr => retOut X B.exec (t := .double) (i := .dreturn) B.rets rfl (Or.inr (Or.inr (Or.inl ⟨rfl, rfl, d, rfl⟩))) (hb B.byt hd.1) hr)
theorem go_daload (B : OkK km κ l Z a0 n0 R own nm bytes maxL ret) {vs : List Value} {i : Nat} (hd : Dc bytes pc .daload 1 pc') (A : AV Z h a .double vs) (hi : x.toInt = (i : Int)) (hv : vs[i]? = some v) (g : Go κ Q h k n pc' L (v :: st)) : Go κ Q h k n pc L (.int x :: .ref a :: st) := by
  obtain ⟨dd, rfl⟩ := hd
  obtain ⟨c, A, r, s⟩ := A
  obtain ⟨q1, q2⟩ := nat_idx hi
  have hl : i < vs.length := (List.getElem?_eq_some_iff.mp hv).1
  exact go_step (fun T locs X e t q => X.daload B.exec (j := x) (v := v) (by rw [e]; exact A.1) (State.isArrayOf_alike B.warm.alike A.2.1) A.2.2 (by rw [r, q2]; simp; exact ⟨Int32.not_lt.mp q1, hl⟩) (by rw [r, q2]; simpa using hv) (g := mkF κ.m pc L (.int x :: .ref a :: st)) rfl rfl (hb B.byt dd) _ q) g
theorem go_dastore (B : OkK km κ l Z a0 n0 R own nm bytes maxL ret) {vs : List Value} {i : Nat} (hd : Dc bytes pc .dastore 1 pc') (A : AV Z h a .double vs) (hi : x.toInt = (i : Int)) (hl : i < vs.length) (ha : n0 ≤ a) (g : ∀ h', Wr h h' a i (.double d) → AV Z h' a .double (vs.set i (.double d)) → Go κ Q h' k n pc' L st) : Go κ Q h k n pc L (.double d :: .int x :: .ref a :: st) := fun T locs X N e => by
  obtain ⟨dd, rfl⟩ := hd
  have A0 := A
  obtain ⟨c, A, r, s⟩ := A
  obtain ⟨q1, q2⟩ := nat_idx hi
  have hj : ¬ (x < 0 ∨ c.slots.size ≤ x.toNatClampNeg) := by rw [r, q2]; simp; exact ⟨Int32.not_lt.mp q1, hl⟩
  obtain ⟨X', sp⟩ := X.dastore B.exec (x := d) (by rw [e]; exact A.1) (State.isArrayOf_alike B.warm.alike A.2.1) A.2.2 hj (g := mkF κ.m pc L (.double d :: .int x :: .ref a :: st)) rfl rfl (hb B.byt dd)
  have W0 : Wr h (h.setIfInBounds a (c.setSlot x.toNatClampNeg (.double d))) a x.toNatClampNeg (.double d) := ⟨c, A.1, A.plain, Nat.lt_of_not_le fun q => hj (Or.inr q), rfl⟩
  have W' : Wr h (h.setIfInBounds a (c.setSlot x.toNatClampNeg (.double d))) a i (.double d) := q2 ▸ W0
  obtain ⟨t, o, h1, h2⟩ := g _ W' (A0.same W') _ _ X' (Fr.snoc X' N (B.hn ▸ ha)) (by rw [← e]; rfl)
  exact ⟨t, o, sp _ h1, h2⟩
/-- a field through a nest-mate's entry -/
theorem go_getfieldN (B : OkK km κ l Z a0 n0 R own nm bytes maxL ret) {idx : Nat} {O fn d host : String} (hd : Dc bytes pc (.getfield idx) 3 pc') (wl : (Jvm.Cond.fieldLinkNest own idx O fn d host).before a0 Z = true) (F : Fld Z h a O fn d v) (g : Go κ Q h k n pc' L (v :: st)) : Go κ Q h k n pc L (.ref a :: st) := fun T locs X N e => by
  obtain ⟨dd, rfl⟩ := hd
  obtain ⟨T', X', e', sp⟩ := getF X B.exec B.warm B.hown (host := host) (Or.inr wl) Via.refl e F (g := mkF κ.m pc L (.ref a :: st)) rfl rfl (hb B.byt dd)
  obtain ⟨t, o, h1, h2⟩ := g T' locs X' N e'
  exact ⟨t, o, sp _ h1, h2⟩
theorem go_getstaticN (B : OkK km κ l Z a0 n0 R own nm bytes maxL ret) {idx : Nat} {O fn d host : String} (hd : Dc bytes pc (.getstatic idx) 3 pc') (wl : (Jvm.Cond.fieldLinkNest own idx O fn d host).before a0 Z = true) (F : Sta Z h O fn d v) (g : Go κ Q h k n pc' L (v :: st)) : Go κ Q h k n pc L st := fun T locs X N e => by
  obtain ⟨dd, rfl⟩ := hd
  obtain ⟨T', X', e', sp⟩ := getS2 (host := host) X B.exec B.warm B.hown (Or.inr wl) Via.refl e F (g := mkF κ.m pc L st) rfl (hb B.byt dd)
  obtain ⟨t, o, h1, h2⟩ := g T' locs X' N e'
  exact ⟨t, o, sp _ h1, h2⟩
theorem go_instanceofN (B : OkK km κ l Z a0 n0 R own nm bytes maxL ret) {K : String} {idx : Nat} (hd : Dc bytes pc (.instanceof idx) 3 pc') (wl : (Jvm.Cond.classLink own idx K).before a0 Z = true) {C : String} (E : Exa Z h a C) (F : ∃ c t, Z.vm.findClass C = some c ∧ Z.vm.findClass K = some t ∧ Z.vm.assignable c t = false) (g : Go κ Q h k n pc' L (.int 0 :: st)) : Go κ Q h k n pc L (.ref a :: st) := fun T locs X N e => by
  obtain ⟨dd, rfl⟩ := hd
  obtain ⟨T', X', e', sp⟩ := instNo X B.exec B.warm B.hown wl e E F (g := mkF κ.m pc L (.ref a :: st)) rfl rfl (hb B.byt dd)
  obtain ⟨t, o, h1, h2⟩ := g T' locs X' N e'
  exact ⟨t, o, sp _ h1, h2⟩
theorem ii_eq (x : Int32) (op : CmpOp) : cmpValue (FP.dcmp (FP.i2d x) (FP.i2d x)) op = 0 := by
  rw [show FP.dcmp (FP.i2d x) (FP.i2d x) = some .eq from by
    have q := FP.Core.dcmp_int (FP.Core.i2d_int x) (FP.Core.i2d_int x)
    rw [show compare x.toInt x.toInt = .eq from by simp [compare, compareOfLessAndEq]] at q; exact q]
  cases op <;> rfl
end D
end Jvm.OwnGo
namespace Jvm.OwnGo
open Sem ClassFile Op Lib Jvm.Stand Jvm.Free Jvm.LawKit Jvm.RoadKit
/-- instanceof whose answer is not known: one of the two -/
theorem go_instanceofA {km : Nat} {κ : Cx} {l : Launch} {Z : State} {a0 : Array Value} {n0 : Nat} {R : Room} {own nm : String} {bytes : ByteArray} {maxL : Nat} {ret : Option FieldType} {Q : Option Value → Heap → Prop} {h : Heap} {k n pc pc' : Nat} {L : Array Slot} {st : List Value} {a : Addr} (B : OkK km κ l Z a0 n0 R own nm bytes maxL ret) {K C : String} {idx : Nat} (hd : Dc bytes pc (.instanceof idx) 3 pc') (wl : (Jvm.Cond.classLink own idx K).before a0 Z = true) (hK : ∃ cT, Z.vm.findClass K = some cT) (E : Exa Z h a C) (g : ∀ z : Int32, Go κ Q h k n pc' L (.int z :: st)) : Go κ Q h k n pc L (.ref a :: st) := by
  obtain ⟨cT, hT⟩ := hK
  have E0 := E
  obtain ⟨cell, kk, e1, e2, e3, e4, -⟩ := E
  rcases hb : Z.vm.assignable cell.cls cT with _ | _
  · exact go_instanceofN B hd wl E0 ⟨_, _, e2, hT, hb⟩ (g 0)
  · exact go_instanceof B hd wl ⟨cell, cT, e1, hT, by rw [hb, e4]; rfl⟩ (g 1)
end Jvm.OwnGo
namespace Jvm.Pilot.@@N@@
open Jvm Jvm.ClassFile Sem Op Lib Jvm.Free Jvm.Stand Jvm.LawKit Jvm.RoadKit Bundle Jvm.Pilot.@@N@@.Jvm.D Jvm.OwnGo
def Wd (a0 : Array Value) (Z : State) : Prop := ∀ d ∈ tables_1, d.before a0 Z = true
theorem own_small : ∀ k : Fin 256, nar .char ((Int32.ofNat k.1).toUInt32.toUInt16.toUInt32.toInt32) = (Int32.ofNat k.1).toUInt32.toUInt16.toUInt32.toInt32 ∧ ¬ (255 : Int32) < (Int32.ofNat k.1).toUInt32.toUInt16.toUInt32.toInt32 := by decide +kernel
theorem own_ch (z : Int32) : nar .char ((z &&& (255 : Int32)).toUInt32.toUInt16.toUInt32.toInt32) = (z &&& (255 : Int32)).toUInt32.toUInt16.toUInt32.toInt32 ∧ ¬ (255 : Int32) < (z &&& (255 : Int32)).toUInt32.toUInt16.toUInt32.toInt32 := by
  obtain ⟨h1, h2⟩ := i_and z (255 : Int32) (by decide)
  have h3 : (z &&& (255 : Int32)).toInt ≤ 255 := h2
  obtain ⟨k, hk, -⟩ := i_nat h1
  have e : z &&& (255 : Int32) = Int32.ofNat k := i_eq hk (i_ofNat (by omega))
  have q := own_small ⟨k, by omega⟩
  rw [e]; exact q
theorem own_n (z : Int32) : (z &&& (3 : Int32)) = (0 : Int32) ∨ (z &&& (3 : Int32)) = (1 : Int32) ∨ (z &&& (3 : Int32)) = (2 : Int32) ∨ (z &&& (3 : Int32)) = (3 : Int32) := by
  obtain ⟨h1, h2⟩ := i_and z (3 : Int32) (by decide)
  have h3 : (z &&& (3 : Int32)).toInt ≤ 3 := h2
  obtain ⟨k, hk, -⟩ := i_nat h1
  have e : z &&& (3 : Int32) = Int32.ofNat k := i_eq hk (i_ofNat (by omega))
  rw [e]
  have : k = 0 ∨ k = 1 ∨ k = 2 ∨ k = 3 := by omega
  rcases this with rfl | rfl | rfl | rfl <;> decide
theorem own_neg (x : Int32) : cmpValue (FP.dcmp (FP.dneg (FP.i2d x)) (FP.l2d (-(x.toInt64)))) .l = 0 := by
  have h1 := x.toInt_lt
  have h2 := x.le_toInt
  have e0 : (x.toInt64).toInt = x.toInt := Int32.toInt_toInt64 x
  have e1 : (-(x.toInt64)).toInt = -x.toInt := by
    rw [Int64.toInt_neg, e0]; exact Int.bmod_eq_of_le (by omega) (by omega)
  have d1 : FP.Core.DInt (-x.toInt) (FP.dneg (FP.i2d x)) := by
    rw [FP.dneg_core (FP.Core.DFin.notNaN (FP.Core.i2d_fin x))]
    exact FP.Core.dneg_int (FP.Core.i2d_int x)
  have d2 : FP.Core.DInt (-x.toInt) (FP.l2d (-(x.toInt64))) := by
    have q := FP.Core.l2d_int (a := -(x.toInt64)) (by rw [e1]; omega)
    rw [e1] at q; exact q
  rw [show FP.dcmp (FP.dneg (FP.i2d x)) (FP.l2d (-(x.toInt64))) = some .eq from by
    have q := FP.Core.dcmp_int d1 d2
    rw [show compare (-x.toInt) (-x.toInt) = .eq from by simp [compare, compareOfLessAndEq]] at q; exact q]
  rfl
theorem pn_java_lang_StringUTF16 : plainName "java/lang/StringUTF16" = true := by first | (simp [plainName, overriddenIn]; done) | decide +kernel
theorem d5_0 : Dc jdk_52_method_21_code 0 (.iconst 0) 1 1 := ⟨by decide +kernel, rfl⟩
theorem d5_1 : Dc jdk_52_method_21_code 1 (.istore 5) 2 3 := ⟨by decide +kernel, rfl⟩
theorem d5_3 : Dc jdk_52_method_21_code 3 (.iload 5) 2 5 := ⟨by decide +kernel, rfl⟩
theorem d5_5 : Dc jdk_52_method_21_code 5 (.iload 4) 2 7 := ⟨by decide +kernel, rfl⟩
theorem d5_7 : Db jdk_52_method_21_code 7 (.if_icmp .ge 37) 37 10 44 := ⟨by decide +kernel, rfl, rfl⟩
theorem d5_10 : Dc jdk_52_method_21_code 10 (.aload_n 0) 1 11 := ⟨by decide +kernel, rfl⟩
theorem d5_11 : Dc jdk_52_method_21_code 11 (.iload_n 1) 1 12 := ⟨by decide +kernel, rfl⟩
theorem d5_12 : Dc jdk_52_method_21_code 12 (.caload) 1 13 := ⟨by decide +kernel, rfl⟩
theorem d5_13 : Dc jdk_52_method_21_code 13 (.istore 6) 2 15 := ⟨by decide +kernel, rfl⟩
theorem d5_15 : Dc jdk_52_method_21_code 15 (.iload 6) 2 17 := ⟨by decide +kernel, rfl⟩
theorem d5_17 : Dc jdk_52_method_21_code 17 (.sipush 255) 3 20 := ⟨by decide +kernel, rfl⟩
theorem d5_20 : Db jdk_52_method_21_code 20 (.if_icmp .le 6) 6 23 26 := ⟨by decide +kernel, rfl, rfl⟩
theorem d5_26 : Dc jdk_52_method_21_code 26 (.aload_n 2) 1 27 := ⟨by decide +kernel, rfl⟩
theorem d5_27 : Dc jdk_52_method_21_code 27 (.iload_n 3) 1 28 := ⟨by decide +kernel, rfl⟩
theorem d5_28 : Dc jdk_52_method_21_code 28 (.iload 6) 2 30 := ⟨by decide +kernel, rfl⟩
theorem d5_30 : Dc jdk_52_method_21_code 30 (.i2b) 1 31 := ⟨by decide +kernel, rfl⟩
theorem d5_31 : Dc jdk_52_method_21_code 31 (.bastore) 1 32 := ⟨by decide +kernel, rfl⟩
theorem d5_32 : Dc jdk_52_method_21_code 32 (.iinc 1 1) 3 35 := ⟨by decide +kernel, rfl⟩
theorem d5_35 : Dc jdk_52_method_21_code 35 (.iinc 3 1) 3 38 := ⟨by decide +kernel, rfl⟩
theorem d5_38 : Dc jdk_52_method_21_code 38 (.iinc 5 1) 3 41 := ⟨by decide +kernel, rfl⟩
theorem d5_41 : Db jdk_52_method_21_code 41 (.goto (-38)) (-38) 44 3 := ⟨by decide +kernel, rfl, rfl⟩
theorem d5_44 : Dc jdk_52_method_21_code 44 (.iload 4) 2 46 := ⟨by decide +kernel, rfl⟩
theorem d5_46 : Dc jdk_52_method_21_code 46 (.ireturn) 1 47 := ⟨by decide +kernel, rfl⟩
set_option maxRecDepth 65536 in
set_option maxHeartbeats 40000000 in
theorem rmC {l : Launch} {Z : State} {a0 : Array Value} {n0 : Nat} (H : Wd a0 Z) (a b : Addr) (c : Int32) (h0 : Heap) (Z0 : n0 ≤ h0.size) (A1 : AV Z h0 a .char [(.int c)]) (A2 : AV Z h0 b .byte [(.int (0 : Int32))]) (gb : n0 ≤ b) (nab : a ≠ b) (hc : ¬ (255 : Int32) < c) :
    Ct l Z n0 (⟨"java/lang/StringUTF16", "compress", "([CI[BII)I"⟩ : MethodName) jdk_52_method_21_code 7 (some .int) [] ({ frames := 0, cells := 0, slots := 0, locals := 0 } : Room) #[(.ref a), (.int (0 : Int32)), (.ref b), (.int (0 : Int32)), (.int (1 : Int32))] h0 (fun v h => v = some (.int (1 : Int32)) ∧ Keep h0 h [b] ∧ AV Z h b .byte [(.int (nar .byte (c.toInt8.toInt32)))]) := by
  refine Ct.of (a0 := a0) (L0 := #[.val (.ref a), .val (.int (0 : Int32)), .val (.ref b), .val (.int (0 : Int32)), .val (.int (1 : Int32)), .unset, .unset]) (plainFor_of_name pn_java_lang_StringUTF16) (fun m => by first | (simp [entryFrame, mkF, argsToLocals, Value.category]; done) | rfl) ?_
  intro κ B0
  have B : Ok κ l Z a0 n0 ({ frames := 0, cells := 0, slots := 0, locals := 0 } : Room) "java/lang/StringUTF16" "compress" jdk_52_method_21_code 7 (some .int) := B0
  refine go_iconst B (x := (0 : Int32)) d5_0 rfl ?_
  refine go_istore B #[.val (.ref a), .val (.int (0 : Int32)), .val (.ref b), .val (.int (0 : Int32)), .val (.int (1 : Int32)), .val (.int (0 : Int32)), .unset] d5_1 rfl ?_
  refine go_iload B d5_3 rfl ?_
  refine go_iload B d5_5 rfl ?_
  refine go_icmpge B d5_7 (fun c7 => ?_) (fun c7 => ?_)
  · exact absurd c7 (by decide)
  refine go_aload_n B d5_10 rfl rfl ?_
  refine go_iload_n B d5_11 rfl ?_
  refine go_caload B (i := 0) (v := (.int c)) d5_12 A1 rfl rfl ?_
  refine go_istore B #[.val (.ref a), .val (.int (0 : Int32)), .val (.ref b), .val (.int (0 : Int32)), .val (.int (1 : Int32)), .val (.int (0 : Int32)), .val (.int c)] d5_13 rfl ?_
  refine go_iload B d5_15 rfl ?_
  refine go_sipush B (x := (255 : Int32)) d5_17 (by decide) ?_
  refine go_icmple B d5_20 (fun c20 => ?_) (fun c20 => ?_)
  rotate_left
  · exact absurd c20 hc
  refine go_aload_n B d5_26 rfl rfl ?_
  refine go_iload_n B d5_27 rfl ?_
  refine go_iload B d5_28 rfl ?_
  refine go_i2b B d5_30 ?_
  refine go_bastore B (i := 0) d5_31 A2 rfl (show 0 < 1 from by decide) gb ?_
  intro h1 W2 A3
  have A4 : AV Z h1 b .byte [(.int (nar .byte (c.toInt8.toInt32)))] := A3
  refine go_iinc B #[.val (.ref a), .val (.int ((0 : Int32) + (1 : Int32))), .val (.ref b), .val (.int (0 : Int32)), .val (.int (1 : Int32)), .val (.int (0 : Int32)), .val (.int c)] d5_32 (z := (1 : Int32)) rfl rfl rfl ?_
  rw [show ((0 : Int32) + (1 : Int32)) = (1 : Int32) from by decide]
  refine go_iinc B #[.val (.ref a), .val (.int (1 : Int32)), .val (.ref b), .val (.int ((0 : Int32) + (1 : Int32))), .val (.int (1 : Int32)), .val (.int (0 : Int32)), .val (.int c)] d5_35 (z := (1 : Int32)) rfl rfl rfl ?_
  rw [show ((0 : Int32) + (1 : Int32)) = (1 : Int32) from by decide]
  refine go_iinc B #[.val (.ref a), .val (.int (1 : Int32)), .val (.ref b), .val (.int (1 : Int32)), .val (.int (1 : Int32)), .val (.int ((0 : Int32) + (1 : Int32))), .val (.int c)] d5_38 (z := (1 : Int32)) rfl rfl rfl ?_
  rw [show ((0 : Int32) + (1 : Int32)) = (1 : Int32) from by decide]
  refine go_goto B d5_41 ?_
  refine go_iload B d5_3 rfl ?_
  refine go_iload B d5_5 rfl ?_
  refine go_icmpge B d5_7 (fun c7_5 => ?_) (fun c7_5 => ?_)
  rotate_left
  · exact absurd c7_5 (by decide)
  refine go_iload B d5_44 rfl ?_
  refine go_ireturn B d5_46 (by decide) (by decide) ?_
  exact ⟨rfl, (Keep.wr (Keep.refl h0 [b]) W2 (Or.inl (by simp))), A4⟩
theorem d4_0 : Dc jdk_52_method_16_code 0 (.iload_n 2) 1 1 := ⟨by decide +kernel, rfl⟩
theorem d4_1 : Dc jdk_52_method_16_code 1 (.newarray .byte) 2 3 := ⟨by decide +kernel, rfl⟩
theorem w_19 {a0 : Array Value} {Z : State} (H : Wd a0 Z) : (Jvm.Cond.arrayClass Jvm.ClassFile.FieldType.byte).before a0 Z = true := H _ (List.mem_of_getElem? (i := 19) rfl)
theorem d4_3 : Dc jdk_52_method_16_code 3 (.astore_n 3) 1 4 := ⟨by decide +kernel, rfl⟩
theorem d4_4 : Dc jdk_52_method_16_code 4 (.aload_n 0) 1 5 := ⟨by decide +kernel, rfl⟩
theorem d4_5 : Dc jdk_52_method_16_code 5 (.iload_n 1) 1 6 := ⟨by decide +kernel, rfl⟩
theorem d4_6 : Dc jdk_52_method_16_code 6 (.aload_n 3) 1 7 := ⟨by decide +kernel, rfl⟩
theorem d4_7 : Dc jdk_52_method_16_code 7 (.iconst 0) 1 8 := ⟨by decide +kernel, rfl⟩
theorem d4_8 : Dc jdk_52_method_16_code 8 (.iload_n 2) 1 9 := ⟨by decide +kernel, rfl⟩
theorem d4_9 : Dc jdk_52_method_16_code 9 (.invokestatic 115) 3 12 := ⟨by decide +kernel, rfl⟩
theorem w_22 {a0 : Array Value} {Z : State} (H : Wd a0 Z) : (Jvm.Cond.code ({ cls := "java/lang/StringUTF16", name := "compress", desc := "([CI[BII)I" } : Jvm.MethodName) jdk_52_method_21_code (7 : Nat) (Option.some Jvm.ClassFile.FieldType.int)).before a0 Z = true := H _ (List.mem_of_getElem? (i := 22) rfl)
theorem w_17 {a0 : Array Value} {Z : State} (H : Wd a0 Z) : (Jvm.Cond.initialized "java/lang/StringUTF16").before a0 Z = true := H _ (List.mem_of_getElem? (i := 17) rfl)
theorem pd_0 : parseMethodDescriptor "([CI[BII)I" = some ⟨[(.array .char), .int, (.array .byte), .int, .int], some .int⟩ := by decide +kernel
theorem w_20 {a0 : Array Value} {Z : State} (H : Wd a0 Z) : (Jvm.Cond.methodLink "java/lang/StringUTF16" (115 : Nat) ({ cls := "java/lang/StringUTF16", name := "compress", desc := "([CI[BII)I" } : Jvm.MethodName)).before a0 Z = true := H _ (List.mem_of_getElem? (i := 20) rfl)
theorem w_21 {a0 : Array Value} {Z : State} (H : Wd a0 Z) : (Jvm.Cond.static ({ cls := "java/lang/StringUTF16", name := "compress", desc := "([CI[BII)I" } : Jvm.MethodName)).before a0 Z = true := H _ (List.mem_of_getElem? (i := 21) rfl)
theorem d4_12 : Dc jdk_52_method_16_code 12 (.istore 4) 2 14 := ⟨by decide +kernel, rfl⟩
theorem d4_14 : Dc jdk_52_method_16_code 14 (.iload 4) 2 16 := ⟨by decide +kernel, rfl⟩
theorem d4_16 : Dc jdk_52_method_16_code 16 (.iload_n 2) 1 17 := ⟨by decide +kernel, rfl⟩
theorem d4_17 : Db jdk_52_method_16_code 17 (.if_icmp .eq 40) 40 20 57 := ⟨by decide +kernel, rfl, rfl⟩
theorem d4_57 : Dc jdk_52_method_16_code 57 (.aload_n 3) 1 58 := ⟨by decide +kernel, rfl⟩
theorem d4_58 : Dc jdk_52_method_16_code 58 (.areturn) 1 59 := ⟨by decide +kernel, rfl⟩
set_option maxRecDepth 65536 in
set_option maxHeartbeats 40000000 in
theorem rmD {l : Launch} {Z : State} {a0 : Array Value} {n0 : Nat} (H : Wd a0 Z) (a : Addr) (c : Int32) (h0 : Heap) (Z0 : n0 ≤ h0.size) (A1 : AV Z h0 a .char [(.int c)]) (hc : ¬ (255 : Int32) < c) :
    Ct l Z n0 (⟨"java/lang/StringUTF16", "compress", "([CII)[B"⟩ : MethodName) jdk_52_method_16_code 6 (some (.array .byte)) [] ({ frames := 1, cells := 1, slots := 1, locals := 18 } : Room) #[(.ref a), (.int (0 : Int32)), (.int (1 : Int32))] h0 (fun v h => ∃ b, v = some (.ref b) ∧ h0.size ≤ b ∧ Keep h0 h [] ∧ AV Z h b .byte [(.int (nar .byte (c.toInt8.toInt32)))] ∧ Exa Z h b "[B") := by
  refine Ct.of (a0 := a0) (L0 := #[.val (.ref a), .val (.int (0 : Int32)), .val (.int (1 : Int32)), .unset, .unset, .unset]) (plainFor_of_name pn_java_lang_StringUTF16) (fun m => by first | (simp [entryFrame, mkF, argsToLocals, Value.category]; done) | rfl) ?_
  intro κ B0
  have B : Ok κ l Z a0 n0 ({ frames := 1, cells := 1, slots := 1, locals := 18 } : Room) "java/lang/StringUTF16" "compress" jdk_52_method_16_code 6 (some (.array .byte)) := B0
  refine go_iload_n B d4_0 rfl ?_
  refine go_newarray B (i := 1) (cap := 1) d4_1 (w_19 H) rfl (Nat.le_refl _) (by decide) (by decide) (by decide) ?_
  intro h6 a7 hba7 Ea7 Aa7 Ca7
  have ne_a7_a : a7 ≠ a := Nat.ne_of_gt (Nat.lt_of_lt_of_le (A1).lt (by omega))
  have ge_a7 : n0 ≤ a7 := by have q1 := Z0; omega
  have fr_a7 : h0.size ≤ a7 := by have q1 := (show Keep h0 h0 [] from (Keep.refl h0 [])).1; omega
  have Ba7 : AV Z h6 a7 .byte [(.int (0 : Int32))] := Aa7
  refine go_astore_n B #[.val (.ref a), .val (.int (0 : Int32)), .val (.int (1 : Int32)), .val (.ref a7), .unset, .unset] d4_3 rfl rfl ?_
  refine go_aload_n B d4_4 rfl rfl ?_
  refine go_iload_n B d4_5 rfl ?_
  refine go_aload_n B d4_6 rfl rfl ?_
  refine go_iconst B (x := (0 : Int32)) d4_7 rfl ?_
  refine go_iload_n B d4_8 rfl ?_
  refine go_static B (W := 0) (argsL := [(.ref a), (.int (0 : Int32)), (.ref a7), (.int (0 : Int32)), (.int (1 : Int32))]) (st := []) d4_9 (w_20 H) (w_21 H) (w_17 H) (w_22 H) (by decide) (rmC H a a7 c h6 (Nat.le_trans Z0 Ea7.1) (AV.ext A1 Ea7) Ba7 ge_a7 (Ne.symm ne_a7_a) hc) pd_0 rfl rfl rfl rfl (by decide) (by decide) (by decide) (by decide) ?_
  rintro _ h10 ⟨rfl, K8, A9⟩
  show Go κ _ h10 _ _ 12 #[.val (.ref a), .val (.int (0 : Int32)), .val (.int (1 : Int32)), .val (.ref a7), .unset, .unset] [(.int (1 : Int32))]
  refine go_istore B #[.val (.ref a), .val (.int (0 : Int32)), .val (.int (1 : Int32)), .val (.ref a7), .val (.int (1 : Int32)), .unset] d4_12 rfl ?_
  refine go_iload B d4_14 rfl ?_
  refine go_iload_n B d4_16 rfl ?_
  refine go_icmpeq B d4_17 (fun c17 => ?_) (fun c17 => ?_)
  rotate_left
  · exact absurd c17 (by decide)
  refine go_aload_n B d4_57 rfl rfl ?_
  refine go_areturn B d4_58 rfl rfl rfl (by decide) (by decide) ?_
  have f11 : Keep h0 h10 [] := (Keep.trans (Keep.ext (Keep.refl h0 []) Ea7) K8 (allS (Or.inr fr_a7) all0))
  exact ⟨a7, rfl, by omega, f11, A9, (Exa.keep Ca7 K8)⟩
theorem d6_0 : Dc jdk_52_method_15_code 0 (.iload_n 1) 1 1 := ⟨by decide +kernel, rfl⟩
theorem d6_1 : Dc jdk_52_method_15_code 1 (.aload_n 0) 1 2 := ⟨by decide +kernel, rfl⟩
theorem d6_2 : Dc jdk_52_method_15_code 2 (.arraylength) 1 3 := ⟨by decide +kernel, rfl⟩
theorem d6_3 : Dc jdk_52_method_15_code 3 (.isub) 1 4 := ⟨by decide +kernel, rfl⟩
theorem d6_4 : Dc jdk_52_method_15_code 4 (.bipush 31) 2 6 := ⟨by decide +kernel, rfl⟩
theorem d6_6 : Dc jdk_52_method_15_code 6 (.iushr) 1 7 := ⟨by decide +kernel, rfl⟩
theorem d6_7 : Dc jdk_52_method_15_code 7 (.i2b) 1 8 := ⟨by decide +kernel, rfl⟩
theorem d6_8 : Dc jdk_52_method_15_code 8 (.ireturn) 1 9 := ⟨by decide +kernel, rfl⟩
set_option maxRecDepth 65536 in
set_option maxHeartbeats 40000000 in
theorem rmK {l : Launch} {Z : State} {a0 : Array Value} {n0 : Nat} (H : Wd a0 Z) (b : Addr) (c : Int32) (h0 : Heap) (Z0 : n0 ≤ h0.size) (A1 : AV Z h0 b .byte [(.int (nar .byte (c.toInt8.toInt32)))]) :
    Ct l Z n0 (⟨"java/lang/StringUTF16", "coderFromArrayLen", "([BI)B"⟩ : MethodName) jdk_52_method_15_code 2 (some .byte) [] ({ frames := 0, cells := 0, slots := 0, locals := 0 } : Room) #[(.ref b), (.int (1 : Int32))] h0 (fun v h => v = some (.int (0 : Int32)) ∧ h0 = h) := by
  refine Ct.of (a0 := a0) (L0 := #[.val (.ref b), .val (.int (1 : Int32))]) (plainFor_of_name pn_java_lang_StringUTF16) (fun m => by first | (simp [entryFrame, mkF, argsToLocals, Value.category]; done) | rfl) ?_
  intro κ B0
  have B : Ok κ l Z a0 n0 ({ frames := 0, cells := 0, slots := 0, locals := 0 } : Room) "java/lang/StringUTF16" "coderFromArrayLen" jdk_52_method_15_code 2 (some .byte) := B0
  refine go_iload_n B d6_0 rfl ?_
  refine go_aload_n B d6_1 rfl rfl ?_
  refine go_arraylength B (x := (1 : Int32)) d6_2 A1 rfl ?_
  refine go_isub B d6_3 ?_
  rw [show ((1 : Int32) - (1 : Int32)) = (0 : Int32) from by decide]
  refine go_bipush B (x := (31 : Int32)) d6_4 (by decide) ?_
  refine go_iushr B d6_6 ?_
  rw [show (XT.ushr (0 : Int32) (31 : Int32)) = (0 : Int32) from by decide]
  refine go_i2b B d6_7 ?_
  rw [show (0 : Int32).toInt8.toInt32 = (0 : Int32) from by decide]
  refine go_breturn B (y := (0 : Int32)) d6_8 (by decide) (by decide) (by decide) ?_
  exact ⟨rfl, rfl⟩
theorem pn_java_lang_String : plainName "java/lang/String" = true := by first | (simp [plainName, overriddenIn]; done) | decide +kernel
theorem d2_0 : Dc jdk_42_method_149_code 0 (.aload_n 0) 1 1 := ⟨by decide +kernel, rfl⟩
theorem d2_1 : Dc jdk_42_method_149_code 1 (.invokespecial 1) 3 4 := ⟨by decide +kernel, rfl⟩
theorem w_11 {a0 : Array Value} {Z : State} (H : Wd a0 Z) : (Jvm.Cond.methodLink "java/lang/String" (1 : Nat) ({ cls := "java/lang/Object", name := "<init>", desc := "()V" } : Jvm.MethodName)).before a0 Z = true := H _ (List.mem_of_getElem? (i := 11) rfl)
theorem w_12 {a0 : Array Value} {Z : State} (H : Wd a0 Z) : (Jvm.Cond.instanceMethod ({ cls := "java/lang/Object", name := "<init>", desc := "()V" } : Jvm.MethodName)).before a0 Z = true := H _ (List.mem_of_getElem? (i := 12) rfl)
theorem w_13 {a0 : Array Value} {Z : State} (H : Wd a0 Z) : (Jvm.Cond.code ({ cls := "java/lang/Object", name := "<init>", desc := "()V" } : Jvm.MethodName) object_method_1_code (1 : Nat) (Option.none : Option Jvm.ClassFile.FieldType)).before a0 Z = true := H _ (List.mem_of_getElem? (i := 13) rfl)
theorem d2_4 : Dc jdk_42_method_149_code 4 (.iload_n 3) 1 5 := ⟨by decide +kernel, rfl⟩
theorem d2_5 : Db jdk_42_method_149_code 5 (.ifCond .ne 22) 22 8 27 := ⟨by decide +kernel, rfl, rfl⟩
theorem d2_27 : Dc jdk_42_method_149_code 27 (.getstatic 38) 3 30 := ⟨by decide +kernel, rfl⟩
theorem w_14 {a0 : Array Value} {Z : State} (H : Wd a0 Z) : (Jvm.Cond.fieldLink "java/lang/String" (38 : Nat) "java/lang/String" "COMPACT_STRINGS" "Z").before a0 Z = true := H _ (List.mem_of_getElem? (i := 14) rfl)
theorem d2_30 : Db jdk_42_method_149_code 30 (.ifCond .eq 28) 28 33 58 := ⟨by decide +kernel, rfl, rfl⟩
theorem d2_33 : Dc jdk_42_method_149_code 33 (.aload_n 1) 1 34 := ⟨by decide +kernel, rfl⟩
theorem d2_34 : Dc jdk_42_method_149_code 34 (.iload_n 2) 1 35 := ⟨by decide +kernel, rfl⟩
theorem d2_35 : Dc jdk_42_method_149_code 35 (.iload_n 3) 1 36 := ⟨by decide +kernel, rfl⟩
theorem d2_36 : Dc jdk_42_method_149_code 36 (.invokestatic 177) 3 39 := ⟨by decide +kernel, rfl⟩
theorem w_18 {a0 : Array Value} {Z : State} (H : Wd a0 Z) : (Jvm.Cond.code ({ cls := "java/lang/StringUTF16", name := "compress", desc := "([CII)[B" } : Jvm.MethodName) jdk_52_method_16_code (6 : Nat) (Option.some (Jvm.ClassFile.FieldType.array Jvm.ClassFile.FieldType.byte))).before a0 Z = true := H _ (List.mem_of_getElem? (i := 18) rfl)
theorem pd_1 : parseMethodDescriptor "([CII)[B" = some ⟨[(.array .char), .int, .int], some (.array .byte)⟩ := by decide +kernel
theorem w_15 {a0 : Array Value} {Z : State} (H : Wd a0 Z) : (Jvm.Cond.methodLink "java/lang/String" (177 : Nat) ({ cls := "java/lang/StringUTF16", name := "compress", desc := "([CII)[B" } : Jvm.MethodName)).before a0 Z = true := H _ (List.mem_of_getElem? (i := 15) rfl)
theorem w_16 {a0 : Array Value} {Z : State} (H : Wd a0 Z) : (Jvm.Cond.static ({ cls := "java/lang/StringUTF16", name := "compress", desc := "([CII)[B" } : Jvm.MethodName)).before a0 Z = true := H _ (List.mem_of_getElem? (i := 16) rfl)
theorem d2_39 : Dc jdk_42_method_149_code 39 (.astore 5) 2 41 := ⟨by decide +kernel, rfl⟩
theorem d2_41 : Dc jdk_42_method_149_code 41 (.aload_n 0) 1 42 := ⟨by decide +kernel, rfl⟩
theorem d2_42 : Dc jdk_42_method_149_code 42 (.aload 5) 2 44 := ⟨by decide +kernel, rfl⟩
theorem d2_44 : Dc jdk_42_method_149_code 44 (.iload_n 3) 1 45 := ⟨by decide +kernel, rfl⟩
theorem d2_45 : Dc jdk_42_method_149_code 45 (.invokestatic 47) 3 48 := ⟨by decide +kernel, rfl⟩
theorem w_25 {a0 : Array Value} {Z : State} (H : Wd a0 Z) : (Jvm.Cond.code ({ cls := "java/lang/StringUTF16", name := "coderFromArrayLen", desc := "([BI)B" } : Jvm.MethodName) jdk_52_method_15_code (2 : Nat) (Option.some Jvm.ClassFile.FieldType.byte)).before a0 Z = true := H _ (List.mem_of_getElem? (i := 25) rfl)
theorem pd_2 : parseMethodDescriptor "([BI)B" = some ⟨[(.array .byte), .int], some .byte⟩ := by decide +kernel
theorem w_23 {a0 : Array Value} {Z : State} (H : Wd a0 Z) : (Jvm.Cond.methodLink "java/lang/String" (47 : Nat) ({ cls := "java/lang/StringUTF16", name := "coderFromArrayLen", desc := "([BI)B" } : Jvm.MethodName)).before a0 Z = true := H _ (List.mem_of_getElem? (i := 23) rfl)
theorem w_24 {a0 : Array Value} {Z : State} (H : Wd a0 Z) : (Jvm.Cond.static ({ cls := "java/lang/StringUTF16", name := "coderFromArrayLen", desc := "([BI)B" } : Jvm.MethodName)).before a0 Z = true := H _ (List.mem_of_getElem? (i := 24) rfl)
theorem d2_48 : Dc jdk_42_method_149_code 48 (.putfield 15) 3 51 := ⟨by decide +kernel, rfl⟩
theorem w_27 {a0 : Array Value} {Z : State} (H : Wd a0 Z) : (Jvm.Cond.laysFinal "java/lang/String" "java/lang/String" "coder" "B").before a0 Z = true := H _ (List.mem_of_getElem? (i := 27) rfl)
theorem w_1 {a0 : Array Value} {Z : State} (H : Wd a0 Z) : (Jvm.Cond.instantiable "java/lang/String" (4 : Nat)).before a0 Z = true := H _ (List.mem_of_getElem? (i := 1) rfl)
theorem w_26 {a0 : Array Value} {Z : State} (H : Wd a0 Z) : (Jvm.Cond.fieldLink "java/lang/String" (15 : Nat) "java/lang/String" "coder" "B").before a0 Z = true := H _ (List.mem_of_getElem? (i := 26) rfl)
theorem d2_51 : Dc jdk_42_method_149_code 51 (.aload_n 0) 1 52 := ⟨by decide +kernel, rfl⟩
theorem d2_52 : Dc jdk_42_method_149_code 52 (.aload 5) 2 54 := ⟨by decide +kernel, rfl⟩
theorem d2_54 : Dc jdk_42_method_149_code 54 (.putfield 9) 3 57 := ⟨by decide +kernel, rfl⟩
theorem w_29 {a0 : Array Value} {Z : State} (H : Wd a0 Z) : (Jvm.Cond.laysFinal "java/lang/String" "java/lang/String" "value" "[B").before a0 Z = true := H _ (List.mem_of_getElem? (i := 29) rfl)
theorem w_28 {a0 : Array Value} {Z : State} (H : Wd a0 Z) : (Jvm.Cond.fieldLink "java/lang/String" (9 : Nat) "java/lang/String" "value" "[B").before a0 Z = true := H _ (List.mem_of_getElem? (i := 28) rfl)
theorem d2_57 : Dc jdk_42_method_149_code 57 (.return_) 1 58 := ⟨by decide +kernel, rfl⟩
set_option maxRecDepth 65536 in
set_option maxHeartbeats 40000000 in
theorem rmS {l : Launch} {Z : State} {a0 : Array Value} {n0 : Nat} (H : Wd a0 Z) (a1 a : Addr) (c cz : Int32) (h0 : Heap) (Z0 : n0 ≤ h0.size) (E_a1 : Exa Z h0 a1 "java/lang/String") (F0_a1 : Fld Z h0 a1 "java/lang/String" "value" "[B" .null) (F1_a1 : Fld Z h0 a1 "java/lang/String" "coder" "B" (.int (0 : Int32))) (A1 : AV Z h0 a .char [(.int c)]) (g1 : n0 ≤ a1) (na1 : a ≠ a1) (hc : ¬ (255 : Int32) < c) (SC : Sta Z h0 "java/lang/String" "COMPACT_STRINGS" "Z" (.int cz)) (hz : ¬ cz = 0) :
    Ct l Z n0 (⟨"java/lang/String", "<init>", "([CIILjava/lang/Void;)V"⟩ : MethodName) jdk_42_method_149_code 6 none [] ({ frames := 2, cells := 1, slots := 1, locals := 40 } : Room) #[(.ref a1), (.ref a), (.int (0 : Int32)), (.int (1 : Int32)), .null] h0 (fun v h => ∃ b, v = none ∧ h0.size ≤ b ∧ Keep h0 h [a1] ∧ Exa Z h a1 "java/lang/String" ∧ Fld Z h a1 "java/lang/String" "value" "[B" (.ref b) ∧ Fld Z h a1 "java/lang/String" "coder" "B" (.int (0 : Int32)) ∧ AV Z h b .byte [(.int (nar .byte (c.toInt8.toInt32)))]) := by
  refine Ct.of (a0 := a0) (L0 := #[.val (.ref a1), .val (.ref a), .val (.int (0 : Int32)), .val (.int (1 : Int32)), .val .null, .unset]) (plainFor_of_name pn_java_lang_String) (fun m => by first | (simp [entryFrame, mkF, argsToLocals, Value.category]; done) | rfl) ?_
  intro κ B0
  have B : Ok κ l Z a0 n0 ({ frames := 2, cells := 1, slots := 1, locals := 40 } : Room) "java/lang/String" "<init>" jdk_42_method_149_code 6 none := B0
  refine go_aload_n B d2_0 rfl rfl ?_
  refine go_initO B (W := 0) d2_1 (w_11 H) (w_12 H) (w_13 H) rfl rfl (by decide) (by decide) ?_
  refine go_iload_n B d2_4 rfl ?_
  refine go_ifne B d2_5 (fun c5 => ?_) (fun c5 => ?_)
  rotate_left
  · exact absurd c5 (by decide)
  refine go_getstatic B d2_27 (w_14 H) SC ?_
  refine go_ifeq B d2_30 (fun c30 => ?_) (fun c30 => ?_)
  · exact absurd c30 hz
  refine go_aload_n B d2_33 rfl rfl ?_
  refine go_iload_n B d2_34 rfl ?_
  refine go_iload_n B d2_35 rfl ?_
  refine go_static B (W := 0) (argsL := [(.ref a), (.int (0 : Int32)), (.int (1 : Int32))]) (st := []) d2_36 (w_15 H) (w_16 H) (w_17 H) (w_18 H) (by decide) (rmD H a c h0 Z0 A1 hc) pd_1 rfl rfl rfl rfl (by decide) (by decide) (by decide) (by decide) ?_
  rintro _ h17 ⟨b12, rfl, g13, K14, A15, C16⟩
  have ne_b12_a1 : b12 ≠ a1 := Nat.ne_of_gt (Nat.lt_of_lt_of_le (E_a1).lt (by omega))
  have ne_b12_a : b12 ≠ a := Nat.ne_of_gt (Nat.lt_of_lt_of_le (A1).lt (by omega))
  have ge_b12 : n0 ≤ b12 := by have q1 := Z0; omega
  have fr_b12 : h0.size ≤ b12 := by have q1 := (show Keep h0 h0 [a1] from (Keep.refl h0 [a1])).1; omega
  show Go κ _ h17 _ _ 39 #[.val (.ref a1), .val (.ref a), .val (.int (0 : Int32)), .val (.int (1 : Int32)), .val .null, .unset] [(.ref b12)]
  refine go_astore B #[.val (.ref a1), .val (.ref a), .val (.int (0 : Int32)), .val (.int (1 : Int32)), .val .null, .val (.ref b12)] d2_39 rfl rfl ?_
  refine go_aload_n B d2_41 rfl rfl ?_
  refine go_aload B d2_42 rfl rfl ?_
  refine go_iload_n B d2_44 rfl ?_
  refine go_static B (W := 1) (argsL := [(.ref b12), (.int (1 : Int32))]) (st := [(.ref a1)]) d2_45 (w_23 H) (w_24 H) (w_17 H) (w_25 H) (by decide) (rmK H b12 c h17 (Nat.le_trans Z0 K14.1) A15) pd_2 rfl rfl rfl rfl (by decide) (by decide) (by decide) (by decide) ?_
  rintro _ h18 ⟨rfl, rfl⟩
  show Go κ _ h17 _ _ 48 #[.val (.ref a1), .val (.ref a), .val (.int (0 : Int32)), .val (.int (1 : Int32)), .val .null, .val (.ref b12)] [(.int (0 : Int32)), (.ref a1)]
  refine go_putfield B (ty := .byte) d2_48 (w_26 H) (Fld.keep F1_a1 K14 nin0) (Exa.keep E_a1 K14) (Or.inr ⟨(w_27 H), rfl, rfl⟩) (w_1 H) (by decide) (by decide) (by decide) g1 ?_
  intro h19 W20
  have f21 : Fld Z h19 a1 "java/lang/String" "coder" "B" (.int (0 : Int32)) := Fld.same W20 (Fld.keep F1_a1 K14 nin0)
  refine go_aload_n B d2_51 rfl rfl ?_
  refine go_aload B d2_52 rfl rfl ?_
  have f22 : Fld Z h19 a1 "java/lang/String" "value" "[B" .null := (Fld.other W20 (Fld.keep F0_a1 K14 nin0) (Or.inr (slot_ne (t := (.array .byte)) (t' := .byte) (Or.inr (w_29 H)) (Or.inr (w_27 H)) (by decide) (by decide) (by decide))))
  refine go_putfield B (ty := (.array .byte)) d2_54 (w_28 H) f22 (Exa.wr W20 (Exa.keep E_a1 K14)) (Or.inr ⟨(w_29 H), rfl, rfl⟩) (w_1 H) (by decide) rfl rfl g1 ?_
  intro h23 W24
  have f25 : Fld Z h23 a1 "java/lang/String" "value" "[B" (.ref b12) := Fld.same W24 f22
  refine go_return B d2_57 (by decide) (by decide) ?_
  have f26 : Keep h0 h23 [a1] := (Keep.wr (Keep.wr (Keep.trans (Keep.refl h0 [a1]) K14 all0) W20 (Or.inl (by simp))) W24 (Or.inl (by simp)))
  have f27 : Fld Z h23 a1 "java/lang/String" "coder" "B" (.int (0 : Int32)) := (Fld.other W24 f21 (Or.inr (slot_ne (t := .byte) (t' := (.array .byte)) (Or.inr (w_27 H)) (Or.inr (w_29 H)) (by decide) (by decide) (by decide))))
  exact ⟨b12, rfl, by assumption, f26, (Exa.wr W24 (Exa.wr W20 (Exa.keep E_a1 K14))), f25, f27, (AV.other (AV.other A15 W20 ne_b12_a1) W24 ne_b12_a1)⟩
theorem d1_0 : Dc jdk_42_method_3_code 0 (.aload_n 0) 1 1 := ⟨by decide +kernel, rfl⟩
theorem d1_1 : Dc jdk_42_method_3_code 1 (.aload_n 1) 1 2 := ⟨by decide +kernel, rfl⟩
theorem d1_2 : Dc jdk_42_method_3_code 2 (.iconst 0) 1 3 := ⟨by decide +kernel, rfl⟩
theorem d1_3 : Dc jdk_42_method_3_code 3 (.aload_n 1) 1 4 := ⟨by decide +kernel, rfl⟩
theorem d1_4 : Dc jdk_42_method_3_code 4 (.arraylength) 1 5 := ⟨by decide +kernel, rfl⟩
theorem d1_5 : Dc jdk_42_method_3_code 5 (.aconst_null) 1 6 := ⟨by decide +kernel, rfl⟩
theorem d1_6 : Dc jdk_42_method_3_code 6 (.invokespecial 27) 3 9 := ⟨by decide +kernel, rfl⟩
theorem w_10 {a0 : Array Value} {Z : State} (H : Wd a0 Z) : (Jvm.Cond.code ({ cls := "java/lang/String", name := "<init>", desc := "([CIILjava/lang/Void;)V" } : Jvm.MethodName) jdk_42_method_149_code (6 : Nat) (Option.none : Option Jvm.ClassFile.FieldType)).before a0 Z = true := H _ (List.mem_of_getElem? (i := 10) rfl)
theorem w_2 {a0 : Array Value} {Z : State} (H : Wd a0 Z) : (Jvm.Cond.initialized "java/lang/String").before a0 Z = true := H _ (List.mem_of_getElem? (i := 2) rfl)
theorem pd_3 : parseMethodDescriptor "([CIILjava/lang/Void;)V" = some ⟨[(.array .char), .int, .int, (.object "java/lang/Void")], none⟩ := by decide +kernel
theorem w_7 {a0 : Array Value} {Z : State} (H : Wd a0 Z) : (Jvm.Cond.methodLink "java/lang/String" (27 : Nat) ({ cls := "java/lang/String", name := "<init>", desc := "([CIILjava/lang/Void;)V" } : Jvm.MethodName)).before a0 Z = true := H _ (List.mem_of_getElem? (i := 7) rfl)
theorem w_8 {a0 : Array Value} {Z : State} (H : Wd a0 Z) : (Jvm.Cond.instanceMethod ({ cls := "java/lang/String", name := "<init>", desc := "([CIILjava/lang/Void;)V" } : Jvm.MethodName)).before a0 Z = true := H _ (List.mem_of_getElem? (i := 8) rfl)
theorem d1_9 : Dc jdk_42_method_3_code 9 (.return_) 1 10 := ⟨by decide +kernel, rfl⟩
set_option maxRecDepth 65536 in
set_option maxHeartbeats 40000000 in
theorem rmT {l : Launch} {Z : State} {a0 : Array Value} {n0 : Nat} (H : Wd a0 Z) (a1 a : Addr) (c cz : Int32) (h0 : Heap) (Z0 : n0 ≤ h0.size) (E_a1 : Exa Z h0 a1 "java/lang/String") (F0_a1 : Fld Z h0 a1 "java/lang/String" "value" "[B" .null) (F1_a1 : Fld Z h0 a1 "java/lang/String" "coder" "B" (.int (0 : Int32))) (A1 : AV Z h0 a .char [(.int c)]) (g1 : n0 ≤ a1) (na1 : a ≠ a1) (hc : ¬ (255 : Int32) < c) (SC : Sta Z h0 "java/lang/String" "COMPACT_STRINGS" "Z" (.int cz)) (hz : ¬ cz = 0) :
    Ct l Z n0 (⟨"java/lang/String", "<init>", "([C)V"⟩ : MethodName) jdk_42_method_3_code 2 none [] ({ frames := 3, cells := 1, slots := 1, locals := 60 } : Room) #[(.ref a1), (.ref a)] h0 (fun v h => ∃ b, v = none ∧ h0.size ≤ b ∧ Keep h0 h [a1] ∧ Exa Z h a1 "java/lang/String" ∧ Fld Z h a1 "java/lang/String" "value" "[B" (.ref b) ∧ Fld Z h a1 "java/lang/String" "coder" "B" (.int (0 : Int32)) ∧ AV Z h b .byte [(.int (nar .byte (c.toInt8.toInt32)))]) := by
  refine Ct.of (a0 := a0) (L0 := #[.val (.ref a1), .val (.ref a)]) (plainFor_of_name pn_java_lang_String) (fun m => by first | (simp [entryFrame, mkF, argsToLocals, Value.category]; done) | rfl) ?_
  intro κ B0
  have B : Ok κ l Z a0 n0 ({ frames := 3, cells := 1, slots := 1, locals := 60 } : Room) "java/lang/String" "<init>" jdk_42_method_3_code 2 none := B0
  refine go_aload_n B d1_0 rfl rfl ?_
  refine go_aload_n B d1_1 rfl rfl ?_
  refine go_iconst B (x := (0 : Int32)) d1_2 rfl ?_
  refine go_aload_n B d1_3 rfl rfl ?_
  refine go_arraylength B (x := (1 : Int32)) d1_4 A1 rfl ?_
  refine go_aconst_null B d1_5 ?_
  refine go_special B (W := 0) (a := a1) (argsL := [(.ref a), (.int (0 : Int32)), (.int (1 : Int32)), .null]) (st := []) d1_6 rfl (w_7 H) (w_8 H) (w_2 H) (w_10 H) (by decide) (rmS H a1 a c cz h0 Z0 E_a1 F0_a1 F1_a1 A1 g1 na1 hc SC hz) pd_3 rfl rfl rfl rfl (by decide) (by decide) (by decide) (by decide) ?_
  rintro _ h35 ⟨b28, rfl, g29, K30, E32, f33, f34, A31⟩
  have ne_b28_a1 : b28 ≠ a1 := Nat.ne_of_gt (Nat.lt_of_lt_of_le (E_a1).lt (by omega))
  have ne_b28_a : b28 ≠ a := Nat.ne_of_gt (Nat.lt_of_lt_of_le (A1).lt (by omega))
  have ge_b28 : n0 ≤ b28 := by have q1 := Z0; omega
  have fr_b28 : h0.size ≤ b28 := by have q1 := (show Keep h0 h0 [a1] from (Keep.refl h0 [a1])).1; omega
  show Go κ _ h35 _ _ 9 #[.val (.ref a1), .val (.ref a)] []
  refine go_return B d1_9 (by decide) (by decide) ?_
  have f36 : Keep h0 h35 [a1] := (Keep.trans (Keep.refl h0 [a1]) K30 (allS (Or.inl (by simp)) all0))
  exact ⟨b28, rfl, by assumption, f36, E32, f33, f34, A31⟩
theorem d10_0 : Dc jdk_42_method_55_code 0 (.aload_n 0) 1 1 := ⟨by decide +kernel, rfl⟩
theorem d10_1 : Dc jdk_42_method_55_code 1 (.getfield 9) 3 4 := ⟨by decide +kernel, rfl⟩
theorem d10_4 : Dc jdk_42_method_55_code 4 (.arraylength) 1 5 := ⟨by decide +kernel, rfl⟩
theorem d10_5 : Db jdk_42_method_55_code 5 (.ifCond .ne 7) 7 8 12 := ⟨by decide +kernel, rfl, rfl⟩
theorem d10_12 : Dc jdk_42_method_55_code 12 (.iconst 0) 1 13 := ⟨by decide +kernel, rfl⟩
theorem d10_13 : Dc jdk_42_method_55_code 13 (.ireturn) 1 14 := ⟨by decide +kernel, rfl⟩
set_option maxRecDepth 65536 in
set_option maxHeartbeats 40000000 in
theorem rmE {l : Launch} {Z : State} {a0 : Array Value} {n0 : Nat} (H : Wd a0 Z) (a b : Addr) (v0 : Value) (h0 : Heap) (Z0 : n0 ≤ h0.size) (F0 : Fld Z h0 a "java/lang/String" "value" "[B" (.ref b)) (A0 : AV Z h0 b .byte [v0]) :
    Ct l Z n0 (⟨"java/lang/String", "isEmpty", "()Z"⟩ : MethodName) jdk_42_method_55_code 1 (some .boolean) [] ({ frames := 0, cells := 0, slots := 0, locals := 0 } : Room) #[(.ref a)] h0 (fun v h => v = some (.int (0 : Int32)) ∧ h0 = h) := by
  refine Ct.of (a0 := a0) (L0 := #[.val (.ref a)]) (plainFor_of_name pn_java_lang_String) (fun m => by first | (simp [entryFrame, mkF, argsToLocals, Value.category]; done) | rfl) ?_
  intro κ B0
  have B : Ok κ l Z a0 n0 ({ frames := 0, cells := 0, slots := 0, locals := 0 } : Room) "java/lang/String" "isEmpty" jdk_42_method_55_code 1 (some .boolean) := B0
  refine go_aload_n B d10_0 rfl rfl ?_
  refine go_getfield B d10_1 (w_28 H) F0 ?_
  refine go_arraylength B (x := (1 : Int32)) d10_4 A0 rfl ?_
  refine go_ifne B d10_5 (fun c5 => ?_) (fun c5 => ?_)
  rotate_left
  · exact absurd c5 (by decide)
  refine go_iconst B (x := (0 : Int32)) d10_12 rfl ?_
  refine go_zreturn B (y := (0 : Int32)) d10_13 (by decide) (by decide) (by decide) ?_
  exact ⟨rfl, rfl⟩
theorem pn_java_util_Objects : plainName "java/util/Objects" = true := by first | (simp [plainName, overriddenIn]; done) | decide +kernel
theorem d9_0 : Dc jdk_31_method_11_code 0 (.aload_n 0) 1 1 := ⟨by decide +kernel, rfl⟩
theorem d9_1 : Db jdk_31_method_11_code 1 (.ifnonnull 12) 12 4 13 := ⟨by decide +kernel, rfl, rfl⟩
theorem d9_13 : Dc jdk_31_method_11_code 13 (.aload_n 0) 1 14 := ⟨by decide +kernel, rfl⟩
theorem d9_14 : Dc jdk_31_method_11_code 14 (.areturn) 1 15 := ⟨by decide +kernel, rfl⟩
set_option maxRecDepth 65536 in
set_option maxHeartbeats 40000000 in
theorem rmR {l : Launch} {Z : State} {a0 : Array Value} {n0 : Nat} (H : Wd a0 Z) (a b : Addr) (h0 : Heap) (Z0 : n0 ≤ h0.size) :
    Ct l Z n0 (⟨"java/util/Objects", "requireNonNull", "(Ljava/lang/Object;Ljava/lang/String;)Ljava/lang/Object;"⟩ : MethodName) jdk_31_method_11_code 2 (some (.object "java/lang/Object")) [] ({ frames := 0, cells := 0, slots := 0, locals := 0 } : Room) #[(.ref a), (.ref b)] h0 (fun v h => v = some (.ref a) ∧ h0 = h) := by
  refine Ct.of (a0 := a0) (L0 := #[.val (.ref a), .val (.ref b)]) (plainFor_of_name pn_java_util_Objects) (fun m => by first | (simp [entryFrame, mkF, argsToLocals, Value.category]; done) | rfl) ?_
  intro κ B0
  have B : Ok κ l Z a0 n0 ({ frames := 0, cells := 0, slots := 0, locals := 0 } : Room) "java/util/Objects" "requireNonNull" jdk_31_method_11_code 2 (some (.object "java/lang/Object")) := B0
  refine go_aload_n B d9_0 rfl rfl ?_
  refine go_ifnonnull_t B d9_1 ?_
  refine go_aload_n B d9_13 rfl rfl ?_
  refine go_areturn B d9_14 rfl rfl rfl (by decide) (by decide) ?_
  exact ⟨rfl, rfl⟩
theorem pn_java_lang_Record : plainName "java/lang/Record" = true := by first | (simp [plainName, overriddenIn]; done) | decide +kernel
theorem d8_0 : Dc jdk_30_method_1_code 0 (.aload_n 0) 1 1 := ⟨by decide +kernel, rfl⟩
theorem d8_1 : Dc jdk_30_method_1_code 1 (.invokespecial 1) 3 4 := ⟨by decide +kernel, rfl⟩
theorem w_41 {a0 : Array Value} {Z : State} (H : Wd a0 Z) : (Jvm.Cond.methodLink "java/lang/Record" (1 : Nat) ({ cls := "java/lang/Object", name := "<init>", desc := "()V" } : Jvm.MethodName)).before a0 Z = true := H _ (List.mem_of_getElem? (i := 41) rfl)
theorem d8_4 : Dc jdk_30_method_1_code 4 (.return_) 1 5 := ⟨by decide +kernel, rfl⟩
set_option maxRecDepth 65536 in
set_option maxHeartbeats 40000000 in
theorem rmRec {l : Launch} {Z : State} {a0 : Array Value} {n0 : Nat} (H : Wd a0 Z) (a : Addr) (h0 : Heap) (Z0 : n0 ≤ h0.size) :
    Ct l Z n0 (⟨"java/lang/Record", "<init>", "()V"⟩ : MethodName) jdk_30_method_1_code 1 none [] ({ frames := 1, cells := 0, slots := 0, locals := 12 } : Room) #[(.ref a)] h0 (fun v h => v = none ∧ h0 = h) := by
  refine Ct.of (a0 := a0) (L0 := #[.val (.ref a)]) (plainFor_of_name pn_java_lang_Record) (fun m => by first | (simp [entryFrame, mkF, argsToLocals, Value.category]; done) | rfl) ?_
  intro κ B0
  have B : Ok κ l Z a0 n0 ({ frames := 1, cells := 0, slots := 0, locals := 12 } : Room) "java/lang/Record" "<init>" jdk_30_method_1_code 1 none := B0
  refine go_aload_n B d8_0 rfl rfl ?_
  refine go_initO B (W := 0) d8_1 (w_41 H) (w_12 H) (w_13 H) rfl rfl (by decide) (by decide) ?_
  refine go_return B d8_4 (by decide) (by decide) ?_
  exact ⟨rfl, rfl⟩
theorem pn_com_example_handpick_handpick_ScoringColumn : plainName "com/example/handpick/handpick/ScoringColumn" = true := by first | (simp [plainName, overriddenIn]; done) | decide +kernel
theorem d7_0 : Dc prog_85_method_1_code 0 (.aload_n 0) 1 1 := ⟨by decide +kernel, rfl⟩
theorem d7_1 : Dc prog_85_method_1_code 1 (.invokespecial 1) 3 4 := ⟨by decide +kernel, rfl⟩
theorem w_40 {a0 : Array Value} {Z : State} (H : Wd a0 Z) : (Jvm.Cond.code ({ cls := "java/lang/Record", name := "<init>", desc := "()V" } : Jvm.MethodName) jdk_30_method_1_code (1 : Nat) (Option.none : Option Jvm.ClassFile.FieldType)).before a0 Z = true := H _ (List.mem_of_getElem? (i := 40) rfl)
theorem w_39 {a0 : Array Value} {Z : State} (H : Wd a0 Z) : (Jvm.Cond.initialized "java/lang/Record").before a0 Z = true := H _ (List.mem_of_getElem? (i := 39) rfl)
theorem pd_4 : parseMethodDescriptor "()V" = some ⟨[], none⟩ := by decide +kernel
theorem w_36 {a0 : Array Value} {Z : State} (H : Wd a0 Z) : (Jvm.Cond.methodLink "com/example/handpick/handpick/ScoringColumn" (1 : Nat) ({ cls := "java/lang/Record", name := "<init>", desc := "()V" } : Jvm.MethodName)).before a0 Z = true := H _ (List.mem_of_getElem? (i := 36) rfl)
theorem w_37 {a0 : Array Value} {Z : State} (H : Wd a0 Z) : (Jvm.Cond.instanceMethod ({ cls := "java/lang/Record", name := "<init>", desc := "()V" } : Jvm.MethodName)).before a0 Z = true := H _ (List.mem_of_getElem? (i := 37) rfl)
theorem d7_4 : Dc prog_85_method_1_code 4 (.aload_n 1) 1 5 := ⟨by decide +kernel, rfl⟩
theorem d7_5 : Dc prog_85_method_1_code 5 (.ldc 7) 2 7 := ⟨by decide +kernel, rfl⟩
theorem w_42 {a0 : Array Value} {Z : State} (H : Wd a0 Z) : (Jvm.Cond.stringLink "com/example/handpick/handpick/ScoringColumn" (7 : Nat) "name").before a0 Z = true := H _ (List.mem_of_getElem? (i := 42) rfl)
theorem w_43 {a0 : Array Value} {Z : State} (H : Wd a0 Z) : (Jvm.Cond.soleField "java/lang/String" "value").before a0 Z = true := H _ (List.mem_of_getElem? (i := 43) rfl)
theorem w_44 {a0 : Array Value} {Z : State} (H : Wd a0 Z) : (Jvm.Cond.soleField "java/lang/String" "coder").before a0 Z = true := H _ (List.mem_of_getElem? (i := 44) rfl)
theorem strings {a0 : Array Value} {Z : State} (H : Wd a0 Z) : ∀ a ∈ Bundle.stringAtoms, a.before a0 Z = true := by
  intro a ha
  simp only [Bundle.stringAtoms, List.mem_cons, List.not_mem_nil, or_false] at ha
  rcases ha with rfl | rfl | rfl | rfl | rfl | rfl | rfl
  · exact (w_2 H)
  · exact (w_1 H)
  · exact (w_19 H)
  · exact (w_29 H)
  · exact (w_27 H)
  · exact (w_43 H)
  · exact (w_44 H)
theorem d7_7 : Dc prog_85_method_1_code 7 (.invokestatic 9) 3 10 := ⟨by decide +kernel, rfl⟩
theorem w_48 {a0 : Array Value} {Z : State} (H : Wd a0 Z) : (Jvm.Cond.code ({ cls := "java/util/Objects", name := "requireNonNull", desc := "(Ljava/lang/Object;Ljava/lang/String;)Ljava/lang/Object;" } : Jvm.MethodName) jdk_31_method_11_code (2 : Nat) (Option.some (Jvm.ClassFile.FieldType.object "java/lang/Object"))).before a0 Z = true := H _ (List.mem_of_getElem? (i := 48) rfl)
theorem w_47 {a0 : Array Value} {Z : State} (H : Wd a0 Z) : (Jvm.Cond.initialized "java/util/Objects").before a0 Z = true := H _ (List.mem_of_getElem? (i := 47) rfl)
theorem pd_5 : parseMethodDescriptor "(Ljava/lang/Object;Ljava/lang/String;)Ljava/lang/Object;" = some ⟨[(.object "java/lang/Object"), (.object "java/lang/String")], some (.object "java/lang/Object")⟩ := by decide +kernel
theorem w_45 {a0 : Array Value} {Z : State} (H : Wd a0 Z) : (Jvm.Cond.methodLink "com/example/handpick/handpick/ScoringColumn" (9 : Nat) ({ cls := "java/util/Objects", name := "requireNonNull", desc := "(Ljava/lang/Object;Ljava/lang/String;)Ljava/lang/Object;" } : Jvm.MethodName)).before a0 Z = true := H _ (List.mem_of_getElem? (i := 45) rfl)
theorem w_46 {a0 : Array Value} {Z : State} (H : Wd a0 Z) : (Jvm.Cond.static ({ cls := "java/util/Objects", name := "requireNonNull", desc := "(Ljava/lang/Object;Ljava/lang/String;)Ljava/lang/Object;" } : Jvm.MethodName)).before a0 Z = true := H _ (List.mem_of_getElem? (i := 46) rfl)
theorem d7_10 : Dc prog_85_method_1_code 10 (.pop) 1 11 := ⟨by decide +kernel, rfl⟩
theorem d7_11 : Dc prog_85_method_1_code 11 (.aload_n 1) 1 12 := ⟨by decide +kernel, rfl⟩
theorem d7_12 : Dc prog_85_method_1_code 12 (.invokevirtual 15) 3 15 := ⟨by decide +kernel, rfl⟩
theorem w_53 {a0 : Array Value} {Z : State} (H : Wd a0 Z) : (Jvm.Cond.code ({ cls := "java/lang/String", name := "isEmpty", desc := "()Z" } : Jvm.MethodName) jdk_42_method_55_code (1 : Nat) (Option.some Jvm.ClassFile.FieldType.boolean)).before a0 Z = true := H _ (List.mem_of_getElem? (i := 53) rfl)
theorem pd_6 : parseMethodDescriptor "()Z" = some ⟨[], some .boolean⟩ := by decide +kernel
theorem w_49 {a0 : Array Value} {Z : State} (H : Wd a0 Z) : (Jvm.Cond.methodLink "com/example/handpick/handpick/ScoringColumn" (15 : Nat) ({ cls := "java/lang/String", name := "isEmpty", desc := "()Z" } : Jvm.MethodName)).before a0 Z = true := H _ (List.mem_of_getElem? (i := 49) rfl)
theorem w_50 {a0 : Array Value} {Z : State} (H : Wd a0 Z) : (Jvm.Cond.declares ({ cls := "java/lang/String", name := "isEmpty", desc := "()Z" } : Jvm.MethodName)).before a0 Z = true := H _ (List.mem_of_getElem? (i := 50) rfl)
theorem w_52 {a0 : Array Value} {Z : State} (H : Wd a0 Z) : (Jvm.Cond.selects "java/lang/String" ({ cls := "java/lang/String", name := "isEmpty", desc := "()Z" } : Jvm.MethodName) ({ cls := "java/lang/String", name := "isEmpty", desc := "()Z" } : Jvm.MethodName)).before a0 Z = true := H _ (List.mem_of_getElem? (i := 52) rfl)
theorem w_51 {a0 : Array Value} {Z : State} (H : Wd a0 Z) : (Jvm.Cond.instanceMethod ({ cls := "java/lang/String", name := "isEmpty", desc := "()Z" } : Jvm.MethodName)).before a0 Z = true := H _ (List.mem_of_getElem? (i := 51) rfl)
theorem d7_15 : Db prog_85_method_1_code 15 (.ifCond .eq 13) 13 18 28 := ⟨by decide +kernel, rfl, rfl⟩
theorem d7_28 : Dc prog_85_method_1_code 28 (.aload_n 0) 1 29 := ⟨by decide +kernel, rfl⟩
theorem d7_29 : Dc prog_85_method_1_code 29 (.aload_n 1) 1 30 := ⟨by decide +kernel, rfl⟩
theorem d7_30 : Dc prog_85_method_1_code 30 (.putfield 28) 3 33 := ⟨by decide +kernel, rfl⟩
theorem w_55 {a0 : Array Value} {Z : State} (H : Wd a0 Z) : (Jvm.Cond.laysFinal "com/example/handpick/handpick/ScoringColumn" "com/example/handpick/handpick/ScoringColumn" "name" "Ljava/lang/String;").before a0 Z = true := H _ (List.mem_of_getElem? (i := 55) rfl)
theorem w_31 {a0 : Array Value} {Z : State} (H : Wd a0 Z) : (Jvm.Cond.instantiable "com/example/handpick/handpick/ScoringColumn" (2 : Nat)).before a0 Z = true := H _ (List.mem_of_getElem? (i := 31) rfl)
theorem w_54 {a0 : Array Value} {Z : State} (H : Wd a0 Z) : (Jvm.Cond.fieldLink "com/example/handpick/handpick/ScoringColumn" (28 : Nat) "com/example/handpick/handpick/ScoringColumn" "name" "Ljava/lang/String;").before a0 Z = true := H _ (List.mem_of_getElem? (i := 54) rfl)
theorem d7_33 : Dc prog_85_method_1_code 33 (.aload_n 0) 1 34 := ⟨by decide +kernel, rfl⟩
theorem d7_34 : Dc prog_85_method_1_code 34 (.iload_n 2) 1 35 := ⟨by decide +kernel, rfl⟩
theorem d7_35 : Dc prog_85_method_1_code 35 (.putfield 33) 3 38 := ⟨by decide +kernel, rfl⟩
theorem w_57 {a0 : Array Value} {Z : State} (H : Wd a0 Z) : (Jvm.Cond.laysFinal "com/example/handpick/handpick/ScoringColumn" "com/example/handpick/handpick/ScoringColumn" "smallerIsBetter" "Z").before a0 Z = true := H _ (List.mem_of_getElem? (i := 57) rfl)
theorem w_56 {a0 : Array Value} {Z : State} (H : Wd a0 Z) : (Jvm.Cond.fieldLink "com/example/handpick/handpick/ScoringColumn" (33 : Nat) "com/example/handpick/handpick/ScoringColumn" "smallerIsBetter" "Z").before a0 Z = true := H _ (List.mem_of_getElem? (i := 56) rfl)
theorem d7_38 : Dc prog_85_method_1_code 38 (.return_) 1 39 := ⟨by decide +kernel, rfl⟩
set_option maxRecDepth 65536 in
set_option maxHeartbeats 40000000 in
theorem rmI0 {l : Launch} {Z : State} {a0 : Array Value} {n0 : Nat} (H : Wd a0 Z) (a t vb : Addr) (v0 : Value) (h0 : Heap) (Z0 : n0 ≤ h0.size) (ga : n0 ≤ a) (E_a : Exa Z h0 a "com/example/handpick/handpick/ScoringColumn") (F0_a : Fld Z h0 a "com/example/handpick/handpick/ScoringColumn" "name" "Ljava/lang/String;" .null) (F1_a : Fld Z h0 a "com/example/handpick/handpick/ScoringColumn" "smallerIsBetter" "Z" (.int (0 : Int32))) (ET : Exa Z h0 t "java/lang/String") (FT : Fld Z h0 t "java/lang/String" "value" "[B" (.ref vb)) (AT : AV Z h0 vb .byte [v0]) (nt : t ≠ a) :
    CtW l Z n0 (⟨"com/example/handpick/handpick/ScoringColumn", "<init>", "(Ljava/lang/String;Z)V"⟩ : MethodName) prog_85_method_1_code 3 none [] ({ frames := 2, cells := 2, slots := 20, locals := 24 } : Room) #[(.ref a), (.ref t), (.int (0 : Int32))] h0 (fun v h => v = none ∧ Keep h0 h [a] ∧ Exa Z h a "com/example/handpick/handpick/ScoringColumn" ∧ Fld Z h a "com/example/handpick/handpick/ScoringColumn" "name" "Ljava/lang/String;" (.ref t) ∧ Fld Z h a "com/example/handpick/handpick/ScoringColumn" "smallerIsBetter" "Z" (.int (0 : Int32))) := by
  refine CtW.of (a0 := a0) (L0 := #[.val (.ref a), .val (.ref t), .val (.int (0 : Int32))]) (plainFor_of_name pn_com_example_handpick_handpick_ScoringColumn) (fun m => by first | (simp [entryFrame, mkF, argsToLocals, Value.category]; done) | rfl) ?_
  intro κ Wk B0
  have B : Ok κ l Z a0 n0 ({ frames := 2, cells := 2, slots := 20, locals := 24 } : Room) "com/example/handpick/handpick/ScoringColumn" "<init>" prog_85_method_1_code 3 none := B0
  refine go_aload_n B d7_0 rfl rfl ?_
  refine go_special B (W := 0) (a := a) (argsL := []) (st := []) d7_1 rfl (w_36 H) (w_37 H) (w_39 H) (w_40 H) (by decide) (rmRec H a h0 Z0) pd_4 rfl rfl rfl rfl (by decide) (by decide) (by decide) (by decide) ?_
  rintro _ h37 ⟨rfl, rfl⟩
  show Go κ _ h0 _ _ 4 #[.val (.ref a), .val (.ref t), .val (.int (0 : Int32))] []
  refine go_aload_n B d7_4 rfl rfl ?_
  refine go_ldcS B Wk (nn := 16) d7_5 (w_42 H) (strings H) (Nat.zero_le _) (by decide) (by decide) (by decide) (by decide) ?_
  intro κ km40 h38 a39 Wk B K41 E42
  show Go κ _ h38 _ _ 7 #[.val (.ref a), .val (.ref t), .val (.int (0 : Int32))] [(.ref a39), (.ref t)]
  refine go_static B (W := 0) (argsL := [(.ref t), (.ref a39)]) (st := []) d7_7 (w_45 H) (w_46 H) (w_47 H) (w_48 H) (by decide) (rmR H t a39 h38 (Nat.le_trans Z0 E42.1)) pd_5 rfl rfl rfl rfl (by decide) (by decide) (by decide) (by decide) ?_
  rintro _ h43 ⟨rfl, rfl⟩
  show Go κ _ h38 _ _ 10 #[.val (.ref a), .val (.ref t), .val (.int (0 : Int32))] [(.ref t)]
  refine go_pop B d7_10 rfl ?_
  refine go_aload_n B d7_11 rfl rfl ?_
  refine go_virtual B (W := 0) (a := t) (argsL := []) (st := []) d7_12 (w_49 H) (w_50 H) (w_52 H) (w_51 H) (w_2 H) (w_53 H) (by decide) (Exa.ext E42 ET) (rmE H t vb v0 h38 (Nat.le_trans Z0 E42.1) (Fld.ext E42 FT) (AV.ext AT E42)) pd_6 rfl rfl rfl rfl (by decide) (by decide) (by decide) (by decide) ?_
  rintro _ h44 ⟨rfl, rfl⟩
  show Go κ _ h38 _ _ 15 #[.val (.ref a), .val (.ref t), .val (.int (0 : Int32))] [(.int (0 : Int32))]
  refine go_ifeq B d7_15 (fun c15 => ?_) (fun c15 => ?_)
  rotate_left
  · exact absurd c15 (by decide)
  refine go_aload_n B d7_28 rfl rfl ?_
  refine go_aload_n B d7_29 rfl rfl ?_
  refine go_putfield B (ty := (.object "java/lang/String")) d7_30 (w_54 H) (Fld.ext E42 F0_a) (Exa.ext E42 E_a) (Or.inr ⟨(w_55 H), rfl, rfl⟩) (w_31 H) (by decide) rfl rfl ga ?_
  intro h45 W46
  have f47 : Fld Z h45 a "com/example/handpick/handpick/ScoringColumn" "name" "Ljava/lang/String;" (.ref t) := Fld.same W46 (Fld.ext E42 F0_a)
  refine go_aload_n B d7_33 rfl rfl ?_
  refine go_iload_n B d7_34 rfl ?_
  have f48 : Fld Z h45 a "com/example/handpick/handpick/ScoringColumn" "smallerIsBetter" "Z" (.int (0 : Int32)) := (Fld.other W46 (Fld.ext E42 F1_a) (Or.inr (slot_ne (t := .boolean) (t' := (.object "java/lang/String")) (Or.inr (w_57 H)) (Or.inr (w_55 H)) (by decide) (by decide) (by decide))))
  refine go_putfield B (ty := .boolean) d7_35 (w_56 H) f48 (Exa.wr W46 (Exa.ext E42 E_a)) (Or.inr ⟨(w_57 H), rfl, rfl⟩) (w_31 H) (by decide) (by decide) (by decide) ga ?_
  intro h49 W50
  have f51 : Fld Z h49 a "com/example/handpick/handpick/ScoringColumn" "smallerIsBetter" "Z" (.int (0 : Int32)) := Fld.same W50 f48
  have f52 : km40 ≤ h49.size := (Nat.le_trans (Nat.le_trans K41 (Nat.le_of_eq (Wr.size W46).symm)) (Nat.le_of_eq (Wr.size W50).symm))
  refine go_return B d7_38 (by decide) (by decide) ?_ (hkm := f52)
  have f53 : Keep h0 h49 [a] := (Keep.wr (Keep.wr (Keep.ext (Keep.refl h0 _) E42) W46 (Or.inl (by simp))) W50 (Or.inl (by simp)))
  have f54 : Fld Z h49 a "com/example/handpick/handpick/ScoringColumn" "name" "Ljava/lang/String;" (.ref t) := (Fld.other W50 f47 (Or.inr (slot_ne (t := (.object "java/lang/String")) (t' := .boolean) (Or.inr (w_55 H)) (Or.inr (w_57 H)) (by decide) (by decide) (by decide))))
  exact ⟨rfl, f53, (Exa.wr W50 (Exa.wr W46 (Exa.ext E42 E_a))), f54, f51⟩
set_option maxRecDepth 65536 in
set_option maxHeartbeats 40000000 in
theorem rmI1 {l : Launch} {Z : State} {a0 : Array Value} {n0 : Nat} (H : Wd a0 Z) (a t vb : Addr) (v0 : Value) (h0 : Heap) (Z0 : n0 ≤ h0.size) (ga : n0 ≤ a) (E_a : Exa Z h0 a "com/example/handpick/handpick/ScoringColumn") (F0_a : Fld Z h0 a "com/example/handpick/handpick/ScoringColumn" "name" "Ljava/lang/String;" .null) (F1_a : Fld Z h0 a "com/example/handpick/handpick/ScoringColumn" "smallerIsBetter" "Z" (.int (0 : Int32))) (ET : Exa Z h0 t "java/lang/String") (FT : Fld Z h0 t "java/lang/String" "value" "[B" (.ref vb)) (AT : AV Z h0 vb .byte [v0]) (nt : t ≠ a) :
    CtW l Z n0 (⟨"com/example/handpick/handpick/ScoringColumn", "<init>", "(Ljava/lang/String;Z)V"⟩ : MethodName) prog_85_method_1_code 3 none [] ({ frames := 2, cells := 2, slots := 20, locals := 24 } : Room) #[(.ref a), (.ref t), (.int (1 : Int32))] h0 (fun v h => v = none ∧ Keep h0 h [a] ∧ Exa Z h a "com/example/handpick/handpick/ScoringColumn" ∧ Fld Z h a "com/example/handpick/handpick/ScoringColumn" "name" "Ljava/lang/String;" (.ref t) ∧ Fld Z h a "com/example/handpick/handpick/ScoringColumn" "smallerIsBetter" "Z" (.int (1 : Int32))) := by
  refine CtW.of (a0 := a0) (L0 := #[.val (.ref a), .val (.ref t), .val (.int (1 : Int32))]) (plainFor_of_name pn_com_example_handpick_handpick_ScoringColumn) (fun m => by first | (simp [entryFrame, mkF, argsToLocals, Value.category]; done) | rfl) ?_
  intro κ Wk B0
  have B : Ok κ l Z a0 n0 ({ frames := 2, cells := 2, slots := 20, locals := 24 } : Room) "com/example/handpick/handpick/ScoringColumn" "<init>" prog_85_method_1_code 3 none := B0
  refine go_aload_n B d7_0 rfl rfl ?_
  refine go_special B (W := 0) (a := a) (argsL := []) (st := []) d7_1 rfl (w_36 H) (w_37 H) (w_39 H) (w_40 H) (by decide) (rmRec H a h0 Z0) pd_4 rfl rfl rfl rfl (by decide) (by decide) (by decide) (by decide) ?_
  rintro _ h55 ⟨rfl, rfl⟩
  show Go κ _ h0 _ _ 4 #[.val (.ref a), .val (.ref t), .val (.int (1 : Int32))] []
  refine go_aload_n B d7_4 rfl rfl ?_
  refine go_ldcS B Wk (nn := 16) d7_5 (w_42 H) (strings H) (Nat.zero_le _) (by decide) (by decide) (by decide) (by decide) ?_
  intro κ km58 h56 a57 Wk B K59 E60
  show Go κ _ h56 _ _ 7 #[.val (.ref a), .val (.ref t), .val (.int (1 : Int32))] [(.ref a57), (.ref t)]
  refine go_static B (W := 0) (argsL := [(.ref t), (.ref a57)]) (st := []) d7_7 (w_45 H) (w_46 H) (w_47 H) (w_48 H) (by decide) (rmR H t a57 h56 (Nat.le_trans Z0 E60.1)) pd_5 rfl rfl rfl rfl (by decide) (by decide) (by decide) (by decide) ?_
  rintro _ h61 ⟨rfl, rfl⟩
  show Go κ _ h56 _ _ 10 #[.val (.ref a), .val (.ref t), .val (.int (1 : Int32))] [(.ref t)]
  refine go_pop B d7_10 rfl ?_
  refine go_aload_n B d7_11 rfl rfl ?_
  refine go_virtual B (W := 0) (a := t) (argsL := []) (st := []) d7_12 (w_49 H) (w_50 H) (w_52 H) (w_51 H) (w_2 H) (w_53 H) (by decide) (Exa.ext E60 ET) (rmE H t vb v0 h56 (Nat.le_trans Z0 E60.1) (Fld.ext E60 FT) (AV.ext AT E60)) pd_6 rfl rfl rfl rfl (by decide) (by decide) (by decide) (by decide) ?_
  rintro _ h62 ⟨rfl, rfl⟩
  show Go κ _ h56 _ _ 15 #[.val (.ref a), .val (.ref t), .val (.int (1 : Int32))] [(.int (0 : Int32))]
  refine go_ifeq B d7_15 (fun c15 => ?_) (fun c15 => ?_)
  rotate_left
  · exact absurd c15 (by decide)
  refine go_aload_n B d7_28 rfl rfl ?_
  refine go_aload_n B d7_29 rfl rfl ?_
  refine go_putfield B (ty := (.object "java/lang/String")) d7_30 (w_54 H) (Fld.ext E60 F0_a) (Exa.ext E60 E_a) (Or.inr ⟨(w_55 H), rfl, rfl⟩) (w_31 H) (by decide) rfl rfl ga ?_
  intro h63 W64
  have f65 : Fld Z h63 a "com/example/handpick/handpick/ScoringColumn" "name" "Ljava/lang/String;" (.ref t) := Fld.same W64 (Fld.ext E60 F0_a)
  refine go_aload_n B d7_33 rfl rfl ?_
  refine go_iload_n B d7_34 rfl ?_
  have f66 : Fld Z h63 a "com/example/handpick/handpick/ScoringColumn" "smallerIsBetter" "Z" (.int (0 : Int32)) := (Fld.other W64 (Fld.ext E60 F1_a) (Or.inr (slot_ne (t := .boolean) (t' := (.object "java/lang/String")) (Or.inr (w_57 H)) (Or.inr (w_55 H)) (by decide) (by decide) (by decide))))
  refine go_putfield B (ty := .boolean) d7_35 (w_56 H) f66 (Exa.wr W64 (Exa.ext E60 E_a)) (Or.inr ⟨(w_57 H), rfl, rfl⟩) (w_31 H) (by decide) (by decide) (by decide) ga ?_
  intro h67 W68
  have f69 : Fld Z h67 a "com/example/handpick/handpick/ScoringColumn" "smallerIsBetter" "Z" (.int (1 : Int32)) := Fld.same W68 f66
  have f70 : km58 ≤ h67.size := (Nat.le_trans (Nat.le_trans K59 (Nat.le_of_eq (Wr.size W64).symm)) (Nat.le_of_eq (Wr.size W68).symm))
  refine go_return B d7_38 (by decide) (by decide) ?_ (hkm := f70)
  have f71 : Keep h0 h67 [a] := (Keep.wr (Keep.wr (Keep.ext (Keep.refl h0 _) E60) W64 (Or.inl (by simp))) W68 (Or.inl (by simp)))
  have f72 : Fld Z h67 a "com/example/handpick/handpick/ScoringColumn" "name" "Ljava/lang/String;" (.ref t) := (Fld.other W68 f65 (Or.inr (slot_ne (t := (.object "java/lang/String")) (t' := .boolean) (Or.inr (w_55 H)) (Or.inr (w_57 H)) (by decide) (by decide) (by decide))))
  exact ⟨rfl, f71, (Exa.wr W68 (Exa.wr W64 (Exa.ext E60 E_a))), f72, f69⟩
theorem d11_0 : Dc prog_85_method_4_code 0 (.aload_n 1) 1 1 := ⟨by decide +kernel, rfl⟩
theorem d11_1 : Dc prog_85_method_4_code 1 (.arraylength) 1 2 := ⟨by decide +kernel, rfl⟩
theorem d11_2 : Dc prog_85_method_4_code 2 (.newarray .double) 2 4 := ⟨by decide +kernel, rfl⟩
theorem w_58 {a0 : Array Value} {Z : State} (H : Wd a0 Z) : (Jvm.Cond.arrayClass Jvm.ClassFile.FieldType.double).before a0 Z = true := H _ (List.mem_of_getElem? (i := 58) rfl)
theorem d11_4 : Dc prog_85_method_4_code 4 (.astore_n 2) 1 5 := ⟨by decide +kernel, rfl⟩
theorem d11_5 : Dc prog_85_method_4_code 5 (.iconst 0) 1 6 := ⟨by decide +kernel, rfl⟩
theorem d11_6 : Dc prog_85_method_4_code 6 (.istore_n 3) 1 7 := ⟨by decide +kernel, rfl⟩
theorem d11_7 : Dc prog_85_method_4_code 7 (.iload_n 3) 1 8 := ⟨by decide +kernel, rfl⟩
theorem d11_8 : Dc prog_85_method_4_code 8 (.aload_n 1) 1 9 := ⟨by decide +kernel, rfl⟩
theorem d11_9 : Dc prog_85_method_4_code 9 (.arraylength) 1 10 := ⟨by decide +kernel, rfl⟩
theorem d11_10 : Db prog_85_method_4_code 10 (.if_icmp .ge 29) 29 13 39 := ⟨by decide +kernel, rfl, rfl⟩
theorem d11_39 : Dc prog_85_method_4_code 39 (.aload_n 2) 1 40 := ⟨by decide +kernel, rfl⟩
theorem d11_40 : Dc prog_85_method_4_code 40 (.areturn) 1 41 := ⟨by decide +kernel, rfl⟩
set_option maxRecDepth 65536 in
set_option maxHeartbeats 40000000 in
theorem rmO00 {l : Launch} {Z : State} {a0 : Array Value} {n0 : Nat} (H : Wd a0 Z) (a va : Addr) (h0 : Heap) (Z0 : n0 ≤ h0.size) (F0 : Fld Z h0 a "com/example/handpick/handpick/ScoringColumn" "smallerIsBetter" "Z" (.int (0 : Int32))) (A0 : AV Z h0 va .double []) :
    Ct l Z n0 (⟨"com/example/handpick/handpick/ScoringColumn", "orient", "([D)[D"⟩ : MethodName) prog_85_method_4_code 4 (some (.array .double)) [] ({ frames := 0, cells := 1, slots := 0, locals := 0 } : Room) #[(.ref a), (.ref va)] h0 (fun v h => ∃ b, v = some (.ref b) ∧ h0.size ≤ b ∧ Keep h0 h [] ∧ AV Z h b .double []) := by
  refine Ct.of (a0 := a0) (L0 := #[.val (.ref a), .val (.ref va), .unset, .unset]) (plainFor_of_name pn_com_example_handpick_handpick_ScoringColumn) (fun m => by first | (simp [entryFrame, mkF, argsToLocals, Value.category]; done) | rfl) ?_
  intro κ B0
  have B : Ok κ l Z a0 n0 ({ frames := 0, cells := 1, slots := 0, locals := 0 } : Room) "com/example/handpick/handpick/ScoringColumn" "orient" prog_85_method_4_code 4 (some (.array .double)) := B0
  refine go_aload_n B d11_0 rfl rfl ?_
  refine go_arraylength B (x := (0 : Int32)) d11_1 A0 rfl ?_
  refine go_newarray B (i := 0) (cap := 0) d11_2 (w_58 H) rfl (Nat.le_refl _) (by decide) (by decide) (by decide) ?_
  intro h73 a74 hba74 Ea74 Aa74 Ca74
  have ne_a74_a : a74 ≠ a := Nat.ne_of_gt (Nat.lt_of_lt_of_le (F0).lt (by omega))
  have ne_a74_va : a74 ≠ va := Nat.ne_of_gt (Nat.lt_of_lt_of_le (A0).lt (by omega))
  have ge_a74 : n0 ≤ a74 := by have q1 := Z0; omega
  have fr_a74 : h0.size ≤ a74 := by have q1 := (show Keep h0 h0 [] from (Keep.refl h0 [])).1; omega
  have Ba74 : AV Z h73 a74 .double [] := Aa74
  refine go_astore_n B #[.val (.ref a), .val (.ref va), .val (.ref a74), .unset] d11_4 rfl rfl ?_
  refine go_iconst B (x := (0 : Int32)) d11_5 rfl ?_
  refine go_istore_n B #[.val (.ref a), .val (.ref va), .val (.ref a74), .val (.int (0 : Int32))] d11_6 rfl ?_
  refine go_iload_n B d11_7 rfl ?_
  refine go_aload_n B d11_8 rfl rfl ?_
  refine go_arraylength B (x := (0 : Int32)) d11_9 (AV.ext A0 Ea74) rfl ?_
  refine go_icmpge B d11_10 (fun c10 => ?_) (fun c10 => ?_)
  rotate_left
  · exact absurd c10 (by decide)
  refine go_aload_n B d11_39 rfl rfl ?_
  refine go_areturn B d11_40 rfl rfl rfl (by decide) (by decide) ?_
  exact ⟨a74, rfl, by omega, (Keep.ext (Keep.refl h0 []) Ea74), Ba74⟩
set_option maxRecDepth 65536 in
set_option maxHeartbeats 40000000 in
theorem rmO01 {l : Launch} {Z : State} {a0 : Array Value} {n0 : Nat} (H : Wd a0 Z) (a va : Addr) (h0 : Heap) (Z0 : n0 ≤ h0.size) (F0 : Fld Z h0 a "com/example/handpick/handpick/ScoringColumn" "smallerIsBetter" "Z" (.int (1 : Int32))) (A0 : AV Z h0 va .double []) :
    Ct l Z n0 (⟨"com/example/handpick/handpick/ScoringColumn", "orient", "([D)[D"⟩ : MethodName) prog_85_method_4_code 4 (some (.array .double)) [] ({ frames := 0, cells := 1, slots := 0, locals := 0 } : Room) #[(.ref a), (.ref va)] h0 (fun v h => ∃ b, v = some (.ref b) ∧ h0.size ≤ b ∧ Keep h0 h [] ∧ AV Z h b .double []) := by
  refine Ct.of (a0 := a0) (L0 := #[.val (.ref a), .val (.ref va), .unset, .unset]) (plainFor_of_name pn_com_example_handpick_handpick_ScoringColumn) (fun m => by first | (simp [entryFrame, mkF, argsToLocals, Value.category]; done) | rfl) ?_
  intro κ B0
  have B : Ok κ l Z a0 n0 ({ frames := 0, cells := 1, slots := 0, locals := 0 } : Room) "com/example/handpick/handpick/ScoringColumn" "orient" prog_85_method_4_code 4 (some (.array .double)) := B0
  refine go_aload_n B d11_0 rfl rfl ?_
  refine go_arraylength B (x := (0 : Int32)) d11_1 A0 rfl ?_
  refine go_newarray B (i := 0) (cap := 0) d11_2 (w_58 H) rfl (Nat.le_refl _) (by decide) (by decide) (by decide) ?_
  intro h75 a76 hba76 Ea76 Aa76 Ca76
  have ne_a76_a : a76 ≠ a := Nat.ne_of_gt (Nat.lt_of_lt_of_le (F0).lt (by omega))
  have ne_a76_va : a76 ≠ va := Nat.ne_of_gt (Nat.lt_of_lt_of_le (A0).lt (by omega))
  have ge_a76 : n0 ≤ a76 := by have q1 := Z0; omega
  have fr_a76 : h0.size ≤ a76 := by have q1 := (show Keep h0 h0 [] from (Keep.refl h0 [])).1; omega
  have Ba76 : AV Z h75 a76 .double [] := Aa76
  refine go_astore_n B #[.val (.ref a), .val (.ref va), .val (.ref a76), .unset] d11_4 rfl rfl ?_
  refine go_iconst B (x := (0 : Int32)) d11_5 rfl ?_
  refine go_istore_n B #[.val (.ref a), .val (.ref va), .val (.ref a76), .val (.int (0 : Int32))] d11_6 rfl ?_
  refine go_iload_n B d11_7 rfl ?_
  refine go_aload_n B d11_8 rfl rfl ?_
  refine go_arraylength B (x := (0 : Int32)) d11_9 (AV.ext A0 Ea76) rfl ?_
  refine go_icmpge B d11_10 (fun c10 => ?_) (fun c10 => ?_)
  rotate_left
  · exact absurd c10 (by decide)
  refine go_aload_n B d11_39 rfl rfl ?_
  refine go_areturn B d11_40 rfl rfl rfl (by decide) (by decide) ?_
  exact ⟨a76, rfl, by omega, (Keep.ext (Keep.refl h0 []) Ea76), Ba76⟩
theorem d11_13 : Dc prog_85_method_4_code 13 (.aload_n 2) 1 14 := ⟨by decide +kernel, rfl⟩
theorem d11_14 : Dc prog_85_method_4_code 14 (.iload_n 3) 1 15 := ⟨by decide +kernel, rfl⟩
theorem d11_15 : Dc prog_85_method_4_code 15 (.aload_n 0) 1 16 := ⟨by decide +kernel, rfl⟩
theorem d11_16 : Dc prog_85_method_4_code 16 (.getfield 33) 3 19 := ⟨by decide +kernel, rfl⟩
theorem d11_19 : Db prog_85_method_4_code 19 (.ifCond .eq 10) 10 22 29 := ⟨by decide +kernel, rfl, rfl⟩
theorem d11_29 : Dc prog_85_method_4_code 29 (.aload_n 1) 1 30 := ⟨by decide +kernel, rfl⟩
theorem d11_30 : Dc prog_85_method_4_code 30 (.iload_n 3) 1 31 := ⟨by decide +kernel, rfl⟩
theorem d11_31 : Dc prog_85_method_4_code 31 (.daload) 1 32 := ⟨by decide +kernel, rfl⟩
theorem d11_32 : Dc prog_85_method_4_code 32 (.dastore) 1 33 := ⟨by decide +kernel, rfl⟩
theorem d11_33 : Dc prog_85_method_4_code 33 (.iinc 3 1) 3 36 := ⟨by decide +kernel, rfl⟩
theorem d11_36 : Db prog_85_method_4_code 36 (.goto (-29)) (-29) 39 7 := ⟨by decide +kernel, rfl, rfl⟩
set_option maxRecDepth 65536 in
set_option maxHeartbeats 40000000 in
theorem rmO10 {l : Launch} {Z : State} {a0 : Array Value} {n0 : Nat} (H : Wd a0 Z) (a va : Addr) (x0 : UInt64) (h0 : Heap) (Z0 : n0 ≤ h0.size) (F0 : Fld Z h0 a "com/example/handpick/handpick/ScoringColumn" "smallerIsBetter" "Z" (.int (0 : Int32))) (A0 : AV Z h0 va .double [(.double x0)]) :
    Ct l Z n0 (⟨"com/example/handpick/handpick/ScoringColumn", "orient", "([D)[D"⟩ : MethodName) prog_85_method_4_code 4 (some (.array .double)) [] ({ frames := 0, cells := 1, slots := 1, locals := 0 } : Room) #[(.ref a), (.ref va)] h0 (fun v h => ∃ b, v = some (.ref b) ∧ h0.size ≤ b ∧ Keep h0 h [] ∧ AV Z h b .double [(.double x0)]) := by
  refine Ct.of (a0 := a0) (L0 := #[.val (.ref a), .val (.ref va), .unset, .unset]) (plainFor_of_name pn_com_example_handpick_handpick_ScoringColumn) (fun m => by first | (simp [entryFrame, mkF, argsToLocals, Value.category]; done) | rfl) ?_
  intro κ B0
  have B : Ok κ l Z a0 n0 ({ frames := 0, cells := 1, slots := 1, locals := 0 } : Room) "com/example/handpick/handpick/ScoringColumn" "orient" prog_85_method_4_code 4 (some (.array .double)) := B0
  refine go_aload_n B d11_0 rfl rfl ?_
  refine go_arraylength B (x := (1 : Int32)) d11_1 A0 rfl ?_
  refine go_newarray B (i := 1) (cap := 1) d11_2 (w_58 H) rfl (Nat.le_refl _) (by decide) (by decide) (by decide) ?_
  intro h77 a78 hba78 Ea78 Aa78 Ca78
  have ne_a78_a : a78 ≠ a := Nat.ne_of_gt (Nat.lt_of_lt_of_le (F0).lt (by omega))
  have ne_a78_va : a78 ≠ va := Nat.ne_of_gt (Nat.lt_of_lt_of_le (A0).lt (by omega))
  have ge_a78 : n0 ≤ a78 := by have q1 := Z0; omega
  have fr_a78 : h0.size ≤ a78 := by have q1 := (show Keep h0 h0 [] from (Keep.refl h0 [])).1; omega
  have Ba78 : AV Z h77 a78 .double [(.double (0 : UInt64))] := Aa78
  refine go_astore_n B #[.val (.ref a), .val (.ref va), .val (.ref a78), .unset] d11_4 rfl rfl ?_
  refine go_iconst B (x := (0 : Int32)) d11_5 rfl ?_
  refine go_istore_n B #[.val (.ref a), .val (.ref va), .val (.ref a78), .val (.int (0 : Int32))] d11_6 rfl ?_
  refine go_iload_n B d11_7 rfl ?_
  refine go_aload_n B d11_8 rfl rfl ?_
  refine go_arraylength B (x := (1 : Int32)) d11_9 (AV.ext A0 Ea78) rfl ?_
  refine go_icmpge B d11_10 (fun c10 => ?_) (fun c10 => ?_)
  · exact absurd c10 (by decide)
  refine go_aload_n B d11_13 rfl rfl ?_
  refine go_iload_n B d11_14 rfl ?_
  refine go_aload_n B d11_15 rfl rfl ?_
  refine go_getfield B d11_16 (w_56 H) (Fld.ext Ea78 F0) ?_
  refine go_ifeq B d11_19 (fun c19 => ?_) (fun c19 => ?_)
  rotate_left
  · exact absurd c19 (by decide)
  refine go_aload_n B d11_29 rfl rfl ?_
  refine go_iload_n B d11_30 rfl ?_
  refine go_daload B (i := 0) (v := (.double x0)) d11_31 (AV.ext A0 Ea78) rfl rfl ?_
  refine go_dastore B (i := 0) d11_32 Ba78 rfl (show 0 < 1 from by decide) ge_a78 ?_
  intro h79 W80 A81
  have A82 : AV Z h79 a78 .double [(.double x0)] := A81
  refine go_iinc B #[.val (.ref a), .val (.ref va), .val (.ref a78), .val (.int ((0 : Int32) + (1 : Int32)))] d11_33 (z := (1 : Int32)) rfl rfl rfl ?_
  rw [show ((0 : Int32) + (1 : Int32)) = (1 : Int32) from by decide]
  refine go_goto B d11_36 ?_
  refine go_iload_n B d11_7 rfl ?_
  refine go_aload_n B d11_8 rfl rfl ?_
  refine go_arraylength B (x := (1 : Int32)) d11_9 (AV.other (AV.ext A0 Ea78) W80 (Ne.symm ne_a78_va)) rfl ?_
  refine go_icmpge B d11_10 (fun c10_83 => ?_) (fun c10_83 => ?_)
  rotate_left
  · exact absurd c10_83 (by decide)
  refine go_aload_n B d11_39 rfl rfl ?_
  refine go_areturn B d11_40 rfl rfl rfl (by decide) (by decide) ?_
  have f84 : Keep h0 h79 [] := (Keep.wr (Keep.ext (Keep.refl h0 []) Ea78) W80 (Or.inr fr_a78))
  exact ⟨a78, rfl, by omega, f84, A82⟩
theorem d11_22 : Dc prog_85_method_4_code 22 (.aload_n 1) 1 23 := ⟨by decide +kernel, rfl⟩
theorem d11_23 : Dc prog_85_method_4_code 23 (.iload_n 3) 1 24 := ⟨by decide +kernel, rfl⟩
theorem d11_24 : Dc prog_85_method_4_code 24 (.daload) 1 25 := ⟨by decide +kernel, rfl⟩
theorem d11_25 : Dc prog_85_method_4_code 25 (.dneg) 1 26 := ⟨by decide +kernel, rfl⟩
theorem d11_26 : Db prog_85_method_4_code 26 (.goto 6) 6 29 32 := ⟨by decide +kernel, rfl, rfl⟩
set_option maxRecDepth 65536 in
set_option maxHeartbeats 40000000 in
theorem rmO11 {l : Launch} {Z : State} {a0 : Array Value} {n0 : Nat} (H : Wd a0 Z) (a va : Addr) (x0 : UInt64) (h0 : Heap) (Z0 : n0 ≤ h0.size) (F0 : Fld Z h0 a "com/example/handpick/handpick/ScoringColumn" "smallerIsBetter" "Z" (.int (1 : Int32))) (A0 : AV Z h0 va .double [(.double x0)]) :
    Ct l Z n0 (⟨"com/example/handpick/handpick/ScoringColumn", "orient", "([D)[D"⟩ : MethodName) prog_85_method_4_code 4 (some (.array .double)) [] ({ frames := 0, cells := 1, slots := 1, locals := 0 } : Room) #[(.ref a), (.ref va)] h0 (fun v h => ∃ b, v = some (.ref b) ∧ h0.size ≤ b ∧ Keep h0 h [] ∧ AV Z h b .double [(.double (FP.dneg x0))]) := by
  refine Ct.of (a0 := a0) (L0 := #[.val (.ref a), .val (.ref va), .unset, .unset]) (plainFor_of_name pn_com_example_handpick_handpick_ScoringColumn) (fun m => by first | (simp [entryFrame, mkF, argsToLocals, Value.category]; done) | rfl) ?_
  intro κ B0
  have B : Ok κ l Z a0 n0 ({ frames := 0, cells := 1, slots := 1, locals := 0 } : Room) "com/example/handpick/handpick/ScoringColumn" "orient" prog_85_method_4_code 4 (some (.array .double)) := B0
  refine go_aload_n B d11_0 rfl rfl ?_
  refine go_arraylength B (x := (1 : Int32)) d11_1 A0 rfl ?_
  refine go_newarray B (i := 1) (cap := 1) d11_2 (w_58 H) rfl (Nat.le_refl _) (by decide) (by decide) (by decide) ?_
  intro h85 a86 hba86 Ea86 Aa86 Ca86
  have ne_a86_a : a86 ≠ a := Nat.ne_of_gt (Nat.lt_of_lt_of_le (F0).lt (by omega))
  have ne_a86_va : a86 ≠ va := Nat.ne_of_gt (Nat.lt_of_lt_of_le (A0).lt (by omega))
  have ge_a86 : n0 ≤ a86 := by have q1 := Z0; omega
  have fr_a86 : h0.size ≤ a86 := by have q1 := (show Keep h0 h0 [] from (Keep.refl h0 [])).1; omega
  have Ba86 : AV Z h85 a86 .double [(.double (0 : UInt64))] := Aa86
  refine go_astore_n B #[.val (.ref a), .val (.ref va), .val (.ref a86), .unset] d11_4 rfl rfl ?_
  refine go_iconst B (x := (0 : Int32)) d11_5 rfl ?_
  refine go_istore_n B #[.val (.ref a), .val (.ref va), .val (.ref a86), .val (.int (0 : Int32))] d11_6 rfl ?_
  refine go_iload_n B d11_7 rfl ?_
  refine go_aload_n B d11_8 rfl rfl ?_
  refine go_arraylength B (x := (1 : Int32)) d11_9 (AV.ext A0 Ea86) rfl ?_
  refine go_icmpge B d11_10 (fun c10 => ?_) (fun c10 => ?_)
  · exact absurd c10 (by decide)
  refine go_aload_n B d11_13 rfl rfl ?_
  refine go_iload_n B d11_14 rfl ?_
  refine go_aload_n B d11_15 rfl rfl ?_
  refine go_getfield B d11_16 (w_56 H) (Fld.ext Ea86 F0) ?_
  refine go_ifeq B d11_19 (fun c19 => ?_) (fun c19 => ?_)
  · exact absurd c19 (by decide)
  refine go_aload_n B d11_22 rfl rfl ?_
  refine go_iload_n B d11_23 rfl ?_
  refine go_daload B (i := 0) (v := (.double x0)) d11_24 (AV.ext A0 Ea86) rfl rfl ?_
  refine go_dneg B d11_25 ?_
  refine go_goto B d11_26 ?_
  refine go_dastore B (i := 0) d11_32 Ba86 rfl (show 0 < 1 from by decide) ge_a86 ?_
  intro h87 W88 A89
  have A90 : AV Z h87 a86 .double [(.double (FP.dneg x0))] := A89
  refine go_iinc B #[.val (.ref a), .val (.ref va), .val (.ref a86), .val (.int ((0 : Int32) + (1 : Int32)))] d11_33 (z := (1 : Int32)) rfl rfl rfl ?_
  rw [show ((0 : Int32) + (1 : Int32)) = (1 : Int32) from by decide]
  refine go_goto B d11_36 ?_
  refine go_iload_n B d11_7 rfl ?_
  refine go_aload_n B d11_8 rfl rfl ?_
  refine go_arraylength B (x := (1 : Int32)) d11_9 (AV.other (AV.ext A0 Ea86) W88 (Ne.symm ne_a86_va)) rfl ?_
  refine go_icmpge B d11_10 (fun c10_91 => ?_) (fun c10_91 => ?_)
  rotate_left
  · exact absurd c10_91 (by decide)
  refine go_aload_n B d11_39 rfl rfl ?_
  refine go_areturn B d11_40 rfl rfl rfl (by decide) (by decide) ?_
  have f92 : Keep h0 h87 [] := (Keep.wr (Keep.ext (Keep.refl h0 []) Ea86) W88 (Or.inr fr_a86))
  exact ⟨a86, rfl, by omega, f92, A90⟩
set_option maxRecDepth 65536 in
set_option maxHeartbeats 40000000 in
theorem rmO20 {l : Launch} {Z : State} {a0 : Array Value} {n0 : Nat} (H : Wd a0 Z) (a va : Addr) (x0 x1 : UInt64) (h0 : Heap) (Z0 : n0 ≤ h0.size) (F0 : Fld Z h0 a "com/example/handpick/handpick/ScoringColumn" "smallerIsBetter" "Z" (.int (0 : Int32))) (A0 : AV Z h0 va .double [(.double x0), (.double x1)]) :
    Ct l Z n0 (⟨"com/example/handpick/handpick/ScoringColumn", "orient", "([D)[D"⟩ : MethodName) prog_85_method_4_code 4 (some (.array .double)) [] ({ frames := 0, cells := 1, slots := 2, locals := 0 } : Room) #[(.ref a), (.ref va)] h0 (fun v h => ∃ b, v = some (.ref b) ∧ h0.size ≤ b ∧ Keep h0 h [] ∧ AV Z h b .double [(.double x0), (.double x1)]) := by
  refine Ct.of (a0 := a0) (L0 := #[.val (.ref a), .val (.ref va), .unset, .unset]) (plainFor_of_name pn_com_example_handpick_handpick_ScoringColumn) (fun m => by first | (simp [entryFrame, mkF, argsToLocals, Value.category]; done) | rfl) ?_
  intro κ B0
  have B : Ok κ l Z a0 n0 ({ frames := 0, cells := 1, slots := 2, locals := 0 } : Room) "com/example/handpick/handpick/ScoringColumn" "orient" prog_85_method_4_code 4 (some (.array .double)) := B0
  refine go_aload_n B d11_0 rfl rfl ?_
  refine go_arraylength B (x := (2 : Int32)) d11_1 A0 rfl ?_
  refine go_newarray B (i := 2) (cap := 2) d11_2 (w_58 H) rfl (Nat.le_refl _) (by decide) (by decide) (by decide) ?_
  intro h93 a94 hba94 Ea94 Aa94 Ca94
  have ne_a94_a : a94 ≠ a := Nat.ne_of_gt (Nat.lt_of_lt_of_le (F0).lt (by omega))
  have ne_a94_va : a94 ≠ va := Nat.ne_of_gt (Nat.lt_of_lt_of_le (A0).lt (by omega))
  have ge_a94 : n0 ≤ a94 := by have q1 := Z0; omega
  have fr_a94 : h0.size ≤ a94 := by have q1 := (show Keep h0 h0 [] from (Keep.refl h0 [])).1; omega
  have Ba94 : AV Z h93 a94 .double [(.double (0 : UInt64)), (.double (0 : UInt64))] := Aa94
  refine go_astore_n B #[.val (.ref a), .val (.ref va), .val (.ref a94), .unset] d11_4 rfl rfl ?_
  refine go_iconst B (x := (0 : Int32)) d11_5 rfl ?_
  refine go_istore_n B #[.val (.ref a), .val (.ref va), .val (.ref a94), .val (.int (0 : Int32))] d11_6 rfl ?_
  refine go_iload_n B d11_7 rfl ?_
  refine go_aload_n B d11_8 rfl rfl ?_
  refine go_arraylength B (x := (2 : Int32)) d11_9 (AV.ext A0 Ea94) rfl ?_
  refine go_icmpge B d11_10 (fun c10 => ?_) (fun c10 => ?_)
  · exact absurd c10 (by decide)
  refine go_aload_n B d11_13 rfl rfl ?_
  refine go_iload_n B d11_14 rfl ?_
  refine go_aload_n B d11_15 rfl rfl ?_
  refine go_getfield B d11_16 (w_56 H) (Fld.ext Ea94 F0) ?_
  refine go_ifeq B d11_19 (fun c19 => ?_) (fun c19 => ?_)
  rotate_left
  · exact absurd c19 (by decide)
  refine go_aload_n B d11_29 rfl rfl ?_
  refine go_iload_n B d11_30 rfl ?_
  refine go_daload B (i := 0) (v := (.double x0)) d11_31 (AV.ext A0 Ea94) rfl rfl ?_
  refine go_dastore B (i := 0) d11_32 Ba94 rfl (show 0 < 2 from by decide) ge_a94 ?_
  intro h95 W96 A97
  have A98 : AV Z h95 a94 .double [(.double x0), (.double (0 : UInt64))] := A97
  refine go_iinc B #[.val (.ref a), .val (.ref va), .val (.ref a94), .val (.int ((0 : Int32) + (1 : Int32)))] d11_33 (z := (1 : Int32)) rfl rfl rfl ?_
  rw [show ((0 : Int32) + (1 : Int32)) = (1 : Int32) from by decide]
  refine go_goto B d11_36 ?_
  refine go_iload_n B d11_7 rfl ?_
  refine go_aload_n B d11_8 rfl rfl ?_
  refine go_arraylength B (x := (2 : Int32)) d11_9 (AV.other (AV.ext A0 Ea94) W96 (Ne.symm ne_a94_va)) rfl ?_
  refine go_icmpge B d11_10 (fun c10_99 => ?_) (fun c10_99 => ?_)
  · exact absurd c10_99 (by decide)
  refine go_aload_n B d11_13 rfl rfl ?_
  refine go_iload_n B d11_14 rfl ?_
  refine go_aload_n B d11_15 rfl rfl ?_
  have f100 : Fld Z h95 a "com/example/handpick/handpick/ScoringColumn" "smallerIsBetter" "Z" (.int (0 : Int32)) := (Fld.other W96 (Fld.ext Ea94 F0) (Or.inl (Ne.symm ne_a94_a)))
  refine go_getfield B d11_16 (w_56 H) f100 ?_
  refine go_ifeq B d11_19 (fun c19_101 => ?_) (fun c19_101 => ?_)
  rotate_left
  · exact absurd c19_101 (by decide)
  refine go_aload_n B d11_29 rfl rfl ?_
  refine go_iload_n B d11_30 rfl ?_
  refine go_daload B (i := 1) (v := (.double x1)) d11_31 (AV.other (AV.ext A0 Ea94) W96 (Ne.symm ne_a94_va)) rfl rfl ?_
  refine go_dastore B (i := 1) d11_32 A98 rfl (show 1 < 2 from by decide) ge_a94 ?_
  intro h102 W103 A104
  have A105 : AV Z h102 a94 .double [(.double x0), (.double x1)] := A104
  refine go_iinc B #[.val (.ref a), .val (.ref va), .val (.ref a94), .val (.int ((1 : Int32) + (1 : Int32)))] d11_33 (z := (1 : Int32)) rfl rfl rfl ?_
  rw [show ((1 : Int32) + (1 : Int32)) = (2 : Int32) from by decide]
  refine go_goto B d11_36 ?_
  refine go_iload_n B d11_7 rfl ?_
  refine go_aload_n B d11_8 rfl rfl ?_
  have f106 : AV Z h102 va .double [(.double x0), (.double x1)] := (AV.other (AV.other (AV.ext A0 Ea94) W96 (Ne.symm ne_a94_va)) W103 (Ne.symm ne_a94_va))
  refine go_arraylength B (x := (2 : Int32)) d11_9 f106 rfl ?_
  refine go_icmpge B d11_10 (fun c10_107 => ?_) (fun c10_107 => ?_)
  rotate_left
  · exact absurd c10_107 (by decide)
  refine go_aload_n B d11_39 rfl rfl ?_
  refine go_areturn B d11_40 rfl rfl rfl (by decide) (by decide) ?_
  have f108 : Keep h0 h102 [] := (Keep.wr (Keep.wr (Keep.ext (Keep.refl h0 []) Ea94) W96 (Or.inr fr_a94)) W103 (Or.inr fr_a94))
  exact ⟨a94, rfl, by omega, f108, A105⟩
set_option maxRecDepth 65536 in
set_option maxHeartbeats 40000000 in
theorem rmO21 {l : Launch} {Z : State} {a0 : Array Value} {n0 : Nat} (H : Wd a0 Z) (a va : Addr) (x0 x1 : UInt64) (h0 : Heap) (Z0 : n0 ≤ h0.size) (F0 : Fld Z h0 a "com/example/handpick/handpick/ScoringColumn" "smallerIsBetter" "Z" (.int (1 : Int32))) (A0 : AV Z h0 va .double [(.double x0), (.double x1)]) :
    Ct l Z n0 (⟨"com/example/handpick/handpick/ScoringColumn", "orient", "([D)[D"⟩ : MethodName) prog_85_method_4_code 4 (some (.array .double)) [] ({ frames := 0, cells := 1, slots := 2, locals := 0 } : Room) #[(.ref a), (.ref va)] h0 (fun v h => ∃ b, v = some (.ref b) ∧ h0.size ≤ b ∧ Keep h0 h [] ∧ AV Z h b .double [(.double (FP.dneg x0)), (.double (FP.dneg x1))]) := by
  refine Ct.of (a0 := a0) (L0 := #[.val (.ref a), .val (.ref va), .unset, .unset]) (plainFor_of_name pn_com_example_handpick_handpick_ScoringColumn) (fun m => by first | (simp [entryFrame, mkF, argsToLocals, Value.category]; done) | rfl) ?_
  intro κ B0
  have B : Ok κ l Z a0 n0 ({ frames := 0, cells := 1, slots := 2, locals := 0 } : Room) "com/example/handpick/handpick/ScoringColumn" "orient" prog_85_method_4_code 4 (some (.array .double)) := B0
  refine go_aload_n B d11_0 rfl rfl ?_
  refine go_arraylength B (x := (2 : Int32)) d11_1 A0 rfl ?_
  refine go_newarray B (i := 2) (cap := 2) d11_2 (w_58 H) rfl (Nat.le_refl _) (by decide) (by decide) (by decide) ?_
  intro h109 a110 hba110 Ea110 Aa110 Ca110
  have ne_a110_a : a110 ≠ a := Nat.ne_of_gt (Nat.lt_of_lt_of_le (F0).lt (by omega))
  have ne_a110_va : a110 ≠ va := Nat.ne_of_gt (Nat.lt_of_lt_of_le (A0).lt (by omega))
  have ge_a110 : n0 ≤ a110 := by have q1 := Z0; omega
  have fr_a110 : h0.size ≤ a110 := by have q1 := (show Keep h0 h0 [] from (Keep.refl h0 [])).1; omega
  have Ba110 : AV Z h109 a110 .double [(.double (0 : UInt64)), (.double (0 : UInt64))] := Aa110
  refine go_astore_n B #[.val (.ref a), .val (.ref va), .val (.ref a110), .unset] d11_4 rfl rfl ?_
  refine go_iconst B (x := (0 : Int32)) d11_5 rfl ?_
  refine go_istore_n B #[.val (.ref a), .val (.ref va), .val (.ref a110), .val (.int (0 : Int32))] d11_6 rfl ?_
  refine go_iload_n B d11_7 rfl ?_
  refine go_aload_n B d11_8 rfl rfl ?_
  refine go_arraylength B (x := (2 : Int32)) d11_9 (AV.ext A0 Ea110) rfl ?_
  refine go_icmpge B d11_10 (fun c10 => ?_) (fun c10 => ?_)
  · exact absurd c10 (by decide)
  refine go_aload_n B d11_13 rfl rfl ?_
  refine go_iload_n B d11_14 rfl ?_
  refine go_aload_n B d11_15 rfl rfl ?_
  refine go_getfield B d11_16 (w_56 H) (Fld.ext Ea110 F0) ?_
  refine go_ifeq B d11_19 (fun c19 => ?_) (fun c19 => ?_)
  · exact absurd c19 (by decide)
  refine go_aload_n B d11_22 rfl rfl ?_
  refine go_iload_n B d11_23 rfl ?_
  refine go_daload B (i := 0) (v := (.double x0)) d11_24 (AV.ext A0 Ea110) rfl rfl ?_
  refine go_dneg B d11_25 ?_
  refine go_goto B d11_26 ?_
  refine go_dastore B (i := 0) d11_32 Ba110 rfl (show 0 < 2 from by decide) ge_a110 ?_
  intro h111 W112 A113
  have A114 : AV Z h111 a110 .double [(.double (FP.dneg x0)), (.double (0 : UInt64))] := A113
  refine go_iinc B #[.val (.ref a), .val (.ref va), .val (.ref a110), .val (.int ((0 : Int32) + (1 : Int32)))] d11_33 (z := (1 : Int32)) rfl rfl rfl ?_
  rw [show ((0 : Int32) + (1 : Int32)) = (1 : Int32) from by decide]
  refine go_goto B d11_36 ?_
  refine go_iload_n B d11_7 rfl ?_
  refine go_aload_n B d11_8 rfl rfl ?_
  refine go_arraylength B (x := (2 : Int32)) d11_9 (AV.other (AV.ext A0 Ea110) W112 (Ne.symm ne_a110_va)) rfl ?_
  refine go_icmpge B d11_10 (fun c10_115 => ?_) (fun c10_115 => ?_)
  · exact absurd c10_115 (by decide)
  refine go_aload_n B d11_13 rfl rfl ?_
  refine go_iload_n B d11_14 rfl ?_
  refine go_aload_n B d11_15 rfl rfl ?_
  have f116 : Fld Z h111 a "com/example/handpick/handpick/ScoringColumn" "smallerIsBetter" "Z" (.int (1 : Int32)) := (Fld.other W112 (Fld.ext Ea110 F0) (Or.inl (Ne.symm ne_a110_a)))
  refine go_getfield B d11_16 (w_56 H) f116 ?_
  refine go_ifeq B d11_19 (fun c19_117 => ?_) (fun c19_117 => ?_)
  · exact absurd c19_117 (by decide)
  refine go_aload_n B d11_22 rfl rfl ?_
  refine go_iload_n B d11_23 rfl ?_
  refine go_daload B (i := 1) (v := (.double x1)) d11_24 (AV.other (AV.ext A0 Ea110) W112 (Ne.symm ne_a110_va)) rfl rfl ?_
  refine go_dneg B d11_25 ?_
  refine go_goto B d11_26 ?_
  refine go_dastore B (i := 1) d11_32 A114 rfl (show 1 < 2 from by decide) ge_a110 ?_
  intro h118 W119 A120
  have A121 : AV Z h118 a110 .double [(.double (FP.dneg x0)), (.double (FP.dneg x1))] := A120
  refine go_iinc B #[.val (.ref a), .val (.ref va), .val (.ref a110), .val (.int ((1 : Int32) + (1 : Int32)))] d11_33 (z := (1 : Int32)) rfl rfl rfl ?_
  rw [show ((1 : Int32) + (1 : Int32)) = (2 : Int32) from by decide]
  refine go_goto B d11_36 ?_
  refine go_iload_n B d11_7 rfl ?_
  refine go_aload_n B d11_8 rfl rfl ?_
  have f122 : AV Z h118 va .double [(.double x0), (.double x1)] := (AV.other (AV.other (AV.ext A0 Ea110) W112 (Ne.symm ne_a110_va)) W119 (Ne.symm ne_a110_va))
  refine go_arraylength B (x := (2 : Int32)) d11_9 f122 rfl ?_
  refine go_icmpge B d11_10 (fun c10_123 => ?_) (fun c10_123 => ?_)
  rotate_left
  · exact absurd c10_123 (by decide)
  refine go_aload_n B d11_39 rfl rfl ?_
  refine go_areturn B d11_40 rfl rfl rfl (by decide) (by decide) ?_
  have f124 : Keep h0 h118 [] := (Keep.wr (Keep.wr (Keep.ext (Keep.refl h0 []) Ea110) W112 (Or.inr fr_a110)) W119 (Or.inr fr_a110))
  exact ⟨a110, rfl, by omega, f124, A121⟩
set_option maxRecDepth 65536 in
set_option maxHeartbeats 40000000 in
theorem rmO30 {l : Launch} {Z : State} {a0 : Array Value} {n0 : Nat} (H : Wd a0 Z) (a va : Addr) (x0 x1 x2 : UInt64) (h0 : Heap) (Z0 : n0 ≤ h0.size) (F0 : Fld Z h0 a "com/example/handpick/handpick/ScoringColumn" "smallerIsBetter" "Z" (.int (0 : Int32))) (A0 : AV Z h0 va .double [(.double x0), (.double x1), (.double x2)]) :
    Ct l Z n0 (⟨"com/example/handpick/handpick/ScoringColumn", "orient", "([D)[D"⟩ : MethodName) prog_85_method_4_code 4 (some (.array .double)) [] ({ frames := 0, cells := 1, slots := 3, locals := 0 } : Room) #[(.ref a), (.ref va)] h0 (fun v h => ∃ b, v = some (.ref b) ∧ h0.size ≤ b ∧ Keep h0 h [] ∧ AV Z h b .double [(.double x0), (.double x1), (.double x2)]) := by
  refine Ct.of (a0 := a0) (L0 := #[.val (.ref a), .val (.ref va), .unset, .unset]) (plainFor_of_name pn_com_example_handpick_handpick_ScoringColumn) (fun m => by first | (simp [entryFrame, mkF, argsToLocals, Value.category]; done) | rfl) ?_
  intro κ B0
  have B : Ok κ l Z a0 n0 ({ frames := 0, cells := 1, slots := 3, locals := 0 } : Room) "com/example/handpick/handpick/ScoringColumn" "orient" prog_85_method_4_code 4 (some (.array .double)) := B0
  refine go_aload_n B d11_0 rfl rfl ?_
  refine go_arraylength B (x := (3 : Int32)) d11_1 A0 rfl ?_
  refine go_newarray B (i := 3) (cap := 3) d11_2 (w_58 H) rfl (Nat.le_refl _) (by decide) (by decide) (by decide) ?_
  intro h125 a126 hba126 Ea126 Aa126 Ca126
  have ne_a126_a : a126 ≠ a := Nat.ne_of_gt (Nat.lt_of_lt_of_le (F0).lt (by omega))
  have ne_a126_va : a126 ≠ va := Nat.ne_of_gt (Nat.lt_of_lt_of_le (A0).lt (by omega))
  have ge_a126 : n0 ≤ a126 := by have q1 := Z0; omega
  have fr_a126 : h0.size ≤ a126 := by have q1 := (show Keep h0 h0 [] from (Keep.refl h0 [])).1; omega
  have Ba126 : AV Z h125 a126 .double [(.double (0 : UInt64)), (.double (0 : UInt64)), (.double (0 : UInt64))] := Aa126
  refine go_astore_n B #[.val (.ref a), .val (.ref va), .val (.ref a126), .unset] d11_4 rfl rfl ?_
  refine go_iconst B (x := (0 : Int32)) d11_5 rfl ?_
  refine go_istore_n B #[.val (.ref a), .val (.ref va), .val (.ref a126), .val (.int (0 : Int32))] d11_6 rfl ?_
  refine go_iload_n B d11_7 rfl ?_
  refine go_aload_n B d11_8 rfl rfl ?_
  refine go_arraylength B (x := (3 : Int32)) d11_9 (AV.ext A0 Ea126) rfl ?_
  refine go_icmpge B d11_10 (fun c10 => ?_) (fun c10 => ?_)
  · exact absurd c10 (by decide)
  refine go_aload_n B d11_13 rfl rfl ?_
  refine go_iload_n B d11_14 rfl ?_
  refine go_aload_n B d11_15 rfl rfl ?_
  refine go_getfield B d11_16 (w_56 H) (Fld.ext Ea126 F0) ?_
  refine go_ifeq B d11_19 (fun c19 => ?_) (fun c19 => ?_)
  rotate_left
  · exact absurd c19 (by decide)
  refine go_aload_n B d11_29 rfl rfl ?_
  refine go_iload_n B d11_30 rfl ?_
  refine go_daload B (i := 0) (v := (.double x0)) d11_31 (AV.ext A0 Ea126) rfl rfl ?_
  refine go_dastore B (i := 0) d11_32 Ba126 rfl (show 0 < 3 from by decide) ge_a126 ?_
  intro h127 W128 A129
  have A130 : AV Z h127 a126 .double [(.double x0), (.double (0 : UInt64)), (.double (0 : UInt64))] := A129
  refine go_iinc B #[.val (.ref a), .val (.ref va), .val (.ref a126), .val (.int ((0 : Int32) + (1 : Int32)))] d11_33 (z := (1 : Int32)) rfl rfl rfl ?_
  rw [show ((0 : Int32) + (1 : Int32)) = (1 : Int32) from by decide]
  refine go_goto B d11_36 ?_
  refine go_iload_n B d11_7 rfl ?_
  refine go_aload_n B d11_8 rfl rfl ?_
  refine go_arraylength B (x := (3 : Int32)) d11_9 (AV.other (AV.ext A0 Ea126) W128 (Ne.symm ne_a126_va)) rfl ?_
  refine go_icmpge B d11_10 (fun c10_131 => ?_) (fun c10_131 => ?_)
  · exact absurd c10_131 (by decide)
  refine go_aload_n B d11_13 rfl rfl ?_
  refine go_iload_n B d11_14 rfl ?_
  refine go_aload_n B d11_15 rfl rfl ?_
  have f132 : Fld Z h127 a "com/example/handpick/handpick/ScoringColumn" "smallerIsBetter" "Z" (.int (0 : Int32)) := (Fld.other W128 (Fld.ext Ea126 F0) (Or.inl (Ne.symm ne_a126_a)))
  refine go_getfield B d11_16 (w_56 H) f132 ?_
  refine go_ifeq B d11_19 (fun c19_133 => ?_) (fun c19_133 => ?_)
  rotate_left
  · exact absurd c19_133 (by decide)
  refine go_aload_n B d11_29 rfl rfl ?_
  refine go_iload_n B d11_30 rfl ?_
  refine go_daload B (i := 1) (v := (.double x1)) d11_31 (AV.other (AV.ext A0 Ea126) W128 (Ne.symm ne_a126_va)) rfl rfl ?_
  refine go_dastore B (i := 1) d11_32 A130 rfl (show 1 < 3 from by decide) ge_a126 ?_
  intro h134 W135 A136
  have A137 : AV Z h134 a126 .double [(.double x0), (.double x1), (.double (0 : UInt64))] := A136
  refine go_iinc B #[.val (.ref a), .val (.ref va), .val (.ref a126), .val (.int ((1 : Int32) + (1 : Int32)))] d11_33 (z := (1 : Int32)) rfl rfl rfl ?_
  rw [show ((1 : Int32) + (1 : Int32)) = (2 : Int32) from by decide]
  refine go_goto B d11_36 ?_
  refine go_iload_n B d11_7 rfl ?_
  refine go_aload_n B d11_8 rfl rfl ?_
  have f138 : AV Z h134 va .double [(.double x0), (.double x1), (.double x2)] := (AV.other (AV.other (AV.ext A0 Ea126) W128 (Ne.symm ne_a126_va)) W135 (Ne.symm ne_a126_va))
  refine go_arraylength B (x := (3 : Int32)) d11_9 f138 rfl ?_
  refine go_icmpge B d11_10 (fun c10_139 => ?_) (fun c10_139 => ?_)
  · exact absurd c10_139 (by decide)
  refine go_aload_n B d11_13 rfl rfl ?_
  refine go_iload_n B d11_14 rfl ?_
  refine go_aload_n B d11_15 rfl rfl ?_
  refine go_getfield B d11_16 (w_56 H) (Fld.other W135 f132 (Or.inl (Ne.symm ne_a126_a))) ?_
  refine go_ifeq B d11_19 (fun c19_140 => ?_) (fun c19_140 => ?_)
  rotate_left
  · exact absurd c19_140 (by decide)
  refine go_aload_n B d11_29 rfl rfl ?_
  refine go_iload_n B d11_30 rfl ?_
  refine go_daload B (i := 2) (v := (.double x2)) d11_31 f138 rfl rfl ?_
  refine go_dastore B (i := 2) d11_32 A137 rfl (show 2 < 3 from by decide) ge_a126 ?_
  intro h141 W142 A143
  have A144 : AV Z h141 a126 .double [(.double x0), (.double x1), (.double x2)] := A143
  refine go_iinc B #[.val (.ref a), .val (.ref va), .val (.ref a126), .val (.int ((2 : Int32) + (1 : Int32)))] d11_33 (z := (1 : Int32)) rfl rfl rfl ?_
  rw [show ((2 : Int32) + (1 : Int32)) = (3 : Int32) from by decide]
  refine go_goto B d11_36 ?_
  refine go_iload_n B d11_7 rfl ?_
  refine go_aload_n B d11_8 rfl rfl ?_
  refine go_arraylength B (x := (3 : Int32)) d11_9 (AV.other f138 W142 (Ne.symm ne_a126_va)) rfl ?_
  refine go_icmpge B d11_10 (fun c10_145 => ?_) (fun c10_145 => ?_)
  rotate_left
  · exact absurd c10_145 (by decide)
  refine go_aload_n B d11_39 rfl rfl ?_
  refine go_areturn B d11_40 rfl rfl rfl (by decide) (by decide) ?_
  have f146 : Keep h0 h141 [] := (Keep.wr (Keep.wr (Keep.wr (Keep.ext (Keep.refl h0 []) Ea126) W128 (Or.inr fr_a126)) W135 (Or.inr fr_a126)) W142 (Or.inr fr_a126))
  exact ⟨a126, rfl, by omega, f146, A144⟩
set_option maxRecDepth 65536 in
set_option maxHeartbeats 40000000 in
theorem rmO31 {l : Launch} {Z : State} {a0 : Array Value} {n0 : Nat} (H : Wd a0 Z) (a va : Addr) (x0 x1 x2 : UInt64) (h0 : Heap) (Z0 : n0 ≤ h0.size) (F0 : Fld Z h0 a "com/example/handpick/handpick/ScoringColumn" "smallerIsBetter" "Z" (.int (1 : Int32))) (A0 : AV Z h0 va .double [(.double x0), (.double x1), (.double x2)]) :
    Ct l Z n0 (⟨"com/example/handpick/handpick/ScoringColumn", "orient", "([D)[D"⟩ : MethodName) prog_85_method_4_code 4 (some (.array .double)) [] ({ frames := 0, cells := 1, slots := 3, locals := 0 } : Room) #[(.ref a), (.ref va)] h0 (fun v h => ∃ b, v = some (.ref b) ∧ h0.size ≤ b ∧ Keep h0 h [] ∧ AV Z h b .double [(.double (FP.dneg x0)), (.double (FP.dneg x1)), (.double (FP.dneg x2))]) := by
  refine Ct.of (a0 := a0) (L0 := #[.val (.ref a), .val (.ref va), .unset, .unset]) (plainFor_of_name pn_com_example_handpick_handpick_ScoringColumn) (fun m => by first | (simp [entryFrame, mkF, argsToLocals, Value.category]; done) | rfl) ?_
  intro κ B0
  have B : Ok κ l Z a0 n0 ({ frames := 0, cells := 1, slots := 3, locals := 0 } : Room) "com/example/handpick/handpick/ScoringColumn" "orient" prog_85_method_4_code 4 (some (.array .double)) := B0
  refine go_aload_n B d11_0 rfl rfl ?_
  refine go_arraylength B (x := (3 : Int32)) d11_1 A0 rfl ?_
  refine go_newarray B (i := 3) (cap := 3) d11_2 (w_58 H) rfl (Nat.le_refl _) (by decide) (by decide) (by decide) ?_
  intro h147 a148 hba148 Ea148 Aa148 Ca148
  have ne_a148_a : a148 ≠ a := Nat.ne_of_gt (Nat.lt_of_lt_of_le (F0).lt (by omega))
  have ne_a148_va : a148 ≠ va := Nat.ne_of_gt (Nat.lt_of_lt_of_le (A0).lt (by omega))
  have ge_a148 : n0 ≤ a148 := by have q1 := Z0; omega
  have fr_a148 : h0.size ≤ a148 := by have q1 := (show Keep h0 h0 [] from (Keep.refl h0 [])).1; omega
  have Ba148 : AV Z h147 a148 .double [(.double (0 : UInt64)), (.double (0 : UInt64)), (.double (0 : UInt64))] := Aa148
  refine go_astore_n B #[.val (.ref a), .val (.ref va), .val (.ref a148), .unset] d11_4 rfl rfl ?_
  refine go_iconst B (x := (0 : Int32)) d11_5 rfl ?_
  refine go_istore_n B #[.val (.ref a), .val (.ref va), .val (.ref a148), .val (.int (0 : Int32))] d11_6 rfl ?_
  refine go_iload_n B d11_7 rfl ?_
  refine go_aload_n B d11_8 rfl rfl ?_
  refine go_arraylength B (x := (3 : Int32)) d11_9 (AV.ext A0 Ea148) rfl ?_
  refine go_icmpge B d11_10 (fun c10 => ?_) (fun c10 => ?_)
  · exact absurd c10 (by decide)
  refine go_aload_n B d11_13 rfl rfl ?_
  refine go_iload_n B d11_14 rfl ?_
  refine go_aload_n B d11_15 rfl rfl ?_
  refine go_getfield B d11_16 (w_56 H) (Fld.ext Ea148 F0) ?_
  refine go_ifeq B d11_19 (fun c19 => ?_) (fun c19 => ?_)
  · exact absurd c19 (by decide)
  refine go_aload_n B d11_22 rfl rfl ?_
  refine go_iload_n B d11_23 rfl ?_
  refine go_daload B (i := 0) (v := (.double x0)) d11_24 (AV.ext A0 Ea148) rfl rfl ?_
  refine go_dneg B d11_25 ?_
  refine go_goto B d11_26 ?_
  refine go_dastore B (i := 0) d11_32 Ba148 rfl (show 0 < 3 from by decide) ge_a148 ?_
  intro h149 W150 A151
  have A152 : AV Z h149 a148 .double [(.double (FP.dneg x0)), (.double (0 : UInt64)), (.double (0 : UInt64))] := A151
  refine go_iinc B #[.val (.ref a), .val (.ref va), .val (.ref a148), .val (.int ((0 : Int32) + (1 : Int32)))] d11_33 (z := (1 : Int32)) rfl rfl rfl ?_
  rw [show ((0 : Int32) + (1 : Int32)) = (1 : Int32) from by decide]
  refine go_goto B d11_36 ?_
  refine go_iload_n B d11_7 rfl ?_
  refine go_aload_n B d11_8 rfl rfl ?_
  refine go_arraylength B (x := (3 : Int32)) d11_9 (AV.other (AV.ext A0 Ea148) W150 (Ne.symm ne_a148_va)) rfl ?_
  refine go_icmpge B d11_10 (fun c10_153 => ?_) (fun c10_153 => ?_)
  · exact absurd c10_153 (by decide)
  refine go_aload_n B d11_13 rfl rfl ?_
  refine go_iload_n B d11_14 rfl ?_
  refine go_aload_n B d11_15 rfl rfl ?_
  have f154 : Fld Z h149 a "com/example/handpick/handpick/ScoringColumn" "smallerIsBetter" "Z" (.int (1 : Int32)) := (Fld.other W150 (Fld.ext Ea148 F0) (Or.inl (Ne.symm ne_a148_a)))
  refine go_getfield B d11_16 (w_56 H) f154 ?_
  refine go_ifeq B d11_19 (fun c19_155 => ?_) (fun c19_155 => ?_)
  · exact absurd c19_155 (by decide)
  refine go_aload_n B d11_22 rfl rfl ?_
  refine go_iload_n B d11_23 rfl ?_
  refine go_daload B (i := 1) (v := (.double x1)) d11_24 (AV.other (AV.ext A0 Ea148) W150 (Ne.symm ne_a148_va)) rfl rfl ?_
  refine go_dneg B d11_25 ?_
  refine go_goto B d11_26 ?_
  refine go_dastore B (i := 1) d11_32 A152 rfl (show 1 < 3 from by decide) ge_a148 ?_
  intro h156 W157 A158
  have A159 : AV Z h156 a148 .double [(.double (FP.dneg x0)), (.double (FP.dneg x1)), (.double (0 : UInt64))] := A158
  refine go_iinc B #[.val (.ref a), .val (.ref va), .val (.ref a148), .val (.int ((1 : Int32) + (1 : Int32)))] d11_33 (z := (1 : Int32)) rfl rfl rfl ?_
  rw [show ((1 : Int32) + (1 : Int32)) = (2 : Int32) from by decide]
  refine go_goto B d11_36 ?_
  refine go_iload_n B d11_7 rfl ?_
  refine go_aload_n B d11_8 rfl rfl ?_
  have f160 : AV Z h156 va .double [(.double x0), (.double x1), (.double x2)] := (AV.other (AV.other (AV.ext A0 Ea148) W150 (Ne.symm ne_a148_va)) W157 (Ne.symm ne_a148_va))
  refine go_arraylength B (x := (3 : Int32)) d11_9 f160 rfl ?_
  refine go_icmpge B d11_10 (fun c10_161 => ?_) (fun c10_161 => ?_)
  · exact absurd c10_161 (by decide)
  refine go_aload_n B d11_13 rfl rfl ?_
  refine go_iload_n B d11_14 rfl ?_
  refine go_aload_n B d11_15 rfl rfl ?_
  refine go_getfield B d11_16 (w_56 H) (Fld.other W157 f154 (Or.inl (Ne.symm ne_a148_a))) ?_
  refine go_ifeq B d11_19 (fun c19_162 => ?_) (fun c19_162 => ?_)
  · exact absurd c19_162 (by decide)
  refine go_aload_n B d11_22 rfl rfl ?_
  refine go_iload_n B d11_23 rfl ?_
  refine go_daload B (i := 2) (v := (.double x2)) d11_24 f160 rfl rfl ?_
  refine go_dneg B d11_25 ?_
  refine go_goto B d11_26 ?_
  refine go_dastore B (i := 2) d11_32 A159 rfl (show 2 < 3 from by decide) ge_a148 ?_
  intro h163 W164 A165
  have A166 : AV Z h163 a148 .double [(.double (FP.dneg x0)), (.double (FP.dneg x1)), (.double (FP.dneg x2))] := A165
  refine go_iinc B #[.val (.ref a), .val (.ref va), .val (.ref a148), .val (.int ((2 : Int32) + (1 : Int32)))] d11_33 (z := (1 : Int32)) rfl rfl rfl ?_
  rw [show ((2 : Int32) + (1 : Int32)) = (3 : Int32) from by decide]
  refine go_goto B d11_36 ?_
  refine go_iload_n B d11_7 rfl ?_
  refine go_aload_n B d11_8 rfl rfl ?_
  refine go_arraylength B (x := (3 : Int32)) d11_9 (AV.other f160 W164 (Ne.symm ne_a148_va)) rfl ?_
  refine go_icmpge B d11_10 (fun c10_167 => ?_) (fun c10_167 => ?_)
  rotate_left
  · exact absurd c10_167 (by decide)
  refine go_aload_n B d11_39 rfl rfl ?_
  refine go_areturn B d11_40 rfl rfl rfl (by decide) (by decide) ?_
  have f168 : Keep h0 h163 [] := (Keep.wr (Keep.wr (Keep.wr (Keep.ext (Keep.refl h0 []) Ea148) W150 (Or.inr fr_a148)) W157 (Or.inr fr_a148)) W164 (Or.inr fr_a148))
  exact ⟨a148, rfl, by omega, f168, A166⟩
theorem pn_com_example_handpick_handpick_ScoringColumnOrientPinLaw : plainName "com/example/handpick/handpick/ScoringColumnOrientPinLaw" = true := by first | (simp [plainName, overriddenIn]; done) | decide +kernel
theorem d12_0 : Dc method_3_code 0 (.iload 5) 2 2 := ⟨by decide +kernel, rfl⟩
theorem d12_2 : Db method_3_code 2 (.ifCond .eq 11) 11 5 13 := ⟨by decide +kernel, rfl, rfl⟩
theorem d12_13 : Dc method_3_code 13 (.iload 4) 2 15 := ⟨by decide +kernel, rfl⟩
theorem d12_15 : Dc method_3_code 15 (.i2d) 1 16 := ⟨by decide +kernel, rfl⟩
theorem d12_16 : Dc method_3_code 16 (.dstore 6) 2 18 := ⟨by decide +kernel, rfl⟩
theorem d12_18 : Dc method_3_code 18 (.dload_n 0) 1 19 := ⟨by decide +kernel, rfl⟩
theorem d12_19 : Dc method_3_code 19 (.dload 6) 2 21 := ⟨by decide +kernel, rfl⟩
theorem d12_21 : Dc method_3_code 21 (.dcmp .l) 1 22 := ⟨by decide +kernel, rfl⟩
theorem d12_22 : Db method_3_code 22 (.ifCond .ne 15) 15 25 37 := ⟨by decide +kernel, rfl, rfl⟩
theorem d12_25 : Dc method_3_code 25 (.dload_n 2) 1 26 := ⟨by decide +kernel, rfl⟩
theorem d12_26 : Dc method_3_code 26 (.iload 4) 2 28 := ⟨by decide +kernel, rfl⟩
theorem d12_28 : Dc method_3_code 28 (.i2d) 1 29 := ⟨by decide +kernel, rfl⟩
theorem d12_29 : Dc method_3_code 29 (.dcmp .l) 1 30 := ⟨by decide +kernel, rfl⟩
theorem d12_30 : Db method_3_code 30 (.ifCond .ne 7) 7 33 37 := ⟨by decide +kernel, rfl, rfl⟩
theorem d12_33 : Dc method_3_code 33 (.iconst 1) 1 34 := ⟨by decide +kernel, rfl⟩
theorem d12_34 : Db method_3_code 34 (.goto 4) 4 37 38 := ⟨by decide +kernel, rfl, rfl⟩
theorem d12_38 : Dc method_3_code 38 (.ireturn) 1 39 := ⟨by decide +kernel, rfl⟩
set_option maxRecDepth 65536 in
set_option maxHeartbeats 40000000 in
theorem rmQ0 {l : Launch} {Z : State} {a0 : Array Value} {n0 : Nat} (H : Wd a0 Z) (x : Int32) (h0 : Heap) (Z0 : n0 ≤ h0.size) :
    Ct l Z n0 (⟨"com/example/handpick/handpick/ScoringColumnOrientPinLaw", "ok", "(DDIZ)Z"⟩ : MethodName) method_3_code 8 (some .boolean) [] ({ frames := 0, cells := 0, slots := 0, locals := 0 } : Room) #[(.double (FP.i2d x)), (.double (FP.i2d x)), (.int x), (.int (0 : Int32))] h0 (fun v h => v = some (.int (1 : Int32)) ∧ h0 = h) := by
  refine Ct.of (a0 := a0) (L0 := #[.val (.double (FP.i2d x)), .second, .val (.double (FP.i2d x)), .second, .val (.int x), .val (.int (0 : Int32)), .unset, .unset]) (plainFor_of_name pn_com_example_handpick_handpick_ScoringColumnOrientPinLaw) (fun m => by first | (simp [entryFrame, mkF, argsToLocals, Value.category]; done) | rfl) ?_
  intro κ B0
  have B : Ok κ l Z a0 n0 ({ frames := 0, cells := 0, slots := 0, locals := 0 } : Room) "com/example/handpick/handpick/ScoringColumnOrientPinLaw" "ok" method_3_code 8 (some .boolean) := B0
  refine go_iload B d12_0 rfl ?_
  refine go_ifeq B d12_2 (fun c2 => ?_) (fun c2 => ?_)
  rotate_left
  · exact absurd c2 (by decide)
  refine go_iload B d12_13 rfl ?_
  refine go_i2d B d12_15 ?_
  refine go_dstore B #[.val (.double (FP.i2d x)), .second, .val (.double (FP.i2d x)), .second, .val (.int x), .val (.int (0 : Int32)), .val (.double (FP.i2d x)), .second] d12_16 rfl ?_
  refine go_dload_n B d12_18 rfl ?_
  refine go_dload B d12_19 rfl ?_
  refine go_dcmp B (x := (0 : Int32)) d12_21 (ii_eq x .l) ?_
  refine go_ifne B d12_22 (fun c22 => ?_) (fun c22 => ?_)
  · exact absurd c22 (by decide)
  refine go_dload_n B d12_25 rfl ?_
  refine go_iload B d12_26 rfl ?_
  refine go_i2d B d12_28 ?_
  refine go_dcmp B (x := (0 : Int32)) d12_29 (ii_eq x .l) ?_
  refine go_ifne B d12_30 (fun c30 => ?_) (fun c30 => ?_)
  · exact absurd c30 (by decide)
  refine go_iconst B (x := (1 : Int32)) d12_33 rfl ?_
  refine go_goto B d12_34 ?_
  refine go_zreturn B (y := (1 : Int32)) d12_38 (by decide) (by decide) (by decide) ?_
  exact ⟨rfl, rfl⟩
theorem d12_5 : Dc method_3_code 5 (.iload 4) 2 7 := ⟨by decide +kernel, rfl⟩
theorem d12_7 : Dc method_3_code 7 (.i2l) 1 8 := ⟨by decide +kernel, rfl⟩
theorem d12_8 : Dc method_3_code 8 (.lneg) 1 9 := ⟨by decide +kernel, rfl⟩
theorem d12_9 : Dc method_3_code 9 (.l2d) 1 10 := ⟨by decide +kernel, rfl⟩
theorem d12_10 : Db method_3_code 10 (.goto 6) 6 13 16 := ⟨by decide +kernel, rfl, rfl⟩
set_option maxRecDepth 65536 in
set_option maxHeartbeats 40000000 in
theorem rmQ1 {l : Launch} {Z : State} {a0 : Array Value} {n0 : Nat} (H : Wd a0 Z) (x : Int32) (h0 : Heap) (Z0 : n0 ≤ h0.size) :
    Ct l Z n0 (⟨"com/example/handpick/handpick/ScoringColumnOrientPinLaw", "ok", "(DDIZ)Z"⟩ : MethodName) method_3_code 8 (some .boolean) [] ({ frames := 0, cells := 0, slots := 0, locals := 0 } : Room) #[(.double (FP.dneg (FP.i2d x))), (.double (FP.i2d x)), (.int x), (.int (1 : Int32))] h0 (fun v h => v = some (.int (1 : Int32)) ∧ h0 = h) := by
  refine Ct.of (a0 := a0) (L0 := #[.val (.double (FP.dneg (FP.i2d x))), .second, .val (.double (FP.i2d x)), .second, .val (.int x), .val (.int (1 : Int32)), .unset, .unset]) (plainFor_of_name pn_com_example_handpick_handpick_ScoringColumnOrientPinLaw) (fun m => by first | (simp [entryFrame, mkF, argsToLocals, Value.category]; done) | rfl) ?_
  intro κ B0
  have B : Ok κ l Z a0 n0 ({ frames := 0, cells := 0, slots := 0, locals := 0 } : Room) "com/example/handpick/handpick/ScoringColumnOrientPinLaw" "ok" method_3_code 8 (some .boolean) := B0
  refine go_iload B d12_0 rfl ?_
  refine go_ifeq B d12_2 (fun c2 => ?_) (fun c2 => ?_)
  · exact absurd c2 (by decide)
  refine go_iload B d12_5 rfl ?_
  refine go_i2l B d12_7 ?_
  refine go_lneg B d12_8 ?_
  refine go_l2d B d12_9 ?_
  refine go_goto B d12_10 ?_
  refine go_dstore B #[.val (.double (FP.dneg (FP.i2d x))), .second, .val (.double (FP.i2d x)), .second, .val (.int x), .val (.int (1 : Int32)), .val (.double (FP.l2d (-x.toInt64))), .second] d12_16 rfl ?_
  refine go_dload_n B d12_18 rfl ?_
  refine go_dload B d12_19 rfl ?_
  refine go_dcmp B (x := (0 : Int32)) d12_21 (own_neg x) ?_
  refine go_ifne B d12_22 (fun c22 => ?_) (fun c22 => ?_)
  · exact absurd c22 (by decide)
  refine go_dload_n B d12_25 rfl ?_
  refine go_iload B d12_26 rfl ?_
  refine go_i2d B d12_28 ?_
  refine go_dcmp B (x := (0 : Int32)) d12_29 (ii_eq x .l) ?_
  refine go_ifne B d12_30 (fun c30 => ?_) (fun c30 => ?_)
  · exact absurd c30 (by decide)
  refine go_iconst B (x := (1 : Int32)) d12_33 rfl ?_
  refine go_goto B d12_34 ?_
  refine go_zreturn B (y := (1 : Int32)) d12_38 (by decide) (by decide) (by decide) ?_
  exact ⟨rfl, rfl⟩
theorem d0_0 : Dc code 0 (.iload_n 3) 1 1 := ⟨at_0, rfl⟩
theorem d0_1 : Dc code 1 (.iconst 1) 1 2 := ⟨at_1, rfl⟩
theorem d0_2 : Dc code 2 (.iand) 1 3 := ⟨at_2, rfl⟩
theorem d0_3 : Db code 3 (.ifCond .eq 7) 7 6 10 := ⟨at_3, rfl, rfl⟩
theorem d0_10 : Dc code 10 (.iconst 0) 1 11 := ⟨at_10, rfl⟩
theorem d0_11 : Dc code 11 (.istore 4) 2 13 := ⟨at_11, rfl⟩
theorem d0_13 : Dc code 13 (.iload_n 3) 1 14 := ⟨at_13, rfl⟩
theorem d0_14 : Dc code 14 (.iconst 1) 1 15 := ⟨at_14, rfl⟩
theorem d0_15 : Dc code 15 (.iushr) 1 16 := ⟨at_15, rfl⟩
theorem d0_16 : Dc code 16 (.iconst 3) 1 17 := ⟨at_16, rfl⟩
theorem d0_17 : Dc code 17 (.iand) 1 18 := ⟨at_17, rfl⟩
theorem d0_18 : Dc code 18 (.istore 5) 2 20 := ⟨at_18, rfl⟩
theorem d0_20 : Dc code 20 (.iload_n 3) 1 21 := ⟨at_20, rfl⟩
theorem d0_21 : Dc code 21 (.iconst 3) 1 22 := ⟨at_21, rfl⟩
theorem d0_22 : Dc code 22 (.iushr) 1 23 := ⟨at_22, rfl⟩
theorem d0_23 : Dc code 23 (.sipush 255) 3 26 := ⟨at_23, rfl⟩
theorem d0_26 : Dc code 26 (.iand) 1 27 := ⟨at_26, rfl⟩
theorem d0_27 : Dc code 27 (.i2c) 1 28 := ⟨at_27, rfl⟩
theorem d0_28 : Dc code 28 (.istore 6) 2 30 := ⟨at_28, rfl⟩
theorem d0_30 : Dc code 30 (.new 7) 3 33 := ⟨at_30, rfl⟩
theorem w_0 {a0 : Array Value} {Z : State} (H : Wd a0 Z) : (Jvm.Cond.classLink "com/example/handpick/handpick/ScoringColumnOrientPinLaw" (7 : Nat) "java/lang/String").before a0 Z = true := H _ (List.mem_of_getElem? (i := 0) rfl)
theorem d0_33 : Dc code 33 (.dup) 1 34 := ⟨at_33, rfl⟩
theorem d0_34 : Dc code 34 (.iconst 1) 1 35 := ⟨at_34, rfl⟩
theorem d0_35 : Dc code 35 (.newarray .char) 2 37 := ⟨at_35, rfl⟩
theorem w_3 {a0 : Array Value} {Z : State} (H : Wd a0 Z) : (Jvm.Cond.arrayClass Jvm.ClassFile.FieldType.char).before a0 Z = true := H _ (List.mem_of_getElem? (i := 3) rfl)
theorem d0_37 : Dc code 37 (.dup) 1 38 := ⟨at_37, rfl⟩
theorem d0_38 : Dc code 38 (.iconst 0) 1 39 := ⟨at_38, rfl⟩
theorem d0_39 : Dc code 39 (.iload 6) 2 41 := ⟨at_39, rfl⟩
theorem d0_41 : Dc code 41 (.castore) 1 42 := ⟨at_41, rfl⟩
theorem d0_42 : Dc code 42 (.invokespecial 9) 3 45 := ⟨at_42, rfl⟩
theorem w_6 {a0 : Array Value} {Z : State} (H : Wd a0 Z) : (Jvm.Cond.code ({ cls := "java/lang/String", name := "<init>", desc := "([C)V" } : Jvm.MethodName) jdk_42_method_3_code (2 : Nat) (Option.none : Option Jvm.ClassFile.FieldType)).before a0 Z = true := H _ (List.mem_of_getElem? (i := 6) rfl)
theorem pd_7 : parseMethodDescriptor "([C)V" = some ⟨[(.array .char)], none⟩ := by decide +kernel
theorem w_4 {a0 : Array Value} {Z : State} (H : Wd a0 Z) : (Jvm.Cond.methodLink "com/example/handpick/handpick/ScoringColumnOrientPinLaw" (9 : Nat) ({ cls := "java/lang/String", name := "<init>", desc := "([C)V" } : Jvm.MethodName)).before a0 Z = true := H _ (List.mem_of_getElem? (i := 4) rfl)
theorem w_5 {a0 : Array Value} {Z : State} (H : Wd a0 Z) : (Jvm.Cond.instanceMethod ({ cls := "java/lang/String", name := "<init>", desc := "([C)V" } : Jvm.MethodName)).before a0 Z = true := H _ (List.mem_of_getElem? (i := 5) rfl)
theorem d0_45 : Dc code 45 (.astore 7) 2 47 := ⟨at_45, rfl⟩
theorem d0_47 : Dc code 47 (.new 12) 3 50 := ⟨at_47, rfl⟩
theorem w_30 {a0 : Array Value} {Z : State} (H : Wd a0 Z) : (Jvm.Cond.classLink "com/example/handpick/handpick/ScoringColumnOrientPinLaw" (12 : Nat) "com/example/handpick/handpick/ScoringColumn").before a0 Z = true := H _ (List.mem_of_getElem? (i := 30) rfl)
theorem w_32 {a0 : Array Value} {Z : State} (H : Wd a0 Z) : (Jvm.Cond.initialized "com/example/handpick/handpick/ScoringColumn").before a0 Z = true := H _ (List.mem_of_getElem? (i := 32) rfl)
theorem d0_50 : Dc code 50 (.dup) 1 51 := ⟨at_50, rfl⟩
theorem d0_51 : Dc code 51 (.aload 7) 2 53 := ⟨at_51, rfl⟩
theorem d0_53 : Dc code 53 (.iload 4) 2 55 := ⟨at_53, rfl⟩
theorem d0_55 : Dc code 55 (.invokespecial 14) 3 58 := ⟨at_55, rfl⟩
theorem w_35 {a0 : Array Value} {Z : State} (H : Wd a0 Z) : (Jvm.Cond.code ({ cls := "com/example/handpick/handpick/ScoringColumn", name := "<init>", desc := "(Ljava/lang/String;Z)V" } : Jvm.MethodName) prog_85_method_1_code (3 : Nat) (Option.none : Option Jvm.ClassFile.FieldType)).before a0 Z = true := H _ (List.mem_of_getElem? (i := 35) rfl)
theorem pd_8 : parseMethodDescriptor "(Ljava/lang/String;Z)V" = some ⟨[(.object "java/lang/String"), .boolean], none⟩ := by decide +kernel
theorem w_33 {a0 : Array Value} {Z : State} (H : Wd a0 Z) : (Jvm.Cond.methodLink "com/example/handpick/handpick/ScoringColumnOrientPinLaw" (14 : Nat) ({ cls := "com/example/handpick/handpick/ScoringColumn", name := "<init>", desc := "(Ljava/lang/String;Z)V" } : Jvm.MethodName)).before a0 Z = true := H _ (List.mem_of_getElem? (i := 33) rfl)
theorem w_34 {a0 : Array Value} {Z : State} (H : Wd a0 Z) : (Jvm.Cond.instanceMethod ({ cls := "com/example/handpick/handpick/ScoringColumn", name := "<init>", desc := "(Ljava/lang/String;Z)V" } : Jvm.MethodName)).before a0 Z = true := H _ (List.mem_of_getElem? (i := 34) rfl)
theorem d0_58 : Dc code 58 (.astore 8) 2 60 := ⟨at_58, rfl⟩
theorem d0_60 : Dc code 60 (.iload 5) 2 62 := ⟨at_60, rfl⟩
theorem d0_62 : Dc code 62 (.newarray .double) 2 64 := ⟨at_62, rfl⟩
theorem d0_64 : Dc code 64 (.astore 9) 2 66 := ⟨at_64, rfl⟩
theorem d0_66 : Dc code 66 (.iload 5) 2 68 := ⟨at_66, rfl⟩
theorem d0_68 : Db code 68 (.ifCond .le 9) 9 71 77 := ⟨at_68, rfl, rfl⟩
theorem d0_77 : Dc code 77 (.iload 5) 2 79 := ⟨at_77, rfl⟩
theorem d0_79 : Dc code 79 (.iconst 1) 1 80 := ⟨at_79, rfl⟩
theorem d0_80 : Db code 80 (.if_icmp .le 9) 9 83 89 := ⟨at_80, rfl, rfl⟩
theorem d0_89 : Dc code 89 (.iload 5) 2 91 := ⟨at_89, rfl⟩
theorem d0_91 : Dc code 91 (.iconst 2) 1 92 := ⟨at_91, rfl⟩
theorem d0_92 : Db code 92 (.if_icmp .le 9) 9 95 101 := ⟨at_92, rfl, rfl⟩
theorem d0_101 : Dc code 101 (.aload 8) 2 103 := ⟨at_101, rfl⟩
theorem d0_103 : Dc code 103 (.aload 9) 2 105 := ⟨at_103, rfl⟩
theorem d0_105 : Dc code 105 (.invokevirtual 17) 3 108 := ⟨at_105, rfl⟩
theorem w_63 {a0 : Array Value} {Z : State} (H : Wd a0 Z) : (Jvm.Cond.code ({ cls := "com/example/handpick/handpick/ScoringColumn", name := "orient", desc := "([D)[D" } : Jvm.MethodName) prog_85_method_4_code (4 : Nat) (Option.some (Jvm.ClassFile.FieldType.array Jvm.ClassFile.FieldType.double))).before a0 Z = true := H _ (List.mem_of_getElem? (i := 63) rfl)
theorem pd_9 : parseMethodDescriptor "([D)[D" = some ⟨[(.array .double)], some (.array .double)⟩ := by decide +kernel
theorem w_59 {a0 : Array Value} {Z : State} (H : Wd a0 Z) : (Jvm.Cond.methodLink "com/example/handpick/handpick/ScoringColumnOrientPinLaw" (17 : Nat) ({ cls := "com/example/handpick/handpick/ScoringColumn", name := "orient", desc := "([D)[D" } : Jvm.MethodName)).before a0 Z = true := H _ (List.mem_of_getElem? (i := 59) rfl)
theorem w_60 {a0 : Array Value} {Z : State} (H : Wd a0 Z) : (Jvm.Cond.declares ({ cls := "com/example/handpick/handpick/ScoringColumn", name := "orient", desc := "([D)[D" } : Jvm.MethodName)).before a0 Z = true := H _ (List.mem_of_getElem? (i := 60) rfl)
theorem w_62 {a0 : Array Value} {Z : State} (H : Wd a0 Z) : (Jvm.Cond.selects "com/example/handpick/handpick/ScoringColumn" ({ cls := "com/example/handpick/handpick/ScoringColumn", name := "orient", desc := "([D)[D" } : Jvm.MethodName) ({ cls := "com/example/handpick/handpick/ScoringColumn", name := "orient", desc := "([D)[D" } : Jvm.MethodName)).before a0 Z = true := H _ (List.mem_of_getElem? (i := 62) rfl)
theorem w_61 {a0 : Array Value} {Z : State} (H : Wd a0 Z) : (Jvm.Cond.instanceMethod ({ cls := "com/example/handpick/handpick/ScoringColumn", name := "orient", desc := "([D)[D" } : Jvm.MethodName)).before a0 Z = true := H _ (List.mem_of_getElem? (i := 61) rfl)
theorem d0_108 : Dc code 108 (.astore 10) 2 110 := ⟨at_108, rfl⟩
theorem d0_110 : Dc code 110 (.aload 10) 2 112 := ⟨at_110, rfl⟩
theorem d0_112 : Db code 112 (.ifnonnull 5) 5 115 117 := ⟨at_112, rfl, rfl⟩
theorem d0_117 : Dc code 117 (.aload 10) 2 119 := ⟨at_117, rfl⟩
theorem d0_119 : Dc code 119 (.aload 9) 2 121 := ⟨at_119, rfl⟩
theorem d0_121 : Db code 121 (.if_acmp .ne 5) 5 124 126 := ⟨at_121, rfl, rfl⟩
theorem d0_126 : Dc code 126 (.aload 10) 2 128 := ⟨at_126, rfl⟩
theorem d0_128 : Dc code 128 (.arraylength) 1 129 := ⟨at_128, rfl⟩
theorem d0_129 : Dc code 129 (.iload 5) 2 131 := ⟨at_129, rfl⟩
theorem d0_131 : Db code 131 (.if_icmp .eq 5) 5 134 136 := ⟨at_131, rfl, rfl⟩
theorem d0_136 : Dc code 136 (.iload 5) 2 138 := ⟨at_136, rfl⟩
theorem d0_138 : Db code 138 (.ifCond .le 22) 22 141 160 := ⟨at_138, rfl, rfl⟩
theorem d0_160 : Dc code 160 (.iload 5) 2 162 := ⟨at_160, rfl⟩
theorem d0_162 : Dc code 162 (.iconst 1) 1 163 := ⟨at_162, rfl⟩
theorem d0_163 : Db code 163 (.if_icmp .le 22) 22 166 185 := ⟨at_163, rfl, rfl⟩
theorem d0_185 : Dc code 185 (.iload 5) 2 187 := ⟨at_185, rfl⟩
theorem d0_187 : Dc code 187 (.iconst 2) 1 188 := ⟨at_187, rfl⟩
theorem d0_188 : Db code 188 (.if_icmp .le 22) 22 191 210 := ⟨at_188, rfl, rfl⟩
theorem d0_210 : Dc code 210 (.iconst 1) 1 211 := ⟨at_210, rfl⟩
theorem d0_211 : Dc code 211 (.ireturn) 1 212 := ⟨at_211, rfl⟩
theorem d0_6 : Dc code 6 (.iconst 1) 1 7 := ⟨at_6, rfl⟩
theorem d0_7 : Db code 7 (.goto 4) 4 10 11 := ⟨at_7, rfl, rfl⟩
set_option maxRecDepth 65536 in
set_option maxHeartbeats 40000000 in
theorem rm0_0 {l : Launch} {Z : State} {a0 : Array Value} {n0 : Nat} (H : Wd a0 Z) (p0 p1 p2 p3 : Int32) (hn : ((XT.ushr p3 (1 : Int32)) &&& (3 : Int32)) = (0 : Int32)) (h0 : Heap) (Z0 : n0 ≤ h0.size) {cz : Int32} (SC : Sta Z h0 "java/lang/String" "COMPACT_STRINGS" "Z" (.int cz)) (hz : ¬ cz = 0) :
    CtW l Z n0 x code maxLocals ret tables_1 room_1 #[(.int p0), (.int p1), (.int p2), (.int p3)] h0 (fun v h => v = some (.int 1)) := by
  refine CtW.of (a0 := a0) (L0 := #[.val (.int p0), .val (.int p1), .val (.int p2), .val (.int p3), .unset, .unset, .unset, .unset, .unset, .unset, .unset]) (plainFor_of_name pn_com_example_handpick_handpick_ScoringColumnOrientPinLaw) (fun m => by first | (simp [entryFrame, mkF, argsToLocals, Value.category, maxLocals]; done) | rfl) ?_
  intro κ Wk B0
  have B : Ok κ l Z a0 n0 room_1 "com/example/handpick/handpick/ScoringColumnOrientPinLaw" "law" code maxLocals ret := B0
  refine go_iload_n B d0_0 rfl ?_
  refine go_iconst B (x := (1 : Int32)) d0_1 rfl ?_
  refine go_iand B d0_2 ?_
  refine go_ifeq B d0_3 (fun c3 => ?_) (fun c3 => ?_)
  · skip
    refine go_iconst B (x := (0 : Int32)) d0_10 rfl ?_
    refine go_istore B #[.val (.int p0), .val (.int p1), .val (.int p2), .val (.int p3), .val (.int (0 : Int32)), .unset, .unset, .unset, .unset, .unset, .unset] d0_11 rfl ?_
    refine go_iload_n B d0_13 rfl ?_
    refine go_iconst B (x := (1 : Int32)) d0_14 rfl ?_
    refine go_iushr B d0_15 ?_
    refine go_iconst B (x := (3 : Int32)) d0_16 rfl ?_
    refine go_iand B d0_17 ?_
    rw [show ((XT.ushr p3 (1 : Int32)) &&& (3 : Int32)) = (0 : Int32) from hn]
    refine go_istore B #[.val (.int p0), .val (.int p1), .val (.int p2), .val (.int p3), .val (.int (0 : Int32)), .val (.int (0 : Int32)), .unset, .unset, .unset, .unset, .unset] d0_18 rfl ?_
    refine go_iload_n B d0_20 rfl ?_
    refine go_iconst B (x := (3 : Int32)) d0_21 rfl ?_
    refine go_iushr B d0_22 ?_
    refine go_sipush B (x := (255 : Int32)) d0_23 (by decide) ?_
    refine go_iand B d0_26 ?_
    refine go_i2c B d0_27 ?_
    refine go_istore B #[.val (.int p0), .val (.int p1), .val (.int p2), .val (.int p3), .val (.int (0 : Int32)), .val (.int (0 : Int32)), .val (.int ((XT.ushr p3 (3 : Int32)) &&& (255 : Int32)).toUInt32.toUInt16.toUInt32.toInt32), .unset, .unset, .unset, .unset] d0_28 rfl ?_
    refine go_new B d0_30 (w_0 H) (w_1 H) (w_2 H) (by decide) (by decide) ?_
    intro h169 a170 hba170 Ea170 Aa170 Da170
    have ge_a170 : n0 ≤ a170 := by have q1 := Z0; omega
    refine go_dup B d0_33 rfl ?_
    refine go_iconst B (x := (1 : Int32)) d0_34 rfl ?_
    refine go_newarray B (i := 1) (cap := 1) d0_35 (w_3 H) rfl (Nat.le_refl _) (by decide) (by decide) (by decide) ?_
    intro h171 a172 hba172 Ea172 Aa172 Ca172
    have ne_a172_a170 : a172 ≠ a170 := Nat.ne_of_gt (Nat.lt_of_lt_of_le (Aa170).lt (by omega))
    have ge_a172 : n0 ≤ a172 := by have q1 := (Nat.le_trans Z0 Ea170.1); omega
    have Ba172 : AV Z h171 a172 .char [(.int (0 : Int32))] := Aa172
    refine go_dup B d0_37 rfl ?_
    refine go_iconst B (x := (0 : Int32)) d0_38 rfl ?_
    refine go_iload B d0_39 rfl ?_
    refine go_castore B (i := 0) d0_41 Ba172 rfl (show 0 < 1 from by decide) ge_a172 ?_
    intro h173 W174 A175
    have A176 : AV Z h173 a172 .char [(.int (((XT.ushr p3 (3 : Int32)) &&& (255 : Int32)).toUInt32.toUInt16.toUInt32.toInt32))] := (by have q := A175; rw [(own_ch _).1] at q; exact q)
    have f184 : Fld Z h173 a170 "java/lang/String" "value" "[B" .null := (Fld.other W174 (Fld.ext Ea172 (Da170 (Or.inr (w_29 H)) (ty := (.array .byte)) (by decide))) (Or.inl (Ne.symm ne_a172_a170)))
    have f185 : Fld Z h173 a170 "java/lang/String" "coder" "B" (.int (0 : Int32)) := (Fld.other W174 (Fld.ext Ea172 (Da170 (Or.inr (w_27 H)) (ty := .byte) (by decide))) (Or.inl (Ne.symm ne_a172_a170)))
    have f186 : n0 ≤ h173.size := (Nat.le_trans (Nat.le_trans (Nat.le_trans Z0 Ea170.1) Ea172.1) (Nat.le_of_eq (Wr.size W174).symm))
    refine go_special B (W := 1) (a := a170) (argsL := [(.ref a172)]) (st := [(.ref a170)]) d0_42 rfl (w_4 H) (w_5 H) (w_2 H) (w_6 H) (by decide) (rmT H a170 a172 (((XT.ushr p3 (3 : Int32)) &&& (255 : Int32)).toUInt32.toUInt16.toUInt32.toInt32) cz h173 f186 (Exa.wr W174 (Exa.ext Ea172 Aa170)) f184 f185 A176 ge_a170 ne_a172_a170 (own_ch _).2 (Sta.wr W174 (Sta.ext Ea172 (Sta.ext Ea170 SC))) hz) pd_7 rfl rfl rfl rfl (by decide) (by decide) (by decide) (by decide) ?_
    rintro _ h187 ⟨b177, rfl, g178, K179, E181, f182, f183, A180⟩
    have ne_b177_a170 : b177 ≠ a170 := Nat.ne_of_gt (Nat.lt_of_lt_of_le ((Exa.wr W174 (Exa.ext Ea172 Aa170))).lt (by omega))
    have ne_b177_a172 : b177 ≠ a172 := Nat.ne_of_gt (Nat.lt_of_lt_of_le ((Exa.wr W174 Ca172)).lt (by omega))
    have ge_b177 : n0 ≤ b177 := by have q1 := f186; omega
    show Go κ _ h187 _ _ 45 #[.val (.int p0), .val (.int p1), .val (.int p2), .val (.int p3), .val (.int (0 : Int32)), .val (.int (0 : Int32)), .val (.int ((XT.ushr p3 (3 : Int32)) &&& (255 : Int32)).toUInt32.toUInt16.toUInt32.toInt32), .unset, .unset, .unset, .unset] [(.ref a170)]
    refine go_astore B #[.val (.int p0), .val (.int p1), .val (.int p2), .val (.int p3), .val (.int (0 : Int32)), .val (.int (0 : Int32)), .val (.int ((XT.ushr p3 (3 : Int32)) &&& (255 : Int32)).toUInt32.toUInt16.toUInt32.toInt32), .val (.ref a170), .unset, .unset, .unset] d0_45 rfl rfl ?_
    refine go_new B d0_47 (w_30 H) (w_31 H) (w_32 H) (by decide) (by decide) ?_
    intro h188 a189 hba189 Ea189 Aa189 Da189
    have ne_a189_a170 : a189 ≠ a170 := Nat.ne_of_gt (Nat.lt_of_lt_of_le (E181).lt (by omega))
    have ne_a189_a172 : a189 ≠ a172 := Nat.ne_of_gt (Nat.lt_of_lt_of_le ((Exa.keep (Exa.wr W174 Ca172) K179)).lt (by omega))
    have ne_a189_b177 : a189 ≠ b177 := Nat.ne_of_gt (Nat.lt_of_lt_of_le (A180).lt (by omega))
    have ge_a189 : n0 ≤ a189 := by have q1 := (Nat.le_trans f186 K179.1); omega
    refine go_dup B d0_50 rfl ?_
    refine go_aload B d0_51 rfl rfl ?_
    refine go_iload B d0_53 rfl ?_
    have f194 : Fld Z h188 a189 "com/example/handpick/handpick/ScoringColumn" "name" "Ljava/lang/String;" .null := (Da189 (Or.inr (w_55 H)) (ty := (.object "java/lang/String")) (by decide))
    have f195 : 0 ≤ h188.size := (Nat.le_trans (Nat.le_trans (Nat.le_trans (Nat.le_trans (Nat.le_trans (Nat.zero_le _) Ea170.1) Ea172.1) (Nat.le_of_eq (Wr.size W174).symm)) K179.1) Ea189.1)
    refine go_specialW B Wk f195 (W' := 1) (a := a189) (argsL := [(.ref a170), (.int (0 : Int32))]) (st := [(.ref a189)]) d0_55 rfl (w_33 H) (w_34 H) (w_32 H) (w_35 H) (by decide) (rmI0 H a189 a170 b177 (.int (nar .byte ((((XT.ushr p3 (3 : Int32)) &&& (255 : Int32)).toUInt32.toUInt16.toUInt32.toInt32).toInt8.toInt32))) h188 (Nat.le_trans (Nat.le_trans f186 K179.1) Ea189.1) ge_a189 Aa189 f194 (Da189 (Or.inr (w_57 H)) (ty := .boolean) (by decide)) (Exa.ext Ea189 E181) (Fld.ext Ea189 f182) (AV.ext A180 Ea189) (Ne.symm ne_a189_a170)) pd_8 rfl rfl rfl rfl (by decide) (by decide) (by decide) (by decide) ?_
    rintro κ km197 _ h196 Wk B K198 ⟨rfl, K190, E191, f192, f193⟩
    show Go κ _ h196 _ _ 58 #[.val (.int p0), .val (.int p1), .val (.int p2), .val (.int p3), .val (.int (0 : Int32)), .val (.int (0 : Int32)), .val (.int ((XT.ushr p3 (3 : Int32)) &&& (255 : Int32)).toUInt32.toUInt16.toUInt32.toInt32), .val (.ref a170), .unset, .unset, .unset] [(.ref a189)]
    refine go_astore B #[.val (.int p0), .val (.int p1), .val (.int p2), .val (.int p3), .val (.int (0 : Int32)), .val (.int (0 : Int32)), .val (.int ((XT.ushr p3 (3 : Int32)) &&& (255 : Int32)).toUInt32.toUInt16.toUInt32.toInt32), .val (.ref a170), .val (.ref a189), .unset, .unset] d0_58 rfl rfl ?_
    refine go_iload B d0_60 rfl ?_
    refine go_newarray B (i := 0) (cap := 0) d0_62 (w_58 H) rfl (Nat.le_refl _) (by decide) (by decide) (by decide) ?_
    intro h199 a200 hba200 Ea200 Aa200 Ca200
    have ne_a200_a170 : a200 ≠ a170 := Nat.ne_of_gt (Nat.lt_of_lt_of_le ((Exa.keep (Exa.ext Ea189 E181) K190)).lt (by omega))
    have f201 : Exa Z h196 a172 "[C" := (Exa.keep (Exa.ext Ea189 (Exa.keep (Exa.wr W174 Ca172) K179)) K190)
    have ne_a200_a172 : a200 ≠ a172 := Nat.ne_of_gt (Nat.lt_of_lt_of_le (f201).lt (by omega))
    have f202 : AV Z h196 b177 .byte [(.int (nar .byte ((((XT.ushr p3 (3 : Int32)) &&& (255 : Int32)).toUInt32.toUInt16.toUInt32.toInt32).toInt8.toInt32)))] := (AV.keep (AV.ext A180 Ea189) K190 (ninS (Ne.symm ne_a189_b177) nin0))
    have ne_a200_b177 : a200 ≠ b177 := Nat.ne_of_gt (Nat.lt_of_lt_of_le (f202).lt (by omega))
    have ne_a200_a189 : a200 ≠ a189 := Nat.ne_of_gt (Nat.lt_of_lt_of_le (E191).lt (by omega))
    have f203 : n0 ≤ h196.size := (Nat.le_trans (Nat.le_trans (Nat.le_trans f186 K179.1) Ea189.1) K190.1)
    have ge_a200 : n0 ≤ a200 := by have q1 := f203; omega
    have Ba200 : AV Z h199 a200 .double [] := Aa200
    refine go_astore B #[.val (.int p0), .val (.int p1), .val (.int p2), .val (.int p3), .val (.int (0 : Int32)), .val (.int (0 : Int32)), .val (.int ((XT.ushr p3 (3 : Int32)) &&& (255 : Int32)).toUInt32.toUInt16.toUInt32.toInt32), .val (.ref a170), .val (.ref a189), .val (.ref a200), .unset] d0_64 rfl rfl ?_
    refine go_iload B d0_66 rfl ?_
    refine go_ifle B d0_68 (fun c68 => ?_) (fun c68 => ?_)
    rotate_left
    · exact absurd c68 (by decide)
    refine go_iload B d0_77 rfl ?_
    refine go_iconst B (x := (1 : Int32)) d0_79 rfl ?_
    refine go_icmple B d0_80 (fun c80 => ?_) (fun c80 => ?_)
    rotate_left
    · exact absurd c80 (by decide)
    refine go_iload B d0_89 rfl ?_
    refine go_iconst B (x := (2 : Int32)) d0_91 rfl ?_
    refine go_icmple B d0_92 (fun c92 => ?_) (fun c92 => ?_)
    rotate_left
    · exact absurd c92 (by decide)
    refine go_aload B d0_101 rfl rfl ?_
    refine go_aload B d0_103 rfl rfl ?_
    refine go_virtual B (W := 0) (a := a189) (argsL := [(.ref a200)]) (st := []) d0_105 (w_59 H) (w_60 H) (w_62 H) (w_61 H) (w_32 H) (w_63 H) (by decide) (Exa.ext Ea200 E191) (rmO00 H a189 a200  h199 (Nat.le_trans f203 Ea200.1) (Fld.ext Ea200 f193) Ba200) pd_9 rfl rfl rfl rfl (by decide) (by decide) (by decide) (by decide) ?_
    rintro _ h208 ⟨b204, rfl, g205, K206, A207⟩
    have ne_b204_a170 : b204 ≠ a170 := Nat.ne_of_gt (Nat.lt_of_lt_of_le ((Exa.ext Ea200 (Exa.keep (Exa.ext Ea189 E181) K190))).lt (by omega))
    have ne_b204_a172 : b204 ≠ a172 := Nat.ne_of_gt (Nat.lt_of_lt_of_le ((Exa.ext Ea200 f201)).lt (by omega))
    have ne_b204_b177 : b204 ≠ b177 := Nat.ne_of_gt (Nat.lt_of_lt_of_le ((AV.ext f202 Ea200)).lt (by omega))
    have ne_b204_a189 : b204 ≠ a189 := Nat.ne_of_gt (Nat.lt_of_lt_of_le ((Exa.ext Ea200 E191)).lt (by omega))
    have ne_b204_a200 : b204 ≠ a200 := Nat.ne_of_gt (Nat.lt_of_lt_of_le (Ca200).lt (by omega))
    have ge_b204 : n0 ≤ b204 := by have q1 := (Nat.le_trans f203 Ea200.1); omega
    show Go κ _ h208 _ _ 108 #[.val (.int p0), .val (.int p1), .val (.int p2), .val (.int p3), .val (.int (0 : Int32)), .val (.int (0 : Int32)), .val (.int ((XT.ushr p3 (3 : Int32)) &&& (255 : Int32)).toUInt32.toUInt16.toUInt32.toInt32), .val (.ref a170), .val (.ref a189), .val (.ref a200), .unset] [(.ref b204)]
    refine go_astore B #[.val (.int p0), .val (.int p1), .val (.int p2), .val (.int p3), .val (.int (0 : Int32)), .val (.int (0 : Int32)), .val (.int ((XT.ushr p3 (3 : Int32)) &&& (255 : Int32)).toUInt32.toUInt16.toUInt32.toInt32), .val (.ref a170), .val (.ref a189), .val (.ref a200), .val (.ref b204)] d0_108 rfl rfl ?_
    refine go_aload B d0_110 rfl rfl ?_
    refine go_ifnonnull_t B d0_112 ?_
    refine go_aload B d0_117 rfl rfl ?_
    refine go_aload B d0_119 rfl rfl ?_
    refine go_acmpne B d0_121 rfl rfl (fun c121 => ?_) (fun c121 => ?_)
    rotate_left
    · exact absurd (Value.ref.inj c121) ne_b204_a200
    refine go_aload B d0_126 rfl rfl ?_
    refine go_arraylength B (x := (0 : Int32)) d0_128 A207 rfl ?_
    refine go_iload B d0_129 rfl ?_
    refine go_icmpeq B d0_131 (fun c131 => ?_) (fun c131 => ?_)
    rotate_left
    · exact absurd c131 (by decide)
    refine go_iload B d0_136 rfl ?_
    refine go_ifle B d0_138 (fun c138 => ?_) (fun c138 => ?_)
    rotate_left
    · exact absurd c138 (by decide)
    refine go_iload B d0_160 rfl ?_
    refine go_iconst B (x := (1 : Int32)) d0_162 rfl ?_
    refine go_icmple B d0_163 (fun c163 => ?_) (fun c163 => ?_)
    rotate_left
    · exact absurd c163 (by decide)
    refine go_iload B d0_185 rfl ?_
    refine go_iconst B (x := (2 : Int32)) d0_187 rfl ?_
    refine go_icmple B d0_188 (fun c188 => ?_) (fun c188 => ?_)
    rotate_left
    · exact absurd c188 (by decide)
    refine go_iconst B (x := (1 : Int32)) d0_210 rfl ?_
    refine go_zreturn B (y := (1 : Int32)) d0_211 (by decide) (by decide) (by decide) ?_ (hkm := (Nat.le_trans (Nat.le_trans K198 Ea200.1) K206.1))
    exact rfl
  · skip
    refine go_iconst B (x := (1 : Int32)) d0_6 rfl ?_
    refine go_goto B d0_7 ?_
    refine go_istore B #[.val (.int p0), .val (.int p1), .val (.int p2), .val (.int p3), .val (.int (1 : Int32)), .unset, .unset, .unset, .unset, .unset, .unset] d0_11 rfl ?_
    refine go_iload_n B d0_13 rfl ?_
    refine go_iconst B (x := (1 : Int32)) d0_14 rfl ?_
    refine go_iushr B d0_15 ?_
    refine go_iconst B (x := (3 : Int32)) d0_16 rfl ?_
    refine go_iand B d0_17 ?_
    rw [show ((XT.ushr p3 (1 : Int32)) &&& (3 : Int32)) = (0 : Int32) from hn]
    refine go_istore B #[.val (.int p0), .val (.int p1), .val (.int p2), .val (.int p3), .val (.int (1 : Int32)), .val (.int (0 : Int32)), .unset, .unset, .unset, .unset, .unset] d0_18 rfl ?_
    refine go_iload_n B d0_20 rfl ?_
    refine go_iconst B (x := (3 : Int32)) d0_21 rfl ?_
    refine go_iushr B d0_22 ?_
    refine go_sipush B (x := (255 : Int32)) d0_23 (by decide) ?_
    refine go_iand B d0_26 ?_
    refine go_i2c B d0_27 ?_
    refine go_istore B #[.val (.int p0), .val (.int p1), .val (.int p2), .val (.int p3), .val (.int (1 : Int32)), .val (.int (0 : Int32)), .val (.int ((XT.ushr p3 (3 : Int32)) &&& (255 : Int32)).toUInt32.toUInt16.toUInt32.toInt32), .unset, .unset, .unset, .unset] d0_28 rfl ?_
    refine go_new B d0_30 (w_0 H) (w_1 H) (w_2 H) (by decide) (by decide) ?_
    intro h209 a210 hba210 Ea210 Aa210 Da210
    have ge_a210 : n0 ≤ a210 := by have q1 := Z0; omega
    refine go_dup B d0_33 rfl ?_
    refine go_iconst B (x := (1 : Int32)) d0_34 rfl ?_
    refine go_newarray B (i := 1) (cap := 1) d0_35 (w_3 H) rfl (Nat.le_refl _) (by decide) (by decide) (by decide) ?_
    intro h211 a212 hba212 Ea212 Aa212 Ca212
    have ne_a212_a210 : a212 ≠ a210 := Nat.ne_of_gt (Nat.lt_of_lt_of_le (Aa210).lt (by omega))
    have ge_a212 : n0 ≤ a212 := by have q1 := (Nat.le_trans Z0 Ea210.1); omega
    have Ba212 : AV Z h211 a212 .char [(.int (0 : Int32))] := Aa212
    refine go_dup B d0_37 rfl ?_
    refine go_iconst B (x := (0 : Int32)) d0_38 rfl ?_
    refine go_iload B d0_39 rfl ?_
    refine go_castore B (i := 0) d0_41 Ba212 rfl (show 0 < 1 from by decide) ge_a212 ?_
    intro h213 W214 A215
    have A216 : AV Z h213 a212 .char [(.int (((XT.ushr p3 (3 : Int32)) &&& (255 : Int32)).toUInt32.toUInt16.toUInt32.toInt32))] := (by have q := A215; rw [(own_ch _).1] at q; exact q)
    have f224 : Fld Z h213 a210 "java/lang/String" "value" "[B" .null := (Fld.other W214 (Fld.ext Ea212 (Da210 (Or.inr (w_29 H)) (ty := (.array .byte)) (by decide))) (Or.inl (Ne.symm ne_a212_a210)))
    have f225 : Fld Z h213 a210 "java/lang/String" "coder" "B" (.int (0 : Int32)) := (Fld.other W214 (Fld.ext Ea212 (Da210 (Or.inr (w_27 H)) (ty := .byte) (by decide))) (Or.inl (Ne.symm ne_a212_a210)))
    have f226 : n0 ≤ h213.size := (Nat.le_trans (Nat.le_trans (Nat.le_trans Z0 Ea210.1) Ea212.1) (Nat.le_of_eq (Wr.size W214).symm))
    refine go_special B (W := 1) (a := a210) (argsL := [(.ref a212)]) (st := [(.ref a210)]) d0_42 rfl (w_4 H) (w_5 H) (w_2 H) (w_6 H) (by decide) (rmT H a210 a212 (((XT.ushr p3 (3 : Int32)) &&& (255 : Int32)).toUInt32.toUInt16.toUInt32.toInt32) cz h213 f226 (Exa.wr W214 (Exa.ext Ea212 Aa210)) f224 f225 A216 ge_a210 ne_a212_a210 (own_ch _).2 (Sta.wr W214 (Sta.ext Ea212 (Sta.ext Ea210 SC))) hz) pd_7 rfl rfl rfl rfl (by decide) (by decide) (by decide) (by decide) ?_
    rintro _ h227 ⟨b217, rfl, g218, K219, E221, f222, f223, A220⟩
    have ne_b217_a210 : b217 ≠ a210 := Nat.ne_of_gt (Nat.lt_of_lt_of_le ((Exa.wr W214 (Exa.ext Ea212 Aa210))).lt (by omega))
    have ne_b217_a212 : b217 ≠ a212 := Nat.ne_of_gt (Nat.lt_of_lt_of_le ((Exa.wr W214 Ca212)).lt (by omega))
    have ge_b217 : n0 ≤ b217 := by have q1 := f226; omega
    show Go κ _ h227 _ _ 45 #[.val (.int p0), .val (.int p1), .val (.int p2), .val (.int p3), .val (.int (1 : Int32)), .val (.int (0 : Int32)), .val (.int ((XT.ushr p3 (3 : Int32)) &&& (255 : Int32)).toUInt32.toUInt16.toUInt32.toInt32), .unset, .unset, .unset, .unset] [(.ref a210)]
    refine go_astore B #[.val (.int p0), .val (.int p1), .val (.int p2), .val (.int p3), .val (.int (1 : Int32)), .val (.int (0 : Int32)), .val (.int ((XT.ushr p3 (3 : Int32)) &&& (255 : Int32)).toUInt32.toUInt16.toUInt32.toInt32), .val (.ref a210), .unset, .unset, .unset] d0_45 rfl rfl ?_
    refine go_new B d0_47 (w_30 H) (w_31 H) (w_32 H) (by decide) (by decide) ?_
    intro h228 a229 hba229 Ea229 Aa229 Da229
    have ne_a229_a210 : a229 ≠ a210 := Nat.ne_of_gt (Nat.lt_of_lt_of_le (E221).lt (by omega))
    have ne_a229_a212 : a229 ≠ a212 := Nat.ne_of_gt (Nat.lt_of_lt_of_le ((Exa.keep (Exa.wr W214 Ca212) K219)).lt (by omega))
    have ne_a229_b217 : a229 ≠ b217 := Nat.ne_of_gt (Nat.lt_of_lt_of_le (A220).lt (by omega))
    have ge_a229 : n0 ≤ a229 := by have q1 := (Nat.le_trans f226 K219.1); omega
    refine go_dup B d0_50 rfl ?_
    refine go_aload B d0_51 rfl rfl ?_
    refine go_iload B d0_53 rfl ?_
    have f234 : Fld Z h228 a229 "com/example/handpick/handpick/ScoringColumn" "name" "Ljava/lang/String;" .null := (Da229 (Or.inr (w_55 H)) (ty := (.object "java/lang/String")) (by decide))
    have f235 : 0 ≤ h228.size := (Nat.le_trans (Nat.le_trans (Nat.le_trans (Nat.le_trans (Nat.le_trans (Nat.zero_le _) Ea210.1) Ea212.1) (Nat.le_of_eq (Wr.size W214).symm)) K219.1) Ea229.1)
    refine go_specialW B Wk f235 (W' := 1) (a := a229) (argsL := [(.ref a210), (.int (1 : Int32))]) (st := [(.ref a229)]) d0_55 rfl (w_33 H) (w_34 H) (w_32 H) (w_35 H) (by decide) (rmI1 H a229 a210 b217 (.int (nar .byte ((((XT.ushr p3 (3 : Int32)) &&& (255 : Int32)).toUInt32.toUInt16.toUInt32.toInt32).toInt8.toInt32))) h228 (Nat.le_trans (Nat.le_trans f226 K219.1) Ea229.1) ge_a229 Aa229 f234 (Da229 (Or.inr (w_57 H)) (ty := .boolean) (by decide)) (Exa.ext Ea229 E221) (Fld.ext Ea229 f222) (AV.ext A220 Ea229) (Ne.symm ne_a229_a210)) pd_8 rfl rfl rfl rfl (by decide) (by decide) (by decide) (by decide) ?_
    rintro κ km237 _ h236 Wk B K238 ⟨rfl, K230, E231, f232, f233⟩
    show Go κ _ h236 _ _ 58 #[.val (.int p0), .val (.int p1), .val (.int p2), .val (.int p3), .val (.int (1 : Int32)), .val (.int (0 : Int32)), .val (.int ((XT.ushr p3 (3 : Int32)) &&& (255 : Int32)).toUInt32.toUInt16.toUInt32.toInt32), .val (.ref a210), .unset, .unset, .unset] [(.ref a229)]
    refine go_astore B #[.val (.int p0), .val (.int p1), .val (.int p2), .val (.int p3), .val (.int (1 : Int32)), .val (.int (0 : Int32)), .val (.int ((XT.ushr p3 (3 : Int32)) &&& (255 : Int32)).toUInt32.toUInt16.toUInt32.toInt32), .val (.ref a210), .val (.ref a229), .unset, .unset] d0_58 rfl rfl ?_
    refine go_iload B d0_60 rfl ?_
    refine go_newarray B (i := 0) (cap := 0) d0_62 (w_58 H) rfl (Nat.le_refl _) (by decide) (by decide) (by decide) ?_
    intro h239 a240 hba240 Ea240 Aa240 Ca240
    have ne_a240_a210 : a240 ≠ a210 := Nat.ne_of_gt (Nat.lt_of_lt_of_le ((Exa.keep (Exa.ext Ea229 E221) K230)).lt (by omega))
    have f241 : Exa Z h236 a212 "[C" := (Exa.keep (Exa.ext Ea229 (Exa.keep (Exa.wr W214 Ca212) K219)) K230)
    have ne_a240_a212 : a240 ≠ a212 := Nat.ne_of_gt (Nat.lt_of_lt_of_le (f241).lt (by omega))
    have f242 : AV Z h236 b217 .byte [(.int (nar .byte ((((XT.ushr p3 (3 : Int32)) &&& (255 : Int32)).toUInt32.toUInt16.toUInt32.toInt32).toInt8.toInt32)))] := (AV.keep (AV.ext A220 Ea229) K230 (ninS (Ne.symm ne_a229_b217) nin0))
    have ne_a240_b217 : a240 ≠ b217 := Nat.ne_of_gt (Nat.lt_of_lt_of_le (f242).lt (by omega))
    have ne_a240_a229 : a240 ≠ a229 := Nat.ne_of_gt (Nat.lt_of_lt_of_le (E231).lt (by omega))
    have f243 : n0 ≤ h236.size := (Nat.le_trans (Nat.le_trans (Nat.le_trans f226 K219.1) Ea229.1) K230.1)
    have ge_a240 : n0 ≤ a240 := by have q1 := f243; omega
    have Ba240 : AV Z h239 a240 .double [] := Aa240
    refine go_astore B #[.val (.int p0), .val (.int p1), .val (.int p2), .val (.int p3), .val (.int (1 : Int32)), .val (.int (0 : Int32)), .val (.int ((XT.ushr p3 (3 : Int32)) &&& (255 : Int32)).toUInt32.toUInt16.toUInt32.toInt32), .val (.ref a210), .val (.ref a229), .val (.ref a240), .unset] d0_64 rfl rfl ?_
    refine go_iload B d0_66 rfl ?_
    refine go_ifle B d0_68 (fun c68 => ?_) (fun c68 => ?_)
    rotate_left
    · exact absurd c68 (by decide)
    refine go_iload B d0_77 rfl ?_
    refine go_iconst B (x := (1 : Int32)) d0_79 rfl ?_
    refine go_icmple B d0_80 (fun c80 => ?_) (fun c80 => ?_)
    rotate_left
    · exact absurd c80 (by decide)
    refine go_iload B d0_89 rfl ?_
    refine go_iconst B (x := (2 : Int32)) d0_91 rfl ?_
    refine go_icmple B d0_92 (fun c92 => ?_) (fun c92 => ?_)
    rotate_left
    · exact absurd c92 (by decide)
    refine go_aload B d0_101 rfl rfl ?_
    refine go_aload B d0_103 rfl rfl ?_
    refine go_virtual B (W := 0) (a := a229) (argsL := [(.ref a240)]) (st := []) d0_105 (w_59 H) (w_60 H) (w_62 H) (w_61 H) (w_32 H) (w_63 H) (by decide) (Exa.ext Ea240 E231) (rmO01 H a229 a240  h239 (Nat.le_trans f243 Ea240.1) (Fld.ext Ea240 f233) Ba240) pd_9 rfl rfl rfl rfl (by decide) (by decide) (by decide) (by decide) ?_
    rintro _ h248 ⟨b244, rfl, g245, K246, A247⟩
    have ne_b244_a210 : b244 ≠ a210 := Nat.ne_of_gt (Nat.lt_of_lt_of_le ((Exa.ext Ea240 (Exa.keep (Exa.ext Ea229 E221) K230))).lt (by omega))
    have ne_b244_a212 : b244 ≠ a212 := Nat.ne_of_gt (Nat.lt_of_lt_of_le ((Exa.ext Ea240 f241)).lt (by omega))
    have ne_b244_b217 : b244 ≠ b217 := Nat.ne_of_gt (Nat.lt_of_lt_of_le ((AV.ext f242 Ea240)).lt (by omega))
    have ne_b244_a229 : b244 ≠ a229 := Nat.ne_of_gt (Nat.lt_of_lt_of_le ((Exa.ext Ea240 E231)).lt (by omega))
    have ne_b244_a240 : b244 ≠ a240 := Nat.ne_of_gt (Nat.lt_of_lt_of_le (Ca240).lt (by omega))
    have ge_b244 : n0 ≤ b244 := by have q1 := (Nat.le_trans f243 Ea240.1); omega
    show Go κ _ h248 _ _ 108 #[.val (.int p0), .val (.int p1), .val (.int p2), .val (.int p3), .val (.int (1 : Int32)), .val (.int (0 : Int32)), .val (.int ((XT.ushr p3 (3 : Int32)) &&& (255 : Int32)).toUInt32.toUInt16.toUInt32.toInt32), .val (.ref a210), .val (.ref a229), .val (.ref a240), .unset] [(.ref b244)]
    refine go_astore B #[.val (.int p0), .val (.int p1), .val (.int p2), .val (.int p3), .val (.int (1 : Int32)), .val (.int (0 : Int32)), .val (.int ((XT.ushr p3 (3 : Int32)) &&& (255 : Int32)).toUInt32.toUInt16.toUInt32.toInt32), .val (.ref a210), .val (.ref a229), .val (.ref a240), .val (.ref b244)] d0_108 rfl rfl ?_
    refine go_aload B d0_110 rfl rfl ?_
    refine go_ifnonnull_t B d0_112 ?_
    refine go_aload B d0_117 rfl rfl ?_
    refine go_aload B d0_119 rfl rfl ?_
    refine go_acmpne B d0_121 rfl rfl (fun c121 => ?_) (fun c121 => ?_)
    rotate_left
    · exact absurd (Value.ref.inj c121) ne_b244_a240
    refine go_aload B d0_126 rfl rfl ?_
    refine go_arraylength B (x := (0 : Int32)) d0_128 A247 rfl ?_
    refine go_iload B d0_129 rfl ?_
    refine go_icmpeq B d0_131 (fun c131 => ?_) (fun c131 => ?_)
    rotate_left
    · exact absurd c131 (by decide)
    refine go_iload B d0_136 rfl ?_
    refine go_ifle B d0_138 (fun c138 => ?_) (fun c138 => ?_)
    rotate_left
    · exact absurd c138 (by decide)
    refine go_iload B d0_160 rfl ?_
    refine go_iconst B (x := (1 : Int32)) d0_162 rfl ?_
    refine go_icmple B d0_163 (fun c163 => ?_) (fun c163 => ?_)
    rotate_left
    · exact absurd c163 (by decide)
    refine go_iload B d0_185 rfl ?_
    refine go_iconst B (x := (2 : Int32)) d0_187 rfl ?_
    refine go_icmple B d0_188 (fun c188 => ?_) (fun c188 => ?_)
    rotate_left
    · exact absurd c188 (by decide)
    refine go_iconst B (x := (1 : Int32)) d0_210 rfl ?_
    refine go_zreturn B (y := (1 : Int32)) d0_211 (by decide) (by decide) (by decide) ?_ (hkm := (Nat.le_trans (Nat.le_trans K238 Ea240.1) K246.1))
    exact rfl
theorem d0_71 : Dc code 71 (.aload 9) 2 73 := ⟨at_71, rfl⟩
theorem d0_73 : Dc code 73 (.iconst 0) 1 74 := ⟨at_73, rfl⟩
theorem d0_74 : Dc code 74 (.iload_n 0) 1 75 := ⟨at_74, rfl⟩
theorem d0_75 : Dc code 75 (.i2d) 1 76 := ⟨at_75, rfl⟩
theorem d0_76 : Dc code 76 (.dastore) 1 77 := ⟨at_76, rfl⟩
theorem d0_141 : Dc code 141 (.aload 10) 2 143 := ⟨at_141, rfl⟩
theorem d0_143 : Dc code 143 (.iconst 0) 1 144 := ⟨at_143, rfl⟩
theorem d0_144 : Dc code 144 (.daload) 1 145 := ⟨at_144, rfl⟩
theorem d0_145 : Dc code 145 (.aload 9) 2 147 := ⟨at_145, rfl⟩
theorem d0_147 : Dc code 147 (.iconst 0) 1 148 := ⟨at_147, rfl⟩
theorem d0_148 : Dc code 148 (.daload) 1 149 := ⟨at_148, rfl⟩
theorem d0_149 : Dc code 149 (.iload_n 0) 1 150 := ⟨at_149, rfl⟩
theorem d0_150 : Dc code 150 (.iload 4) 2 152 := ⟨at_150, rfl⟩
theorem d0_152 : Dc code 152 (.invokestatic 21) 3 155 := ⟨at_152, rfl⟩
theorem w_67 {a0 : Array Value} {Z : State} (H : Wd a0 Z) : (Jvm.Cond.code ({ cls := "com/example/handpick/handpick/ScoringColumnOrientPinLaw", name := "ok", desc := "(DDIZ)Z" } : Jvm.MethodName) method_3_code (8 : Nat) (Option.some Jvm.ClassFile.FieldType.boolean)).before a0 Z = true := H _ (List.mem_of_getElem? (i := 67) rfl)
theorem w_66 {a0 : Array Value} {Z : State} (H : Wd a0 Z) : (Jvm.Cond.initialized "com/example/handpick/handpick/ScoringColumnOrientPinLaw").before a0 Z = true := H _ (List.mem_of_getElem? (i := 66) rfl)
theorem pd_10 : parseMethodDescriptor "(DDIZ)Z" = some ⟨[.double, .double, .int, .boolean], some .boolean⟩ := by decide +kernel
theorem w_64 {a0 : Array Value} {Z : State} (H : Wd a0 Z) : (Jvm.Cond.methodLink "com/example/handpick/handpick/ScoringColumnOrientPinLaw" (21 : Nat) ({ cls := "com/example/handpick/handpick/ScoringColumnOrientPinLaw", name := "ok", desc := "(DDIZ)Z" } : Jvm.MethodName)).before a0 Z = true := H _ (List.mem_of_getElem? (i := 64) rfl)
theorem w_65 {a0 : Array Value} {Z : State} (H : Wd a0 Z) : (Jvm.Cond.static ({ cls := "com/example/handpick/handpick/ScoringColumnOrientPinLaw", name := "ok", desc := "(DDIZ)Z" } : Jvm.MethodName)).before a0 Z = true := H _ (List.mem_of_getElem? (i := 65) rfl)
theorem d0_155 : Db code 155 (.ifCond .ne 5) 5 158 160 := ⟨at_155, rfl, rfl⟩
set_option maxRecDepth 65536 in
set_option maxHeartbeats 40000000 in
theorem rm0_1 {l : Launch} {Z : State} {a0 : Array Value} {n0 : Nat} (H : Wd a0 Z) (p0 p1 p2 p3 : Int32) (hn : ((XT.ushr p3 (1 : Int32)) &&& (3 : Int32)) = (1 : Int32)) (h0 : Heap) (Z0 : n0 ≤ h0.size) {cz : Int32} (SC : Sta Z h0 "java/lang/String" "COMPACT_STRINGS" "Z" (.int cz)) (hz : ¬ cz = 0) :
    CtW l Z n0 x code maxLocals ret tables_1 room_1 #[(.int p0), (.int p1), (.int p2), (.int p3)] h0 (fun v h => v = some (.int 1)) := by
  refine CtW.of (a0 := a0) (L0 := #[.val (.int p0), .val (.int p1), .val (.int p2), .val (.int p3), .unset, .unset, .unset, .unset, .unset, .unset, .unset]) (plainFor_of_name pn_com_example_handpick_handpick_ScoringColumnOrientPinLaw) (fun m => by first | (simp [entryFrame, mkF, argsToLocals, Value.category, maxLocals]; done) | rfl) ?_
  intro κ Wk B0
  have B : Ok κ l Z a0 n0 room_1 "com/example/handpick/handpick/ScoringColumnOrientPinLaw" "law" code maxLocals ret := B0
  refine go_iload_n B d0_0 rfl ?_
  refine go_iconst B (x := (1 : Int32)) d0_1 rfl ?_
  refine go_iand B d0_2 ?_
  refine go_ifeq B d0_3 (fun c3 => ?_) (fun c3 => ?_)
  · skip
    refine go_iconst B (x := (0 : Int32)) d0_10 rfl ?_
    refine go_istore B #[.val (.int p0), .val (.int p1), .val (.int p2), .val (.int p3), .val (.int (0 : Int32)), .unset, .unset, .unset, .unset, .unset, .unset] d0_11 rfl ?_
    refine go_iload_n B d0_13 rfl ?_
    refine go_iconst B (x := (1 : Int32)) d0_14 rfl ?_
    refine go_iushr B d0_15 ?_
    refine go_iconst B (x := (3 : Int32)) d0_16 rfl ?_
    refine go_iand B d0_17 ?_
    rw [show ((XT.ushr p3 (1 : Int32)) &&& (3 : Int32)) = (1 : Int32) from hn]
    refine go_istore B #[.val (.int p0), .val (.int p1), .val (.int p2), .val (.int p3), .val (.int (0 : Int32)), .val (.int (1 : Int32)), .unset, .unset, .unset, .unset, .unset] d0_18 rfl ?_
    refine go_iload_n B d0_20 rfl ?_
    refine go_iconst B (x := (3 : Int32)) d0_21 rfl ?_
    refine go_iushr B d0_22 ?_
    refine go_sipush B (x := (255 : Int32)) d0_23 (by decide) ?_
    refine go_iand B d0_26 ?_
    refine go_i2c B d0_27 ?_
    refine go_istore B #[.val (.int p0), .val (.int p1), .val (.int p2), .val (.int p3), .val (.int (0 : Int32)), .val (.int (1 : Int32)), .val (.int ((XT.ushr p3 (3 : Int32)) &&& (255 : Int32)).toUInt32.toUInt16.toUInt32.toInt32), .unset, .unset, .unset, .unset] d0_28 rfl ?_
    refine go_new B d0_30 (w_0 H) (w_1 H) (w_2 H) (by decide) (by decide) ?_
    intro h249 a250 hba250 Ea250 Aa250 Da250
    have ge_a250 : n0 ≤ a250 := by have q1 := Z0; omega
    refine go_dup B d0_33 rfl ?_
    refine go_iconst B (x := (1 : Int32)) d0_34 rfl ?_
    refine go_newarray B (i := 1) (cap := 1) d0_35 (w_3 H) rfl (Nat.le_refl _) (by decide) (by decide) (by decide) ?_
    intro h251 a252 hba252 Ea252 Aa252 Ca252
    have ne_a252_a250 : a252 ≠ a250 := Nat.ne_of_gt (Nat.lt_of_lt_of_le (Aa250).lt (by omega))
    have ge_a252 : n0 ≤ a252 := by have q1 := (Nat.le_trans Z0 Ea250.1); omega
    have Ba252 : AV Z h251 a252 .char [(.int (0 : Int32))] := Aa252
    refine go_dup B d0_37 rfl ?_
    refine go_iconst B (x := (0 : Int32)) d0_38 rfl ?_
    refine go_iload B d0_39 rfl ?_
    refine go_castore B (i := 0) d0_41 Ba252 rfl (show 0 < 1 from by decide) ge_a252 ?_
    intro h253 W254 A255
    have A256 : AV Z h253 a252 .char [(.int (((XT.ushr p3 (3 : Int32)) &&& (255 : Int32)).toUInt32.toUInt16.toUInt32.toInt32))] := (by have q := A255; rw [(own_ch _).1] at q; exact q)
    have f264 : Fld Z h253 a250 "java/lang/String" "value" "[B" .null := (Fld.other W254 (Fld.ext Ea252 (Da250 (Or.inr (w_29 H)) (ty := (.array .byte)) (by decide))) (Or.inl (Ne.symm ne_a252_a250)))
    have f265 : Fld Z h253 a250 "java/lang/String" "coder" "B" (.int (0 : Int32)) := (Fld.other W254 (Fld.ext Ea252 (Da250 (Or.inr (w_27 H)) (ty := .byte) (by decide))) (Or.inl (Ne.symm ne_a252_a250)))
    have f266 : n0 ≤ h253.size := (Nat.le_trans (Nat.le_trans (Nat.le_trans Z0 Ea250.1) Ea252.1) (Nat.le_of_eq (Wr.size W254).symm))
    refine go_special B (W := 1) (a := a250) (argsL := [(.ref a252)]) (st := [(.ref a250)]) d0_42 rfl (w_4 H) (w_5 H) (w_2 H) (w_6 H) (by decide) (rmT H a250 a252 (((XT.ushr p3 (3 : Int32)) &&& (255 : Int32)).toUInt32.toUInt16.toUInt32.toInt32) cz h253 f266 (Exa.wr W254 (Exa.ext Ea252 Aa250)) f264 f265 A256 ge_a250 ne_a252_a250 (own_ch _).2 (Sta.wr W254 (Sta.ext Ea252 (Sta.ext Ea250 SC))) hz) pd_7 rfl rfl rfl rfl (by decide) (by decide) (by decide) (by decide) ?_
    rintro _ h267 ⟨b257, rfl, g258, K259, E261, f262, f263, A260⟩
    have ne_b257_a250 : b257 ≠ a250 := Nat.ne_of_gt (Nat.lt_of_lt_of_le ((Exa.wr W254 (Exa.ext Ea252 Aa250))).lt (by omega))
    have ne_b257_a252 : b257 ≠ a252 := Nat.ne_of_gt (Nat.lt_of_lt_of_le ((Exa.wr W254 Ca252)).lt (by omega))
    have ge_b257 : n0 ≤ b257 := by have q1 := f266; omega
    show Go κ _ h267 _ _ 45 #[.val (.int p0), .val (.int p1), .val (.int p2), .val (.int p3), .val (.int (0 : Int32)), .val (.int (1 : Int32)), .val (.int ((XT.ushr p3 (3 : Int32)) &&& (255 : Int32)).toUInt32.toUInt16.toUInt32.toInt32), .unset, .unset, .unset, .unset] [(.ref a250)]
    refine go_astore B #[.val (.int p0), .val (.int p1), .val (.int p2), .val (.int p3), .val (.int (0 : Int32)), .val (.int (1 : Int32)), .val (.int ((XT.ushr p3 (3 : Int32)) &&& (255 : Int32)).toUInt32.toUInt16.toUInt32.toInt32), .val (.ref a250), .unset, .unset, .unset] d0_45 rfl rfl ?_
    refine go_new B d0_47 (w_30 H) (w_31 H) (w_32 H) (by decide) (by decide) ?_
    intro h268 a269 hba269 Ea269 Aa269 Da269
    have ne_a269_a250 : a269 ≠ a250 := Nat.ne_of_gt (Nat.lt_of_lt_of_le (E261).lt (by omega))
    have ne_a269_a252 : a269 ≠ a252 := Nat.ne_of_gt (Nat.lt_of_lt_of_le ((Exa.keep (Exa.wr W254 Ca252) K259)).lt (by omega))
    have ne_a269_b257 : a269 ≠ b257 := Nat.ne_of_gt (Nat.lt_of_lt_of_le (A260).lt (by omega))
    have ge_a269 : n0 ≤ a269 := by have q1 := (Nat.le_trans f266 K259.1); omega
    refine go_dup B d0_50 rfl ?_
    refine go_aload B d0_51 rfl rfl ?_
    refine go_iload B d0_53 rfl ?_
    have f274 : Fld Z h268 a269 "com/example/handpick/handpick/ScoringColumn" "name" "Ljava/lang/String;" .null := (Da269 (Or.inr (w_55 H)) (ty := (.object "java/lang/String")) (by decide))
    have f275 : 0 ≤ h268.size := (Nat.le_trans (Nat.le_trans (Nat.le_trans (Nat.le_trans (Nat.le_trans (Nat.zero_le _) Ea250.1) Ea252.1) (Nat.le_of_eq (Wr.size W254).symm)) K259.1) Ea269.1)
    refine go_specialW B Wk f275 (W' := 1) (a := a269) (argsL := [(.ref a250), (.int (0 : Int32))]) (st := [(.ref a269)]) d0_55 rfl (w_33 H) (w_34 H) (w_32 H) (w_35 H) (by decide) (rmI0 H a269 a250 b257 (.int (nar .byte ((((XT.ushr p3 (3 : Int32)) &&& (255 : Int32)).toUInt32.toUInt16.toUInt32.toInt32).toInt8.toInt32))) h268 (Nat.le_trans (Nat.le_trans f266 K259.1) Ea269.1) ge_a269 Aa269 f274 (Da269 (Or.inr (w_57 H)) (ty := .boolean) (by decide)) (Exa.ext Ea269 E261) (Fld.ext Ea269 f262) (AV.ext A260 Ea269) (Ne.symm ne_a269_a250)) pd_8 rfl rfl rfl rfl (by decide) (by decide) (by decide) (by decide) ?_
    rintro κ km277 _ h276 Wk B K278 ⟨rfl, K270, E271, f272, f273⟩
    show Go κ _ h276 _ _ 58 #[.val (.int p0), .val (.int p1), .val (.int p2), .val (.int p3), .val (.int (0 : Int32)), .val (.int (1 : Int32)), .val (.int ((XT.ushr p3 (3 : Int32)) &&& (255 : Int32)).toUInt32.toUInt16.toUInt32.toInt32), .val (.ref a250), .unset, .unset, .unset] [(.ref a269)]
    refine go_astore B #[.val (.int p0), .val (.int p1), .val (.int p2), .val (.int p3), .val (.int (0 : Int32)), .val (.int (1 : Int32)), .val (.int ((XT.ushr p3 (3 : Int32)) &&& (255 : Int32)).toUInt32.toUInt16.toUInt32.toInt32), .val (.ref a250), .val (.ref a269), .unset, .unset] d0_58 rfl rfl ?_
    refine go_iload B d0_60 rfl ?_
    refine go_newarray B (i := 1) (cap := 1) d0_62 (w_58 H) rfl (Nat.le_refl _) (by decide) (by decide) (by decide) ?_
    intro h279 a280 hba280 Ea280 Aa280 Ca280
    have ne_a280_a250 : a280 ≠ a250 := Nat.ne_of_gt (Nat.lt_of_lt_of_le ((Exa.keep (Exa.ext Ea269 E261) K270)).lt (by omega))
    have f281 : Exa Z h276 a252 "[C" := (Exa.keep (Exa.ext Ea269 (Exa.keep (Exa.wr W254 Ca252) K259)) K270)
    have ne_a280_a252 : a280 ≠ a252 := Nat.ne_of_gt (Nat.lt_of_lt_of_le (f281).lt (by omega))
    have f282 : AV Z h276 b257 .byte [(.int (nar .byte ((((XT.ushr p3 (3 : Int32)) &&& (255 : Int32)).toUInt32.toUInt16.toUInt32.toInt32).toInt8.toInt32)))] := (AV.keep (AV.ext A260 Ea269) K270 (ninS (Ne.symm ne_a269_b257) nin0))
    have ne_a280_b257 : a280 ≠ b257 := Nat.ne_of_gt (Nat.lt_of_lt_of_le (f282).lt (by omega))
    have ne_a280_a269 : a280 ≠ a269 := Nat.ne_of_gt (Nat.lt_of_lt_of_le (E271).lt (by omega))
    have f283 : n0 ≤ h276.size := (Nat.le_trans (Nat.le_trans (Nat.le_trans f266 K259.1) Ea269.1) K270.1)
    have ge_a280 : n0 ≤ a280 := by have q1 := f283; omega
    have Ba280 : AV Z h279 a280 .double [(.double (0 : UInt64))] := Aa280
    refine go_astore B #[.val (.int p0), .val (.int p1), .val (.int p2), .val (.int p3), .val (.int (0 : Int32)), .val (.int (1 : Int32)), .val (.int ((XT.ushr p3 (3 : Int32)) &&& (255 : Int32)).toUInt32.toUInt16.toUInt32.toInt32), .val (.ref a250), .val (.ref a269), .val (.ref a280), .unset] d0_64 rfl rfl ?_
    refine go_iload B d0_66 rfl ?_
    refine go_ifle B d0_68 (fun c68 => ?_) (fun c68 => ?_)
    · exact absurd c68 (by decide)
    refine go_aload B d0_71 rfl rfl ?_
    refine go_iconst B (x := (0 : Int32)) d0_73 rfl ?_
    refine go_iload_n B d0_74 rfl ?_
    refine go_i2d B d0_75 ?_
    refine go_dastore B (i := 0) d0_76 Ba280 rfl (show 0 < 1 from by decide) ge_a280 ?_
    intro h284 W285 A286
    have A287 : AV Z h284 a280 .double [(.double (FP.i2d p0))] := A286
    refine go_iload B d0_77 rfl ?_
    refine go_iconst B (x := (1 : Int32)) d0_79 rfl ?_
    refine go_icmple B d0_80 (fun c80 => ?_) (fun c80 => ?_)
    rotate_left
    · exact absurd c80 (by decide)
    refine go_iload B d0_89 rfl ?_
    refine go_iconst B (x := (2 : Int32)) d0_91 rfl ?_
    refine go_icmple B d0_92 (fun c92 => ?_) (fun c92 => ?_)
    rotate_left
    · exact absurd c92 (by decide)
    refine go_aload B d0_101 rfl rfl ?_
    refine go_aload B d0_103 rfl rfl ?_
    have f292 : n0 ≤ h284.size := (Nat.le_trans (Nat.le_trans f283 Ea280.1) (Nat.le_of_eq (Wr.size W285).symm))
    have f293 : Fld Z h284 a269 "com/example/handpick/handpick/ScoringColumn" "smallerIsBetter" "Z" (.int (0 : Int32)) := (Fld.other W285 (Fld.ext Ea280 f273) (Or.inl (Ne.symm ne_a280_a269)))
    refine go_virtual B (W := 0) (a := a269) (argsL := [(.ref a280)]) (st := []) d0_105 (w_59 H) (w_60 H) (w_62 H) (w_61 H) (w_32 H) (w_63 H) (by decide) (Exa.wr W285 (Exa.ext Ea280 E271)) (rmO10 H a269 a280 (FP.i2d p0) h284 f292 f293 A287) pd_9 rfl rfl rfl rfl (by decide) (by decide) (by decide) (by decide) ?_
    rintro _ h294 ⟨b288, rfl, g289, K290, A291⟩
    have f295 : Exa Z h284 a250 "java/lang/String" := (Exa.wr W285 (Exa.ext Ea280 (Exa.keep (Exa.ext Ea269 E261) K270)))
    have ne_b288_a250 : b288 ≠ a250 := Nat.ne_of_gt (Nat.lt_of_lt_of_le (f295).lt (by omega))
    have ne_b288_a252 : b288 ≠ a252 := Nat.ne_of_gt (Nat.lt_of_lt_of_le ((Exa.wr W285 (Exa.ext Ea280 f281))).lt (by omega))
    have ne_b288_b257 : b288 ≠ b257 := Nat.ne_of_gt (Nat.lt_of_lt_of_le ((AV.other (AV.ext f282 Ea280) W285 (Ne.symm ne_a280_b257))).lt (by omega))
    have ne_b288_a269 : b288 ≠ a269 := Nat.ne_of_gt (Nat.lt_of_lt_of_le ((Exa.wr W285 (Exa.ext Ea280 E271))).lt (by omega))
    have ne_b288_a280 : b288 ≠ a280 := Nat.ne_of_gt (Nat.lt_of_lt_of_le ((Exa.wr W285 Ca280)).lt (by omega))
    have ge_b288 : n0 ≤ b288 := by have q1 := f292; omega
    show Go κ _ h294 _ _ 108 #[.val (.int p0), .val (.int p1), .val (.int p2), .val (.int p3), .val (.int (0 : Int32)), .val (.int (1 : Int32)), .val (.int ((XT.ushr p3 (3 : Int32)) &&& (255 : Int32)).toUInt32.toUInt16.toUInt32.toInt32), .val (.ref a250), .val (.ref a269), .val (.ref a280), .unset] [(.ref b288)]
    refine go_astore B #[.val (.int p0), .val (.int p1), .val (.int p2), .val (.int p3), .val (.int (0 : Int32)), .val (.int (1 : Int32)), .val (.int ((XT.ushr p3 (3 : Int32)) &&& (255 : Int32)).toUInt32.toUInt16.toUInt32.toInt32), .val (.ref a250), .val (.ref a269), .val (.ref a280), .val (.ref b288)] d0_108 rfl rfl ?_
    refine go_aload B d0_110 rfl rfl ?_
    refine go_ifnonnull_t B d0_112 ?_
    refine go_aload B d0_117 rfl rfl ?_
    refine go_aload B d0_119 rfl rfl ?_
    refine go_acmpne B d0_121 rfl rfl (fun c121 => ?_) (fun c121 => ?_)
    rotate_left
    · exact absurd (Value.ref.inj c121) ne_b288_a280
    refine go_aload B d0_126 rfl rfl ?_
    refine go_arraylength B (x := (1 : Int32)) d0_128 A291 rfl ?_
    refine go_iload B d0_129 rfl ?_
    refine go_icmpeq B d0_131 (fun c131 => ?_) (fun c131 => ?_)
    rotate_left
    · exact absurd c131 (by decide)
    refine go_iload B d0_136 rfl ?_
    refine go_ifle B d0_138 (fun c138 => ?_) (fun c138 => ?_)
    · exact absurd c138 (by decide)
    refine go_aload B d0_141 rfl rfl ?_
    refine go_iconst B (x := (0 : Int32)) d0_143 rfl ?_
    refine go_daload B (i := 0) (v := (.double (FP.i2d p0))) d0_144 A291 rfl rfl ?_
    refine go_aload B d0_145 rfl rfl ?_
    refine go_iconst B (x := (0 : Int32)) d0_147 rfl ?_
    refine go_daload B (i := 0) (v := (.double (FP.i2d p0))) d0_148 (AV.keep A287 K290 nin0) rfl rfl ?_
    refine go_iload_n B d0_149 rfl ?_
    refine go_iload B d0_150 rfl ?_
    refine go_static B (W := 0) (argsL := [(.double (FP.i2d p0)), (.double (FP.i2d p0)), (.int p0), (.int (0 : Int32))]) (st := []) d0_152 (w_64 H) (w_65 H) (w_66 H) (w_67 H) (by decide) (rmQ0 H p0 h294 (Nat.le_trans f292 K290.1)) pd_10 rfl rfl rfl rfl (by decide) (by decide) (by decide) (by decide) ?_
    rintro _ h296 ⟨rfl, rfl⟩
    show Go κ _ h294 _ _ 155 #[.val (.int p0), .val (.int p1), .val (.int p2), .val (.int p3), .val (.int (0 : Int32)), .val (.int (1 : Int32)), .val (.int ((XT.ushr p3 (3 : Int32)) &&& (255 : Int32)).toUInt32.toUInt16.toUInt32.toInt32), .val (.ref a250), .val (.ref a269), .val (.ref a280), .val (.ref b288)] [(.int (1 : Int32))]
    refine go_ifne B d0_155 (fun c155 => ?_) (fun c155 => ?_)
    rotate_left
    · exact absurd c155 (by decide)
    refine go_iload B d0_160 rfl ?_
    refine go_iconst B (x := (1 : Int32)) d0_162 rfl ?_
    refine go_icmple B d0_163 (fun c163 => ?_) (fun c163 => ?_)
    rotate_left
    · exact absurd c163 (by decide)
    refine go_iload B d0_185 rfl ?_
    refine go_iconst B (x := (2 : Int32)) d0_187 rfl ?_
    refine go_icmple B d0_188 (fun c188 => ?_) (fun c188 => ?_)
    rotate_left
    · exact absurd c188 (by decide)
    refine go_iconst B (x := (1 : Int32)) d0_210 rfl ?_
    have f297 : km277 ≤ h294.size := (Nat.le_trans (Nat.le_trans (Nat.le_trans K278 Ea280.1) (Nat.le_of_eq (Wr.size W285).symm)) K290.1)
    refine go_zreturn B (y := (1 : Int32)) d0_211 (by decide) (by decide) (by decide) ?_ (hkm := f297)
    exact rfl
  · skip
    refine go_iconst B (x := (1 : Int32)) d0_6 rfl ?_
    refine go_goto B d0_7 ?_
    refine go_istore B #[.val (.int p0), .val (.int p1), .val (.int p2), .val (.int p3), .val (.int (1 : Int32)), .unset, .unset, .unset, .unset, .unset, .unset] d0_11 rfl ?_
    refine go_iload_n B d0_13 rfl ?_
    refine go_iconst B (x := (1 : Int32)) d0_14 rfl ?_
    refine go_iushr B d0_15 ?_
    refine go_iconst B (x := (3 : Int32)) d0_16 rfl ?_
    refine go_iand B d0_17 ?_
    rw [show ((XT.ushr p3 (1 : Int32)) &&& (3 : Int32)) = (1 : Int32) from hn]
    refine go_istore B #[.val (.int p0), .val (.int p1), .val (.int p2), .val (.int p3), .val (.int (1 : Int32)), .val (.int (1 : Int32)), .unset, .unset, .unset, .unset, .unset] d0_18 rfl ?_
    refine go_iload_n B d0_20 rfl ?_
    refine go_iconst B (x := (3 : Int32)) d0_21 rfl ?_
    refine go_iushr B d0_22 ?_
    refine go_sipush B (x := (255 : Int32)) d0_23 (by decide) ?_
    refine go_iand B d0_26 ?_
    refine go_i2c B d0_27 ?_
    refine go_istore B #[.val (.int p0), .val (.int p1), .val (.int p2), .val (.int p3), .val (.int (1 : Int32)), .val (.int (1 : Int32)), .val (.int ((XT.ushr p3 (3 : Int32)) &&& (255 : Int32)).toUInt32.toUInt16.toUInt32.toInt32), .unset, .unset, .unset, .unset] d0_28 rfl ?_
    refine go_new B d0_30 (w_0 H) (w_1 H) (w_2 H) (by decide) (by decide) ?_
    intro h298 a299 hba299 Ea299 Aa299 Da299
    have ge_a299 : n0 ≤ a299 := by have q1 := Z0; omega
    refine go_dup B d0_33 rfl ?_
    refine go_iconst B (x := (1 : Int32)) d0_34 rfl ?_
    refine go_newarray B (i := 1) (cap := 1) d0_35 (w_3 H) rfl (Nat.le_refl _) (by decide) (by decide) (by decide) ?_
    intro h300 a301 hba301 Ea301 Aa301 Ca301
    have ne_a301_a299 : a301 ≠ a299 := Nat.ne_of_gt (Nat.lt_of_lt_of_le (Aa299).lt (by omega))
    have ge_a301 : n0 ≤ a301 := by have q1 := (Nat.le_trans Z0 Ea299.1); omega
    have Ba301 : AV Z h300 a301 .char [(.int (0 : Int32))] := Aa301
    refine go_dup B d0_37 rfl ?_
    refine go_iconst B (x := (0 : Int32)) d0_38 rfl ?_
    refine go_iload B d0_39 rfl ?_
    refine go_castore B (i := 0) d0_41 Ba301 rfl (show 0 < 1 from by decide) ge_a301 ?_
    intro h302 W303 A304
    have A305 : AV Z h302 a301 .char [(.int (((XT.ushr p3 (3 : Int32)) &&& (255 : Int32)).toUInt32.toUInt16.toUInt32.toInt32))] := (by have q := A304; rw [(own_ch _).1] at q; exact q)
    have f313 : Fld Z h302 a299 "java/lang/String" "value" "[B" .null := (Fld.other W303 (Fld.ext Ea301 (Da299 (Or.inr (w_29 H)) (ty := (.array .byte)) (by decide))) (Or.inl (Ne.symm ne_a301_a299)))
    have f314 : Fld Z h302 a299 "java/lang/String" "coder" "B" (.int (0 : Int32)) := (Fld.other W303 (Fld.ext Ea301 (Da299 (Or.inr (w_27 H)) (ty := .byte) (by decide))) (Or.inl (Ne.symm ne_a301_a299)))
    have f315 : n0 ≤ h302.size := (Nat.le_trans (Nat.le_trans (Nat.le_trans Z0 Ea299.1) Ea301.1) (Nat.le_of_eq (Wr.size W303).symm))
    refine go_special B (W := 1) (a := a299) (argsL := [(.ref a301)]) (st := [(.ref a299)]) d0_42 rfl (w_4 H) (w_5 H) (w_2 H) (w_6 H) (by decide) (rmT H a299 a301 (((XT.ushr p3 (3 : Int32)) &&& (255 : Int32)).toUInt32.toUInt16.toUInt32.toInt32) cz h302 f315 (Exa.wr W303 (Exa.ext Ea301 Aa299)) f313 f314 A305 ge_a299 ne_a301_a299 (own_ch _).2 (Sta.wr W303 (Sta.ext Ea301 (Sta.ext Ea299 SC))) hz) pd_7 rfl rfl rfl rfl (by decide) (by decide) (by decide) (by decide) ?_
    rintro _ h316 ⟨b306, rfl, g307, K308, E310, f311, f312, A309⟩
    have ne_b306_a299 : b306 ≠ a299 := Nat.ne_of_gt (Nat.lt_of_lt_of_le ((Exa.wr W303 (Exa.ext Ea301 Aa299))).lt (by omega))
    have ne_b306_a301 : b306 ≠ a301 := Nat.ne_of_gt (Nat.lt_of_lt_of_le ((Exa.wr W303 Ca301)).lt (by omega))
    have ge_b306 : n0 ≤ b306 := by have q1 := f315; omega
    show Go κ _ h316 _ _ 45 #[.val (.int p0), .val (.int p1), .val (.int p2), .val (.int p3), .val (.int (1 : Int32)), .val (.int (1 : Int32)), .val (.int ((XT.ushr p3 (3 : Int32)) &&& (255 : Int32)).toUInt32.toUInt16.toUInt32.toInt32), .unset, .unset, .unset, .unset] [(.ref a299)]
    refine go_astore B #[.val (.int p0), .val (.int p1), .val (.int p2), .val (.int p3), .val (.int (1 : Int32)), .val (.int (1 : Int32)), .val (.int ((XT.ushr p3 (3 : Int32)) &&& (255 : Int32)).toUInt32.toUInt16.toUInt32.toInt32), .val (.ref a299), .unset, .unset, .unset] d0_45 rfl rfl ?_
    refine go_new B d0_47 (w_30 H) (w_31 H) (w_32 H) (by decide) (by decide) ?_
    intro h317 a318 hba318 Ea318 Aa318 Da318
    have ne_a318_a299 : a318 ≠ a299 := Nat.ne_of_gt (Nat.lt_of_lt_of_le (E310).lt (by omega))
    have ne_a318_a301 : a318 ≠ a301 := Nat.ne_of_gt (Nat.lt_of_lt_of_le ((Exa.keep (Exa.wr W303 Ca301) K308)).lt (by omega))
    have ne_a318_b306 : a318 ≠ b306 := Nat.ne_of_gt (Nat.lt_of_lt_of_le (A309).lt (by omega))
    have ge_a318 : n0 ≤ a318 := by have q1 := (Nat.le_trans f315 K308.1); omega
    refine go_dup B d0_50 rfl ?_
    refine go_aload B d0_51 rfl rfl ?_
    refine go_iload B d0_53 rfl ?_
    have f323 : Fld Z h317 a318 "com/example/handpick/handpick/ScoringColumn" "name" "Ljava/lang/String;" .null := (Da318 (Or.inr (w_55 H)) (ty := (.object "java/lang/String")) (by decide))
    have f324 : 0 ≤ h317.size := (Nat.le_trans (Nat.le_trans (Nat.le_trans (Nat.le_trans (Nat.le_trans (Nat.zero_le _) Ea299.1) Ea301.1) (Nat.le_of_eq (Wr.size W303).symm)) K308.1) Ea318.1)
    refine go_specialW B Wk f324 (W' := 1) (a := a318) (argsL := [(.ref a299), (.int (1 : Int32))]) (st := [(.ref a318)]) d0_55 rfl (w_33 H) (w_34 H) (w_32 H) (w_35 H) (by decide) (rmI1 H a318 a299 b306 (.int (nar .byte ((((XT.ushr p3 (3 : Int32)) &&& (255 : Int32)).toUInt32.toUInt16.toUInt32.toInt32).toInt8.toInt32))) h317 (Nat.le_trans (Nat.le_trans f315 K308.1) Ea318.1) ge_a318 Aa318 f323 (Da318 (Or.inr (w_57 H)) (ty := .boolean) (by decide)) (Exa.ext Ea318 E310) (Fld.ext Ea318 f311) (AV.ext A309 Ea318) (Ne.symm ne_a318_a299)) pd_8 rfl rfl rfl rfl (by decide) (by decide) (by decide) (by decide) ?_
    rintro κ km326 _ h325 Wk B K327 ⟨rfl, K319, E320, f321, f322⟩
    show Go κ _ h325 _ _ 58 #[.val (.int p0), .val (.int p1), .val (.int p2), .val (.int p3), .val (.int (1 : Int32)), .val (.int (1 : Int32)), .val (.int ((XT.ushr p3 (3 : Int32)) &&& (255 : Int32)).toUInt32.toUInt16.toUInt32.toInt32), .val (.ref a299), .unset, .unset, .unset] [(.ref a318)]
    refine go_astore B #[.val (.int p0), .val (.int p1), .val (.int p2), .val (.int p3), .val (.int (1 : Int32)), .val (.int (1 : Int32)), .val (.int ((XT.ushr p3 (3 : Int32)) &&& (255 : Int32)).toUInt32.toUInt16.toUInt32.toInt32), .val (.ref a299), .val (.ref a318), .unset, .unset] d0_58 rfl rfl ?_
    refine go_iload B d0_60 rfl ?_
    refine go_newarray B (i := 1) (cap := 1) d0_62 (w_58 H) rfl (Nat.le_refl _) (by decide) (by decide) (by decide) ?_
    intro h328 a329 hba329 Ea329 Aa329 Ca329
    have ne_a329_a299 : a329 ≠ a299 := Nat.ne_of_gt (Nat.lt_of_lt_of_le ((Exa.keep (Exa.ext Ea318 E310) K319)).lt (by omega))
    have f330 : Exa Z h325 a301 "[C" := (Exa.keep (Exa.ext Ea318 (Exa.keep (Exa.wr W303 Ca301) K308)) K319)
    have ne_a329_a301 : a329 ≠ a301 := Nat.ne_of_gt (Nat.lt_of_lt_of_le (f330).lt (by omega))
    have f331 : AV Z h325 b306 .byte [(.int (nar .byte ((((XT.ushr p3 (3 : Int32)) &&& (255 : Int32)).toUInt32.toUInt16.toUInt32.toInt32).toInt8.toInt32)))] := (AV.keep (AV.ext A309 Ea318) K319 (ninS (Ne.symm ne_a318_b306) nin0))
    have ne_a329_b306 : a329 ≠ b306 := Nat.ne_of_gt (Nat.lt_of_lt_of_le (f331).lt (by omega))
    have ne_a329_a318 : a329 ≠ a318 := Nat.ne_of_gt (Nat.lt_of_lt_of_le (E320).lt (by omega))
    have f332 : n0 ≤ h325.size := (Nat.le_trans (Nat.le_trans (Nat.le_trans f315 K308.1) Ea318.1) K319.1)
    have ge_a329 : n0 ≤ a329 := by have q1 := f332; omega
    have Ba329 : AV Z h328 a329 .double [(.double (0 : UInt64))] := Aa329
    refine go_astore B #[.val (.int p0), .val (.int p1), .val (.int p2), .val (.int p3), .val (.int (1 : Int32)), .val (.int (1 : Int32)), .val (.int ((XT.ushr p3 (3 : Int32)) &&& (255 : Int32)).toUInt32.toUInt16.toUInt32.toInt32), .val (.ref a299), .val (.ref a318), .val (.ref a329), .unset] d0_64 rfl rfl ?_
    refine go_iload B d0_66 rfl ?_
    refine go_ifle B d0_68 (fun c68 => ?_) (fun c68 => ?_)
    · exact absurd c68 (by decide)
    refine go_aload B d0_71 rfl rfl ?_
    refine go_iconst B (x := (0 : Int32)) d0_73 rfl ?_
    refine go_iload_n B d0_74 rfl ?_
    refine go_i2d B d0_75 ?_
    refine go_dastore B (i := 0) d0_76 Ba329 rfl (show 0 < 1 from by decide) ge_a329 ?_
    intro h333 W334 A335
    have A336 : AV Z h333 a329 .double [(.double (FP.i2d p0))] := A335
    refine go_iload B d0_77 rfl ?_
    refine go_iconst B (x := (1 : Int32)) d0_79 rfl ?_
    refine go_icmple B d0_80 (fun c80 => ?_) (fun c80 => ?_)
    rotate_left
    · exact absurd c80 (by decide)
    refine go_iload B d0_89 rfl ?_
    refine go_iconst B (x := (2 : Int32)) d0_91 rfl ?_
    refine go_icmple B d0_92 (fun c92 => ?_) (fun c92 => ?_)
    rotate_left
    · exact absurd c92 (by decide)
    refine go_aload B d0_101 rfl rfl ?_
    refine go_aload B d0_103 rfl rfl ?_
    have f341 : n0 ≤ h333.size := (Nat.le_trans (Nat.le_trans f332 Ea329.1) (Nat.le_of_eq (Wr.size W334).symm))
    have f342 : Fld Z h333 a318 "com/example/handpick/handpick/ScoringColumn" "smallerIsBetter" "Z" (.int (1 : Int32)) := (Fld.other W334 (Fld.ext Ea329 f322) (Or.inl (Ne.symm ne_a329_a318)))
    refine go_virtual B (W := 0) (a := a318) (argsL := [(.ref a329)]) (st := []) d0_105 (w_59 H) (w_60 H) (w_62 H) (w_61 H) (w_32 H) (w_63 H) (by decide) (Exa.wr W334 (Exa.ext Ea329 E320)) (rmO11 H a318 a329 (FP.i2d p0) h333 f341 f342 A336) pd_9 rfl rfl rfl rfl (by decide) (by decide) (by decide) (by decide) ?_
    rintro _ h343 ⟨b337, rfl, g338, K339, A340⟩
    have f344 : Exa Z h333 a299 "java/lang/String" := (Exa.wr W334 (Exa.ext Ea329 (Exa.keep (Exa.ext Ea318 E310) K319)))
    have ne_b337_a299 : b337 ≠ a299 := Nat.ne_of_gt (Nat.lt_of_lt_of_le (f344).lt (by omega))
    have ne_b337_a301 : b337 ≠ a301 := Nat.ne_of_gt (Nat.lt_of_lt_of_le ((Exa.wr W334 (Exa.ext Ea329 f330))).lt (by omega))
    have ne_b337_b306 : b337 ≠ b306 := Nat.ne_of_gt (Nat.lt_of_lt_of_le ((AV.other (AV.ext f331 Ea329) W334 (Ne.symm ne_a329_b306))).lt (by omega))
    have ne_b337_a318 : b337 ≠ a318 := Nat.ne_of_gt (Nat.lt_of_lt_of_le ((Exa.wr W334 (Exa.ext Ea329 E320))).lt (by omega))
    have ne_b337_a329 : b337 ≠ a329 := Nat.ne_of_gt (Nat.lt_of_lt_of_le ((Exa.wr W334 Ca329)).lt (by omega))
    have ge_b337 : n0 ≤ b337 := by have q1 := f341; omega
    show Go κ _ h343 _ _ 108 #[.val (.int p0), .val (.int p1), .val (.int p2), .val (.int p3), .val (.int (1 : Int32)), .val (.int (1 : Int32)), .val (.int ((XT.ushr p3 (3 : Int32)) &&& (255 : Int32)).toUInt32.toUInt16.toUInt32.toInt32), .val (.ref a299), .val (.ref a318), .val (.ref a329), .unset] [(.ref b337)]
    refine go_astore B #[.val (.int p0), .val (.int p1), .val (.int p2), .val (.int p3), .val (.int (1 : Int32)), .val (.int (1 : Int32)), .val (.int ((XT.ushr p3 (3 : Int32)) &&& (255 : Int32)).toUInt32.toUInt16.toUInt32.toInt32), .val (.ref a299), .val (.ref a318), .val (.ref a329), .val (.ref b337)] d0_108 rfl rfl ?_
    refine go_aload B d0_110 rfl rfl ?_
    refine go_ifnonnull_t B d0_112 ?_
    refine go_aload B d0_117 rfl rfl ?_
    refine go_aload B d0_119 rfl rfl ?_
    refine go_acmpne B d0_121 rfl rfl (fun c121 => ?_) (fun c121 => ?_)
    rotate_left
    · exact absurd (Value.ref.inj c121) ne_b337_a329
    refine go_aload B d0_126 rfl rfl ?_
    refine go_arraylength B (x := (1 : Int32)) d0_128 A340 rfl ?_
    refine go_iload B d0_129 rfl ?_
    refine go_icmpeq B d0_131 (fun c131 => ?_) (fun c131 => ?_)
    rotate_left
    · exact absurd c131 (by decide)
    refine go_iload B d0_136 rfl ?_
    refine go_ifle B d0_138 (fun c138 => ?_) (fun c138 => ?_)
    · exact absurd c138 (by decide)
    refine go_aload B d0_141 rfl rfl ?_
    refine go_iconst B (x := (0 : Int32)) d0_143 rfl ?_
    refine go_daload B (i := 0) (v := (.double (FP.dneg (FP.i2d p0)))) d0_144 A340 rfl rfl ?_
    refine go_aload B d0_145 rfl rfl ?_
    refine go_iconst B (x := (0 : Int32)) d0_147 rfl ?_
    refine go_daload B (i := 0) (v := (.double (FP.i2d p0))) d0_148 (AV.keep A336 K339 nin0) rfl rfl ?_
    refine go_iload_n B d0_149 rfl ?_
    refine go_iload B d0_150 rfl ?_
    refine go_static B (W := 0) (argsL := [(.double (FP.dneg (FP.i2d p0))), (.double (FP.i2d p0)), (.int p0), (.int (1 : Int32))]) (st := []) d0_152 (w_64 H) (w_65 H) (w_66 H) (w_67 H) (by decide) (rmQ1 H p0 h343 (Nat.le_trans f341 K339.1)) pd_10 rfl rfl rfl rfl (by decide) (by decide) (by decide) (by decide) ?_
    rintro _ h345 ⟨rfl, rfl⟩
    show Go κ _ h343 _ _ 155 #[.val (.int p0), .val (.int p1), .val (.int p2), .val (.int p3), .val (.int (1 : Int32)), .val (.int (1 : Int32)), .val (.int ((XT.ushr p3 (3 : Int32)) &&& (255 : Int32)).toUInt32.toUInt16.toUInt32.toInt32), .val (.ref a299), .val (.ref a318), .val (.ref a329), .val (.ref b337)] [(.int (1 : Int32))]
    refine go_ifne B d0_155 (fun c155 => ?_) (fun c155 => ?_)
    rotate_left
    · exact absurd c155 (by decide)
    refine go_iload B d0_160 rfl ?_
    refine go_iconst B (x := (1 : Int32)) d0_162 rfl ?_
    refine go_icmple B d0_163 (fun c163 => ?_) (fun c163 => ?_)
    rotate_left
    · exact absurd c163 (by decide)
    refine go_iload B d0_185 rfl ?_
    refine go_iconst B (x := (2 : Int32)) d0_187 rfl ?_
    refine go_icmple B d0_188 (fun c188 => ?_) (fun c188 => ?_)
    rotate_left
    · exact absurd c188 (by decide)
    refine go_iconst B (x := (1 : Int32)) d0_210 rfl ?_
    have f346 : km326 ≤ h343.size := (Nat.le_trans (Nat.le_trans (Nat.le_trans K327 Ea329.1) (Nat.le_of_eq (Wr.size W334).symm)) K339.1)
    refine go_zreturn B (y := (1 : Int32)) d0_211 (by decide) (by decide) (by decide) ?_ (hkm := f346)
    exact rfl
theorem d0_83 : Dc code 83 (.aload 9) 2 85 := ⟨at_83, rfl⟩
theorem d0_85 : Dc code 85 (.iconst 1) 1 86 := ⟨at_85, rfl⟩
theorem d0_86 : Dc code 86 (.iload_n 1) 1 87 := ⟨at_86, rfl⟩
theorem d0_87 : Dc code 87 (.i2d) 1 88 := ⟨at_87, rfl⟩
theorem d0_88 : Dc code 88 (.dastore) 1 89 := ⟨at_88, rfl⟩
theorem d0_166 : Dc code 166 (.aload 10) 2 168 := ⟨at_166, rfl⟩
theorem d0_168 : Dc code 168 (.iconst 1) 1 169 := ⟨at_168, rfl⟩
theorem d0_169 : Dc code 169 (.daload) 1 170 := ⟨at_169, rfl⟩
theorem d0_170 : Dc code 170 (.aload 9) 2 172 := ⟨at_170, rfl⟩
theorem d0_172 : Dc code 172 (.iconst 1) 1 173 := ⟨at_172, rfl⟩
theorem d0_173 : Dc code 173 (.daload) 1 174 := ⟨at_173, rfl⟩
theorem d0_174 : Dc code 174 (.iload_n 1) 1 175 := ⟨at_174, rfl⟩
theorem d0_175 : Dc code 175 (.iload 4) 2 177 := ⟨at_175, rfl⟩
theorem d0_177 : Dc code 177 (.invokestatic 21) 3 180 := ⟨at_177, rfl⟩
theorem d0_180 : Db code 180 (.ifCond .ne 5) 5 183 185 := ⟨at_180, rfl, rfl⟩
set_option maxRecDepth 65536 in
set_option maxHeartbeats 40000000 in
theorem rm0_2 {l : Launch} {Z : State} {a0 : Array Value} {n0 : Nat} (H : Wd a0 Z) (p0 p1 p2 p3 : Int32) (hn : ((XT.ushr p3 (1 : Int32)) &&& (3 : Int32)) = (2 : Int32)) (h0 : Heap) (Z0 : n0 ≤ h0.size) {cz : Int32} (SC : Sta Z h0 "java/lang/String" "COMPACT_STRINGS" "Z" (.int cz)) (hz : ¬ cz = 0) :
    CtW l Z n0 x code maxLocals ret tables_1 room_1 #[(.int p0), (.int p1), (.int p2), (.int p3)] h0 (fun v h => v = some (.int 1)) := by
  refine CtW.of (a0 := a0) (L0 := #[.val (.int p0), .val (.int p1), .val (.int p2), .val (.int p3), .unset, .unset, .unset, .unset, .unset, .unset, .unset]) (plainFor_of_name pn_com_example_handpick_handpick_ScoringColumnOrientPinLaw) (fun m => by first | (simp [entryFrame, mkF, argsToLocals, Value.category, maxLocals]; done) | rfl) ?_
  intro κ Wk B0
  have B : Ok κ l Z a0 n0 room_1 "com/example/handpick/handpick/ScoringColumnOrientPinLaw" "law" code maxLocals ret := B0
  refine go_iload_n B d0_0 rfl ?_
  refine go_iconst B (x := (1 : Int32)) d0_1 rfl ?_
  refine go_iand B d0_2 ?_
  refine go_ifeq B d0_3 (fun c3 => ?_) (fun c3 => ?_)
  · skip
    refine go_iconst B (x := (0 : Int32)) d0_10 rfl ?_
    refine go_istore B #[.val (.int p0), .val (.int p1), .val (.int p2), .val (.int p3), .val (.int (0 : Int32)), .unset, .unset, .unset, .unset, .unset, .unset] d0_11 rfl ?_
    refine go_iload_n B d0_13 rfl ?_
    refine go_iconst B (x := (1 : Int32)) d0_14 rfl ?_
    refine go_iushr B d0_15 ?_
    refine go_iconst B (x := (3 : Int32)) d0_16 rfl ?_
    refine go_iand B d0_17 ?_
    rw [show ((XT.ushr p3 (1 : Int32)) &&& (3 : Int32)) = (2 : Int32) from hn]
    refine go_istore B #[.val (.int p0), .val (.int p1), .val (.int p2), .val (.int p3), .val (.int (0 : Int32)), .val (.int (2 : Int32)), .unset, .unset, .unset, .unset, .unset] d0_18 rfl ?_
    refine go_iload_n B d0_20 rfl ?_
    refine go_iconst B (x := (3 : Int32)) d0_21 rfl ?_
    refine go_iushr B d0_22 ?_
    refine go_sipush B (x := (255 : Int32)) d0_23 (by decide) ?_
    refine go_iand B d0_26 ?_
    refine go_i2c B d0_27 ?_
    refine go_istore B #[.val (.int p0), .val (.int p1), .val (.int p2), .val (.int p3), .val (.int (0 : Int32)), .val (.int (2 : Int32)), .val (.int ((XT.ushr p3 (3 : Int32)) &&& (255 : Int32)).toUInt32.toUInt16.toUInt32.toInt32), .unset, .unset, .unset, .unset] d0_28 rfl ?_
    refine go_new B d0_30 (w_0 H) (w_1 H) (w_2 H) (by decide) (by decide) ?_
    intro h347 a348 hba348 Ea348 Aa348 Da348
    have ge_a348 : n0 ≤ a348 := by have q1 := Z0; omega
    refine go_dup B d0_33 rfl ?_
    refine go_iconst B (x := (1 : Int32)) d0_34 rfl ?_
    refine go_newarray B (i := 1) (cap := 1) d0_35 (w_3 H) rfl (Nat.le_refl _) (by decide) (by decide) (by decide) ?_
    intro h349 a350 hba350 Ea350 Aa350 Ca350
    have ne_a350_a348 : a350 ≠ a348 := Nat.ne_of_gt (Nat.lt_of_lt_of_le (Aa348).lt (by omega))
    have ge_a350 : n0 ≤ a350 := by have q1 := (Nat.le_trans Z0 Ea348.1); omega
    have Ba350 : AV Z h349 a350 .char [(.int (0 : Int32))] := Aa350
    refine go_dup B d0_37 rfl ?_
    refine go_iconst B (x := (0 : Int32)) d0_38 rfl ?_
    refine go_iload B d0_39 rfl ?_
    refine go_castore B (i := 0) d0_41 Ba350 rfl (show 0 < 1 from by decide) ge_a350 ?_
    intro h351 W352 A353
    have A354 : AV Z h351 a350 .char [(.int (((XT.ushr p3 (3 : Int32)) &&& (255 : Int32)).toUInt32.toUInt16.toUInt32.toInt32))] := (by have q := A353; rw [(own_ch _).1] at q; exact q)
    have f362 : Fld Z h351 a348 "java/lang/String" "value" "[B" .null := (Fld.other W352 (Fld.ext Ea350 (Da348 (Or.inr (w_29 H)) (ty := (.array .byte)) (by decide))) (Or.inl (Ne.symm ne_a350_a348)))
    have f363 : Fld Z h351 a348 "java/lang/String" "coder" "B" (.int (0 : Int32)) := (Fld.other W352 (Fld.ext Ea350 (Da348 (Or.inr (w_27 H)) (ty := .byte) (by decide))) (Or.inl (Ne.symm ne_a350_a348)))
    have f364 : n0 ≤ h351.size := (Nat.le_trans (Nat.le_trans (Nat.le_trans Z0 Ea348.1) Ea350.1) (Nat.le_of_eq (Wr.size W352).symm))
    refine go_special B (W := 1) (a := a348) (argsL := [(.ref a350)]) (st := [(.ref a348)]) d0_42 rfl (w_4 H) (w_5 H) (w_2 H) (w_6 H) (by decide) (rmT H a348 a350 (((XT.ushr p3 (3 : Int32)) &&& (255 : Int32)).toUInt32.toUInt16.toUInt32.toInt32) cz h351 f364 (Exa.wr W352 (Exa.ext Ea350 Aa348)) f362 f363 A354 ge_a348 ne_a350_a348 (own_ch _).2 (Sta.wr W352 (Sta.ext Ea350 (Sta.ext Ea348 SC))) hz) pd_7 rfl rfl rfl rfl (by decide) (by decide) (by decide) (by decide) ?_
    rintro _ h365 ⟨b355, rfl, g356, K357, E359, f360, f361, A358⟩
    have ne_b355_a348 : b355 ≠ a348 := Nat.ne_of_gt (Nat.lt_of_lt_of_le ((Exa.wr W352 (Exa.ext Ea350 Aa348))).lt (by omega))
    have ne_b355_a350 : b355 ≠ a350 := Nat.ne_of_gt (Nat.lt_of_lt_of_le ((Exa.wr W352 Ca350)).lt (by omega))
    have ge_b355 : n0 ≤ b355 := by have q1 := f364; omega
    show Go κ _ h365 _ _ 45 #[.val (.int p0), .val (.int p1), .val (.int p2), .val (.int p3), .val (.int (0 : Int32)), .val (.int (2 : Int32)), .val (.int ((XT.ushr p3 (3 : Int32)) &&& (255 : Int32)).toUInt32.toUInt16.toUInt32.toInt32), .unset, .unset, .unset, .unset] [(.ref a348)]
    refine go_astore B #[.val (.int p0), .val (.int p1), .val (.int p2), .val (.int p3), .val (.int (0 : Int32)), .val (.int (2 : Int32)), .val (.int ((XT.ushr p3 (3 : Int32)) &&& (255 : Int32)).toUInt32.toUInt16.toUInt32.toInt32), .val (.ref a348), .unset, .unset, .unset] d0_45 rfl rfl ?_
    refine go_new B d0_47 (w_30 H) (w_31 H) (w_32 H) (by decide) (by decide) ?_
    intro h366 a367 hba367 Ea367 Aa367 Da367
    have ne_a367_a348 : a367 ≠ a348 := Nat.ne_of_gt (Nat.lt_of_lt_of_le (E359).lt (by omega))
    have ne_a367_a350 : a367 ≠ a350 := Nat.ne_of_gt (Nat.lt_of_lt_of_le ((Exa.keep (Exa.wr W352 Ca350) K357)).lt (by omega))
    have ne_a367_b355 : a367 ≠ b355 := Nat.ne_of_gt (Nat.lt_of_lt_of_le (A358).lt (by omega))
    have ge_a367 : n0 ≤ a367 := by have q1 := (Nat.le_trans f364 K357.1); omega
    refine go_dup B d0_50 rfl ?_
    refine go_aload B d0_51 rfl rfl ?_
    refine go_iload B d0_53 rfl ?_
    have f372 : Fld Z h366 a367 "com/example/handpick/handpick/ScoringColumn" "name" "Ljava/lang/String;" .null := (Da367 (Or.inr (w_55 H)) (ty := (.object "java/lang/String")) (by decide))
    have f373 : 0 ≤ h366.size := (Nat.le_trans (Nat.le_trans (Nat.le_trans (Nat.le_trans (Nat.le_trans (Nat.zero_le _) Ea348.1) Ea350.1) (Nat.le_of_eq (Wr.size W352).symm)) K357.1) Ea367.1)
    refine go_specialW B Wk f373 (W' := 1) (a := a367) (argsL := [(.ref a348), (.int (0 : Int32))]) (st := [(.ref a367)]) d0_55 rfl (w_33 H) (w_34 H) (w_32 H) (w_35 H) (by decide) (rmI0 H a367 a348 b355 (.int (nar .byte ((((XT.ushr p3 (3 : Int32)) &&& (255 : Int32)).toUInt32.toUInt16.toUInt32.toInt32).toInt8.toInt32))) h366 (Nat.le_trans (Nat.le_trans f364 K357.1) Ea367.1) ge_a367 Aa367 f372 (Da367 (Or.inr (w_57 H)) (ty := .boolean) (by decide)) (Exa.ext Ea367 E359) (Fld.ext Ea367 f360) (AV.ext A358 Ea367) (Ne.symm ne_a367_a348)) pd_8 rfl rfl rfl rfl (by decide) (by decide) (by decide) (by decide) ?_
    rintro κ km375 _ h374 Wk B K376 ⟨rfl, K368, E369, f370, f371⟩
    show Go κ _ h374 _ _ 58 #[.val (.int p0), .val (.int p1), .val (.int p2), .val (.int p3), .val (.int (0 : Int32)), .val (.int (2 : Int32)), .val (.int ((XT.ushr p3 (3 : Int32)) &&& (255 : Int32)).toUInt32.toUInt16.toUInt32.toInt32), .val (.ref a348), .unset, .unset, .unset] [(.ref a367)]
    refine go_astore B #[.val (.int p0), .val (.int p1), .val (.int p2), .val (.int p3), .val (.int (0 : Int32)), .val (.int (2 : Int32)), .val (.int ((XT.ushr p3 (3 : Int32)) &&& (255 : Int32)).toUInt32.toUInt16.toUInt32.toInt32), .val (.ref a348), .val (.ref a367), .unset, .unset] d0_58 rfl rfl ?_
    refine go_iload B d0_60 rfl ?_
    refine go_newarray B (i := 2) (cap := 2) d0_62 (w_58 H) rfl (Nat.le_refl _) (by decide) (by decide) (by decide) ?_
    intro h377 a378 hba378 Ea378 Aa378 Ca378
    have ne_a378_a348 : a378 ≠ a348 := Nat.ne_of_gt (Nat.lt_of_lt_of_le ((Exa.keep (Exa.ext Ea367 E359) K368)).lt (by omega))
    have f379 : Exa Z h374 a350 "[C" := (Exa.keep (Exa.ext Ea367 (Exa.keep (Exa.wr W352 Ca350) K357)) K368)
    have ne_a378_a350 : a378 ≠ a350 := Nat.ne_of_gt (Nat.lt_of_lt_of_le (f379).lt (by omega))
    have f380 : AV Z h374 b355 .byte [(.int (nar .byte ((((XT.ushr p3 (3 : Int32)) &&& (255 : Int32)).toUInt32.toUInt16.toUInt32.toInt32).toInt8.toInt32)))] := (AV.keep (AV.ext A358 Ea367) K368 (ninS (Ne.symm ne_a367_b355) nin0))
    have ne_a378_b355 : a378 ≠ b355 := Nat.ne_of_gt (Nat.lt_of_lt_of_le (f380).lt (by omega))
    have ne_a378_a367 : a378 ≠ a367 := Nat.ne_of_gt (Nat.lt_of_lt_of_le (E369).lt (by omega))
    have f381 : n0 ≤ h374.size := (Nat.le_trans (Nat.le_trans (Nat.le_trans f364 K357.1) Ea367.1) K368.1)
    have ge_a378 : n0 ≤ a378 := by have q1 := f381; omega
    have Ba378 : AV Z h377 a378 .double [(.double (0 : UInt64)), (.double (0 : UInt64))] := Aa378
    refine go_astore B #[.val (.int p0), .val (.int p1), .val (.int p2), .val (.int p3), .val (.int (0 : Int32)), .val (.int (2 : Int32)), .val (.int ((XT.ushr p3 (3 : Int32)) &&& (255 : Int32)).toUInt32.toUInt16.toUInt32.toInt32), .val (.ref a348), .val (.ref a367), .val (.ref a378), .unset] d0_64 rfl rfl ?_
    refine go_iload B d0_66 rfl ?_
    refine go_ifle B d0_68 (fun c68 => ?_) (fun c68 => ?_)
    · exact absurd c68 (by decide)
    refine go_aload B d0_71 rfl rfl ?_
    refine go_iconst B (x := (0 : Int32)) d0_73 rfl ?_
    refine go_iload_n B d0_74 rfl ?_
    refine go_i2d B d0_75 ?_
    refine go_dastore B (i := 0) d0_76 Ba378 rfl (show 0 < 2 from by decide) ge_a378 ?_
    intro h382 W383 A384
    have A385 : AV Z h382 a378 .double [(.double (FP.i2d p0)), (.double (0 : UInt64))] := A384
    refine go_iload B d0_77 rfl ?_
    refine go_iconst B (x := (1 : Int32)) d0_79 rfl ?_
    refine go_icmple B d0_80 (fun c80 => ?_) (fun c80 => ?_)
    · exact absurd c80 (by decide)
    refine go_aload B d0_83 rfl rfl ?_
    refine go_iconst B (x := (1 : Int32)) d0_85 rfl ?_
    refine go_iload_n B d0_86 rfl ?_
    refine go_i2d B d0_87 ?_
    refine go_dastore B (i := 1) d0_88 A385 rfl (show 1 < 2 from by decide) ge_a378 ?_
    intro h386 W387 A388
    have A389 : AV Z h386 a378 .double [(.double (FP.i2d p0)), (.double (FP.i2d p1))] := A388
    refine go_iload B d0_89 rfl ?_
    refine go_iconst B (x := (2 : Int32)) d0_91 rfl ?_
    refine go_icmple B d0_92 (fun c92 => ?_) (fun c92 => ?_)
    rotate_left
    · exact absurd c92 (by decide)
    refine go_aload B d0_101 rfl rfl ?_
    refine go_aload B d0_103 rfl rfl ?_
    have f394 : n0 ≤ h386.size := (Nat.le_trans (Nat.le_trans (Nat.le_trans f381 Ea378.1) (Nat.le_of_eq (Wr.size W383).symm)) (Nat.le_of_eq (Wr.size W387).symm))
    have f395 : Fld Z h386 a367 "com/example/handpick/handpick/ScoringColumn" "smallerIsBetter" "Z" (.int (0 : Int32)) := (Fld.other W387 (Fld.other W383 (Fld.ext Ea378 f371) (Or.inl (Ne.symm ne_a378_a367))) (Or.inl (Ne.symm ne_a378_a367)))
    refine go_virtual B (W := 0) (a := a367) (argsL := [(.ref a378)]) (st := []) d0_105 (w_59 H) (w_60 H) (w_62 H) (w_61 H) (w_32 H) (w_63 H) (by decide) (Exa.wr W387 (Exa.wr W383 (Exa.ext Ea378 E369))) (rmO20 H a367 a378 (FP.i2d p0) (FP.i2d p1) h386 f394 f395 A389) pd_9 rfl rfl rfl rfl (by decide) (by decide) (by decide) (by decide) ?_
    rintro _ h396 ⟨b390, rfl, g391, K392, A393⟩
    have f397 : Exa Z h386 a348 "java/lang/String" := (Exa.wr W387 (Exa.wr W383 (Exa.ext Ea378 (Exa.keep (Exa.ext Ea367 E359) K368))))
    have ne_b390_a348 : b390 ≠ a348 := Nat.ne_of_gt (Nat.lt_of_lt_of_le (f397).lt (by omega))
    have ne_b390_a350 : b390 ≠ a350 := Nat.ne_of_gt (Nat.lt_of_lt_of_le ((Exa.wr W387 (Exa.wr W383 (Exa.ext Ea378 f379)))).lt (by omega))
    have f398 : AV Z h386 b355 .byte [(.int (nar .byte ((((XT.ushr p3 (3 : Int32)) &&& (255 : Int32)).toUInt32.toUInt16.toUInt32.toInt32).toInt8.toInt32)))] := (AV.other (AV.other (AV.ext f380 Ea378) W383 (Ne.symm ne_a378_b355)) W387 (Ne.symm ne_a378_b355))
    have ne_b390_b355 : b390 ≠ b355 := Nat.ne_of_gt (Nat.lt_of_lt_of_le (f398).lt (by omega))
    have ne_b390_a367 : b390 ≠ a367 := Nat.ne_of_gt (Nat.lt_of_lt_of_le ((Exa.wr W387 (Exa.wr W383 (Exa.ext Ea378 E369)))).lt (by omega))
    have ne_b390_a378 : b390 ≠ a378 := Nat.ne_of_gt (Nat.lt_of_lt_of_le ((Exa.wr W387 (Exa.wr W383 Ca378))).lt (by omega))
    have ge_b390 : n0 ≤ b390 := by have q1 := f394; omega
    show Go κ _ h396 _ _ 108 #[.val (.int p0), .val (.int p1), .val (.int p2), .val (.int p3), .val (.int (0 : Int32)), .val (.int (2 : Int32)), .val (.int ((XT.ushr p3 (3 : Int32)) &&& (255 : Int32)).toUInt32.toUInt16.toUInt32.toInt32), .val (.ref a348), .val (.ref a367), .val (.ref a378), .unset] [(.ref b390)]
    refine go_astore B #[.val (.int p0), .val (.int p1), .val (.int p2), .val (.int p3), .val (.int (0 : Int32)), .val (.int (2 : Int32)), .val (.int ((XT.ushr p3 (3 : Int32)) &&& (255 : Int32)).toUInt32.toUInt16.toUInt32.toInt32), .val (.ref a348), .val (.ref a367), .val (.ref a378), .val (.ref b390)] d0_108 rfl rfl ?_
    refine go_aload B d0_110 rfl rfl ?_
    refine go_ifnonnull_t B d0_112 ?_
    refine go_aload B d0_117 rfl rfl ?_
    refine go_aload B d0_119 rfl rfl ?_
    refine go_acmpne B d0_121 rfl rfl (fun c121 => ?_) (fun c121 => ?_)
    rotate_left
    · exact absurd (Value.ref.inj c121) ne_b390_a378
    refine go_aload B d0_126 rfl rfl ?_
    refine go_arraylength B (x := (2 : Int32)) d0_128 A393 rfl ?_
    refine go_iload B d0_129 rfl ?_
    refine go_icmpeq B d0_131 (fun c131 => ?_) (fun c131 => ?_)
    rotate_left
    · exact absurd c131 (by decide)
    refine go_iload B d0_136 rfl ?_
    refine go_ifle B d0_138 (fun c138 => ?_) (fun c138 => ?_)
    · exact absurd c138 (by decide)
    refine go_aload B d0_141 rfl rfl ?_
    refine go_iconst B (x := (0 : Int32)) d0_143 rfl ?_
    refine go_daload B (i := 0) (v := (.double (FP.i2d p0))) d0_144 A393 rfl rfl ?_
    refine go_aload B d0_145 rfl rfl ?_
    refine go_iconst B (x := (0 : Int32)) d0_147 rfl ?_
    refine go_daload B (i := 0) (v := (.double (FP.i2d p0))) d0_148 (AV.keep A389 K392 nin0) rfl rfl ?_
    refine go_iload_n B d0_149 rfl ?_
    refine go_iload B d0_150 rfl ?_
    refine go_static B (W := 0) (argsL := [(.double (FP.i2d p0)), (.double (FP.i2d p0)), (.int p0), (.int (0 : Int32))]) (st := []) d0_152 (w_64 H) (w_65 H) (w_66 H) (w_67 H) (by decide) (rmQ0 H p0 h396 (Nat.le_trans f394 K392.1)) pd_10 rfl rfl rfl rfl (by decide) (by decide) (by decide) (by decide) ?_
    rintro _ h399 ⟨rfl, rfl⟩
    show Go κ _ h396 _ _ 155 #[.val (.int p0), .val (.int p1), .val (.int p2), .val (.int p3), .val (.int (0 : Int32)), .val (.int (2 : Int32)), .val (.int ((XT.ushr p3 (3 : Int32)) &&& (255 : Int32)).toUInt32.toUInt16.toUInt32.toInt32), .val (.ref a348), .val (.ref a367), .val (.ref a378), .val (.ref b390)] [(.int (1 : Int32))]
    refine go_ifne B d0_155 (fun c155 => ?_) (fun c155 => ?_)
    rotate_left
    · exact absurd c155 (by decide)
    refine go_iload B d0_160 rfl ?_
    refine go_iconst B (x := (1 : Int32)) d0_162 rfl ?_
    refine go_icmple B d0_163 (fun c163 => ?_) (fun c163 => ?_)
    · exact absurd c163 (by decide)
    refine go_aload B d0_166 rfl rfl ?_
    refine go_iconst B (x := (1 : Int32)) d0_168 rfl ?_
    refine go_daload B (i := 1) (v := (.double (FP.i2d p1))) d0_169 A393 rfl rfl ?_
    refine go_aload B d0_170 rfl rfl ?_
    refine go_iconst B (x := (1 : Int32)) d0_172 rfl ?_
    refine go_daload B (i := 1) (v := (.double (FP.i2d p1))) d0_173 (AV.keep A389 K392 nin0) rfl rfl ?_
    refine go_iload_n B d0_174 rfl ?_
    refine go_iload B d0_175 rfl ?_
    refine go_static B (W := 0) (argsL := [(.double (FP.i2d p1)), (.double (FP.i2d p1)), (.int p1), (.int (0 : Int32))]) (st := []) d0_177 (w_64 H) (w_65 H) (w_66 H) (w_67 H) (by decide) (rmQ0 H p1 h396 (Nat.le_trans f394 K392.1)) pd_10 rfl rfl rfl rfl (by decide) (by decide) (by decide) (by decide) ?_
    rintro _ h400 ⟨rfl, rfl⟩
    show Go κ _ h396 _ _ 180 #[.val (.int p0), .val (.int p1), .val (.int p2), .val (.int p3), .val (.int (0 : Int32)), .val (.int (2 : Int32)), .val (.int ((XT.ushr p3 (3 : Int32)) &&& (255 : Int32)).toUInt32.toUInt16.toUInt32.toInt32), .val (.ref a348), .val (.ref a367), .val (.ref a378), .val (.ref b390)] [(.int (1 : Int32))]
    refine go_ifne B d0_180 (fun c180 => ?_) (fun c180 => ?_)
    rotate_left
    · exact absurd c180 (by decide)
    refine go_iload B d0_185 rfl ?_
    refine go_iconst B (x := (2 : Int32)) d0_187 rfl ?_
    refine go_icmple B d0_188 (fun c188 => ?_) (fun c188 => ?_)
    rotate_left
    · exact absurd c188 (by decide)
    refine go_iconst B (x := (1 : Int32)) d0_210 rfl ?_
    have f401 : km375 ≤ h396.size := (Nat.le_trans (Nat.le_trans (Nat.le_trans (Nat.le_trans K376 Ea378.1) (Nat.le_of_eq (Wr.size W383).symm)) (Nat.le_of_eq (Wr.size W387).symm)) K392.1)
    refine go_zreturn B (y := (1 : Int32)) d0_211 (by decide) (by decide) (by decide) ?_ (hkm := f401)
    exact rfl
  · skip
    refine go_iconst B (x := (1 : Int32)) d0_6 rfl ?_
    refine go_goto B d0_7 ?_
    refine go_istore B #[.val (.int p0), .val (.int p1), .val (.int p2), .val (.int p3), .val (.int (1 : Int32)), .unset, .unset, .unset, .unset, .unset, .unset] d0_11 rfl ?_
    refine go_iload_n B d0_13 rfl ?_
    refine go_iconst B (x := (1 : Int32)) d0_14 rfl ?_
    refine go_iushr B d0_15 ?_
    refine go_iconst B (x := (3 : Int32)) d0_16 rfl ?_
    refine go_iand B d0_17 ?_
    rw [show ((XT.ushr p3 (1 : Int32)) &&& (3 : Int32)) = (2 : Int32) from hn]
    refine go_istore B #[.val (.int p0), .val (.int p1), .val (.int p2), .val (.int p3), .val (.int (1 : Int32)), .val (.int (2 : Int32)), .unset, .unset, .unset, .unset, .unset] d0_18 rfl ?_
    refine go_iload_n B d0_20 rfl ?_
    refine go_iconst B (x := (3 : Int32)) d0_21 rfl ?_
    refine go_iushr B d0_22 ?_
    refine go_sipush B (x := (255 : Int32)) d0_23 (by decide) ?_
    refine go_iand B d0_26 ?_
    refine go_i2c B d0_27 ?_
    refine go_istore B #[.val (.int p0), .val (.int p1), .val (.int p2), .val (.int p3), .val (.int (1 : Int32)), .val (.int (2 : Int32)), .val (.int ((XT.ushr p3 (3 : Int32)) &&& (255 : Int32)).toUInt32.toUInt16.toUInt32.toInt32), .unset, .unset, .unset, .unset] d0_28 rfl ?_
    refine go_new B d0_30 (w_0 H) (w_1 H) (w_2 H) (by decide) (by decide) ?_
    intro h402 a403 hba403 Ea403 Aa403 Da403
    have ge_a403 : n0 ≤ a403 := by have q1 := Z0; omega
    refine go_dup B d0_33 rfl ?_
    refine go_iconst B (x := (1 : Int32)) d0_34 rfl ?_
    refine go_newarray B (i := 1) (cap := 1) d0_35 (w_3 H) rfl (Nat.le_refl _) (by decide) (by decide) (by decide) ?_
    intro h404 a405 hba405 Ea405 Aa405 Ca405
    have ne_a405_a403 : a405 ≠ a403 := Nat.ne_of_gt (Nat.lt_of_lt_of_le (Aa403).lt (by omega))
    have ge_a405 : n0 ≤ a405 := by have q1 := (Nat.le_trans Z0 Ea403.1); omega
    have Ba405 : AV Z h404 a405 .char [(.int (0 : Int32))] := Aa405
    refine go_dup B d0_37 rfl ?_
    refine go_iconst B (x := (0 : Int32)) d0_38 rfl ?_
    refine go_iload B d0_39 rfl ?_
    refine go_castore B (i := 0) d0_41 Ba405 rfl (show 0 < 1 from by decide) ge_a405 ?_
    intro h406 W407 A408
    have A409 : AV Z h406 a405 .char [(.int (((XT.ushr p3 (3 : Int32)) &&& (255 : Int32)).toUInt32.toUInt16.toUInt32.toInt32))] := (by have q := A408; rw [(own_ch _).1] at q; exact q)
    have f417 : Fld Z h406 a403 "java/lang/String" "value" "[B" .null := (Fld.other W407 (Fld.ext Ea405 (Da403 (Or.inr (w_29 H)) (ty := (.array .byte)) (by decide))) (Or.inl (Ne.symm ne_a405_a403)))
    have f418 : Fld Z h406 a403 "java/lang/String" "coder" "B" (.int (0 : Int32)) := (Fld.other W407 (Fld.ext Ea405 (Da403 (Or.inr (w_27 H)) (ty := .byte) (by decide))) (Or.inl (Ne.symm ne_a405_a403)))
    have f419 : n0 ≤ h406.size := (Nat.le_trans (Nat.le_trans (Nat.le_trans Z0 Ea403.1) Ea405.1) (Nat.le_of_eq (Wr.size W407).symm))
    refine go_special B (W := 1) (a := a403) (argsL := [(.ref a405)]) (st := [(.ref a403)]) d0_42 rfl (w_4 H) (w_5 H) (w_2 H) (w_6 H) (by decide) (rmT H a403 a405 (((XT.ushr p3 (3 : Int32)) &&& (255 : Int32)).toUInt32.toUInt16.toUInt32.toInt32) cz h406 f419 (Exa.wr W407 (Exa.ext Ea405 Aa403)) f417 f418 A409 ge_a403 ne_a405_a403 (own_ch _).2 (Sta.wr W407 (Sta.ext Ea405 (Sta.ext Ea403 SC))) hz) pd_7 rfl rfl rfl rfl (by decide) (by decide) (by decide) (by decide) ?_
    rintro _ h420 ⟨b410, rfl, g411, K412, E414, f415, f416, A413⟩
    have ne_b410_a403 : b410 ≠ a403 := Nat.ne_of_gt (Nat.lt_of_lt_of_le ((Exa.wr W407 (Exa.ext Ea405 Aa403))).lt (by omega))
    have ne_b410_a405 : b410 ≠ a405 := Nat.ne_of_gt (Nat.lt_of_lt_of_le ((Exa.wr W407 Ca405)).lt (by omega))
    have ge_b410 : n0 ≤ b410 := by have q1 := f419; omega
    show Go κ _ h420 _ _ 45 #[.val (.int p0), .val (.int p1), .val (.int p2), .val (.int p3), .val (.int (1 : Int32)), .val (.int (2 : Int32)), .val (.int ((XT.ushr p3 (3 : Int32)) &&& (255 : Int32)).toUInt32.toUInt16.toUInt32.toInt32), .unset, .unset, .unset, .unset] [(.ref a403)]
    refine go_astore B #[.val (.int p0), .val (.int p1), .val (.int p2), .val (.int p3), .val (.int (1 : Int32)), .val (.int (2 : Int32)), .val (.int ((XT.ushr p3 (3 : Int32)) &&& (255 : Int32)).toUInt32.toUInt16.toUInt32.toInt32), .val (.ref a403), .unset, .unset, .unset] d0_45 rfl rfl ?_
    refine go_new B d0_47 (w_30 H) (w_31 H) (w_32 H) (by decide) (by decide) ?_
    intro h421 a422 hba422 Ea422 Aa422 Da422
    have ne_a422_a403 : a422 ≠ a403 := Nat.ne_of_gt (Nat.lt_of_lt_of_le (E414).lt (by omega))
    have ne_a422_a405 : a422 ≠ a405 := Nat.ne_of_gt (Nat.lt_of_lt_of_le ((Exa.keep (Exa.wr W407 Ca405) K412)).lt (by omega))
    have ne_a422_b410 : a422 ≠ b410 := Nat.ne_of_gt (Nat.lt_of_lt_of_le (A413).lt (by omega))
    have ge_a422 : n0 ≤ a422 := by have q1 := (Nat.le_trans f419 K412.1); omega
    refine go_dup B d0_50 rfl ?_
    refine go_aload B d0_51 rfl rfl ?_
    refine go_iload B d0_53 rfl ?_
    have f427 : Fld Z h421 a422 "com/example/handpick/handpick/ScoringColumn" "name" "Ljava/lang/String;" .null := (Da422 (Or.inr (w_55 H)) (ty := (.object "java/lang/String")) (by decide))
    have f428 : 0 ≤ h421.size := (Nat.le_trans (Nat.le_trans (Nat.le_trans (Nat.le_trans (Nat.le_trans (Nat.zero_le _) Ea403.1) Ea405.1) (Nat.le_of_eq (Wr.size W407).symm)) K412.1) Ea422.1)
    refine go_specialW B Wk f428 (W' := 1) (a := a422) (argsL := [(.ref a403), (.int (1 : Int32))]) (st := [(.ref a422)]) d0_55 rfl (w_33 H) (w_34 H) (w_32 H) (w_35 H) (by decide) (rmI1 H a422 a403 b410 (.int (nar .byte ((((XT.ushr p3 (3 : Int32)) &&& (255 : Int32)).toUInt32.toUInt16.toUInt32.toInt32).toInt8.toInt32))) h421 (Nat.le_trans (Nat.le_trans f419 K412.1) Ea422.1) ge_a422 Aa422 f427 (Da422 (Or.inr (w_57 H)) (ty := .boolean) (by decide)) (Exa.ext Ea422 E414) (Fld.ext Ea422 f415) (AV.ext A413 Ea422) (Ne.symm ne_a422_a403)) pd_8 rfl rfl rfl rfl (by decide) (by decide) (by decide) (by decide) ?_
    rintro κ km430 _ h429 Wk B K431 ⟨rfl, K423, E424, f425, f426⟩
    show Go κ _ h429 _ _ 58 #[.val (.int p0), .val (.int p1), .val (.int p2), .val (.int p3), .val (.int (1 : Int32)), .val (.int (2 : Int32)), .val (.int ((XT.ushr p3 (3 : Int32)) &&& (255 : Int32)).toUInt32.toUInt16.toUInt32.toInt32), .val (.ref a403), .unset, .unset, .unset] [(.ref a422)]
    refine go_astore B #[.val (.int p0), .val (.int p1), .val (.int p2), .val (.int p3), .val (.int (1 : Int32)), .val (.int (2 : Int32)), .val (.int ((XT.ushr p3 (3 : Int32)) &&& (255 : Int32)).toUInt32.toUInt16.toUInt32.toInt32), .val (.ref a403), .val (.ref a422), .unset, .unset] d0_58 rfl rfl ?_
    refine go_iload B d0_60 rfl ?_
    refine go_newarray B (i := 2) (cap := 2) d0_62 (w_58 H) rfl (Nat.le_refl _) (by decide) (by decide) (by decide) ?_
    intro h432 a433 hba433 Ea433 Aa433 Ca433
    have ne_a433_a403 : a433 ≠ a403 := Nat.ne_of_gt (Nat.lt_of_lt_of_le ((Exa.keep (Exa.ext Ea422 E414) K423)).lt (by omega))
    have f434 : Exa Z h429 a405 "[C" := (Exa.keep (Exa.ext Ea422 (Exa.keep (Exa.wr W407 Ca405) K412)) K423)
    have ne_a433_a405 : a433 ≠ a405 := Nat.ne_of_gt (Nat.lt_of_lt_of_le (f434).lt (by omega))
    have f435 : AV Z h429 b410 .byte [(.int (nar .byte ((((XT.ushr p3 (3 : Int32)) &&& (255 : Int32)).toUInt32.toUInt16.toUInt32.toInt32).toInt8.toInt32)))] := (AV.keep (AV.ext A413 Ea422) K423 (ninS (Ne.symm ne_a422_b410) nin0))
    have ne_a433_b410 : a433 ≠ b410 := Nat.ne_of_gt (Nat.lt_of_lt_of_le (f435).lt (by omega))
    have ne_a433_a422 : a433 ≠ a422 := Nat.ne_of_gt (Nat.lt_of_lt_of_le (E424).lt (by omega))
    have f436 : n0 ≤ h429.size := (Nat.le_trans (Nat.le_trans (Nat.le_trans f419 K412.1) Ea422.1) K423.1)
    have ge_a433 : n0 ≤ a433 := by have q1 := f436; omega
    have Ba433 : AV Z h432 a433 .double [(.double (0 : UInt64)), (.double (0 : UInt64))] := Aa433
    refine go_astore B #[.val (.int p0), .val (.int p1), .val (.int p2), .val (.int p3), .val (.int (1 : Int32)), .val (.int (2 : Int32)), .val (.int ((XT.ushr p3 (3 : Int32)) &&& (255 : Int32)).toUInt32.toUInt16.toUInt32.toInt32), .val (.ref a403), .val (.ref a422), .val (.ref a433), .unset] d0_64 rfl rfl ?_
    refine go_iload B d0_66 rfl ?_
    refine go_ifle B d0_68 (fun c68 => ?_) (fun c68 => ?_)
    · exact absurd c68 (by decide)
    refine go_aload B d0_71 rfl rfl ?_
    refine go_iconst B (x := (0 : Int32)) d0_73 rfl ?_
    refine go_iload_n B d0_74 rfl ?_
    refine go_i2d B d0_75 ?_
    refine go_dastore B (i := 0) d0_76 Ba433 rfl (show 0 < 2 from by decide) ge_a433 ?_
    intro h437 W438 A439
    have A440 : AV Z h437 a433 .double [(.double (FP.i2d p0)), (.double (0 : UInt64))] := A439
    refine go_iload B d0_77 rfl ?_
    refine go_iconst B (x := (1 : Int32)) d0_79 rfl ?_
    refine go_icmple B d0_80 (fun c80 => ?_) (fun c80 => ?_)
    · exact absurd c80 (by decide)
    refine go_aload B d0_83 rfl rfl ?_
    refine go_iconst B (x := (1 : Int32)) d0_85 rfl ?_
    refine go_iload_n B d0_86 rfl ?_
    refine go_i2d B d0_87 ?_
    refine go_dastore B (i := 1) d0_88 A440 rfl (show 1 < 2 from by decide) ge_a433 ?_
    intro h441 W442 A443
    have A444 : AV Z h441 a433 .double [(.double (FP.i2d p0)), (.double (FP.i2d p1))] := A443
    refine go_iload B d0_89 rfl ?_
    refine go_iconst B (x := (2 : Int32)) d0_91 rfl ?_
    refine go_icmple B d0_92 (fun c92 => ?_) (fun c92 => ?_)
    rotate_left
    · exact absurd c92 (by decide)
    refine go_aload B d0_101 rfl rfl ?_
    refine go_aload B d0_103 rfl rfl ?_
    have f449 : n0 ≤ h441.size := (Nat.le_trans (Nat.le_trans (Nat.le_trans f436 Ea433.1) (Nat.le_of_eq (Wr.size W438).symm)) (Nat.le_of_eq (Wr.size W442).symm))
    have f450 : Fld Z h441 a422 "com/example/handpick/handpick/ScoringColumn" "smallerIsBetter" "Z" (.int (1 : Int32)) := (Fld.other W442 (Fld.other W438 (Fld.ext Ea433 f426) (Or.inl (Ne.symm ne_a433_a422))) (Or.inl (Ne.symm ne_a433_a422)))
    refine go_virtual B (W := 0) (a := a422) (argsL := [(.ref a433)]) (st := []) d0_105 (w_59 H) (w_60 H) (w_62 H) (w_61 H) (w_32 H) (w_63 H) (by decide) (Exa.wr W442 (Exa.wr W438 (Exa.ext Ea433 E424))) (rmO21 H a422 a433 (FP.i2d p0) (FP.i2d p1) h441 f449 f450 A444) pd_9 rfl rfl rfl rfl (by decide) (by decide) (by decide) (by decide) ?_
    rintro _ h451 ⟨b445, rfl, g446, K447, A448⟩
    have f452 : Exa Z h441 a403 "java/lang/String" := (Exa.wr W442 (Exa.wr W438 (Exa.ext Ea433 (Exa.keep (Exa.ext Ea422 E414) K423))))
    have ne_b445_a403 : b445 ≠ a403 := Nat.ne_of_gt (Nat.lt_of_lt_of_le (f452).lt (by omega))
    have ne_b445_a405 : b445 ≠ a405 := Nat.ne_of_gt (Nat.lt_of_lt_of_le ((Exa.wr W442 (Exa.wr W438 (Exa.ext Ea433 f434)))).lt (by omega))
    have f453 : AV Z h441 b410 .byte [(.int (nar .byte ((((XT.ushr p3 (3 : Int32)) &&& (255 : Int32)).toUInt32.toUInt16.toUInt32.toInt32).toInt8.toInt32)))] := (AV.other (AV.other (AV.ext f435 Ea433) W438 (Ne.symm ne_a433_b410)) W442 (Ne.symm ne_a433_b410))
    have ne_b445_b410 : b445 ≠ b410 := Nat.ne_of_gt (Nat.lt_of_lt_of_le (f453).lt (by omega))
    have ne_b445_a422 : b445 ≠ a422 := Nat.ne_of_gt (Nat.lt_of_lt_of_le ((Exa.wr W442 (Exa.wr W438 (Exa.ext Ea433 E424)))).lt (by omega))
    have ne_b445_a433 : b445 ≠ a433 := Nat.ne_of_gt (Nat.lt_of_lt_of_le ((Exa.wr W442 (Exa.wr W438 Ca433))).lt (by omega))
    have ge_b445 : n0 ≤ b445 := by have q1 := f449; omega
    show Go κ _ h451 _ _ 108 #[.val (.int p0), .val (.int p1), .val (.int p2), .val (.int p3), .val (.int (1 : Int32)), .val (.int (2 : Int32)), .val (.int ((XT.ushr p3 (3 : Int32)) &&& (255 : Int32)).toUInt32.toUInt16.toUInt32.toInt32), .val (.ref a403), .val (.ref a422), .val (.ref a433), .unset] [(.ref b445)]
    refine go_astore B #[.val (.int p0), .val (.int p1), .val (.int p2), .val (.int p3), .val (.int (1 : Int32)), .val (.int (2 : Int32)), .val (.int ((XT.ushr p3 (3 : Int32)) &&& (255 : Int32)).toUInt32.toUInt16.toUInt32.toInt32), .val (.ref a403), .val (.ref a422), .val (.ref a433), .val (.ref b445)] d0_108 rfl rfl ?_
    refine go_aload B d0_110 rfl rfl ?_
    refine go_ifnonnull_t B d0_112 ?_
    refine go_aload B d0_117 rfl rfl ?_
    refine go_aload B d0_119 rfl rfl ?_
    refine go_acmpne B d0_121 rfl rfl (fun c121 => ?_) (fun c121 => ?_)
    rotate_left
    · exact absurd (Value.ref.inj c121) ne_b445_a433
    refine go_aload B d0_126 rfl rfl ?_
    refine go_arraylength B (x := (2 : Int32)) d0_128 A448 rfl ?_
    refine go_iload B d0_129 rfl ?_
    refine go_icmpeq B d0_131 (fun c131 => ?_) (fun c131 => ?_)
    rotate_left
    · exact absurd c131 (by decide)
    refine go_iload B d0_136 rfl ?_
    refine go_ifle B d0_138 (fun c138 => ?_) (fun c138 => ?_)
    · exact absurd c138 (by decide)
    refine go_aload B d0_141 rfl rfl ?_
    refine go_iconst B (x := (0 : Int32)) d0_143 rfl ?_
    refine go_daload B (i := 0) (v := (.double (FP.dneg (FP.i2d p0)))) d0_144 A448 rfl rfl ?_
    refine go_aload B d0_145 rfl rfl ?_
    refine go_iconst B (x := (0 : Int32)) d0_147 rfl ?_
    refine go_daload B (i := 0) (v := (.double (FP.i2d p0))) d0_148 (AV.keep A444 K447 nin0) rfl rfl ?_
    refine go_iload_n B d0_149 rfl ?_
    refine go_iload B d0_150 rfl ?_
    refine go_static B (W := 0) (argsL := [(.double (FP.dneg (FP.i2d p0))), (.double (FP.i2d p0)), (.int p0), (.int (1 : Int32))]) (st := []) d0_152 (w_64 H) (w_65 H) (w_66 H) (w_67 H) (by decide) (rmQ1 H p0 h451 (Nat.le_trans f449 K447.1)) pd_10 rfl rfl rfl rfl (by decide) (by decide) (by decide) (by decide) ?_
    rintro _ h454 ⟨rfl, rfl⟩
    show Go κ _ h451 _ _ 155 #[.val (.int p0), .val (.int p1), .val (.int p2), .val (.int p3), .val (.int (1 : Int32)), .val (.int (2 : Int32)), .val (.int ((XT.ushr p3 (3 : Int32)) &&& (255 : Int32)).toUInt32.toUInt16.toUInt32.toInt32), .val (.ref a403), .val (.ref a422), .val (.ref a433), .val (.ref b445)] [(.int (1 : Int32))]
    refine go_ifne B d0_155 (fun c155 => ?_) (fun c155 => ?_)
    rotate_left
    · exact absurd c155 (by decide)
    refine go_iload B d0_160 rfl ?_
    refine go_iconst B (x := (1 : Int32)) d0_162 rfl ?_
    refine go_icmple B d0_163 (fun c163 => ?_) (fun c163 => ?_)
    · exact absurd c163 (by decide)
    refine go_aload B d0_166 rfl rfl ?_
    refine go_iconst B (x := (1 : Int32)) d0_168 rfl ?_
    refine go_daload B (i := 1) (v := (.double (FP.dneg (FP.i2d p1)))) d0_169 A448 rfl rfl ?_
    refine go_aload B d0_170 rfl rfl ?_
    refine go_iconst B (x := (1 : Int32)) d0_172 rfl ?_
    refine go_daload B (i := 1) (v := (.double (FP.i2d p1))) d0_173 (AV.keep A444 K447 nin0) rfl rfl ?_
    refine go_iload_n B d0_174 rfl ?_
    refine go_iload B d0_175 rfl ?_
    refine go_static B (W := 0) (argsL := [(.double (FP.dneg (FP.i2d p1))), (.double (FP.i2d p1)), (.int p1), (.int (1 : Int32))]) (st := []) d0_177 (w_64 H) (w_65 H) (w_66 H) (w_67 H) (by decide) (rmQ1 H p1 h451 (Nat.le_trans f449 K447.1)) pd_10 rfl rfl rfl rfl (by decide) (by decide) (by decide) (by decide) ?_
    rintro _ h455 ⟨rfl, rfl⟩
    show Go κ _ h451 _ _ 180 #[.val (.int p0), .val (.int p1), .val (.int p2), .val (.int p3), .val (.int (1 : Int32)), .val (.int (2 : Int32)), .val (.int ((XT.ushr p3 (3 : Int32)) &&& (255 : Int32)).toUInt32.toUInt16.toUInt32.toInt32), .val (.ref a403), .val (.ref a422), .val (.ref a433), .val (.ref b445)] [(.int (1 : Int32))]
    refine go_ifne B d0_180 (fun c180 => ?_) (fun c180 => ?_)
    rotate_left
    · exact absurd c180 (by decide)
    refine go_iload B d0_185 rfl ?_
    refine go_iconst B (x := (2 : Int32)) d0_187 rfl ?_
    refine go_icmple B d0_188 (fun c188 => ?_) (fun c188 => ?_)
    rotate_left
    · exact absurd c188 (by decide)
    refine go_iconst B (x := (1 : Int32)) d0_210 rfl ?_
    have f456 : km430 ≤ h451.size := (Nat.le_trans (Nat.le_trans (Nat.le_trans (Nat.le_trans K431 Ea433.1) (Nat.le_of_eq (Wr.size W438).symm)) (Nat.le_of_eq (Wr.size W442).symm)) K447.1)
    refine go_zreturn B (y := (1 : Int32)) d0_211 (by decide) (by decide) (by decide) ?_ (hkm := f456)
    exact rfl
theorem d0_95 : Dc code 95 (.aload 9) 2 97 := ⟨at_95, rfl⟩
theorem d0_97 : Dc code 97 (.iconst 2) 1 98 := ⟨at_97, rfl⟩
theorem d0_98 : Dc code 98 (.iload_n 2) 1 99 := ⟨at_98, rfl⟩
theorem d0_99 : Dc code 99 (.i2d) 1 100 := ⟨at_99, rfl⟩
theorem d0_100 : Dc code 100 (.dastore) 1 101 := ⟨at_100, rfl⟩
theorem d0_191 : Dc code 191 (.aload 10) 2 193 := ⟨at_191, rfl⟩
theorem d0_193 : Dc code 193 (.iconst 2) 1 194 := ⟨at_193, rfl⟩
theorem d0_194 : Dc code 194 (.daload) 1 195 := ⟨at_194, rfl⟩
theorem d0_195 : Dc code 195 (.aload 9) 2 197 := ⟨at_195, rfl⟩
theorem d0_197 : Dc code 197 (.iconst 2) 1 198 := ⟨at_197, rfl⟩
theorem d0_198 : Dc code 198 (.daload) 1 199 := ⟨at_198, rfl⟩
theorem d0_199 : Dc code 199 (.iload_n 2) 1 200 := ⟨at_199, rfl⟩
theorem d0_200 : Dc code 200 (.iload 4) 2 202 := ⟨at_200, rfl⟩
theorem d0_202 : Dc code 202 (.invokestatic 21) 3 205 := ⟨at_202, rfl⟩
theorem d0_205 : Db code 205 (.ifCond .ne 5) 5 208 210 := ⟨at_205, rfl, rfl⟩
set_option maxRecDepth 65536 in
set_option maxHeartbeats 40000000 in
theorem rm0_3 {l : Launch} {Z : State} {a0 : Array Value} {n0 : Nat} (H : Wd a0 Z) (p0 p1 p2 p3 : Int32) (hn : ((XT.ushr p3 (1 : Int32)) &&& (3 : Int32)) = (3 : Int32)) (h0 : Heap) (Z0 : n0 ≤ h0.size) {cz : Int32} (SC : Sta Z h0 "java/lang/String" "COMPACT_STRINGS" "Z" (.int cz)) (hz : ¬ cz = 0) :
    CtW l Z n0 x code maxLocals ret tables_1 room_1 #[(.int p0), (.int p1), (.int p2), (.int p3)] h0 (fun v h => v = some (.int 1)) := by
  refine CtW.of (a0 := a0) (L0 := #[.val (.int p0), .val (.int p1), .val (.int p2), .val (.int p3), .unset, .unset, .unset, .unset, .unset, .unset, .unset]) (plainFor_of_name pn_com_example_handpick_handpick_ScoringColumnOrientPinLaw) (fun m => by first | (simp [entryFrame, mkF, argsToLocals, Value.category, maxLocals]; done) | rfl) ?_
  intro κ Wk B0
  have B : Ok κ l Z a0 n0 room_1 "com/example/handpick/handpick/ScoringColumnOrientPinLaw" "law" code maxLocals ret := B0
  refine go_iload_n B d0_0 rfl ?_
  refine go_iconst B (x := (1 : Int32)) d0_1 rfl ?_
  refine go_iand B d0_2 ?_
  refine go_ifeq B d0_3 (fun c3 => ?_) (fun c3 => ?_)
  · skip
    refine go_iconst B (x := (0 : Int32)) d0_10 rfl ?_
    refine go_istore B #[.val (.int p0), .val (.int p1), .val (.int p2), .val (.int p3), .val (.int (0 : Int32)), .unset, .unset, .unset, .unset, .unset, .unset] d0_11 rfl ?_
    refine go_iload_n B d0_13 rfl ?_
    refine go_iconst B (x := (1 : Int32)) d0_14 rfl ?_
    refine go_iushr B d0_15 ?_
    refine go_iconst B (x := (3 : Int32)) d0_16 rfl ?_
    refine go_iand B d0_17 ?_
    rw [show ((XT.ushr p3 (1 : Int32)) &&& (3 : Int32)) = (3 : Int32) from hn]
    refine go_istore B #[.val (.int p0), .val (.int p1), .val (.int p2), .val (.int p3), .val (.int (0 : Int32)), .val (.int (3 : Int32)), .unset, .unset, .unset, .unset, .unset] d0_18 rfl ?_
    refine go_iload_n B d0_20 rfl ?_
    refine go_iconst B (x := (3 : Int32)) d0_21 rfl ?_
    refine go_iushr B d0_22 ?_
    refine go_sipush B (x := (255 : Int32)) d0_23 (by decide) ?_
    refine go_iand B d0_26 ?_
    refine go_i2c B d0_27 ?_
    refine go_istore B #[.val (.int p0), .val (.int p1), .val (.int p2), .val (.int p3), .val (.int (0 : Int32)), .val (.int (3 : Int32)), .val (.int ((XT.ushr p3 (3 : Int32)) &&& (255 : Int32)).toUInt32.toUInt16.toUInt32.toInt32), .unset, .unset, .unset, .unset] d0_28 rfl ?_
    refine go_new B d0_30 (w_0 H) (w_1 H) (w_2 H) (by decide) (by decide) ?_
    intro h457 a458 hba458 Ea458 Aa458 Da458
    have ge_a458 : n0 ≤ a458 := by have q1 := Z0; omega
    refine go_dup B d0_33 rfl ?_
    refine go_iconst B (x := (1 : Int32)) d0_34 rfl ?_
    refine go_newarray B (i := 1) (cap := 1) d0_35 (w_3 H) rfl (Nat.le_refl _) (by decide) (by decide) (by decide) ?_
    intro h459 a460 hba460 Ea460 Aa460 Ca460
    have ne_a460_a458 : a460 ≠ a458 := Nat.ne_of_gt (Nat.lt_of_lt_of_le (Aa458).lt (by omega))
    have ge_a460 : n0 ≤ a460 := by have q1 := (Nat.le_trans Z0 Ea458.1); omega
    have Ba460 : AV Z h459 a460 .char [(.int (0 : Int32))] := Aa460
    refine go_dup B d0_37 rfl ?_
    refine go_iconst B (x := (0 : Int32)) d0_38 rfl ?_
    refine go_iload B d0_39 rfl ?_
    refine go_castore B (i := 0) d0_41 Ba460 rfl (show 0 < 1 from by decide) ge_a460 ?_
    intro h461 W462 A463
    have A464 : AV Z h461 a460 .char [(.int (((XT.ushr p3 (3 : Int32)) &&& (255 : Int32)).toUInt32.toUInt16.toUInt32.toInt32))] := (by have q := A463; rw [(own_ch _).1] at q; exact q)
    have f472 : Fld Z h461 a458 "java/lang/String" "value" "[B" .null := (Fld.other W462 (Fld.ext Ea460 (Da458 (Or.inr (w_29 H)) (ty := (.array .byte)) (by decide))) (Or.inl (Ne.symm ne_a460_a458)))
    have f473 : Fld Z h461 a458 "java/lang/String" "coder" "B" (.int (0 : Int32)) := (Fld.other W462 (Fld.ext Ea460 (Da458 (Or.inr (w_27 H)) (ty := .byte) (by decide))) (Or.inl (Ne.symm ne_a460_a458)))
    have f474 : n0 ≤ h461.size := (Nat.le_trans (Nat.le_trans (Nat.le_trans Z0 Ea458.1) Ea460.1) (Nat.le_of_eq (Wr.size W462).symm))
    refine go_special B (W := 1) (a := a458) (argsL := [(.ref a460)]) (st := [(.ref a458)]) d0_42 rfl (w_4 H) (w_5 H) (w_2 H) (w_6 H) (by decide) (rmT H a458 a460 (((XT.ushr p3 (3 : Int32)) &&& (255 : Int32)).toUInt32.toUInt16.toUInt32.toInt32) cz h461 f474 (Exa.wr W462 (Exa.ext Ea460 Aa458)) f472 f473 A464 ge_a458 ne_a460_a458 (own_ch _).2 (Sta.wr W462 (Sta.ext Ea460 (Sta.ext Ea458 SC))) hz) pd_7 rfl rfl rfl rfl (by decide) (by decide) (by decide) (by decide) ?_
    rintro _ h475 ⟨b465, rfl, g466, K467, E469, f470, f471, A468⟩
    have ne_b465_a458 : b465 ≠ a458 := Nat.ne_of_gt (Nat.lt_of_lt_of_le ((Exa.wr W462 (Exa.ext Ea460 Aa458))).lt (by omega))
    have ne_b465_a460 : b465 ≠ a460 := Nat.ne_of_gt (Nat.lt_of_lt_of_le ((Exa.wr W462 Ca460)).lt (by omega))
    have ge_b465 : n0 ≤ b465 := by have q1 := f474; omega
    show Go κ _ h475 _ _ 45 #[.val (.int p0), .val (.int p1), .val (.int p2), .val (.int p3), .val (.int (0 : Int32)), .val (.int (3 : Int32)), .val (.int ((XT.ushr p3 (3 : Int32)) &&& (255 : Int32)).toUInt32.toUInt16.toUInt32.toInt32), .unset, .unset, .unset, .unset] [(.ref a458)]
    refine go_astore B #[.val (.int p0), .val (.int p1), .val (.int p2), .val (.int p3), .val (.int (0 : Int32)), .val (.int (3 : Int32)), .val (.int ((XT.ushr p3 (3 : Int32)) &&& (255 : Int32)).toUInt32.toUInt16.toUInt32.toInt32), .val (.ref a458), .unset, .unset, .unset] d0_45 rfl rfl ?_
    refine go_new B d0_47 (w_30 H) (w_31 H) (w_32 H) (by decide) (by decide) ?_
    intro h476 a477 hba477 Ea477 Aa477 Da477
    have ne_a477_a458 : a477 ≠ a458 := Nat.ne_of_gt (Nat.lt_of_lt_of_le (E469).lt (by omega))
    have ne_a477_a460 : a477 ≠ a460 := Nat.ne_of_gt (Nat.lt_of_lt_of_le ((Exa.keep (Exa.wr W462 Ca460) K467)).lt (by omega))
    have ne_a477_b465 : a477 ≠ b465 := Nat.ne_of_gt (Nat.lt_of_lt_of_le (A468).lt (by omega))
    have ge_a477 : n0 ≤ a477 := by have q1 := (Nat.le_trans f474 K467.1); omega
    refine go_dup B d0_50 rfl ?_
    refine go_aload B d0_51 rfl rfl ?_
    refine go_iload B d0_53 rfl ?_
    have f482 : Fld Z h476 a477 "com/example/handpick/handpick/ScoringColumn" "name" "Ljava/lang/String;" .null := (Da477 (Or.inr (w_55 H)) (ty := (.object "java/lang/String")) (by decide))
    have f483 : 0 ≤ h476.size := (Nat.le_trans (Nat.le_trans (Nat.le_trans (Nat.le_trans (Nat.le_trans (Nat.zero_le _) Ea458.1) Ea460.1) (Nat.le_of_eq (Wr.size W462).symm)) K467.1) Ea477.1)
    refine go_specialW B Wk f483 (W' := 1) (a := a477) (argsL := [(.ref a458), (.int (0 : Int32))]) (st := [(.ref a477)]) d0_55 rfl (w_33 H) (w_34 H) (w_32 H) (w_35 H) (by decide) (rmI0 H a477 a458 b465 (.int (nar .byte ((((XT.ushr p3 (3 : Int32)) &&& (255 : Int32)).toUInt32.toUInt16.toUInt32.toInt32).toInt8.toInt32))) h476 (Nat.le_trans (Nat.le_trans f474 K467.1) Ea477.1) ge_a477 Aa477 f482 (Da477 (Or.inr (w_57 H)) (ty := .boolean) (by decide)) (Exa.ext Ea477 E469) (Fld.ext Ea477 f470) (AV.ext A468 Ea477) (Ne.symm ne_a477_a458)) pd_8 rfl rfl rfl rfl (by decide) (by decide) (by decide) (by decide) ?_
    rintro κ km485 _ h484 Wk B K486 ⟨rfl, K478, E479, f480, f481⟩
    show Go κ _ h484 _ _ 58 #[.val (.int p0), .val (.int p1), .val (.int p2), .val (.int p3), .val (.int (0 : Int32)), .val (.int (3 : Int32)), .val (.int ((XT.ushr p3 (3 : Int32)) &&& (255 : Int32)).toUInt32.toUInt16.toUInt32.toInt32), .val (.ref a458), .unset, .unset, .unset] [(.ref a477)]
    refine go_astore B #[.val (.int p0), .val (.int p1), .val (.int p2), .val (.int p3), .val (.int (0 : Int32)), .val (.int (3 : Int32)), .val (.int ((XT.ushr p3 (3 : Int32)) &&& (255 : Int32)).toUInt32.toUInt16.toUInt32.toInt32), .val (.ref a458), .val (.ref a477), .unset, .unset] d0_58 rfl rfl ?_
    refine go_iload B d0_60 rfl ?_
    refine go_newarray B (i := 3) (cap := 3) d0_62 (w_58 H) rfl (Nat.le_refl _) (by decide) (by decide) (by decide) ?_
    intro h487 a488 hba488 Ea488 Aa488 Ca488
    have ne_a488_a458 : a488 ≠ a458 := Nat.ne_of_gt (Nat.lt_of_lt_of_le ((Exa.keep (Exa.ext Ea477 E469) K478)).lt (by omega))
    have f489 : Exa Z h484 a460 "[C" := (Exa.keep (Exa.ext Ea477 (Exa.keep (Exa.wr W462 Ca460) K467)) K478)
    have ne_a488_a460 : a488 ≠ a460 := Nat.ne_of_gt (Nat.lt_of_lt_of_le (f489).lt (by omega))
    have f490 : AV Z h484 b465 .byte [(.int (nar .byte ((((XT.ushr p3 (3 : Int32)) &&& (255 : Int32)).toUInt32.toUInt16.toUInt32.toInt32).toInt8.toInt32)))] := (AV.keep (AV.ext A468 Ea477) K478 (ninS (Ne.symm ne_a477_b465) nin0))
    have ne_a488_b465 : a488 ≠ b465 := Nat.ne_of_gt (Nat.lt_of_lt_of_le (f490).lt (by omega))
    have ne_a488_a477 : a488 ≠ a477 := Nat.ne_of_gt (Nat.lt_of_lt_of_le (E479).lt (by omega))
    have f491 : n0 ≤ h484.size := (Nat.le_trans (Nat.le_trans (Nat.le_trans f474 K467.1) Ea477.1) K478.1)
    have ge_a488 : n0 ≤ a488 := by have q1 := f491; omega
    have Ba488 : AV Z h487 a488 .double [(.double (0 : UInt64)), (.double (0 : UInt64)), (.double (0 : UInt64))] := Aa488
    refine go_astore B #[.val (.int p0), .val (.int p1), .val (.int p2), .val (.int p3), .val (.int (0 : Int32)), .val (.int (3 : Int32)), .val (.int ((XT.ushr p3 (3 : Int32)) &&& (255 : Int32)).toUInt32.toUInt16.toUInt32.toInt32), .val (.ref a458), .val (.ref a477), .val (.ref a488), .unset] d0_64 rfl rfl ?_
    refine go_iload B d0_66 rfl ?_
    refine go_ifle B d0_68 (fun c68 => ?_) (fun c68 => ?_)
    · exact absurd c68 (by decide)
    refine go_aload B d0_71 rfl rfl ?_
    refine go_iconst B (x := (0 : Int32)) d0_73 rfl ?_
    refine go_iload_n B d0_74 rfl ?_
    refine go_i2d B d0_75 ?_
    refine go_dastore B (i := 0) d0_76 Ba488 rfl (show 0 < 3 from by decide) ge_a488 ?_
    intro h492 W493 A494
    have A495 : AV Z h492 a488 .double [(.double (FP.i2d p0)), (.double (0 : UInt64)), (.double (0 : UInt64))] := A494
    refine go_iload B d0_77 rfl ?_
    refine go_iconst B (x := (1 : Int32)) d0_79 rfl ?_
    refine go_icmple B d0_80 (fun c80 => ?_) (fun c80 => ?_)
    · exact absurd c80 (by decide)
    refine go_aload B d0_83 rfl rfl ?_
    refine go_iconst B (x := (1 : Int32)) d0_85 rfl ?_
    refine go_iload_n B d0_86 rfl ?_
    refine go_i2d B d0_87 ?_
    refine go_dastore B (i := 1) d0_88 A495 rfl (show 1 < 3 from by decide) ge_a488 ?_
    intro h496 W497 A498
    have A499 : AV Z h496 a488 .double [(.double (FP.i2d p0)), (.double (FP.i2d p1)), (.double (0 : UInt64))] := A498
    refine go_iload B d0_89 rfl ?_
    refine go_iconst B (x := (2 : Int32)) d0_91 rfl ?_
    refine go_icmple B d0_92 (fun c92 => ?_) (fun c92 => ?_)
    · exact absurd c92 (by decide)
    refine go_aload B d0_95 rfl rfl ?_
    refine go_iconst B (x := (2 : Int32)) d0_97 rfl ?_
    refine go_iload_n B d0_98 rfl ?_
    refine go_i2d B d0_99 ?_
    refine go_dastore B (i := 2) d0_100 A499 rfl (show 2 < 3 from by decide) ge_a488 ?_
    intro h500 W501 A502
    have A503 : AV Z h500 a488 .double [(.double (FP.i2d p0)), (.double (FP.i2d p1)), (.double (FP.i2d p2))] := A502
    refine go_aload B d0_101 rfl rfl ?_
    refine go_aload B d0_103 rfl rfl ?_
    have f508 : n0 ≤ h500.size := (Nat.le_trans (Nat.le_trans (Nat.le_trans (Nat.le_trans f491 Ea488.1) (Nat.le_of_eq (Wr.size W493).symm)) (Nat.le_of_eq (Wr.size W497).symm)) (Nat.le_of_eq (Wr.size W501).symm))
    have f509 : Fld Z h500 a477 "com/example/handpick/handpick/ScoringColumn" "smallerIsBetter" "Z" (.int (0 : Int32)) := (Fld.other W501 (Fld.other W497 (Fld.other W493 (Fld.ext Ea488 f481) (Or.inl (Ne.symm ne_a488_a477))) (Or.inl (Ne.symm ne_a488_a477))) (Or.inl (Ne.symm ne_a488_a477)))
    have f510 : Exa Z h500 a477 "com/example/handpick/handpick/ScoringColumn" := (Exa.wr W501 (Exa.wr W497 (Exa.wr W493 (Exa.ext Ea488 E479))))
    refine go_virtual B (W := 0) (a := a477) (argsL := [(.ref a488)]) (st := []) d0_105 (w_59 H) (w_60 H) (w_62 H) (w_61 H) (w_32 H) (w_63 H) (by decide) f510 (rmO30 H a477 a488 (FP.i2d p0) (FP.i2d p1) (FP.i2d p2) h500 f508 f509 A503) pd_9 rfl rfl rfl rfl (by decide) (by decide) (by decide) (by decide) ?_
    rintro _ h511 ⟨b504, rfl, g505, K506, A507⟩
    have f512 : Exa Z h500 a458 "java/lang/String" := (Exa.wr W501 (Exa.wr W497 (Exa.wr W493 (Exa.ext Ea488 (Exa.keep (Exa.ext Ea477 E469) K478)))))
    have ne_b504_a458 : b504 ≠ a458 := Nat.ne_of_gt (Nat.lt_of_lt_of_le (f512).lt (by omega))
    have f513 : Exa Z h500 a460 "[C" := (Exa.wr W501 (Exa.wr W497 (Exa.wr W493 (Exa.ext Ea488 f489))))
    have ne_b504_a460 : b504 ≠ a460 := Nat.ne_of_gt (Nat.lt_of_lt_of_le (f513).lt (by omega))
    have f514 : AV Z h500 b465 .byte [(.int (nar .byte ((((XT.ushr p3 (3 : Int32)) &&& (255 : Int32)).toUInt32.toUInt16.toUInt32.toInt32).toInt8.toInt32)))] := (AV.other (AV.other (AV.other (AV.ext f490 Ea488) W493 (Ne.symm ne_a488_b465)) W497 (Ne.symm ne_a488_b465)) W501 (Ne.symm ne_a488_b465))
    have ne_b504_b465 : b504 ≠ b465 := Nat.ne_of_gt (Nat.lt_of_lt_of_le (f514).lt (by omega))
    have ne_b504_a477 : b504 ≠ a477 := Nat.ne_of_gt (Nat.lt_of_lt_of_le (f510).lt (by omega))
    have ne_b504_a488 : b504 ≠ a488 := Nat.ne_of_gt (Nat.lt_of_lt_of_le ((Exa.wr W501 (Exa.wr W497 (Exa.wr W493 Ca488)))).lt (by omega))
    have ge_b504 : n0 ≤ b504 := by have q1 := f508; omega
    show Go κ _ h511 _ _ 108 #[.val (.int p0), .val (.int p1), .val (.int p2), .val (.int p3), .val (.int (0 : Int32)), .val (.int (3 : Int32)), .val (.int ((XT.ushr p3 (3 : Int32)) &&& (255 : Int32)).toUInt32.toUInt16.toUInt32.toInt32), .val (.ref a458), .val (.ref a477), .val (.ref a488), .unset] [(.ref b504)]
    refine go_astore B #[.val (.int p0), .val (.int p1), .val (.int p2), .val (.int p3), .val (.int (0 : Int32)), .val (.int (3 : Int32)), .val (.int ((XT.ushr p3 (3 : Int32)) &&& (255 : Int32)).toUInt32.toUInt16.toUInt32.toInt32), .val (.ref a458), .val (.ref a477), .val (.ref a488), .val (.ref b504)] d0_108 rfl rfl ?_
    refine go_aload B d0_110 rfl rfl ?_
    refine go_ifnonnull_t B d0_112 ?_
    refine go_aload B d0_117 rfl rfl ?_
    refine go_aload B d0_119 rfl rfl ?_
    refine go_acmpne B d0_121 rfl rfl (fun c121 => ?_) (fun c121 => ?_)
    rotate_left
    · exact absurd (Value.ref.inj c121) ne_b504_a488
    refine go_aload B d0_126 rfl rfl ?_
    refine go_arraylength B (x := (3 : Int32)) d0_128 A507 rfl ?_
    refine go_iload B d0_129 rfl ?_
    refine go_icmpeq B d0_131 (fun c131 => ?_) (fun c131 => ?_)
    rotate_left
    · exact absurd c131 (by decide)
    refine go_iload B d0_136 rfl ?_
    refine go_ifle B d0_138 (fun c138 => ?_) (fun c138 => ?_)
    · exact absurd c138 (by decide)
    refine go_aload B d0_141 rfl rfl ?_
    refine go_iconst B (x := (0 : Int32)) d0_143 rfl ?_
    refine go_daload B (i := 0) (v := (.double (FP.i2d p0))) d0_144 A507 rfl rfl ?_
    refine go_aload B d0_145 rfl rfl ?_
    refine go_iconst B (x := (0 : Int32)) d0_147 rfl ?_
    refine go_daload B (i := 0) (v := (.double (FP.i2d p0))) d0_148 (AV.keep A503 K506 nin0) rfl rfl ?_
    refine go_iload_n B d0_149 rfl ?_
    refine go_iload B d0_150 rfl ?_
    refine go_static B (W := 0) (argsL := [(.double (FP.i2d p0)), (.double (FP.i2d p0)), (.int p0), (.int (0 : Int32))]) (st := []) d0_152 (w_64 H) (w_65 H) (w_66 H) (w_67 H) (by decide) (rmQ0 H p0 h511 (Nat.le_trans f508 K506.1)) pd_10 rfl rfl rfl rfl (by decide) (by decide) (by decide) (by decide) ?_
    rintro _ h515 ⟨rfl, rfl⟩
    show Go κ _ h511 _ _ 155 #[.val (.int p0), .val (.int p1), .val (.int p2), .val (.int p3), .val (.int (0 : Int32)), .val (.int (3 : Int32)), .val (.int ((XT.ushr p3 (3 : Int32)) &&& (255 : Int32)).toUInt32.toUInt16.toUInt32.toInt32), .val (.ref a458), .val (.ref a477), .val (.ref a488), .val (.ref b504)] [(.int (1 : Int32))]
    refine go_ifne B d0_155 (fun c155 => ?_) (fun c155 => ?_)
    rotate_left
    · exact absurd c155 (by decide)
    refine go_iload B d0_160 rfl ?_
    refine go_iconst B (x := (1 : Int32)) d0_162 rfl ?_
    refine go_icmple B d0_163 (fun c163 => ?_) (fun c163 => ?_)
    · exact absurd c163 (by decide)
    refine go_aload B d0_166 rfl rfl ?_
    refine go_iconst B (x := (1 : Int32)) d0_168 rfl ?_
    refine go_daload B (i := 1) (v := (.double (FP.i2d p1))) d0_169 A507 rfl rfl ?_
    refine go_aload B d0_170 rfl rfl ?_
    refine go_iconst B (x := (1 : Int32)) d0_172 rfl ?_
    refine go_daload B (i := 1) (v := (.double (FP.i2d p1))) d0_173 (AV.keep A503 K506 nin0) rfl rfl ?_
    refine go_iload_n B d0_174 rfl ?_
    refine go_iload B d0_175 rfl ?_
    refine go_static B (W := 0) (argsL := [(.double (FP.i2d p1)), (.double (FP.i2d p1)), (.int p1), (.int (0 : Int32))]) (st := []) d0_177 (w_64 H) (w_65 H) (w_66 H) (w_67 H) (by decide) (rmQ0 H p1 h511 (Nat.le_trans f508 K506.1)) pd_10 rfl rfl rfl rfl (by decide) (by decide) (by decide) (by decide) ?_
    rintro _ h516 ⟨rfl, rfl⟩
    show Go κ _ h511 _ _ 180 #[.val (.int p0), .val (.int p1), .val (.int p2), .val (.int p3), .val (.int (0 : Int32)), .val (.int (3 : Int32)), .val (.int ((XT.ushr p3 (3 : Int32)) &&& (255 : Int32)).toUInt32.toUInt16.toUInt32.toInt32), .val (.ref a458), .val (.ref a477), .val (.ref a488), .val (.ref b504)] [(.int (1 : Int32))]
    refine go_ifne B d0_180 (fun c180 => ?_) (fun c180 => ?_)
    rotate_left
    · exact absurd c180 (by decide)
    refine go_iload B d0_185 rfl ?_
    refine go_iconst B (x := (2 : Int32)) d0_187 rfl ?_
    refine go_icmple B d0_188 (fun c188 => ?_) (fun c188 => ?_)
    · exact absurd c188 (by decide)
    refine go_aload B d0_191 rfl rfl ?_
    refine go_iconst B (x := (2 : Int32)) d0_193 rfl ?_
    refine go_daload B (i := 2) (v := (.double (FP.i2d p2))) d0_194 A507 rfl rfl ?_
    refine go_aload B d0_195 rfl rfl ?_
    refine go_iconst B (x := (2 : Int32)) d0_197 rfl ?_
    refine go_daload B (i := 2) (v := (.double (FP.i2d p2))) d0_198 (AV.keep A503 K506 nin0) rfl rfl ?_
    refine go_iload_n B d0_199 rfl ?_
    refine go_iload B d0_200 rfl ?_
    refine go_static B (W := 0) (argsL := [(.double (FP.i2d p2)), (.double (FP.i2d p2)), (.int p2), (.int (0 : Int32))]) (st := []) d0_202 (w_64 H) (w_65 H) (w_66 H) (w_67 H) (by decide) (rmQ0 H p2 h511 (Nat.le_trans f508 K506.1)) pd_10 rfl rfl rfl rfl (by decide) (by decide) (by decide) (by decide) ?_
    rintro _ h517 ⟨rfl, rfl⟩
    show Go κ _ h511 _ _ 205 #[.val (.int p0), .val (.int p1), .val (.int p2), .val (.int p3), .val (.int (0 : Int32)), .val (.int (3 : Int32)), .val (.int ((XT.ushr p3 (3 : Int32)) &&& (255 : Int32)).toUInt32.toUInt16.toUInt32.toInt32), .val (.ref a458), .val (.ref a477), .val (.ref a488), .val (.ref b504)] [(.int (1 : Int32))]
    refine go_ifne B d0_205 (fun c205 => ?_) (fun c205 => ?_)
    rotate_left
    · exact absurd c205 (by decide)
    refine go_iconst B (x := (1 : Int32)) d0_210 rfl ?_
    have f518 : km485 ≤ h511.size := (Nat.le_trans (Nat.le_trans (Nat.le_trans (Nat.le_trans (Nat.le_trans K486 Ea488.1) (Nat.le_of_eq (Wr.size W493).symm)) (Nat.le_of_eq (Wr.size W497).symm)) (Nat.le_of_eq (Wr.size W501).symm)) K506.1)
    refine go_zreturn B (y := (1 : Int32)) d0_211 (by decide) (by decide) (by decide) ?_ (hkm := f518)
    exact rfl
  · skip
    refine go_iconst B (x := (1 : Int32)) d0_6 rfl ?_
    refine go_goto B d0_7 ?_
    refine go_istore B #[.val (.int p0), .val (.int p1), .val (.int p2), .val (.int p3), .val (.int (1 : Int32)), .unset, .unset, .unset, .unset, .unset, .unset] d0_11 rfl ?_
    refine go_iload_n B d0_13 rfl ?_
    refine go_iconst B (x := (1 : Int32)) d0_14 rfl ?_
    refine go_iushr B d0_15 ?_
    refine go_iconst B (x := (3 : Int32)) d0_16 rfl ?_
    refine go_iand B d0_17 ?_
    rw [show ((XT.ushr p3 (1 : Int32)) &&& (3 : Int32)) = (3 : Int32) from hn]
    refine go_istore B #[.val (.int p0), .val (.int p1), .val (.int p2), .val (.int p3), .val (.int (1 : Int32)), .val (.int (3 : Int32)), .unset, .unset, .unset, .unset, .unset] d0_18 rfl ?_
    refine go_iload_n B d0_20 rfl ?_
    refine go_iconst B (x := (3 : Int32)) d0_21 rfl ?_
    refine go_iushr B d0_22 ?_
    refine go_sipush B (x := (255 : Int32)) d0_23 (by decide) ?_
    refine go_iand B d0_26 ?_
    refine go_i2c B d0_27 ?_
    refine go_istore B #[.val (.int p0), .val (.int p1), .val (.int p2), .val (.int p3), .val (.int (1 : Int32)), .val (.int (3 : Int32)), .val (.int ((XT.ushr p3 (3 : Int32)) &&& (255 : Int32)).toUInt32.toUInt16.toUInt32.toInt32), .unset, .unset, .unset, .unset] d0_28 rfl ?_
    refine go_new B d0_30 (w_0 H) (w_1 H) (w_2 H) (by decide) (by decide) ?_
    intro h519 a520 hba520 Ea520 Aa520 Da520
    have ge_a520 : n0 ≤ a520 := by have q1 := Z0; omega
    refine go_dup B d0_33 rfl ?_
    refine go_iconst B (x := (1 : Int32)) d0_34 rfl ?_
    refine go_newarray B (i := 1) (cap := 1) d0_35 (w_3 H) rfl (Nat.le_refl _) (by decide) (by decide) (by decide) ?_
    intro h521 a522 hba522 Ea522 Aa522 Ca522
    have ne_a522_a520 : a522 ≠ a520 := Nat.ne_of_gt (Nat.lt_of_lt_of_le (Aa520).lt (by omega))
    have ge_a522 : n0 ≤ a522 := by have q1 := (Nat.le_trans Z0 Ea520.1); omega
    have Ba522 : AV Z h521 a522 .char [(.int (0 : Int32))] := Aa522
    refine go_dup B d0_37 rfl ?_
    refine go_iconst B (x := (0 : Int32)) d0_38 rfl ?_
    refine go_iload B d0_39 rfl ?_
    refine go_castore B (i := 0) d0_41 Ba522 rfl (show 0 < 1 from by decide) ge_a522 ?_
    intro h523 W524 A525
    have A526 : AV Z h523 a522 .char [(.int (((XT.ushr p3 (3 : Int32)) &&& (255 : Int32)).toUInt32.toUInt16.toUInt32.toInt32))] := (by have q := A525; rw [(own_ch _).1] at q; exact q)
    have f534 : Fld Z h523 a520 "java/lang/String" "value" "[B" .null := (Fld.other W524 (Fld.ext Ea522 (Da520 (Or.inr (w_29 H)) (ty := (.array .byte)) (by decide))) (Or.inl (Ne.symm ne_a522_a520)))
    have f535 : Fld Z h523 a520 "java/lang/String" "coder" "B" (.int (0 : Int32)) := (Fld.other W524 (Fld.ext Ea522 (Da520 (Or.inr (w_27 H)) (ty := .byte) (by decide))) (Or.inl (Ne.symm ne_a522_a520)))
    have f536 : n0 ≤ h523.size := (Nat.le_trans (Nat.le_trans (Nat.le_trans Z0 Ea520.1) Ea522.1) (Nat.le_of_eq (Wr.size W524).symm))
    refine go_special B (W := 1) (a := a520) (argsL := [(.ref a522)]) (st := [(.ref a520)]) d0_42 rfl (w_4 H) (w_5 H) (w_2 H) (w_6 H) (by decide) (rmT H a520 a522 (((XT.ushr p3 (3 : Int32)) &&& (255 : Int32)).toUInt32.toUInt16.toUInt32.toInt32) cz h523 f536 (Exa.wr W524 (Exa.ext Ea522 Aa520)) f534 f535 A526 ge_a520 ne_a522_a520 (own_ch _).2 (Sta.wr W524 (Sta.ext Ea522 (Sta.ext Ea520 SC))) hz) pd_7 rfl rfl rfl rfl (by decide) (by decide) (by decide) (by decide) ?_
    rintro _ h537 ⟨b527, rfl, g528, K529, E531, f532, f533, A530⟩
    have ne_b527_a520 : b527 ≠ a520 := Nat.ne_of_gt (Nat.lt_of_lt_of_le ((Exa.wr W524 (Exa.ext Ea522 Aa520))).lt (by omega))
    have ne_b527_a522 : b527 ≠ a522 := Nat.ne_of_gt (Nat.lt_of_lt_of_le ((Exa.wr W524 Ca522)).lt (by omega))
    have ge_b527 : n0 ≤ b527 := by have q1 := f536; omega
    show Go κ _ h537 _ _ 45 #[.val (.int p0), .val (.int p1), .val (.int p2), .val (.int p3), .val (.int (1 : Int32)), .val (.int (3 : Int32)), .val (.int ((XT.ushr p3 (3 : Int32)) &&& (255 : Int32)).toUInt32.toUInt16.toUInt32.toInt32), .unset, .unset, .unset, .unset] [(.ref a520)]
    refine go_astore B #[.val (.int p0), .val (.int p1), .val (.int p2), .val (.int p3), .val (.int (1 : Int32)), .val (.int (3 : Int32)), .val (.int ((XT.ushr p3 (3 : Int32)) &&& (255 : Int32)).toUInt32.toUInt16.toUInt32.toInt32), .val (.ref a520), .unset, .unset, .unset] d0_45 rfl rfl ?_
    refine go_new B d0_47 (w_30 H) (w_31 H) (w_32 H) (by decide) (by decide) ?_
    intro h538 a539 hba539 Ea539 Aa539 Da539
    have ne_a539_a520 : a539 ≠ a520 := Nat.ne_of_gt (Nat.lt_of_lt_of_le (E531).lt (by omega))
    have ne_a539_a522 : a539 ≠ a522 := Nat.ne_of_gt (Nat.lt_of_lt_of_le ((Exa.keep (Exa.wr W524 Ca522) K529)).lt (by omega))
    have ne_a539_b527 : a539 ≠ b527 := Nat.ne_of_gt (Nat.lt_of_lt_of_le (A530).lt (by omega))
    have ge_a539 : n0 ≤ a539 := by have q1 := (Nat.le_trans f536 K529.1); omega
    refine go_dup B d0_50 rfl ?_
    refine go_aload B d0_51 rfl rfl ?_
    refine go_iload B d0_53 rfl ?_
    have f544 : Fld Z h538 a539 "com/example/handpick/handpick/ScoringColumn" "name" "Ljava/lang/String;" .null := (Da539 (Or.inr (w_55 H)) (ty := (.object "java/lang/String")) (by decide))
    have f545 : 0 ≤ h538.size := (Nat.le_trans (Nat.le_trans (Nat.le_trans (Nat.le_trans (Nat.le_trans (Nat.zero_le _) Ea520.1) Ea522.1) (Nat.le_of_eq (Wr.size W524).symm)) K529.1) Ea539.1)
    refine go_specialW B Wk f545 (W' := 1) (a := a539) (argsL := [(.ref a520), (.int (1 : Int32))]) (st := [(.ref a539)]) d0_55 rfl (w_33 H) (w_34 H) (w_32 H) (w_35 H) (by decide) (rmI1 H a539 a520 b527 (.int (nar .byte ((((XT.ushr p3 (3 : Int32)) &&& (255 : Int32)).toUInt32.toUInt16.toUInt32.toInt32).toInt8.toInt32))) h538 (Nat.le_trans (Nat.le_trans f536 K529.1) Ea539.1) ge_a539 Aa539 f544 (Da539 (Or.inr (w_57 H)) (ty := .boolean) (by decide)) (Exa.ext Ea539 E531) (Fld.ext Ea539 f532) (AV.ext A530 Ea539) (Ne.symm ne_a539_a520)) pd_8 rfl rfl rfl rfl (by decide) (by decide) (by decide) (by decide) ?_
    rintro κ km547 _ h546 Wk B K548 ⟨rfl, K540, E541, f542, f543⟩
    show Go κ _ h546 _ _ 58 #[.val (.int p0), .val (.int p1), .val (.int p2), .val (.int p3), .val (.int (1 : Int32)), .val (.int (3 : Int32)), .val (.int ((XT.ushr p3 (3 : Int32)) &&& (255 : Int32)).toUInt32.toUInt16.toUInt32.toInt32), .val (.ref a520), .unset, .unset, .unset] [(.ref a539)]
    refine go_astore B #[.val (.int p0), .val (.int p1), .val (.int p2), .val (.int p3), .val (.int (1 : Int32)), .val (.int (3 : Int32)), .val (.int ((XT.ushr p3 (3 : Int32)) &&& (255 : Int32)).toUInt32.toUInt16.toUInt32.toInt32), .val (.ref a520), .val (.ref a539), .unset, .unset] d0_58 rfl rfl ?_
    refine go_iload B d0_60 rfl ?_
    refine go_newarray B (i := 3) (cap := 3) d0_62 (w_58 H) rfl (Nat.le_refl _) (by decide) (by decide) (by decide) ?_
    intro h549 a550 hba550 Ea550 Aa550 Ca550
    have ne_a550_a520 : a550 ≠ a520 := Nat.ne_of_gt (Nat.lt_of_lt_of_le ((Exa.keep (Exa.ext Ea539 E531) K540)).lt (by omega))
    have f551 : Exa Z h546 a522 "[C" := (Exa.keep (Exa.ext Ea539 (Exa.keep (Exa.wr W524 Ca522) K529)) K540)
    have ne_a550_a522 : a550 ≠ a522 := Nat.ne_of_gt (Nat.lt_of_lt_of_le (f551).lt (by omega))
    have f552 : AV Z h546 b527 .byte [(.int (nar .byte ((((XT.ushr p3 (3 : Int32)) &&& (255 : Int32)).toUInt32.toUInt16.toUInt32.toInt32).toInt8.toInt32)))] := (AV.keep (AV.ext A530 Ea539) K540 (ninS (Ne.symm ne_a539_b527) nin0))
    have ne_a550_b527 : a550 ≠ b527 := Nat.ne_of_gt (Nat.lt_of_lt_of_le (f552).lt (by omega))
    have ne_a550_a539 : a550 ≠ a539 := Nat.ne_of_gt (Nat.lt_of_lt_of_le (E541).lt (by omega))
    have f553 : n0 ≤ h546.size := (Nat.le_trans (Nat.le_trans (Nat.le_trans f536 K529.1) Ea539.1) K540.1)
    have ge_a550 : n0 ≤ a550 := by have q1 := f553; omega
    have Ba550 : AV Z h549 a550 .double [(.double (0 : UInt64)), (.double (0 : UInt64)), (.double (0 : UInt64))] := Aa550
    refine go_astore B #[.val (.int p0), .val (.int p1), .val (.int p2), .val (.int p3), .val (.int (1 : Int32)), .val (.int (3 : Int32)), .val (.int ((XT.ushr p3 (3 : Int32)) &&& (255 : Int32)).toUInt32.toUInt16.toUInt32.toInt32), .val (.ref a520), .val (.ref a539), .val (.ref a550), .unset] d0_64 rfl rfl ?_
    refine go_iload B d0_66 rfl ?_
    refine go_ifle B d0_68 (fun c68 => ?_) (fun c68 => ?_)
    · exact absurd c68 (by decide)
    refine go_aload B d0_71 rfl rfl ?_
    refine go_iconst B (x := (0 : Int32)) d0_73 rfl ?_
    refine go_iload_n B d0_74 rfl ?_
    refine go_i2d B d0_75 ?_
    refine go_dastore B (i := 0) d0_76 Ba550 rfl (show 0 < 3 from by decide) ge_a550 ?_
    intro h554 W555 A556
    have A557 : AV Z h554 a550 .double [(.double (FP.i2d p0)), (.double (0 : UInt64)), (.double (0 : UInt64))] := A556
    refine go_iload B d0_77 rfl ?_
    refine go_iconst B (x := (1 : Int32)) d0_79 rfl ?_
    refine go_icmple B d0_80 (fun c80 => ?_) (fun c80 => ?_)
    · exact absurd c80 (by decide)
    refine go_aload B d0_83 rfl rfl ?_
    refine go_iconst B (x := (1 : Int32)) d0_85 rfl ?_
    refine go_iload_n B d0_86 rfl ?_
    refine go_i2d B d0_87 ?_
    refine go_dastore B (i := 1) d0_88 A557 rfl (show 1 < 3 from by decide) ge_a550 ?_
    intro h558 W559 A560
    have A561 : AV Z h558 a550 .double [(.double (FP.i2d p0)), (.double (FP.i2d p1)), (.double (0 : UInt64))] := A560
    refine go_iload B d0_89 rfl ?_
    refine go_iconst B (x := (2 : Int32)) d0_91 rfl ?_
    refine go_icmple B d0_92 (fun c92 => ?_) (fun c92 => ?_)
    · exact absurd c92 (by decide)
    refine go_aload B d0_95 rfl rfl ?_
    refine go_iconst B (x := (2 : Int32)) d0_97 rfl ?_
    refine go_iload_n B d0_98 rfl ?_
    refine go_i2d B d0_99 ?_
    refine go_dastore B (i := 2) d0_100 A561 rfl (show 2 < 3 from by decide) ge_a550 ?_
    intro h562 W563 A564
    have A565 : AV Z h562 a550 .double [(.double (FP.i2d p0)), (.double (FP.i2d p1)), (.double (FP.i2d p2))] := A564
    refine go_aload B d0_101 rfl rfl ?_
    refine go_aload B d0_103 rfl rfl ?_
    have f570 : n0 ≤ h562.size := (Nat.le_trans (Nat.le_trans (Nat.le_trans (Nat.le_trans f553 Ea550.1) (Nat.le_of_eq (Wr.size W555).symm)) (Nat.le_of_eq (Wr.size W559).symm)) (Nat.le_of_eq (Wr.size W563).symm))
    have f571 : Fld Z h562 a539 "com/example/handpick/handpick/ScoringColumn" "smallerIsBetter" "Z" (.int (1 : Int32)) := (Fld.other W563 (Fld.other W559 (Fld.other W555 (Fld.ext Ea550 f543) (Or.inl (Ne.symm ne_a550_a539))) (Or.inl (Ne.symm ne_a550_a539))) (Or.inl (Ne.symm ne_a550_a539)))
    have f572 : Exa Z h562 a539 "com/example/handpick/handpick/ScoringColumn" := (Exa.wr W563 (Exa.wr W559 (Exa.wr W555 (Exa.ext Ea550 E541))))
    refine go_virtual B (W := 0) (a := a539) (argsL := [(.ref a550)]) (st := []) d0_105 (w_59 H) (w_60 H) (w_62 H) (w_61 H) (w_32 H) (w_63 H) (by decide) f572 (rmO31 H a539 a550 (FP.i2d p0) (FP.i2d p1) (FP.i2d p2) h562 f570 f571 A565) pd_9 rfl rfl rfl rfl (by decide) (by decide) (by decide) (by decide) ?_
    rintro _ h573 ⟨b566, rfl, g567, K568, A569⟩
    have f574 : Exa Z h562 a520 "java/lang/String" := (Exa.wr W563 (Exa.wr W559 (Exa.wr W555 (Exa.ext Ea550 (Exa.keep (Exa.ext Ea539 E531) K540)))))
    have ne_b566_a520 : b566 ≠ a520 := Nat.ne_of_gt (Nat.lt_of_lt_of_le (f574).lt (by omega))
    have f575 : Exa Z h562 a522 "[C" := (Exa.wr W563 (Exa.wr W559 (Exa.wr W555 (Exa.ext Ea550 f551))))
    have ne_b566_a522 : b566 ≠ a522 := Nat.ne_of_gt (Nat.lt_of_lt_of_le (f575).lt (by omega))
    have f576 : AV Z h562 b527 .byte [(.int (nar .byte ((((XT.ushr p3 (3 : Int32)) &&& (255 : Int32)).toUInt32.toUInt16.toUInt32.toInt32).toInt8.toInt32)))] := (AV.other (AV.other (AV.other (AV.ext f552 Ea550) W555 (Ne.symm ne_a550_b527)) W559 (Ne.symm ne_a550_b527)) W563 (Ne.symm ne_a550_b527))
    have ne_b566_b527 : b566 ≠ b527 := Nat.ne_of_gt (Nat.lt_of_lt_of_le (f576).lt (by omega))
    have ne_b566_a539 : b566 ≠ a539 := Nat.ne_of_gt (Nat.lt_of_lt_of_le (f572).lt (by omega))
    have ne_b566_a550 : b566 ≠ a550 := Nat.ne_of_gt (Nat.lt_of_lt_of_le ((Exa.wr W563 (Exa.wr W559 (Exa.wr W555 Ca550)))).lt (by omega))
    have ge_b566 : n0 ≤ b566 := by have q1 := f570; omega
    show Go κ _ h573 _ _ 108 #[.val (.int p0), .val (.int p1), .val (.int p2), .val (.int p3), .val (.int (1 : Int32)), .val (.int (3 : Int32)), .val (.int ((XT.ushr p3 (3 : Int32)) &&& (255 : Int32)).toUInt32.toUInt16.toUInt32.toInt32), .val (.ref a520), .val (.ref a539), .val (.ref a550), .unset] [(.ref b566)]
    refine go_astore B #[.val (.int p0), .val (.int p1), .val (.int p2), .val (.int p3), .val (.int (1 : Int32)), .val (.int (3 : Int32)), .val (.int ((XT.ushr p3 (3 : Int32)) &&& (255 : Int32)).toUInt32.toUInt16.toUInt32.toInt32), .val (.ref a520), .val (.ref a539), .val (.ref a550), .val (.ref b566)] d0_108 rfl rfl ?_
    refine go_aload B d0_110 rfl rfl ?_
    refine go_ifnonnull_t B d0_112 ?_
    refine go_aload B d0_117 rfl rfl ?_
    refine go_aload B d0_119 rfl rfl ?_
    refine go_acmpne B d0_121 rfl rfl (fun c121 => ?_) (fun c121 => ?_)
    rotate_left
    · exact absurd (Value.ref.inj c121) ne_b566_a550
    refine go_aload B d0_126 rfl rfl ?_
    refine go_arraylength B (x := (3 : Int32)) d0_128 A569 rfl ?_
    refine go_iload B d0_129 rfl ?_
    refine go_icmpeq B d0_131 (fun c131 => ?_) (fun c131 => ?_)
    rotate_left
    · exact absurd c131 (by decide)
    refine go_iload B d0_136 rfl ?_
    refine go_ifle B d0_138 (fun c138 => ?_) (fun c138 => ?_)
    · exact absurd c138 (by decide)
    refine go_aload B d0_141 rfl rfl ?_
    refine go_iconst B (x := (0 : Int32)) d0_143 rfl ?_
    refine go_daload B (i := 0) (v := (.double (FP.dneg (FP.i2d p0)))) d0_144 A569 rfl rfl ?_
    refine go_aload B d0_145 rfl rfl ?_
    refine go_iconst B (x := (0 : Int32)) d0_147 rfl ?_
    refine go_daload B (i := 0) (v := (.double (FP.i2d p0))) d0_148 (AV.keep A565 K568 nin0) rfl rfl ?_
    refine go_iload_n B d0_149 rfl ?_
    refine go_iload B d0_150 rfl ?_
    refine go_static B (W := 0) (argsL := [(.double (FP.dneg (FP.i2d p0))), (.double (FP.i2d p0)), (.int p0), (.int (1 : Int32))]) (st := []) d0_152 (w_64 H) (w_65 H) (w_66 H) (w_67 H) (by decide) (rmQ1 H p0 h573 (Nat.le_trans f570 K568.1)) pd_10 rfl rfl rfl rfl (by decide) (by decide) (by decide) (by decide) ?_
    rintro _ h577 ⟨rfl, rfl⟩
    show Go κ _ h573 _ _ 155 #[.val (.int p0), .val (.int p1), .val (.int p2), .val (.int p3), .val (.int (1 : Int32)), .val (.int (3 : Int32)), .val (.int ((XT.ushr p3 (3 : Int32)) &&& (255 : Int32)).toUInt32.toUInt16.toUInt32.toInt32), .val (.ref a520), .val (.ref a539), .val (.ref a550), .val (.ref b566)] [(.int (1 : Int32))]
    refine go_ifne B d0_155 (fun c155 => ?_) (fun c155 => ?_)
    rotate_left
    · exact absurd c155 (by decide)
    refine go_iload B d0_160 rfl ?_
    refine go_iconst B (x := (1 : Int32)) d0_162 rfl ?_
    refine go_icmple B d0_163 (fun c163 => ?_) (fun c163 => ?_)
    · exact absurd c163 (by decide)
    refine go_aload B d0_166 rfl rfl ?_
    refine go_iconst B (x := (1 : Int32)) d0_168 rfl ?_
    refine go_daload B (i := 1) (v := (.double (FP.dneg (FP.i2d p1)))) d0_169 A569 rfl rfl ?_
    refine go_aload B d0_170 rfl rfl ?_
    refine go_iconst B (x := (1 : Int32)) d0_172 rfl ?_
    refine go_daload B (i := 1) (v := (.double (FP.i2d p1))) d0_173 (AV.keep A565 K568 nin0) rfl rfl ?_
    refine go_iload_n B d0_174 rfl ?_
    refine go_iload B d0_175 rfl ?_
    refine go_static B (W := 0) (argsL := [(.double (FP.dneg (FP.i2d p1))), (.double (FP.i2d p1)), (.int p1), (.int (1 : Int32))]) (st := []) d0_177 (w_64 H) (w_65 H) (w_66 H) (w_67 H) (by decide) (rmQ1 H p1 h573 (Nat.le_trans f570 K568.1)) pd_10 rfl rfl rfl rfl (by decide) (by decide) (by decide) (by decide) ?_
    rintro _ h578 ⟨rfl, rfl⟩
    show Go κ _ h573 _ _ 180 #[.val (.int p0), .val (.int p1), .val (.int p2), .val (.int p3), .val (.int (1 : Int32)), .val (.int (3 : Int32)), .val (.int ((XT.ushr p3 (3 : Int32)) &&& (255 : Int32)).toUInt32.toUInt16.toUInt32.toInt32), .val (.ref a520), .val (.ref a539), .val (.ref a550), .val (.ref b566)] [(.int (1 : Int32))]
    refine go_ifne B d0_180 (fun c180 => ?_) (fun c180 => ?_)
    rotate_left
    · exact absurd c180 (by decide)
    refine go_iload B d0_185 rfl ?_
    refine go_iconst B (x := (2 : Int32)) d0_187 rfl ?_
    refine go_icmple B d0_188 (fun c188 => ?_) (fun c188 => ?_)
    · exact absurd c188 (by decide)
    refine go_aload B d0_191 rfl rfl ?_
    refine go_iconst B (x := (2 : Int32)) d0_193 rfl ?_
    refine go_daload B (i := 2) (v := (.double (FP.dneg (FP.i2d p2)))) d0_194 A569 rfl rfl ?_
    refine go_aload B d0_195 rfl rfl ?_
    refine go_iconst B (x := (2 : Int32)) d0_197 rfl ?_
    refine go_daload B (i := 2) (v := (.double (FP.i2d p2))) d0_198 (AV.keep A565 K568 nin0) rfl rfl ?_
    refine go_iload_n B d0_199 rfl ?_
    refine go_iload B d0_200 rfl ?_
    refine go_static B (W := 0) (argsL := [(.double (FP.dneg (FP.i2d p2))), (.double (FP.i2d p2)), (.int p2), (.int (1 : Int32))]) (st := []) d0_202 (w_64 H) (w_65 H) (w_66 H) (w_67 H) (by decide) (rmQ1 H p2 h573 (Nat.le_trans f570 K568.1)) pd_10 rfl rfl rfl rfl (by decide) (by decide) (by decide) (by decide) ?_
    rintro _ h579 ⟨rfl, rfl⟩
    show Go κ _ h573 _ _ 205 #[.val (.int p0), .val (.int p1), .val (.int p2), .val (.int p3), .val (.int (1 : Int32)), .val (.int (3 : Int32)), .val (.int ((XT.ushr p3 (3 : Int32)) &&& (255 : Int32)).toUInt32.toUInt16.toUInt32.toInt32), .val (.ref a520), .val (.ref a539), .val (.ref a550), .val (.ref b566)] [(.int (1 : Int32))]
    refine go_ifne B d0_205 (fun c205 => ?_) (fun c205 => ?_)
    rotate_left
    · exact absurd c205 (by decide)
    refine go_iconst B (x := (1 : Int32)) d0_210 rfl ?_
    have f580 : km547 ≤ h573.size := (Nat.le_trans (Nat.le_trans (Nat.le_trans (Nat.le_trans (Nat.le_trans K548 Ea550.1) (Nat.le_of_eq (Wr.size W555).symm)) (Nat.le_of_eq (Wr.size W559).symm)) (Nat.le_of_eq (Wr.size W563).symm)) K568.1)
    refine go_zreturn B (y := (1 : Int32)) d0_211 (by decide) (by decide) (by decide) ?_ (hkm := f580)
    exact rfl
theorem rm0 {l : Launch} {Z : State} {a0 : Array Value} {n0 : Nat} (H : Wd a0 Z) (p0 p1 p2 p3 : Int32) (h0 : Heap) (Z0 : n0 ≤ h0.size) {cz : Int32} (SC : Sta Z h0 "java/lang/String" "COMPACT_STRINGS" "Z" (.int cz)) (hz : ¬ cz = 0) :
    CtW l Z n0 x code maxLocals ret tables_1 room_1 #[(.int p0), (.int p1), (.int p2), (.int p3)] h0 (fun v h => v = some (.int 1)) := by
  rcases own_n (XT.ushr p3 (1 : Int32)) with q | q | q | q
  · exact rm0_0 (a0 := a0) H p0 p1 p2 p3 q h0 Z0 SC hz
  · exact rm0_1 (a0 := a0) H p0 p1 p2 p3 q h0 Z0 SC hz
  · exact rm0_2 (a0 := a0) H p0 p1 p2 p3 q h0 Z0 SC hz
  · exact rm0_3 (a0 := a0) H p0 p1 p2 p3 q h0 Z0 SC hz
set_option maxRecDepth 65536 in
set_option maxHeartbeats 40000000 in
theorem comes_1 {Post : Tables → Env → Array Value → State → Outcome → State → Prop} (hpost : ∀ tb e args s v u, (limb_1_1.after args s (.returned v) u = true ∧ limb_1_2.after args s (.returned v) u = true ∧ True) → FramedW s (.returned v) u (Jvm.fieldLocs frame_1_writes args s ++ Jvm.arrayLocs frame_1_arrays args s ++ Jvm.staticLocs frame_1_statics s) 24 1152 → Post tb e args s (.returned v) u) :
    ArmFor flags0 classFile x code maxLocals ret World_1 tables_1 room_1 Calls_1 rest_1 Pre_1 Post := by
  intro l hfl _ _ p e ha hc hk s m args below hf hA hF happ hP
  obtain ⟨hcalls, hrest, hpre⟩ := hP
  obtain ⟨-, -, -, hnamed, -, -, -, hat⟩ := (Spec.applies_iff hf).mp happ
  obtain ⟨hg, hn⟩ := and_e (Cond.before_iff.mp (show (Jvm.Cond.and given_1 narrow_1).before args s = true from hpre))
  obtain ⟨hg0, hg1⟩ := and_e hg
  obtain ⟨hk0, hg2⟩ := and_e hg1
  obtain ⟨hk1, hg3⟩ := and_e hg2
  obtain ⟨hk2, hg4⟩ := and_e hg3
  have hk3 := hg4
  obtain ⟨w0, w1, w2, w3, rfl⟩ : ∃ w0 w1 w2 w3 : Value, args = #[w0, w1, w2, w3] := by
    have hs : args.size = 4 := by simpa [Cond.value, given_1] using hg0
    obtain ⟨L⟩ := args
    match L, hs with
    | [w0, w1, w2, w3], _ => exact ⟨w0, w1, w2, w3, rfl⟩
  have hw : Wd _ s := fun d (hd : d ∈ tables_1) => atoms_spec (ws := Jvm.Cond.code x code maxLocals ret :: tables_1) hat d (List.mem_cons_of_mem _ hd)
  obtain ⟨hsets, hown0⟩ := atoms_of _ (rest_1_c_eq ▸ (show rest_1_c.before _ s = true from hrest))
  obtain ⟨cz, ecz⟩ := is_v (Cond.before_iff.mp (hsets _ (List.mem_of_getElem? (i := 1) rfl)))
  have SC := Sta.start ecz (Or.inl (hsets _ (List.mem_of_getElem? (i := 0) rfl)))
  have hz : ¬ cz = 0 := gotF (Cond.eq_ints ecz (Term.int_eval (0))) (not_v (Cond.before_iff.mp (hsets _ (List.mem_of_getElem? (i := 2) rfl))))
  obtain ⟨i0, e0⟩ := is_v hk0
  obtain rfl : w0 = (.int i0) := Option.some.inj e0
  obtain ⟨i1, e1⟩ := is_v hk1
  obtain rfl : w1 = (.int i1) := Option.some.inj e1
  obtain ⟨i2, e2⟩ := is_v hk2
  obtain rfl : w2 = (.int i2) := Option.some.inj e2
  obtain ⟨i3, e3⟩ := is_v hk3
  obtain rfl : w3 = (.int i3) := Option.some.inj e3
  obtain ⟨n, o, h1, h2, h3, _, L, rfl, ⟨rfl, N⟩, hq⟩ := rm0 (l := l) hw i0 i1 i2 i3 s.heap (Nat.le_refl _) SC hz p e ha hc hk s m _ below hf ((Spec.applies_iff_loose hf).mp happ).1 ⟨rfl, State.Warmed39.refl s, rfl⟩ trivial
  refine ⟨n, _, h1, h2, h3, hpost _ _ _ _ _ _ ⟨Cond.after_iff.mpr rfl, Cond.after_iff.mpr (eq_i res_at (Term.int_eval (1)) rfl), trivial⟩ ⟨hq.1, hq.2.1, hq.2.2.1, (hq.2.2.2.sift fun y hy => Or.inr (N y hy)).mono (by decide) (by decide)⟩⟩
theorem main_1_1 : Claimed_1_1 := comes_1 fun _ _ _ _ _ _ h hF => ⟨h.1, hF⟩
theorem main_1_2 : Claimed_1_2 := comes_1 fun _ _ _ _ _ _ h hF => ⟨h.2.1, hF⟩
end Jvm.Pilot.@@N@@
namespace Jvm.Pilot.@@N@@
open Jvm Jvm.ClassFile Sem Op Lib Jvm.Free Jvm.Stand Jvm.Pilot.@@N@@.Jvm.D
/-! MADE BY PROGRAM (witnessworld.py) out of the Statement's table words and the real class files: 22 classes; the members and pool entries that the words name. The judged class is class 1, her method 1. -/
namespace start1
open Jvm.ClassFile
def u (s : String) : CpInfo := .utf8 (stringToUtf16 s)
/-- a pool by its gaps: so many unusable entries, then the entry; so many at the end -/
def gap : Nat → List CpInfo → List CpInfo
  | 0, r => r
  | n + 1, r => .unusable :: gap n r
def poolList (es : List (Nat × CpInfo)) (last : Nat) : List CpInfo := es.foldr (fun e r => gap e.1 (e.2 :: r)) (gap last [])
def pool (es : List (Nat × CpInfo)) (last : Nat) : Array CpInfo := ⟨poolList es last⟩
def fileOf (pool : Array CpInfo) (this : Nat) (attrs : Array Attribute := #[]) (ms : Array MethodInfo := #[]) (fl : Nat := 33) (sup : Nat := 0) (ifs : Array Nat := #[]) (fds : Array FieldInfo := #[]) : ClassFile where
  minorVersion := 0
  majorVersion := 65
  constantPool := pool
  accessFlags := fl
  thisClass := this
  superClass := sup
  interfaces := ifs
  fields := fds
  methods := ms
  attributes := attrs
def plain (name : String) (sup : Option ClassId) : Class where
  name := name
  kind := .ordinary
  loader := none
  accessFlags := 33
  super := sup
  interfaces := #[]
  cf := none
  fields := #[]
  methods := #[]
  instanceTypes := #[]
  staticTypes := #[]
  resolved := #[]
  callSites := []
  init := .initialized
  statics := none
  mirror := none

def pool0 : Array CpInfo := pool [(5, u "<init>"), (0, u "()V"), (1, .class_ 10), (1, u "java/lang/Object")] 113

def k0c0 : Code := { maxStack := 0, maxLocals := 1, code := object_method_1_code, exceptionTable := #[], attributes := #[] }
def k0m0 : Method := { name := "<init>", desc := "()V", sig := { parameters := [], returnType := none }, accessFlags := 1, code := some k0c0 }
/-- java/lang/Object -/
def k0 : Class := { plain "java/lang/Object" none with
  accessFlags := 33
  interfaces := #[]
  cf := some (fileOf pool0 8 #[] #[{ accessFlags := 1, nameIndex := 5, descriptorIndex := 6, attributes := #[] }] 33 0 #[] #[])
  fields := #[]
  methods := #[k0m0]
  instanceTypes := #[]
  staticTypes := #[]
  resolved := Array.replicate 124 none
  statics := none }

def pool1 : Array CpInfo := pool [(2, .class_ 4), (1, u "java/lang/Object"), (0, u "<init>"), (0, u "()V"), (0, .class_ 8), (0, u "java/lang/String"), (0, .methodref 7 10), (0, .nameAndType 5 11), (0, u "([C)V"), (0, .class_ 13), (0, u "com/example/handpick/handpick/ScoringColumn"), (0, .methodref 12 15), (0, .nameAndType 5 16), (0, u "(Ljava/lang/String;Z)V"), (0, .methodref 12 18), (0, .nameAndType 19 20), (0, u "orient"), (0, u "([D)[D"), (0, .methodref 22 23), (0, .class_ 24), (0, .nameAndType 25 26), (0, u "com/example/handpick/handpick/ScoringColumnOrientPinLaw"), (0, u "ok"), (0, u "(DDIZ)Z"), (2, u "law"), (0, u "(IIII)Z")] 5

def k1m0 : Method := { name := "<init>", desc := "()V", sig := { parameters := [], returnType := none }, accessFlags := 1, code := none }
def k1c1 : Code := { maxStack := 6, maxLocals := 11, code := code, exceptionTable := #[], attributes := #[] }
def k1m1 : Method := { name := "law", desc := "(IIII)Z", sig := { parameters := [.int, .int, .int, .int], returnType := some .boolean }, accessFlags := 9, code := some k1c1 }
def k1c2 : Code := { maxStack := 4, maxLocals := 8, code := method_3_code, exceptionTable := #[], attributes := #[] }
def k1m2 : Method := { name := "ok", desc := "(DDIZ)Z", sig := { parameters := [.double, .double, .int, .boolean], returnType := some .boolean }, accessFlags := 10, code := some k1c2 }
/-- com/example/handpick/handpick/ScoringColumnOrientPinLaw -/
def k1 : Class := { plain "com/example/handpick/handpick/ScoringColumnOrientPinLaw" (some 0) with
  accessFlags := 49
  interfaces := #[]
  cf := some (fileOf pool1 22 #[] #[{ accessFlags := 1, nameIndex := 5, descriptorIndex := 6, attributes := #[] }, { accessFlags := 9, nameIndex := 29, descriptorIndex := 30, attributes := #[] }, { accessFlags := 10, nameIndex := 25, descriptorIndex := 26, attributes := #[] }] 49 2 #[] #[])
  fields := #[]
  methods := #[k1m0, k1m1, k1m2]
  instanceTypes := #[]
  staticTypes := #[]
  resolved := Array.replicate 36 none
  statics := none }

def pool2 : Array CpInfo := pool [(1, .class_ 2), (0, u "java/io/Serializable"), (0, .class_ 4), (0, u "java/lang/Object")] 2

/-- java/io/Serializable -/
def k2 : Class := { plain "java/io/Serializable" (some 0) with
  accessFlags := 1537
  interfaces := #[]
  cf := some (fileOf pool2 1 #[] #[] 1537 3 #[] #[])
  fields := #[]
  methods := #[]
  instanceTypes := #[]
  staticTypes := #[]
  resolved := Array.replicate 7 none
  statics := none }

def pool3 : Array CpInfo := pool [(1, .class_ 2), (0, u "java/lang/Comparable"), (0, .class_ 4), (0, u "java/lang/Object")] 7

/-- java/lang/Comparable -/
def k3 : Class := { plain "java/lang/Comparable" (some 0) with
  accessFlags := 1537
  interfaces := #[]
  cf := some (fileOf pool3 1 #[] #[] 1537 3 #[] #[])
  fields := #[]
  methods := #[]
  instanceTypes := #[]
  staticTypes := #[]
  resolved := Array.replicate 12 none
  statics := none }

def pool4 : Array CpInfo := pool [(2, .class_ 4), (1, u "java/lang/CharSequence"), (42, .class_ 48), (0, u "java/lang/CharSequence$1CodePointIterator"), (10, .class_ 60), (0, u "java/lang/CharSequence$1CharIterator"), (5, .class_ 67), (0, u "java/lang/Object")] 63

/-- java/lang/CharSequence -/
def k4 : Class := { plain "java/lang/CharSequence" (some 0) with
  accessFlags := 1537
  interfaces := #[]
  cf := some (fileOf pool4 2 #[.nestMembers #[47, 59]] #[] 1537 66 #[] #[])
  fields := #[]
  methods := #[]
  instanceTypes := #[]
  staticTypes := #[]
  resolved := Array.replicate 131 none
  statics := none }

def pool5 : Array CpInfo := pool [(1, .class_ 2), (0, u "java/lang/constant/Constable"), (0, .class_ 4), (0, u "java/lang/Object")] 6

/-- java/lang/constant/Constable -/
def k5 : Class := { plain "java/lang/constant/Constable" (some 0) with
  accessFlags := 1537
  interfaces := #[]
  cf := some (fileOf pool5 1 #[] #[] 1537 3 #[] #[])
  fields := #[]
  methods := #[]
  instanceTypes := #[]
  staticTypes := #[]
  resolved := Array.replicate 11 none
  statics := none }

def pool6 : Array CpInfo := pool [(1, .class_ 2), (0, u "java/lang/constant/ConstantDesc"), (0, .class_ 4), (0, u "java/lang/Object")] 32

/-- java/lang/constant/ConstantDesc -/
def k6 : Class := { plain "java/lang/constant/ConstantDesc" (some 0) with
  accessFlags := 1537
  interfaces := #[]
  cf := some (fileOf pool6 1 #[] #[] 1537 3 #[] #[])
  fields := #[]
  methods := #[]
  instanceTypes := #[]
  staticTypes := #[]
  resolved := Array.replicate 37 none
  statics := none }

def pool7 : Array CpInfo := pool [(1, .methodref 2 3), (0, .class_ 4), (0, .nameAndType 5 6), (0, u "java/lang/Object"), (0, u "<init>"), (0, u "()V"), (2, .fieldref 10 11), (0, .class_ 12), (0, .nameAndType 13 14), (0, u "java/lang/String"), (0, u "value"), (0, u "[B"), (0, .fieldref 10 16), (0, .nameAndType 17 18), (0, u "coder"), (0, u "B"), (2, u "hash"), (0, u "I"), (2, u "hashIsZero"), (0, u "Z"), (0, .methodref 10 28), (0, .nameAndType 5 29), (0, u "([CIILjava/lang/Void;)V"), (8, .fieldref 10 39), (0, .nameAndType 40 26), (0, u "COMPACT_STRINGS"), (1, .class_ 44), (1, u "java/lang/StringUTF16"), (0, u "compress"), (1, .methodref 42 48), (0, .nameAndType 49 50), (0, u "coderFromArrayLen"), (0, u "([BI)B"), (91, u "()Z"), (34, .methodref 42 178), (0, .nameAndType 45 179), (0, u "([CII)[B"), (395, .class_ 576), (0, u "java/lang/CharSequence"), (22, u "CASE_INSENSITIVE_ORDER"), (0, u "Ljava/util/Comparator;"), (91, u "isEmpty"), (317, u "([C)V"), (90, u "serialPersistentFields"), (0, u "[Ljava/io/ObjectStreamField;"), (0, .class_ 1104), (0, u "java/lang/String$CaseInsensitiveComparator"), (1, .class_ 1107), (0, u "java/io/Serializable"), (0, .class_ 1109), (0, u "java/lang/Comparable"), (0, .class_ 1111), (0, u "java/lang/constant/Constable"), (0, .class_ 1113), (0, u "java/lang/constant/ConstantDesc"), (2, u "serialVersionUID"), (0, u "J"), (3, u "REPL"), (0, u "C"), (2, u "LATIN1"), (1, u "UTF16")] 323

def k7m0 : Method := { name := "<init>", desc := "()V", sig := { parameters := [], returnType := none }, accessFlags := 1, code := none }
def k7c1 : Code := { maxStack := 5, maxLocals := 2, code := jdk_42_method_3_code, exceptionTable := #[], attributes := #[] }
def k7m1 : Method := { name := "<init>", desc := "([C)V", sig := { parameters := [(.array .char)], returnType := none }, accessFlags := 1, code := some k7c1 }
def k7c2 : Code := { maxStack := 1, maxLocals := 1, code := jdk_42_method_55_code, exceptionTable := #[], attributes := #[] }
def k7m2 : Method := { name := "isEmpty", desc := "()Z", sig := { parameters := [], returnType := some .boolean }, accessFlags := 1, code := some k7c2 }
def k7c3 : Code := { maxStack := 4, maxLocals := 6, code := jdk_42_method_149_code, exceptionTable := #[], attributes := #[] }
def k7m3 : Method := { name := "<init>", desc := "([CIILjava/lang/Void;)V", sig := { parameters := [(.array .char), .int, .int, (.object "java/lang/Void")], returnType := none }, accessFlags := 2, code := some k7c3 }
/-- java/lang/String -/
def k7 : Class := { plain "java/lang/String" (some 0) with
  accessFlags := 49
  interfaces := #[2, 3, 4, 5, 6]
  cf := some (fileOf pool7 10 #[.nestMembers #[1103]] #[{ accessFlags := 1, nameIndex := 5, descriptorIndex := 6, attributes := #[] }, { accessFlags := 1, nameIndex := 5, descriptorIndex := 1010, attributes := #[] }, { accessFlags := 1, nameIndex := 692, descriptorIndex := 142, attributes := #[] }, { accessFlags := 2, nameIndex := 5, descriptorIndex := 29, attributes := #[] }] 49 2 #[1106, 1108, 575, 1110, 1112] #[{ accessFlags := 18, nameIndex := 13, descriptorIndex := 14, attributes := #[] }, { accessFlags := 18, nameIndex := 17, descriptorIndex := 18, attributes := #[] }, { accessFlags := 2, nameIndex := 21, descriptorIndex := 22, attributes := #[] }, { accessFlags := 2, nameIndex := 25, descriptorIndex := 26, attributes := #[] }, { accessFlags := 26, nameIndex := 1116, descriptorIndex := 1117, attributes := #[] }, { accessFlags := 24, nameIndex := 40, descriptorIndex := 26, attributes := #[] }, { accessFlags := 26, nameIndex := 1101, descriptorIndex := 1102, attributes := #[] }, { accessFlags := 26, nameIndex := 1121, descriptorIndex := 1122, attributes := #[] }, { accessFlags := 25, nameIndex := 599, descriptorIndex := 600, attributes := #[] }, { accessFlags := 24, nameIndex := 1125, descriptorIndex := 18, attributes := #[] }, { accessFlags := 24, nameIndex := 1127, descriptorIndex := 18, attributes := #[] }])
  fields := #[{ name := "value", type := (.array .byte), accessFlags := 18, slot := 0, constantValue := 0 }, { name := "coder", type := .byte, accessFlags := 18, slot := 1, constantValue := 0 }, { name := "hash", type := .int, accessFlags := 2, slot := 2, constantValue := 0 }, { name := "hashIsZero", type := .boolean, accessFlags := 2, slot := 3, constantValue := 0 }, { name := "serialVersionUID", type := .long, accessFlags := 26, slot := 0, constantValue := 0 }, { name := "COMPACT_STRINGS", type := .boolean, accessFlags := 24, slot := 1, constantValue := 0 }, { name := "serialPersistentFields", type := (.array (.object "java/io/ObjectStreamField")), accessFlags := 26, slot := 2, constantValue := 0 }, { name := "REPL", type := .char, accessFlags := 26, slot := 3, constantValue := 0 }, { name := "CASE_INSENSITIVE_ORDER", type := (.object "java/util/Comparator"), accessFlags := 25, slot := 4, constantValue := 0 }, { name := "LATIN1", type := .byte, accessFlags := 24, slot := 5, constantValue := 0 }, { name := "UTF16", type := .byte, accessFlags := 24, slot := 6, constantValue := 0 }]
  methods := #[k7m0, k7m1, k7m2, k7m3]
  instanceTypes := #[(.array .byte), .byte, .int, .boolean]
  staticTypes := #[.long, .boolean, (.array (.object "java/io/ObjectStreamField")), .char, (.object "java/util/Comparator"), .byte, .byte]
  resolved := Array.replicate 1451 none
  statics := some 0 }

def pool8 : Array CpInfo := pool [(6, .class_ 8), (1, u "java/lang/Object"), (0, u "<init>"), (0, u "()V"), (1, .class_ 14), (1, u "java/lang/StringUTF16"), (31, u "$assertionsDisabled"), (0, u "Z"), (13, u "HI_BYTE_SHIFT"), (0, u "I"), (2, u "LO_BYTE_SHIFT"), (49, .methodref 12 116), (0, .nameAndType 117 118), (0, u "compress"), (0, u "([CI[BII)I"), (3, u "([CII)[B"), (138, u "coderFromArrayLen"), (0, u "([BI)B"), (106, .class_ 371), (1, u "java/lang/StringUTF16$LinesSpliterator"), (58, u "MAX_LENGTH"), (196, .class_ 628), (0, u "java/lang/StringUTF16$CodePointsSpliterator"), (0, .class_ 630), (0, u "java/lang/StringUTF16$CharsSpliterator")] 4

def k8m0 : Method := { name := "<init>", desc := "()V", sig := { parameters := [], returnType := none }, accessFlags := 0, code := none }
def k8c1 : Code := { maxStack := 2, maxLocals := 2, code := jdk_52_method_15_code, exceptionTable := #[], attributes := #[] }
def k8m1 : Method := { name := "coderFromArrayLen", desc := "([BI)B", sig := { parameters := [(.array .byte), .int], returnType := some .byte }, accessFlags := 8, code := some k8c1 }
def k8c2 : Code := { maxStack := 5, maxLocals := 6, code := jdk_52_method_16_code, exceptionTable := #[], attributes := #[] }
def k8m2 : Method := { name := "compress", desc := "([CII)[B", sig := { parameters := [(.array .char), .int, .int], returnType := some (.array .byte) }, accessFlags := 9, code := some k8c2 }
def k8c3 : Code := { maxStack := 3, maxLocals := 7, code := jdk_52_method_21_code, exceptionTable := #[], attributes := #[] }
def k8m3 : Method := { name := "compress", desc := "([CI[BII)I", sig := { parameters := [(.array .char), .int, (.array .byte), .int, .int], returnType := some .int }, accessFlags := 9, code := some k8c3 }
/-- java/lang/StringUTF16 -/
def k8 : Class := { plain "java/lang/StringUTF16" (some 0) with
  accessFlags := 48
  interfaces := #[]
  cf := some (fileOf pool8 12 #[.nestMembers #[627, 629, 369]] #[{ accessFlags := 0, nameIndex := 9, descriptorIndex := 10, attributes := #[] }, { accessFlags := 8, nameIndex := 261, descriptorIndex := 262, attributes := #[] }, { accessFlags := 9, nameIndex := 117, descriptorIndex := 122, attributes := #[] }, { accessFlags := 9, nameIndex := 117, descriptorIndex := 118, attributes := #[] }] 48 6 #[] #[{ accessFlags := 26, nameIndex := 61, descriptorIndex := 62, attributes := #[] }, { accessFlags := 26, nameIndex := 65, descriptorIndex := 62, attributes := #[] }, { accessFlags := 24, nameIndex := 430, descriptorIndex := 62, attributes := #[] }, { accessFlags := 4120, nameIndex := 46, descriptorIndex := 47, attributes := #[] }])
  fields := #[{ name := "HI_BYTE_SHIFT", type := .int, accessFlags := 26, slot := 0, constantValue := 0 }, { name := "LO_BYTE_SHIFT", type := .int, accessFlags := 26, slot := 1, constantValue := 0 }, { name := "MAX_LENGTH", type := .int, accessFlags := 24, slot := 2, constantValue := 0 }, { name := "$assertionsDisabled", type := .boolean, accessFlags := 4120, slot := 3, constantValue := 0 }]
  methods := #[k8m0, k8m1, k8m2, k8m3]
  instanceTypes := #[]
  staticTypes := #[.int, .int, .int, .boolean]
  resolved := Array.replicate 635 none
  statics := none }

def pool9 : Array CpInfo := pool [(1, .methodref 2 3), (0, .class_ 4), (0, .nameAndType 5 6), (0, u "java/lang/Object"), (0, u "<init>"), (0, u "()V"), (0, .class_ 8), (0, u "java/lang/Record")] 13

def k9c0 : Code := { maxStack := 1, maxLocals := 1, code := jdk_30_method_1_code, exceptionTable := #[], attributes := #[] }
def k9m0 : Method := { name := "<init>", desc := "()V", sig := { parameters := [], returnType := none }, accessFlags := 4, code := some k9c0 }
/-- java/lang/Record -/
def k9 : Class := { plain "java/lang/Record" (some 0) with
  accessFlags := 1057
  interfaces := #[]
  cf := some (fileOf pool9 7 #[] #[{ accessFlags := 4, nameIndex := 5, descriptorIndex := 6, attributes := #[] }] 1057 2 #[] #[])
  fields := #[]
  methods := #[k9m0]
  instanceTypes := #[]
  staticTypes := #[]
  resolved := Array.replicate 22 none
  statics := none }

def pool10 : Array CpInfo := pool [(1, .methodref 2 3), (0, .class_ 4), (0, .nameAndType 5 6), (0, u "java/lang/Record"), (0, u "<init>"), (0, u "()V"), (0, .string 8), (0, u "name"), (0, .methodref 10 11), (0, .class_ 12), (0, .nameAndType 13 14), (0, u "java/util/Objects"), (0, u "requireNonNull"), (0, u "(Ljava/lang/Object;Ljava/lang/String;)Ljava/lang/Object;"), (0, .methodref 16 17), (0, .class_ 18), (0, .nameAndType 19 20), (0, u "java/lang/String"), (0, u "isEmpty"), (0, u "()Z"), (7, .fieldref 29 30), (0, .class_ 31), (0, .nameAndType 8 32), (0, u "com/example/handpick/handpick/ScoringColumn"), (0, u "Ljava/lang/String;"), (0, .fieldref 29 34), (0, .nameAndType 35 36), (0, u "smallerIsBetter"), (0, u "Z"), (16, u "(Ljava/lang/String;Z)V"), (46, u "SMALLER_IS_BETTER"), (8, u "([D)[D"), (2, u "orient")] 31

def k10c0 : Code := { maxStack := 3, maxLocals := 3, code := prog_85_method_1_code, exceptionTable := #[], attributes := #[] }
def k10m0 : Method := { name := "<init>", desc := "(Ljava/lang/String;Z)V", sig := { parameters := [(.object "java/lang/String"), .boolean], returnType := none }, accessFlags := 1, code := some k10c0 }
def k10c1 : Code := { maxStack := 4, maxLocals := 4, code := prog_85_method_4_code, exceptionTable := #[], attributes := #[] }
def k10m1 : Method := { name := "orient", desc := "([D)[D", sig := { parameters := [(.array .double)], returnType := some (.array .double) }, accessFlags := 1, code := some k10c1 }
/-- com/example/handpick/handpick/ScoringColumn -/
def k10 : Class := { plain "com/example/handpick/handpick/ScoringColumn" (some 9) with
  accessFlags := 49
  interfaces := #[]
  cf := some (fileOf pool10 29 #[] #[{ accessFlags := 1, nameIndex := 5, descriptorIndex := 53, attributes := #[] }, { accessFlags := 1, nameIndex := 112, descriptorIndex := 109, attributes := #[] }] 49 2 #[] #[{ accessFlags := 18, nameIndex := 8, descriptorIndex := 32, attributes := #[] }, { accessFlags := 18, nameIndex := 35, descriptorIndex := 36, attributes := #[] }, { accessFlags := 26, nameIndex := 100, descriptorIndex := 32, attributes := #[] }])
  fields := #[{ name := "name", type := (.object "java/lang/String"), accessFlags := 18, slot := 0, constantValue := 0 }, { name := "smallerIsBetter", type := .boolean, accessFlags := 18, slot := 1, constantValue := 0 }, { name := "SMALLER_IS_BETTER", type := (.object "java/lang/String"), accessFlags := 26, slot := 0, constantValue := 0 }]
  methods := #[k10m0, k10m1]
  instanceTypes := #[(.object "java/lang/String"), .boolean]
  staticTypes := #[(.object "java/lang/String")]
  resolved := Array.replicate 144 none
  statics := none }

def pool11 : Array CpInfo := pool [(2, .class_ 4), (1, u "java/lang/Object"), (0, u "<init>"), (0, u "()V"), (35, .class_ 44), (1, u "java/util/Objects"), (0, u "requireNonNull"), (48, u "(Ljava/lang/Object;Ljava/lang/String;)Ljava/lang/Object;")] 89

def k11m0 : Method := { name := "<init>", desc := "()V", sig := { parameters := [], returnType := none }, accessFlags := 2, code := none }
def k11c1 : Code := { maxStack := 3, maxLocals := 2, code := jdk_31_method_11_code, exceptionTable := #[], attributes := #[] }
def k11m1 : Method := { name := "requireNonNull", desc := "(Ljava/lang/Object;Ljava/lang/String;)Ljava/lang/Object;", sig := { parameters := [(.object "java/lang/Object"), (.object "java/lang/String")], returnType := some (.object "java/lang/Object") }, accessFlags := 9, code := some k11c1 }
/-- java/util/Objects -/
def k11 : Class := { plain "java/util/Objects" (some 0) with
  accessFlags := 49
  interfaces := #[]
  cf := some (fileOf pool11 42 #[] #[{ accessFlags := 2, nameIndex := 5, descriptorIndex := 6, attributes := #[] }, { accessFlags := 9, nameIndex := 45, descriptorIndex := 94, attributes := #[] }] 49 2 #[] #[])
  fields := #[]
  methods := #[k11m0, k11m1]
  instanceTypes := #[]
  staticTypes := #[]
  resolved := Array.replicate 184 none
  statics := none }

def pool12 : Array CpInfo := pool [(4, .class_ 6), (1, u "java/lang/Object"), (0, u "<init>"), (0, u "()V"), (5, .class_ 16), (1, u "java/lang/StringLatin1"), (104, u "$assertionsDisabled"), (0, u "Z"), (98, .class_ 223), (1, u "java/lang/StringLatin1$LinesSpliterator"), (166, .class_ 391), (0, u "java/lang/StringLatin1$CharsSpliterator")] 3

def k12m0 : Method := { name := "<init>", desc := "()V", sig := { parameters := [], returnType := none }, accessFlags := 0, code := none }
/-- java/lang/StringLatin1 -/
def k12 : Class := { plain "java/lang/StringLatin1" (some 0) with
  accessFlags := 48
  interfaces := #[]
  cf := some (fileOf pool12 14 #[.nestMembers #[390, 221]] #[{ accessFlags := 0, nameIndex := 7, descriptorIndex := 8, attributes := #[] }] 48 4 #[] #[{ accessFlags := 4120, nameIndex := 121, descriptorIndex := 122, attributes := #[] }])
  fields := #[{ name := "$assertionsDisabled", type := .boolean, accessFlags := 4120, slot := 0, constantValue := 0 }]
  methods := #[k12m0]
  instanceTypes := #[]
  staticTypes := #[.boolean]
  resolved := Array.replicate 395 none
  statics := none }

def pool13 : Array CpInfo := pool [(2, .class_ 4), (1, u "java/lang/Object"), (0, u "<init>"), (0, u "()V"), (17, .class_ 26), (1, u "jdk/internal/util/Preconditions"), (28, .class_ 56), (0, u "jdk/internal/util/Preconditions$4"), (57, .class_ 115), (0, u "jdk/internal/util/Preconditions$1"), (7, u "SIOOBE_FORMATTER"), (0, u "Ljava/util/function/BiFunction;"), (0, .class_ 126), (0, u "jdk/internal/util/Preconditions$2"), (3, u "AIOOBE_FORMATTER"), (0, .class_ 132), (0, u "jdk/internal/util/Preconditions$3"), (3, u "IOOBE_FORMATTER")] 57

def k13m0 : Method := { name := "<init>", desc := "()V", sig := { parameters := [], returnType := none }, accessFlags := 1, code := none }
/-- jdk/internal/util/Preconditions -/
def k13 : Class := { plain "jdk/internal/util/Preconditions" (some 0) with
  accessFlags := 33
  interfaces := #[]
  cf := some (fileOf pool13 24 #[.nestMembers #[55, 131, 125, 114]] #[{ accessFlags := 1, nameIndex := 5, descriptorIndex := 6, attributes := #[] }] 33 2 #[] #[{ accessFlags := 25, nameIndex := 123, descriptorIndex := 124, attributes := #[] }, { accessFlags := 25, nameIndex := 130, descriptorIndex := 124, attributes := #[] }, { accessFlags := 25, nameIndex := 136, descriptorIndex := 124, attributes := #[] }])
  fields := #[{ name := "SIOOBE_FORMATTER", type := (.object "java/util/function/BiFunction"), accessFlags := 25, slot := 0, constantValue := 0 }, { name := "AIOOBE_FORMATTER", type := (.object "java/util/function/BiFunction"), accessFlags := 25, slot := 1, constantValue := 0 }, { name := "IOOBE_FORMATTER", type := (.object "java/util/function/BiFunction"), accessFlags := 25, slot := 2, constantValue := 0 }]
  methods := #[k13m0]
  instanceTypes := #[]
  staticTypes := #[(.object "java/util/function/BiFunction"), (.object "java/util/function/BiFunction"), (.object "java/util/function/BiFunction")]
  resolved := Array.replicate 194 none
  statics := some 1 }

def pool14 : Array CpInfo := pool [(9, u "<init>"), (6, .class_ 18), (1, u "java/lang/Object"), (0, u "()V"), (1, .class_ 23), (1, u "jdk/internal/util/ArraysSupport"), (0, u "LOG2_ARRAY_LONG_INDEX_SCALE"), (0, u "I"), (2, u "U"), (0, u "Ljdk/internal/misc/Unsafe;"), (8, u "BIG_ENDIAN"), (0, u "Z"), (8, u "LOG2_BYTE_BIT_SIZE"), (4, u "LOG2_ARRAY_INT_INDEX_SCALE"), (54, u "JLA"), (0, u "Ljdk/internal/access/JavaLangAccess;"), (11, u "LOG2_ARRAY_BOOLEAN_INDEX_SCALE"), (9, u "LOG2_ARRAY_BYTE_INDEX_SCALE"), (5, u "LOG2_ARRAY_CHAR_INDEX_SCALE"), (5, u "LOG2_ARRAY_SHORT_INDEX_SCALE"), (18, u "LOG2_ARRAY_FLOAT_INDEX_SCALE"), (24, u "LOG2_ARRAY_DOUBLE_INDEX_SCALE"), (89, u "T_BOOLEAN"), (2, u "T_CHAR"), (1, u "T_FLOAT"), (1, u "T_DOUBLE"), (1, u "T_BYTE"), (1, u "T_SHORT"), (1, u "T_INT"), (1, u "T_LONG"), (1, u "SOFT_MAX_ARRAY_LENGTH")] 83

def k14m0 : Method := { name := "<init>", desc := "()V", sig := { parameters := [], returnType := none }, accessFlags := 2, code := none }
/-- jdk/internal/util/ArraysSupport -/
def k14 : Class := { plain "jdk/internal/util/ArraysSupport" (some 0) with
  accessFlags := 33
  interfaces := #[]
  cf := some (fileOf pool14 21 #[] #[{ accessFlags := 2, nameIndex := 9, descriptorIndex := 19, attributes := #[] }] 33 16 #[] #[{ accessFlags := 24, nameIndex := 28, descriptorIndex := 29, attributes := #[] }, { accessFlags := 26, nameIndex := 38, descriptorIndex := 39, attributes := #[] }, { accessFlags := 25, nameIndex := 121, descriptorIndex := 25, attributes := #[] }, { accessFlags := 25, nameIndex := 131, descriptorIndex := 25, attributes := #[] }, { accessFlags := 25, nameIndex := 137, descriptorIndex := 25, attributes := #[] }, { accessFlags := 25, nameIndex := 143, descriptorIndex := 25, attributes := #[] }, { accessFlags := 25, nameIndex := 53, descriptorIndex := 25, attributes := #[] }, { accessFlags := 25, nameIndex := 24, descriptorIndex := 25, attributes := #[] }, { accessFlags := 25, nameIndex := 162, descriptorIndex := 25, attributes := #[] }, { accessFlags := 25, nameIndex := 187, descriptorIndex := 25, attributes := #[] }, { accessFlags := 26, nameIndex := 48, descriptorIndex := 25, attributes := #[] }, { accessFlags := 25, nameIndex := 277, descriptorIndex := 25, attributes := #[] }, { accessFlags := 25, nameIndex := 280, descriptorIndex := 25, attributes := #[] }, { accessFlags := 25, nameIndex := 282, descriptorIndex := 25, attributes := #[] }, { accessFlags := 25, nameIndex := 284, descriptorIndex := 25, attributes := #[] }, { accessFlags := 25, nameIndex := 286, descriptorIndex := 25, attributes := #[] }, { accessFlags := 25, nameIndex := 288, descriptorIndex := 25, attributes := #[] }, { accessFlags := 25, nameIndex := 290, descriptorIndex := 25, attributes := #[] }, { accessFlags := 25, nameIndex := 292, descriptorIndex := 25, attributes := #[] }, { accessFlags := 26, nameIndex := 108, descriptorIndex := 109, attributes := #[] }, { accessFlags := 25, nameIndex := 294, descriptorIndex := 25, attributes := #[] }])
  fields := #[{ name := "U", type := (.object "jdk/internal/misc/Unsafe"), accessFlags := 24, slot := 0, constantValue := 0 }, { name := "BIG_ENDIAN", type := .boolean, accessFlags := 26, slot := 1, constantValue := 0 }, { name := "LOG2_ARRAY_BOOLEAN_INDEX_SCALE", type := .int, accessFlags := 25, slot := 2, constantValue := 0 }, { name := "LOG2_ARRAY_BYTE_INDEX_SCALE", type := .int, accessFlags := 25, slot := 3, constantValue := 0 }, { name := "LOG2_ARRAY_CHAR_INDEX_SCALE", type := .int, accessFlags := 25, slot := 4, constantValue := 0 }, { name := "LOG2_ARRAY_SHORT_INDEX_SCALE", type := .int, accessFlags := 25, slot := 5, constantValue := 0 }, { name := "LOG2_ARRAY_INT_INDEX_SCALE", type := .int, accessFlags := 25, slot := 6, constantValue := 0 }, { name := "LOG2_ARRAY_LONG_INDEX_SCALE", type := .int, accessFlags := 25, slot := 7, constantValue := 0 }, { name := "LOG2_ARRAY_FLOAT_INDEX_SCALE", type := .int, accessFlags := 25, slot := 8, constantValue := 0 }, { name := "LOG2_ARRAY_DOUBLE_INDEX_SCALE", type := .int, accessFlags := 25, slot := 9, constantValue := 0 }, { name := "LOG2_BYTE_BIT_SIZE", type := .int, accessFlags := 26, slot := 10, constantValue := 0 }, { name := "T_BOOLEAN", type := .int, accessFlags := 25, slot := 11, constantValue := 0 }, { name := "T_CHAR", type := .int, accessFlags := 25, slot := 12, constantValue := 0 }, { name := "T_FLOAT", type := .int, accessFlags := 25, slot := 13, constantValue := 0 }, { name := "T_DOUBLE", type := .int, accessFlags := 25, slot := 14, constantValue := 0 }, { name := "T_BYTE", type := .int, accessFlags := 25, slot := 15, constantValue := 0 }, { name := "T_SHORT", type := .int, accessFlags := 25, slot := 16, constantValue := 0 }, { name := "T_INT", type := .int, accessFlags := 25, slot := 17, constantValue := 0 }, { name := "T_LONG", type := .int, accessFlags := 25, slot := 18, constantValue := 0 }, { name := "JLA", type := (.object "jdk/internal/access/JavaLangAccess"), accessFlags := 26, slot := 19, constantValue := 0 }, { name := "SOFT_MAX_ARRAY_LENGTH", type := .int, accessFlags := 25, slot := 20, constantValue := 0 }]
  methods := #[k14m0]
  instanceTypes := #[]
  staticTypes := #[(.object "jdk/internal/misc/Unsafe"), .boolean, .int, .int, .int, .int, .int, .int, .int, .int, .int, .int, .int, .int, .int, .int, .int, .int, .int, (.object "jdk/internal/access/JavaLangAccess"), .int]
  resolved := Array.replicate 378 none
  statics := none }

def pool15 : Array CpInfo := pool [(1, u "java/lang/Cloneable"), (0, .class_ 1), (0, u "java/lang/Object"), (0, .class_ 3)] 3

/-- java/lang/Cloneable -/
def k15 : Class := { plain "java/lang/Cloneable" (some 0) with
  accessFlags := 1537
  interfaces := #[]
  cf := some (fileOf pool15 2 #[] #[] 1537 4 #[] #[])
  fields := #[]
  methods := #[]
  instanceTypes := #[]
  staticTypes := #[]
  resolved := Array.replicate 8 none
  statics := none }

/-- the primitive byte -/
def k16 : Class := { plain "byte" none with kind := .primitive 'B', accessFlags := 0x411 }
/-- [B -/
def k17 : Class := { plain "[B" (some 0) with kind := .array 16 .byte, interfaces := #[15, 2], accessFlags := 1041 }

/-- the primitive char -/
def k18 : Class := { plain "char" none with kind := .primitive 'C', accessFlags := 0x411 }
/-- [C -/
def k19 : Class := { plain "[C" (some 0) with kind := .array 18 .char, interfaces := #[15, 2], accessFlags := 1041 }

/-- the primitive double -/
def k20 : Class := { plain "double" none with kind := .primitive 'D', accessFlags := 0x411 }
/-- [D -/
def k21 : Class := { plain "[D" (some 0) with kind := .array 20 .double, interfaces := #[15, 2], accessFlags := 1041 }

def heap : Heap := #[{ cls := 7, slots := #[.long 0, .int 1, .null, .int 0, .null, .int 0, .int 0], vm := .statics 7 },
  { cls := 13, slots := #[.null, .null, .null], vm := .statics 13 }]
def classes : Array Class := #[k0, k1, k2, k3, k4, k5, k6, k7, k8, k9, k10, k11, k12, k13, k14, k15, k16, k17, k18, k19, k20, k21]
def interned : List (Array UInt16 × Addr) := []
def slotsUsed : Nat := 10
def theMethod : MethodId := ⟨1, 1⟩
def args0 : Array Value := #[.int 1, .int 2, .int 3, .int 7]
def aboutOver (below : List Frame) : State where
  vm := { classes := classes, interned := interned.toArray }
  heap := heap
  slotsUsed := slotsUsed
  threads := #[{ frames := .invoking theMethod args0 :: below }]
def below0 : List Frame := [.native { method := ⟨0, 0⟩, args := #[] }]
def about1 : State := aboutOver below0
def p0 : Program := .bare "" "" ""
def e0 : Env := launch0.env 0 0 0
theorem w_frames : about1.frames = Frame.invoking theMethod args0 :: below0 := rfl
set_option maxRecDepth 65536 in
theorem w_args : argsFit about1.vm theMethod args0 = true := by decide +kernel
set_option maxRecDepth 65536 in
theorem w_heap : heapFits about1 = true := by decide +kernel
set_option maxRecDepth 65536 in
theorem w_runnable : about1.curStatus? = some .runnable := by decide +kernel
set_option maxRecDepth 65536 in
theorem w_alone : about1.alone = true := by decide +kernel
set_option maxRecDepth 65536 in
theorem w_named : about1.methodNamed? x = some theMethod := by decide +kernel
set_option maxRecDepth 65536 in
theorem w_hears : about1.hears theMethod below0 = true := by decide +kernel
set_option maxRecDepth 65536 in
theorem w_ripe : about1.ripe theMethod args0 below0 = true := by decide +kernel
theorem w_running : about1.status = .running := rfl
set_option maxRecDepth 65536 in
theorem w_room : about1.hasRoom e0.platform room_1 = true :=
  launch0.hasRoom_least _ room_1 (by decide +kernel) (by decide +kernel) (by decide +kernel) (by decide +kernel) (by decide +kernel) (by decide +kernel)
theorem allAtoms_all (ts : List Jvm.Cond) (a : Array Jvm.Value) (st : Jvm.State) : (allAtoms ts).before a st = ts.all (fun c => c.before a st) := by
  induction ts with
  | nil => rfl
  | cons c t ih =>
    show (Jvm.Cond.and c (allAtoms t)).before a st = _
    rw [Jvm.Cond.before_and, ih, List.all_cons]
def words1 : List Jvm.Cond := Jvm.Cond.code x code maxLocals ret :: tables_1
/-- a 'code' word, met by the world's own term for the bytes: nothing is compared byte by byte -/
theorem code_word {y : MethodName} {bytes : ByteArray} {mx : Nat} {rt : Option FieldType} {a : Array Value} {s : State} {m : MethodId} {meth : Method} {c : Code} (h1 : s.methodNamed? y = some m) (h2 : s.vm.method? m = some meth) (h3 : meth.code = some c) (h4 : c.code = bytes)
    (h5 : (c.maxLocals == mx && c.exceptionTable.isEmpty && decide (c.maxStack ≤ mostOperands) && decide (meth.sig.returnType = rt) && !meth.locks && decide (parseMethodDescriptor y.desc = some meth.sig)) = true) : (Jvm.Cond.code y bytes mx rt).before a s = true := by
  simp only [Bool.and_eq_true, beq_iff_eq, Bool.not_eq_true', decide_eq_true_eq] at h5
  obtain ⟨⟨⟨⟨⟨g1, g2⟩, g3⟩, g4⟩, g5⟩, g6⟩ := h5
  simp [Cond.before, Cond.holds, Cond.value, h1, h2, h3, h4, g1, g2, g3, g4, g5, g6]
def isCode : Jvm.Cond → Bool
  | .code _ _ _ _ => true
  | _ => false
theorem all_split {L : List Jvm.Cond} {P : Jvm.Cond → Bool} (h1 : L.all (fun c => isCode c || P c) = true) (h2 : ∀ c ∈ L.filter isCode, P c = true) : L.all P = true := by
  refine List.all_eq_true.mpr fun c hc => ?_
  have h := List.all_eq_true.mp h1 c hc
  rcases Bool.eq_false_or_eq_true (isCode c) with hi | hi
  · exact h2 c (List.mem_filter.mpr ⟨hc, hi⟩)
  · simpa [hi] using h
set_option maxRecDepth 65536 in
theorem w_c0 : (Jvm.Cond.code x code maxLocals ret).before args0 about1 = true := code_word (m := ⟨1, 1⟩) (meth := k1m1) (c := k1c1) (by decide +kernel) rfl rfl rfl (by decide +kernel)
set_option maxRecDepth 65536 in
theorem w_c1 : (Jvm.Cond.code ({ cls := "java/lang/String", name := "<init>", desc := "([C)V" } : Jvm.MethodName) jdk_42_method_3_code (2 : Nat) (Option.none : Option Jvm.ClassFile.FieldType)).before args0 about1 = true := code_word (m := ⟨7, 1⟩) (meth := k7m1) (c := k7c1) (by decide +kernel) rfl rfl rfl (by decide +kernel)
set_option maxRecDepth 65536 in
theorem w_c2 : (Jvm.Cond.code ({ cls := "java/lang/String", name := "<init>", desc := "([CIILjava/lang/Void;)V" } : Jvm.MethodName) jdk_42_method_149_code (6 : Nat) (Option.none : Option Jvm.ClassFile.FieldType)).before args0 about1 = true := code_word (m := ⟨7, 3⟩) (meth := k7m3) (c := k7c3) (by decide +kernel) rfl rfl rfl (by decide +kernel)
set_option maxRecDepth 65536 in
theorem w_c3 : (Jvm.Cond.code ({ cls := "java/lang/Object", name := "<init>", desc := "()V" } : Jvm.MethodName) object_method_1_code (1 : Nat) (Option.none : Option Jvm.ClassFile.FieldType)).before args0 about1 = true := code_word (m := ⟨0, 0⟩) (meth := k0m0) (c := k0c0) (by decide +kernel) rfl rfl rfl (by decide +kernel)
set_option maxRecDepth 65536 in
theorem w_c4 : (Jvm.Cond.code ({ cls := "java/lang/StringUTF16", name := "compress", desc := "([CII)[B" } : Jvm.MethodName) jdk_52_method_16_code (6 : Nat) (Option.some (Jvm.ClassFile.FieldType.array Jvm.ClassFile.FieldType.byte))).before args0 about1 = true := code_word (m := ⟨8, 2⟩) (meth := k8m2) (c := k8c2) (by decide +kernel) rfl rfl rfl (by decide +kernel)
set_option maxRecDepth 65536 in
theorem w_c5 : (Jvm.Cond.code ({ cls := "java/lang/StringUTF16", name := "compress", desc := "([CI[BII)I" } : Jvm.MethodName) jdk_52_method_21_code (7 : Nat) (Option.some Jvm.ClassFile.FieldType.int)).before args0 about1 = true := code_word (m := ⟨8, 3⟩) (meth := k8m3) (c := k8c3) (by decide +kernel) rfl rfl rfl (by decide +kernel)
set_option maxRecDepth 65536 in
theorem w_c6 : (Jvm.Cond.code ({ cls := "java/lang/StringUTF16", name := "coderFromArrayLen", desc := "([BI)B" } : Jvm.MethodName) jdk_52_method_15_code (2 : Nat) (Option.some Jvm.ClassFile.FieldType.byte)).before args0 about1 = true := code_word (m := ⟨8, 1⟩) (meth := k8m1) (c := k8c1) (by decide +kernel) rfl rfl rfl (by decide +kernel)
set_option maxRecDepth 65536 in
theorem w_c7 : (Jvm.Cond.code ({ cls := "com/example/handpick/handpick/ScoringColumn", name := "<init>", desc := "(Ljava/lang/String;Z)V" } : Jvm.MethodName) prog_85_method_1_code (3 : Nat) (Option.none : Option Jvm.ClassFile.FieldType)).before args0 about1 = true := code_word (m := ⟨10, 0⟩) (meth := k10m0) (c := k10c0) (by decide +kernel) rfl rfl rfl (by decide +kernel)
set_option maxRecDepth 65536 in
theorem w_c8 : (Jvm.Cond.code ({ cls := "java/lang/Record", name := "<init>", desc := "()V" } : Jvm.MethodName) jdk_30_method_1_code (1 : Nat) (Option.none : Option Jvm.ClassFile.FieldType)).before args0 about1 = true := code_word (m := ⟨9, 0⟩) (meth := k9m0) (c := k9c0) (by decide +kernel) rfl rfl rfl (by decide +kernel)
set_option maxRecDepth 65536 in
theorem w_c9 : (Jvm.Cond.code ({ cls := "java/util/Objects", name := "requireNonNull", desc := "(Ljava/lang/Object;Ljava/lang/String;)Ljava/lang/Object;" } : Jvm.MethodName) jdk_31_method_11_code (2 : Nat) (Option.some (Jvm.ClassFile.FieldType.object "java/lang/Object"))).before args0 about1 = true := code_word (m := ⟨11, 1⟩) (meth := k11m1) (c := k11c1) (by decide +kernel) rfl rfl rfl (by decide +kernel)
set_option maxRecDepth 65536 in
theorem w_c10 : (Jvm.Cond.code ({ cls := "java/lang/String", name := "isEmpty", desc := "()Z" } : Jvm.MethodName) jdk_42_method_55_code (1 : Nat) (Option.some Jvm.ClassFile.FieldType.boolean)).before args0 about1 = true := code_word (m := ⟨7, 2⟩) (meth := k7m2) (c := k7c2) (by decide +kernel) rfl rfl rfl (by decide +kernel)
set_option maxRecDepth 65536 in
theorem w_c11 : (Jvm.Cond.code ({ cls := "com/example/handpick/handpick/ScoringColumn", name := "orient", desc := "([D)[D" } : Jvm.MethodName) prog_85_method_4_code (4 : Nat) (Option.some (Jvm.ClassFile.FieldType.array Jvm.ClassFile.FieldType.double))).before args0 about1 = true := code_word (m := ⟨10, 1⟩) (meth := k10m1) (c := k10c1) (by decide +kernel) rfl rfl rfl (by decide +kernel)
set_option maxRecDepth 65536 in
theorem w_c12 : (Jvm.Cond.code ({ cls := "com/example/handpick/handpick/ScoringColumnOrientPinLaw", name := "ok", desc := "(DDIZ)Z" } : Jvm.MethodName) method_3_code (8 : Nat) (Option.some Jvm.ClassFile.FieldType.boolean)).before args0 about1 = true := code_word (m := ⟨1, 2⟩) (meth := k1m2) (c := k1c2) (by decide +kernel) rfl rfl rfl (by decide +kernel)
def codes1 : List Jvm.Cond := [Jvm.Cond.code x code maxLocals ret, Jvm.Cond.code ({ cls := "java/lang/String", name := "<init>", desc := "([C)V" } : Jvm.MethodName) jdk_42_method_3_code (2 : Nat) (Option.none : Option Jvm.ClassFile.FieldType), Jvm.Cond.code ({ cls := "java/lang/String", name := "<init>", desc := "([CIILjava/lang/Void;)V" } : Jvm.MethodName) jdk_42_method_149_code (6 : Nat) (Option.none : Option Jvm.ClassFile.FieldType), Jvm.Cond.code ({ cls := "java/lang/Object", name := "<init>", desc := "()V" } : Jvm.MethodName) object_method_1_code (1 : Nat) (Option.none : Option Jvm.ClassFile.FieldType), Jvm.Cond.code ({ cls := "java/lang/StringUTF16", name := "compress", desc := "([CII)[B" } : Jvm.MethodName) jdk_52_method_16_code (6 : Nat) (Option.some (Jvm.ClassFile.FieldType.array Jvm.ClassFile.FieldType.byte)), Jvm.Cond.code ({ cls := "java/lang/StringUTF16", name := "compress", desc := "([CI[BII)I" } : Jvm.MethodName) jdk_52_method_21_code (7 : Nat) (Option.some Jvm.ClassFile.FieldType.int), Jvm.Cond.code ({ cls := "java/lang/StringUTF16", name := "coderFromArrayLen", desc := "([BI)B" } : Jvm.MethodName) jdk_52_method_15_code (2 : Nat) (Option.some Jvm.ClassFile.FieldType.byte), Jvm.Cond.code ({ cls := "com/example/handpick/handpick/ScoringColumn", name := "<init>", desc := "(Ljava/lang/String;Z)V" } : Jvm.MethodName) prog_85_method_1_code (3 : Nat) (Option.none : Option Jvm.ClassFile.FieldType), Jvm.Cond.code ({ cls := "java/lang/Record", name := "<init>", desc := "()V" } : Jvm.MethodName) jdk_30_method_1_code (1 : Nat) (Option.none : Option Jvm.ClassFile.FieldType), Jvm.Cond.code ({ cls := "java/util/Objects", name := "requireNonNull", desc := "(Ljava/lang/Object;Ljava/lang/String;)Ljava/lang/Object;" } : Jvm.MethodName) jdk_31_method_11_code (2 : Nat) (Option.some (Jvm.ClassFile.FieldType.object "java/lang/Object")), Jvm.Cond.code ({ cls := "java/lang/String", name := "isEmpty", desc := "()Z" } : Jvm.MethodName) jdk_42_method_55_code (1 : Nat) (Option.some Jvm.ClassFile.FieldType.boolean), Jvm.Cond.code ({ cls := "com/example/handpick/handpick/ScoringColumn", name := "orient", desc := "([D)[D" } : Jvm.MethodName) prog_85_method_4_code (4 : Nat) (Option.some (Jvm.ClassFile.FieldType.array Jvm.ClassFile.FieldType.double)), Jvm.Cond.code ({ cls := "com/example/handpick/handpick/ScoringColumnOrientPinLaw", name := "ok", desc := "(DDIZ)Z" } : Jvm.MethodName) method_3_code (8 : Nat) (Option.some Jvm.ClassFile.FieldType.boolean)]
set_option maxRecDepth 65536 in
theorem codes_eq : words1.filter isCode = codes1 := rfl
theorem w_codes : ∀ c ∈ words1.filter isCode, c.before args0 about1 = true := by
  rw [codes_eq]
  intro c hc
  simp only [codes1, List.mem_cons, List.not_mem_nil, or_false] at hc
  rcases hc with rfl | rfl | rfl | rfl | rfl | rfl | rfl | rfl | rfl | rfl | rfl | rfl | rfl
  · exact w_c0
  · exact w_c1
  · exact w_c2
  · exact w_c3
  · exact w_c4
  · exact w_c5
  · exact w_c6
  · exact w_c7
  · exact w_c8
  · exact w_c9
  · exact w_c10
  · exact w_c11
  · exact w_c12
set_option maxRecDepth 65536 in
theorem w_t1 : (words1.take 24).all (fun c => isCode c || c.before args0 about1) = true := by decide +kernel
set_option maxRecDepth 65536 in
theorem w_t2 : ((words1.drop 24).take 24).all (fun c => isCode c || c.before args0 about1) = true := by decide +kernel
set_option maxRecDepth 65536 in
theorem w_t3 : ((words1.drop 24).drop 24).all (fun c => isCode c || c.before args0 about1) = true := by decide +kernel
theorem w_tables : (allAtoms (Jvm.Cond.code x code maxLocals ret :: tables_1)).before args0 about1 = true := by
  rw [allAtoms_all]
  show words1.all (fun c => c.before args0 about1) = true
  refine all_split ?_ w_codes
  rw [← List.take_append_drop 24 words1, List.all_append, w_t1, ← List.take_append_drop 24 (words1.drop 24), List.all_append, w_t2, w_t3]
  rfl
set_option maxRecDepth 65536 in
theorem w_rest : rest_1_c.before args0 about1 = true := by decide +kernel
set_option maxRecDepth 65536 in
theorem w_case : (Jvm.Cond.and given_1 narrow_1).before args0 about1 = true := by decide +kernel
theorem w_applies : (headSpec (Jvm.Cond.code x code maxLocals ret :: tables_1) room_1).applies x e0.platform about1 = true :=
  (Spec.applies_iff w_frames).mpr ⟨w_running, w_runnable, w_alone, w_named, w_hears, w_ripe, w_room, w_tables⟩
theorem atStart : AtStart classFile x code maxLocals ret World_1 tables_1 room_1 Calls_1 rest_1 Pre_1 launch0 p0 e0 about1 theMethod args0 below0 :=
  ⟨lists_1, trivial, launch0.admits_env _ _ _, launch0.least_env, fairChoices_fair.cas, fairChoices_fair.clock, w_frames, w_args, w_heap, w_applies, trivial, w_rest, w_case⟩
end start1
theorem witness_1 : WitnessClaimed_1 := ⟨start1.p0, start1.e0, start1.about1, start1.theMethod, start1.args0, start1.below0, start1.atStart⟩
end Jvm.Pilot.@@N@@
