import JvmDerived
import JvmDerived.Pilot.@@N@@Statement
import JvmDerived.Pilot.@@N@@Code
set_option linter.unusedVariables false
set_option linter.unusedSimpArgs false
namespace Jvm.OwnGo
open Sem ClassFile Op Lib Jvm.Stand Jvm.Free Jvm.LawKit Jvm.RoadKit
/-- the context of one walk: program, launch, environment, room, start, method, arguments, frames below, the method's record, its code, the tables' state, the words' arguments, the first new address -/
abbrev Cx : Type := Program × Launch × Env × Room × State × MethodId × Array Value × List Frame × Method × Code × State × Array Value × Nat × (Outcome → State → List Loc → Prop) × Nat × State
abbrev Cx.p (κ : Cx) : Program := κ.1
abbrev Cx.l (κ : Cx) : Launch := κ.2.1
abbrev Cx.e (κ : Cx) : Env := κ.2.2.1
abbrev Cx.R (κ : Cx) : Room := κ.2.2.2.1
abbrev Cx.s (κ : Cx) : State := κ.2.2.2.2.1
abbrev Cx.m (κ : Cx) : MethodId := κ.2.2.2.2.2.1
abbrev Cx.args (κ : Cx) : Array Value := κ.2.2.2.2.2.2.1
abbrev Cx.below (κ : Cx) : List Frame := κ.2.2.2.2.2.2.2.1
abbrev Cx.meth (κ : Cx) : Method := κ.2.2.2.2.2.2.2.2.1
abbrev Cx.c (κ : Cx) : Code := κ.2.2.2.2.2.2.2.2.2.1
abbrev Cx.Z (κ : Cx) : State := κ.2.2.2.2.2.2.2.2.2.2.1
abbrev Cx.a0 (κ : Cx) : Array Value := κ.2.2.2.2.2.2.2.2.2.2.2.1
abbrev Cx.n0 (κ : Cx) : Nat := κ.2.2.2.2.2.2.2.2.2.2.2.2.1
abbrev Cx.E (κ : Cx) : Outcome → State → List Loc → Prop := κ.2.2.2.2.2.2.2.2.2.2.2.2.2.1
abbrev Cx.kmin (κ : Cx) : Nat := κ.2.2.2.2.2.2.2.2.2.2.2.2.2.2.1
abbrev Cx.s0 (κ : Cx) : State := κ.2.2.2.2.2.2.2.2.2.2.2.2.2.2.2
/-- what is known of the context throughout the walk of a body -/
def OkK (km : Nat) (κ : Cx) (l : Launch) (Z : State) (a0 : Array Value) (n0 : Nat) (R : Room) (own nm : String) (bytes : ByteArray) (maxL : Nat) (ret : Option FieldType) : Prop :=
  κ.p.tables.exec = Jvm.exec ∧ κ.c.code = bytes ∧ κ.c.maxLocals = maxL ∧ κ.Z.Warmed39 κ.s.vm ∧ κ.s.vm.findClass own = some κ.m.cls ∧ κ.meth.sig.returnType = ret ∧ κ.meth.locks = false ∧ κ.meth.name = nm ∧ κ.l = l ∧ κ.Z = Z ∧ κ.a0 = a0 ∧ κ.n0 = n0 ∧ κ.R = R ∧ κ.kmin = km ∧ (∀ o t L, FrameEnd κ.s o t L κ.R.cells κ.R.slots → κ.kmin ≤ t.heap.size → κ.E o t L)
abbrev Ok (κ : Cx) (l : Launch) (Z : State) (a0 : Array Value) (n0 : Nat) (R : Room) (own nm : String) (bytes : ByteArray) (maxL : Nat) (ret : Option FieldType) : Prop := OkK 0 κ l Z a0 n0 R own nm bytes maxL ret
section B
variable {km : Nat} {κ : Cx} {l : Launch} {Z : State} {a0 : Array Value} {n0 : Nat} {R : Room} {own nm : String} {bytes : ByteArray} {maxL : Nat} {ret : Option FieldType}
theorem OkK.exec (B : OkK km κ l Z a0 n0 R own nm bytes maxL ret) : κ.p.tables.exec = Jvm.exec := B.1
theorem OkK.byt (B : OkK km κ l Z a0 n0 R own nm bytes maxL ret) : κ.c.code = bytes := B.2.1
theorem OkK.mxl (B : OkK km κ l Z a0 n0 R own nm bytes maxL ret) : κ.c.maxLocals = maxL := B.2.2.1
theorem OkK.warm (B : OkK km κ l Z a0 n0 R own nm bytes maxL ret) : Z.Warmed39 κ.s.vm := B.2.2.2.2.2.2.2.2.2.1 ▸ B.2.2.2.1
theorem OkK.hown (B : OkK km κ l Z a0 n0 R own nm bytes maxL ret) : κ.s.vm.findClass own = some κ.m.cls := B.2.2.2.2.1
theorem OkK.rets (B : OkK km κ l Z a0 n0 R own nm bytes maxL ret) : κ.meth.sig.returnType = ret := B.2.2.2.2.2.1
theorem OkK.nolock (B : OkK km κ l Z a0 n0 R own nm bytes maxL ret) : κ.meth.locks = false := B.2.2.2.2.2.2.1
theorem OkK.name (B : OkK km κ l Z a0 n0 R own nm bytes maxL ret) : κ.meth.name = nm := B.2.2.2.2.2.2.2.1
theorem OkK.hl (B : OkK km κ l Z a0 n0 R own nm bytes maxL ret) : κ.l = l := B.2.2.2.2.2.2.2.2.1
theorem OkK.hn (B : OkK km κ l Z a0 n0 R own nm bytes maxL ret) : κ.n0 = n0 := B.2.2.2.2.2.2.2.2.2.2.2.1
theorem OkK.room (B : OkK km κ l Z a0 n0 R own nm bytes maxL ret) : κ.R = R := B.2.2.2.2.2.2.2.2.2.2.2.2.1
theorem OkK.hkm (B : OkK km κ l Z a0 n0 R own nm bytes maxL ret) : κ.kmin = km := B.2.2.2.2.2.2.2.2.2.2.2.2.2.1
theorem OkK.hE (B : OkK km κ l Z a0 n0 R own nm bytes maxL ret) : ∀ o t L, FrameEnd κ.s o t L κ.R.cells κ.R.slots → κ.kmin ≤ t.heap.size → κ.E o t L := B.2.2.2.2.2.2.2.2.2.2.2.2.2.2
end B
/-- FROM HERE THE RUN ENDS AS Q SAYS: heap h, k cells and n slots made so far, the frame at pc with locals L and operands st -/
def Go (κ : Cx) (Q : Option Value → Heap → Prop) (h : Heap) (k n pc : Nat) (L : Array Slot) (st : List Value) : Prop :=
  ∀ (T : State) (locs : List Loc), Stand κ.p κ.l κ.e κ.R κ.s κ.m κ.args κ.below κ.meth κ.c T locs k n → Fr κ.n0 locs → T.heap = h →
    ∃ t o, Steps κ.p.tables κ.e κ.below (T.setTop (mkF κ.m pc L st)) t ∧ t.status = .running ∧ Ended t κ.below o ∧ ∃ v L', o = .returned v ∧ (Q v t.heap ∧ Fr κ.n0 L') ∧ κ.E o t L'
/-- a decode fact with the next pc -/
def Dc (bytes : ByteArray) (pc : Nat) (i : Instr) (len pc' : Nat) : Prop := decode bytes pc = .ok (i, len) ∧ pc + len = pc'
/-- a branch's decode fact: the pc behind it, the pc that it goes to -/
def Db (bytes : ByteArray) (pc : Nat) (i : Instr) (o : Int) (pc1 pc2 : Nat) : Prop := decode bytes pc = .ok (i, 3) ∧ pc + 3 = pc1 ∧ (pc : Int) + o = (pc2 : Int)
/-- a body's contract: with these arguments at this heap it ends as Q says -/
def Ct (l : Launch) (Z : State) (n0 : Nat) (y : MethodName) (bytes : ByteArray) (maxL : Nat) (ret : Option FieldType) (ws : List Jvm.Cond) (rm : Room) (as' : Array Value) (h0 : Heap) (Q : Option Value → Heap → Prop) : Prop :=
  MetFree l y (head1 (Jvm.Cond.code y bytes maxL ret :: ws) rm) (fun a U => a = as' ∧ Z.Warmed39 U.vm ∧ U.heap = h0) (fun _ _ _ _ _ => True) (fun _ U o U' => ∃ v L, o = .returned v ∧ (Q v U'.heap ∧ Fr n0 L) ∧ FrameEnd U o U' L rm.cells rm.slots)
theorem Ct.of {l : Launch} {Z : State} {a0 : Array Value} {n0 : Nat} {y : MethodName} {bytes : ByteArray} {maxL : Nat} {ret : Option FieldType} {ws : List Jvm.Cond} {rm : Room} {as' : Array Value} {h0 : Heap} {Q : Option Value → Heap → Prop} {L0 : Array Slot}
    (hp : plainFor y = true) (hf : ∀ m : MethodId, entryFrame m as' maxL = mkF m 0 L0 [])
    (body : ∀ κ : Cx, Ok κ l Z a0 n0 rm y.cls y.name bytes maxL ret → Go κ Q h0 0 0 0 L0 []) : Ct l Z n0 y bytes maxL ret ws rm as' h0 Q := by
  refine MetFree.of_bodySF hp hisR ?_
  intro p e s m args below meth c s₁ Bd hml0 hP hK
  obtain ⟨rfl, hZ, hh⟩ := hP
  have hown : s.vm.findClass y.cls = some m.cls := findClass_of_methodNamed Bd.named
  have hnm := (name_of_methodNamed Bd.named Bd.method).1
  have X0 : Stand p l e rm s m args below meth c s₁ [] 0 0 := Stand.of_body Bd
  have e0 : s₁.heap = h0 := by rw [← hh, Bd.state]; rfl
  have q := body (p, l, e, rm, s, m, args, below, meth, c, Z, a0, n0, fun o t L => FrameEnd s o t L rm.cells rm.slots, 0, s) ⟨Bd.exec, Bd.bytes, hml0, hZ, hown, Bd.returns, Bd.notSynchronized, hnm, rfl, rfl, rfl, rfl, rfl, rfl, fun _ _ _ q _ => q⟩ s₁ [] X0 (Fr.nil n0) e0
  obtain ⟨t, o, h1, h2, h3, h4⟩ := q
  exact ⟨t, o, castTop (hf m) h1, h2, h3, h4⟩
section G
variable {km : Nat} {κ : Cx} {l : Launch} {Z : State} {a0 : Array Value} {n0 : Nat} {R : Room} {own nm : String} {bytes : ByteArray} {maxL : Nat} {ret : Option FieldType} {Q : Option Value → Heap → Prop} {h : Heap} {k n pc pc' pc1 pc2 : Nat} {L L' : Array Slot} {st st' : List Value} {o : Int} {x y : Int32} {u w : Int64} {a : Addr} {v v' : Value}
theorem go_step (hs : ∀ (T : State) (locs : List Loc), Stand κ.p κ.l κ.e κ.R κ.s κ.m κ.args κ.below κ.meth κ.c T locs k n → T.heap = h → ∀ target, Steps κ.p.tables κ.e κ.below (T.setTop (mkF κ.m pc' L' st')) target → Steps κ.p.tables κ.e κ.below (T.setTop (mkF κ.m pc L st)) target)
    (g : Go κ Q h k n pc' L' st') : Go κ Q h k n pc L st := fun T locs X N e => by
  obtain ⟨t, o, h1, h2⟩ := g T locs X N e
  exact ⟨t, o, hs T locs X e t h1, h2⟩
theorem go_cast {h' : Heap} {k' n' : Nat} (g : Go κ Q h' k' n' pc' L' st') (e1 : h' = h) (e2 : k' = k) (e3 : n' = n) (e4 : pc' = pc) (e5 : L' = L) (e6 : st' = st) : Go κ Q h k n pc L st := by
  subst e1 e2 e3 e4 e5 e6; exact g
theorem go_mono {Q' : Option Value → Heap → Prop} (g : Go κ Q h k n pc L st) (q : ∀ v h', Q v h' → Q' v h') : Go κ Q' h k n pc L st := fun T locs X N e => by
  obtain ⟨t, o, h1, h2, h3, v, L', h4, ⟨h5, h6⟩, h7⟩ := g T locs X N e
  exact ⟨t, o, h1, h2, h3, v, L', h4, ⟨q _ _ h5, h6⟩, h7⟩
theorem go_iadd (B : OkK km κ l Z a0 n0 R own nm bytes maxL ret) (hd : Dc bytes pc (.iadd) 1 pc') (g : Go κ Q h k n pc' L (.int (x + y) :: st)) : Go κ Q h k n pc L (.int y :: .int x :: st) := by
  obtain ⟨d, rfl⟩ := hd
  exact go_step (fun T locs X e t q => XS.iadd X.here B.exec rfl (hb B.byt d) rfl q) g
theorem go_isub (B : OkK km κ l Z a0 n0 R own nm bytes maxL ret) (hd : Dc bytes pc (.isub) 1 pc') (g : Go κ Q h k n pc' L (.int (x - y) :: st)) : Go κ Q h k n pc L (.int y :: .int x :: st) := by
  obtain ⟨d, rfl⟩ := hd
  exact go_step (fun T locs X e t q => XS.isub X.here B.exec rfl (hb B.byt d) rfl q) g
theorem go_iand (B : OkK km κ l Z a0 n0 R own nm bytes maxL ret) (hd : Dc bytes pc (.iand) 1 pc') (g : Go κ Q h k n pc' L (.int (x &&& y) :: st)) : Go κ Q h k n pc L (.int y :: .int x :: st) := by
  obtain ⟨d, rfl⟩ := hd
  exact go_step (fun T locs X e t q => XS.iand X.here B.exec rfl (hb B.byt d) rfl q) g
theorem go_imul (B : OkK km κ l Z a0 n0 R own nm bytes maxL ret) (hd : Dc bytes pc (.imul) 1 pc') (g : Go κ Q h k n pc' L (.int (x * y) :: st)) : Go κ Q h k n pc L (.int y :: .int x :: st) := by
  obtain ⟨d, rfl⟩ := hd
  exact go_step (fun T locs X e t q => XS.imul X.here B.exec rfl (hb B.byt d) rfl q) g
theorem go_ixor (B : OkK km κ l Z a0 n0 R own nm bytes maxL ret) (hd : Dc bytes pc (.ixor) 1 pc') (g : Go κ Q h k n pc' L (.int (x ^^^ y) :: st)) : Go κ Q h k n pc L (.int y :: .int x :: st) := by
  obtain ⟨d, rfl⟩ := hd
  exact go_step (fun T locs X e t q => XT.ixor X.here B.exec rfl (hb B.byt d) rfl q) g
theorem go_ior (B : OkK km κ l Z a0 n0 R own nm bytes maxL ret) (hd : Dc bytes pc (.ior) 1 pc') (g : Go κ Q h k n pc' L (.int (x ||| y) :: st)) : Go κ Q h k n pc L (.int y :: .int x :: st) := by
  obtain ⟨d, rfl⟩ := hd
  exact go_step (fun T locs X e t q => XT.ior X.here B.exec rfl (hb B.byt d) rfl q) g
theorem go_ishl (B : OkK km κ l Z a0 n0 R own nm bytes maxL ret) (hd : Dc bytes pc (.ishl) 1 pc') (g : Go κ Q h k n pc' L (.int (x <<< (y &&& 31)) :: st)) : Go κ Q h k n pc L (.int y :: .int x :: st) := by
  obtain ⟨d, rfl⟩ := hd
  exact go_step (fun T locs X e t q => XT.ishl X.here B.exec rfl (hb B.byt d) rfl q) g
theorem go_ishr (B : OkK km κ l Z a0 n0 R own nm bytes maxL ret) (hd : Dc bytes pc (.ishr) 1 pc') (g : Go κ Q h k n pc' L (.int (x >>> (y &&& 31)) :: st)) : Go κ Q h k n pc L (.int y :: .int x :: st) := by
  obtain ⟨d, rfl⟩ := hd
  exact go_step (fun T locs X e t q => XT.ishr X.here B.exec rfl (hb B.byt d) rfl q) g
theorem go_iushr (B : OkK km κ l Z a0 n0 R own nm bytes maxL ret) (hd : Dc bytes pc (.iushr) 1 pc') (g : Go κ Q h k n pc' L (.int (XT.ushr x y) :: st)) : Go κ Q h k n pc L (.int y :: .int x :: st) := by
  obtain ⟨d, rfl⟩ := hd
  exact go_step (fun T locs X e t q => XT.iushr X.here B.exec rfl (hb B.byt d) rfl q) g
theorem go_idiv (B : OkK km κ l Z a0 n0 R own nm bytes maxL ret) (hd : Dc bytes pc (.idiv) 1 pc') (hy : y ≠ 0) (g : Go κ Q h k n pc' L (.int (x / y) :: st)) : Go κ Q h k n pc L (.int y :: .int x :: st) := by
  obtain ⟨d, rfl⟩ := hd
  exact go_step (fun T locs X e t q => XS.idiv X.here B.exec rfl (hb B.byt d) rfl hy q) g
theorem go_irem (B : OkK km κ l Z a0 n0 R own nm bytes maxL ret) (hd : Dc bytes pc (.irem) 1 pc') (hy : y ≠ 0) (g : Go κ Q h k n pc' L (.int (x % y) :: st)) : Go κ Q h k n pc L (.int y :: .int x :: st) := by
  obtain ⟨d, rfl⟩ := hd
  exact go_step (fun T locs X e t q => iremM X B.exec rfl (hb B.byt d) rfl hy q) g
theorem go_ineg (B : OkK km κ l Z a0 n0 R own nm bytes maxL ret) (hd : Dc bytes pc (.ineg) 1 pc') (g : Go κ Q h k n pc' L (.int (-x) :: st)) : Go κ Q h k n pc L (.int x :: st) := by
  obtain ⟨d, rfl⟩ := hd
  exact go_step (fun T locs X e t q => XS.ineg X.here B.exec rfl (hb B.byt d) rfl q) g
theorem go_ladd (B : OkK km κ l Z a0 n0 R own nm bytes maxL ret) (hd : Dc bytes pc (.ladd) 1 pc') (g : Go κ Q h k n pc' L (.long (u + w) :: st)) : Go κ Q h k n pc L (.long w :: .long u :: st) := by
  obtain ⟨d, rfl⟩ := hd
  exact go_step (fun T locs X e t q => XT.ladd X.here B.exec rfl (hb B.byt d) rfl q) g
theorem go_lsub (B : OkK km κ l Z a0 n0 R own nm bytes maxL ret) (hd : Dc bytes pc (.lsub) 1 pc') (g : Go κ Q h k n pc' L (.long (u - w) :: st)) : Go κ Q h k n pc L (.long w :: .long u :: st) := by
  obtain ⟨d, rfl⟩ := hd
  exact go_step (fun T locs X e t q => XT.lsub X.here B.exec rfl (hb B.byt d) rfl q) g
theorem go_lmul (B : OkK km κ l Z a0 n0 R own nm bytes maxL ret) (hd : Dc bytes pc (.lmul) 1 pc') (g : Go κ Q h k n pc' L (.long (u * w) :: st)) : Go κ Q h k n pc L (.long w :: .long u :: st) := by
  obtain ⟨d, rfl⟩ := hd
  exact go_step (fun T locs X e t q => XT.lmul X.here B.exec rfl (hb B.byt d) rfl q) g
theorem go_land (B : OkK km κ l Z a0 n0 R own nm bytes maxL ret) (hd : Dc bytes pc (.land) 1 pc') (g : Go κ Q h k n pc' L (.long (u &&& w) :: st)) : Go κ Q h k n pc L (.long w :: .long u :: st) := by
  obtain ⟨d, rfl⟩ := hd
  exact go_step (fun T locs X e t q => XT.land X.here B.exec rfl (hb B.byt d) rfl q) g
theorem go_lor (B : OkK km κ l Z a0 n0 R own nm bytes maxL ret) (hd : Dc bytes pc (.lor) 1 pc') (g : Go κ Q h k n pc' L (.long (u ||| w) :: st)) : Go κ Q h k n pc L (.long w :: .long u :: st) := by
  obtain ⟨d, rfl⟩ := hd
  exact go_step (fun T locs X e t q => XT.lor X.here B.exec rfl (hb B.byt d) rfl q) g
theorem go_lxor (B : OkK km κ l Z a0 n0 R own nm bytes maxL ret) (hd : Dc bytes pc (.lxor) 1 pc') (g : Go κ Q h k n pc' L (.long (u ^^^ w) :: st)) : Go κ Q h k n pc L (.long w :: .long u :: st) := by
  obtain ⟨d, rfl⟩ := hd
  exact go_step (fun T locs X e t q => XT.lxor X.here B.exec rfl (hb B.byt d) rfl q) g
theorem go_ldiv (B : OkK km κ l Z a0 n0 R own nm bytes maxL ret) (hd : Dc bytes pc (.ldiv) 1 pc') (hy : w ≠ 0) (g : Go κ Q h k n pc' L (.long (u / w) :: st)) : Go κ Q h k n pc L (.long w :: .long u :: st) := by
  obtain ⟨d, rfl⟩ := hd
  exact go_step (fun T locs X e t q => XT.ldiv X.here B.exec rfl (hb B.byt d) rfl hy q) g
theorem go_lrem (B : OkK km κ l Z a0 n0 R own nm bytes maxL ret) (hd : Dc bytes pc (.lrem) 1 pc') (hy : w ≠ 0) (g : Go κ Q h k n pc' L (.long (u - (u / w) * w) :: st)) : Go κ Q h k n pc L (.long w :: .long u :: st) := by
  obtain ⟨d, rfl⟩ := hd
  exact go_step (fun T locs X e t q => XT.lrem X.here B.exec rfl (hb B.byt d) rfl hy q) g
theorem go_lshl (B : OkK km κ l Z a0 n0 R own nm bytes maxL ret) (hd : Dc bytes pc (.lshl) 1 pc') (g : Go κ Q h k n pc' L (.long (u <<< (y.toInt64 &&& 63)) :: st)) : Go κ Q h k n pc L (.int y :: .long u :: st) := by
  obtain ⟨d, rfl⟩ := hd
  exact go_step (fun T locs X e t q => XT.lshl X.here B.exec rfl (hb B.byt d) rfl q) g
theorem go_lshr (B : OkK km κ l Z a0 n0 R own nm bytes maxL ret) (hd : Dc bytes pc (.lshr) 1 pc') (g : Go κ Q h k n pc' L (.long (u >>> (y.toInt64 &&& 63)) :: st)) : Go κ Q h k n pc L (.int y :: .long u :: st) := by
  obtain ⟨d, rfl⟩ := hd
  exact go_step (fun T locs X e t q => XT.lshr X.here B.exec rfl (hb B.byt d) rfl q) g
theorem go_lushr (B : OkK km κ l Z a0 n0 R own nm bytes maxL ret) (hd : Dc bytes pc (.lushr) 1 pc') (g : Go κ Q h k n pc' L (.long (XT.ushrL u y) :: st)) : Go κ Q h k n pc L (.int y :: .long u :: st) := by
  obtain ⟨d, rfl⟩ := hd
  exact go_step (fun T locs X e t q => XT.lushr X.here B.exec rfl (hb B.byt d) rfl q) g
theorem go_lneg (B : OkK km κ l Z a0 n0 R own nm bytes maxL ret) (hd : Dc bytes pc (.lneg) 1 pc') (g : Go κ Q h k n pc' L (.long (-u) :: st)) : Go κ Q h k n pc L (.long u :: st) := by
  obtain ⟨d, rfl⟩ := hd
  exact go_step (fun T locs X e t q => XT.lneg X.here B.exec rfl (hb B.byt d) rfl q) g
theorem go_i2l (B : OkK km κ l Z a0 n0 R own nm bytes maxL ret) (hd : Dc bytes pc (.i2l) 1 pc') (g : Go κ Q h k n pc' L (.long x.toInt64 :: st)) : Go κ Q h k n pc L (.int x :: st) := by
  obtain ⟨d, rfl⟩ := hd
  exact go_step (fun T locs X e t q => XT.i2l X.here B.exec rfl (hb B.byt d) rfl q) g
theorem go_l2i (B : OkK km κ l Z a0 n0 R own nm bytes maxL ret) (hd : Dc bytes pc (.l2i) 1 pc') (g : Go κ Q h k n pc' L (.int u.toInt32 :: st)) : Go κ Q h k n pc L (.long u :: st) := by
  obtain ⟨d, rfl⟩ := hd
  exact go_step (fun T locs X e t q => XT.l2i X.here B.exec rfl (hb B.byt d) rfl q) g
theorem go_i2b (B : OkK km κ l Z a0 n0 R own nm bytes maxL ret) (hd : Dc bytes pc (.i2b) 1 pc') (g : Go κ Q h k n pc' L (.int x.toInt8.toInt32 :: st)) : Go κ Q h k n pc L (.int x :: st) := by
  obtain ⟨d, rfl⟩ := hd
  exact go_step (fun T locs X e t q => XT.i2b X.here B.exec rfl (hb B.byt d) rfl q) g
theorem go_i2c (B : OkK km κ l Z a0 n0 R own nm bytes maxL ret) (hd : Dc bytes pc (.i2c) 1 pc') (g : Go κ Q h k n pc' L (.int x.toUInt32.toUInt16.toUInt32.toInt32 :: st)) : Go κ Q h k n pc L (.int x :: st) := by
  obtain ⟨d, rfl⟩ := hd
  exact go_step (fun T locs X e t q => XT.i2c X.here B.exec rfl (hb B.byt d) rfl q) g
theorem go_lcmp (B : OkK km κ l Z a0 n0 R own nm bytes maxL ret) (hd : Dc bytes pc (.lcmp) 1 pc') (g : Go κ Q h k n pc' L (.int (XT.cmpL u w) :: st)) : Go κ Q h k n pc L (.long w :: .long u :: st) := by
  obtain ⟨d, rfl⟩ := hd
  exact go_step (fun T locs X e t q => XT.lcmp X.here B.exec rfl (hb B.byt d) rfl q) g
theorem go_pop (B : OkK km κ l Z a0 n0 R own nm bytes maxL ret) (hd : Dc bytes pc (.pop) 1 pc') (hc : v.category = 1) (g : Go κ Q h k n pc' L (st)) : Go κ Q h k n pc L (v :: st) := by
  obtain ⟨d, rfl⟩ := hd
  exact go_step (fun T locs X e t q => XT.pop X.here B.exec rfl (hb B.byt d) rfl hc q) g
theorem go_dup (B : OkK km κ l Z a0 n0 R own nm bytes maxL ret) (hd : Dc bytes pc (.dup) 1 pc') (hc : v.category = 1) (g : Go κ Q h k n pc' L (v :: v :: st)) : Go κ Q h k n pc L (v :: st) := by
  obtain ⟨d, rfl⟩ := hd
  exact go_step (fun T locs X e t q => XS.dup X.here B.exec rfl (hb B.byt d) rfl hc q) g
theorem go_dup_x1 (B : OkK km κ l Z a0 n0 R own nm bytes maxL ret) (hd : Dc bytes pc (.dup_x1) 1 pc') (hc : v.category = 1) (hc' : v'.category = 1) (g : Go κ Q h k n pc' L (v :: v' :: v :: st)) : Go κ Q h k n pc L (v :: v' :: st) := by
  obtain ⟨d, rfl⟩ := hd
  exact go_step (fun T locs X e t q => XT.dupX1 X.here B.exec rfl (hb B.byt d) rfl hc hc' q) g
theorem go_dup2 (B : OkK km κ l Z a0 n0 R own nm bytes maxL ret) (hd : Dc bytes pc (.dup2) 1 pc') (hc : v.category = 1) (hc' : v'.category = 1) (g : Go κ Q h k n pc' L (v :: v' :: v :: v' :: st)) : Go κ Q h k n pc L (v :: v' :: st) := by
  obtain ⟨d, rfl⟩ := hd
  exact go_step (fun T locs X e t q => XT.dup2 X.here B.exec rfl (hb B.byt d) rfl hc hc' q) g
theorem go_dup2l (B : OkK km κ l Z a0 n0 R own nm bytes maxL ret) (hd : Dc bytes pc (.dup2) 1 pc') (g : Go κ Q h k n pc' L (.long u :: .long u :: st)) : Go κ Q h k n pc L (.long u :: st) := by
  obtain ⟨d, rfl⟩ := hd
  exact go_step (fun T locs X e t q => XT.dup2L X.here B.exec rfl (hb B.byt d) rfl q) g
theorem go_iconst (B : OkK km κ l Z a0 n0 R own nm bytes maxL ret) (hd : Dc bytes pc (.iconst o) 1 pc') (hv : Int32.ofInt o = x) (g : Go κ Q h k n pc' L (.int x :: st)) : Go κ Q h k n pc L (st) := by
  obtain ⟨d, rfl⟩ := hd
  exact go_step (fun T locs X e t q => XT.iconstV X.here B.exec rfl x (hb B.byt d) hv q) g
theorem go_bipush (B : OkK km κ l Z a0 n0 R own nm bytes maxL ret) (hd : Dc bytes pc (.bipush o) 2 pc') (hv : (Int8.ofInt o).toInt32 = x) (g : Go κ Q h k n pc' L (.int x :: st)) : Go κ Q h k n pc L (st) := by
  obtain ⟨d, rfl⟩ := hd
  exact go_step (fun T locs X e t q => XT.bipushV X.here B.exec rfl x (hb B.byt d) hv q) g
theorem go_sipush (B : OkK km κ l Z a0 n0 R own nm bytes maxL ret) (hd : Dc bytes pc (.sipush o) 3 pc') (hv : (Int16.ofInt o).toInt32 = x) (g : Go κ Q h k n pc' L (.int x :: st)) : Go κ Q h k n pc L (st) := by
  obtain ⟨d, rfl⟩ := hd
  exact go_step (fun T locs X e t q => XT.sipushV X.here B.exec rfl x (hb B.byt d) hv q) g
theorem go_lconst (B : OkK km κ l Z a0 n0 R own nm bytes maxL ret) {j : Fin 2} (hd : Dc bytes pc (.lconst j) 1 pc') (hv : Int64.ofNat j = u) (g : Go κ Q h k n pc' L (.long u :: st)) : Go κ Q h k n pc L (st) := by
  obtain ⟨d, rfl⟩ := hd
  exact go_step (fun T locs X e t q => XT.lconstV X.here B.exec rfl u (hb B.byt d) hv q) g
theorem go_aconst_null (B : OkK km κ l Z a0 n0 R own nm bytes maxL ret) (hd : Dc bytes pc (.aconst_null) 1 pc') (g : Go κ Q h k n pc' L (.null :: st)) : Go κ Q h k n pc L (st) := by
  obtain ⟨d, rfl⟩ := hd
  exact go_step (fun T locs X e t q => XS.aconstNull X.here B.exec rfl (hb B.byt d) q) g
theorem go_iload_n (B : OkK km κ l Z a0 n0 R own nm bytes maxL ret) {j : Fin 4} (hd : Dc bytes pc (.iload_n j) 1 pc') (hl : L[j.val]? = some (.val (.int x))) (g : Go κ Q h k n pc' L (.int x :: st)) : Go κ Q h k n pc L (st) := by
  obtain ⟨d, rfl⟩ := hd
  exact go_step (fun T locs X e t q => XS.iloadN X.here B.exec rfl (hb B.byt d) hl q) g
theorem go_iload (B : OkK km κ l Z a0 n0 R own nm bytes maxL ret) {j : Nat} (hd : Dc bytes pc (.iload j) 2 pc') (hl : L[j]? = some (.val (.int x))) (g : Go κ Q h k n pc' L (.int x :: st)) : Go κ Q h k n pc L (st) := by
  obtain ⟨d, rfl⟩ := hd
  exact go_step (fun T locs X e t q => XS.iload X.here B.exec rfl (hb B.byt d) hl q) g
theorem go_istore_n (B : OkK km κ l Z a0 n0 R own nm bytes maxL ret) {j : Fin 4} (L' : Array Slot) (hd : Dc bytes pc (.istore_n j) 1 pc') (hl : storeLocals L j.val (.int x) = some L') (g : Go κ Q h k n pc' L' st) : Go κ Q h k n pc L (.int x :: st) := by
  obtain ⟨d, rfl⟩ := hd
  exact go_step (fun T locs X e t q => XS.istoreN X.here B.exec rfl (hb B.byt d) rfl hl q) g
theorem go_istore (B : OkK km κ l Z a0 n0 R own nm bytes maxL ret) {j : Nat} (L' : Array Slot) (hd : Dc bytes pc (.istore j) 2 pc') (hl : storeLocals L j (.int x) = some L') (g : Go κ Q h k n pc' L' st) : Go κ Q h k n pc L (.int x :: st) := by
  obtain ⟨d, rfl⟩ := hd
  exact go_step (fun T locs X e t q => XS.istore X.here B.exec rfl (hb B.byt d) rfl hl q) g
theorem go_lload_n (B : OkK km κ l Z a0 n0 R own nm bytes maxL ret) {j : Fin 4} (hd : Dc bytes pc (.lload_n j) 1 pc') (hl : L[j.val]? = some (.val (.long u))) (g : Go κ Q h k n pc' L (.long u :: st)) : Go κ Q h k n pc L (st) := by
  obtain ⟨d, rfl⟩ := hd
  exact go_step (fun T locs X e t q => XT.lloadN X.here B.exec rfl (hb B.byt d) hl q) g
theorem go_lload (B : OkK km κ l Z a0 n0 R own nm bytes maxL ret) {j : Nat} (hd : Dc bytes pc (.lload j) 2 pc') (hl : L[j]? = some (.val (.long u))) (g : Go κ Q h k n pc' L (.long u :: st)) : Go κ Q h k n pc L (st) := by
  obtain ⟨d, rfl⟩ := hd
  exact go_step (fun T locs X e t q => XT.lload X.here B.exec rfl (hb B.byt d) hl q) g
theorem go_lstore_n (B : OkK km κ l Z a0 n0 R own nm bytes maxL ret) {j : Fin 4} (L' : Array Slot) (hd : Dc bytes pc (.lstore_n j) 1 pc') (hl : storeLocals L j.val (.long u) = some L') (g : Go κ Q h k n pc' L' st) : Go κ Q h k n pc L (.long u :: st) := by
  obtain ⟨d, rfl⟩ := hd
  exact go_step (fun T locs X e t q => XT.lstoreN X.here B.exec rfl (hb B.byt d) rfl hl q) g
theorem go_lstore (B : OkK km κ l Z a0 n0 R own nm bytes maxL ret) {j : Nat} (L' : Array Slot) (hd : Dc bytes pc (.lstore j) 2 pc') (hl : storeLocals L j (.long u) = some L') (g : Go κ Q h k n pc' L' st) : Go κ Q h k n pc L (.long u :: st) := by
  obtain ⟨d, rfl⟩ := hd
  exact go_step (fun T locs X e t q => XT.lstore X.here B.exec rfl (hb B.byt d) rfl hl q) g
theorem go_aload_n (B : OkK km κ l Z a0 n0 R own nm bytes maxL ret) {j : Fin 4} (hd : Dc bytes pc (.aload_n j) 1 pc') (hl : L[j.val]? = some (.val (v))) (hv : v.isRef = true) (g : Go κ Q h k n pc' L (v :: st)) : Go κ Q h k n pc L (st) := by
  obtain ⟨d, rfl⟩ := hd
  exact go_step (fun T locs X e t q => XS.aloadN X.here B.exec rfl (hb B.byt d) hl hv q) g
theorem go_aload (B : OkK km κ l Z a0 n0 R own nm bytes maxL ret) {j : Nat} (hd : Dc bytes pc (.aload j) 2 pc') (hl : L[j]? = some (.val (v))) (hv : v.isRef = true) (g : Go κ Q h k n pc' L (v :: st)) : Go κ Q h k n pc L (st) := by
  obtain ⟨d, rfl⟩ := hd
  exact go_step (fun T locs X e t q => XS.aload X.here B.exec rfl (hb B.byt d) hl hv q) g
theorem go_astore_n (B : OkK km κ l Z a0 n0 R own nm bytes maxL ret) {j : Fin 4} (L' : Array Slot) (hd : Dc bytes pc (.astore_n j) 1 pc') (hv : v.isRef = true) (hl : storeLocals L j.val (v) = some L') (g : Go κ Q h k n pc' L' st) : Go κ Q h k n pc L (v :: st) := by
  obtain ⟨d, rfl⟩ := hd
  exact go_step (fun T locs X e t q => XS.astoreN X.here B.exec rfl (hb B.byt d) rfl hv hl q) g
theorem go_astore (B : OkK km κ l Z a0 n0 R own nm bytes maxL ret) {j : Nat} (L' : Array Slot) (hd : Dc bytes pc (.astore j) 2 pc') (hv : v.isRef = true) (hl : storeLocals L j (v) = some L') (g : Go κ Q h k n pc' L' st) : Go κ Q h k n pc L (v :: st) := by
  obtain ⟨d, rfl⟩ := hd
  exact go_step (fun T locs X e t q => XS.astore X.here B.exec rfl (hb B.byt d) rfl hv hl q) g
theorem go_iinc (B : OkK km κ l Z a0 n0 R own nm bytes maxL ret) {j : Nat} {z : Int32} (L' : Array Slot) (hd : Dc bytes pc (.iinc j o) 3 pc') (hz : Int32.ofInt o = z) (hl : L[j]? = some (.val (.int x))) (hl' : storeLocals L j (.int (x + z)) = some L') (g : Go κ Q h k n pc' L' st) : Go κ Q h k n pc L st := by
  obtain ⟨d, rfl⟩ := hd
  subst hz
  exact go_step (fun T locs X e t q => XS.iinc X.here B.exec rfl (hb B.byt d) hl hl' q) g
theorem go_goto (B : OkK km κ l Z a0 n0 R own nm bytes maxL ret) (hd : Db bytes pc (.goto o) o pc1 pc2) (g : Go κ Q h k n pc2 L st) : Go κ Q h k n pc L st := by
  obtain ⟨d, -, e2⟩ := hd
  exact go_step (fun T locs X e t q => XS.goto X.here B.exec rfl (pc0 := pc) rfl (hb B.byt d) (by omega) (by omega) q) g
theorem go_icmpeq (B : OkK km κ l Z a0 n0 R own nm bytes maxL ret) (hd : Db bytes pc (.if_icmp .eq o) o pc1 pc2) (gt : x = y → Go κ Q h k n pc2 L st) (gf : ¬ x = y → Go κ Q h k n pc1 L st) : Go κ Q h k n pc L (.int y :: .int x :: st) := by
  obtain ⟨d, rfl, e2⟩ := hd
  rcases Classical.em (x = y) with q0 | q0
  · exact go_step (fun T locs X e t q => XS.icmpYes X.here B.exec rfl (pc0 := pc) rfl (hb B.byt d) rfl (XT.ii_eq_t q0) (by omega) (by omega) q) (gt q0)
  · exact go_step (fun T locs X e t q => XS.icmpNo X.here B.exec rfl (hb B.byt d) rfl (XT.ii_eq_f q0) q) (gf q0)
theorem go_icmpne (B : OkK km κ l Z a0 n0 R own nm bytes maxL ret) (hd : Db bytes pc (.if_icmp .ne o) o pc1 pc2) (gt : ¬ x = y → Go κ Q h k n pc2 L st) (gf : x = y → Go κ Q h k n pc1 L st) : Go κ Q h k n pc L (.int y :: .int x :: st) := by
  obtain ⟨d, rfl, e2⟩ := hd
  rcases Classical.em (¬ x = y) with q0 | q0
  · exact go_step (fun T locs X e t q => XS.icmpYes X.here B.exec rfl (pc0 := pc) rfl (hb B.byt d) rfl (XT.ii_ne_t q0) (by omega) (by omega) q) (gt q0)
  · exact go_step (fun T locs X e t q => XS.icmpNo X.here B.exec rfl (hb B.byt d) rfl (XT.ii_ne_f (Classical.not_not.mp q0)) q) (gf (Classical.not_not.mp q0))
theorem go_icmplt (B : OkK km κ l Z a0 n0 R own nm bytes maxL ret) (hd : Db bytes pc (.if_icmp .lt o) o pc1 pc2) (gt : x < y → Go κ Q h k n pc2 L st) (gf : ¬ x < y → Go κ Q h k n pc1 L st) : Go κ Q h k n pc L (.int y :: .int x :: st) := by
  obtain ⟨d, rfl, e2⟩ := hd
  rcases Classical.em (x < y) with q0 | q0
  · exact go_step (fun T locs X e t q => XS.icmpYes X.here B.exec rfl (pc0 := pc) rfl (hb B.byt d) rfl (XT.ii_lt_t q0) (by omega) (by omega) q) (gt q0)
  · exact go_step (fun T locs X e t q => XS.icmpNo X.here B.exec rfl (hb B.byt d) rfl (XT.ii_lt_f q0) q) (gf q0)
theorem go_icmpge (B : OkK km κ l Z a0 n0 R own nm bytes maxL ret) (hd : Db bytes pc (.if_icmp .ge o) o pc1 pc2) (gt : ¬ x < y → Go κ Q h k n pc2 L st) (gf : x < y → Go κ Q h k n pc1 L st) : Go κ Q h k n pc L (.int y :: .int x :: st) := by
  obtain ⟨d, rfl, e2⟩ := hd
  rcases Classical.em (¬ x < y) with q0 | q0
  · exact go_step (fun T locs X e t q => XS.icmpYes X.here B.exec rfl (pc0 := pc) rfl (hb B.byt d) rfl (XT.ii_ge_t q0) (by omega) (by omega) q) (gt q0)
  · exact go_step (fun T locs X e t q => XS.icmpNo X.here B.exec rfl (hb B.byt d) rfl (XT.ii_ge_f (Classical.not_not.mp q0)) q) (gf (Classical.not_not.mp q0))
theorem go_icmpgt (B : OkK km κ l Z a0 n0 R own nm bytes maxL ret) (hd : Db bytes pc (.if_icmp .gt o) o pc1 pc2) (gt : y < x → Go κ Q h k n pc2 L st) (gf : ¬ y < x → Go κ Q h k n pc1 L st) : Go κ Q h k n pc L (.int y :: .int x :: st) := by
  obtain ⟨d, rfl, e2⟩ := hd
  rcases Classical.em (y < x) with q0 | q0
  · exact go_step (fun T locs X e t q => XS.icmpYes X.here B.exec rfl (pc0 := pc) rfl (hb B.byt d) rfl (XT.ii_gt_t q0) (by omega) (by omega) q) (gt q0)
  · exact go_step (fun T locs X e t q => XS.icmpNo X.here B.exec rfl (hb B.byt d) rfl (XT.ii_gt_f q0) q) (gf q0)
theorem go_icmple (B : OkK km κ l Z a0 n0 R own nm bytes maxL ret) (hd : Db bytes pc (.if_icmp .le o) o pc1 pc2) (gt : ¬ y < x → Go κ Q h k n pc2 L st) (gf : y < x → Go κ Q h k n pc1 L st) : Go κ Q h k n pc L (.int y :: .int x :: st) := by
  obtain ⟨d, rfl, e2⟩ := hd
  rcases Classical.em (¬ y < x) with q0 | q0
  · exact go_step (fun T locs X e t q => XS.icmpYes X.here B.exec rfl (pc0 := pc) rfl (hb B.byt d) rfl (XT.ii_le_t q0) (by omega) (by omega) q) (gt q0)
  · exact go_step (fun T locs X e t q => XS.icmpNo X.here B.exec rfl (hb B.byt d) rfl (XT.ii_le_f (Classical.not_not.mp q0)) q) (gf (Classical.not_not.mp q0))
theorem go_ifeq (B : OkK km κ l Z a0 n0 R own nm bytes maxL ret) (hd : Db bytes pc (.ifCond .eq o) o pc1 pc2) (gt : x = 0 → Go κ Q h k n pc2 L st) (gf : ¬ x = 0 → Go κ Q h k n pc1 L st) : Go κ Q h k n pc L (.int x :: st) := by
  obtain ⟨d, rfl, e2⟩ := hd
  rcases Classical.em (x = 0) with q0 | q0
  · exact go_step (fun T locs X e t q => XS.ifYes X.here B.exec rfl (pc0 := pc) rfl (hb B.byt d) rfl (XT.i0_eq_t q0) (by omega) (by omega) q) (gt q0)
  · exact go_step (fun T locs X e t q => XS.ifNo X.here B.exec rfl (hb B.byt d) rfl (XT.i0_eq_f q0) q) (gf q0)
theorem go_ifne (B : OkK km κ l Z a0 n0 R own nm bytes maxL ret) (hd : Db bytes pc (.ifCond .ne o) o pc1 pc2) (gt : ¬ x = 0 → Go κ Q h k n pc2 L st) (gf : x = 0 → Go κ Q h k n pc1 L st) : Go κ Q h k n pc L (.int x :: st) := by
  obtain ⟨d, rfl, e2⟩ := hd
  rcases Classical.em (¬ x = 0) with q0 | q0
  · exact go_step (fun T locs X e t q => XS.ifYes X.here B.exec rfl (pc0 := pc) rfl (hb B.byt d) rfl (XT.i0_ne_t q0) (by omega) (by omega) q) (gt q0)
  · exact go_step (fun T locs X e t q => XS.ifNo X.here B.exec rfl (hb B.byt d) rfl (XT.i0_ne_f (Classical.not_not.mp q0)) q) (gf (Classical.not_not.mp q0))
theorem go_iflt (B : OkK km κ l Z a0 n0 R own nm bytes maxL ret) (hd : Db bytes pc (.ifCond .lt o) o pc1 pc2) (gt : x < 0 → Go κ Q h k n pc2 L st) (gf : ¬ x < 0 → Go κ Q h k n pc1 L st) : Go κ Q h k n pc L (.int x :: st) := by
  obtain ⟨d, rfl, e2⟩ := hd
  rcases Classical.em (x < 0) with q0 | q0
  · exact go_step (fun T locs X e t q => XS.ifYes X.here B.exec rfl (pc0 := pc) rfl (hb B.byt d) rfl (XT.i0_lt_t q0) (by omega) (by omega) q) (gt q0)
  · exact go_step (fun T locs X e t q => XS.ifNo X.here B.exec rfl (hb B.byt d) rfl (XT.i0_lt_f q0) q) (gf q0)
theorem go_ifge (B : OkK km κ l Z a0 n0 R own nm bytes maxL ret) (hd : Db bytes pc (.ifCond .ge o) o pc1 pc2) (gt : ¬ x < 0 → Go κ Q h k n pc2 L st) (gf : x < 0 → Go κ Q h k n pc1 L st) : Go κ Q h k n pc L (.int x :: st) := by
  obtain ⟨d, rfl, e2⟩ := hd
  rcases Classical.em (¬ x < 0) with q0 | q0
  · exact go_step (fun T locs X e t q => XS.ifYes X.here B.exec rfl (pc0 := pc) rfl (hb B.byt d) rfl (XT.i0_ge_t q0) (by omega) (by omega) q) (gt q0)
  · exact go_step (fun T locs X e t q => XS.ifNo X.here B.exec rfl (hb B.byt d) rfl (XT.i0_ge_f (Classical.not_not.mp q0)) q) (gf (Classical.not_not.mp q0))
theorem go_ifgt (B : OkK km κ l Z a0 n0 R own nm bytes maxL ret) (hd : Db bytes pc (.ifCond .gt o) o pc1 pc2) (gt : 0 < x → Go κ Q h k n pc2 L st) (gf : ¬ 0 < x → Go κ Q h k n pc1 L st) : Go κ Q h k n pc L (.int x :: st) := by
  obtain ⟨d, rfl, e2⟩ := hd
  rcases Classical.em (0 < x) with q0 | q0
  · exact go_step (fun T locs X e t q => XS.ifYes X.here B.exec rfl (pc0 := pc) rfl (hb B.byt d) rfl (XT.i0_gt_t q0) (by omega) (by omega) q) (gt q0)
  · exact go_step (fun T locs X e t q => XS.ifNo X.here B.exec rfl (hb B.byt d) rfl (XT.i0_gt_f q0) q) (gf q0)
theorem go_ifle (B : OkK km κ l Z a0 n0 R own nm bytes maxL ret) (hd : Db bytes pc (.ifCond .le o) o pc1 pc2) (gt : ¬ 0 < x → Go κ Q h k n pc2 L st) (gf : 0 < x → Go κ Q h k n pc1 L st) : Go κ Q h k n pc L (.int x :: st) := by
  obtain ⟨d, rfl, e2⟩ := hd
  rcases Classical.em (¬ 0 < x) with q0 | q0
  · exact go_step (fun T locs X e t q => XS.ifYes X.here B.exec rfl (pc0 := pc) rfl (hb B.byt d) rfl (XT.i0_le_t q0) (by omega) (by omega) q) (gt q0)
  · exact go_step (fun T locs X e t q => XS.ifNo X.here B.exec rfl (hb B.byt d) rfl (XT.i0_le_f (Classical.not_not.mp q0)) q) (gf (Classical.not_not.mp q0))
theorem go_lifeq (B : OkK km κ l Z a0 n0 R own nm bytes maxL ret) (hd : Db bytes pc (.ifCond .eq o) o pc1 pc2) (gt : u = w → Go κ Q h k n pc2 L st) (gf : ¬ u = w → Go κ Q h k n pc1 L st) : Go κ Q h k n pc L (.int (XT.cmpL u w) :: st) := by
  obtain ⟨d, rfl, e2⟩ := hd
  rcases Classical.em (u = w) with q0 | q0
  · exact go_step (fun T locs X e t q => XS.ifYes X.here B.exec rfl (pc0 := pc) rfl (hb B.byt d) rfl (XT.ll_eq_t q0) (by omega) (by omega) q) (gt q0)
  · exact go_step (fun T locs X e t q => XS.ifNo X.here B.exec rfl (hb B.byt d) rfl (XT.ll_eq_f q0) q) (gf q0)
theorem go_lifne (B : OkK km κ l Z a0 n0 R own nm bytes maxL ret) (hd : Db bytes pc (.ifCond .ne o) o pc1 pc2) (gt : ¬ u = w → Go κ Q h k n pc2 L st) (gf : u = w → Go κ Q h k n pc1 L st) : Go κ Q h k n pc L (.int (XT.cmpL u w) :: st) := by
  obtain ⟨d, rfl, e2⟩ := hd
  rcases Classical.em (¬ u = w) with q0 | q0
  · exact go_step (fun T locs X e t q => XS.ifYes X.here B.exec rfl (pc0 := pc) rfl (hb B.byt d) rfl (XT.ll_ne_t q0) (by omega) (by omega) q) (gt q0)
  · exact go_step (fun T locs X e t q => XS.ifNo X.here B.exec rfl (hb B.byt d) rfl (XT.ll_ne_f (Classical.not_not.mp q0)) q) (gf (Classical.not_not.mp q0))
theorem go_liflt (B : OkK km κ l Z a0 n0 R own nm bytes maxL ret) (hd : Db bytes pc (.ifCond .lt o) o pc1 pc2) (gt : u < w → Go κ Q h k n pc2 L st) (gf : ¬ u < w → Go κ Q h k n pc1 L st) : Go κ Q h k n pc L (.int (XT.cmpL u w) :: st) := by
  obtain ⟨d, rfl, e2⟩ := hd
  rcases Classical.em (u < w) with q0 | q0
  · exact go_step (fun T locs X e t q => XS.ifYes X.here B.exec rfl (pc0 := pc) rfl (hb B.byt d) rfl (XT.ll_lt_t q0) (by omega) (by omega) q) (gt q0)
  · exact go_step (fun T locs X e t q => XS.ifNo X.here B.exec rfl (hb B.byt d) rfl (XT.ll_lt_f q0) q) (gf q0)
theorem go_lifge (B : OkK km κ l Z a0 n0 R own nm bytes maxL ret) (hd : Db bytes pc (.ifCond .ge o) o pc1 pc2) (gt : ¬ u < w → Go κ Q h k n pc2 L st) (gf : u < w → Go κ Q h k n pc1 L st) : Go κ Q h k n pc L (.int (XT.cmpL u w) :: st) := by
  obtain ⟨d, rfl, e2⟩ := hd
  rcases Classical.em (¬ u < w) with q0 | q0
  · exact go_step (fun T locs X e t q => XS.ifYes X.here B.exec rfl (pc0 := pc) rfl (hb B.byt d) rfl (XT.ll_ge_t q0) (by omega) (by omega) q) (gt q0)
  · exact go_step (fun T locs X e t q => XS.ifNo X.here B.exec rfl (hb B.byt d) rfl (XT.ll_ge_f (Classical.not_not.mp q0)) q) (gf (Classical.not_not.mp q0))
theorem go_lifgt (B : OkK km κ l Z a0 n0 R own nm bytes maxL ret) (hd : Db bytes pc (.ifCond .gt o) o pc1 pc2) (gt : w < u → Go κ Q h k n pc2 L st) (gf : ¬ w < u → Go κ Q h k n pc1 L st) : Go κ Q h k n pc L (.int (XT.cmpL u w) :: st) := by
  obtain ⟨d, rfl, e2⟩ := hd
  rcases Classical.em (w < u) with q0 | q0
  · exact go_step (fun T locs X e t q => XS.ifYes X.here B.exec rfl (pc0 := pc) rfl (hb B.byt d) rfl (XT.ll_gt_t q0) (by omega) (by omega) q) (gt q0)
  · exact go_step (fun T locs X e t q => XS.ifNo X.here B.exec rfl (hb B.byt d) rfl (XT.ll_gt_f q0) q) (gf q0)
theorem go_lifle (B : OkK km κ l Z a0 n0 R own nm bytes maxL ret) (hd : Db bytes pc (.ifCond .le o) o pc1 pc2) (gt : ¬ w < u → Go κ Q h k n pc2 L st) (gf : w < u → Go κ Q h k n pc1 L st) : Go κ Q h k n pc L (.int (XT.cmpL u w) :: st) := by
  obtain ⟨d, rfl, e2⟩ := hd
  rcases Classical.em (¬ w < u) with q0 | q0
  · exact go_step (fun T locs X e t q => XS.ifYes X.here B.exec rfl (pc0 := pc) rfl (hb B.byt d) rfl (XT.ll_le_t q0) (by omega) (by omega) q) (gt q0)
  · exact go_step (fun T locs X e t q => XS.ifNo X.here B.exec rfl (hb B.byt d) rfl (XT.ll_le_f (Classical.not_not.mp q0)) q) (gf (Classical.not_not.mp q0))
theorem go_acmpeq (B : OkK km κ l Z a0 n0 R own nm bytes maxL ret) (hd : Db bytes pc (.if_acmp .eq o) o pc1 pc2) (hv : v.isRef = true) (hv' : v'.isRef = true) (gt : v' = v → Go κ Q h k n pc2 L st) (gf : ¬ v' = v → Go κ Q h k n pc1 L st) : Go κ Q h k n pc L (v :: v' :: st) := by
  obtain ⟨d, rfl, e2⟩ := hd
  rcases Classical.em (v' = v) with q0 | q0
  · exact go_step (fun T locs X e t q => XT.acmpYes X.here B.exec rfl (pc0 := pc) rfl (hb B.byt d) rfl hv' hv (XT.aa_eq_t q0) (by omega) (by omega) q) (gt q0)
  · exact go_step (fun T locs X e t q => XT.acmpNo X.here B.exec rfl (hb B.byt d) rfl hv' hv (XT.aa_eq_f q0) q) (gf q0)
theorem go_acmpne (B : OkK km κ l Z a0 n0 R own nm bytes maxL ret) (hd : Db bytes pc (.if_acmp .ne o) o pc1 pc2) (hv : v.isRef = true) (hv' : v'.isRef = true) (gt : ¬ v' = v → Go κ Q h k n pc2 L st) (gf : v' = v → Go κ Q h k n pc1 L st) : Go κ Q h k n pc L (v :: v' :: st) := by
  obtain ⟨d, rfl, e2⟩ := hd
  rcases Classical.em (¬ v' = v) with q0 | q0
  · exact go_step (fun T locs X e t q => XT.acmpYes X.here B.exec rfl (pc0 := pc) rfl (hb B.byt d) rfl hv' hv (XT.aa_ne_t q0) (by omega) (by omega) q) (gt q0)
  · exact go_step (fun T locs X e t q => XT.acmpNo X.here B.exec rfl (hb B.byt d) rfl hv' hv (XT.aa_ne_f (Classical.not_not.mp q0)) q) (gf (Classical.not_not.mp q0))
theorem go_ifnull_t (B : OkK km κ l Z a0 n0 R own nm bytes maxL ret) (hd : Db bytes pc (.ifnull o) o pc1 pc2) (g : Go κ Q h k n pc2 L st) : Go κ Q h k n pc L (.null :: st) := by
  obtain ⟨d, rfl, e2⟩ := hd
  exact go_step (fun T locs X e t q => XS.ifnullYes X.here B.exec rfl (pc0 := pc) rfl (hb B.byt d) rfl (by omega) (by omega) q) g
theorem go_ifnull_f (B : OkK km κ l Z a0 n0 R own nm bytes maxL ret) (hd : Db bytes pc (.ifnull o) o pc1 pc2) (g : Go κ Q h k n pc1 L st) : Go κ Q h k n pc L (.ref a :: st) := by
  obtain ⟨d, rfl, e2⟩ := hd
  exact go_step (fun T locs X e t q => XS.ifnullNo X.here B.exec rfl (hb B.byt d) rfl q) g
theorem go_ifnonnull_t (B : OkK km κ l Z a0 n0 R own nm bytes maxL ret) (hd : Db bytes pc (.ifnonnull o) o pc1 pc2) (g : Go κ Q h k n pc2 L st) : Go κ Q h k n pc L (.ref a :: st) := by
  obtain ⟨d, rfl, e2⟩ := hd
  exact go_step (fun T locs X e t q => XT.ifnonnullYes X.here B.exec rfl (pc0 := pc) rfl (hb B.byt d) rfl (by omega) (by omega) q) g
theorem go_ifnonnull_f (B : OkK km κ l Z a0 n0 R own nm bytes maxL ret) (hd : Db bytes pc (.ifnonnull o) o pc1 pc2) (g : Go κ Q h k n pc1 L st) : Go κ Q h k n pc L (.null :: st) := by
  obtain ⟨d, rfl, e2⟩ := hd
  exact go_step (fun T locs X e t q => XT.ifnonnullNo X.here B.exec rfl (hb B.byt d) rfl q) g
/-! fields, objects, arrays, calls, returns -/
theorem go_getfield (B : OkK km κ l Z a0 n0 R own nm bytes maxL ret) {idx : Nat} {O fn d : String} (hd : Dc bytes pc (.getfield idx) 3 pc') (wl : (Jvm.Cond.fieldLink own idx O fn d).before a0 Z = true) (F : Fld Z h a O fn d v) (g : Go κ Q h k n pc' L (v :: st)) : Go κ Q h k n pc L (.ref a :: st) := fun T locs X N e => by
  obtain ⟨dd, rfl⟩ := hd
  obtain ⟨T', X', e', sp⟩ := getF X B.exec B.warm B.hown (host := "") (Or.inl wl) Via.refl e F (g := mkF κ.m pc L (.ref a :: st)) rfl rfl (hb B.byt dd)
  obtain ⟨t, o, h1, h2⟩ := g T' locs X' N e'
  exact ⟨t, o, sp _ h1, h2⟩
theorem go_getstatic (B : OkK km κ l Z a0 n0 R own nm bytes maxL ret) {idx : Nat} {O fn d : String} (hd : Dc bytes pc (.getstatic idx) 3 pc') (wl : (Jvm.Cond.fieldLink own idx O fn d).before a0 Z = true) (F : Sta Z h O fn d v) (g : Go κ Q h k n pc' L (v :: st)) : Go κ Q h k n pc L st := fun T locs X N e => by
  obtain ⟨dd, rfl⟩ := hd
  obtain ⟨T', X', e', sp⟩ := getS (host := "") X B.exec B.warm B.hown wl Via.refl e F (g := mkF κ.m pc L st) rfl (hb B.byt dd)
  obtain ⟨t, o, h1, h2⟩ := g T' locs X' N e'
  exact ⟨t, o, sp _ h1, h2⟩
theorem go_putfield (B : OkK km κ l Z a0 n0 R own nm bytes maxL ret) {idx kk : Nat} {O fn d C : String} {ty : FieldType} {old : Value} (hd : Dc bytes pc (.putfield idx) 3 pc') (wl : (Jvm.Cond.fieldLink own idx O fn d).before a0 Z = true) (F : Fld Z h a O fn d old) (E : Exa Z h a C)
    (wy : (Jvm.Cond.lays C O fn d).before a0 Z = true ∨ ((Jvm.Cond.laysFinal C O fn d).before a0 Z = true ∧ own = O ∧ nm = "<init>")) (wi : (Jvm.Cond.instantiable C kk).before a0 Z = true) (hty : parseFieldDescriptor d = some ty) (hn : narrow ty v = v) (hf : fits ty v = true) (ha : n0 ≤ a)
    (g : ∀ h', Wr h h' a (Jvm.RoadKit.slotOf Z O fn d) v → Go κ Q h' k n pc' L st) : Go κ Q h k n pc L (v :: .ref a :: st) := fun T locs X N e => by
  obtain ⟨dd, rfl⟩ := hd
  obtain ⟨T', h', X', e', W, sp⟩ := putF X B.exec B.warm B.hown (host := "") (Or.inl wl) Via.refl e F E (wy.imp id fun q => ⟨q.1, q.2.1, B.name.trans q.2.2⟩) wi hty hn hf (g := mkF κ.m pc L (v :: .ref a :: st)) rfl rfl (hb B.byt dd)
  obtain ⟨t, o, h1, h2⟩ := g h' W T' _ X' (Fr.snoc X' N (B.hn ▸ ha)) e'
  exact ⟨t, o, sp _ h1, h2⟩
theorem go_new (B : OkK km κ l Z a0 n0 R own nm bytes maxL ret) {idx nf : Nat} {C : String} (hd : Dc bytes pc (.new idx) 3 pc') (wl : (Jvm.Cond.classLink own idx C).before a0 Z = true) (wi : (Jvm.Cond.instantiable C nf).before a0 Z = true) (wz : (Jvm.Cond.initialized C).before a0 Z = true) (hc : k + 1 ≤ R.cells) (hl : n + nf ≤ R.slots)
    (g : ∀ h' b, b = h.size → Ext h h' → Exa Z h' b C → (∀ {O fn d : String} {ty : FieldType}, Laid Z a0 C O fn d → parseFieldDescriptor d = some ty → Fld Z h' b O fn d (defaultValue ty)) → Go κ Q h' (k + 1) (n + nf) pc' L (.ref b :: st)) : Go κ Q h k n pc L st := fun T locs X N e => by
  obtain ⟨dd, rfl⟩ := hd
  obtain ⟨T', h', X', e', E, A, D, -, sp⟩ := newO X B.exec B.warm B.hown wl wi wz e (g := mkF κ.m pc L st) rfl (hb B.byt dd) (by rw [B.room]; exact hc) (by rw [B.room]; exact hl)
  obtain ⟨t, o, h1, h2⟩ := g h' _ rfl E A D T' locs X' N e'
  exact ⟨t, o, sp _ h1, h2⟩
/-- an array whose places hold just these values -/
def AV (Z : State) (h : Heap) (a : Addr) (ty : FieldType) (vs : List Value) : Prop := ∃ c : Cell, Arr Z h a c ty ∧ c.slots = vs.toArray ∧ vs.length < 2 ^ 31
theorem AV.ext {ty : FieldType} {vs : List Value} {h' : Heap} (F : AV Z h a ty vs) (E : Ext h h') : AV Z h' a ty vs := by obtain ⟨c, A, r⟩ := F; exact ⟨c, A.ext E, r⟩
theorem AV.other {ty : FieldType} {vs : List Value} {h' : Heap} {b : Addr} {sl : Nat} (F : AV Z h b ty vs) (W : Wr h h' a sl v) (q : b ≠ a) : AV Z h' b ty vs := by obtain ⟨c, A, r⟩ := F; exact ⟨c, A.other W q, r⟩
theorem AV.keep {ty : FieldType} {vs : List Value} {h' : Heap} {ws : List Addr} (F : AV Z h a ty vs) (K : Keep h h' ws) (q : a ∉ ws) : AV Z h' a ty vs := by obtain ⟨c, A, r⟩ := F; exact ⟨c, ⟨K.2.1 a c A.1 q, A.2⟩, r⟩
theorem AV.same {ty : FieldType} {vs : List Value} {h' : Heap} {i : Nat} (F : AV Z h a ty vs) (W : Wr h h' a i v) : AV Z h' a ty (vs.set i v) := by
  obtain ⟨c, A, r, s⟩ := F
  exact ⟨_, A.same W, by simp [Cell.setSlot, r], by simpa using s⟩
theorem AV.lt {ty : FieldType} {vs : List Value} (F : AV Z h a ty vs) : a < h.size := by obtain ⟨c, A, -⟩ := F; exact A.lt
theorem AV.len {ty : FieldType} {vs : List Value} (F : AV Z h a ty vs) : vs.length < 2 ^ 31 := by obtain ⟨c, A, -, q⟩ := F; exact q
theorem nat_idx {i : Nat} (hj : x.toInt = (i : Int)) : ¬ x < 0 ∧ x.toNatClampNeg = i := by
  refine ⟨fun q => ?_, ?_⟩
  · have := (Int32.lt_iff_toInt_lt).mp q
    have z : (0 : Int32).toInt = 0 := rfl
    omega
  · show x.toInt.toNat = i
    omega
theorem go_arraylength (B : OkK km κ l Z a0 n0 R own nm bytes maxL ret) {ty : FieldType} {vs : List Value} (hd : Dc bytes pc .arraylength 1 pc') (A : AV Z h a ty vs) (hx : Int32.ofNat vs.length = x) (g : Go κ Q h k n pc' L (.int x :: st)) : Go κ Q h k n pc L (.ref a :: st) := by
  obtain ⟨dd, rfl⟩ := hd
  obtain ⟨c, A, r, s⟩ := A
  have e1 : (Int32.ofNat c.slots.size) = x := by rw [← hx, r]; simp
  subst e1
  exact go_step (fun T locs X e t q => X.arraylength B.exec (by rw [e]; exact A.1) (State.isArrayOf_alike B.warm.alike A.2.1) (g := mkF κ.m pc L (.ref a :: st)) rfl rfl (hb B.byt dd) _ q) g
theorem go_iaload (B : OkK km κ l Z a0 n0 R own nm bytes maxL ret) {vs : List Value} {i : Nat} (hd : Dc bytes pc .iaload 1 pc') (A : AV Z h a .int vs) (hi : x.toInt = (i : Int)) (hv : vs[i]? = some v) (g : Go κ Q h k n pc' L (v :: st)) : Go κ Q h k n pc L (.int x :: .ref a :: st) := by
  obtain ⟨dd, rfl⟩ := hd
  obtain ⟨c, A, r, s⟩ := A
  obtain ⟨q1, q2⟩ := nat_idx hi
  have hl : i < vs.length := (List.getElem?_eq_some_iff.mp hv).1
  exact go_step (fun T locs X e t q => X.iaload B.exec (j := x) (v := v) (by rw [e]; exact A.1) (State.isArrayOf_alike B.warm.alike A.2.1) A.2.2 (by rw [r, q2]; simp; exact ⟨Int32.not_lt.mp q1, hl⟩) (by rw [r, q2]; simpa using hv) (g := mkF κ.m pc L (.int x :: .ref a :: st)) rfl rfl (hb B.byt dd) _ q) g
theorem go_laload (B : OkK km κ l Z a0 n0 R own nm bytes maxL ret) {vs : List Value} {i : Nat} (hd : Dc bytes pc .laload 1 pc') (A : AV Z h a .long vs) (hi : x.toInt = (i : Int)) (hv : vs[i]? = some v) (g : Go κ Q h k n pc' L (v :: st)) : Go κ Q h k n pc L (.int x :: .ref a :: st) := by
  obtain ⟨dd, rfl⟩ := hd
  obtain ⟨c, A, r, s⟩ := A
  obtain ⟨q1, q2⟩ := nat_idx hi
  have hl : i < vs.length := (List.getElem?_eq_some_iff.mp hv).1
  exact go_step (fun T locs X e t q => X.laload B.exec (j := x) (v := v) (by rw [e]; exact A.1) (State.isArrayOf_alike B.warm.alike A.2.1) A.2.2 (by rw [r, q2]; simp; exact ⟨Int32.not_lt.mp q1, hl⟩) (by rw [r, q2]; simpa using hv) (g := mkF κ.m pc L (.int x :: .ref a :: st)) rfl rfl (hb B.byt dd) _ q) g
theorem go_caload (B : OkK km κ l Z a0 n0 R own nm bytes maxL ret) {vs : List Value} {i : Nat} (hd : Dc bytes pc .caload 1 pc') (A : AV Z h a .char vs) (hi : x.toInt = (i : Int)) (hv : vs[i]? = some v) (g : Go κ Q h k n pc' L (v :: st)) : Go κ Q h k n pc L (.int x :: .ref a :: st) := by
  obtain ⟨dd, rfl⟩ := hd
  obtain ⟨c, A, r, s⟩ := A
  obtain ⟨q1, q2⟩ := nat_idx hi
  have hl : i < vs.length := (List.getElem?_eq_some_iff.mp hv).1
  exact go_step (fun T locs X e t q => X.caload B.exec (j := x) (v := v) (by rw [e]; exact A.1) (State.isArrayOf_alike B.warm.alike A.2.1) A.2.2 (by rw [r, q2]; simp; exact ⟨Int32.not_lt.mp q1, hl⟩) (by rw [r, q2]; simpa using hv) (g := mkF κ.m pc L (.int x :: .ref a :: st)) rfl rfl (hb B.byt dd) _ q) g
theorem go_baload (B : OkK km κ l Z a0 n0 R own nm bytes maxL ret) {vs : List Value} {i : Nat} (hd : Dc bytes pc .baload 1 pc') (A : AV Z h a .byte vs) (hi : x.toInt = (i : Int)) (hv : vs[i]? = some v) (g : Go κ Q h k n pc' L (v :: st)) : Go κ Q h k n pc L (.int x :: .ref a :: st) := by
  obtain ⟨dd, rfl⟩ := hd
  obtain ⟨c, A, r, s⟩ := A
  obtain ⟨q1, q2⟩ := nat_idx hi
  have hl : i < vs.length := (List.getElem?_eq_some_iff.mp hv).1
  exact go_step (fun T locs X e t q => X.baloadBytes B.exec (j := x) (v := v) (by rw [e]; exact A.1) (State.isArrayOf_alike B.warm.alike A.2.1) A.2.2 (by rw [r, q2]; simp; exact ⟨Int32.not_lt.mp q1, hl⟩) (by rw [r, q2]; simpa using hv) (g := mkF κ.m pc L (.int x :: .ref a :: st)) rfl rfl (hb B.byt dd) _ q) g
theorem go_zaload (B : OkK km κ l Z a0 n0 R own nm bytes maxL ret) {vs : List Value} {i : Nat} (hd : Dc bytes pc .baload 1 pc') (A : AV Z h a .boolean vs) (hi : x.toInt = (i : Int)) (hv : vs[i]? = some v) (g : Go κ Q h k n pc' L (v :: st)) : Go κ Q h k n pc L (.int x :: .ref a :: st) := by
  obtain ⟨dd, rfl⟩ := hd
  obtain ⟨c, A, r, s⟩ := A
  obtain ⟨q1, q2⟩ := nat_idx hi
  have hl : i < vs.length := (List.getElem?_eq_some_iff.mp hv).1
  exact go_step (fun T locs X e t q => X.baloadBooleans B.exec (j := x) (v := v) (by rw [e]; exact A.1) (State.isArrayOf_alike B.warm.alike A.2.1) A.2.2 (by rw [r, q2]; simp; exact ⟨Int32.not_lt.mp q1, hl⟩) (by rw [r, q2]; simpa using hv) (g := mkF κ.m pc L (.int x :: .ref a :: st)) rfl rfl (hb B.byt dd) _ q) g
theorem go_aaload (B : OkK km κ l Z a0 n0 R own nm bytes maxL ret) {ty : FieldType} {vs : List Value} {i : Nat} (hd : Dc bytes pc .aaload 1 pc') (A : AV Z h a ty vs) (hty : ty.isReference = true) (hi : x.toInt = (i : Int)) (hv : vs[i]? = some v) (g : Go κ Q h k n pc' L (v :: st)) : Go κ Q h k n pc L (.int x :: .ref a :: st) := by
  obtain ⟨dd, rfl⟩ := hd
  obtain ⟨c, A, r, s⟩ := A
  obtain ⟨q1, q2⟩ := nat_idx hi
  have hl : i < vs.length := (List.getElem?_eq_some_iff.mp hv).1
  exact go_step (fun T locs X e t q => X.aaload B.exec (j := x) (v := v) (by rw [e]; exact A.1) (State.isArrayOf_alike B.warm.alike A.2.1) hty A.2.2 (by rw [r, q2]; simp; exact ⟨Int32.not_lt.mp q1, hl⟩) (by rw [r, q2]; simpa using hv) (g := mkF κ.m pc L (.int x :: .ref a :: st)) rfl rfl (hb B.byt dd) _ q) g
theorem go_iastore (B : OkK km κ l Z a0 n0 R own nm bytes maxL ret) {vs : List Value} {i : Nat} (hd : Dc bytes pc .iastore 1 pc') (A : AV Z h a .int vs) (hi : x.toInt = (i : Int)) (hl : i < vs.length) (ha : n0 ≤ a) (g : ∀ h', Wr h h' a i (.int y) → AV Z h' a .int (vs.set i (.int y)) → Go κ Q h' k n pc' L st) : Go κ Q h k n pc L (.int y :: .int x :: .ref a :: st) := fun T locs X N e => by
  obtain ⟨dd, rfl⟩ := hd
  have A0 := A
  obtain ⟨c, A, r, s⟩ := A
  obtain ⟨q1, q2⟩ := nat_idx hi
  obtain ⟨T', h', X', e', W, sp⟩ := stI X B.exec B.warm e A (j := x) (by rw [r, q2]; simp; exact ⟨Int32.not_lt.mp q1, hl⟩) (g := mkF κ.m pc L (.int y :: .int x :: .ref a :: st)) rfl rfl (hb B.byt dd)
  have W' : Wr h h' a i (.int y) := q2 ▸ W
  obtain ⟨t, o, h1, h2⟩ := g h' W' (A0.same W') T' _ X' (Fr.snoc X' N (B.hn ▸ ha)) e'
  exact ⟨t, o, sp _ h1, h2⟩
theorem go_lastore (B : OkK km κ l Z a0 n0 R own nm bytes maxL ret) {vs : List Value} {i : Nat} (hd : Dc bytes pc .lastore 1 pc') (A : AV Z h a .long vs) (hi : x.toInt = (i : Int)) (hl : i < vs.length) (ha : n0 ≤ a) (g : ∀ h', Wr h h' a i (.long u) → AV Z h' a .long (vs.set i (.long u)) → Go κ Q h' k n pc' L st) : Go κ Q h k n pc L (.long u :: .int x :: .ref a :: st) := fun T locs X N e => by
  obtain ⟨dd, rfl⟩ := hd
  have A0 := A
  obtain ⟨c, A, r, s⟩ := A
  obtain ⟨q1, q2⟩ := nat_idx hi
  obtain ⟨T', h', X', e', W, sp⟩ := stJ X B.exec B.warm e A (j := x) (by rw [r, q2]; simp; exact ⟨Int32.not_lt.mp q1, hl⟩) (g := mkF κ.m pc L (.long u :: .int x :: .ref a :: st)) rfl rfl (hb B.byt dd)
  have W' : Wr h h' a i (.long u) := q2 ▸ W
  obtain ⟨t, o, h1, h2⟩ := g h' W' (A0.same W') T' _ X' (Fr.snoc X' N (B.hn ▸ ha)) e'
  exact ⟨t, o, sp _ h1, h2⟩
theorem go_castore (B : OkK km κ l Z a0 n0 R own nm bytes maxL ret) {vs : List Value} {i : Nat} (hd : Dc bytes pc .castore 1 pc') (A : AV Z h a .char vs) (hi : x.toInt = (i : Int)) (hl : i < vs.length) (ha : n0 ≤ a) (g : ∀ h', Wr h h' a i (.int (nar .char y)) → AV Z h' a .char (vs.set i (.int (nar .char y))) → Go κ Q h' k n pc' L st) : Go κ Q h k n pc L (.int y :: .int x :: .ref a :: st) := fun T locs X N e => by
  obtain ⟨dd, rfl⟩ := hd
  have A0 := A
  obtain ⟨c, A, r, s⟩ := A
  obtain ⟨q1, q2⟩ := nat_idx hi
  obtain ⟨T', h', X', e', W, sp⟩ := stC X B.exec B.warm e A (j := x) (by rw [r, q2]; simp; exact ⟨Int32.not_lt.mp q1, hl⟩) (g := mkF κ.m pc L (.int y :: .int x :: .ref a :: st)) rfl rfl (hb B.byt dd)
  have W' : Wr h h' a i (.int (nar .char y)) := q2 ▸ W
  obtain ⟨t, o, h1, h2⟩ := g h' W' (A0.same W') T' _ X' (Fr.snoc X' N (B.hn ▸ ha)) e'
  exact ⟨t, o, sp _ h1, h2⟩
theorem go_bastore (B : OkK km κ l Z a0 n0 R own nm bytes maxL ret) {vs : List Value} {i : Nat} (hd : Dc bytes pc .bastore 1 pc') (A : AV Z h a .byte vs) (hi : x.toInt = (i : Int)) (hl : i < vs.length) (ha : n0 ≤ a) (g : ∀ h', Wr h h' a i (.int (nar .byte y)) → AV Z h' a .byte (vs.set i (.int (nar .byte y))) → Go κ Q h' k n pc' L st) : Go κ Q h k n pc L (.int y :: .int x :: .ref a :: st) := fun T locs X N e => by
  obtain ⟨dd, rfl⟩ := hd
  have A0 := A
  obtain ⟨c, A, r, s⟩ := A
  obtain ⟨q1, q2⟩ := nat_idx hi
  obtain ⟨T', h', X', e', W, sp⟩ := stB X B.exec B.warm e A (j := x) (by rw [r, q2]; simp; exact ⟨Int32.not_lt.mp q1, hl⟩) (g := mkF κ.m pc L (.int y :: .int x :: .ref a :: st)) rfl rfl (hb B.byt dd)
  have W' : Wr h h' a i (.int (nar .byte y)) := q2 ▸ W
  obtain ⟨t, o, h1, h2⟩ := g h' W' (A0.same W') T' _ X' (Fr.snoc X' N (B.hn ▸ ha)) e'
  exact ⟨t, o, sp _ h1, h2⟩
theorem go_zastore (B : OkK km κ l Z a0 n0 R own nm bytes maxL ret) {vs : List Value} {i : Nat} (hd : Dc bytes pc .bastore 1 pc') (A : AV Z h a .boolean vs) (hi : x.toInt = (i : Int)) (hl : i < vs.length) (ha : n0 ≤ a) (g : ∀ h', Wr h h' a i (.int (nar .boolean y)) → AV Z h' a .boolean (vs.set i (.int (nar .boolean y))) → Go κ Q h' k n pc' L st) : Go κ Q h k n pc L (.int y :: .int x :: .ref a :: st) := fun T locs X N e => by
  obtain ⟨dd, rfl⟩ := hd
  have A0 := A
  obtain ⟨c, A, r, s⟩ := A
  obtain ⟨q1, q2⟩ := nat_idx hi
  obtain ⟨T', h', X', e', W, sp⟩ := stZ X B.exec B.warm e A (j := x) (by rw [r, q2]; simp; exact ⟨Int32.not_lt.mp q1, hl⟩) (g := mkF κ.m pc L (.int y :: .int x :: .ref a :: st)) rfl rfl (hb B.byt dd)
  have W' : Wr h h' a i (.int (nar .boolean y)) := q2 ▸ W
  obtain ⟨t, o, h1, h2⟩ := g h' W' (A0.same W') T' _ X' (Fr.snoc X' N (B.hn ▸ ha)) e'
  exact ⟨t, o, sp _ h1, h2⟩
theorem go_newarray (B : OkK km κ l Z a0 n0 R own nm bytes maxL ret) {aty : ArrayType} {i cap : Nat} (hd : Dc bytes pc (.newarray aty) 2 pc') (wa : (Jvm.Cond.arrayClass (newarray.typeOf aty)).before a0 Z = true) (hi : x.toInt = (i : Int)) (hcap : i ≤ cap) (hbig : cap * 8 ≤ 536870912) (hc : k + 1 ≤ R.cells) (hl : n + cap ≤ R.slots)
    (g : ∀ h' b, b = h.size → Ext h h' → AV Z h' b (newarray.typeOf aty) (List.replicate i (defaultValue (newarray.typeOf aty))) → Exa Z h' b ("[" ++ (newarray.typeOf aty).toString) → Go κ Q h' (k + 1) (n + cap) pc' L (.ref b :: st)) : Go κ Q h k n pc L (.int x :: st) := fun T locs X N e => by
  obtain ⟨dd, rfl⟩ := hd
  obtain ⟨q1, q2⟩ := nat_idx hi
  have hcb : componentBytes (newarray.typeOf aty) ≤ 8 := by cases aty <;> decide
  have hbig' : x.toNatClampNeg * componentBytes (newarray.typeOf aty) ≤ 536870912 := Nat.le_trans (Nat.mul_le_mul (q2 ▸ hcap) hcb) hbig
  obtain ⟨cA, kA, comp, f1, f2, f3, X', sp⟩ := X.newarrayPrim B.exec (mvA B.warm wa) (g := mkF κ.m pc L (.int x :: st)) rfl (hb B.byt dd) rfl q1 hbig' (by rw [B.room]; exact hc) (by rw [B.room, q2]; omega)
  subst e
  have f1' : Z.vm.findClass ("[" ++ (newarray.typeOf aty).toString) = some cA := by rw [← B.warm.alike.findClass]; exact f1
  obtain ⟨kZ, z1, -⟩ := Vm.findClass_spec f1'
  obtain ⟨k', z2, z3⟩ := B.warm.alike.2.2 _ _ z1
  cases f2.symm.trans z2
  have f4 : kZ.kind = .array comp (newarray.typeOf aty) := by rw [← f3, z3]
  have hat : (T.heap.push { cls := cA, slots := Array.replicate x.toNatClampNeg (defaultValue (newarray.typeOf aty)), vm := .none : Cell })[T.heap.size]? = some { cls := cA, slots := Array.replicate x.toNatClampNeg (defaultValue (newarray.typeOf aty)), vm := .none } := by simp
  have hE : Ext T.heap (T.heap.push { cls := cA, slots := Array.replicate x.toNatClampNeg (defaultValue (newarray.typeOf aty)), vm := .none : Cell }) := ext_of fun a ha => by rw [Array.getElem?_push_lt ha]; exact (Array.getElem?_eq_getElem _).symm
  obtain ⟨t, o, h1, h2⟩ := g _ _ rfl hE ⟨_, ⟨hat, ⟨by simp, kZ, z1, comp, f4⟩, by simp⟩, by simp [q2], by simp; have := x.toInt_lt; omega⟩
    ⟨_, kZ, hat, f1', z1, rfl, fun q => by rw [f4] at q; cases q⟩ _ locs (X'.more (Nat.le_refl _) (by rw [q2]; omega)) N rfl
  exact ⟨t, o, sp _ h1, h2⟩
theorem go_ldcI (B : OkK km κ l Z a0 n0 R own nm bytes maxL ret) {idx : Nat} (hd : Dc bytes pc (.ldc idx) 2 pc') (wl : (Jvm.Cond.constant own idx x).before a0 Z = true) (g : Go κ Q h k n pc' L (.int x :: st)) : Go κ Q h k n pc L st := by
  obtain ⟨dd, rfl⟩ := hd
  exact go_step (fun T locs X e t q => X.ldcInt B.exec B.hown (mvT B.warm wl) (g := mkF κ.m pc L st) rfl (hb B.byt dd) _ q) g
theorem go_ldcWI (B : OkK km κ l Z a0 n0 R own nm bytes maxL ret) {idx : Nat} (hd : Dc bytes pc (.ldc_w idx) 3 pc') (wl : (Jvm.Cond.constant own idx x).before a0 Z = true) (g : Go κ Q h k n pc' L (.int x :: st)) : Go κ Q h k n pc L st := by
  obtain ⟨dd, rfl⟩ := hd
  exact go_step (fun T locs X e t q => X.ldcwInt B.exec B.hown (mvT B.warm wl) (g := mkF κ.m pc L st) rfl (hb B.byt dd) _ q) g
theorem go_ldc2J (B : OkK km κ l Z a0 n0 R own nm bytes maxL ret) {idx : Nat} (hd : Dc bytes pc (.ldc2_w idx) 3 pc') (wl : (Jvm.Cond.constantLong own idx u).before a0 Z = true) (g : Go κ Q h k n pc' L (.long u :: st)) : Go κ Q h k n pc L st := by
  obtain ⟨dd, rfl⟩ := hd
  exact go_step (fun T locs X e t q => X.ldc2Long B.exec B.hown (mvT B.warm wl) (g := mkF κ.m pc L st) rfl (hb B.byt dd) _ q) g
theorem go_initO (B : OkK km κ l Z a0 n0 R own nm bytes maxL ret) {idx W : Nat} (hd : Dc bytes pc (.invokespecial idx) 3 pc') (w1 : (Jvm.Cond.methodLink own idx Lib.objectInit).before a0 Z = true) (w2 : (Jvm.Cond.instanceMethod Lib.objectInit).before a0 Z = true) (w3 : (Jvm.Cond.code Lib.objectInit ⟨#[0xb1]⟩ 1 none).before a0 Z = true)
    (hs : L.size = maxL) (hW : (st.map fun v => v.category).sum = W) (hf : 1 ≤ R.frames) (hl : W + 12 ≤ R.locals) (g : Go κ Q h k n pc' L st) : Go κ Q h k n pc L (.ref a :: st) := fun T locs X N e => by
  obtain ⟨dd, rfl⟩ := hd
  obtain ⟨T', X', e', sp⟩ := initO X B.exec B.warm B.hown w1 w2 w3 e (g := mkF κ.m pc L (.ref a :: st)) rfl (by rw [B.mxl]; exact hs) rfl (hb B.byt dd) (by rw [B.room]; exact hf) (W := W) (by show 2 * 0 + _ ≤ _; omega) (by rw [B.room]; exact hl)
  obtain ⟨t, o, h1, h2⟩ := g T' locs X' N e'
  exact ⟨t, o, sp _ h1, h2⟩
section Call
variable {y' : MethodName} {idx W : Nat} {bytes' : ByteArray} {maxL' : Nat} {ret' : Option FieldType} {rm : Room} {as' : Array Value} {argsL : List Value} {Q' : Option Value → Heap → Prop} {ps : List FieldType} {rt : Option FieldType}
theorem go_static (B : OkK km κ l Z a0 n0 R own nm bytes maxL ret) (hd : Dc bytes pc (.invokestatic idx) 3 pc') (w1 : (Jvm.Cond.methodLink own idx y').before a0 Z = true) (w2 : (Jvm.Cond.static y').before a0 Z = true) (w3 : (Jvm.Cond.initialized y'.cls).before a0 Z = true) (w4 : (Jvm.Cond.code y' bytes' maxL' ret').before a0 Z = true)
    (hy : y'.cls ≠ "java/lang/invoke/MethodHandle" ∧ y'.cls ≠ "java/lang/invoke/VarHandle") (C : Ct l Z n0 y' bytes' maxL' ret' [] rm argsL.toArray h Q') (pd : parseMethodDescriptor y'.desc = some ⟨ps, rt⟩) (hlen : argsL.length = ps.length) (hst : st' = argsL.reverse ++ st) (hs : L.size = maxL)
    (hW : (st.map fun v => v.category).sum = W) (hf : rm.frames + 1 ≤ R.frames) (hl : W + (maxL' + 11) + rm.locals ≤ R.locals) (hc : k + rm.cells ≤ R.cells) (hn : n + rm.slots ≤ R.slots)
    (g : ∀ v h', Q' v h' → Go κ Q h' (k + rm.cells) (n + rm.slots) pc' L (v.toList ++ st)) : Go κ Q h k n pc L st' := fun T locs X N e => by
  obtain ⟨dd, rfl⟩ := hd
  have C' : Ct κ.l Z n0 y' bytes' maxL' ret' [] rm argsL.toArray h Q' := B.hl.symm ▸ C
  obtain ⟨vv, _, ⟨T', L2, k2, n2⟩, -, X', ⟨Lc, hQ, l2, y2, z2⟩, sp⟩ := Jvm.LawKit.callS X B.exec (y := y') B.hown (mvT B.warm w1) (mvT B.warm w2) (mvT B.warm w3) (mvT B.warm w4) hy
    (backOf (Q := fun v h L => Q' v h ∧ Fr n0 L) (W := W) C' B.warm w4 w3 (by rw [B.room]; exact hf) (by rw [B.room]; exact hl)) (g := mkF κ.m pc L st') rfl (by rw [B.mxl]; exact hs) (argsL := argsL) (rest := st) (lenOf pd hlen) hst (by show 2 * 0 + _ ≤ _; omega) (hb B.byt dd)
    (fun _ _ => ⟨rfl, e, by rw [B.room]; exact hc, by rw [B.room]; exact hn⟩)
  dsimp only [Pt.U, Pt.locs, Pt.cells, Pt.slots] at X' l2 y2 z2 sp hQ
  subst l2 y2 z2
  obtain ⟨t, o, h1, h2⟩ := g vv T'.heap hQ.1 T' _ X' (Fr.app N (B.hn.symm ▸ hQ.2)) rfl
  exact ⟨t, o, sp _ h1, h2⟩
theorem go_special (B : OkK km κ l Z a0 n0 R own nm bytes maxL ret) (hd : Dc bytes pc (.invokespecial idx) 3 pc') (hi : y'.name = "<init>") (w1 : (Jvm.Cond.methodLink own idx y').before a0 Z = true) (w2 : (Jvm.Cond.instanceMethod y').before a0 Z = true) (w3 : (Jvm.Cond.initialized y'.cls).before a0 Z = true) (w4 : (Jvm.Cond.code y' bytes' maxL' none).before a0 Z = true)
    (hy : y'.cls ≠ "java/lang/invoke/MethodHandle" ∧ y'.cls ≠ "java/lang/invoke/VarHandle") (C : Ct l Z n0 y' bytes' maxL' none [] rm (.ref a :: argsL).toArray h Q') (pd : parseMethodDescriptor y'.desc = some ⟨ps, rt⟩) (hlen : argsL.length = ps.length) (hst : st' = argsL.reverse ++ .ref a :: st) (hs : L.size = maxL)
    (hW : (st.map fun v => v.category).sum = W) (hf : rm.frames + 1 ≤ R.frames) (hl : W + (maxL' + 11) + rm.locals ≤ R.locals) (hc : k + rm.cells ≤ R.cells) (hn : n + rm.slots ≤ R.slots)
    (g : ∀ v h', Q' v h' → Go κ Q h' (k + rm.cells) (n + rm.slots) pc' L (v.toList ++ st)) : Go κ Q h k n pc L st' := fun T locs X N e => by
  obtain ⟨dd, rfl⟩ := hd
  have C' : Ct κ.l Z n0 y' bytes' maxL' none [] rm (.ref a :: argsL).toArray h Q' := B.hl.symm ▸ C
  obtain ⟨vv, _, ⟨T', L2, k2, n2⟩, -, X', ⟨Lc, hQ, l2, y2, z2⟩, sp⟩ := X.specialBack B.exec (y := y') hi B.hown (mvT B.warm w1) (mvT B.warm w2) (mvT B.warm w4) hy
    (backOf (Q := fun v h L => Q' v h ∧ Fr n0 L) (W := W) C' B.warm w4 w3 (by rw [B.room]; exact hf) (by rw [B.room]; exact hl)) (g := mkF κ.m pc L st') rfl (by rw [B.mxl]; exact hs) (Steps.refl _) (a := a) (argsL := argsL) (rest := st) (lenOf pd hlen) hst (by show 2 * 0 + _ ≤ _; omega) (hb B.byt dd)
    (fun _ _ => ⟨rfl, e, by rw [B.room]; exact hc, by rw [B.room]; exact hn⟩)
  dsimp only [Pt.U, Pt.locs, Pt.cells, Pt.slots] at X' l2 y2 z2 sp hQ
  subst l2 y2 z2
  obtain ⟨t, o, h1, h2⟩ := g vv T'.heap hQ.1 T' _ X' (Fr.app N (B.hn.symm ▸ hQ.2)) rfl
  exact ⟨t, o, sp.trans h1, h2⟩
theorem go_virtual (B : OkK km κ l Z a0 n0 R own nm bytes maxL ret) {C0 : String} (hd : Dc bytes pc (.invokevirtual idx) 3 pc') (w1 : (Jvm.Cond.methodLink own idx y').before a0 Z = true) (w2 : (Jvm.Cond.declares y').before a0 Z = true) (w5 : (Jvm.Cond.selects C0 y' y').before a0 Z = true) (w6 : (Jvm.Cond.instanceMethod y').before a0 Z = true) (w3 : (Jvm.Cond.initialized y'.cls).before a0 Z = true) (w4 : (Jvm.Cond.code y' bytes' maxL' ret').before a0 Z = true)
    (hy : y'.cls ≠ "java/lang/invoke/MethodHandle" ∧ y'.cls ≠ "java/lang/invoke/VarHandle") (E : Exa Z h a C0) (C : Ct l Z n0 y' bytes' maxL' ret' [] rm (.ref a :: argsL).toArray h Q') (pd : parseMethodDescriptor y'.desc = some ⟨ps, rt⟩) (hlen : argsL.length = ps.length) (hst : st' = argsL.reverse ++ .ref a :: st) (hs : L.size = maxL)
    (hW : (st.map fun v => v.category).sum = W) (hf : rm.frames + 1 ≤ R.frames) (hl : W + (maxL' + 11) + rm.locals ≤ R.locals) (hc : k + rm.cells ≤ R.cells) (hn : n + rm.slots ≤ R.slots)
    (g : ∀ v h', Q' v h' → Go κ Q h' (k + rm.cells) (n + rm.slots) pc' L (v.toList ++ st)) : Go κ Q h k n pc L st' := fun T locs X N e => by
  obtain ⟨dd, rfl⟩ := hd
  have C' : Ct κ.l Z n0 y' bytes' maxL' ret' [] rm (.ref a :: argsL).toArray h Q' := B.hl.symm ▸ C
  obtain ⟨cq, kq, qa, qb, qc⟩ := isOf B.warm e E
  obtain ⟨vv, _, ⟨T', L2, k2, n2⟩, -, X', ⟨Lc, hQ, l2, y2, z2⟩, sp⟩ := X.virtualBack B.exec (y := y') (z := y') B.hown (mvT B.warm w1) (mvT B.warm w2) (notFace_of_selects (args := #[]) (mvT B.warm w5)) (mvT B.warm w5) (mvT B.warm w6) hy
    (backOf (Q := fun v h L => Q' v h ∧ Fr n0 L) (W := W) C' B.warm w4 w3 (by rw [B.room]; exact hf) (by rw [B.room]; exact hl)) qa qc (g := mkF κ.m pc L st') rfl (by rw [B.mxl]; exact hs) (Steps.refl _) (argsL := argsL) (rest := st) (lenOf pd hlen) hst (by show 2 * 0 + _ ≤ _; omega) (hb B.byt dd)
    (fun _ _ => ⟨rfl, e, by rw [B.room]; exact hc, by rw [B.room]; exact hn⟩)
  dsimp only [Pt.U, Pt.locs, Pt.cells, Pt.slots] at X' l2 y2 z2 sp hQ
  subst l2 y2 z2
  obtain ⟨t, o, h1, h2⟩ := g vv T'.heap hQ.1 T' _ X' (Fr.app N (B.hn.symm ▸ hQ.2)) rfl
  exact ⟨t, o, sp.trans h1, h2⟩
end Call
theorem go_end (B : OkK km κ l Z a0 n0 R own nm bytes maxL ret) {vv : Option Value} (hk : k ≤ R.cells) (hn : n ≤ R.slots) (hq : Q vv h) (hv : ret = none → vv = none) (hkm : km ≤ h.size)
    (hs : ∀ (T : State) (locs : List Loc) (fs : List Frame), Stand κ.p κ.l κ.e κ.R κ.s κ.m κ.args κ.below κ.meth κ.c T locs k n → (∀ (f : JFrame) (acts : List Action), f.method = κ.m → f.locked = none → f.entered = [] → (doReturn κ.e (T.setTop f) acts vv).1 = T.setFrames fs) → Steps κ.p.tables κ.e κ.below (T.setTop (mkF κ.m pc L st)) (T.setFrames fs)) : Go κ Q h k n pc L st := fun T locs X N e => by
  obtain ⟨fs, hr, hrun, hended, hW, hsame⟩ := X.leave (v := vv) (fun q => hv (B.rets.symm.trans q)) B.nolock
  exact ⟨_, _, hs T locs fs X hr, hrun, hended, _, _, rfl, ⟨by show Q vv T.heap; rw [e]; exact hq, N⟩, B.hE _ _ _ ⟨⟨_, rfl⟩, hW, hsame.mono (by rw [B.room]; exact hk) (by rw [B.room]; exact hn)⟩ (by show κ.kmin ≤ T.heap.size; rw [e, B.hkm]; exact hkm)⟩
theorem go_ireturn (B : OkK km κ l Z a0 n0 R own nm bytes maxL (some .int)) (hd : Dc bytes pc .ireturn 1 pc') (hk : k ≤ R.cells) (hn : n ≤ R.slots) (hq : Q (some (.int x)) h) (hkm : km ≤ h.size := by first | exact Nat.zero_le _ | assumption) : Go κ Q h k n pc L (.int x :: st) :=
  go_end B hk hn hq (fun q => by cases q) hkm (fun T locs fs X hr => retOut X B.exec (t := .int) (i := .ireturn) B.rets rfl (Or.inl ⟨rfl, Or.inl rfl, x, rfl⟩) (hb B.byt hd.1) hr)
theorem go_zreturn (B : OkK km κ l Z a0 n0 R own nm bytes maxL (some .boolean)) (hd : Dc bytes pc .ireturn 1 pc') (hk : k ≤ R.cells) (hn : n ≤ R.slots) (hz : x &&& 1 = y) (hq : Q (some (.int y)) h) (hkm : km ≤ h.size := by first | exact Nat.zero_le _ | assumption) : Go κ Q h k n pc L (.int x :: st) := by
  subst hz
  exact go_end B hk hn hq (fun q => by cases q) hkm (fun T locs fs X hr => retN X B.exec (t := .boolean) B.rets (by simp) (hb B.byt hd.1) hr)
theorem go_breturn (B : OkK km κ l Z a0 n0 R own nm bytes maxL (some .byte)) (hd : Dc bytes pc .ireturn 1 pc') (hk : k ≤ R.cells) (hn : n ≤ R.slots) (hz : x.toInt8.toInt32 = y) (hq : Q (some (.int y)) h) (hkm : km ≤ h.size := by first | exact Nat.zero_le _ | assumption) : Go κ Q h k n pc L (.int x :: st) := by
  subst hz
  exact go_end B hk hn hq (fun q => by cases q) hkm (fun T locs fs X hr => retN X B.exec (t := .byte) B.rets (by simp) (hb B.byt hd.1) hr)
theorem go_lreturn (B : OkK km κ l Z a0 n0 R own nm bytes maxL (some .long)) (hd : Dc bytes pc .lreturn 1 pc') (hk : k ≤ R.cells) (hn : n ≤ R.slots) (hq : Q (some (.long u)) h) (hkm : km ≤ h.size := by first | exact Nat.zero_le _ | assumption) : Go κ Q h k n pc L (.long u :: st) :=
  go_end B hk hn hq (fun q => by cases q) hkm (fun T locs fs X hr => retOut X B.exec (t := .long) (i := .lreturn) B.rets rfl (Or.inr (Or.inl ⟨rfl, rfl, u, rfl⟩)) (hb B.byt hd.1) hr)
theorem go_areturn {ty : FieldType} (B : OkK km κ l Z a0 n0 R own nm bytes maxL (some ty)) (hd : Dc bytes pc .areturn 1 pc') (hty : ty.isReference = true) (hnr : narrow ty v = v) (hv : v.isRef = true) (hk : k ≤ R.cells) (hn : n ≤ R.slots) (hq : Q (some v) h) (hkm : km ≤ h.size := by first | exact Nat.zero_le _ | assumption) : Go κ Q h k n pc L (v :: st) :=
  go_end B hk hn hq (fun q => by cases q) hkm (fun T locs fs X hr => retOut X B.exec (t := ty) (i := .areturn) B.rets hnr (Or.inr (Or.inr (Or.inr (Or.inr ⟨rfl, hty, hv⟩)))) (hb B.byt hd.1) hr)
theorem go_return (B : OkK km κ l Z a0 n0 R own nm bytes maxL none) (hd : Dc bytes pc .return_ 1 pc') (hk : k ≤ R.cells) (hn : n ≤ R.slots) (hq : Q none h) (hkm : km ≤ h.size := by first | exact Nat.zero_le _ | assumption) : Go κ Q h k n pc L [] :=
  go_end B hk hn hq (fun _ => rfl) hkm (fun T locs fs X hr => X.returnOut B.exec B.rets (hb B.byt hd.1) hr)
end G
end Jvm.OwnGo
namespace Jvm.OwnGo
open Sem ClassFile Op Lib Jvm.Stand Jvm.Free Jvm.LawKit Jvm.RoadKit
theorem i_lt {x y : Int32} {i j : Int} (hx : x.toInt = i) (hy : y.toInt = j) (h : i < j) : x < y := Int32.lt_iff_toInt_lt.mpr (by omega)
theorem i_nlt {x y : Int32} {i j : Int} (hx : x.toInt = i) (hy : y.toInt = j) (h : j ≤ i) : ¬ x < y := fun q => by have := Int32.lt_iff_toInt_lt.mp q; omega
theorem i_of_lt {x y : Int32} {i j : Int} (hx : x.toInt = i) (hy : y.toInt = j) (h : x < y) : i < j := by have := Int32.lt_iff_toInt_lt.mp h; omega
theorem i_of_nlt {x y : Int32} {i j : Int} (hx : x.toInt = i) (hy : y.toInt = j) (h : ¬ x < y) : j ≤ i := by
  have := Int32.le_iff_toInt_le.mp (Int32.not_lt.mp h)
  omega
theorem i_eq {x y : Int32} {i : Int} (hx : x.toInt = i) (hy : y.toInt = i) : x = y := Int32.toInt_inj.mp (hx.trans hy.symm)
theorem i_ne {x y : Int32} {i j : Int} (hx : x.toInt = i) (hy : y.toInt = j) (h : i ≠ j) : ¬ x = y := fun q => h (by rw [← hx, ← hy, q])
theorem i_of_ne {x y : Int32} {i j : Int} (hx : x.toInt = i) (hy : y.toInt = j) (h : ¬ x = y) : i ≠ j := fun q => h (i_eq hx (hy.trans q.symm))
theorem i_add {x y : Int32} {i j : Int} (hx : x.toInt = i) (hy : y.toInt = j) (h1 : -2147483648 ≤ i + j) (h2 : i + j < 2147483648) : (x + y).toInt = i + j := by
  rw [Int32.toInt_add, hx, hy]; exact Int.bmod_eq_of_le (by omega) (by omega)
theorem i_sub {x y : Int32} {i j : Int} (hx : x.toInt = i) (hy : y.toInt = j) (h1 : -2147483648 ≤ i - j) (h2 : i - j < 2147483648) : (x - y).toInt = i - j := by
  rw [Int32.toInt_sub, hx, hy]; exact Int.bmod_eq_of_le (by omega) (by omega)
theorem i_mul {x y : Int32} {i j : Int} (hx : x.toInt = i) (hy : y.toInt = j) (h1 : -2147483648 ≤ i * j) (h2 : i * j < 2147483648) : (x * y).toInt = i * j := by
  rw [Int32.toInt_mul, hx, hy]; exact Int.bmod_eq_of_le (by omega) (by omega)
/-- x & m for a mask m that isn't negative -/
theorem i_and (x m : Int32) (hm : 0 ≤ m.toInt) : 0 ≤ (x &&& m).toInt ∧ (x &&& m).toInt ≤ m.toInt := by
  have h1 : ¬ (x &&& m) < 0 := by
    rw [XT.and_neg32]
    exact fun q => by have := (XT.negI32 _).mp q.2; omega
  have h2 : 0 ≤ (x &&& m).toInt := by
    have := mt (XT.negI32 _).mpr h1
    omega
  refine ⟨h2, ?_⟩
  have e1 : (x &&& m).toInt = ((x &&& m).toBitVec.toNat : Int) := by
    show (x &&& m).toBitVec.toInt = _
    rw [BitVec.toInt_eq_toNat_cond]
    split
    · rfl
    · rename_i q
      have h3 : (x &&& m).toBitVec.toInt = _ := BitVec.toInt_eq_toNat_cond _
      rw [if_neg q] at h3
      have h4 : 0 ≤ (x &&& m).toBitVec.toInt := h2
      have := (x &&& m).toBitVec.isLt
      omega
  have e2 : m.toInt = (m.toBitVec.toNat : Int) := by
    show m.toBitVec.toInt = _
    rw [BitVec.toInt_eq_toNat_cond]
    split
    · rfl
    · rename_i q
      have h3 : m.toBitVec.toInt = _ := BitVec.toInt_eq_toNat_cond _
      rw [if_neg q] at h3
      have h4 : 0 ≤ m.toBitVec.toInt := hm
      have := m.toBitVec.isLt
      omega
  rw [e1, e2, Int32.toBitVec_and, BitVec.toNat_and]
  exact Int.ofNat_le.mpr Nat.and_le_right
theorem i_mod {x y : Int32} {i j : Int} (hx : x.toInt = i) (hy : y.toInt = j) (hi : 0 ≤ i) (hj : 0 < j) : (x % y).toInt = i % j := by
  rw [Int32.toInt_mod, hx, hy, Int.tmod_eq_emod_of_nonneg hi]
theorem i_nat {x : Int32} (h : 0 ≤ x.toInt) : ∃ n : Nat, x.toInt = (n : Int) ∧ n < 2147483648 := ⟨x.toInt.toNat, by omega, by have := x.toInt_lt; omega⟩
theorem i_ofNat {n : Nat} (h : n < 2147483648) : (Int32.ofNat n).toInt = (n : Int) := Int32.toInt_ofNat_of_lt h
end Jvm.OwnGo
namespace Jvm.OwnGo
open Sem ClassFile Op Lib Jvm.Stand Jvm.Free Jvm.LawKit Jvm.RoadKit
section G
variable {km : Nat} {κ : Cx} {l : Launch} {Z : State} {a0 : Array Value} {n0 : Nat} {R : Room} {own nm : String} {bytes : ByteArray} {maxL : Nat} {ret : Option FieldType} {Q : Option Value → Heap → Prop} {h : Heap} {k n pc pc' pc1 pc2 : Nat} {L L' : Array Slot} {st st' : List Value} {o : Int} {x y : Int32} {u w : Int64} {a b : Addr} {v v' : Value}
theorem fitC_of {c : Cell} {ty : FieldType} (A : Arr Z h a c ty) (hv : ∀ v ∈ c.slots.toList, fits ty v = true) : FitC Z c := fun i v q => by
  obtain ⟨-, kk, hk, comp, hkind⟩ := A.2.1
  have m : v ∈ c.slots.toList := by
    obtain ⟨hi, rfl⟩ := Array.getElem?_eq_some_iff.mp q
    exact Array.mem_toList_iff.mpr (Array.getElem_mem hi)
  simp [State.fitsSlot, State.slotType?, hk, hkind, hv v m]
/-- array.clone() -/
theorem go_clone (B : OkK km κ l Z a0 n0 R own nm bytes maxL ret) {ad : String} {idx W cap : Nat} {ty : FieldType} {vs : List Value} (hd : Dc bytes pc (.invokevirtual idx) 3 pc')
    (w1 : (Jvm.Cond.methodLink own idx ⟨ad, "clone", "()Ljava/lang/Object;"⟩).before a0 Z = true) (w2 : (Jvm.Cond.sameMethod ad "java/lang/Object" "clone" "()Ljava/lang/Object;").before a0 Z = true) (w3 : (Jvm.Cond.native ⟨"java/lang/Object", "clone", "()Ljava/lang/Object;"⟩).before a0 Z = true)
    (w4 : (Jvm.Cond.instanceMethod ⟨"java/lang/Object", "clone", "()Ljava/lang/Object;"⟩).before a0 Z = true) (w5 : (Jvm.Cond.selects ad ⟨ad, "clone", "()Ljava/lang/Object;"⟩ ⟨"java/lang/Object", "clone", "()Ljava/lang/Object;"⟩).before a0 Z = true) (w6 : (Jvm.Cond.castable ad "java/lang/Cloneable").before a0 Z = true)
    (A : AV Z h a ty vs) (E : Exa Z h a ad) (hv : ∀ v ∈ vs, fits ty v = true) (hs : L.size = maxL) (hW : (st.map fun v => v.category).sum = W) (hf : 1 ≤ R.frames) (hl : W + 14 ≤ R.locals) (hcap : vs.length ≤ cap) (hc : k + 1 ≤ R.cells) (hsl : n + cap ≤ R.slots)
    (g : ∀ h' b, b = h.size → Ext h h' → AV Z h' b ty vs → Exa Z h' b ad → Go κ Q h' (k + 1) (n + cap) pc' L (.ref b :: st)) : Go κ Q h k n pc L (.ref a :: st) := fun T locs X N e => by
  obtain ⟨dd, rfl⟩ := hd
  obtain ⟨c, A, r, s⟩ := A
  obtain ⟨T', h', X', e', E', A', C', sp⟩ := cloneA X B.exec B.warm B.hown w1 w2 w3 w4 w5 w6 e A E (fitC_of A (by rw [r]; simpa using hv)) (g := mkF κ.m pc L (.ref a :: st)) rfl (by rw [B.mxl]; exact hs) rfl (hb B.byt dd) (by rw [B.room]; exact hf) (W := W) (cap := cap) (by show 2 * 0 + _ ≤ _; omega) (by rw [B.room]; exact hl) (by rw [r]; simpa using hcap) (by rw [B.room]; exact hc) (by rw [B.room]; exact hsl)
  obtain ⟨t, o, h1, h2⟩ := g h' _ rfl E' ⟨_, A', r, s⟩ C' T' locs X' N e'
  exact ⟨t, o, sp _ h1, h2⟩
theorem go_checkcast (B : OkK km κ l Z a0 n0 R own nm bytes maxL ret) {K : String} {idx : Nat} (hd : Dc bytes pc (.checkcast idx) 3 pc') (wl : (Jvm.Cond.classLink own idx K).before a0 Z = true) (F : Ins Z h a K true) (g : Go κ Q h k n pc' L (.ref a :: st)) : Go κ Q h k n pc L (.ref a :: st) := fun T locs X N e => by
  obtain ⟨dd, rfl⟩ := hd
  obtain ⟨T', X', e', sp⟩ := castY X B.exec B.warm B.hown wl e F (g := mkF κ.m pc L (.ref a :: st)) rfl rfl (hb B.byt dd)
  obtain ⟨t, o, h1, h2⟩ := g T' locs X' N e'
  exact ⟨t, o, sp _ h1, h2⟩
theorem AV.arv {ty : FieldType} {vs : List Value} {d : Value} (A : AV Z h a ty vs) (hv : ∀ v ∈ vs, fits ty v = true) : ∃ kk, Arv Z h a kk ty (Int32.ofNat vs.length) vs d := by
  obtain ⟨c, A, r, s⟩ := A
  have e1 : (Int32.ofNat vs.length).toInt = (vs.length : Int) := Int32.toInt_ofNat_of_lt s
  obtain ⟨q1, q2⟩ := nat_idx e1
  refine ⟨_, c, A, rfl, by rw [r, q2]; simp, q1, fun i hi => ?_, fun i hi => ?_⟩
  · rw [r] at hi ⊢
    have hi' : i < vs.length := by simpa using hi
    simp [List.getD, hi']
  · rw [r] at hi
    have hi' : i < vs.length := by simpa using hi
    have e : vs.getD i d = vs[i] := by simp [List.getD, hi']
    rw [e]
    exact hv _ (List.getElem_mem hi')
theorem AV.of_arv {ty : FieldType} {vs : List Value} {d : Value} {kk : ClassId} {z : Int32} (F : Arv Z h a kk ty z vs d) (e : vs.length = z.toNatClampNeg) : AV Z h a ty vs := by
  obtain ⟨c, A, -, S, N, H, -⟩ := F
  refine ⟨c, A, ?_, by rw [e]; exact (back32 N).2⟩
  apply Array.ext_getElem?
  intro i
  rcases Nat.lt_or_ge i vs.length with q | q
  · rw [H i (by omega)]; simp [List.getD, q]
  · rw [Array.getElem?_eq_none (by omega)]; simp [q]
/-- System.arraycopy between two arrays of one primitive kind: from place sp on, dc places, to place dp on -/
theorem go_arraycopy (B : OkK km κ l Z a0 n0 R own nm bytes maxL ret) {idx W si di ni : Nat} {ty : FieldType} {vs ws : List Value} {sp dp cn : Int32} (hd : Dc bytes pc (.invokestatic idx) 3 pc')
    (w1 : (Jvm.Cond.methodLink own idx Jvm.Stand.acN).before a0 Z = true) (w2 : (Jvm.Cond.native Jvm.Stand.acN).before a0 Z = true) (w3 : (Jvm.Cond.static Jvm.Stand.acN).before a0 Z = true) (w4 : (Jvm.Cond.initialized "java/lang/System").before a0 Z = true)
    (A : AV Z h a ty vs) (A2 : AV Z h b ty ws) (hp : refKind ty = false) (hv : ∀ v ∈ vs, fits ty v = true) (hw : ∀ v ∈ ws, fits ty v = true) (hsp : sp.toInt = (si : Int)) (hdp : dp.toInt = (di : Int)) (hcn : cn.toInt = (ni : Int)) (h4 : si + ni ≤ vs.length) (h5 : di + ni ≤ ws.length) (ge : n0 ≤ b)
    (hs : L.size = maxL) (hW : (st.map fun v => v.category).sum = W) (hf : 1 ≤ R.frames) (hl : W + 18 ≤ R.locals)
    (g : ∀ h', Keep h h' [b] → AV Z h' b ty (ws.take di ++ (vs.drop si).take ni ++ ws.drop (di + ni)) → Go κ Q h' k n pc' L st) : Go κ Q h k n pc L (.int cn :: .int dp :: .ref b :: .int sp :: .ref a :: st) := fun T locs X N e => by
  obtain ⟨dd, rfl⟩ := hd
  obtain ⟨k1, F1⟩ := A.arv (d := .null) hv
  obtain ⟨k2, F2⟩ := A2.arv (d := .null) hw
  obtain ⟨p1, p2⟩ := nat_idx hsp
  obtain ⟨d1, d2⟩ := nat_idx hdp
  obtain ⟨m1, m2⟩ := nat_idx hcn
  have eA : (Int32.ofNat vs.length).toNatClampNeg = vs.length := (nat_idx (Int32.toInt_ofNat_of_lt A.len)).2
  have eB : (Int32.ofNat ws.length).toNatClampNeg = ws.length := (nat_idx (Int32.toInt_ofNat_of_lt A2.len)).2
  have hus : (vs.drop si).take ni = (List.range cn.toNatClampNeg).map fun i => vs.getD (sp.toNatClampNeg + i) .null := by
    rw [m2, p2]
    apply List.ext_getElem?
    intro i
    rcases Nat.lt_or_ge i ni with q | q
    · rw [List.getElem?_take_of_lt q, List.getElem?_drop]
      simp only [List.getElem?_map, List.getElem?_range q, Option.map_some, List.getD]
      rw [List.getElem?_eq_getElem (by omega)]; rfl
    · rw [List.getElem?_eq_none (by simp; omega), List.getElem?_eq_none (by simp; omega)]
  obtain ⟨T', h', L2, X', e', N', K, F3, sp'⟩ := cpA X B.exec B.warm B.hown w1 w2 w3 w4 e F1 F2 (Or.inl ⟨rfl, hp⟩) p1 d1 m1 (by rw [p2, m2, eA]; exact h4) (by rw [d2, m2, eB]; exact h5) hus (by rw [d2, m2]; exact h5) N (B.hn ▸ ge) (g := mkF κ.m pc L (.int cn :: .int dp :: .ref b :: .int sp :: .ref a :: st)) rfl (by rw [B.mxl]; exact hs) rfl (hb B.byt dd) (by rw [B.room]; exact hf) (W := W) (by show 2 * 0 + _ ≤ _; omega) (by rw [B.room]; exact hl)
  rw [d2, m2] at F3
  have F4 := AV.of_arv F3 (by rw [eB]; simp; omega)
  obtain ⟨t, o, h1, h2⟩ := g h' K F4 T' _ X' N' e'
  exact ⟨t, o, sp' _ h1, h2⟩
end G
end Jvm.OwnGo
namespace Jvm.OwnGo
open Sem ClassFile Op Lib Jvm.Stand Jvm.Free Jvm.LawKit Jvm.RoadKit
theorem go_instanceof {km : Nat} {κ : Cx} {l : Launch} {Z : State} {a0 : Array Value} {n0 : Nat} {R : Room} {own nm : String} {bytes : ByteArray} {maxL : Nat} {ret : Option FieldType} {Q : Option Value → Heap → Prop} {h : Heap} {k n pc pc' : Nat} {L : Array Slot} {st : List Value} {a : Addr} (B : OkK km κ l Z a0 n0 R own nm bytes maxL ret) {K : String} {idx : Nat} (hd : Dc bytes pc (.instanceof idx) 3 pc') (wl : (Jvm.Cond.classLink own idx K).before a0 Z = true) (F : Ins Z h a K true) (g : Go κ Q h k n pc' L (.int 1 :: st)) : Go κ Q h k n pc L (.ref a :: st) := fun T locs X N e => by
  obtain ⟨dd, rfl⟩ := hd
  obtain ⟨T', X', e', sp⟩ := instY X B.exec B.warm B.hown wl e F (g := mkF κ.m pc L (.ref a :: st)) rfl rfl (hb B.byt dd)
  obtain ⟨t, o, h1, h2⟩ := g T' locs X' N e'
  exact ⟨t, o, sp _ h1, h2⟩
end Jvm.OwnGo
namespace Jvm.OwnGo
open Sem ClassFile Op Lib Jvm.Stand Jvm.Free Jvm.LawKit Jvm.RoadKit
/-- a cell that is no class's statics -/
def Nst (h : Heap) (x : Addr) : Prop := ∃ c : Cell, h[x]? = some c ∧ c.vm.isStatics = false
theorem nst_exa {Z : State} {h : Heap} {a : Addr} {C : String} (E : Exa Z h a C) : Nst h a := by obtain ⟨c, k, h1, -, -, h4, -⟩ := E; exact ⟨c, h1, h4⟩
theorem sta_keep {Z : State} {h h' : Heap} {C n d : String} {v : Value} {ws : List Addr} (F : Sta Z h C n d v) (K : Keep h h' ws) (q : ∀ x ∈ ws, Nst h x) : Sta Z h' C n d v := by
  obtain ⟨cf, i, k, f, st, cell, h1, h2, h3, h4, h5, h6, h7⟩ := F
  refine ⟨cf, i, k, f, st, cell, h1, h2, h3, h4, K.2.1 st cell h5 fun m => ?_, h6, h7⟩
  obtain ⟨c, e1, e2⟩ := q st m
  cases h5.symm.trans e1
  rw [h6] at e2
  cases e2
end Jvm.OwnGo
namespace Jvm.OwnGo
open Sem ClassFile Op Lib Jvm.Stand Jvm.Free Jvm.LawKit Jvm.RoadKit
/-- a field of a static's object, as the case says it -/
theorem int_fld {s : State} {args : Array Value} {a : Addr} {C n d : String} {t : Term} {z : Int32} (ev : t.eval args s none [] s = some (.ref a)) (h : (Jvm.Cond.eq (Term.field t C n d) (Term.int z)).value args s none s [] = some true) : Fld s s.heap a C n d (.int z) := by
  obtain ⟨x, y, hx, hy, k1, k2⟩ := cmp_v (Or.inl h)
  obtain rfl := Option.some.inj (hy.symm.trans (Term.int_eval z))
  obtain ⟨w, rfl⟩ := k2
  have e := gotT (Cond.eq_ints hx hy) h
  subst e
  exact Fld.start ((fld_at ev).symm.trans hx)
end Jvm.OwnGo
namespace Jvm.OwnGo
open Sem ClassFile Op Lib Jvm.Stand Jvm.Free Jvm.LawKit Jvm.RoadKit
theorem size_of {s : State} {args : Array Value} {a : Addr} {t : Term} {ty : FieldType} {c : Cell} {n : Nat} (hn : n < 2147483648) (ev : t.eval args s none [] s = some (.ref a)) (A : Arr s s.heap a c ty) (h2 : (Jvm.Cond.eq (Term.length t) (Term.int (Int32.ofNat n))).value args s none s [] = some true) : c.slots.size = n := by
  obtain ⟨x, y, hx, hy, k1, k2⟩ := cmp_v (Or.inl h2)
  obtain rfl := Option.some.inj (hy.symm.trans (Term.int_eval _))
  obtain ⟨w, rfl⟩ := k2
  have e := gotT (Cond.eq_ints hx hy) h2
  have hA := Arr.fin (Vm.Alike.refl _) A
  simp only [Term.eval, ev, Option.bind_eq_bind, Option.bind_some, hA] at hx
  split at hx
  · rename_i q
    have e2 : c.slots.size.toInt32 = w := by simpa using hx
    have e3 := congrArg Int32.toInt (e2.trans e)
    rw [len_toInt q, Int32.toInt_ofNat_of_lt (by omega)] at e3
    omega
  · cases hx
/-- an array of ints (bytes, chars ..), as the case says it -/
theorem av_ints {s : State} {args : Array Value} {a : Addr} {t : Term} {ty : FieldType} {xs : List Int32} (ev : t.eval args s none [] s = some (.ref a)) (h1 : (Jvm.Cond.arrayOf t ty).value args s none s [] = some true) (h2 : (Jvm.Cond.eq (Term.length t) (Term.int (Int32.ofNat xs.length))).value args s none s [] = some true)
    (h3 : ∀ (i : Nat) (hi : i < xs.length), (Jvm.Cond.eq (Term.elem t (Term.int (Int32.ofNat i))) (Term.int xs[i])).value args s none s [] = some true) (hn : xs.length < 2147483648 := by simp) : AV s s.heap a ty (xs.map Value.int) := by
  obtain ⟨c, A⟩ := Arr.start ev h1
  have hs := size_of hn ev A h2
  refine ⟨c, A, ?_, by simpa using hn⟩
  apply Array.ext_getElem?
  intro i
  rcases Nat.lt_or_ge i xs.length with q | q
  · have h := h3 i q
    obtain ⟨x, y, hx, hy, k1, k2⟩ := cmp_v (Or.inl h)
    obtain rfl := Option.some.inj (hy.symm.trans (Term.int_eval _))
    obtain ⟨w, rfl⟩ := k2
    have e := gotT (Cond.eq_ints hx hy) h
    subst e
    have r := (elem_in hx ev (Term.int_eval _) A.1).2
    rw [(nat_idx (Int32.toInt_ofNat_of_lt (by omega : i < 2 ^ 31))).2] at r
    rw [r]; simp [q]
  · rw [Array.getElem?_eq_none (by omega)]; simp [q]
/-- an array of references, as the case says it -/
theorem av_refs {s : State} {args : Array Value} {a : Addr} {t : Term} {ty : FieldType} {bs : List Addr} (ev : t.eval args s none [] s = some (.ref a)) (h1 : (Jvm.Cond.arrayOf t ty).value args s none s [] = some true) (h2 : (Jvm.Cond.eq (Term.length t) (Term.int (Int32.ofNat bs.length))).value args s none s [] = some true)
    (h3 : ∀ (i : Nat) (hi : i < bs.length), ∃ u : Term, u.eval args s none [] s = some (.ref bs[i]) ∧ (Jvm.Cond.eq (Term.elem t (Term.int (Int32.ofNat i))) u).value args s none s [] = some true) (hn : bs.length < 2147483648 := by simp) : AV s s.heap a ty (bs.map Value.ref) := by
  obtain ⟨c, A⟩ := Arr.start ev h1
  have hs := size_of hn ev A h2
  refine ⟨c, A, ?_, by simpa using hn⟩
  apply Array.ext_getElem?
  intro i
  rcases Nat.lt_or_ge i bs.length with q | q
  · obtain ⟨u, eu, h⟩ := h3 i q
    obtain ⟨x, y, hx, hy, k1, k2⟩ := cmp_v (Or.inl h)
    obtain rfl := Option.some.inj (hy.symm.trans eu)
    have e := gotT (eq_R hx hy k2.2 k2.1) h
    subst e
    have r := (elem_in hx ev (Term.int_eval _) A.1).2
    rw [(nat_idx (Int32.toInt_ofNat_of_lt (by omega : i < 2 ^ 31))).2] at r
    rw [r]; simp [q]
  · rw [Array.getElem?_eq_none (by omega)]; simp [q]
end Jvm.OwnGo
namespace Jvm.Pilot.@@N@@
open Jvm Jvm.ClassFile Sem Op Lib Jvm.Free Jvm.Stand Jvm.LawKit Jvm.RoadKit Bundle Jvm.Pilot.@@N@@.Jvm.D Jvm.OwnGo
def Wd (a0 : Array Value) (Z : State) : Prop := ∀ d ∈ tables_1, d.before a0 Z = true
theorem pn_java_lang_StringUTF16 : plainName "java/lang/StringUTF16" = true := by first | (simp [plainName, overriddenIn]; done) | decide +kernel
theorem d5_0 : Dc jdk_52_method_21_code 0 (.iconst 0) 1 1 := ⟨by decide +kernel, rfl⟩
theorem d5_1 : Dc jdk_52_method_21_code 1 (.istore 5) 2 3 := ⟨by decide +kernel, rfl⟩
theorem d5_3 : Dc jdk_52_method_21_code 3 (.iload 5) 2 5 := ⟨by decide +kernel, rfl⟩
theorem d5_5 : Dc jdk_52_method_21_code 5 (.iload 4) 2 7 := ⟨by decide +kernel, rfl⟩
theorem d5_7 : Db jdk_52_method_21_code 7 (.if_icmp .ge 37) 37 10 44 := ⟨by decide +kernel, rfl, rfl⟩
theorem d5_10 : Dc jdk_52_method_21_code 10 (.aload_n 0) 1 11 := ⟨by decide +kernel, rfl⟩
theorem d5_11 : Dc jdk_52_method_21_code 11 (.iload_n 1) 1 12 := ⟨by decide +kernel, rfl⟩
theorem d5_12 : Dc jdk_52_method_21_code 12 (.caload) 1 13 := ⟨by decide +kernel, rfl⟩
theorem d5_13 : Dc jdk_52_method_21_code 13 (.istore 6) 2 15 := ⟨by decide +kernel, rfl⟩
theorem d5_15 : Dc jdk_52_method_21_code 15 (.iload 6) 2 17 := ⟨by decide +kernel, rfl⟩
theorem d5_17 : Dc jdk_52_method_21_code 17 (.sipush 255) 3 20 := ⟨by decide +kernel, rfl⟩
theorem d5_20 : Db jdk_52_method_21_code 20 (.if_icmp .le 6) 6 23 26 := ⟨by decide +kernel, rfl, rfl⟩
theorem d5_26 : Dc jdk_52_method_21_code 26 (.aload_n 2) 1 27 := ⟨by decide +kernel, rfl⟩
theorem d5_27 : Dc jdk_52_method_21_code 27 (.iload_n 3) 1 28 := ⟨by decide +kernel, rfl⟩
theorem d5_28 : Dc jdk_52_method_21_code 28 (.iload 6) 2 30 := ⟨by decide +kernel, rfl⟩
theorem d5_30 : Dc jdk_52_method_21_code 30 (.i2b) 1 31 := ⟨by decide +kernel, rfl⟩
theorem d5_31 : Dc jdk_52_method_21_code 31 (.bastore) 1 32 := ⟨by decide +kernel, rfl⟩
theorem d5_32 : Dc jdk_52_method_21_code 32 (.iinc 1 1) 3 35 := ⟨by decide +kernel, rfl⟩
theorem d5_35 : Dc jdk_52_method_21_code 35 (.iinc 3 1) 3 38 := ⟨by decide +kernel, rfl⟩
theorem d5_38 : Dc jdk_52_method_21_code 38 (.iinc 5 1) 3 41 := ⟨by decide +kernel, rfl⟩
theorem d5_41 : Db jdk_52_method_21_code 41 (.goto (-38)) (-38) 44 3 := ⟨by decide +kernel, rfl, rfl⟩
theorem d5_44 : Dc jdk_52_method_21_code 44 (.iload 4) 2 46 := ⟨by decide +kernel, rfl⟩
theorem d5_46 : Dc jdk_52_method_21_code 46 (.ireturn) 1 47 := ⟨by decide +kernel, rfl⟩
set_option maxRecDepth 65536 in
set_option maxHeartbeats 40000000 in
theorem rmC0 {l : Launch} {Z : State} {a0 : Array Value} {n0 : Nat} (H : Wd a0 Z) (a b : Addr) (h0 : Heap) (Z0 : n0 ≤ h0.size) (A1 : AV Z h0 a .char [(.int (109 : Int32)), (.int (97 : Int32)), (.int (120 : Int32)), (.int (45 : Int32)), (.int (115 : Int32)), (.int (117 : Int32)), (.int (109 : Int32))]) (A2 : AV Z h0 b .byte [(.int (0 : Int32)), (.int (0 : Int32)), (.int (0 : Int32)), (.int (0 : Int32)), (.int (0 : Int32)), (.int (0 : Int32)), (.int (0 : Int32))]) (gb : n0 ≤ b) (nab : a ≠ b) :
    Ct l Z n0 (⟨"java/lang/StringUTF16", "compress", "([CI[BII)I"⟩ : MethodName) jdk_52_method_21_code 7 (some .int) [] ({ frames := 0, cells := 0, slots := 0, locals := 0 } : Room) #[(.ref a), (.int (0 : Int32)), (.ref b), (.int (0 : Int32)), (.int (7 : Int32))] h0 (fun v h => v = some (.int (7 : Int32)) ∧ Keep h0 h [b] ∧ AV Z h b .byte [(.int (109 : Int32)), (.int (97 : Int32)), (.int (120 : Int32)), (.int (45 : Int32)), (.int (115 : Int32)), (.int (117 : Int32)), (.int (109 : Int32))]) := by
  refine Ct.of (a0 := a0) (L0 := #[.val (.ref a), .val (.int (0 : Int32)), .val (.ref b), .val (.int (0 : Int32)), .val (.int (7 : Int32)), .unset, .unset]) (plainFor_of_name pn_java_lang_StringUTF16) (fun m => by first | (simp [entryFrame, mkF, argsToLocals, Value.category]; done) | rfl) ?_
  intro κ B0
  have B : Ok κ l Z a0 n0 ({ frames := 0, cells := 0, slots := 0, locals := 0 } : Room) "java/lang/StringUTF16" "compress" jdk_52_method_21_code 7 (some .int) := B0
  refine go_iconst B (x := (0 : Int32)) d5_0 rfl ?_
  refine go_istore B #[.val (.ref a), .val (.int (0 : Int32)), .val (.ref b), .val (.int (0 : Int32)), .val (.int (7 : Int32)), .val (.int (0 : Int32)), .unset] d5_1 rfl ?_
  refine go_iload B d5_3 rfl ?_
  refine go_iload B d5_5 rfl ?_
  refine go_icmpge B d5_7 (fun c7 => ?_) (fun c7 => ?_)
  · exact absurd c7 (by decide)
  refine go_aload_n B d5_10 rfl rfl ?_
  refine go_iload_n B d5_11 rfl ?_
  refine go_caload B (i := 0) (v := (.int (109 : Int32))) d5_12 A1 rfl rfl ?_
  refine go_istore B #[.val (.ref a), .val (.int (0 : Int32)), .val (.ref b), .val (.int (0 : Int32)), .val (.int (7 : Int32)), .val (.int (0 : Int32)), .val (.int (109 : Int32))] d5_13 rfl ?_
  refine go_iload B d5_15 rfl ?_
  refine go_sipush B (x := (255 : Int32)) d5_17 (by decide) ?_
  refine go_icmple B d5_20 (fun c20 => ?_) (fun c20 => ?_)
  rotate_left
  · exact absurd c20 (by decide)
  refine go_aload_n B d5_26 rfl rfl ?_
  refine go_iload_n B d5_27 rfl ?_
  refine go_iload B d5_28 rfl ?_
  refine go_i2b B d5_30 ?_
  rw [show (109 : Int32).toInt8.toInt32 = (109 : Int32) from by decide]
  refine go_bastore B (i := 0) d5_31 A2 rfl (show 0 < 7 from by decide) gb ?_
  intro h1 W2 A3
  have A4 : AV Z h1 b .byte [(.int (109 : Int32)), (.int (0 : Int32)), (.int (0 : Int32)), (.int (0 : Int32)), (.int (0 : Int32)), (.int (0 : Int32)), (.int (0 : Int32))] := (by have q := A3; rw [show nar .byte (109 : Int32) = (109 : Int32) from by decide] at q; exact q)
  refine go_iinc B #[.val (.ref a), .val (.int ((0 : Int32) + (1 : Int32))), .val (.ref b), .val (.int (0 : Int32)), .val (.int (7 : Int32)), .val (.int (0 : Int32)), .val (.int (109 : Int32))] d5_32 (z := (1 : Int32)) rfl rfl rfl ?_
  rw [show ((0 : Int32) + (1 : Int32)) = (1 : Int32) from by decide]
  refine go_iinc B #[.val (.ref a), .val (.int (1 : Int32)), .val (.ref b), .val (.int ((0 : Int32) + (1 : Int32))), .val (.int (7 : Int32)), .val (.int (0 : Int32)), .val (.int (109 : Int32))] d5_35 (z := (1 : Int32)) rfl rfl rfl ?_
  rw [show ((0 : Int32) + (1 : Int32)) = (1 : Int32) from by decide]
  refine go_iinc B #[.val (.ref a), .val (.int (1 : Int32)), .val (.ref b), .val (.int (1 : Int32)), .val (.int (7 : Int32)), .val (.int ((0 : Int32) + (1 : Int32))), .val (.int (109 : Int32))] d5_38 (z := (1 : Int32)) rfl rfl rfl ?_
  rw [show ((0 : Int32) + (1 : Int32)) = (1 : Int32) from by decide]
  refine go_goto B d5_41 ?_
  refine go_iload B d5_3 rfl ?_
  refine go_iload B d5_5 rfl ?_
  refine go_icmpge B d5_7 (fun c7_5 => ?_) (fun c7_5 => ?_)
  · exact absurd c7_5 (by decide)
  refine go_aload_n B d5_10 rfl rfl ?_
  refine go_iload_n B d5_11 rfl ?_
  refine go_caload B (i := 1) (v := (.int (97 : Int32))) d5_12 (AV.other A1 W2 nab) rfl rfl ?_
  refine go_istore B #[.val (.ref a), .val (.int (1 : Int32)), .val (.ref b), .val (.int (1 : Int32)), .val (.int (7 : Int32)), .val (.int (1 : Int32)), .val (.int (97 : Int32))] d5_13 rfl ?_
  refine go_iload B d5_15 rfl ?_
  refine go_sipush B (x := (255 : Int32)) d5_17 (by decide) ?_
  refine go_icmple B d5_20 (fun c20_6 => ?_) (fun c20_6 => ?_)
  rotate_left
  · exact absurd c20_6 (by decide)
  refine go_aload_n B d5_26 rfl rfl ?_
  refine go_iload_n B d5_27 rfl ?_
  refine go_iload B d5_28 rfl ?_
  refine go_i2b B d5_30 ?_
  rw [show (97 : Int32).toInt8.toInt32 = (97 : Int32) from by decide]
  refine go_bastore B (i := 1) d5_31 A4 rfl (show 1 < 7 from by decide) gb ?_
  intro h7 W8 A9
  have A10 : AV Z h7 b .byte [(.int (109 : Int32)), (.int (97 : Int32)), (.int (0 : Int32)), (.int (0 : Int32)), (.int (0 : Int32)), (.int (0 : Int32)), (.int (0 : Int32))] := (by have q := A9; rw [show nar .byte (97 : Int32) = (97 : Int32) from by decide] at q; exact q)
  refine go_iinc B #[.val (.ref a), .val (.int ((1 : Int32) + (1 : Int32))), .val (.ref b), .val (.int (1 : Int32)), .val (.int (7 : Int32)), .val (.int (1 : Int32)), .val (.int (97 : Int32))] d5_32 (z := (1 : Int32)) rfl rfl rfl ?_
  rw [show ((1 : Int32) + (1 : Int32)) = (2 : Int32) from by decide]
  refine go_iinc B #[.val (.ref a), .val (.int (2 : Int32)), .val (.ref b), .val (.int ((1 : Int32) + (1 : Int32))), .val (.int (7 : Int32)), .val (.int (1 : Int32)), .val (.int (97 : Int32))] d5_35 (z := (1 : Int32)) rfl rfl rfl ?_
  rw [show ((1 : Int32) + (1 : Int32)) = (2 : Int32) from by decide]
  refine go_iinc B #[.val (.ref a), .val (.int (2 : Int32)), .val (.ref b), .val (.int (2 : Int32)), .val (.int (7 : Int32)), .val (.int ((1 : Int32) + (1 : Int32))), .val (.int (97 : Int32))] d5_38 (z := (1 : Int32)) rfl rfl rfl ?_
  rw [show ((1 : Int32) + (1 : Int32)) = (2 : Int32) from by decide]
  refine go_goto B d5_41 ?_
  refine go_iload B d5_3 rfl ?_
  refine go_iload B d5_5 rfl ?_
  refine go_icmpge B d5_7 (fun c7_11 => ?_) (fun c7_11 => ?_)
  · exact absurd c7_11 (by decide)
  refine go_aload_n B d5_10 rfl rfl ?_
  refine go_iload_n B d5_11 rfl ?_
  refine go_caload B (i := 2) (v := (.int (120 : Int32))) d5_12 (AV.other (AV.other A1 W2 nab) W8 nab) rfl rfl ?_
  refine go_istore B #[.val (.ref a), .val (.int (2 : Int32)), .val (.ref b), .val (.int (2 : Int32)), .val (.int (7 : Int32)), .val (.int (2 : Int32)), .val (.int (120 : Int32))] d5_13 rfl ?_
  refine go_iload B d5_15 rfl ?_
  refine go_sipush B (x := (255 : Int32)) d5_17 (by decide) ?_
  refine go_icmple B d5_20 (fun c20_12 => ?_) (fun c20_12 => ?_)
  rotate_left
  · exact absurd c20_12 (by decide)
  refine go_aload_n B d5_26 rfl rfl ?_
  refine go_iload_n B d5_27 rfl ?_
  refine go_iload B d5_28 rfl ?_
  refine go_i2b B d5_30 ?_
  rw [show (120 : Int32).toInt8.toInt32 = (120 : Int32) from by decide]
  refine go_bastore B (i := 2) d5_31 A10 rfl (show 2 < 7 from by decide) gb ?_
  intro h13 W14 A15
  have A16 : AV Z h13 b .byte [(.int (109 : Int32)), (.int (97 : Int32)), (.int (120 : Int32)), (.int (0 : Int32)), (.int (0 : Int32)), (.int (0 : Int32)), (.int (0 : Int32))] := (by have q := A15; rw [show nar .byte (120 : Int32) = (120 : Int32) from by decide] at q; exact q)
  refine go_iinc B #[.val (.ref a), .val (.int ((2 : Int32) + (1 : Int32))), .val (.ref b), .val (.int (2 : Int32)), .val (.int (7 : Int32)), .val (.int (2 : Int32)), .val (.int (120 : Int32))] d5_32 (z := (1 : Int32)) rfl rfl rfl ?_
  rw [show ((2 : Int32) + (1 : Int32)) = (3 : Int32) from by decide]
  refine go_iinc B #[.val (.ref a), .val (.int (3 : Int32)), .val (.ref b), .val (.int ((2 : Int32) + (1 : Int32))), .val (.int (7 : Int32)), .val (.int (2 : Int32)), .val (.int (120 : Int32))] d5_35 (z := (1 : Int32)) rfl rfl rfl ?_
  rw [show ((2 : Int32) + (1 : Int32)) = (3 : Int32) from by decide]
  refine go_iinc B #[.val (.ref a), .val (.int (3 : Int32)), .val (.ref b), .val (.int (3 : Int32)), .val (.int (7 : Int32)), .val (.int ((2 : Int32) + (1 : Int32))), .val (.int (120 : Int32))] d5_38 (z := (1 : Int32)) rfl rfl rfl ?_
  rw [show ((2 : Int32) + (1 : Int32)) = (3 : Int32) from by decide]
  refine go_goto B d5_41 ?_
  refine go_iload B d5_3 rfl ?_
  refine go_iload B d5_5 rfl ?_
  refine go_icmpge B d5_7 (fun c7_17 => ?_) (fun c7_17 => ?_)
  · exact absurd c7_17 (by decide)
  refine go_aload_n B d5_10 rfl rfl ?_
  refine go_iload_n B d5_11 rfl ?_
  refine go_caload B (i := 3) (v := (.int (45 : Int32))) d5_12 (AV.other (AV.other (AV.other A1 W2 nab) W8 nab) W14 nab) rfl rfl ?_
  refine go_istore B #[.val (.ref a), .val (.int (3 : Int32)), .val (.ref b), .val (.int (3 : Int32)), .val (.int (7 : Int32)), .val (.int (3 : Int32)), .val (.int (45 : Int32))] d5_13 rfl ?_
  refine go_iload B d5_15 rfl ?_
  refine go_sipush B (x := (255 : Int32)) d5_17 (by decide) ?_
  refine go_icmple B d5_20 (fun c20_18 => ?_) (fun c20_18 => ?_)
  rotate_left
  · exact absurd c20_18 (by decide)
  refine go_aload_n B d5_26 rfl rfl ?_
  refine go_iload_n B d5_27 rfl ?_
  refine go_iload B d5_28 rfl ?_
  refine go_i2b B d5_30 ?_
  rw [show (45 : Int32).toInt8.toInt32 = (45 : Int32) from by decide]
  refine go_bastore B (i := 3) d5_31 A16 rfl (show 3 < 7 from by decide) gb ?_
  intro h19 W20 A21
  have A22 : AV Z h19 b .byte [(.int (109 : Int32)), (.int (97 : Int32)), (.int (120 : Int32)), (.int (45 : Int32)), (.int (0 : Int32)), (.int (0 : Int32)), (.int (0 : Int32))] := (by have q := A21; rw [show nar .byte (45 : Int32) = (45 : Int32) from by decide] at q; exact q)
  refine go_iinc B #[.val (.ref a), .val (.int ((3 : Int32) + (1 : Int32))), .val (.ref b), .val (.int (3 : Int32)), .val (.int (7 : Int32)), .val (.int (3 : Int32)), .val (.int (45 : Int32))] d5_32 (z := (1 : Int32)) rfl rfl rfl ?_
  rw [show ((3 : Int32) + (1 : Int32)) = (4 : Int32) from by decide]
  refine go_iinc B #[.val (.ref a), .val (.int (4 : Int32)), .val (.ref b), .val (.int ((3 : Int32) + (1 : Int32))), .val (.int (7 : Int32)), .val (.int (3 : Int32)), .val (.int (45 : Int32))] d5_35 (z := (1 : Int32)) rfl rfl rfl ?_
  rw [show ((3 : Int32) + (1 : Int32)) = (4 : Int32) from by decide]
  refine go_iinc B #[.val (.ref a), .val (.int (4 : Int32)), .val (.ref b), .val (.int (4 : Int32)), .val (.int (7 : Int32)), .val (.int ((3 : Int32) + (1 : Int32))), .val (.int (45 : Int32))] d5_38 (z := (1 : Int32)) rfl rfl rfl ?_
  rw [show ((3 : Int32) + (1 : Int32)) = (4 : Int32) from by decide]
  refine go_goto B d5_41 ?_
  refine go_iload B d5_3 rfl ?_
  refine go_iload B d5_5 rfl ?_
  refine go_icmpge B d5_7 (fun c7_23 => ?_) (fun c7_23 => ?_)
  · exact absurd c7_23 (by decide)
  refine go_aload_n B d5_10 rfl rfl ?_
  refine go_iload_n B d5_11 rfl ?_
  have f24 : AV Z h19 a .char [(.int (109 : Int32)), (.int (97 : Int32)), (.int (120 : Int32)), (.int (45 : Int32)), (.int (115 : Int32)), (.int (117 : Int32)), (.int (109 : Int32))] := (AV.other (AV.other (AV.other (AV.other A1 W2 nab) W8 nab) W14 nab) W20 nab)
  refine go_caload B (i := 4) (v := (.int (115 : Int32))) d5_12 f24 rfl rfl ?_
  refine go_istore B #[.val (.ref a), .val (.int (4 : Int32)), .val (.ref b), .val (.int (4 : Int32)), .val (.int (7 : Int32)), .val (.int (4 : Int32)), .val (.int (115 : Int32))] d5_13 rfl ?_
  refine go_iload B d5_15 rfl ?_
  refine go_sipush B (x := (255 : Int32)) d5_17 (by decide) ?_
  refine go_icmple B d5_20 (fun c20_25 => ?_) (fun c20_25 => ?_)
  rotate_left
  · exact absurd c20_25 (by decide)
  refine go_aload_n B d5_26 rfl rfl ?_
  refine go_iload_n B d5_27 rfl ?_
  refine go_iload B d5_28 rfl ?_
  refine go_i2b B d5_30 ?_
  rw [show (115 : Int32).toInt8.toInt32 = (115 : Int32) from by decide]
  refine go_bastore B (i := 4) d5_31 A22 rfl (show 4 < 7 from by decide) gb ?_
  intro h26 W27 A28
  have A29 : AV Z h26 b .byte [(.int (109 : Int32)), (.int (97 : Int32)), (.int (120 : Int32)), (.int (45 : Int32)), (.int (115 : Int32)), (.int (0 : Int32)), (.int (0 : Int32))] := (by have q := A28; rw [show nar .byte (115 : Int32) = (115 : Int32) from by decide] at q; exact q)
  refine go_iinc B #[.val (.ref a), .val (.int ((4 : Int32) + (1 : Int32))), .val (.ref b), .val (.int (4 : Int32)), .val (.int (7 : Int32)), .val (.int (4 : Int32)), .val (.int (115 : Int32))] d5_32 (z := (1 : Int32)) rfl rfl rfl ?_
  rw [show ((4 : Int32) + (1 : Int32)) = (5 : Int32) from by decide]
  refine go_iinc B #[.val (.ref a), .val (.int (5 : Int32)), .val (.ref b), .val (.int ((4 : Int32) + (1 : Int32))), .val (.int (7 : Int32)), .val (.int (4 : Int32)), .val (.int (115 : Int32))] d5_35 (z := (1 : Int32)) rfl rfl rfl ?_
  rw [show ((4 : Int32) + (1 : Int32)) = (5 : Int32) from by decide]
  refine go_iinc B #[.val (.ref a), .val (.int (5 : Int32)), .val (.ref b), .val (.int (5 : Int32)), .val (.int (7 : Int32)), .val (.int ((4 : Int32) + (1 : Int32))), .val (.int (115 : Int32))] d5_38 (z := (1 : Int32)) rfl rfl rfl ?_
  rw [show ((4 : Int32) + (1 : Int32)) = (5 : Int32) from by decide]
  refine go_goto B d5_41 ?_
  refine go_iload B d5_3 rfl ?_
  refine go_iload B d5_5 rfl ?_
  refine go_icmpge B d5_7 (fun c7_30 => ?_) (fun c7_30 => ?_)
  · exact absurd c7_30 (by decide)
  refine go_aload_n B d5_10 rfl rfl ?_
  refine go_iload_n B d5_11 rfl ?_
  refine go_caload B (i := 5) (v := (.int (117 : Int32))) d5_12 (AV.other f24 W27 nab) rfl rfl ?_
  refine go_istore B #[.val (.ref a), .val (.int (5 : Int32)), .val (.ref b), .val (.int (5 : Int32)), .val (.int (7 : Int32)), .val (.int (5 : Int32)), .val (.int (117 : Int32))] d5_13 rfl ?_
  refine go_iload B d5_15 rfl ?_
  refine go_sipush B (x := (255 : Int32)) d5_17 (by decide) ?_
  refine go_icmple B d5_20 (fun c20_31 => ?_) (fun c20_31 => ?_)
  rotate_left
  · exact absurd c20_31 (by decide)
  refine go_aload_n B d5_26 rfl rfl ?_
  refine go_iload_n B d5_27 rfl ?_
  refine go_iload B d5_28 rfl ?_
  refine go_i2b B d5_30 ?_
  rw [show (117 : Int32).toInt8.toInt32 = (117 : Int32) from by decide]
  refine go_bastore B (i := 5) d5_31 A29 rfl (show 5 < 7 from by decide) gb ?_
  intro h32 W33 A34
  have A35 : AV Z h32 b .byte [(.int (109 : Int32)), (.int (97 : Int32)), (.int (120 : Int32)), (.int (45 : Int32)), (.int (115 : Int32)), (.int (117 : Int32)), (.int (0 : Int32))] := (by have q := A34; rw [show nar .byte (117 : Int32) = (117 : Int32) from by decide] at q; exact q)
  refine go_iinc B #[.val (.ref a), .val (.int ((5 : Int32) + (1 : Int32))), .val (.ref b), .val (.int (5 : Int32)), .val (.int (7 : Int32)), .val (.int (5 : Int32)), .val (.int (117 : Int32))] d5_32 (z := (1 : Int32)) rfl rfl rfl ?_
  rw [show ((5 : Int32) + (1 : Int32)) = (6 : Int32) from by decide]
  refine go_iinc B #[.val (.ref a), .val (.int (6 : Int32)), .val (.ref b), .val (.int ((5 : Int32) + (1 : Int32))), .val (.int (7 : Int32)), .val (.int (5 : Int32)), .val (.int (117 : Int32))] d5_35 (z := (1 : Int32)) rfl rfl rfl ?_
  rw [show ((5 : Int32) + (1 : Int32)) = (6 : Int32) from by decide]
  refine go_iinc B #[.val (.ref a), .val (.int (6 : Int32)), .val (.ref b), .val (.int (6 : Int32)), .val (.int (7 : Int32)), .val (.int ((5 : Int32) + (1 : Int32))), .val (.int (117 : Int32))] d5_38 (z := (1 : Int32)) rfl rfl rfl ?_
  rw [show ((5 : Int32) + (1 : Int32)) = (6 : Int32) from by decide]
  refine go_goto B d5_41 ?_
  refine go_iload B d5_3 rfl ?_
  refine go_iload B d5_5 rfl ?_
  refine go_icmpge B d5_7 (fun c7_36 => ?_) (fun c7_36 => ?_)
  · exact absurd c7_36 (by decide)
  refine go_aload_n B d5_10 rfl rfl ?_
  refine go_iload_n B d5_11 rfl ?_
  refine go_caload B (i := 6) (v := (.int (109 : Int32))) d5_12 (AV.other (AV.other f24 W27 nab) W33 nab) rfl rfl ?_
  refine go_istore B #[.val (.ref a), .val (.int (6 : Int32)), .val (.ref b), .val (.int (6 : Int32)), .val (.int (7 : Int32)), .val (.int (6 : Int32)), .val (.int (109 : Int32))] d5_13 rfl ?_
  refine go_iload B d5_15 rfl ?_
  refine go_sipush B (x := (255 : Int32)) d5_17 (by decide) ?_
  refine go_icmple B d5_20 (fun c20_37 => ?_) (fun c20_37 => ?_)
  rotate_left
  · exact absurd c20_37 (by decide)
  refine go_aload_n B d5_26 rfl rfl ?_
  refine go_iload_n B d5_27 rfl ?_
  refine go_iload B d5_28 rfl ?_
  refine go_i2b B d5_30 ?_
  rw [show (109 : Int32).toInt8.toInt32 = (109 : Int32) from by decide]
  refine go_bastore B (i := 6) d5_31 A35 rfl (show 6 < 7 from by decide) gb ?_
  intro h38 W39 A40
  have A41 : AV Z h38 b .byte [(.int (109 : Int32)), (.int (97 : Int32)), (.int (120 : Int32)), (.int (45 : Int32)), (.int (115 : Int32)), (.int (117 : Int32)), (.int (109 : Int32))] := (by have q := A40; rw [show nar .byte (109 : Int32) = (109 : Int32) from by decide] at q; exact q)
  refine go_iinc B #[.val (.ref a), .val (.int ((6 : Int32) + (1 : Int32))), .val (.ref b), .val (.int (6 : Int32)), .val (.int (7 : Int32)), .val (.int (6 : Int32)), .val (.int (109 : Int32))] d5_32 (z := (1 : Int32)) rfl rfl rfl ?_
  rw [show ((6 : Int32) + (1 : Int32)) = (7 : Int32) from by decide]
  refine go_iinc B #[.val (.ref a), .val (.int (7 : Int32)), .val (.ref b), .val (.int ((6 : Int32) + (1 : Int32))), .val (.int (7 : Int32)), .val (.int (6 : Int32)), .val (.int (109 : Int32))] d5_35 (z := (1 : Int32)) rfl rfl rfl ?_
  rw [show ((6 : Int32) + (1 : Int32)) = (7 : Int32) from by decide]
  refine go_iinc B #[.val (.ref a), .val (.int (7 : Int32)), .val (.ref b), .val (.int (7 : Int32)), .val (.int (7 : Int32)), .val (.int ((6 : Int32) + (1 : Int32))), .val (.int (109 : Int32))] d5_38 (z := (1 : Int32)) rfl rfl rfl ?_
  rw [show ((6 : Int32) + (1 : Int32)) = (7 : Int32) from by decide]
  refine go_goto B d5_41 ?_
  refine go_iload B d5_3 rfl ?_
  refine go_iload B d5_5 rfl ?_
  refine go_icmpge B d5_7 (fun c7_42 => ?_) (fun c7_42 => ?_)
  rotate_left
  · exact absurd c7_42 (by decide)
  refine go_iload B d5_44 rfl ?_
  refine go_ireturn B d5_46 (by decide) (by decide) ?_
  have f43 : Keep h0 h38 [b] := (Keep.wr (Keep.wr (Keep.wr (Keep.wr (Keep.wr (Keep.wr (Keep.wr (Keep.refl h0 [b]) W2 (Or.inl (by simp))) W8 (Or.inl (by simp))) W14 (Or.inl (by simp))) W20 (Or.inl (by simp))) W27 (Or.inl (by simp))) W33 (Or.inl (by simp))) W39 (Or.inl (by simp)))
  exact ⟨rfl, f43, A41⟩
theorem d4_0 : Dc jdk_52_method_16_code 0 (.iload_n 2) 1 1 := ⟨by decide +kernel, rfl⟩
theorem d4_1 : Dc jdk_52_method_16_code 1 (.newarray .byte) 2 3 := ⟨by decide +kernel, rfl⟩
theorem w_23 {a0 : Array Value} {Z : State} (H : Wd a0 Z) : (Jvm.Cond.arrayClass Jvm.ClassFile.FieldType.byte).before a0 Z = true := H _ (List.mem_of_getElem? (i := 23) rfl)
theorem d4_3 : Dc jdk_52_method_16_code 3 (.astore_n 3) 1 4 := ⟨by decide +kernel, rfl⟩
theorem d4_4 : Dc jdk_52_method_16_code 4 (.aload_n 0) 1 5 := ⟨by decide +kernel, rfl⟩
theorem d4_5 : Dc jdk_52_method_16_code 5 (.iload_n 1) 1 6 := ⟨by decide +kernel, rfl⟩
theorem d4_6 : Dc jdk_52_method_16_code 6 (.aload_n 3) 1 7 := ⟨by decide +kernel, rfl⟩
theorem d4_7 : Dc jdk_52_method_16_code 7 (.iconst 0) 1 8 := ⟨by decide +kernel, rfl⟩
theorem d4_8 : Dc jdk_52_method_16_code 8 (.iload_n 2) 1 9 := ⟨by decide +kernel, rfl⟩
theorem d4_9 : Dc jdk_52_method_16_code 9 (.invokestatic 115) 3 12 := ⟨by decide +kernel, rfl⟩
theorem w_26 {a0 : Array Value} {Z : State} (H : Wd a0 Z) : (Jvm.Cond.code ({ cls := "java/lang/StringUTF16", name := "compress", desc := "([CI[BII)I" } : Jvm.MethodName) jdk_52_method_21_code (7 : Nat) (Option.some Jvm.ClassFile.FieldType.int)).before a0 Z = true := H _ (List.mem_of_getElem? (i := 26) rfl)
theorem w_21 {a0 : Array Value} {Z : State} (H : Wd a0 Z) : (Jvm.Cond.initialized "java/lang/StringUTF16").before a0 Z = true := H _ (List.mem_of_getElem? (i := 21) rfl)
theorem pd_0 : parseMethodDescriptor "([CI[BII)I" = some ⟨[(.array .char), .int, (.array .byte), .int, .int], some .int⟩ := by decide +kernel
theorem w_24 {a0 : Array Value} {Z : State} (H : Wd a0 Z) : (Jvm.Cond.methodLink "java/lang/StringUTF16" (115 : Nat) ({ cls := "java/lang/StringUTF16", name := "compress", desc := "([CI[BII)I" } : Jvm.MethodName)).before a0 Z = true := H _ (List.mem_of_getElem? (i := 24) rfl)
theorem w_25 {a0 : Array Value} {Z : State} (H : Wd a0 Z) : (Jvm.Cond.static ({ cls := "java/lang/StringUTF16", name := "compress", desc := "([CI[BII)I" } : Jvm.MethodName)).before a0 Z = true := H _ (List.mem_of_getElem? (i := 25) rfl)
theorem d4_12 : Dc jdk_52_method_16_code 12 (.istore 4) 2 14 := ⟨by decide +kernel, rfl⟩
theorem d4_14 : Dc jdk_52_method_16_code 14 (.iload 4) 2 16 := ⟨by decide +kernel, rfl⟩
theorem d4_16 : Dc jdk_52_method_16_code 16 (.iload_n 2) 1 17 := ⟨by decide +kernel, rfl⟩
theorem d4_17 : Db jdk_52_method_16_code 17 (.if_icmp .eq 40) 40 20 57 := ⟨by decide +kernel, rfl, rfl⟩
theorem d4_57 : Dc jdk_52_method_16_code 57 (.aload_n 3) 1 58 := ⟨by decide +kernel, rfl⟩
theorem d4_58 : Dc jdk_52_method_16_code 58 (.areturn) 1 59 := ⟨by decide +kernel, rfl⟩
set_option maxRecDepth 65536 in
set_option maxHeartbeats 40000000 in
theorem rmD0 {l : Launch} {Z : State} {a0 : Array Value} {n0 : Nat} (H : Wd a0 Z) (a : Addr) (h0 : Heap) (Z0 : n0 ≤ h0.size) (A1 : AV Z h0 a .char [(.int (109 : Int32)), (.int (97 : Int32)), (.int (120 : Int32)), (.int (45 : Int32)), (.int (115 : Int32)), (.int (117 : Int32)), (.int (109 : Int32))]) :
    Ct l Z n0 (⟨"java/lang/StringUTF16", "compress", "([CII)[B"⟩ : MethodName) jdk_52_method_16_code 6 (some (.array .byte)) [] ({ frames := 1, cells := 1, slots := 7, locals := 18 } : Room) #[(.ref a), (.int (0 : Int32)), (.int (7 : Int32))] h0 (fun v h => ∃ b, v = some (.ref b) ∧ h0.size ≤ b ∧ Keep h0 h [] ∧ AV Z h b .byte [(.int (109 : Int32)), (.int (97 : Int32)), (.int (120 : Int32)), (.int (45 : Int32)), (.int (115 : Int32)), (.int (117 : Int32)), (.int (109 : Int32))] ∧ Exa Z h b "[B") := by
  refine Ct.of (a0 := a0) (L0 := #[.val (.ref a), .val (.int (0 : Int32)), .val (.int (7 : Int32)), .unset, .unset, .unset]) (plainFor_of_name pn_java_lang_StringUTF16) (fun m => by first | (simp [entryFrame, mkF, argsToLocals, Value.category]; done) | rfl) ?_
  intro κ B0
  have B : Ok κ l Z a0 n0 ({ frames := 1, cells := 1, slots := 7, locals := 18 } : Room) "java/lang/StringUTF16" "compress" jdk_52_method_16_code 6 (some (.array .byte)) := B0
  refine go_iload_n B d4_0 rfl ?_
  refine go_newarray B (i := 7) (cap := 7) d4_1 (w_23 H) rfl (Nat.le_refl _) (by decide) (by decide) (by decide) ?_
  intro h44 a45 hba45 Ea45 Aa45 Ca45
  have ne_a45_a : a45 ≠ a := Nat.ne_of_gt (Nat.lt_of_lt_of_le (A1).lt (by omega))
  have ge_a45 : n0 ≤ a45 := by have q1 := Z0; omega
  have fr_a45 : h0.size ≤ a45 := by have q1 := (show Keep h0 h0 [] from (Keep.refl h0 [])).1; omega
  have Ba45 : AV Z h44 a45 .byte [(.int (0 : Int32)), (.int (0 : Int32)), (.int (0 : Int32)), (.int (0 : Int32)), (.int (0 : Int32)), (.int (0 : Int32)), (.int (0 : Int32))] := Aa45
  refine go_astore_n B #[.val (.ref a), .val (.int (0 : Int32)), .val (.int (7 : Int32)), .val (.ref a45), .unset, .unset] d4_3 rfl rfl ?_
  refine go_aload_n B d4_4 rfl rfl ?_
  refine go_iload_n B d4_5 rfl ?_
  refine go_aload_n B d4_6 rfl rfl ?_
  refine go_iconst B (x := (0 : Int32)) d4_7 rfl ?_
  refine go_iload_n B d4_8 rfl ?_
  refine go_static B (W := 0) (argsL := [(.ref a), (.int (0 : Int32)), (.ref a45), (.int (0 : Int32)), (.int (7 : Int32))]) (st := []) d4_9 (w_24 H) (w_25 H) (w_21 H) (w_26 H) (by decide) (rmC0 H a a45 h44 (Nat.le_trans Z0 Ea45.1) (AV.ext A1 Ea45) Ba45 ge_a45 (Ne.symm ne_a45_a)) pd_0 rfl rfl rfl rfl (by decide) (by decide) (by decide) (by decide) ?_
  rintro _ h48 ⟨rfl, K46, A47⟩
  show Go κ _ h48 _ _ 12 #[.val (.ref a), .val (.int (0 : Int32)), .val (.int (7 : Int32)), .val (.ref a45), .unset, .unset] [(.int (7 : Int32))]
  refine go_istore B #[.val (.ref a), .val (.int (0 : Int32)), .val (.int (7 : Int32)), .val (.ref a45), .val (.int (7 : Int32)), .unset] d4_12 rfl ?_
  refine go_iload B d4_14 rfl ?_
  refine go_iload_n B d4_16 rfl ?_
  refine go_icmpeq B d4_17 (fun c17 => ?_) (fun c17 => ?_)
  rotate_left
  · exact absurd c17 (by decide)
  refine go_aload_n B d4_57 rfl rfl ?_
  refine go_areturn B d4_58 rfl rfl rfl (by decide) (by decide) ?_
  have f49 : Keep h0 h48 [] := (Keep.trans (Keep.ext (Keep.refl h0 []) Ea45) K46 (allS (Or.inr fr_a45) all0))
  exact ⟨a45, rfl, by omega, f49, A47, (Exa.keep Ca45 K46)⟩
theorem d6_0 : Dc jdk_52_method_15_code 0 (.iload_n 1) 1 1 := ⟨by decide +kernel, rfl⟩
theorem d6_1 : Dc jdk_52_method_15_code 1 (.aload_n 0) 1 2 := ⟨by decide +kernel, rfl⟩
theorem d6_2 : Dc jdk_52_method_15_code 2 (.arraylength) 1 3 := ⟨by decide +kernel, rfl⟩
theorem d6_3 : Dc jdk_52_method_15_code 3 (.isub) 1 4 := ⟨by decide +kernel, rfl⟩
theorem d6_4 : Dc jdk_52_method_15_code 4 (.bipush 31) 2 6 := ⟨by decide +kernel, rfl⟩
theorem d6_6 : Dc jdk_52_method_15_code 6 (.iushr) 1 7 := ⟨by decide +kernel, rfl⟩
theorem d6_7 : Dc jdk_52_method_15_code 7 (.i2b) 1 8 := ⟨by decide +kernel, rfl⟩
theorem d6_8 : Dc jdk_52_method_15_code 8 (.ireturn) 1 9 := ⟨by decide +kernel, rfl⟩
set_option maxRecDepth 65536 in
set_option maxHeartbeats 40000000 in
theorem rmK0 {l : Launch} {Z : State} {a0 : Array Value} {n0 : Nat} (H : Wd a0 Z) (b : Addr) (h0 : Heap) (Z0 : n0 ≤ h0.size) (A1 : AV Z h0 b .byte [(.int (109 : Int32)), (.int (97 : Int32)), (.int (120 : Int32)), (.int (45 : Int32)), (.int (115 : Int32)), (.int (117 : Int32)), (.int (109 : Int32))]) :
    Ct l Z n0 (⟨"java/lang/StringUTF16", "coderFromArrayLen", "([BI)B"⟩ : MethodName) jdk_52_method_15_code 2 (some .byte) [] ({ frames := 0, cells := 0, slots := 0, locals := 0 } : Room) #[(.ref b), (.int (7 : Int32))] h0 (fun v h => v = some (.int (0 : Int32)) ∧ h0 = h) := by
  refine Ct.of (a0 := a0) (L0 := #[.val (.ref b), .val (.int (7 : Int32))]) (plainFor_of_name pn_java_lang_StringUTF16) (fun m => by first | (simp [entryFrame, mkF, argsToLocals, Value.category]; done) | rfl) ?_
  intro κ B0
  have B : Ok κ l Z a0 n0 ({ frames := 0, cells := 0, slots := 0, locals := 0 } : Room) "java/lang/StringUTF16" "coderFromArrayLen" jdk_52_method_15_code 2 (some .byte) := B0
  refine go_iload_n B d6_0 rfl ?_
  refine go_aload_n B d6_1 rfl rfl ?_
  refine go_arraylength B (x := (7 : Int32)) d6_2 A1 rfl ?_
  refine go_isub B d6_3 ?_
  rw [show ((7 : Int32) - (7 : Int32)) = (0 : Int32) from by decide]
  refine go_bipush B (x := (31 : Int32)) d6_4 (by decide) ?_
  refine go_iushr B d6_6 ?_
  rw [show (XT.ushr (0 : Int32) (31 : Int32)) = (0 : Int32) from by decide]
  refine go_i2b B d6_7 ?_
  rw [show (0 : Int32).toInt8.toInt32 = (0 : Int32) from by decide]
  refine go_breturn B (y := (0 : Int32)) d6_8 (by decide) (by decide) (by decide) ?_
  exact ⟨rfl, rfl⟩
theorem pn_java_lang_String : plainName "java/lang/String" = true := by first | (simp [plainName, overriddenIn]; done) | decide +kernel
theorem d2_0 : Dc jdk_42_method_149_code 0 (.aload_n 0) 1 1 := ⟨by decide +kernel, rfl⟩
theorem d2_1 : Dc jdk_42_method_149_code 1 (.invokespecial 1) 3 4 := ⟨by decide +kernel, rfl⟩
theorem w_15 {a0 : Array Value} {Z : State} (H : Wd a0 Z) : (Jvm.Cond.methodLink "java/lang/String" (1 : Nat) ({ cls := "java/lang/Object", name := "<init>", desc := "()V" } : Jvm.MethodName)).before a0 Z = true := H _ (List.mem_of_getElem? (i := 15) rfl)
theorem w_16 {a0 : Array Value} {Z : State} (H : Wd a0 Z) : (Jvm.Cond.instanceMethod ({ cls := "java/lang/Object", name := "<init>", desc := "()V" } : Jvm.MethodName)).before a0 Z = true := H _ (List.mem_of_getElem? (i := 16) rfl)
theorem w_17 {a0 : Array Value} {Z : State} (H : Wd a0 Z) : (Jvm.Cond.code ({ cls := "java/lang/Object", name := "<init>", desc := "()V" } : Jvm.MethodName) object_method_1_code (1 : Nat) (Option.none : Option Jvm.ClassFile.FieldType)).before a0 Z = true := H _ (List.mem_of_getElem? (i := 17) rfl)
theorem d2_4 : Dc jdk_42_method_149_code 4 (.iload_n 3) 1 5 := ⟨by decide +kernel, rfl⟩
theorem d2_5 : Db jdk_42_method_149_code 5 (.ifCond .ne 22) 22 8 27 := ⟨by decide +kernel, rfl, rfl⟩
theorem d2_27 : Dc jdk_42_method_149_code 27 (.getstatic 38) 3 30 := ⟨by decide +kernel, rfl⟩
theorem w_18 {a0 : Array Value} {Z : State} (H : Wd a0 Z) : (Jvm.Cond.fieldLink "java/lang/String" (38 : Nat) "java/lang/String" "COMPACT_STRINGS" "Z").before a0 Z = true := H _ (List.mem_of_getElem? (i := 18) rfl)
theorem d2_30 : Db jdk_42_method_149_code 30 (.ifCond .eq 28) 28 33 58 := ⟨by decide +kernel, rfl, rfl⟩
theorem d2_33 : Dc jdk_42_method_149_code 33 (.aload_n 1) 1 34 := ⟨by decide +kernel, rfl⟩
theorem d2_34 : Dc jdk_42_method_149_code 34 (.iload_n 2) 1 35 := ⟨by decide +kernel, rfl⟩
theorem d2_35 : Dc jdk_42_method_149_code 35 (.iload_n 3) 1 36 := ⟨by decide +kernel, rfl⟩
theorem d2_36 : Dc jdk_42_method_149_code 36 (.invokestatic 177) 3 39 := ⟨by decide +kernel, rfl⟩
theorem w_22 {a0 : Array Value} {Z : State} (H : Wd a0 Z) : (Jvm.Cond.code ({ cls := "java/lang/StringUTF16", name := "compress", desc := "([CII)[B" } : Jvm.MethodName) jdk_52_method_16_code (6 : Nat) (Option.some (Jvm.ClassFile.FieldType.array Jvm.ClassFile.FieldType.byte))).before a0 Z = true := H _ (List.mem_of_getElem? (i := 22) rfl)
theorem pd_1 : parseMethodDescriptor "([CII)[B" = some ⟨[(.array .char), .int, .int], some (.array .byte)⟩ := by decide +kernel
theorem w_19 {a0 : Array Value} {Z : State} (H : Wd a0 Z) : (Jvm.Cond.methodLink "java/lang/String" (177 : Nat) ({ cls := "java/lang/StringUTF16", name := "compress", desc := "([CII)[B" } : Jvm.MethodName)).before a0 Z = true := H _ (List.mem_of_getElem? (i := 19) rfl)
theorem w_20 {a0 : Array Value} {Z : State} (H : Wd a0 Z) : (Jvm.Cond.static ({ cls := "java/lang/StringUTF16", name := "compress", desc := "([CII)[B" } : Jvm.MethodName)).before a0 Z = true := H _ (List.mem_of_getElem? (i := 20) rfl)
theorem d2_39 : Dc jdk_42_method_149_code 39 (.astore 5) 2 41 := ⟨by decide +kernel, rfl⟩
theorem d2_41 : Dc jdk_42_method_149_code 41 (.aload_n 0) 1 42 := ⟨by decide +kernel, rfl⟩
theorem d2_42 : Dc jdk_42_method_149_code 42 (.aload 5) 2 44 := ⟨by decide +kernel, rfl⟩
theorem d2_44 : Dc jdk_42_method_149_code 44 (.iload_n 3) 1 45 := ⟨by decide +kernel, rfl⟩
theorem d2_45 : Dc jdk_42_method_149_code 45 (.invokestatic 47) 3 48 := ⟨by decide +kernel, rfl⟩
theorem w_29 {a0 : Array Value} {Z : State} (H : Wd a0 Z) : (Jvm.Cond.code ({ cls := "java/lang/StringUTF16", name := "coderFromArrayLen", desc := "([BI)B" } : Jvm.MethodName) jdk_52_method_15_code (2 : Nat) (Option.some Jvm.ClassFile.FieldType.byte)).before a0 Z = true := H _ (List.mem_of_getElem? (i := 29) rfl)
theorem pd_2 : parseMethodDescriptor "([BI)B" = some ⟨[(.array .byte), .int], some .byte⟩ := by decide +kernel
theorem w_27 {a0 : Array Value} {Z : State} (H : Wd a0 Z) : (Jvm.Cond.methodLink "java/lang/String" (47 : Nat) ({ cls := "java/lang/StringUTF16", name := "coderFromArrayLen", desc := "([BI)B" } : Jvm.MethodName)).before a0 Z = true := H _ (List.mem_of_getElem? (i := 27) rfl)
theorem w_28 {a0 : Array Value} {Z : State} (H : Wd a0 Z) : (Jvm.Cond.static ({ cls := "java/lang/StringUTF16", name := "coderFromArrayLen", desc := "([BI)B" } : Jvm.MethodName)).before a0 Z = true := H _ (List.mem_of_getElem? (i := 28) rfl)
theorem d2_48 : Dc jdk_42_method_149_code 48 (.putfield 15) 3 51 := ⟨by decide +kernel, rfl⟩
theorem w_31 {a0 : Array Value} {Z : State} (H : Wd a0 Z) : (Jvm.Cond.laysFinal "java/lang/String" "java/lang/String" "coder" "B").before a0 Z = true := H _ (List.mem_of_getElem? (i := 31) rfl)
theorem w_6 {a0 : Array Value} {Z : State} (H : Wd a0 Z) : (Jvm.Cond.instantiable "java/lang/String" (4 : Nat)).before a0 Z = true := H _ (List.mem_of_getElem? (i := 6) rfl)
theorem w_30 {a0 : Array Value} {Z : State} (H : Wd a0 Z) : (Jvm.Cond.fieldLink "java/lang/String" (15 : Nat) "java/lang/String" "coder" "B").before a0 Z = true := H _ (List.mem_of_getElem? (i := 30) rfl)
theorem d2_51 : Dc jdk_42_method_149_code 51 (.aload_n 0) 1 52 := ⟨by decide +kernel, rfl⟩
theorem d2_52 : Dc jdk_42_method_149_code 52 (.aload 5) 2 54 := ⟨by decide +kernel, rfl⟩
theorem d2_54 : Dc jdk_42_method_149_code 54 (.putfield 9) 3 57 := ⟨by decide +kernel, rfl⟩
theorem w_33 {a0 : Array Value} {Z : State} (H : Wd a0 Z) : (Jvm.Cond.laysFinal "java/lang/String" "java/lang/String" "value" "[B").before a0 Z = true := H _ (List.mem_of_getElem? (i := 33) rfl)
theorem w_32 {a0 : Array Value} {Z : State} (H : Wd a0 Z) : (Jvm.Cond.fieldLink "java/lang/String" (9 : Nat) "java/lang/String" "value" "[B").before a0 Z = true := H _ (List.mem_of_getElem? (i := 32) rfl)
theorem d2_57 : Dc jdk_42_method_149_code 57 (.return_) 1 58 := ⟨by decide +kernel, rfl⟩
set_option maxRecDepth 65536 in
set_option maxHeartbeats 40000000 in
theorem rmS0 {l : Launch} {Z : State} {a0 : Array Value} {n0 : Nat} (H : Wd a0 Z) (a1 a : Addr) (cz : Int32) (h0 : Heap) (Z0 : n0 ≤ h0.size) (E_a1 : Exa Z h0 a1 "java/lang/String") (F0_a1 : Fld Z h0 a1 "java/lang/String" "value" "[B" .null) (F1_a1 : Fld Z h0 a1 "java/lang/String" "coder" "B" (.int (0 : Int32))) (A1 : AV Z h0 a .char [(.int (109 : Int32)), (.int (97 : Int32)), (.int (120 : Int32)), (.int (45 : Int32)), (.int (115 : Int32)), (.int (117 : Int32)), (.int (109 : Int32))]) (g1 : n0 ≤ a1) (na1 : a ≠ a1) (SC : Sta Z h0 "java/lang/String" "COMPACT_STRINGS" "Z" (.int cz)) (hz : ¬ cz = 0) :
    Ct l Z n0 (⟨"java/lang/String", "<init>", "([CIILjava/lang/Void;)V"⟩ : MethodName) jdk_42_method_149_code 6 none [] ({ frames := 2, cells := 1, slots := 7, locals := 40 } : Room) #[(.ref a1), (.ref a), (.int (0 : Int32)), (.int (7 : Int32)), .null] h0 (fun v h => ∃ b, v = none ∧ h0.size ≤ b ∧ Keep h0 h [a1] ∧ Exa Z h a1 "java/lang/String" ∧ Fld Z h a1 "java/lang/String" "value" "[B" (.ref b) ∧ Fld Z h a1 "java/lang/String" "coder" "B" (.int (0 : Int32)) ∧ AV Z h b .byte [(.int (109 : Int32)), (.int (97 : Int32)), (.int (120 : Int32)), (.int (45 : Int32)), (.int (115 : Int32)), (.int (117 : Int32)), (.int (109 : Int32))]) := by
  refine Ct.of (a0 := a0) (L0 := #[.val (.ref a1), .val (.ref a), .val (.int (0 : Int32)), .val (.int (7 : Int32)), .val .null, .unset]) (plainFor_of_name pn_java_lang_String) (fun m => by first | (simp [entryFrame, mkF, argsToLocals, Value.category]; done) | rfl) ?_
  intro κ B0
  have B : Ok κ l Z a0 n0 ({ frames := 2, cells := 1, slots := 7, locals := 40 } : Room) "java/lang/String" "<init>" jdk_42_method_149_code 6 none := B0
  refine go_aload_n B d2_0 rfl rfl ?_
  refine go_initO B (W := 0) d2_1 (w_15 H) (w_16 H) (w_17 H) rfl rfl (by decide) (by decide) ?_
  refine go_iload_n B d2_4 rfl ?_
  refine go_ifne B d2_5 (fun c5 => ?_) (fun c5 => ?_)
  rotate_left
  · exact absurd c5 (by decide)
  refine go_getstatic B d2_27 (w_18 H) SC ?_
  refine go_ifeq B d2_30 (fun c30 => ?_) (fun c30 => ?_)
  · exact absurd c30 hz
  refine go_aload_n B d2_33 rfl rfl ?_
  refine go_iload_n B d2_34 rfl ?_
  refine go_iload_n B d2_35 rfl ?_
  refine go_static B (W := 0) (argsL := [(.ref a), (.int (0 : Int32)), (.int (7 : Int32))]) (st := []) d2_36 (w_19 H) (w_20 H) (w_21 H) (w_22 H) (by decide) (rmD0 H a h0 Z0 A1) pd_1 rfl rfl rfl rfl (by decide) (by decide) (by decide) (by decide) ?_
  rintro _ h55 ⟨b50, rfl, g51, K52, A53, C54⟩
  have ne_b50_a1 : b50 ≠ a1 := Nat.ne_of_gt (Nat.lt_of_lt_of_le (E_a1).lt (by omega))
  have ne_b50_a : b50 ≠ a := Nat.ne_of_gt (Nat.lt_of_lt_of_le (A1).lt (by omega))
  have ge_b50 : n0 ≤ b50 := by have q1 := Z0; omega
  have fr_b50 : h0.size ≤ b50 := by have q1 := (show Keep h0 h0 [a1] from (Keep.refl h0 [a1])).1; omega
  show Go κ _ h55 _ _ 39 #[.val (.ref a1), .val (.ref a), .val (.int (0 : Int32)), .val (.int (7 : Int32)), .val .null, .unset] [(.ref b50)]
  refine go_astore B #[.val (.ref a1), .val (.ref a), .val (.int (0 : Int32)), .val (.int (7 : Int32)), .val .null, .val (.ref b50)] d2_39 rfl rfl ?_
  refine go_aload_n B d2_41 rfl rfl ?_
  refine go_aload B d2_42 rfl rfl ?_
  refine go_iload_n B d2_44 rfl ?_
  refine go_static B (W := 1) (argsL := [(.ref b50), (.int (7 : Int32))]) (st := [(.ref a1)]) d2_45 (w_27 H) (w_28 H) (w_21 H) (w_29 H) (by decide) (rmK0 H b50 h55 (Nat.le_trans Z0 K52.1) A53) pd_2 rfl rfl rfl rfl (by decide) (by decide) (by decide) (by decide) ?_
  rintro _ h56 ⟨rfl, rfl⟩
  show Go κ _ h55 _ _ 48 #[.val (.ref a1), .val (.ref a), .val (.int (0 : Int32)), .val (.int (7 : Int32)), .val .null, .val (.ref b50)] [(.int (0 : Int32)), (.ref a1)]
  refine go_putfield B (ty := .byte) d2_48 (w_30 H) (Fld.keep F1_a1 K52 nin0) (Exa.keep E_a1 K52) (Or.inr ⟨(w_31 H), rfl, rfl⟩) (w_6 H) (by decide) (by decide) (by decide) g1 ?_
  intro h57 W58
  have f59 : Fld Z h57 a1 "java/lang/String" "coder" "B" (.int (0 : Int32)) := Fld.same W58 (Fld.keep F1_a1 K52 nin0)
  refine go_aload_n B d2_51 rfl rfl ?_
  refine go_aload B d2_52 rfl rfl ?_
  have f60 : Fld Z h57 a1 "java/lang/String" "value" "[B" .null := (Fld.other W58 (Fld.keep F0_a1 K52 nin0) (Or.inr (slot_ne (t := (.array .byte)) (t' := .byte) (Or.inr (w_33 H)) (Or.inr (w_31 H)) (by decide) (by decide) (by decide))))
  refine go_putfield B (ty := (.array .byte)) d2_54 (w_32 H) f60 (Exa.wr W58 (Exa.keep E_a1 K52)) (Or.inr ⟨(w_33 H), rfl, rfl⟩) (w_6 H) (by decide) rfl rfl g1 ?_
  intro h61 W62
  have f63 : Fld Z h61 a1 "java/lang/String" "value" "[B" (.ref b50) := Fld.same W62 f60
  refine go_return B d2_57 (by decide) (by decide) ?_
  have f64 : Keep h0 h61 [a1] := (Keep.wr (Keep.wr (Keep.trans (Keep.refl h0 [a1]) K52 all0) W58 (Or.inl (by simp))) W62 (Or.inl (by simp)))
  have f65 : Fld Z h61 a1 "java/lang/String" "coder" "B" (.int (0 : Int32)) := (Fld.other W62 f59 (Or.inr (slot_ne (t := .byte) (t' := (.array .byte)) (Or.inr (w_31 H)) (Or.inr (w_33 H)) (by decide) (by decide) (by decide))))
  exact ⟨b50, rfl, by assumption, f64, (Exa.wr W62 (Exa.wr W58 (Exa.keep E_a1 K52))), f63, f65, (AV.other (AV.other A53 W58 ne_b50_a1) W62 ne_b50_a1)⟩
theorem d1_0 : Dc jdk_42_method_3_code 0 (.aload_n 0) 1 1 := ⟨by decide +kernel, rfl⟩
theorem d1_1 : Dc jdk_42_method_3_code 1 (.aload_n 1) 1 2 := ⟨by decide +kernel, rfl⟩
theorem d1_2 : Dc jdk_42_method_3_code 2 (.iconst 0) 1 3 := ⟨by decide +kernel, rfl⟩
theorem d1_3 : Dc jdk_42_method_3_code 3 (.aload_n 1) 1 4 := ⟨by decide +kernel, rfl⟩
theorem d1_4 : Dc jdk_42_method_3_code 4 (.arraylength) 1 5 := ⟨by decide +kernel, rfl⟩
theorem d1_5 : Dc jdk_42_method_3_code 5 (.aconst_null) 1 6 := ⟨by decide +kernel, rfl⟩
theorem d1_6 : Dc jdk_42_method_3_code 6 (.invokespecial 27) 3 9 := ⟨by decide +kernel, rfl⟩
theorem w_14 {a0 : Array Value} {Z : State} (H : Wd a0 Z) : (Jvm.Cond.code ({ cls := "java/lang/String", name := "<init>", desc := "([CIILjava/lang/Void;)V" } : Jvm.MethodName) jdk_42_method_149_code (6 : Nat) (Option.none : Option Jvm.ClassFile.FieldType)).before a0 Z = true := H _ (List.mem_of_getElem? (i := 14) rfl)
theorem w_7 {a0 : Array Value} {Z : State} (H : Wd a0 Z) : (Jvm.Cond.initialized "java/lang/String").before a0 Z = true := H _ (List.mem_of_getElem? (i := 7) rfl)
theorem pd_3 : parseMethodDescriptor "([CIILjava/lang/Void;)V" = some ⟨[(.array .char), .int, .int, (.object "java/lang/Void")], none⟩ := by decide +kernel
theorem w_11 {a0 : Array Value} {Z : State} (H : Wd a0 Z) : (Jvm.Cond.methodLink "java/lang/String" (27 : Nat) ({ cls := "java/lang/String", name := "<init>", desc := "([CIILjava/lang/Void;)V" } : Jvm.MethodName)).before a0 Z = true := H _ (List.mem_of_getElem? (i := 11) rfl)
theorem w_12 {a0 : Array Value} {Z : State} (H : Wd a0 Z) : (Jvm.Cond.instanceMethod ({ cls := "java/lang/String", name := "<init>", desc := "([CIILjava/lang/Void;)V" } : Jvm.MethodName)).before a0 Z = true := H _ (List.mem_of_getElem? (i := 12) rfl)
theorem d1_9 : Dc jdk_42_method_3_code 9 (.return_) 1 10 := ⟨by decide +kernel, rfl⟩
set_option maxRecDepth 65536 in
set_option maxHeartbeats 40000000 in
theorem rmT0 {l : Launch} {Z : State} {a0 : Array Value} {n0 : Nat} (H : Wd a0 Z) (a1 a : Addr) (cz : Int32) (h0 : Heap) (Z0 : n0 ≤ h0.size) (E_a1 : Exa Z h0 a1 "java/lang/String") (F0_a1 : Fld Z h0 a1 "java/lang/String" "value" "[B" .null) (F1_a1 : Fld Z h0 a1 "java/lang/String" "coder" "B" (.int (0 : Int32))) (A1 : AV Z h0 a .char [(.int (109 : Int32)), (.int (97 : Int32)), (.int (120 : Int32)), (.int (45 : Int32)), (.int (115 : Int32)), (.int (117 : Int32)), (.int (109 : Int32))]) (g1 : n0 ≤ a1) (na1 : a ≠ a1) (SC : Sta Z h0 "java/lang/String" "COMPACT_STRINGS" "Z" (.int cz)) (hz : ¬ cz = 0) :
    Ct l Z n0 (⟨"java/lang/String", "<init>", "([C)V"⟩ : MethodName) jdk_42_method_3_code 2 none [] ({ frames := 3, cells := 1, slots := 7, locals := 60 } : Room) #[(.ref a1), (.ref a)] h0 (fun v h => ∃ b, v = none ∧ h0.size ≤ b ∧ Keep h0 h [a1] ∧ Exa Z h a1 "java/lang/String" ∧ Fld Z h a1 "java/lang/String" "value" "[B" (.ref b) ∧ Fld Z h a1 "java/lang/String" "coder" "B" (.int (0 : Int32)) ∧ AV Z h b .byte [(.int (109 : Int32)), (.int (97 : Int32)), (.int (120 : Int32)), (.int (45 : Int32)), (.int (115 : Int32)), (.int (117 : Int32)), (.int (109 : Int32))]) := by
  refine Ct.of (a0 := a0) (L0 := #[.val (.ref a1), .val (.ref a)]) (plainFor_of_name pn_java_lang_String) (fun m => by first | (simp [entryFrame, mkF, argsToLocals, Value.category]; done) | rfl) ?_
  intro κ B0
  have B : Ok κ l Z a0 n0 ({ frames := 3, cells := 1, slots := 7, locals := 60 } : Room) "java/lang/String" "<init>" jdk_42_method_3_code 2 none := B0
  refine go_aload_n B d1_0 rfl rfl ?_
  refine go_aload_n B d1_1 rfl rfl ?_
  refine go_iconst B (x := (0 : Int32)) d1_2 rfl ?_
  refine go_aload_n B d1_3 rfl rfl ?_
  refine go_arraylength B (x := (7 : Int32)) d1_4 A1 rfl ?_
  refine go_aconst_null B d1_5 ?_
  refine go_special B (W := 0) (a := a1) (argsL := [(.ref a), (.int (0 : Int32)), (.int (7 : Int32)), .null]) (st := []) d1_6 rfl (w_11 H) (w_12 H) (w_7 H) (w_14 H) (by decide) (rmS0 H a1 a cz h0 Z0 E_a1 F0_a1 F1_a1 A1 g1 na1 SC hz) pd_3 rfl rfl rfl rfl (by decide) (by decide) (by decide) (by decide) ?_
  rintro _ h73 ⟨b66, rfl, g67, K68, E70, f71, f72, A69⟩
  have ne_b66_a1 : b66 ≠ a1 := Nat.ne_of_gt (Nat.lt_of_lt_of_le (E_a1).lt (by omega))
  have ne_b66_a : b66 ≠ a := Nat.ne_of_gt (Nat.lt_of_lt_of_le (A1).lt (by omega))
  have ge_b66 : n0 ≤ b66 := by have q1 := Z0; omega
  have fr_b66 : h0.size ≤ b66 := by have q1 := (show Keep h0 h0 [a1] from (Keep.refl h0 [a1])).1; omega
  show Go κ _ h73 _ _ 9 #[.val (.ref a1), .val (.ref a)] []
  refine go_return B d1_9 (by decide) (by decide) ?_
  have f74 : Keep h0 h73 [a1] := (Keep.trans (Keep.refl h0 [a1]) K68 (allS (Or.inl (by simp)) all0))
  exact ⟨b66, rfl, by assumption, f74, E70, f71, f72, A69⟩
set_option maxRecDepth 65536 in
set_option maxHeartbeats 40000000 in
theorem rmC1 {l : Launch} {Z : State} {a0 : Array Value} {n0 : Nat} (H : Wd a0 Z) (a b : Addr) (h0 : Heap) (Z0 : n0 ≤ h0.size) (A1 : AV Z h0 a .char [(.int (109 : Int32)), (.int (97 : Int32)), (.int (120 : Int32)), (.int (45 : Int32)), (.int (109 : Int32)), (.int (105 : Int32)), (.int (110 : Int32))]) (A2 : AV Z h0 b .byte [(.int (0 : Int32)), (.int (0 : Int32)), (.int (0 : Int32)), (.int (0 : Int32)), (.int (0 : Int32)), (.int (0 : Int32)), (.int (0 : Int32))]) (gb : n0 ≤ b) (nab : a ≠ b) :
    Ct l Z n0 (⟨"java/lang/StringUTF16", "compress", "([CI[BII)I"⟩ : MethodName) jdk_52_method_21_code 7 (some .int) [] ({ frames := 0, cells := 0, slots := 0, locals := 0 } : Room) #[(.ref a), (.int (0 : Int32)), (.ref b), (.int (0 : Int32)), (.int (7 : Int32))] h0 (fun v h => v = some (.int (7 : Int32)) ∧ Keep h0 h [b] ∧ AV Z h b .byte [(.int (109 : Int32)), (.int (97 : Int32)), (.int (120 : Int32)), (.int (45 : Int32)), (.int (109 : Int32)), (.int (105 : Int32)), (.int (110 : Int32))]) := by
  refine Ct.of (a0 := a0) (L0 := #[.val (.ref a), .val (.int (0 : Int32)), .val (.ref b), .val (.int (0 : Int32)), .val (.int (7 : Int32)), .unset, .unset]) (plainFor_of_name pn_java_lang_StringUTF16) (fun m => by first | (simp [entryFrame, mkF, argsToLocals, Value.category]; done) | rfl) ?_
  intro κ B0
  have B : Ok κ l Z a0 n0 ({ frames := 0, cells := 0, slots := 0, locals := 0 } : Room) "java/lang/StringUTF16" "compress" jdk_52_method_21_code 7 (some .int) := B0
  refine go_iconst B (x := (0 : Int32)) d5_0 rfl ?_
  refine go_istore B #[.val (.ref a), .val (.int (0 : Int32)), .val (.ref b), .val (.int (0 : Int32)), .val (.int (7 : Int32)), .val (.int (0 : Int32)), .unset] d5_1 rfl ?_
  refine go_iload B d5_3 rfl ?_
  refine go_iload B d5_5 rfl ?_
  refine go_icmpge B d5_7 (fun c7 => ?_) (fun c7 => ?_)
  · exact absurd c7 (by decide)
  refine go_aload_n B d5_10 rfl rfl ?_
  refine go_iload_n B d5_11 rfl ?_
  refine go_caload B (i := 0) (v := (.int (109 : Int32))) d5_12 A1 rfl rfl ?_
  refine go_istore B #[.val (.ref a), .val (.int (0 : Int32)), .val (.ref b), .val (.int (0 : Int32)), .val (.int (7 : Int32)), .val (.int (0 : Int32)), .val (.int (109 : Int32))] d5_13 rfl ?_
  refine go_iload B d5_15 rfl ?_
  refine go_sipush B (x := (255 : Int32)) d5_17 (by decide) ?_
  refine go_icmple B d5_20 (fun c20 => ?_) (fun c20 => ?_)
  rotate_left
  · exact absurd c20 (by decide)
  refine go_aload_n B d5_26 rfl rfl ?_
  refine go_iload_n B d5_27 rfl ?_
  refine go_iload B d5_28 rfl ?_
  refine go_i2b B d5_30 ?_
  rw [show (109 : Int32).toInt8.toInt32 = (109 : Int32) from by decide]
  refine go_bastore B (i := 0) d5_31 A2 rfl (show 0 < 7 from by decide) gb ?_
  intro h75 W76 A77
  have A78 : AV Z h75 b .byte [(.int (109 : Int32)), (.int (0 : Int32)), (.int (0 : Int32)), (.int (0 : Int32)), (.int (0 : Int32)), (.int (0 : Int32)), (.int (0 : Int32))] := (by have q := A77; rw [show nar .byte (109 : Int32) = (109 : Int32) from by decide] at q; exact q)
  refine go_iinc B #[.val (.ref a), .val (.int ((0 : Int32) + (1 : Int32))), .val (.ref b), .val (.int (0 : Int32)), .val (.int (7 : Int32)), .val (.int (0 : Int32)), .val (.int (109 : Int32))] d5_32 (z := (1 : Int32)) rfl rfl rfl ?_
  rw [show ((0 : Int32) + (1 : Int32)) = (1 : Int32) from by decide]
  refine go_iinc B #[.val (.ref a), .val (.int (1 : Int32)), .val (.ref b), .val (.int ((0 : Int32) + (1 : Int32))), .val (.int (7 : Int32)), .val (.int (0 : Int32)), .val (.int (109 : Int32))] d5_35 (z := (1 : Int32)) rfl rfl rfl ?_
  rw [show ((0 : Int32) + (1 : Int32)) = (1 : Int32) from by decide]
  refine go_iinc B #[.val (.ref a), .val (.int (1 : Int32)), .val (.ref b), .val (.int (1 : Int32)), .val (.int (7 : Int32)), .val (.int ((0 : Int32) + (1 : Int32))), .val (.int (109 : Int32))] d5_38 (z := (1 : Int32)) rfl rfl rfl ?_
  rw [show ((0 : Int32) + (1 : Int32)) = (1 : Int32) from by decide]
  refine go_goto B d5_41 ?_
  refine go_iload B d5_3 rfl ?_
  refine go_iload B d5_5 rfl ?_
  refine go_icmpge B d5_7 (fun c7_79 => ?_) (fun c7_79 => ?_)
  · exact absurd c7_79 (by decide)
  refine go_aload_n B d5_10 rfl rfl ?_
  refine go_iload_n B d5_11 rfl ?_
  refine go_caload B (i := 1) (v := (.int (97 : Int32))) d5_12 (AV.other A1 W76 nab) rfl rfl ?_
  refine go_istore B #[.val (.ref a), .val (.int (1 : Int32)), .val (.ref b), .val (.int (1 : Int32)), .val (.int (7 : Int32)), .val (.int (1 : Int32)), .val (.int (97 : Int32))] d5_13 rfl ?_
  refine go_iload B d5_15 rfl ?_
  refine go_sipush B (x := (255 : Int32)) d5_17 (by decide) ?_
  refine go_icmple B d5_20 (fun c20_80 => ?_) (fun c20_80 => ?_)
  rotate_left
  · exact absurd c20_80 (by decide)
  refine go_aload_n B d5_26 rfl rfl ?_
  refine go_iload_n B d5_27 rfl ?_
  refine go_iload B d5_28 rfl ?_
  refine go_i2b B d5_30 ?_
  rw [show (97 : Int32).toInt8.toInt32 = (97 : Int32) from by decide]
  refine go_bastore B (i := 1) d5_31 A78 rfl (show 1 < 7 from by decide) gb ?_
  intro h81 W82 A83
  have A84 : AV Z h81 b .byte [(.int (109 : Int32)), (.int (97 : Int32)), (.int (0 : Int32)), (.int (0 : Int32)), (.int (0 : Int32)), (.int (0 : Int32)), (.int (0 : Int32))] := (by have q := A83; rw [show nar .byte (97 : Int32) = (97 : Int32) from by decide] at q; exact q)
  refine go_iinc B #[.val (.ref a), .val (.int ((1 : Int32) + (1 : Int32))), .val (.ref b), .val (.int (1 : Int32)), .val (.int (7 : Int32)), .val (.int (1 : Int32)), .val (.int (97 : Int32))] d5_32 (z := (1 : Int32)) rfl rfl rfl ?_
  rw [show ((1 : Int32) + (1 : Int32)) = (2 : Int32) from by decide]
  refine go_iinc B #[.val (.ref a), .val (.int (2 : Int32)), .val (.ref b), .val (.int ((1 : Int32) + (1 : Int32))), .val (.int (7 : Int32)), .val (.int (1 : Int32)), .val (.int (97 : Int32))] d5_35 (z := (1 : Int32)) rfl rfl rfl ?_
  rw [show ((1 : Int32) + (1 : Int32)) = (2 : Int32) from by decide]
  refine go_iinc B #[.val (.ref a), .val (.int (2 : Int32)), .val (.ref b), .val (.int (2 : Int32)), .val (.int (7 : Int32)), .val (.int ((1 : Int32) + (1 : Int32))), .val (.int (97 : Int32))] d5_38 (z := (1 : Int32)) rfl rfl rfl ?_
  rw [show ((1 : Int32) + (1 : Int32)) = (2 : Int32) from by decide]
  refine go_goto B d5_41 ?_
  refine go_iload B d5_3 rfl ?_
  refine go_iload B d5_5 rfl ?_
  refine go_icmpge B d5_7 (fun c7_85 => ?_) (fun c7_85 => ?_)
  · exact absurd c7_85 (by decide)
  refine go_aload_n B d5_10 rfl rfl ?_
  refine go_iload_n B d5_11 rfl ?_
  refine go_caload B (i := 2) (v := (.int (120 : Int32))) d5_12 (AV.other (AV.other A1 W76 nab) W82 nab) rfl rfl ?_
  refine go_istore B #[.val (.ref a), .val (.int (2 : Int32)), .val (.ref b), .val (.int (2 : Int32)), .val (.int (7 : Int32)), .val (.int (2 : Int32)), .val (.int (120 : Int32))] d5_13 rfl ?_
  refine go_iload B d5_15 rfl ?_
  refine go_sipush B (x := (255 : Int32)) d5_17 (by decide) ?_
  refine go_icmple B d5_20 (fun c20_86 => ?_) (fun c20_86 => ?_)
  rotate_left
  · exact absurd c20_86 (by decide)
  refine go_aload_n B d5_26 rfl rfl ?_
  refine go_iload_n B d5_27 rfl ?_
  refine go_iload B d5_28 rfl ?_
  refine go_i2b B d5_30 ?_
  rw [show (120 : Int32).toInt8.toInt32 = (120 : Int32) from by decide]
  refine go_bastore B (i := 2) d5_31 A84 rfl (show 2 < 7 from by decide) gb ?_
  intro h87 W88 A89
  have A90 : AV Z h87 b .byte [(.int (109 : Int32)), (.int (97 : Int32)), (.int (120 : Int32)), (.int (0 : Int32)), (.int (0 : Int32)), (.int (0 : Int32)), (.int (0 : Int32))] := (by have q := A89; rw [show nar .byte (120 : Int32) = (120 : Int32) from by decide] at q; exact q)
  refine go_iinc B #[.val (.ref a), .val (.int ((2 : Int32) + (1 : Int32))), .val (.ref b), .val (.int (2 : Int32)), .val (.int (7 : Int32)), .val (.int (2 : Int32)), .val (.int (120 : Int32))] d5_32 (z := (1 : Int32)) rfl rfl rfl ?_
  rw [show ((2 : Int32) + (1 : Int32)) = (3 : Int32) from by decide]
  refine go_iinc B #[.val (.ref a), .val (.int (3 : Int32)), .val (.ref b), .val (.int ((2 : Int32) + (1 : Int32))), .val (.int (7 : Int32)), .val (.int (2 : Int32)), .val (.int (120 : Int32))] d5_35 (z := (1 : Int32)) rfl rfl rfl ?_
  rw [show ((2 : Int32) + (1 : Int32)) = (3 : Int32) from by decide]
  refine go_iinc B #[.val (.ref a), .val (.int (3 : Int32)), .val (.ref b), .val (.int (3 : Int32)), .val (.int (7 : Int32)), .val (.int ((2 : Int32) + (1 : Int32))), .val (.int (120 : Int32))] d5_38 (z := (1 : Int32)) rfl rfl rfl ?_
  rw [show ((2 : Int32) + (1 : Int32)) = (3 : Int32) from by decide]
  refine go_goto B d5_41 ?_
  refine go_iload B d5_3 rfl ?_
  refine go_iload B d5_5 rfl ?_
  refine go_icmpge B d5_7 (fun c7_91 => ?_) (fun c7_91 => ?_)
  · exact absurd c7_91 (by decide)
  refine go_aload_n B d5_10 rfl rfl ?_
  refine go_iload_n B d5_11 rfl ?_
  refine go_caload B (i := 3) (v := (.int (45 : Int32))) d5_12 (AV.other (AV.other (AV.other A1 W76 nab) W82 nab) W88 nab) rfl rfl ?_
  refine go_istore B #[.val (.ref a), .val (.int (3 : Int32)), .val (.ref b), .val (.int (3 : Int32)), .val (.int (7 : Int32)), .val (.int (3 : Int32)), .val (.int (45 : Int32))] d5_13 rfl ?_
  refine go_iload B d5_15 rfl ?_
  refine go_sipush B (x := (255 : Int32)) d5_17 (by decide) ?_
  refine go_icmple B d5_20 (fun c20_92 => ?_) (fun c20_92 => ?_)
  rotate_left
  · exact absurd c20_92 (by decide)
  refine go_aload_n B d5_26 rfl rfl ?_
  refine go_iload_n B d5_27 rfl ?_
  refine go_iload B d5_28 rfl ?_
  refine go_i2b B d5_30 ?_
  rw [show (45 : Int32).toInt8.toInt32 = (45 : Int32) from by decide]
  refine go_bastore B (i := 3) d5_31 A90 rfl (show 3 < 7 from by decide) gb ?_
  intro h93 W94 A95
  have A96 : AV Z h93 b .byte [(.int (109 : Int32)), (.int (97 : Int32)), (.int (120 : Int32)), (.int (45 : Int32)), (.int (0 : Int32)), (.int (0 : Int32)), (.int (0 : Int32))] := (by have q := A95; rw [show nar .byte (45 : Int32) = (45 : Int32) from by decide] at q; exact q)
  refine go_iinc B #[.val (.ref a), .val (.int ((3 : Int32) + (1 : Int32))), .val (.ref b), .val (.int (3 : Int32)), .val (.int (7 : Int32)), .val (.int (3 : Int32)), .val (.int (45 : Int32))] d5_32 (z := (1 : Int32)) rfl rfl rfl ?_
  rw [show ((3 : Int32) + (1 : Int32)) = (4 : Int32) from by decide]
  refine go_iinc B #[.val (.ref a), .val (.int (4 : Int32)), .val (.ref b), .val (.int ((3 : Int32) + (1 : Int32))), .val (.int (7 : Int32)), .val (.int (3 : Int32)), .val (.int (45 : Int32))] d5_35 (z := (1 : Int32)) rfl rfl rfl ?_
  rw [show ((3 : Int32) + (1 : Int32)) = (4 : Int32) from by decide]
  refine go_iinc B #[.val (.ref a), .val (.int (4 : Int32)), .val (.ref b), .val (.int (4 : Int32)), .val (.int (7 : Int32)), .val (.int ((3 : Int32) + (1 : Int32))), .val (.int (45 : Int32))] d5_38 (z := (1 : Int32)) rfl rfl rfl ?_
  rw [show ((3 : Int32) + (1 : Int32)) = (4 : Int32) from by decide]
  refine go_goto B d5_41 ?_
  refine go_iload B d5_3 rfl ?_
  refine go_iload B d5_5 rfl ?_
  refine go_icmpge B d5_7 (fun c7_97 => ?_) (fun c7_97 => ?_)
  · exact absurd c7_97 (by decide)
  refine go_aload_n B d5_10 rfl rfl ?_
  refine go_iload_n B d5_11 rfl ?_
  have f98 : AV Z h93 a .char [(.int (109 : Int32)), (.int (97 : Int32)), (.int (120 : Int32)), (.int (45 : Int32)), (.int (109 : Int32)), (.int (105 : Int32)), (.int (110 : Int32))] := (AV.other (AV.other (AV.other (AV.other A1 W76 nab) W82 nab) W88 nab) W94 nab)
  refine go_caload B (i := 4) (v := (.int (109 : Int32))) d5_12 f98 rfl rfl ?_
  refine go_istore B #[.val (.ref a), .val (.int (4 : Int32)), .val (.ref b), .val (.int (4 : Int32)), .val (.int (7 : Int32)), .val (.int (4 : Int32)), .val (.int (109 : Int32))] d5_13 rfl ?_
  refine go_iload B d5_15 rfl ?_
  refine go_sipush B (x := (255 : Int32)) d5_17 (by decide) ?_
  refine go_icmple B d5_20 (fun c20_99 => ?_) (fun c20_99 => ?_)
  rotate_left
  · exact absurd c20_99 (by decide)
  refine go_aload_n B d5_26 rfl rfl ?_
  refine go_iload_n B d5_27 rfl ?_
  refine go_iload B d5_28 rfl ?_
  refine go_i2b B d5_30 ?_
  rw [show (109 : Int32).toInt8.toInt32 = (109 : Int32) from by decide]
  refine go_bastore B (i := 4) d5_31 A96 rfl (show 4 < 7 from by decide) gb ?_
  intro h100 W101 A102
  have A103 : AV Z h100 b .byte [(.int (109 : Int32)), (.int (97 : Int32)), (.int (120 : Int32)), (.int (45 : Int32)), (.int (109 : Int32)), (.int (0 : Int32)), (.int (0 : Int32))] := (by have q := A102; rw [show nar .byte (109 : Int32) = (109 : Int32) from by decide] at q; exact q)
  refine go_iinc B #[.val (.ref a), .val (.int ((4 : Int32) + (1 : Int32))), .val (.ref b), .val (.int (4 : Int32)), .val (.int (7 : Int32)), .val (.int (4 : Int32)), .val (.int (109 : Int32))] d5_32 (z := (1 : Int32)) rfl rfl rfl ?_
  rw [show ((4 : Int32) + (1 : Int32)) = (5 : Int32) from by decide]
  refine go_iinc B #[.val (.ref a), .val (.int (5 : Int32)), .val (.ref b), .val (.int ((4 : Int32) + (1 : Int32))), .val (.int (7 : Int32)), .val (.int (4 : Int32)), .val (.int (109 : Int32))] d5_35 (z := (1 : Int32)) rfl rfl rfl ?_
  rw [show ((4 : Int32) + (1 : Int32)) = (5 : Int32) from by decide]
  refine go_iinc B #[.val (.ref a), .val (.int (5 : Int32)), .val (.ref b), .val (.int (5 : Int32)), .val (.int (7 : Int32)), .val (.int ((4 : Int32) + (1 : Int32))), .val (.int (109 : Int32))] d5_38 (z := (1 : Int32)) rfl rfl rfl ?_
  rw [show ((4 : Int32) + (1 : Int32)) = (5 : Int32) from by decide]
  refine go_goto B d5_41 ?_
  refine go_iload B d5_3 rfl ?_
  refine go_iload B d5_5 rfl ?_
  refine go_icmpge B d5_7 (fun c7_104 => ?_) (fun c7_104 => ?_)
  · exact absurd c7_104 (by decide)
  refine go_aload_n B d5_10 rfl rfl ?_
  refine go_iload_n B d5_11 rfl ?_
  refine go_caload B (i := 5) (v := (.int (105 : Int32))) d5_12 (AV.other f98 W101 nab) rfl rfl ?_
  refine go_istore B #[.val (.ref a), .val (.int (5 : Int32)), .val (.ref b), .val (.int (5 : Int32)), .val (.int (7 : Int32)), .val (.int (5 : Int32)), .val (.int (105 : Int32))] d5_13 rfl ?_
  refine go_iload B d5_15 rfl ?_
  refine go_sipush B (x := (255 : Int32)) d5_17 (by decide) ?_
  refine go_icmple B d5_20 (fun c20_105 => ?_) (fun c20_105 => ?_)
  rotate_left
  · exact absurd c20_105 (by decide)
  refine go_aload_n B d5_26 rfl rfl ?_
  refine go_iload_n B d5_27 rfl ?_
  refine go_iload B d5_28 rfl ?_
  refine go_i2b B d5_30 ?_
  rw [show (105 : Int32).toInt8.toInt32 = (105 : Int32) from by decide]
  refine go_bastore B (i := 5) d5_31 A103 rfl (show 5 < 7 from by decide) gb ?_
  intro h106 W107 A108
  have A109 : AV Z h106 b .byte [(.int (109 : Int32)), (.int (97 : Int32)), (.int (120 : Int32)), (.int (45 : Int32)), (.int (109 : Int32)), (.int (105 : Int32)), (.int (0 : Int32))] := (by have q := A108; rw [show nar .byte (105 : Int32) = (105 : Int32) from by decide] at q; exact q)
  refine go_iinc B #[.val (.ref a), .val (.int ((5 : Int32) + (1 : Int32))), .val (.ref b), .val (.int (5 : Int32)), .val (.int (7 : Int32)), .val (.int (5 : Int32)), .val (.int (105 : Int32))] d5_32 (z := (1 : Int32)) rfl rfl rfl ?_
  rw [show ((5 : Int32) + (1 : Int32)) = (6 : Int32) from by decide]
  refine go_iinc B #[.val (.ref a), .val (.int (6 : Int32)), .val (.ref b), .val (.int ((5 : Int32) + (1 : Int32))), .val (.int (7 : Int32)), .val (.int (5 : Int32)), .val (.int (105 : Int32))] d5_35 (z := (1 : Int32)) rfl rfl rfl ?_
  rw [show ((5 : Int32) + (1 : Int32)) = (6 : Int32) from by decide]
  refine go_iinc B #[.val (.ref a), .val (.int (6 : Int32)), .val (.ref b), .val (.int (6 : Int32)), .val (.int (7 : Int32)), .val (.int ((5 : Int32) + (1 : Int32))), .val (.int (105 : Int32))] d5_38 (z := (1 : Int32)) rfl rfl rfl ?_
  rw [show ((5 : Int32) + (1 : Int32)) = (6 : Int32) from by decide]
  refine go_goto B d5_41 ?_
  refine go_iload B d5_3 rfl ?_
  refine go_iload B d5_5 rfl ?_
  refine go_icmpge B d5_7 (fun c7_110 => ?_) (fun c7_110 => ?_)
  · exact absurd c7_110 (by decide)
  refine go_aload_n B d5_10 rfl rfl ?_
  refine go_iload_n B d5_11 rfl ?_
  refine go_caload B (i := 6) (v := (.int (110 : Int32))) d5_12 (AV.other (AV.other f98 W101 nab) W107 nab) rfl rfl ?_
  refine go_istore B #[.val (.ref a), .val (.int (6 : Int32)), .val (.ref b), .val (.int (6 : Int32)), .val (.int (7 : Int32)), .val (.int (6 : Int32)), .val (.int (110 : Int32))] d5_13 rfl ?_
  refine go_iload B d5_15 rfl ?_
  refine go_sipush B (x := (255 : Int32)) d5_17 (by decide) ?_
  refine go_icmple B d5_20 (fun c20_111 => ?_) (fun c20_111 => ?_)
  rotate_left
  · exact absurd c20_111 (by decide)
  refine go_aload_n B d5_26 rfl rfl ?_
  refine go_iload_n B d5_27 rfl ?_
  refine go_iload B d5_28 rfl ?_
  refine go_i2b B d5_30 ?_
  rw [show (110 : Int32).toInt8.toInt32 = (110 : Int32) from by decide]
  refine go_bastore B (i := 6) d5_31 A109 rfl (show 6 < 7 from by decide) gb ?_
  intro h112 W113 A114
  have A115 : AV Z h112 b .byte [(.int (109 : Int32)), (.int (97 : Int32)), (.int (120 : Int32)), (.int (45 : Int32)), (.int (109 : Int32)), (.int (105 : Int32)), (.int (110 : Int32))] := (by have q := A114; rw [show nar .byte (110 : Int32) = (110 : Int32) from by decide] at q; exact q)
  refine go_iinc B #[.val (.ref a), .val (.int ((6 : Int32) + (1 : Int32))), .val (.ref b), .val (.int (6 : Int32)), .val (.int (7 : Int32)), .val (.int (6 : Int32)), .val (.int (110 : Int32))] d5_32 (z := (1 : Int32)) rfl rfl rfl ?_
  rw [show ((6 : Int32) + (1 : Int32)) = (7 : Int32) from by decide]
  refine go_iinc B #[.val (.ref a), .val (.int (7 : Int32)), .val (.ref b), .val (.int ((6 : Int32) + (1 : Int32))), .val (.int (7 : Int32)), .val (.int (6 : Int32)), .val (.int (110 : Int32))] d5_35 (z := (1 : Int32)) rfl rfl rfl ?_
  rw [show ((6 : Int32) + (1 : Int32)) = (7 : Int32) from by decide]
  refine go_iinc B #[.val (.ref a), .val (.int (7 : Int32)), .val (.ref b), .val (.int (7 : Int32)), .val (.int (7 : Int32)), .val (.int ((6 : Int32) + (1 : Int32))), .val (.int (110 : Int32))] d5_38 (z := (1 : Int32)) rfl rfl rfl ?_
  rw [show ((6 : Int32) + (1 : Int32)) = (7 : Int32) from by decide]
  refine go_goto B d5_41 ?_
  refine go_iload B d5_3 rfl ?_
  refine go_iload B d5_5 rfl ?_
  refine go_icmpge B d5_7 (fun c7_116 => ?_) (fun c7_116 => ?_)
  rotate_left
  · exact absurd c7_116 (by decide)
  refine go_iload B d5_44 rfl ?_
  refine go_ireturn B d5_46 (by decide) (by decide) ?_
  have f117 : Keep h0 h112 [b] := (Keep.wr (Keep.wr (Keep.wr (Keep.wr (Keep.wr (Keep.wr (Keep.wr (Keep.refl h0 [b]) W76 (Or.inl (by simp))) W82 (Or.inl (by simp))) W88 (Or.inl (by simp))) W94 (Or.inl (by simp))) W101 (Or.inl (by simp))) W107 (Or.inl (by simp))) W113 (Or.inl (by simp)))
  exact ⟨rfl, f117, A115⟩
set_option maxRecDepth 65536 in
set_option maxHeartbeats 40000000 in
theorem rmD1 {l : Launch} {Z : State} {a0 : Array Value} {n0 : Nat} (H : Wd a0 Z) (a : Addr) (h0 : Heap) (Z0 : n0 ≤ h0.size) (A1 : AV Z h0 a .char [(.int (109 : Int32)), (.int (97 : Int32)), (.int (120 : Int32)), (.int (45 : Int32)), (.int (109 : Int32)), (.int (105 : Int32)), (.int (110 : Int32))]) :
    Ct l Z n0 (⟨"java/lang/StringUTF16", "compress", "([CII)[B"⟩ : MethodName) jdk_52_method_16_code 6 (some (.array .byte)) [] ({ frames := 1, cells := 1, slots := 7, locals := 18 } : Room) #[(.ref a), (.int (0 : Int32)), (.int (7 : Int32))] h0 (fun v h => ∃ b, v = some (.ref b) ∧ h0.size ≤ b ∧ Keep h0 h [] ∧ AV Z h b .byte [(.int (109 : Int32)), (.int (97 : Int32)), (.int (120 : Int32)), (.int (45 : Int32)), (.int (109 : Int32)), (.int (105 : Int32)), (.int (110 : Int32))] ∧ Exa Z h b "[B") := by
  refine Ct.of (a0 := a0) (L0 := #[.val (.ref a), .val (.int (0 : Int32)), .val (.int (7 : Int32)), .unset, .unset, .unset]) (plainFor_of_name pn_java_lang_StringUTF16) (fun m => by first | (simp [entryFrame, mkF, argsToLocals, Value.category]; done) | rfl) ?_
  intro κ B0
  have B : Ok κ l Z a0 n0 ({ frames := 1, cells := 1, slots := 7, locals := 18 } : Room) "java/lang/StringUTF16" "compress" jdk_52_method_16_code 6 (some (.array .byte)) := B0
  refine go_iload_n B d4_0 rfl ?_
  refine go_newarray B (i := 7) (cap := 7) d4_1 (w_23 H) rfl (Nat.le_refl _) (by decide) (by decide) (by decide) ?_
  intro h118 a119 hba119 Ea119 Aa119 Ca119
  have ne_a119_a : a119 ≠ a := Nat.ne_of_gt (Nat.lt_of_lt_of_le (A1).lt (by omega))
  have ge_a119 : n0 ≤ a119 := by have q1 := Z0; omega
  have fr_a119 : h0.size ≤ a119 := by have q1 := (show Keep h0 h0 [] from (Keep.refl h0 [])).1; omega
  have Ba119 : AV Z h118 a119 .byte [(.int (0 : Int32)), (.int (0 : Int32)), (.int (0 : Int32)), (.int (0 : Int32)), (.int (0 : Int32)), (.int (0 : Int32)), (.int (0 : Int32))] := Aa119
  refine go_astore_n B #[.val (.ref a), .val (.int (0 : Int32)), .val (.int (7 : Int32)), .val (.ref a119), .unset, .unset] d4_3 rfl rfl ?_
  refine go_aload_n B d4_4 rfl rfl ?_
  refine go_iload_n B d4_5 rfl ?_
  refine go_aload_n B d4_6 rfl rfl ?_
  refine go_iconst B (x := (0 : Int32)) d4_7 rfl ?_
  refine go_iload_n B d4_8 rfl ?_
  refine go_static B (W := 0) (argsL := [(.ref a), (.int (0 : Int32)), (.ref a119), (.int (0 : Int32)), (.int (7 : Int32))]) (st := []) d4_9 (w_24 H) (w_25 H) (w_21 H) (w_26 H) (by decide) (rmC1 H a a119 h118 (Nat.le_trans Z0 Ea119.1) (AV.ext A1 Ea119) Ba119 ge_a119 (Ne.symm ne_a119_a)) pd_0 rfl rfl rfl rfl (by decide) (by decide) (by decide) (by decide) ?_
  rintro _ h122 ⟨rfl, K120, A121⟩
  show Go κ _ h122 _ _ 12 #[.val (.ref a), .val (.int (0 : Int32)), .val (.int (7 : Int32)), .val (.ref a119), .unset, .unset] [(.int (7 : Int32))]
  refine go_istore B #[.val (.ref a), .val (.int (0 : Int32)), .val (.int (7 : Int32)), .val (.ref a119), .val (.int (7 : Int32)), .unset] d4_12 rfl ?_
  refine go_iload B d4_14 rfl ?_
  refine go_iload_n B d4_16 rfl ?_
  refine go_icmpeq B d4_17 (fun c17 => ?_) (fun c17 => ?_)
  rotate_left
  · exact absurd c17 (by decide)
  refine go_aload_n B d4_57 rfl rfl ?_
  refine go_areturn B d4_58 rfl rfl rfl (by decide) (by decide) ?_
  have f123 : Keep h0 h122 [] := (Keep.trans (Keep.ext (Keep.refl h0 []) Ea119) K120 (allS (Or.inr fr_a119) all0))
  exact ⟨a119, rfl, by omega, f123, A121, (Exa.keep Ca119 K120)⟩
set_option maxRecDepth 65536 in
set_option maxHeartbeats 40000000 in
theorem rmK1 {l : Launch} {Z : State} {a0 : Array Value} {n0 : Nat} (H : Wd a0 Z) (b : Addr) (h0 : Heap) (Z0 : n0 ≤ h0.size) (A1 : AV Z h0 b .byte [(.int (109 : Int32)), (.int (97 : Int32)), (.int (120 : Int32)), (.int (45 : Int32)), (.int (109 : Int32)), (.int (105 : Int32)), (.int (110 : Int32))]) :
    Ct l Z n0 (⟨"java/lang/StringUTF16", "coderFromArrayLen", "([BI)B"⟩ : MethodName) jdk_52_method_15_code 2 (some .byte) [] ({ frames := 0, cells := 0, slots := 0, locals := 0 } : Room) #[(.ref b), (.int (7 : Int32))] h0 (fun v h => v = some (.int (0 : Int32)) ∧ h0 = h) := by
  refine Ct.of (a0 := a0) (L0 := #[.val (.ref b), .val (.int (7 : Int32))]) (plainFor_of_name pn_java_lang_StringUTF16) (fun m => by first | (simp [entryFrame, mkF, argsToLocals, Value.category]; done) | rfl) ?_
  intro κ B0
  have B : Ok κ l Z a0 n0 ({ frames := 0, cells := 0, slots := 0, locals := 0 } : Room) "java/lang/StringUTF16" "coderFromArrayLen" jdk_52_method_15_code 2 (some .byte) := B0
  refine go_iload_n B d6_0 rfl ?_
  refine go_aload_n B d6_1 rfl rfl ?_
  refine go_arraylength B (x := (7 : Int32)) d6_2 A1 rfl ?_
  refine go_isub B d6_3 ?_
  rw [show ((7 : Int32) - (7 : Int32)) = (0 : Int32) from by decide]
  refine go_bipush B (x := (31 : Int32)) d6_4 (by decide) ?_
  refine go_iushr B d6_6 ?_
  rw [show (XT.ushr (0 : Int32) (31 : Int32)) = (0 : Int32) from by decide]
  refine go_i2b B d6_7 ?_
  rw [show (0 : Int32).toInt8.toInt32 = (0 : Int32) from by decide]
  refine go_breturn B (y := (0 : Int32)) d6_8 (by decide) (by decide) (by decide) ?_
  exact ⟨rfl, rfl⟩
set_option maxRecDepth 65536 in
set_option maxHeartbeats 40000000 in
theorem rmS1 {l : Launch} {Z : State} {a0 : Array Value} {n0 : Nat} (H : Wd a0 Z) (a1 a : Addr) (cz : Int32) (h0 : Heap) (Z0 : n0 ≤ h0.size) (E_a1 : Exa Z h0 a1 "java/lang/String") (F0_a1 : Fld Z h0 a1 "java/lang/String" "value" "[B" .null) (F1_a1 : Fld Z h0 a1 "java/lang/String" "coder" "B" (.int (0 : Int32))) (A1 : AV Z h0 a .char [(.int (109 : Int32)), (.int (97 : Int32)), (.int (120 : Int32)), (.int (45 : Int32)), (.int (109 : Int32)), (.int (105 : Int32)), (.int (110 : Int32))]) (g1 : n0 ≤ a1) (na1 : a ≠ a1) (SC : Sta Z h0 "java/lang/String" "COMPACT_STRINGS" "Z" (.int cz)) (hz : ¬ cz = 0) :
    Ct l Z n0 (⟨"java/lang/String", "<init>", "([CIILjava/lang/Void;)V"⟩ : MethodName) jdk_42_method_149_code 6 none [] ({ frames := 2, cells := 1, slots := 7, locals := 40 } : Room) #[(.ref a1), (.ref a), (.int (0 : Int32)), (.int (7 : Int32)), .null] h0 (fun v h => ∃ b, v = none ∧ h0.size ≤ b ∧ Keep h0 h [a1] ∧ Exa Z h a1 "java/lang/String" ∧ Fld Z h a1 "java/lang/String" "value" "[B" (.ref b) ∧ Fld Z h a1 "java/lang/String" "coder" "B" (.int (0 : Int32)) ∧ AV Z h b .byte [(.int (109 : Int32)), (.int (97 : Int32)), (.int (120 : Int32)), (.int (45 : Int32)), (.int (109 : Int32)), (.int (105 : Int32)), (.int (110 : Int32))]) := by
  refine Ct.of (a0 := a0) (L0 := #[.val (.ref a1), .val (.ref a), .val (.int (0 : Int32)), .val (.int (7 : Int32)), .val .null, .unset]) (plainFor_of_name pn_java_lang_String) (fun m => by first | (simp [entryFrame, mkF, argsToLocals, Value.category]; done) | rfl) ?_
  intro κ B0
  have B : Ok κ l Z a0 n0 ({ frames := 2, cells := 1, slots := 7, locals := 40 } : Room) "java/lang/String" "<init>" jdk_42_method_149_code 6 none := B0
  refine go_aload_n B d2_0 rfl rfl ?_
  refine go_initO B (W := 0) d2_1 (w_15 H) (w_16 H) (w_17 H) rfl rfl (by decide) (by decide) ?_
  refine go_iload_n B d2_4 rfl ?_
  refine go_ifne B d2_5 (fun c5 => ?_) (fun c5 => ?_)
  rotate_left
  · exact absurd c5 (by decide)
  refine go_getstatic B d2_27 (w_18 H) SC ?_
  refine go_ifeq B d2_30 (fun c30 => ?_) (fun c30 => ?_)
  · exact absurd c30 hz
  refine go_aload_n B d2_33 rfl rfl ?_
  refine go_iload_n B d2_34 rfl ?_
  refine go_iload_n B d2_35 rfl ?_
  refine go_static B (W := 0) (argsL := [(.ref a), (.int (0 : Int32)), (.int (7 : Int32))]) (st := []) d2_36 (w_19 H) (w_20 H) (w_21 H) (w_22 H) (by decide) (rmD1 H a h0 Z0 A1) pd_1 rfl rfl rfl rfl (by decide) (by decide) (by decide) (by decide) ?_
  rintro _ h129 ⟨b124, rfl, g125, K126, A127, C128⟩
  have ne_b124_a1 : b124 ≠ a1 := Nat.ne_of_gt (Nat.lt_of_lt_of_le (E_a1).lt (by omega))
  have ne_b124_a : b124 ≠ a := Nat.ne_of_gt (Nat.lt_of_lt_of_le (A1).lt (by omega))
  have ge_b124 : n0 ≤ b124 := by have q1 := Z0; omega
  have fr_b124 : h0.size ≤ b124 := by have q1 := (show Keep h0 h0 [a1] from (Keep.refl h0 [a1])).1; omega
  show Go κ _ h129 _ _ 39 #[.val (.ref a1), .val (.ref a), .val (.int (0 : Int32)), .val (.int (7 : Int32)), .val .null, .unset] [(.ref b124)]
  refine go_astore B #[.val (.ref a1), .val (.ref a), .val (.int (0 : Int32)), .val (.int (7 : Int32)), .val .null, .val (.ref b124)] d2_39 rfl rfl ?_
  refine go_aload_n B d2_41 rfl rfl ?_
  refine go_aload B d2_42 rfl rfl ?_
  refine go_iload_n B d2_44 rfl ?_
  refine go_static B (W := 1) (argsL := [(.ref b124), (.int (7 : Int32))]) (st := [(.ref a1)]) d2_45 (w_27 H) (w_28 H) (w_21 H) (w_29 H) (by decide) (rmK1 H b124 h129 (Nat.le_trans Z0 K126.1) A127) pd_2 rfl rfl rfl rfl (by decide) (by decide) (by decide) (by decide) ?_
  rintro _ h130 ⟨rfl, rfl⟩
  show Go κ _ h129 _ _ 48 #[.val (.ref a1), .val (.ref a), .val (.int (0 : Int32)), .val (.int (7 : Int32)), .val .null, .val (.ref b124)] [(.int (0 : Int32)), (.ref a1)]
  refine go_putfield B (ty := .byte) d2_48 (w_30 H) (Fld.keep F1_a1 K126 nin0) (Exa.keep E_a1 K126) (Or.inr ⟨(w_31 H), rfl, rfl⟩) (w_6 H) (by decide) (by decide) (by decide) g1 ?_
  intro h131 W132
  have f133 : Fld Z h131 a1 "java/lang/String" "coder" "B" (.int (0 : Int32)) := Fld.same W132 (Fld.keep F1_a1 K126 nin0)
  refine go_aload_n B d2_51 rfl rfl ?_
  refine go_aload B d2_52 rfl rfl ?_
  have f134 : Fld Z h131 a1 "java/lang/String" "value" "[B" .null := (Fld.other W132 (Fld.keep F0_a1 K126 nin0) (Or.inr (slot_ne (t := (.array .byte)) (t' := .byte) (Or.inr (w_33 H)) (Or.inr (w_31 H)) (by decide) (by decide) (by decide))))
  refine go_putfield B (ty := (.array .byte)) d2_54 (w_32 H) f134 (Exa.wr W132 (Exa.keep E_a1 K126)) (Or.inr ⟨(w_33 H), rfl, rfl⟩) (w_6 H) (by decide) rfl rfl g1 ?_
  intro h135 W136
  have f137 : Fld Z h135 a1 "java/lang/String" "value" "[B" (.ref b124) := Fld.same W136 f134
  refine go_return B d2_57 (by decide) (by decide) ?_
  have f138 : Keep h0 h135 [a1] := (Keep.wr (Keep.wr (Keep.trans (Keep.refl h0 [a1]) K126 all0) W132 (Or.inl (by simp))) W136 (Or.inl (by simp)))
  have f139 : Fld Z h135 a1 "java/lang/String" "coder" "B" (.int (0 : Int32)) := (Fld.other W136 f133 (Or.inr (slot_ne (t := .byte) (t' := (.array .byte)) (Or.inr (w_31 H)) (Or.inr (w_33 H)) (by decide) (by decide) (by decide))))
  exact ⟨b124, rfl, by assumption, f138, (Exa.wr W136 (Exa.wr W132 (Exa.keep E_a1 K126))), f137, f139, (AV.other (AV.other A127 W132 ne_b124_a1) W136 ne_b124_a1)⟩
set_option maxRecDepth 65536 in
set_option maxHeartbeats 40000000 in
theorem rmT1 {l : Launch} {Z : State} {a0 : Array Value} {n0 : Nat} (H : Wd a0 Z) (a1 a : Addr) (cz : Int32) (h0 : Heap) (Z0 : n0 ≤ h0.size) (E_a1 : Exa Z h0 a1 "java/lang/String") (F0_a1 : Fld Z h0 a1 "java/lang/String" "value" "[B" .null) (F1_a1 : Fld Z h0 a1 "java/lang/String" "coder" "B" (.int (0 : Int32))) (A1 : AV Z h0 a .char [(.int (109 : Int32)), (.int (97 : Int32)), (.int (120 : Int32)), (.int (45 : Int32)), (.int (109 : Int32)), (.int (105 : Int32)), (.int (110 : Int32))]) (g1 : n0 ≤ a1) (na1 : a ≠ a1) (SC : Sta Z h0 "java/lang/String" "COMPACT_STRINGS" "Z" (.int cz)) (hz : ¬ cz = 0) :
    Ct l Z n0 (⟨"java/lang/String", "<init>", "([C)V"⟩ : MethodName) jdk_42_method_3_code 2 none [] ({ frames := 3, cells := 1, slots := 7, locals := 60 } : Room) #[(.ref a1), (.ref a)] h0 (fun v h => ∃ b, v = none ∧ h0.size ≤ b ∧ Keep h0 h [a1] ∧ Exa Z h a1 "java/lang/String" ∧ Fld Z h a1 "java/lang/String" "value" "[B" (.ref b) ∧ Fld Z h a1 "java/lang/String" "coder" "B" (.int (0 : Int32)) ∧ AV Z h b .byte [(.int (109 : Int32)), (.int (97 : Int32)), (.int (120 : Int32)), (.int (45 : Int32)), (.int (109 : Int32)), (.int (105 : Int32)), (.int (110 : Int32))]) := by
  refine Ct.of (a0 := a0) (L0 := #[.val (.ref a1), .val (.ref a)]) (plainFor_of_name pn_java_lang_String) (fun m => by first | (simp [entryFrame, mkF, argsToLocals, Value.category]; done) | rfl) ?_
  intro κ B0
  have B : Ok κ l Z a0 n0 ({ frames := 3, cells := 1, slots := 7, locals := 60 } : Room) "java/lang/String" "<init>" jdk_42_method_3_code 2 none := B0
  refine go_aload_n B d1_0 rfl rfl ?_
  refine go_aload_n B d1_1 rfl rfl ?_
  refine go_iconst B (x := (0 : Int32)) d1_2 rfl ?_
  refine go_aload_n B d1_3 rfl rfl ?_
  refine go_arraylength B (x := (7 : Int32)) d1_4 A1 rfl ?_
  refine go_aconst_null B d1_5 ?_
  refine go_special B (W := 0) (a := a1) (argsL := [(.ref a), (.int (0 : Int32)), (.int (7 : Int32)), .null]) (st := []) d1_6 rfl (w_11 H) (w_12 H) (w_7 H) (w_14 H) (by decide) (rmS1 H a1 a cz h0 Z0 E_a1 F0_a1 F1_a1 A1 g1 na1 SC hz) pd_3 rfl rfl rfl rfl (by decide) (by decide) (by decide) (by decide) ?_
  rintro _ h147 ⟨b140, rfl, g141, K142, E144, f145, f146, A143⟩
  have ne_b140_a1 : b140 ≠ a1 := Nat.ne_of_gt (Nat.lt_of_lt_of_le (E_a1).lt (by omega))
  have ne_b140_a : b140 ≠ a := Nat.ne_of_gt (Nat.lt_of_lt_of_le (A1).lt (by omega))
  have ge_b140 : n0 ≤ b140 := by have q1 := Z0; omega
  have fr_b140 : h0.size ≤ b140 := by have q1 := (show Keep h0 h0 [a1] from (Keep.refl h0 [a1])).1; omega
  show Go κ _ h147 _ _ 9 #[.val (.ref a1), .val (.ref a)] []
  refine go_return B d1_9 (by decide) (by decide) ?_
  have f148 : Keep h0 h147 [a1] := (Keep.trans (Keep.refl h0 [a1]) K142 (allS (Or.inl (by simp)) all0))
  exact ⟨b140, rfl, by assumption, f148, E144, f145, f146, A143⟩
set_option maxRecDepth 65536 in
set_option maxHeartbeats 40000000 in
theorem rmC2 {l : Launch} {Z : State} {a0 : Array Value} {n0 : Nat} (H : Wd a0 Z) (a b : Addr) (h0 : Heap) (Z0 : n0 ≤ h0.size) (A1 : AV Z h0 a .char [(.int (109 : Int32)), (.int (111 : Int32)), (.int (110 : Int32)), (.int (111 : Int32))]) (A2 : AV Z h0 b .byte [(.int (0 : Int32)), (.int (0 : Int32)), (.int (0 : Int32)), (.int (0 : Int32))]) (gb : n0 ≤ b) (nab : a ≠ b) :
    Ct l Z n0 (⟨"java/lang/StringUTF16", "compress", "([CI[BII)I"⟩ : MethodName) jdk_52_method_21_code 7 (some .int) [] ({ frames := 0, cells := 0, slots := 0, locals := 0 } : Room) #[(.ref a), (.int (0 : Int32)), (.ref b), (.int (0 : Int32)), (.int (4 : Int32))] h0 (fun v h => v = some (.int (4 : Int32)) ∧ Keep h0 h [b] ∧ AV Z h b .byte [(.int (109 : Int32)), (.int (111 : Int32)), (.int (110 : Int32)), (.int (111 : Int32))]) := by
  refine Ct.of (a0 := a0) (L0 := #[.val (.ref a), .val (.int (0 : Int32)), .val (.ref b), .val (.int (0 : Int32)), .val (.int (4 : Int32)), .unset, .unset]) (plainFor_of_name pn_java_lang_StringUTF16) (fun m => by first | (simp [entryFrame, mkF, argsToLocals, Value.category]; done) | rfl) ?_
  intro κ B0
  have B : Ok κ l Z a0 n0 ({ frames := 0, cells := 0, slots := 0, locals := 0 } : Room) "java/lang/StringUTF16" "compress" jdk_52_method_21_code 7 (some .int) := B0
  refine go_iconst B (x := (0 : Int32)) d5_0 rfl ?_
  refine go_istore B #[.val (.ref a), .val (.int (0 : Int32)), .val (.ref b), .val (.int (0 : Int32)), .val (.int (4 : Int32)), .val (.int (0 : Int32)), .unset] d5_1 rfl ?_
  refine go_iload B d5_3 rfl ?_
  refine go_iload B d5_5 rfl ?_
  refine go_icmpge B d5_7 (fun c7 => ?_) (fun c7 => ?_)
  · exact absurd c7 (by decide)
  refine go_aload_n B d5_10 rfl rfl ?_
  refine go_iload_n B d5_11 rfl ?_
  refine go_caload B (i := 0) (v := (.int (109 : Int32))) d5_12 A1 rfl rfl ?_
  refine go_istore B #[.val (.ref a), .val (.int (0 : Int32)), .val (.ref b), .val (.int (0 : Int32)), .val (.int (4 : Int32)), .val (.int (0 : Int32)), .val (.int (109 : Int32))] d5_13 rfl ?_
  refine go_iload B d5_15 rfl ?_
  refine go_sipush B (x := (255 : Int32)) d5_17 (by decide) ?_
  refine go_icmple B d5_20 (fun c20 => ?_) (fun c20 => ?_)
  rotate_left
  · exact absurd c20 (by decide)
  refine go_aload_n B d5_26 rfl rfl ?_
  refine go_iload_n B d5_27 rfl ?_
  refine go_iload B d5_28 rfl ?_
  refine go_i2b B d5_30 ?_
  rw [show (109 : Int32).toInt8.toInt32 = (109 : Int32) from by decide]
  refine go_bastore B (i := 0) d5_31 A2 rfl (show 0 < 4 from by decide) gb ?_
  intro h149 W150 A151
  have A152 : AV Z h149 b .byte [(.int (109 : Int32)), (.int (0 : Int32)), (.int (0 : Int32)), (.int (0 : Int32))] := (by have q := A151; rw [show nar .byte (109 : Int32) = (109 : Int32) from by decide] at q; exact q)
  refine go_iinc B #[.val (.ref a), .val (.int ((0 : Int32) + (1 : Int32))), .val (.ref b), .val (.int (0 : Int32)), .val (.int (4 : Int32)), .val (.int (0 : Int32)), .val (.int (109 : Int32))] d5_32 (z := (1 : Int32)) rfl rfl rfl ?_
  rw [show ((0 : Int32) + (1 : Int32)) = (1 : Int32) from by decide]
  refine go_iinc B #[.val (.ref a), .val (.int (1 : Int32)), .val (.ref b), .val (.int ((0 : Int32) + (1 : Int32))), .val (.int (4 : Int32)), .val (.int (0 : Int32)), .val (.int (109 : Int32))] d5_35 (z := (1 : Int32)) rfl rfl rfl ?_
  rw [show ((0 : Int32) + (1 : Int32)) = (1 : Int32) from by decide]
  refine go_iinc B #[.val (.ref a), .val (.int (1 : Int32)), .val (.ref b), .val (.int (1 : Int32)), .val (.int (4 : Int32)), .val (.int ((0 : Int32) + (1 : Int32))), .val (.int (109 : Int32))] d5_38 (z := (1 : Int32)) rfl rfl rfl ?_
  rw [show ((0 : Int32) + (1 : Int32)) = (1 : Int32) from by decide]
  refine go_goto B d5_41 ?_
  refine go_iload B d5_3 rfl ?_
  refine go_iload B d5_5 rfl ?_
  refine go_icmpge B d5_7 (fun c7_153 => ?_) (fun c7_153 => ?_)
  · exact absurd c7_153 (by decide)
  refine go_aload_n B d5_10 rfl rfl ?_
  refine go_iload_n B d5_11 rfl ?_
  refine go_caload B (i := 1) (v := (.int (111 : Int32))) d5_12 (AV.other A1 W150 nab) rfl rfl ?_
  refine go_istore B #[.val (.ref a), .val (.int (1 : Int32)), .val (.ref b), .val (.int (1 : Int32)), .val (.int (4 : Int32)), .val (.int (1 : Int32)), .val (.int (111 : Int32))] d5_13 rfl ?_
  refine go_iload B d5_15 rfl ?_
  refine go_sipush B (x := (255 : Int32)) d5_17 (by decide) ?_
  refine go_icmple B d5_20 (fun c20_154 => ?_) (fun c20_154 => ?_)
  rotate_left
  · exact absurd c20_154 (by decide)
  refine go_aload_n B d5_26 rfl rfl ?_
  refine go_iload_n B d5_27 rfl ?_
  refine go_iload B d5_28 rfl ?_
  refine go_i2b B d5_30 ?_
  rw [show (111 : Int32).toInt8.toInt32 = (111 : Int32) from by decide]
  refine go_bastore B (i := 1) d5_31 A152 rfl (show 1 < 4 from by decide) gb ?_
  intro h155 W156 A157
  have A158 : AV Z h155 b .byte [(.int (109 : Int32)), (.int (111 : Int32)), (.int (0 : Int32)), (.int (0 : Int32))] := (by have q := A157; rw [show nar .byte (111 : Int32) = (111 : Int32) from by decide] at q; exact q)
  refine go_iinc B #[.val (.ref a), .val (.int ((1 : Int32) + (1 : Int32))), .val (.ref b), .val (.int (1 : Int32)), .val (.int (4 : Int32)), .val (.int (1 : Int32)), .val (.int (111 : Int32))] d5_32 (z := (1 : Int32)) rfl rfl rfl ?_
  rw [show ((1 : Int32) + (1 : Int32)) = (2 : Int32) from by decide]
  refine go_iinc B #[.val (.ref a), .val (.int (2 : Int32)), .val (.ref b), .val (.int ((1 : Int32) + (1 : Int32))), .val (.int (4 : Int32)), .val (.int (1 : Int32)), .val (.int (111 : Int32))] d5_35 (z := (1 : Int32)) rfl rfl rfl ?_
  rw [show ((1 : Int32) + (1 : Int32)) = (2 : Int32) from by decide]
  refine go_iinc B #[.val (.ref a), .val (.int (2 : Int32)), .val (.ref b), .val (.int (2 : Int32)), .val (.int (4 : Int32)), .val (.int ((1 : Int32) + (1 : Int32))), .val (.int (111 : Int32))] d5_38 (z := (1 : Int32)) rfl rfl rfl ?_
  rw [show ((1 : Int32) + (1 : Int32)) = (2 : Int32) from by decide]
  refine go_goto B d5_41 ?_
  refine go_iload B d5_3 rfl ?_
  refine go_iload B d5_5 rfl ?_
  refine go_icmpge B d5_7 (fun c7_159 => ?_) (fun c7_159 => ?_)
  · exact absurd c7_159 (by decide)
  refine go_aload_n B d5_10 rfl rfl ?_
  refine go_iload_n B d5_11 rfl ?_
  refine go_caload B (i := 2) (v := (.int (110 : Int32))) d5_12 (AV.other (AV.other A1 W150 nab) W156 nab) rfl rfl ?_
  refine go_istore B #[.val (.ref a), .val (.int (2 : Int32)), .val (.ref b), .val (.int (2 : Int32)), .val (.int (4 : Int32)), .val (.int (2 : Int32)), .val (.int (110 : Int32))] d5_13 rfl ?_
  refine go_iload B d5_15 rfl ?_
  refine go_sipush B (x := (255 : Int32)) d5_17 (by decide) ?_
  refine go_icmple B d5_20 (fun c20_160 => ?_) (fun c20_160 => ?_)
  rotate_left
  · exact absurd c20_160 (by decide)
  refine go_aload_n B d5_26 rfl rfl ?_
  refine go_iload_n B d5_27 rfl ?_
  refine go_iload B d5_28 rfl ?_
  refine go_i2b B d5_30 ?_
  rw [show (110 : Int32).toInt8.toInt32 = (110 : Int32) from by decide]
  refine go_bastore B (i := 2) d5_31 A158 rfl (show 2 < 4 from by decide) gb ?_
  intro h161 W162 A163
  have A164 : AV Z h161 b .byte [(.int (109 : Int32)), (.int (111 : Int32)), (.int (110 : Int32)), (.int (0 : Int32))] := (by have q := A163; rw [show nar .byte (110 : Int32) = (110 : Int32) from by decide] at q; exact q)
  refine go_iinc B #[.val (.ref a), .val (.int ((2 : Int32) + (1 : Int32))), .val (.ref b), .val (.int (2 : Int32)), .val (.int (4 : Int32)), .val (.int (2 : Int32)), .val (.int (110 : Int32))] d5_32 (z := (1 : Int32)) rfl rfl rfl ?_
  rw [show ((2 : Int32) + (1 : Int32)) = (3 : Int32) from by decide]
  refine go_iinc B #[.val (.ref a), .val (.int (3 : Int32)), .val (.ref b), .val (.int ((2 : Int32) + (1 : Int32))), .val (.int (4 : Int32)), .val (.int (2 : Int32)), .val (.int (110 : Int32))] d5_35 (z := (1 : Int32)) rfl rfl rfl ?_
  rw [show ((2 : Int32) + (1 : Int32)) = (3 : Int32) from by decide]
  refine go_iinc B #[.val (.ref a), .val (.int (3 : Int32)), .val (.ref b), .val (.int (3 : Int32)), .val (.int (4 : Int32)), .val (.int ((2 : Int32) + (1 : Int32))), .val (.int (110 : Int32))] d5_38 (z := (1 : Int32)) rfl rfl rfl ?_
  rw [show ((2 : Int32) + (1 : Int32)) = (3 : Int32) from by decide]
  refine go_goto B d5_41 ?_
  refine go_iload B d5_3 rfl ?_
  refine go_iload B d5_5 rfl ?_
  refine go_icmpge B d5_7 (fun c7_165 => ?_) (fun c7_165 => ?_)
  · exact absurd c7_165 (by decide)
  refine go_aload_n B d5_10 rfl rfl ?_
  refine go_iload_n B d5_11 rfl ?_
  have f166 : AV Z h161 a .char [(.int (109 : Int32)), (.int (111 : Int32)), (.int (110 : Int32)), (.int (111 : Int32))] := (AV.other (AV.other (AV.other A1 W150 nab) W156 nab) W162 nab)
  refine go_caload B (i := 3) (v := (.int (111 : Int32))) d5_12 f166 rfl rfl ?_
  refine go_istore B #[.val (.ref a), .val (.int (3 : Int32)), .val (.ref b), .val (.int (3 : Int32)), .val (.int (4 : Int32)), .val (.int (3 : Int32)), .val (.int (111 : Int32))] d5_13 rfl ?_
  refine go_iload B d5_15 rfl ?_
  refine go_sipush B (x := (255 : Int32)) d5_17 (by decide) ?_
  refine go_icmple B d5_20 (fun c20_167 => ?_) (fun c20_167 => ?_)
  rotate_left
  · exact absurd c20_167 (by decide)
  refine go_aload_n B d5_26 rfl rfl ?_
  refine go_iload_n B d5_27 rfl ?_
  refine go_iload B d5_28 rfl ?_
  refine go_i2b B d5_30 ?_
  rw [show (111 : Int32).toInt8.toInt32 = (111 : Int32) from by decide]
  refine go_bastore B (i := 3) d5_31 A164 rfl (show 3 < 4 from by decide) gb ?_
  intro h168 W169 A170
  have A171 : AV Z h168 b .byte [(.int (109 : Int32)), (.int (111 : Int32)), (.int (110 : Int32)), (.int (111 : Int32))] := (by have q := A170; rw [show nar .byte (111 : Int32) = (111 : Int32) from by decide] at q; exact q)
  refine go_iinc B #[.val (.ref a), .val (.int ((3 : Int32) + (1 : Int32))), .val (.ref b), .val (.int (3 : Int32)), .val (.int (4 : Int32)), .val (.int (3 : Int32)), .val (.int (111 : Int32))] d5_32 (z := (1 : Int32)) rfl rfl rfl ?_
  rw [show ((3 : Int32) + (1 : Int32)) = (4 : Int32) from by decide]
  refine go_iinc B #[.val (.ref a), .val (.int (4 : Int32)), .val (.ref b), .val (.int ((3 : Int32) + (1 : Int32))), .val (.int (4 : Int32)), .val (.int (3 : Int32)), .val (.int (111 : Int32))] d5_35 (z := (1 : Int32)) rfl rfl rfl ?_
  rw [show ((3 : Int32) + (1 : Int32)) = (4 : Int32) from by decide]
  refine go_iinc B #[.val (.ref a), .val (.int (4 : Int32)), .val (.ref b), .val (.int (4 : Int32)), .val (.int (4 : Int32)), .val (.int ((3 : Int32) + (1 : Int32))), .val (.int (111 : Int32))] d5_38 (z := (1 : Int32)) rfl rfl rfl ?_
  rw [show ((3 : Int32) + (1 : Int32)) = (4 : Int32) from by decide]
  refine go_goto B d5_41 ?_
  refine go_iload B d5_3 rfl ?_
  refine go_iload B d5_5 rfl ?_
  refine go_icmpge B d5_7 (fun c7_172 => ?_) (fun c7_172 => ?_)
  rotate_left
  · exact absurd c7_172 (by decide)
  refine go_iload B d5_44 rfl ?_
  refine go_ireturn B d5_46 (by decide) (by decide) ?_
  have f173 : Keep h0 h168 [b] := (Keep.wr (Keep.wr (Keep.wr (Keep.wr (Keep.refl h0 [b]) W150 (Or.inl (by simp))) W156 (Or.inl (by simp))) W162 (Or.inl (by simp))) W169 (Or.inl (by simp)))
  exact ⟨rfl, f173, A171⟩
set_option maxRecDepth 65536 in
set_option maxHeartbeats 40000000 in
theorem rmD2 {l : Launch} {Z : State} {a0 : Array Value} {n0 : Nat} (H : Wd a0 Z) (a : Addr) (h0 : Heap) (Z0 : n0 ≤ h0.size) (A1 : AV Z h0 a .char [(.int (109 : Int32)), (.int (111 : Int32)), (.int (110 : Int32)), (.int (111 : Int32))]) :
    Ct l Z n0 (⟨"java/lang/StringUTF16", "compress", "([CII)[B"⟩ : MethodName) jdk_52_method_16_code 6 (some (.array .byte)) [] ({ frames := 1, cells := 1, slots := 4, locals := 18 } : Room) #[(.ref a), (.int (0 : Int32)), (.int (4 : Int32))] h0 (fun v h => ∃ b, v = some (.ref b) ∧ h0.size ≤ b ∧ Keep h0 h [] ∧ AV Z h b .byte [(.int (109 : Int32)), (.int (111 : Int32)), (.int (110 : Int32)), (.int (111 : Int32))] ∧ Exa Z h b "[B") := by
  refine Ct.of (a0 := a0) (L0 := #[.val (.ref a), .val (.int (0 : Int32)), .val (.int (4 : Int32)), .unset, .unset, .unset]) (plainFor_of_name pn_java_lang_StringUTF16) (fun m => by first | (simp [entryFrame, mkF, argsToLocals, Value.category]; done) | rfl) ?_
  intro κ B0
  have B : Ok κ l Z a0 n0 ({ frames := 1, cells := 1, slots := 4, locals := 18 } : Room) "java/lang/StringUTF16" "compress" jdk_52_method_16_code 6 (some (.array .byte)) := B0
  refine go_iload_n B d4_0 rfl ?_
  refine go_newarray B (i := 4) (cap := 4) d4_1 (w_23 H) rfl (Nat.le_refl _) (by decide) (by decide) (by decide) ?_
  intro h174 a175 hba175 Ea175 Aa175 Ca175
  have ne_a175_a : a175 ≠ a := Nat.ne_of_gt (Nat.lt_of_lt_of_le (A1).lt (by omega))
  have ge_a175 : n0 ≤ a175 := by have q1 := Z0; omega
  have fr_a175 : h0.size ≤ a175 := by have q1 := (show Keep h0 h0 [] from (Keep.refl h0 [])).1; omega
  have Ba175 : AV Z h174 a175 .byte [(.int (0 : Int32)), (.int (0 : Int32)), (.int (0 : Int32)), (.int (0 : Int32))] := Aa175
  refine go_astore_n B #[.val (.ref a), .val (.int (0 : Int32)), .val (.int (4 : Int32)), .val (.ref a175), .unset, .unset] d4_3 rfl rfl ?_
  refine go_aload_n B d4_4 rfl rfl ?_
  refine go_iload_n B d4_5 rfl ?_
  refine go_aload_n B d4_6 rfl rfl ?_
  refine go_iconst B (x := (0 : Int32)) d4_7 rfl ?_
  refine go_iload_n B d4_8 rfl ?_
  refine go_static B (W := 0) (argsL := [(.ref a), (.int (0 : Int32)), (.ref a175), (.int (0 : Int32)), (.int (4 : Int32))]) (st := []) d4_9 (w_24 H) (w_25 H) (w_21 H) (w_26 H) (by decide) (rmC2 H a a175 h174 (Nat.le_trans Z0 Ea175.1) (AV.ext A1 Ea175) Ba175 ge_a175 (Ne.symm ne_a175_a)) pd_0 rfl rfl rfl rfl (by decide) (by decide) (by decide) (by decide) ?_
  rintro _ h178 ⟨rfl, K176, A177⟩
  show Go κ _ h178 _ _ 12 #[.val (.ref a), .val (.int (0 : Int32)), .val (.int (4 : Int32)), .val (.ref a175), .unset, .unset] [(.int (4 : Int32))]
  refine go_istore B #[.val (.ref a), .val (.int (0 : Int32)), .val (.int (4 : Int32)), .val (.ref a175), .val (.int (4 : Int32)), .unset] d4_12 rfl ?_
  refine go_iload B d4_14 rfl ?_
  refine go_iload_n B d4_16 rfl ?_
  refine go_icmpeq B d4_17 (fun c17 => ?_) (fun c17 => ?_)
  rotate_left
  · exact absurd c17 (by decide)
  refine go_aload_n B d4_57 rfl rfl ?_
  refine go_areturn B d4_58 rfl rfl rfl (by decide) (by decide) ?_
  have f179 : Keep h0 h178 [] := (Keep.trans (Keep.ext (Keep.refl h0 []) Ea175) K176 (allS (Or.inr fr_a175) all0))
  exact ⟨a175, rfl, by omega, f179, A177, (Exa.keep Ca175 K176)⟩
set_option maxRecDepth 65536 in
set_option maxHeartbeats 40000000 in
theorem rmK2 {l : Launch} {Z : State} {a0 : Array Value} {n0 : Nat} (H : Wd a0 Z) (b : Addr) (h0 : Heap) (Z0 : n0 ≤ h0.size) (A1 : AV Z h0 b .byte [(.int (109 : Int32)), (.int (111 : Int32)), (.int (110 : Int32)), (.int (111 : Int32))]) :
    Ct l Z n0 (⟨"java/lang/StringUTF16", "coderFromArrayLen", "([BI)B"⟩ : MethodName) jdk_52_method_15_code 2 (some .byte) [] ({ frames := 0, cells := 0, slots := 0, locals := 0 } : Room) #[(.ref b), (.int (4 : Int32))] h0 (fun v h => v = some (.int (0 : Int32)) ∧ h0 = h) := by
  refine Ct.of (a0 := a0) (L0 := #[.val (.ref b), .val (.int (4 : Int32))]) (plainFor_of_name pn_java_lang_StringUTF16) (fun m => by first | (simp [entryFrame, mkF, argsToLocals, Value.category]; done) | rfl) ?_
  intro κ B0
  have B : Ok κ l Z a0 n0 ({ frames := 0, cells := 0, slots := 0, locals := 0 } : Room) "java/lang/StringUTF16" "coderFromArrayLen" jdk_52_method_15_code 2 (some .byte) := B0
  refine go_iload_n B d6_0 rfl ?_
  refine go_aload_n B d6_1 rfl rfl ?_
  refine go_arraylength B (x := (4 : Int32)) d6_2 A1 rfl ?_
  refine go_isub B d6_3 ?_
  rw [show ((4 : Int32) - (4 : Int32)) = (0 : Int32) from by decide]
  refine go_bipush B (x := (31 : Int32)) d6_4 (by decide) ?_
  refine go_iushr B d6_6 ?_
  rw [show (XT.ushr (0 : Int32) (31 : Int32)) = (0 : Int32) from by decide]
  refine go_i2b B d6_7 ?_
  rw [show (0 : Int32).toInt8.toInt32 = (0 : Int32) from by decide]
  refine go_breturn B (y := (0 : Int32)) d6_8 (by decide) (by decide) (by decide) ?_
  exact ⟨rfl, rfl⟩
set_option maxRecDepth 65536 in
set_option maxHeartbeats 40000000 in
theorem rmS2 {l : Launch} {Z : State} {a0 : Array Value} {n0 : Nat} (H : Wd a0 Z) (a1 a : Addr) (cz : Int32) (h0 : Heap) (Z0 : n0 ≤ h0.size) (E_a1 : Exa Z h0 a1 "java/lang/String") (F0_a1 : Fld Z h0 a1 "java/lang/String" "value" "[B" .null) (F1_a1 : Fld Z h0 a1 "java/lang/String" "coder" "B" (.int (0 : Int32))) (A1 : AV Z h0 a .char [(.int (109 : Int32)), (.int (111 : Int32)), (.int (110 : Int32)), (.int (111 : Int32))]) (g1 : n0 ≤ a1) (na1 : a ≠ a1) (SC : Sta Z h0 "java/lang/String" "COMPACT_STRINGS" "Z" (.int cz)) (hz : ¬ cz = 0) :
    Ct l Z n0 (⟨"java/lang/String", "<init>", "([CIILjava/lang/Void;)V"⟩ : MethodName) jdk_42_method_149_code 6 none [] ({ frames := 2, cells := 1, slots := 4, locals := 40 } : Room) #[(.ref a1), (.ref a), (.int (0 : Int32)), (.int (4 : Int32)), .null] h0 (fun v h => ∃ b, v = none ∧ h0.size ≤ b ∧ Keep h0 h [a1] ∧ Exa Z h a1 "java/lang/String" ∧ Fld Z h a1 "java/lang/String" "value" "[B" (.ref b) ∧ Fld Z h a1 "java/lang/String" "coder" "B" (.int (0 : Int32)) ∧ AV Z h b .byte [(.int (109 : Int32)), (.int (111 : Int32)), (.int (110 : Int32)), (.int (111 : Int32))]) := by
  refine Ct.of (a0 := a0) (L0 := #[.val (.ref a1), .val (.ref a), .val (.int (0 : Int32)), .val (.int (4 : Int32)), .val .null, .unset]) (plainFor_of_name pn_java_lang_String) (fun m => by first | (simp [entryFrame, mkF, argsToLocals, Value.category]; done) | rfl) ?_
  intro κ B0
  have B : Ok κ l Z a0 n0 ({ frames := 2, cells := 1, slots := 4, locals := 40 } : Room) "java/lang/String" "<init>" jdk_42_method_149_code 6 none := B0
  refine go_aload_n B d2_0 rfl rfl ?_
  refine go_initO B (W := 0) d2_1 (w_15 H) (w_16 H) (w_17 H) rfl rfl (by decide) (by decide) ?_
  refine go_iload_n B d2_4 rfl ?_
  refine go_ifne B d2_5 (fun c5 => ?_) (fun c5 => ?_)
  rotate_left
  · exact absurd c5 (by decide)
  refine go_getstatic B d2_27 (w_18 H) SC ?_
  refine go_ifeq B d2_30 (fun c30 => ?_) (fun c30 => ?_)
  · exact absurd c30 hz
  refine go_aload_n B d2_33 rfl rfl ?_
  refine go_iload_n B d2_34 rfl ?_
  refine go_iload_n B d2_35 rfl ?_
  refine go_static B (W := 0) (argsL := [(.ref a), (.int (0 : Int32)), (.int (4 : Int32))]) (st := []) d2_36 (w_19 H) (w_20 H) (w_21 H) (w_22 H) (by decide) (rmD2 H a h0 Z0 A1) pd_1 rfl rfl rfl rfl (by decide) (by decide) (by decide) (by decide) ?_
  rintro _ h185 ⟨b180, rfl, g181, K182, A183, C184⟩
  have ne_b180_a1 : b180 ≠ a1 := Nat.ne_of_gt (Nat.lt_of_lt_of_le (E_a1).lt (by omega))
  have ne_b180_a : b180 ≠ a := Nat.ne_of_gt (Nat.lt_of_lt_of_le (A1).lt (by omega))
  have ge_b180 : n0 ≤ b180 := by have q1 := Z0; omega
  have fr_b180 : h0.size ≤ b180 := by have q1 := (show Keep h0 h0 [a1] from (Keep.refl h0 [a1])).1; omega
  show Go κ _ h185 _ _ 39 #[.val (.ref a1), .val (.ref a), .val (.int (0 : Int32)), .val (.int (4 : Int32)), .val .null, .unset] [(.ref b180)]
  refine go_astore B #[.val (.ref a1), .val (.ref a), .val (.int (0 : Int32)), .val (.int (4 : Int32)), .val .null, .val (.ref b180)] d2_39 rfl rfl ?_
  refine go_aload_n B d2_41 rfl rfl ?_
  refine go_aload B d2_42 rfl rfl ?_
  refine go_iload_n B d2_44 rfl ?_
  refine go_static B (W := 1) (argsL := [(.ref b180), (.int (4 : Int32))]) (st := [(.ref a1)]) d2_45 (w_27 H) (w_28 H) (w_21 H) (w_29 H) (by decide) (rmK2 H b180 h185 (Nat.le_trans Z0 K182.1) A183) pd_2 rfl rfl rfl rfl (by decide) (by decide) (by decide) (by decide) ?_
  rintro _ h186 ⟨rfl, rfl⟩
  show Go κ _ h185 _ _ 48 #[.val (.ref a1), .val (.ref a), .val (.int (0 : Int32)), .val (.int (4 : Int32)), .val .null, .val (.ref b180)] [(.int (0 : Int32)), (.ref a1)]
  refine go_putfield B (ty := .byte) d2_48 (w_30 H) (Fld.keep F1_a1 K182 nin0) (Exa.keep E_a1 K182) (Or.inr ⟨(w_31 H), rfl, rfl⟩) (w_6 H) (by decide) (by decide) (by decide) g1 ?_
  intro h187 W188
  have f189 : Fld Z h187 a1 "java/lang/String" "coder" "B" (.int (0 : Int32)) := Fld.same W188 (Fld.keep F1_a1 K182 nin0)
  refine go_aload_n B d2_51 rfl rfl ?_
  refine go_aload B d2_52 rfl rfl ?_
  have f190 : Fld Z h187 a1 "java/lang/String" "value" "[B" .null := (Fld.other W188 (Fld.keep F0_a1 K182 nin0) (Or.inr (slot_ne (t := (.array .byte)) (t' := .byte) (Or.inr (w_33 H)) (Or.inr (w_31 H)) (by decide) (by decide) (by decide))))
  refine go_putfield B (ty := (.array .byte)) d2_54 (w_32 H) f190 (Exa.wr W188 (Exa.keep E_a1 K182)) (Or.inr ⟨(w_33 H), rfl, rfl⟩) (w_6 H) (by decide) rfl rfl g1 ?_
  intro h191 W192
  have f193 : Fld Z h191 a1 "java/lang/String" "value" "[B" (.ref b180) := Fld.same W192 f190
  refine go_return B d2_57 (by decide) (by decide) ?_
  have f194 : Keep h0 h191 [a1] := (Keep.wr (Keep.wr (Keep.trans (Keep.refl h0 [a1]) K182 all0) W188 (Or.inl (by simp))) W192 (Or.inl (by simp)))
  have f195 : Fld Z h191 a1 "java/lang/String" "coder" "B" (.int (0 : Int32)) := (Fld.other W192 f189 (Or.inr (slot_ne (t := .byte) (t' := (.array .byte)) (Or.inr (w_31 H)) (Or.inr (w_33 H)) (by decide) (by decide) (by decide))))
  exact ⟨b180, rfl, by assumption, f194, (Exa.wr W192 (Exa.wr W188 (Exa.keep E_a1 K182))), f193, f195, (AV.other (AV.other A183 W188 ne_b180_a1) W192 ne_b180_a1)⟩
set_option maxRecDepth 65536 in
set_option maxHeartbeats 40000000 in
theorem rmT2 {l : Launch} {Z : State} {a0 : Array Value} {n0 : Nat} (H : Wd a0 Z) (a1 a : Addr) (cz : Int32) (h0 : Heap) (Z0 : n0 ≤ h0.size) (E_a1 : Exa Z h0 a1 "java/lang/String") (F0_a1 : Fld Z h0 a1 "java/lang/String" "value" "[B" .null) (F1_a1 : Fld Z h0 a1 "java/lang/String" "coder" "B" (.int (0 : Int32))) (A1 : AV Z h0 a .char [(.int (109 : Int32)), (.int (111 : Int32)), (.int (110 : Int32)), (.int (111 : Int32))]) (g1 : n0 ≤ a1) (na1 : a ≠ a1) (SC : Sta Z h0 "java/lang/String" "COMPACT_STRINGS" "Z" (.int cz)) (hz : ¬ cz = 0) :
    Ct l Z n0 (⟨"java/lang/String", "<init>", "([C)V"⟩ : MethodName) jdk_42_method_3_code 2 none [] ({ frames := 3, cells := 1, slots := 4, locals := 60 } : Room) #[(.ref a1), (.ref a)] h0 (fun v h => ∃ b, v = none ∧ h0.size ≤ b ∧ Keep h0 h [a1] ∧ Exa Z h a1 "java/lang/String" ∧ Fld Z h a1 "java/lang/String" "value" "[B" (.ref b) ∧ Fld Z h a1 "java/lang/String" "coder" "B" (.int (0 : Int32)) ∧ AV Z h b .byte [(.int (109 : Int32)), (.int (111 : Int32)), (.int (110 : Int32)), (.int (111 : Int32))]) := by
  refine Ct.of (a0 := a0) (L0 := #[.val (.ref a1), .val (.ref a)]) (plainFor_of_name pn_java_lang_String) (fun m => by first | (simp [entryFrame, mkF, argsToLocals, Value.category]; done) | rfl) ?_
  intro κ B0
  have B : Ok κ l Z a0 n0 ({ frames := 3, cells := 1, slots := 4, locals := 60 } : Room) "java/lang/String" "<init>" jdk_42_method_3_code 2 none := B0
  refine go_aload_n B d1_0 rfl rfl ?_
  refine go_aload_n B d1_1 rfl rfl ?_
  refine go_iconst B (x := (0 : Int32)) d1_2 rfl ?_
  refine go_aload_n B d1_3 rfl rfl ?_
  refine go_arraylength B (x := (4 : Int32)) d1_4 A1 rfl ?_
  refine go_aconst_null B d1_5 ?_
  refine go_special B (W := 0) (a := a1) (argsL := [(.ref a), (.int (0 : Int32)), (.int (4 : Int32)), .null]) (st := []) d1_6 rfl (w_11 H) (w_12 H) (w_7 H) (w_14 H) (by decide) (rmS2 H a1 a cz h0 Z0 E_a1 F0_a1 F1_a1 A1 g1 na1 SC hz) pd_3 rfl rfl rfl rfl (by decide) (by decide) (by decide) (by decide) ?_
  rintro _ h203 ⟨b196, rfl, g197, K198, E200, f201, f202, A199⟩
  have ne_b196_a1 : b196 ≠ a1 := Nat.ne_of_gt (Nat.lt_of_lt_of_le (E_a1).lt (by omega))
  have ne_b196_a : b196 ≠ a := Nat.ne_of_gt (Nat.lt_of_lt_of_le (A1).lt (by omega))
  have ge_b196 : n0 ≤ b196 := by have q1 := Z0; omega
  have fr_b196 : h0.size ≤ b196 := by have q1 := (show Keep h0 h0 [a1] from (Keep.refl h0 [a1])).1; omega
  show Go κ _ h203 _ _ 9 #[.val (.ref a1), .val (.ref a)] []
  refine go_return B d1_9 (by decide) (by decide) ?_
  have f204 : Keep h0 h203 [a1] := (Keep.trans (Keep.refl h0 [a1]) K198 (allS (Or.inl (by simp)) all0))
  exact ⟨b196, rfl, by assumption, f204, E200, f201, f202, A199⟩
theorem pn_java_lang_StringLatin1 : plainName "java/lang/StringLatin1" = true := by first | (simp [plainName, overriddenIn]; done) | decide +kernel
theorem d10_0 : Dc jdk_43_method_13_code 0 (.aload_n 0) 1 1 := ⟨by decide +kernel, rfl⟩
theorem d10_1 : Dc jdk_43_method_13_code 1 (.arraylength) 1 2 := ⟨by decide +kernel, rfl⟩
theorem d10_2 : Dc jdk_43_method_13_code 2 (.aload_n 1) 1 3 := ⟨by decide +kernel, rfl⟩
theorem d10_3 : Dc jdk_43_method_13_code 3 (.arraylength) 1 4 := ⟨by decide +kernel, rfl⟩
theorem d10_4 : Db jdk_43_method_13_code 4 (.if_icmp .ne 30) 30 7 34 := ⟨by decide +kernel, rfl, rfl⟩
theorem d10_7 : Dc jdk_43_method_13_code 7 (.iconst 0) 1 8 := ⟨by decide +kernel, rfl⟩
theorem d10_8 : Dc jdk_43_method_13_code 8 (.istore_n 2) 1 9 := ⟨by decide +kernel, rfl⟩
theorem d10_9 : Dc jdk_43_method_13_code 9 (.iload_n 2) 1 10 := ⟨by decide +kernel, rfl⟩
theorem d10_10 : Dc jdk_43_method_13_code 10 (.aload_n 0) 1 11 := ⟨by decide +kernel, rfl⟩
theorem d10_11 : Dc jdk_43_method_13_code 11 (.arraylength) 1 12 := ⟨by decide +kernel, rfl⟩
theorem d10_12 : Db jdk_43_method_13_code 12 (.if_icmp .ge 20) 20 15 32 := ⟨by decide +kernel, rfl, rfl⟩
theorem d10_15 : Dc jdk_43_method_13_code 15 (.aload_n 0) 1 16 := ⟨by decide +kernel, rfl⟩
theorem d10_16 : Dc jdk_43_method_13_code 16 (.iload_n 2) 1 17 := ⟨by decide +kernel, rfl⟩
theorem d10_17 : Dc jdk_43_method_13_code 17 (.baload) 1 18 := ⟨by decide +kernel, rfl⟩
theorem d10_18 : Dc jdk_43_method_13_code 18 (.aload_n 1) 1 19 := ⟨by decide +kernel, rfl⟩
theorem d10_19 : Dc jdk_43_method_13_code 19 (.iload_n 2) 1 20 := ⟨by decide +kernel, rfl⟩
theorem d10_20 : Dc jdk_43_method_13_code 20 (.baload) 1 21 := ⟨by decide +kernel, rfl⟩
theorem d10_21 : Db jdk_43_method_13_code 21 (.if_icmp .eq 5) 5 24 26 := ⟨by decide +kernel, rfl, rfl⟩
theorem d10_26 : Dc jdk_43_method_13_code 26 (.iinc 2 1) 3 29 := ⟨by decide +kernel, rfl⟩
theorem d10_29 : Db jdk_43_method_13_code 29 (.goto (-20)) (-20) 32 9 := ⟨by decide +kernel, rfl, rfl⟩
theorem d10_32 : Dc jdk_43_method_13_code 32 (.iconst 1) 1 33 := ⟨by decide +kernel, rfl⟩
theorem d10_33 : Dc jdk_43_method_13_code 33 (.ireturn) 1 34 := ⟨by decide +kernel, rfl⟩
set_option maxRecDepth 65536 in
set_option maxHeartbeats 40000000 in
theorem rmL00 {l : Launch} {Z : State} {a0 : Array Value} {n0 : Nat} (H : Wd a0 Z) (a b : Addr) (h0 : Heap) (Z0 : n0 ≤ h0.size) (A1 : AV Z h0 a .byte [(.int (109 : Int32)), (.int (97 : Int32)), (.int (120 : Int32)), (.int (45 : Int32)), (.int (115 : Int32)), (.int (117 : Int32)), (.int (109 : Int32))]) (A2 : AV Z h0 b .byte [(.int (109 : Int32)), (.int (97 : Int32)), (.int (120 : Int32)), (.int (45 : Int32)), (.int (115 : Int32)), (.int (117 : Int32)), (.int (109 : Int32))]) :
    Ct l Z n0 (⟨"java/lang/StringLatin1", "equals", "([B[B)Z"⟩ : MethodName) jdk_43_method_13_code 3 (some .boolean) [] ({ frames := 0, cells := 0, slots := 0, locals := 0 } : Room) #[(.ref a), (.ref b)] h0 (fun v h => v = some (.int (1 : Int32)) ∧ h0 = h) := by
  refine Ct.of (a0 := a0) (L0 := #[.val (.ref a), .val (.ref b), .unset]) (plainFor_of_name pn_java_lang_StringLatin1) (fun m => by first | (simp [entryFrame, mkF, argsToLocals, Value.category]; done) | rfl) ?_
  intro κ B0
  have B : Ok κ l Z a0 n0 ({ frames := 0, cells := 0, slots := 0, locals := 0 } : Room) "java/lang/StringLatin1" "equals" jdk_43_method_13_code 3 (some .boolean) := B0
  refine go_aload_n B d10_0 rfl rfl ?_
  refine go_arraylength B (x := (7 : Int32)) d10_1 A1 rfl ?_
  refine go_aload_n B d10_2 rfl rfl ?_
  refine go_arraylength B (x := (7 : Int32)) d10_3 A2 rfl ?_
  refine go_icmpne B d10_4 (fun c4 => ?_) (fun c4 => ?_)
  · exact absurd c4 (by decide)
  refine go_iconst B (x := (0 : Int32)) d10_7 rfl ?_
  refine go_istore_n B #[.val (.ref a), .val (.ref b), .val (.int (0 : Int32))] d10_8 rfl ?_
  refine go_iload_n B d10_9 rfl ?_
  refine go_aload_n B d10_10 rfl rfl ?_
  refine go_arraylength B (x := (7 : Int32)) d10_11 A1 rfl ?_
  refine go_icmpge B d10_12 (fun c12 => ?_) (fun c12 => ?_)
  · exact absurd c12 (by decide)
  refine go_aload_n B d10_15 rfl rfl ?_
  refine go_iload_n B d10_16 rfl ?_
  refine go_baload B (i := 0) (v := (.int (109 : Int32))) d10_17 A1 rfl rfl ?_
  refine go_aload_n B d10_18 rfl rfl ?_
  refine go_iload_n B d10_19 rfl ?_
  refine go_baload B (i := 0) (v := (.int (109 : Int32))) d10_20 A2 rfl rfl ?_
  refine go_icmpeq B d10_21 (fun c21 => ?_) (fun c21 => ?_)
  rotate_left
  · exact absurd c21 (by decide)
  refine go_iinc B #[.val (.ref a), .val (.ref b), .val (.int ((0 : Int32) + (1 : Int32)))] d10_26 (z := (1 : Int32)) rfl rfl rfl ?_
  rw [show ((0 : Int32) + (1 : Int32)) = (1 : Int32) from by decide]
  refine go_goto B d10_29 ?_
  refine go_iload_n B d10_9 rfl ?_
  refine go_aload_n B d10_10 rfl rfl ?_
  refine go_arraylength B (x := (7 : Int32)) d10_11 A1 rfl ?_
  refine go_icmpge B d10_12 (fun c12_205 => ?_) (fun c12_205 => ?_)
  · exact absurd c12_205 (by decide)
  refine go_aload_n B d10_15 rfl rfl ?_
  refine go_iload_n B d10_16 rfl ?_
  refine go_baload B (i := 1) (v := (.int (97 : Int32))) d10_17 A1 rfl rfl ?_
  refine go_aload_n B d10_18 rfl rfl ?_
  refine go_iload_n B d10_19 rfl ?_
  refine go_baload B (i := 1) (v := (.int (97 : Int32))) d10_20 A2 rfl rfl ?_
  refine go_icmpeq B d10_21 (fun c21_206 => ?_) (fun c21_206 => ?_)
  rotate_left
  · exact absurd c21_206 (by decide)
  refine go_iinc B #[.val (.ref a), .val (.ref b), .val (.int ((1 : Int32) + (1 : Int32)))] d10_26 (z := (1 : Int32)) rfl rfl rfl ?_
  rw [show ((1 : Int32) + (1 : Int32)) = (2 : Int32) from by decide]
  refine go_goto B d10_29 ?_
  refine go_iload_n B d10_9 rfl ?_
  refine go_aload_n B d10_10 rfl rfl ?_
  refine go_arraylength B (x := (7 : Int32)) d10_11 A1 rfl ?_
  refine go_icmpge B d10_12 (fun c12_207 => ?_) (fun c12_207 => ?_)
  · exact absurd c12_207 (by decide)
  refine go_aload_n B d10_15 rfl rfl ?_
  refine go_iload_n B d10_16 rfl ?_
  refine go_baload B (i := 2) (v := (.int (120 : Int32))) d10_17 A1 rfl rfl ?_
  refine go_aload_n B d10_18 rfl rfl ?_
  refine go_iload_n B d10_19 rfl ?_
  refine go_baload B (i := 2) (v := (.int (120 : Int32))) d10_20 A2 rfl rfl ?_
  refine go_icmpeq B d10_21 (fun c21_208 => ?_) (fun c21_208 => ?_)
  rotate_left
  · exact absurd c21_208 (by decide)
  refine go_iinc B #[.val (.ref a), .val (.ref b), .val (.int ((2 : Int32) + (1 : Int32)))] d10_26 (z := (1 : Int32)) rfl rfl rfl ?_
  rw [show ((2 : Int32) + (1 : Int32)) = (3 : Int32) from by decide]
  refine go_goto B d10_29 ?_
  refine go_iload_n B d10_9 rfl ?_
  refine go_aload_n B d10_10 rfl rfl ?_
  refine go_arraylength B (x := (7 : Int32)) d10_11 A1 rfl ?_
  refine go_icmpge B d10_12 (fun c12_209 => ?_) (fun c12_209 => ?_)
  · exact absurd c12_209 (by decide)
  refine go_aload_n B d10_15 rfl rfl ?_
  refine go_iload_n B d10_16 rfl ?_
  refine go_baload B (i := 3) (v := (.int (45 : Int32))) d10_17 A1 rfl rfl ?_
  refine go_aload_n B d10_18 rfl rfl ?_
  refine go_iload_n B d10_19 rfl ?_
  refine go_baload B (i := 3) (v := (.int (45 : Int32))) d10_20 A2 rfl rfl ?_
  refine go_icmpeq B d10_21 (fun c21_210 => ?_) (fun c21_210 => ?_)
  rotate_left
  · exact absurd c21_210 (by decide)
  refine go_iinc B #[.val (.ref a), .val (.ref b), .val (.int ((3 : Int32) + (1 : Int32)))] d10_26 (z := (1 : Int32)) rfl rfl rfl ?_
  rw [show ((3 : Int32) + (1 : Int32)) = (4 : Int32) from by decide]
  refine go_goto B d10_29 ?_
  refine go_iload_n B d10_9 rfl ?_
  refine go_aload_n B d10_10 rfl rfl ?_
  refine go_arraylength B (x := (7 : Int32)) d10_11 A1 rfl ?_
  refine go_icmpge B d10_12 (fun c12_211 => ?_) (fun c12_211 => ?_)
  · exact absurd c12_211 (by decide)
  refine go_aload_n B d10_15 rfl rfl ?_
  refine go_iload_n B d10_16 rfl ?_
  refine go_baload B (i := 4) (v := (.int (115 : Int32))) d10_17 A1 rfl rfl ?_
  refine go_aload_n B d10_18 rfl rfl ?_
  refine go_iload_n B d10_19 rfl ?_
  refine go_baload B (i := 4) (v := (.int (115 : Int32))) d10_20 A2 rfl rfl ?_
  refine go_icmpeq B d10_21 (fun c21_212 => ?_) (fun c21_212 => ?_)
  rotate_left
  · exact absurd c21_212 (by decide)
  refine go_iinc B #[.val (.ref a), .val (.ref b), .val (.int ((4 : Int32) + (1 : Int32)))] d10_26 (z := (1 : Int32)) rfl rfl rfl ?_
  rw [show ((4 : Int32) + (1 : Int32)) = (5 : Int32) from by decide]
  refine go_goto B d10_29 ?_
  refine go_iload_n B d10_9 rfl ?_
  refine go_aload_n B d10_10 rfl rfl ?_
  refine go_arraylength B (x := (7 : Int32)) d10_11 A1 rfl ?_
  refine go_icmpge B d10_12 (fun c12_213 => ?_) (fun c12_213 => ?_)
  · exact absurd c12_213 (by decide)
  refine go_aload_n B d10_15 rfl rfl ?_
  refine go_iload_n B d10_16 rfl ?_
  refine go_baload B (i := 5) (v := (.int (117 : Int32))) d10_17 A1 rfl rfl ?_
  refine go_aload_n B d10_18 rfl rfl ?_
  refine go_iload_n B d10_19 rfl ?_
  refine go_baload B (i := 5) (v := (.int (117 : Int32))) d10_20 A2 rfl rfl ?_
  refine go_icmpeq B d10_21 (fun c21_214 => ?_) (fun c21_214 => ?_)
  rotate_left
  · exact absurd c21_214 (by decide)
  refine go_iinc B #[.val (.ref a), .val (.ref b), .val (.int ((5 : Int32) + (1 : Int32)))] d10_26 (z := (1 : Int32)) rfl rfl rfl ?_
  rw [show ((5 : Int32) + (1 : Int32)) = (6 : Int32) from by decide]
  refine go_goto B d10_29 ?_
  refine go_iload_n B d10_9 rfl ?_
  refine go_aload_n B d10_10 rfl rfl ?_
  refine go_arraylength B (x := (7 : Int32)) d10_11 A1 rfl ?_
  refine go_icmpge B d10_12 (fun c12_215 => ?_) (fun c12_215 => ?_)
  · exact absurd c12_215 (by decide)
  refine go_aload_n B d10_15 rfl rfl ?_
  refine go_iload_n B d10_16 rfl ?_
  refine go_baload B (i := 6) (v := (.int (109 : Int32))) d10_17 A1 rfl rfl ?_
  refine go_aload_n B d10_18 rfl rfl ?_
  refine go_iload_n B d10_19 rfl ?_
  refine go_baload B (i := 6) (v := (.int (109 : Int32))) d10_20 A2 rfl rfl ?_
  refine go_icmpeq B d10_21 (fun c21_216 => ?_) (fun c21_216 => ?_)
  rotate_left
  · exact absurd c21_216 (by decide)
  refine go_iinc B #[.val (.ref a), .val (.ref b), .val (.int ((6 : Int32) + (1 : Int32)))] d10_26 (z := (1 : Int32)) rfl rfl rfl ?_
  rw [show ((6 : Int32) + (1 : Int32)) = (7 : Int32) from by decide]
  refine go_goto B d10_29 ?_
  refine go_iload_n B d10_9 rfl ?_
  refine go_aload_n B d10_10 rfl rfl ?_
  refine go_arraylength B (x := (7 : Int32)) d10_11 A1 rfl ?_
  refine go_icmpge B d10_12 (fun c12_217 => ?_) (fun c12_217 => ?_)
  rotate_left
  · exact absurd c12_217 (by decide)
  refine go_iconst B (x := (1 : Int32)) d10_32 rfl ?_
  refine go_zreturn B (y := (1 : Int32)) d10_33 (by decide) (by decide) (by decide) ?_
  exact ⟨rfl, rfl⟩
theorem d9_0 : Dc jdk_42_method_66_code 0 (.aload_n 0) 1 1 := ⟨by decide +kernel, rfl⟩
theorem d9_1 : Dc jdk_42_method_66_code 1 (.aload_n 1) 1 2 := ⟨by decide +kernel, rfl⟩
theorem d9_2 : Db jdk_42_method_66_code 2 (.if_acmp .ne 5) 5 5 7 := ⟨by decide +kernel, rfl, rfl⟩
theorem d9_7 : Dc jdk_42_method_66_code 7 (.aload_n 1) 1 8 := ⟨by decide +kernel, rfl⟩
theorem d9_8 : Dc jdk_42_method_66_code 8 (.instanceof 10) 3 11 := ⟨by decide +kernel, rfl⟩
theorem w_61 {a0 : Array Value} {Z : State} (H : Wd a0 Z) : (Jvm.Cond.classLink "java/lang/String" (10 : Nat) "java/lang/String").before a0 Z = true := H _ (List.mem_of_getElem? (i := 61) rfl)
theorem d9_11 : Db jdk_42_method_66_code 11 (.ifCond .eq 43) 43 14 54 := ⟨by decide +kernel, rfl, rfl⟩
theorem d9_14 : Dc jdk_42_method_66_code 14 (.aload_n 1) 1 15 := ⟨by decide +kernel, rfl⟩
theorem d9_15 : Dc jdk_42_method_66_code 15 (.checkcast 10) 3 18 := ⟨by decide +kernel, rfl⟩
theorem d9_18 : Dc jdk_42_method_66_code 18 (.astore_n 2) 1 19 := ⟨by decide +kernel, rfl⟩
theorem d9_19 : Dc jdk_42_method_66_code 19 (.getstatic 38) 3 22 := ⟨by decide +kernel, rfl⟩
theorem d9_22 : Db jdk_42_method_66_code 22 (.ifCond .eq 14) 14 25 36 := ⟨by decide +kernel, rfl, rfl⟩
theorem d9_25 : Dc jdk_42_method_66_code 25 (.aload_n 0) 1 26 := ⟨by decide +kernel, rfl⟩
theorem d9_26 : Dc jdk_42_method_66_code 26 (.getfield 15) 3 29 := ⟨by decide +kernel, rfl⟩
theorem d9_29 : Dc jdk_42_method_66_code 29 (.aload_n 2) 1 30 := ⟨by decide +kernel, rfl⟩
theorem d9_30 : Dc jdk_42_method_66_code 30 (.getfield 15) 3 33 := ⟨by decide +kernel, rfl⟩
theorem d9_33 : Db jdk_42_method_66_code 33 (.if_icmp .ne 21) 21 36 54 := ⟨by decide +kernel, rfl, rfl⟩
theorem d9_36 : Dc jdk_42_method_66_code 36 (.aload_n 0) 1 37 := ⟨by decide +kernel, rfl⟩
theorem d9_37 : Dc jdk_42_method_66_code 37 (.getfield 9) 3 40 := ⟨by decide +kernel, rfl⟩
theorem d9_40 : Dc jdk_42_method_66_code 40 (.aload_n 2) 1 41 := ⟨by decide +kernel, rfl⟩
theorem d9_41 : Dc jdk_42_method_66_code 41 (.getfield 9) 3 44 := ⟨by decide +kernel, rfl⟩
theorem d9_44 : Dc jdk_42_method_66_code 44 (.invokestatic 541) 3 47 := ⟨by decide +kernel, rfl⟩
theorem w_65 {a0 : Array Value} {Z : State} (H : Wd a0 Z) : (Jvm.Cond.code ({ cls := "java/lang/StringLatin1", name := "equals", desc := "([B[B)Z" } : Jvm.MethodName) jdk_43_method_13_code (3 : Nat) (Option.some Jvm.ClassFile.FieldType.boolean)).before a0 Z = true := H _ (List.mem_of_getElem? (i := 65) rfl)
theorem w_64 {a0 : Array Value} {Z : State} (H : Wd a0 Z) : (Jvm.Cond.initialized "java/lang/StringLatin1").before a0 Z = true := H _ (List.mem_of_getElem? (i := 64) rfl)
theorem pd_4 : parseMethodDescriptor "([B[B)Z" = some ⟨[(.array .byte), (.array .byte)], some .boolean⟩ := by decide +kernel
theorem w_62 {a0 : Array Value} {Z : State} (H : Wd a0 Z) : (Jvm.Cond.methodLink "java/lang/String" (541 : Nat) ({ cls := "java/lang/StringLatin1", name := "equals", desc := "([B[B)Z" } : Jvm.MethodName)).before a0 Z = true := H _ (List.mem_of_getElem? (i := 62) rfl)
theorem w_63 {a0 : Array Value} {Z : State} (H : Wd a0 Z) : (Jvm.Cond.static ({ cls := "java/lang/StringLatin1", name := "equals", desc := "([B[B)Z" } : Jvm.MethodName)).before a0 Z = true := H _ (List.mem_of_getElem? (i := 63) rfl)
theorem d9_47 : Db jdk_42_method_66_code 47 (.ifCond .eq 7) 7 50 54 := ⟨by decide +kernel, rfl, rfl⟩
theorem d9_50 : Dc jdk_42_method_66_code 50 (.iconst 1) 1 51 := ⟨by decide +kernel, rfl⟩
theorem d9_51 : Db jdk_42_method_66_code 51 (.goto 4) 4 54 55 := ⟨by decide +kernel, rfl, rfl⟩
theorem d9_55 : Dc jdk_42_method_66_code 55 (.ireturn) 1 56 := ⟨by decide +kernel, rfl⟩
set_option maxRecDepth 65536 in
set_option maxHeartbeats 40000000 in
theorem rmE00 {l : Launch} {Z : State} {a0 : Array Value} {n0 : Nat} (H : Wd a0 Z) (a va b vb : Addr) (cz : Int32) (h0 : Heap) (Z0 : n0 ≤ h0.size) (E_a : Exa Z h0 a "java/lang/String") (F0_a : Fld Z h0 a "java/lang/String" "value" "[B" (.ref va)) (F1_a : Fld Z h0 a "java/lang/String" "coder" "B" (.int (0 : Int32))) (E_b : Exa Z h0 b "java/lang/String") (F0_b : Fld Z h0 b "java/lang/String" "value" "[B" (.ref vb)) (F1_b : Fld Z h0 b "java/lang/String" "coder" "B" (.int (0 : Int32))) (A_va : AV Z h0 va .byte [(.int (109 : Int32)), (.int (97 : Int32)), (.int (120 : Int32)), (.int (45 : Int32)), (.int (115 : Int32)), (.int (117 : Int32)), (.int (109 : Int32))]) (A_vb : AV Z h0 vb .byte [(.int (109 : Int32)), (.int (97 : Int32)), (.int (120 : Int32)), (.int (45 : Int32)), (.int (115 : Int32)), (.int (117 : Int32)), (.int (109 : Int32))]) (nab : a ≠ b) (SC : Sta Z h0 "java/lang/String" "COMPACT_STRINGS" "Z" (.int cz)) (hz : ¬ cz = 0) :
    Ct l Z n0 (⟨"java/lang/String", "equals", "(Ljava/lang/Object;)Z"⟩ : MethodName) jdk_42_method_66_code 3 (some .boolean) [] ({ frames := 1, cells := 0, slots := 0, locals := 14 } : Room) #[(.ref a), (.ref b)] h0 (fun v h => v = some (.int (1 : Int32)) ∧ h0 = h) := by
  refine Ct.of (a0 := a0) (L0 := #[.val (.ref a), .val (.ref b), .unset]) (plainFor_of_name pn_java_lang_String) (fun m => by first | (simp [entryFrame, mkF, argsToLocals, Value.category]; done) | rfl) ?_
  intro κ B0
  have B : Ok κ l Z a0 n0 ({ frames := 1, cells := 0, slots := 0, locals := 14 } : Room) "java/lang/String" "equals" jdk_42_method_66_code 3 (some .boolean) := B0
  refine go_aload_n B d9_0 rfl rfl ?_
  refine go_aload_n B d9_1 rfl rfl ?_
  refine go_acmpne B d9_2 rfl rfl (fun c2 => ?_) (fun c2 => ?_)
  rotate_left
  · exact absurd (Value.ref.inj c2) nab
  refine go_aload_n B d9_7 rfl rfl ?_
  refine go_instanceof B d9_8 (w_61 H) (Ins.self E_b) ?_
  refine go_ifeq B d9_11 (fun c11 => ?_) (fun c11 => ?_)
  · exact absurd c11 (by decide)
  refine go_aload_n B d9_14 rfl rfl ?_
  refine go_checkcast B d9_15 (w_61 H) (Ins.self E_b) ?_
  refine go_astore_n B #[.val (.ref a), .val (.ref b), .val (.ref b)] d9_18 rfl rfl ?_
  refine go_getstatic B d9_19 (w_18 H) SC ?_
  refine go_ifeq B d9_22 (fun c22 => ?_) (fun c22 => ?_)
  · exact absurd c22 hz
  refine go_aload_n B d9_25 rfl rfl ?_
  refine go_getfield B d9_26 (w_30 H) F1_a ?_
  refine go_aload_n B d9_29 rfl rfl ?_
  refine go_getfield B d9_30 (w_30 H) F1_b ?_
  refine go_icmpne B d9_33 (fun c33 => ?_) (fun c33 => ?_)
  · exact absurd c33 (by decide)
  refine go_aload_n B d9_36 rfl rfl ?_
  refine go_getfield B d9_37 (w_32 H) F0_a ?_
  refine go_aload_n B d9_40 rfl rfl ?_
  refine go_getfield B d9_41 (w_32 H) F0_b ?_
  refine go_static B (W := 0) (argsL := [(.ref va), (.ref vb)]) (st := []) d9_44 (w_62 H) (w_63 H) (w_64 H) (w_65 H) (by decide) (rmL00 H va vb h0 Z0 A_va A_vb) pd_4 rfl rfl rfl rfl (by decide) (by decide) (by decide) (by decide) ?_
  rintro _ h218 ⟨rfl, rfl⟩
  show Go κ _ h0 _ _ 47 #[.val (.ref a), .val (.ref b), .val (.ref b)] [(.int (1 : Int32))]
  refine go_ifeq B d9_47 (fun c47 => ?_) (fun c47 => ?_)
  · exact absurd c47 (by decide)
  refine go_iconst B (x := (1 : Int32)) d9_50 rfl ?_
  refine go_goto B d9_51 ?_
  refine go_zreturn B (y := (1 : Int32)) d9_55 (by decide) (by decide) (by decide) ?_
  exact ⟨rfl, rfl⟩
theorem d10_24 : Dc jdk_43_method_13_code 24 (.iconst 0) 1 25 := ⟨by decide +kernel, rfl⟩
theorem d10_25 : Dc jdk_43_method_13_code 25 (.ireturn) 1 26 := ⟨by decide +kernel, rfl⟩
set_option maxRecDepth 65536 in
set_option maxHeartbeats 40000000 in
theorem rmL01 {l : Launch} {Z : State} {a0 : Array Value} {n0 : Nat} (H : Wd a0 Z) (a b : Addr) (h0 : Heap) (Z0 : n0 ≤ h0.size) (A1 : AV Z h0 a .byte [(.int (109 : Int32)), (.int (97 : Int32)), (.int (120 : Int32)), (.int (45 : Int32)), (.int (115 : Int32)), (.int (117 : Int32)), (.int (109 : Int32))]) (A2 : AV Z h0 b .byte [(.int (109 : Int32)), (.int (97 : Int32)), (.int (120 : Int32)), (.int (45 : Int32)), (.int (109 : Int32)), (.int (105 : Int32)), (.int (110 : Int32))]) :
    Ct l Z n0 (⟨"java/lang/StringLatin1", "equals", "([B[B)Z"⟩ : MethodName) jdk_43_method_13_code 3 (some .boolean) [] ({ frames := 0, cells := 0, slots := 0, locals := 0 } : Room) #[(.ref a), (.ref b)] h0 (fun v h => v = some (.int (0 : Int32)) ∧ h0 = h) := by
  refine Ct.of (a0 := a0) (L0 := #[.val (.ref a), .val (.ref b), .unset]) (plainFor_of_name pn_java_lang_StringLatin1) (fun m => by first | (simp [entryFrame, mkF, argsToLocals, Value.category]; done) | rfl) ?_
  intro κ B0
  have B : Ok κ l Z a0 n0 ({ frames := 0, cells := 0, slots := 0, locals := 0 } : Room) "java/lang/StringLatin1" "equals" jdk_43_method_13_code 3 (some .boolean) := B0
  refine go_aload_n B d10_0 rfl rfl ?_
  refine go_arraylength B (x := (7 : Int32)) d10_1 A1 rfl ?_
  refine go_aload_n B d10_2 rfl rfl ?_
  refine go_arraylength B (x := (7 : Int32)) d10_3 A2 rfl ?_
  refine go_icmpne B d10_4 (fun c4 => ?_) (fun c4 => ?_)
  · exact absurd c4 (by decide)
  refine go_iconst B (x := (0 : Int32)) d10_7 rfl ?_
  refine go_istore_n B #[.val (.ref a), .val (.ref b), .val (.int (0 : Int32))] d10_8 rfl ?_
  refine go_iload_n B d10_9 rfl ?_
  refine go_aload_n B d10_10 rfl rfl ?_
  refine go_arraylength B (x := (7 : Int32)) d10_11 A1 rfl ?_
  refine go_icmpge B d10_12 (fun c12 => ?_) (fun c12 => ?_)
  · exact absurd c12 (by decide)
  refine go_aload_n B d10_15 rfl rfl ?_
  refine go_iload_n B d10_16 rfl ?_
  refine go_baload B (i := 0) (v := (.int (109 : Int32))) d10_17 A1 rfl rfl ?_
  refine go_aload_n B d10_18 rfl rfl ?_
  refine go_iload_n B d10_19 rfl ?_
  refine go_baload B (i := 0) (v := (.int (109 : Int32))) d10_20 A2 rfl rfl ?_
  refine go_icmpeq B d10_21 (fun c21 => ?_) (fun c21 => ?_)
  rotate_left
  · exact absurd c21 (by decide)
  refine go_iinc B #[.val (.ref a), .val (.ref b), .val (.int ((0 : Int32) + (1 : Int32)))] d10_26 (z := (1 : Int32)) rfl rfl rfl ?_
  rw [show ((0 : Int32) + (1 : Int32)) = (1 : Int32) from by decide]
  refine go_goto B d10_29 ?_
  refine go_iload_n B d10_9 rfl ?_
  refine go_aload_n B d10_10 rfl rfl ?_
  refine go_arraylength B (x := (7 : Int32)) d10_11 A1 rfl ?_
  refine go_icmpge B d10_12 (fun c12_219 => ?_) (fun c12_219 => ?_)
  · exact absurd c12_219 (by decide)
  refine go_aload_n B d10_15 rfl rfl ?_
  refine go_iload_n B d10_16 rfl ?_
  refine go_baload B (i := 1) (v := (.int (97 : Int32))) d10_17 A1 rfl rfl ?_
  refine go_aload_n B d10_18 rfl rfl ?_
  refine go_iload_n B d10_19 rfl ?_
  refine go_baload B (i := 1) (v := (.int (97 : Int32))) d10_20 A2 rfl rfl ?_
  refine go_icmpeq B d10_21 (fun c21_220 => ?_) (fun c21_220 => ?_)
  rotate_left
  · exact absurd c21_220 (by decide)
  refine go_iinc B #[.val (.ref a), .val (.ref b), .val (.int ((1 : Int32) + (1 : Int32)))] d10_26 (z := (1 : Int32)) rfl rfl rfl ?_
  rw [show ((1 : Int32) + (1 : Int32)) = (2 : Int32) from by decide]
  refine go_goto B d10_29 ?_
  refine go_iload_n B d10_9 rfl ?_
  refine go_aload_n B d10_10 rfl rfl ?_
  refine go_arraylength B (x := (7 : Int32)) d10_11 A1 rfl ?_
  refine go_icmpge B d10_12 (fun c12_221 => ?_) (fun c12_221 => ?_)
  · exact absurd c12_221 (by decide)
  refine go_aload_n B d10_15 rfl rfl ?_
  refine go_iload_n B d10_16 rfl ?_
  refine go_baload B (i := 2) (v := (.int (120 : Int32))) d10_17 A1 rfl rfl ?_
  refine go_aload_n B d10_18 rfl rfl ?_
  refine go_iload_n B d10_19 rfl ?_
  refine go_baload B (i := 2) (v := (.int (120 : Int32))) d10_20 A2 rfl rfl ?_
  refine go_icmpeq B d10_21 (fun c21_222 => ?_) (fun c21_222 => ?_)
  rotate_left
  · exact absurd c21_222 (by decide)
  refine go_iinc B #[.val (.ref a), .val (.ref b), .val (.int ((2 : Int32) + (1 : Int32)))] d10_26 (z := (1 : Int32)) rfl rfl rfl ?_
  rw [show ((2 : Int32) + (1 : Int32)) = (3 : Int32) from by decide]
  refine go_goto B d10_29 ?_
  refine go_iload_n B d10_9 rfl ?_
  refine go_aload_n B d10_10 rfl rfl ?_
  refine go_arraylength B (x := (7 : Int32)) d10_11 A1 rfl ?_
  refine go_icmpge B d10_12 (fun c12_223 => ?_) (fun c12_223 => ?_)
  · exact absurd c12_223 (by decide)
  refine go_aload_n B d10_15 rfl rfl ?_
  refine go_iload_n B d10_16 rfl ?_
  refine go_baload B (i := 3) (v := (.int (45 : Int32))) d10_17 A1 rfl rfl ?_
  refine go_aload_n B d10_18 rfl rfl ?_
  refine go_iload_n B d10_19 rfl ?_
  refine go_baload B (i := 3) (v := (.int (45 : Int32))) d10_20 A2 rfl rfl ?_
  refine go_icmpeq B d10_21 (fun c21_224 => ?_) (fun c21_224 => ?_)
  rotate_left
  · exact absurd c21_224 (by decide)
  refine go_iinc B #[.val (.ref a), .val (.ref b), .val (.int ((3 : Int32) + (1 : Int32)))] d10_26 (z := (1 : Int32)) rfl rfl rfl ?_
  rw [show ((3 : Int32) + (1 : Int32)) = (4 : Int32) from by decide]
  refine go_goto B d10_29 ?_
  refine go_iload_n B d10_9 rfl ?_
  refine go_aload_n B d10_10 rfl rfl ?_
  refine go_arraylength B (x := (7 : Int32)) d10_11 A1 rfl ?_
  refine go_icmpge B d10_12 (fun c12_225 => ?_) (fun c12_225 => ?_)
  · exact absurd c12_225 (by decide)
  refine go_aload_n B d10_15 rfl rfl ?_
  refine go_iload_n B d10_16 rfl ?_
  refine go_baload B (i := 4) (v := (.int (115 : Int32))) d10_17 A1 rfl rfl ?_
  refine go_aload_n B d10_18 rfl rfl ?_
  refine go_iload_n B d10_19 rfl ?_
  refine go_baload B (i := 4) (v := (.int (109 : Int32))) d10_20 A2 rfl rfl ?_
  refine go_icmpeq B d10_21 (fun c21_226 => ?_) (fun c21_226 => ?_)
  · exact absurd c21_226 (by decide)
  refine go_iconst B (x := (0 : Int32)) d10_24 rfl ?_
  refine go_zreturn B (y := (0 : Int32)) d10_25 (by decide) (by decide) (by decide) ?_
  exact ⟨rfl, rfl⟩
theorem d9_54 : Dc jdk_42_method_66_code 54 (.iconst 0) 1 55 := ⟨by decide +kernel, rfl⟩
set_option maxRecDepth 65536 in
set_option maxHeartbeats 40000000 in
theorem rmE01 {l : Launch} {Z : State} {a0 : Array Value} {n0 : Nat} (H : Wd a0 Z) (a va b vb : Addr) (cz : Int32) (h0 : Heap) (Z0 : n0 ≤ h0.size) (E_a : Exa Z h0 a "java/lang/String") (F0_a : Fld Z h0 a "java/lang/String" "value" "[B" (.ref va)) (F1_a : Fld Z h0 a "java/lang/String" "coder" "B" (.int (0 : Int32))) (E_b : Exa Z h0 b "java/lang/String") (F0_b : Fld Z h0 b "java/lang/String" "value" "[B" (.ref vb)) (F1_b : Fld Z h0 b "java/lang/String" "coder" "B" (.int (0 : Int32))) (A_va : AV Z h0 va .byte [(.int (109 : Int32)), (.int (97 : Int32)), (.int (120 : Int32)), (.int (45 : Int32)), (.int (115 : Int32)), (.int (117 : Int32)), (.int (109 : Int32))]) (A_vb : AV Z h0 vb .byte [(.int (109 : Int32)), (.int (97 : Int32)), (.int (120 : Int32)), (.int (45 : Int32)), (.int (109 : Int32)), (.int (105 : Int32)), (.int (110 : Int32))]) (nab : a ≠ b) (SC : Sta Z h0 "java/lang/String" "COMPACT_STRINGS" "Z" (.int cz)) (hz : ¬ cz = 0) :
    Ct l Z n0 (⟨"java/lang/String", "equals", "(Ljava/lang/Object;)Z"⟩ : MethodName) jdk_42_method_66_code 3 (some .boolean) [] ({ frames := 1, cells := 0, slots := 0, locals := 14 } : Room) #[(.ref a), (.ref b)] h0 (fun v h => v = some (.int (0 : Int32)) ∧ h0 = h) := by
  refine Ct.of (a0 := a0) (L0 := #[.val (.ref a), .val (.ref b), .unset]) (plainFor_of_name pn_java_lang_String) (fun m => by first | (simp [entryFrame, mkF, argsToLocals, Value.category]; done) | rfl) ?_
  intro κ B0
  have B : Ok κ l Z a0 n0 ({ frames := 1, cells := 0, slots := 0, locals := 14 } : Room) "java/lang/String" "equals" jdk_42_method_66_code 3 (some .boolean) := B0
  refine go_aload_n B d9_0 rfl rfl ?_
  refine go_aload_n B d9_1 rfl rfl ?_
  refine go_acmpne B d9_2 rfl rfl (fun c2 => ?_) (fun c2 => ?_)
  rotate_left
  · exact absurd (Value.ref.inj c2) nab
  refine go_aload_n B d9_7 rfl rfl ?_
  refine go_instanceof B d9_8 (w_61 H) (Ins.self E_b) ?_
  refine go_ifeq B d9_11 (fun c11 => ?_) (fun c11 => ?_)
  · exact absurd c11 (by decide)
  refine go_aload_n B d9_14 rfl rfl ?_
  refine go_checkcast B d9_15 (w_61 H) (Ins.self E_b) ?_
  refine go_astore_n B #[.val (.ref a), .val (.ref b), .val (.ref b)] d9_18 rfl rfl ?_
  refine go_getstatic B d9_19 (w_18 H) SC ?_
  refine go_ifeq B d9_22 (fun c22 => ?_) (fun c22 => ?_)
  · exact absurd c22 hz
  refine go_aload_n B d9_25 rfl rfl ?_
  refine go_getfield B d9_26 (w_30 H) F1_a ?_
  refine go_aload_n B d9_29 rfl rfl ?_
  refine go_getfield B d9_30 (w_30 H) F1_b ?_
  refine go_icmpne B d9_33 (fun c33 => ?_) (fun c33 => ?_)
  · exact absurd c33 (by decide)
  refine go_aload_n B d9_36 rfl rfl ?_
  refine go_getfield B d9_37 (w_32 H) F0_a ?_
  refine go_aload_n B d9_40 rfl rfl ?_
  refine go_getfield B d9_41 (w_32 H) F0_b ?_
  refine go_static B (W := 0) (argsL := [(.ref va), (.ref vb)]) (st := []) d9_44 (w_62 H) (w_63 H) (w_64 H) (w_65 H) (by decide) (rmL01 H va vb h0 Z0 A_va A_vb) pd_4 rfl rfl rfl rfl (by decide) (by decide) (by decide) (by decide) ?_
  rintro _ h227 ⟨rfl, rfl⟩
  show Go κ _ h0 _ _ 47 #[.val (.ref a), .val (.ref b), .val (.ref b)] [(.int (0 : Int32))]
  refine go_ifeq B d9_47 (fun c47 => ?_) (fun c47 => ?_)
  rotate_left
  · exact absurd c47 (by decide)
  refine go_iconst B (x := (0 : Int32)) d9_54 rfl ?_
  refine go_zreturn B (y := (0 : Int32)) d9_55 (by decide) (by decide) (by decide) ?_
  exact ⟨rfl, rfl⟩
set_option maxRecDepth 65536 in
set_option maxHeartbeats 40000000 in
theorem rmL11 {l : Launch} {Z : State} {a0 : Array Value} {n0 : Nat} (H : Wd a0 Z) (a b : Addr) (h0 : Heap) (Z0 : n0 ≤ h0.size) (A1 : AV Z h0 a .byte [(.int (109 : Int32)), (.int (97 : Int32)), (.int (120 : Int32)), (.int (45 : Int32)), (.int (109 : Int32)), (.int (105 : Int32)), (.int (110 : Int32))]) (A2 : AV Z h0 b .byte [(.int (109 : Int32)), (.int (97 : Int32)), (.int (120 : Int32)), (.int (45 : Int32)), (.int (109 : Int32)), (.int (105 : Int32)), (.int (110 : Int32))]) :
    Ct l Z n0 (⟨"java/lang/StringLatin1", "equals", "([B[B)Z"⟩ : MethodName) jdk_43_method_13_code 3 (some .boolean) [] ({ frames := 0, cells := 0, slots := 0, locals := 0 } : Room) #[(.ref a), (.ref b)] h0 (fun v h => v = some (.int (1 : Int32)) ∧ h0 = h) := by
  refine Ct.of (a0 := a0) (L0 := #[.val (.ref a), .val (.ref b), .unset]) (plainFor_of_name pn_java_lang_StringLatin1) (fun m => by first | (simp [entryFrame, mkF, argsToLocals, Value.category]; done) | rfl) ?_
  intro κ B0
  have B : Ok κ l Z a0 n0 ({ frames := 0, cells := 0, slots := 0, locals := 0 } : Room) "java/lang/StringLatin1" "equals" jdk_43_method_13_code 3 (some .boolean) := B0
  refine go_aload_n B d10_0 rfl rfl ?_
  refine go_arraylength B (x := (7 : Int32)) d10_1 A1 rfl ?_
  refine go_aload_n B d10_2 rfl rfl ?_
  refine go_arraylength B (x := (7 : Int32)) d10_3 A2 rfl ?_
  refine go_icmpne B d10_4 (fun c4 => ?_) (fun c4 => ?_)
  · exact absurd c4 (by decide)
  refine go_iconst B (x := (0 : Int32)) d10_7 rfl ?_
  refine go_istore_n B #[.val (.ref a), .val (.ref b), .val (.int (0 : Int32))] d10_8 rfl ?_
  refine go_iload_n B d10_9 rfl ?_
  refine go_aload_n B d10_10 rfl rfl ?_
  refine go_arraylength B (x := (7 : Int32)) d10_11 A1 rfl ?_
  refine go_icmpge B d10_12 (fun c12 => ?_) (fun c12 => ?_)
  · exact absurd c12 (by decide)
  refine go_aload_n B d10_15 rfl rfl ?_
  refine go_iload_n B d10_16 rfl ?_
  refine go_baload B (i := 0) (v := (.int (109 : Int32))) d10_17 A1 rfl rfl ?_
  refine go_aload_n B d10_18 rfl rfl ?_
  refine go_iload_n B d10_19 rfl ?_
  refine go_baload B (i := 0) (v := (.int (109 : Int32))) d10_20 A2 rfl rfl ?_
  refine go_icmpeq B d10_21 (fun c21 => ?_) (fun c21 => ?_)
  rotate_left
  · exact absurd c21 (by decide)
  refine go_iinc B #[.val (.ref a), .val (.ref b), .val (.int ((0 : Int32) + (1 : Int32)))] d10_26 (z := (1 : Int32)) rfl rfl rfl ?_
  rw [show ((0 : Int32) + (1 : Int32)) = (1 : Int32) from by decide]
  refine go_goto B d10_29 ?_
  refine go_iload_n B d10_9 rfl ?_
  refine go_aload_n B d10_10 rfl rfl ?_
  refine go_arraylength B (x := (7 : Int32)) d10_11 A1 rfl ?_
  refine go_icmpge B d10_12 (fun c12_228 => ?_) (fun c12_228 => ?_)
  · exact absurd c12_228 (by decide)
  refine go_aload_n B d10_15 rfl rfl ?_
  refine go_iload_n B d10_16 rfl ?_
  refine go_baload B (i := 1) (v := (.int (97 : Int32))) d10_17 A1 rfl rfl ?_
  refine go_aload_n B d10_18 rfl rfl ?_
  refine go_iload_n B d10_19 rfl ?_
  refine go_baload B (i := 1) (v := (.int (97 : Int32))) d10_20 A2 rfl rfl ?_
  refine go_icmpeq B d10_21 (fun c21_229 => ?_) (fun c21_229 => ?_)
  rotate_left
  · exact absurd c21_229 (by decide)
  refine go_iinc B #[.val (.ref a), .val (.ref b), .val (.int ((1 : Int32) + (1 : Int32)))] d10_26 (z := (1 : Int32)) rfl rfl rfl ?_
  rw [show ((1 : Int32) + (1 : Int32)) = (2 : Int32) from by decide]
  refine go_goto B d10_29 ?_
  refine go_iload_n B d10_9 rfl ?_
  refine go_aload_n B d10_10 rfl rfl ?_
  refine go_arraylength B (x := (7 : Int32)) d10_11 A1 rfl ?_
  refine go_icmpge B d10_12 (fun c12_230 => ?_) (fun c12_230 => ?_)
  · exact absurd c12_230 (by decide)
  refine go_aload_n B d10_15 rfl rfl ?_
  refine go_iload_n B d10_16 rfl ?_
  refine go_baload B (i := 2) (v := (.int (120 : Int32))) d10_17 A1 rfl rfl ?_
  refine go_aload_n B d10_18 rfl rfl ?_
  refine go_iload_n B d10_19 rfl ?_
  refine go_baload B (i := 2) (v := (.int (120 : Int32))) d10_20 A2 rfl rfl ?_
  refine go_icmpeq B d10_21 (fun c21_231 => ?_) (fun c21_231 => ?_)
  rotate_left
  · exact absurd c21_231 (by decide)
  refine go_iinc B #[.val (.ref a), .val (.ref b), .val (.int ((2 : Int32) + (1 : Int32)))] d10_26 (z := (1 : Int32)) rfl rfl rfl ?_
  rw [show ((2 : Int32) + (1 : Int32)) = (3 : Int32) from by decide]
  refine go_goto B d10_29 ?_
  refine go_iload_n B d10_9 rfl ?_
  refine go_aload_n B d10_10 rfl rfl ?_
  refine go_arraylength B (x := (7 : Int32)) d10_11 A1 rfl ?_
  refine go_icmpge B d10_12 (fun c12_232 => ?_) (fun c12_232 => ?_)
  · exact absurd c12_232 (by decide)
  refine go_aload_n B d10_15 rfl rfl ?_
  refine go_iload_n B d10_16 rfl ?_
  refine go_baload B (i := 3) (v := (.int (45 : Int32))) d10_17 A1 rfl rfl ?_
  refine go_aload_n B d10_18 rfl rfl ?_
  refine go_iload_n B d10_19 rfl ?_
  refine go_baload B (i := 3) (v := (.int (45 : Int32))) d10_20 A2 rfl rfl ?_
  refine go_icmpeq B d10_21 (fun c21_233 => ?_) (fun c21_233 => ?_)
  rotate_left
  · exact absurd c21_233 (by decide)
  refine go_iinc B #[.val (.ref a), .val (.ref b), .val (.int ((3 : Int32) + (1 : Int32)))] d10_26 (z := (1 : Int32)) rfl rfl rfl ?_
  rw [show ((3 : Int32) + (1 : Int32)) = (4 : Int32) from by decide]
  refine go_goto B d10_29 ?_
  refine go_iload_n B d10_9 rfl ?_
  refine go_aload_n B d10_10 rfl rfl ?_
  refine go_arraylength B (x := (7 : Int32)) d10_11 A1 rfl ?_
  refine go_icmpge B d10_12 (fun c12_234 => ?_) (fun c12_234 => ?_)
  · exact absurd c12_234 (by decide)
  refine go_aload_n B d10_15 rfl rfl ?_
  refine go_iload_n B d10_16 rfl ?_
  refine go_baload B (i := 4) (v := (.int (109 : Int32))) d10_17 A1 rfl rfl ?_
  refine go_aload_n B d10_18 rfl rfl ?_
  refine go_iload_n B d10_19 rfl ?_
  refine go_baload B (i := 4) (v := (.int (109 : Int32))) d10_20 A2 rfl rfl ?_
  refine go_icmpeq B d10_21 (fun c21_235 => ?_) (fun c21_235 => ?_)
  rotate_left
  · exact absurd c21_235 (by decide)
  refine go_iinc B #[.val (.ref a), .val (.ref b), .val (.int ((4 : Int32) + (1 : Int32)))] d10_26 (z := (1 : Int32)) rfl rfl rfl ?_
  rw [show ((4 : Int32) + (1 : Int32)) = (5 : Int32) from by decide]
  refine go_goto B d10_29 ?_
  refine go_iload_n B d10_9 rfl ?_
  refine go_aload_n B d10_10 rfl rfl ?_
  refine go_arraylength B (x := (7 : Int32)) d10_11 A1 rfl ?_
  refine go_icmpge B d10_12 (fun c12_236 => ?_) (fun c12_236 => ?_)
  · exact absurd c12_236 (by decide)
  refine go_aload_n B d10_15 rfl rfl ?_
  refine go_iload_n B d10_16 rfl ?_
  refine go_baload B (i := 5) (v := (.int (105 : Int32))) d10_17 A1 rfl rfl ?_
  refine go_aload_n B d10_18 rfl rfl ?_
  refine go_iload_n B d10_19 rfl ?_
  refine go_baload B (i := 5) (v := (.int (105 : Int32))) d10_20 A2 rfl rfl ?_
  refine go_icmpeq B d10_21 (fun c21_237 => ?_) (fun c21_237 => ?_)
  rotate_left
  · exact absurd c21_237 (by decide)
  refine go_iinc B #[.val (.ref a), .val (.ref b), .val (.int ((5 : Int32) + (1 : Int32)))] d10_26 (z := (1 : Int32)) rfl rfl rfl ?_
  rw [show ((5 : Int32) + (1 : Int32)) = (6 : Int32) from by decide]
  refine go_goto B d10_29 ?_
  refine go_iload_n B d10_9 rfl ?_
  refine go_aload_n B d10_10 rfl rfl ?_
  refine go_arraylength B (x := (7 : Int32)) d10_11 A1 rfl ?_
  refine go_icmpge B d10_12 (fun c12_238 => ?_) (fun c12_238 => ?_)
  · exact absurd c12_238 (by decide)
  refine go_aload_n B d10_15 rfl rfl ?_
  refine go_iload_n B d10_16 rfl ?_
  refine go_baload B (i := 6) (v := (.int (110 : Int32))) d10_17 A1 rfl rfl ?_
  refine go_aload_n B d10_18 rfl rfl ?_
  refine go_iload_n B d10_19 rfl ?_
  refine go_baload B (i := 6) (v := (.int (110 : Int32))) d10_20 A2 rfl rfl ?_
  refine go_icmpeq B d10_21 (fun c21_239 => ?_) (fun c21_239 => ?_)
  rotate_left
  · exact absurd c21_239 (by decide)
  refine go_iinc B #[.val (.ref a), .val (.ref b), .val (.int ((6 : Int32) + (1 : Int32)))] d10_26 (z := (1 : Int32)) rfl rfl rfl ?_
  rw [show ((6 : Int32) + (1 : Int32)) = (7 : Int32) from by decide]
  refine go_goto B d10_29 ?_
  refine go_iload_n B d10_9 rfl ?_
  refine go_aload_n B d10_10 rfl rfl ?_
  refine go_arraylength B (x := (7 : Int32)) d10_11 A1 rfl ?_
  refine go_icmpge B d10_12 (fun c12_240 => ?_) (fun c12_240 => ?_)
  rotate_left
  · exact absurd c12_240 (by decide)
  refine go_iconst B (x := (1 : Int32)) d10_32 rfl ?_
  refine go_zreturn B (y := (1 : Int32)) d10_33 (by decide) (by decide) (by decide) ?_
  exact ⟨rfl, rfl⟩
set_option maxRecDepth 65536 in
set_option maxHeartbeats 40000000 in
theorem rmE11 {l : Launch} {Z : State} {a0 : Array Value} {n0 : Nat} (H : Wd a0 Z) (a va b vb : Addr) (cz : Int32) (h0 : Heap) (Z0 : n0 ≤ h0.size) (E_a : Exa Z h0 a "java/lang/String") (F0_a : Fld Z h0 a "java/lang/String" "value" "[B" (.ref va)) (F1_a : Fld Z h0 a "java/lang/String" "coder" "B" (.int (0 : Int32))) (E_b : Exa Z h0 b "java/lang/String") (F0_b : Fld Z h0 b "java/lang/String" "value" "[B" (.ref vb)) (F1_b : Fld Z h0 b "java/lang/String" "coder" "B" (.int (0 : Int32))) (A_va : AV Z h0 va .byte [(.int (109 : Int32)), (.int (97 : Int32)), (.int (120 : Int32)), (.int (45 : Int32)), (.int (109 : Int32)), (.int (105 : Int32)), (.int (110 : Int32))]) (A_vb : AV Z h0 vb .byte [(.int (109 : Int32)), (.int (97 : Int32)), (.int (120 : Int32)), (.int (45 : Int32)), (.int (109 : Int32)), (.int (105 : Int32)), (.int (110 : Int32))]) (nab : a ≠ b) (SC : Sta Z h0 "java/lang/String" "COMPACT_STRINGS" "Z" (.int cz)) (hz : ¬ cz = 0) :
    Ct l Z n0 (⟨"java/lang/String", "equals", "(Ljava/lang/Object;)Z"⟩ : MethodName) jdk_42_method_66_code 3 (some .boolean) [] ({ frames := 1, cells := 0, slots := 0, locals := 14 } : Room) #[(.ref a), (.ref b)] h0 (fun v h => v = some (.int (1 : Int32)) ∧ h0 = h) := by
  refine Ct.of (a0 := a0) (L0 := #[.val (.ref a), .val (.ref b), .unset]) (plainFor_of_name pn_java_lang_String) (fun m => by first | (simp [entryFrame, mkF, argsToLocals, Value.category]; done) | rfl) ?_
  intro κ B0
  have B : Ok κ l Z a0 n0 ({ frames := 1, cells := 0, slots := 0, locals := 14 } : Room) "java/lang/String" "equals" jdk_42_method_66_code 3 (some .boolean) := B0
  refine go_aload_n B d9_0 rfl rfl ?_
  refine go_aload_n B d9_1 rfl rfl ?_
  refine go_acmpne B d9_2 rfl rfl (fun c2 => ?_) (fun c2 => ?_)
  rotate_left
  · exact absurd (Value.ref.inj c2) nab
  refine go_aload_n B d9_7 rfl rfl ?_
  refine go_instanceof B d9_8 (w_61 H) (Ins.self E_b) ?_
  refine go_ifeq B d9_11 (fun c11 => ?_) (fun c11 => ?_)
  · exact absurd c11 (by decide)
  refine go_aload_n B d9_14 rfl rfl ?_
  refine go_checkcast B d9_15 (w_61 H) (Ins.self E_b) ?_
  refine go_astore_n B #[.val (.ref a), .val (.ref b), .val (.ref b)] d9_18 rfl rfl ?_
  refine go_getstatic B d9_19 (w_18 H) SC ?_
  refine go_ifeq B d9_22 (fun c22 => ?_) (fun c22 => ?_)
  · exact absurd c22 hz
  refine go_aload_n B d9_25 rfl rfl ?_
  refine go_getfield B d9_26 (w_30 H) F1_a ?_
  refine go_aload_n B d9_29 rfl rfl ?_
  refine go_getfield B d9_30 (w_30 H) F1_b ?_
  refine go_icmpne B d9_33 (fun c33 => ?_) (fun c33 => ?_)
  · exact absurd c33 (by decide)
  refine go_aload_n B d9_36 rfl rfl ?_
  refine go_getfield B d9_37 (w_32 H) F0_a ?_
  refine go_aload_n B d9_40 rfl rfl ?_
  refine go_getfield B d9_41 (w_32 H) F0_b ?_
  refine go_static B (W := 0) (argsL := [(.ref va), (.ref vb)]) (st := []) d9_44 (w_62 H) (w_63 H) (w_64 H) (w_65 H) (by decide) (rmL11 H va vb h0 Z0 A_va A_vb) pd_4 rfl rfl rfl rfl (by decide) (by decide) (by decide) (by decide) ?_
  rintro _ h241 ⟨rfl, rfl⟩
  show Go κ _ h0 _ _ 47 #[.val (.ref a), .val (.ref b), .val (.ref b)] [(.int (1 : Int32))]
  refine go_ifeq B d9_47 (fun c47 => ?_) (fun c47 => ?_)
  · exact absurd c47 (by decide)
  refine go_iconst B (x := (1 : Int32)) d9_50 rfl ?_
  refine go_goto B d9_51 ?_
  refine go_zreturn B (y := (1 : Int32)) d9_55 (by decide) (by decide) (by decide) ?_
  exact ⟨rfl, rfl⟩
theorem d10_34 : Dc jdk_43_method_13_code 34 (.iconst 0) 1 35 := ⟨by decide +kernel, rfl⟩
theorem d10_35 : Dc jdk_43_method_13_code 35 (.ireturn) 1 36 := ⟨by decide +kernel, rfl⟩
set_option maxRecDepth 65536 in
set_option maxHeartbeats 40000000 in
theorem rmL02 {l : Launch} {Z : State} {a0 : Array Value} {n0 : Nat} (H : Wd a0 Z) (a b : Addr) (h0 : Heap) (Z0 : n0 ≤ h0.size) (A1 : AV Z h0 a .byte [(.int (109 : Int32)), (.int (97 : Int32)), (.int (120 : Int32)), (.int (45 : Int32)), (.int (115 : Int32)), (.int (117 : Int32)), (.int (109 : Int32))]) (A2 : AV Z h0 b .byte [(.int (109 : Int32)), (.int (111 : Int32)), (.int (110 : Int32)), (.int (111 : Int32))]) :
    Ct l Z n0 (⟨"java/lang/StringLatin1", "equals", "([B[B)Z"⟩ : MethodName) jdk_43_method_13_code 3 (some .boolean) [] ({ frames := 0, cells := 0, slots := 0, locals := 0 } : Room) #[(.ref a), (.ref b)] h0 (fun v h => v = some (.int (0 : Int32)) ∧ h0 = h) := by
  refine Ct.of (a0 := a0) (L0 := #[.val (.ref a), .val (.ref b), .unset]) (plainFor_of_name pn_java_lang_StringLatin1) (fun m => by first | (simp [entryFrame, mkF, argsToLocals, Value.category]; done) | rfl) ?_
  intro κ B0
  have B : Ok κ l Z a0 n0 ({ frames := 0, cells := 0, slots := 0, locals := 0 } : Room) "java/lang/StringLatin1" "equals" jdk_43_method_13_code 3 (some .boolean) := B0
  refine go_aload_n B d10_0 rfl rfl ?_
  refine go_arraylength B (x := (7 : Int32)) d10_1 A1 rfl ?_
  refine go_aload_n B d10_2 rfl rfl ?_
  refine go_arraylength B (x := (4 : Int32)) d10_3 A2 rfl ?_
  refine go_icmpne B d10_4 (fun c4 => ?_) (fun c4 => ?_)
  rotate_left
  · exact absurd c4 (by decide)
  refine go_iconst B (x := (0 : Int32)) d10_34 rfl ?_
  refine go_zreturn B (y := (0 : Int32)) d10_35 (by decide) (by decide) (by decide) ?_
  exact ⟨rfl, rfl⟩
set_option maxRecDepth 65536 in
set_option maxHeartbeats 40000000 in
theorem rmE02 {l : Launch} {Z : State} {a0 : Array Value} {n0 : Nat} (H : Wd a0 Z) (a va b vb : Addr) (cz : Int32) (h0 : Heap) (Z0 : n0 ≤ h0.size) (E_a : Exa Z h0 a "java/lang/String") (F0_a : Fld Z h0 a "java/lang/String" "value" "[B" (.ref va)) (F1_a : Fld Z h0 a "java/lang/String" "coder" "B" (.int (0 : Int32))) (E_b : Exa Z h0 b "java/lang/String") (F0_b : Fld Z h0 b "java/lang/String" "value" "[B" (.ref vb)) (F1_b : Fld Z h0 b "java/lang/String" "coder" "B" (.int (0 : Int32))) (A_va : AV Z h0 va .byte [(.int (109 : Int32)), (.int (97 : Int32)), (.int (120 : Int32)), (.int (45 : Int32)), (.int (115 : Int32)), (.int (117 : Int32)), (.int (109 : Int32))]) (A_vb : AV Z h0 vb .byte [(.int (109 : Int32)), (.int (111 : Int32)), (.int (110 : Int32)), (.int (111 : Int32))]) (nab : a ≠ b) (SC : Sta Z h0 "java/lang/String" "COMPACT_STRINGS" "Z" (.int cz)) (hz : ¬ cz = 0) :
    Ct l Z n0 (⟨"java/lang/String", "equals", "(Ljava/lang/Object;)Z"⟩ : MethodName) jdk_42_method_66_code 3 (some .boolean) [] ({ frames := 1, cells := 0, slots := 0, locals := 14 } : Room) #[(.ref a), (.ref b)] h0 (fun v h => v = some (.int (0 : Int32)) ∧ h0 = h) := by
  refine Ct.of (a0 := a0) (L0 := #[.val (.ref a), .val (.ref b), .unset]) (plainFor_of_name pn_java_lang_String) (fun m => by first | (simp [entryFrame, mkF, argsToLocals, Value.category]; done) | rfl) ?_
  intro κ B0
  have B : Ok κ l Z a0 n0 ({ frames := 1, cells := 0, slots := 0, locals := 14 } : Room) "java/lang/String" "equals" jdk_42_method_66_code 3 (some .boolean) := B0
  refine go_aload_n B d9_0 rfl rfl ?_
  refine go_aload_n B d9_1 rfl rfl ?_
  refine go_acmpne B d9_2 rfl rfl (fun c2 => ?_) (fun c2 => ?_)
  rotate_left
  · exact absurd (Value.ref.inj c2) nab
  refine go_aload_n B d9_7 rfl rfl ?_
  refine go_instanceof B d9_8 (w_61 H) (Ins.self E_b) ?_
  refine go_ifeq B d9_11 (fun c11 => ?_) (fun c11 => ?_)
  · exact absurd c11 (by decide)
  refine go_aload_n B d9_14 rfl rfl ?_
  refine go_checkcast B d9_15 (w_61 H) (Ins.self E_b) ?_
  refine go_astore_n B #[.val (.ref a), .val (.ref b), .val (.ref b)] d9_18 rfl rfl ?_
  refine go_getstatic B d9_19 (w_18 H) SC ?_
  refine go_ifeq B d9_22 (fun c22 => ?_) (fun c22 => ?_)
  · exact absurd c22 hz
  refine go_aload_n B d9_25 rfl rfl ?_
  refine go_getfield B d9_26 (w_30 H) F1_a ?_
  refine go_aload_n B d9_29 rfl rfl ?_
  refine go_getfield B d9_30 (w_30 H) F1_b ?_
  refine go_icmpne B d9_33 (fun c33 => ?_) (fun c33 => ?_)
  · exact absurd c33 (by decide)
  refine go_aload_n B d9_36 rfl rfl ?_
  refine go_getfield B d9_37 (w_32 H) F0_a ?_
  refine go_aload_n B d9_40 rfl rfl ?_
  refine go_getfield B d9_41 (w_32 H) F0_b ?_
  refine go_static B (W := 0) (argsL := [(.ref va), (.ref vb)]) (st := []) d9_44 (w_62 H) (w_63 H) (w_64 H) (w_65 H) (by decide) (rmL02 H va vb h0 Z0 A_va A_vb) pd_4 rfl rfl rfl rfl (by decide) (by decide) (by decide) (by decide) ?_
  rintro _ h242 ⟨rfl, rfl⟩
  show Go κ _ h0 _ _ 47 #[.val (.ref a), .val (.ref b), .val (.ref b)] [(.int (0 : Int32))]
  refine go_ifeq B d9_47 (fun c47 => ?_) (fun c47 => ?_)
  rotate_left
  · exact absurd c47 (by decide)
  refine go_iconst B (x := (0 : Int32)) d9_54 rfl ?_
  refine go_zreturn B (y := (0 : Int32)) d9_55 (by decide) (by decide) (by decide) ?_
  exact ⟨rfl, rfl⟩
set_option maxRecDepth 65536 in
set_option maxHeartbeats 40000000 in
theorem rmL12 {l : Launch} {Z : State} {a0 : Array Value} {n0 : Nat} (H : Wd a0 Z) (a b : Addr) (h0 : Heap) (Z0 : n0 ≤ h0.size) (A1 : AV Z h0 a .byte [(.int (109 : Int32)), (.int (97 : Int32)), (.int (120 : Int32)), (.int (45 : Int32)), (.int (109 : Int32)), (.int (105 : Int32)), (.int (110 : Int32))]) (A2 : AV Z h0 b .byte [(.int (109 : Int32)), (.int (111 : Int32)), (.int (110 : Int32)), (.int (111 : Int32))]) :
    Ct l Z n0 (⟨"java/lang/StringLatin1", "equals", "([B[B)Z"⟩ : MethodName) jdk_43_method_13_code 3 (some .boolean) [] ({ frames := 0, cells := 0, slots := 0, locals := 0 } : Room) #[(.ref a), (.ref b)] h0 (fun v h => v = some (.int (0 : Int32)) ∧ h0 = h) := by
  refine Ct.of (a0 := a0) (L0 := #[.val (.ref a), .val (.ref b), .unset]) (plainFor_of_name pn_java_lang_StringLatin1) (fun m => by first | (simp [entryFrame, mkF, argsToLocals, Value.category]; done) | rfl) ?_
  intro κ B0
  have B : Ok κ l Z a0 n0 ({ frames := 0, cells := 0, slots := 0, locals := 0 } : Room) "java/lang/StringLatin1" "equals" jdk_43_method_13_code 3 (some .boolean) := B0
  refine go_aload_n B d10_0 rfl rfl ?_
  refine go_arraylength B (x := (7 : Int32)) d10_1 A1 rfl ?_
  refine go_aload_n B d10_2 rfl rfl ?_
  refine go_arraylength B (x := (4 : Int32)) d10_3 A2 rfl ?_
  refine go_icmpne B d10_4 (fun c4 => ?_) (fun c4 => ?_)
  rotate_left
  · exact absurd c4 (by decide)
  refine go_iconst B (x := (0 : Int32)) d10_34 rfl ?_
  refine go_zreturn B (y := (0 : Int32)) d10_35 (by decide) (by decide) (by decide) ?_
  exact ⟨rfl, rfl⟩
set_option maxRecDepth 65536 in
set_option maxHeartbeats 40000000 in
theorem rmE12 {l : Launch} {Z : State} {a0 : Array Value} {n0 : Nat} (H : Wd a0 Z) (a va b vb : Addr) (cz : Int32) (h0 : Heap) (Z0 : n0 ≤ h0.size) (E_a : Exa Z h0 a "java/lang/String") (F0_a : Fld Z h0 a "java/lang/String" "value" "[B" (.ref va)) (F1_a : Fld Z h0 a "java/lang/String" "coder" "B" (.int (0 : Int32))) (E_b : Exa Z h0 b "java/lang/String") (F0_b : Fld Z h0 b "java/lang/String" "value" "[B" (.ref vb)) (F1_b : Fld Z h0 b "java/lang/String" "coder" "B" (.int (0 : Int32))) (A_va : AV Z h0 va .byte [(.int (109 : Int32)), (.int (97 : Int32)), (.int (120 : Int32)), (.int (45 : Int32)), (.int (109 : Int32)), (.int (105 : Int32)), (.int (110 : Int32))]) (A_vb : AV Z h0 vb .byte [(.int (109 : Int32)), (.int (111 : Int32)), (.int (110 : Int32)), (.int (111 : Int32))]) (nab : a ≠ b) (SC : Sta Z h0 "java/lang/String" "COMPACT_STRINGS" "Z" (.int cz)) (hz : ¬ cz = 0) :
    Ct l Z n0 (⟨"java/lang/String", "equals", "(Ljava/lang/Object;)Z"⟩ : MethodName) jdk_42_method_66_code 3 (some .boolean) [] ({ frames := 1, cells := 0, slots := 0, locals := 14 } : Room) #[(.ref a), (.ref b)] h0 (fun v h => v = some (.int (0 : Int32)) ∧ h0 = h) := by
  refine Ct.of (a0 := a0) (L0 := #[.val (.ref a), .val (.ref b), .unset]) (plainFor_of_name pn_java_lang_String) (fun m => by first | (simp [entryFrame, mkF, argsToLocals, Value.category]; done) | rfl) ?_
  intro κ B0
  have B : Ok κ l Z a0 n0 ({ frames := 1, cells := 0, slots := 0, locals := 14 } : Room) "java/lang/String" "equals" jdk_42_method_66_code 3 (some .boolean) := B0
  refine go_aload_n B d9_0 rfl rfl ?_
  refine go_aload_n B d9_1 rfl rfl ?_
  refine go_acmpne B d9_2 rfl rfl (fun c2 => ?_) (fun c2 => ?_)
  rotate_left
  · exact absurd (Value.ref.inj c2) nab
  refine go_aload_n B d9_7 rfl rfl ?_
  refine go_instanceof B d9_8 (w_61 H) (Ins.self E_b) ?_
  refine go_ifeq B d9_11 (fun c11 => ?_) (fun c11 => ?_)
  · exact absurd c11 (by decide)
  refine go_aload_n B d9_14 rfl rfl ?_
  refine go_checkcast B d9_15 (w_61 H) (Ins.self E_b) ?_
  refine go_astore_n B #[.val (.ref a), .val (.ref b), .val (.ref b)] d9_18 rfl rfl ?_
  refine go_getstatic B d9_19 (w_18 H) SC ?_
  refine go_ifeq B d9_22 (fun c22 => ?_) (fun c22 => ?_)
  · exact absurd c22 hz
  refine go_aload_n B d9_25 rfl rfl ?_
  refine go_getfield B d9_26 (w_30 H) F1_a ?_
  refine go_aload_n B d9_29 rfl rfl ?_
  refine go_getfield B d9_30 (w_30 H) F1_b ?_
  refine go_icmpne B d9_33 (fun c33 => ?_) (fun c33 => ?_)
  · exact absurd c33 (by decide)
  refine go_aload_n B d9_36 rfl rfl ?_
  refine go_getfield B d9_37 (w_32 H) F0_a ?_
  refine go_aload_n B d9_40 rfl rfl ?_
  refine go_getfield B d9_41 (w_32 H) F0_b ?_
  refine go_static B (W := 0) (argsL := [(.ref va), (.ref vb)]) (st := []) d9_44 (w_62 H) (w_63 H) (w_64 H) (w_65 H) (by decide) (rmL12 H va vb h0 Z0 A_va A_vb) pd_4 rfl rfl rfl rfl (by decide) (by decide) (by decide) (by decide) ?_
  rintro _ h243 ⟨rfl, rfl⟩
  show Go κ _ h0 _ _ 47 #[.val (.ref a), .val (.ref b), .val (.ref b)] [(.int (0 : Int32))]
  refine go_ifeq B d9_47 (fun c47 => ?_) (fun c47 => ?_)
  rotate_left
  · exact absurd c47 (by decide)
  refine go_iconst B (x := (0 : Int32)) d9_54 rfl ?_
  refine go_zreturn B (y := (0 : Int32)) d9_55 (by decide) (by decide) (by decide) ?_
  exact ⟨rfl, rfl⟩
set_option maxRecDepth 65536 in
set_option maxHeartbeats 40000000 in
theorem rmL22 {l : Launch} {Z : State} {a0 : Array Value} {n0 : Nat} (H : Wd a0 Z) (a b : Addr) (h0 : Heap) (Z0 : n0 ≤ h0.size) (A1 : AV Z h0 a .byte [(.int (109 : Int32)), (.int (111 : Int32)), (.int (110 : Int32)), (.int (111 : Int32))]) (A2 : AV Z h0 b .byte [(.int (109 : Int32)), (.int (111 : Int32)), (.int (110 : Int32)), (.int (111 : Int32))]) :
    Ct l Z n0 (⟨"java/lang/StringLatin1", "equals", "([B[B)Z"⟩ : MethodName) jdk_43_method_13_code 3 (some .boolean) [] ({ frames := 0, cells := 0, slots := 0, locals := 0 } : Room) #[(.ref a), (.ref b)] h0 (fun v h => v = some (.int (1 : Int32)) ∧ h0 = h) := by
  refine Ct.of (a0 := a0) (L0 := #[.val (.ref a), .val (.ref b), .unset]) (plainFor_of_name pn_java_lang_StringLatin1) (fun m => by first | (simp [entryFrame, mkF, argsToLocals, Value.category]; done) | rfl) ?_
  intro κ B0
  have B : Ok κ l Z a0 n0 ({ frames := 0, cells := 0, slots := 0, locals := 0 } : Room) "java/lang/StringLatin1" "equals" jdk_43_method_13_code 3 (some .boolean) := B0
  refine go_aload_n B d10_0 rfl rfl ?_
  refine go_arraylength B (x := (4 : Int32)) d10_1 A1 rfl ?_
  refine go_aload_n B d10_2 rfl rfl ?_
  refine go_arraylength B (x := (4 : Int32)) d10_3 A2 rfl ?_
  refine go_icmpne B d10_4 (fun c4 => ?_) (fun c4 => ?_)
  · exact absurd c4 (by decide)
  refine go_iconst B (x := (0 : Int32)) d10_7 rfl ?_
  refine go_istore_n B #[.val (.ref a), .val (.ref b), .val (.int (0 : Int32))] d10_8 rfl ?_
  refine go_iload_n B d10_9 rfl ?_
  refine go_aload_n B d10_10 rfl rfl ?_
  refine go_arraylength B (x := (4 : Int32)) d10_11 A1 rfl ?_
  refine go_icmpge B d10_12 (fun c12 => ?_) (fun c12 => ?_)
  · exact absurd c12 (by decide)
  refine go_aload_n B d10_15 rfl rfl ?_
  refine go_iload_n B d10_16 rfl ?_
  refine go_baload B (i := 0) (v := (.int (109 : Int32))) d10_17 A1 rfl rfl ?_
  refine go_aload_n B d10_18 rfl rfl ?_
  refine go_iload_n B d10_19 rfl ?_
  refine go_baload B (i := 0) (v := (.int (109 : Int32))) d10_20 A2 rfl rfl ?_
  refine go_icmpeq B d10_21 (fun c21 => ?_) (fun c21 => ?_)
  rotate_left
  · exact absurd c21 (by decide)
  refine go_iinc B #[.val (.ref a), .val (.ref b), .val (.int ((0 : Int32) + (1 : Int32)))] d10_26 (z := (1 : Int32)) rfl rfl rfl ?_
  rw [show ((0 : Int32) + (1 : Int32)) = (1 : Int32) from by decide]
  refine go_goto B d10_29 ?_
  refine go_iload_n B d10_9 rfl ?_
  refine go_aload_n B d10_10 rfl rfl ?_
  refine go_arraylength B (x := (4 : Int32)) d10_11 A1 rfl ?_
  refine go_icmpge B d10_12 (fun c12_244 => ?_) (fun c12_244 => ?_)
  · exact absurd c12_244 (by decide)
  refine go_aload_n B d10_15 rfl rfl ?_
  refine go_iload_n B d10_16 rfl ?_
  refine go_baload B (i := 1) (v := (.int (111 : Int32))) d10_17 A1 rfl rfl ?_
  refine go_aload_n B d10_18 rfl rfl ?_
  refine go_iload_n B d10_19 rfl ?_
  refine go_baload B (i := 1) (v := (.int (111 : Int32))) d10_20 A2 rfl rfl ?_
  refine go_icmpeq B d10_21 (fun c21_245 => ?_) (fun c21_245 => ?_)
  rotate_left
  · exact absurd c21_245 (by decide)
  refine go_iinc B #[.val (.ref a), .val (.ref b), .val (.int ((1 : Int32) + (1 : Int32)))] d10_26 (z := (1 : Int32)) rfl rfl rfl ?_
  rw [show ((1 : Int32) + (1 : Int32)) = (2 : Int32) from by decide]
  refine go_goto B d10_29 ?_
  refine go_iload_n B d10_9 rfl ?_
  refine go_aload_n B d10_10 rfl rfl ?_
  refine go_arraylength B (x := (4 : Int32)) d10_11 A1 rfl ?_
  refine go_icmpge B d10_12 (fun c12_246 => ?_) (fun c12_246 => ?_)
  · exact absurd c12_246 (by decide)
  refine go_aload_n B d10_15 rfl rfl ?_
  refine go_iload_n B d10_16 rfl ?_
  refine go_baload B (i := 2) (v := (.int (110 : Int32))) d10_17 A1 rfl rfl ?_
  refine go_aload_n B d10_18 rfl rfl ?_
  refine go_iload_n B d10_19 rfl ?_
  refine go_baload B (i := 2) (v := (.int (110 : Int32))) d10_20 A2 rfl rfl ?_
  refine go_icmpeq B d10_21 (fun c21_247 => ?_) (fun c21_247 => ?_)
  rotate_left
  · exact absurd c21_247 (by decide)
  refine go_iinc B #[.val (.ref a), .val (.ref b), .val (.int ((2 : Int32) + (1 : Int32)))] d10_26 (z := (1 : Int32)) rfl rfl rfl ?_
  rw [show ((2 : Int32) + (1 : Int32)) = (3 : Int32) from by decide]
  refine go_goto B d10_29 ?_
  refine go_iload_n B d10_9 rfl ?_
  refine go_aload_n B d10_10 rfl rfl ?_
  refine go_arraylength B (x := (4 : Int32)) d10_11 A1 rfl ?_
  refine go_icmpge B d10_12 (fun c12_248 => ?_) (fun c12_248 => ?_)
  · exact absurd c12_248 (by decide)
  refine go_aload_n B d10_15 rfl rfl ?_
  refine go_iload_n B d10_16 rfl ?_
  refine go_baload B (i := 3) (v := (.int (111 : Int32))) d10_17 A1 rfl rfl ?_
  refine go_aload_n B d10_18 rfl rfl ?_
  refine go_iload_n B d10_19 rfl ?_
  refine go_baload B (i := 3) (v := (.int (111 : Int32))) d10_20 A2 rfl rfl ?_
  refine go_icmpeq B d10_21 (fun c21_249 => ?_) (fun c21_249 => ?_)
  rotate_left
  · exact absurd c21_249 (by decide)
  refine go_iinc B #[.val (.ref a), .val (.ref b), .val (.int ((3 : Int32) + (1 : Int32)))] d10_26 (z := (1 : Int32)) rfl rfl rfl ?_
  rw [show ((3 : Int32) + (1 : Int32)) = (4 : Int32) from by decide]
  refine go_goto B d10_29 ?_
  refine go_iload_n B d10_9 rfl ?_
  refine go_aload_n B d10_10 rfl rfl ?_
  refine go_arraylength B (x := (4 : Int32)) d10_11 A1 rfl ?_
  refine go_icmpge B d10_12 (fun c12_250 => ?_) (fun c12_250 => ?_)
  rotate_left
  · exact absurd c12_250 (by decide)
  refine go_iconst B (x := (1 : Int32)) d10_32 rfl ?_
  refine go_zreturn B (y := (1 : Int32)) d10_33 (by decide) (by decide) (by decide) ?_
  exact ⟨rfl, rfl⟩
set_option maxRecDepth 65536 in
set_option maxHeartbeats 40000000 in
theorem rmE22 {l : Launch} {Z : State} {a0 : Array Value} {n0 : Nat} (H : Wd a0 Z) (a va b vb : Addr) (cz : Int32) (h0 : Heap) (Z0 : n0 ≤ h0.size) (E_a : Exa Z h0 a "java/lang/String") (F0_a : Fld Z h0 a "java/lang/String" "value" "[B" (.ref va)) (F1_a : Fld Z h0 a "java/lang/String" "coder" "B" (.int (0 : Int32))) (E_b : Exa Z h0 b "java/lang/String") (F0_b : Fld Z h0 b "java/lang/String" "value" "[B" (.ref vb)) (F1_b : Fld Z h0 b "java/lang/String" "coder" "B" (.int (0 : Int32))) (A_va : AV Z h0 va .byte [(.int (109 : Int32)), (.int (111 : Int32)), (.int (110 : Int32)), (.int (111 : Int32))]) (A_vb : AV Z h0 vb .byte [(.int (109 : Int32)), (.int (111 : Int32)), (.int (110 : Int32)), (.int (111 : Int32))]) (nab : a ≠ b) (SC : Sta Z h0 "java/lang/String" "COMPACT_STRINGS" "Z" (.int cz)) (hz : ¬ cz = 0) :
    Ct l Z n0 (⟨"java/lang/String", "equals", "(Ljava/lang/Object;)Z"⟩ : MethodName) jdk_42_method_66_code 3 (some .boolean) [] ({ frames := 1, cells := 0, slots := 0, locals := 14 } : Room) #[(.ref a), (.ref b)] h0 (fun v h => v = some (.int (1 : Int32)) ∧ h0 = h) := by
  refine Ct.of (a0 := a0) (L0 := #[.val (.ref a), .val (.ref b), .unset]) (plainFor_of_name pn_java_lang_String) (fun m => by first | (simp [entryFrame, mkF, argsToLocals, Value.category]; done) | rfl) ?_
  intro κ B0
  have B : Ok κ l Z a0 n0 ({ frames := 1, cells := 0, slots := 0, locals := 14 } : Room) "java/lang/String" "equals" jdk_42_method_66_code 3 (some .boolean) := B0
  refine go_aload_n B d9_0 rfl rfl ?_
  refine go_aload_n B d9_1 rfl rfl ?_
  refine go_acmpne B d9_2 rfl rfl (fun c2 => ?_) (fun c2 => ?_)
  rotate_left
  · exact absurd (Value.ref.inj c2) nab
  refine go_aload_n B d9_7 rfl rfl ?_
  refine go_instanceof B d9_8 (w_61 H) (Ins.self E_b) ?_
  refine go_ifeq B d9_11 (fun c11 => ?_) (fun c11 => ?_)
  · exact absurd c11 (by decide)
  refine go_aload_n B d9_14 rfl rfl ?_
  refine go_checkcast B d9_15 (w_61 H) (Ins.self E_b) ?_
  refine go_astore_n B #[.val (.ref a), .val (.ref b), .val (.ref b)] d9_18 rfl rfl ?_
  refine go_getstatic B d9_19 (w_18 H) SC ?_
  refine go_ifeq B d9_22 (fun c22 => ?_) (fun c22 => ?_)
  · exact absurd c22 hz
  refine go_aload_n B d9_25 rfl rfl ?_
  refine go_getfield B d9_26 (w_30 H) F1_a ?_
  refine go_aload_n B d9_29 rfl rfl ?_
  refine go_getfield B d9_30 (w_30 H) F1_b ?_
  refine go_icmpne B d9_33 (fun c33 => ?_) (fun c33 => ?_)
  · exact absurd c33 (by decide)
  refine go_aload_n B d9_36 rfl rfl ?_
  refine go_getfield B d9_37 (w_32 H) F0_a ?_
  refine go_aload_n B d9_40 rfl rfl ?_
  refine go_getfield B d9_41 (w_32 H) F0_b ?_
  refine go_static B (W := 0) (argsL := [(.ref va), (.ref vb)]) (st := []) d9_44 (w_62 H) (w_63 H) (w_64 H) (w_65 H) (by decide) (rmL22 H va vb h0 Z0 A_va A_vb) pd_4 rfl rfl rfl rfl (by decide) (by decide) (by decide) (by decide) ?_
  rintro _ h251 ⟨rfl, rfl⟩
  show Go κ _ h0 _ _ 47 #[.val (.ref a), .val (.ref b), .val (.ref b)] [(.int (1 : Int32))]
  refine go_ifeq B d9_47 (fun c47 => ?_) (fun c47 => ?_)
  · exact absurd c47 (by decide)
  refine go_iconst B (x := (1 : Int32)) d9_50 rfl ?_
  refine go_goto B d9_51 ?_
  refine go_zreturn B (y := (1 : Int32)) d9_55 (by decide) (by decide) (by decide) ?_
  exact ⟨rfl, rfl⟩
theorem pn_com_example_handpick_handpick_Objective : plainName "com/example/handpick/handpick/Objective" = true := by first | (simp [plainName, overriddenIn]; done) | decide +kernel
theorem d8_0 : Dc prog_59_method_1_code 0 (.getstatic 13) 3 3 := ⟨by decide +kernel, rfl⟩
theorem w_40 {a0 : Array Value} {Z : State} (H : Wd a0 Z) : (Jvm.Cond.fieldLink "com/example/handpick/handpick/Objective" (13 : Nat) "com/example/handpick/handpick/Objective" "$VALUES" "[Lcom/example/handpick/handpick/Objective;").before a0 Z = true := H _ (List.mem_of_getElem? (i := 40) rfl)
theorem d8_3 : Dc prog_59_method_1_code 3 (.invokevirtual 17) 3 6 := ⟨by decide +kernel, rfl⟩
theorem w_42 {a0 : Array Value} {Z : State} (H : Wd a0 Z) : (Jvm.Cond.methodLink "com/example/handpick/handpick/Objective" (17 : Nat) ({ cls := "[Lcom/example/handpick/handpick/Objective;", name := "clone", desc := "()Ljava/lang/Object;" } : Jvm.MethodName)).before a0 Z = true := H _ (List.mem_of_getElem? (i := 42) rfl)
theorem w_43 {a0 : Array Value} {Z : State} (H : Wd a0 Z) : (Jvm.Cond.sameMethod "[Lcom/example/handpick/handpick/Objective;" "java/lang/Object" "clone" "()Ljava/lang/Object;").before a0 Z = true := H _ (List.mem_of_getElem? (i := 43) rfl)
theorem w_47 {a0 : Array Value} {Z : State} (H : Wd a0 Z) : (Jvm.Cond.native ({ cls := "java/lang/Object", name := "clone", desc := "()Ljava/lang/Object;" } : Jvm.MethodName)).before a0 Z = true := H _ (List.mem_of_getElem? (i := 47) rfl)
theorem w_45 {a0 : Array Value} {Z : State} (H : Wd a0 Z) : (Jvm.Cond.instanceMethod ({ cls := "java/lang/Object", name := "clone", desc := "()Ljava/lang/Object;" } : Jvm.MethodName)).before a0 Z = true := H _ (List.mem_of_getElem? (i := 45) rfl)
theorem w_46 {a0 : Array Value} {Z : State} (H : Wd a0 Z) : (Jvm.Cond.selects "[Lcom/example/handpick/handpick/Objective;" ({ cls := "[Lcom/example/handpick/handpick/Objective;", name := "clone", desc := "()Ljava/lang/Object;" } : Jvm.MethodName) ({ cls := "java/lang/Object", name := "clone", desc := "()Ljava/lang/Object;" } : Jvm.MethodName)).before a0 Z = true := H _ (List.mem_of_getElem? (i := 46) rfl)
theorem w_48 {a0 : Array Value} {Z : State} (H : Wd a0 Z) : (Jvm.Cond.castable "[Lcom/example/handpick/handpick/Objective;" "java/lang/Cloneable").before a0 Z = true := H _ (List.mem_of_getElem? (i := 48) rfl)
theorem d8_6 : Dc prog_59_method_1_code 6 (.checkcast 18) 3 9 := ⟨by decide +kernel, rfl⟩
theorem w_52 {a0 : Array Value} {Z : State} (H : Wd a0 Z) : (Jvm.Cond.classLink "com/example/handpick/handpick/Objective" (18 : Nat) "[Lcom/example/handpick/handpick/Objective;").before a0 Z = true := H _ (List.mem_of_getElem? (i := 52) rfl)
theorem d8_9 : Dc prog_59_method_1_code 9 (.areturn) 1 10 := ⟨by decide +kernel, rfl⟩
set_option maxRecDepth 65536 in
set_option maxHeartbeats 40000000 in
theorem rmV {l : Launch} {Z : State} {a0 : Array Value} {n0 : Nat} (H : Wd a0 Z) (av o0 o1 o2 : Addr) (h0 : Heap) (Z0 : n0 ≤ h0.size) (SV : Sta Z h0 "com/example/handpick/handpick/Objective" "$VALUES" "[Lcom/example/handpick/handpick/Objective;" (.ref av)) (AV0 : AV Z h0 av (.object "com/example/handpick/handpick/Objective") [(.ref o0), (.ref o1), (.ref o2)]) (EV : Exa Z h0 av "[Lcom/example/handpick/handpick/Objective;") :
    Ct l Z n0 (⟨"com/example/handpick/handpick/Objective", "values", "()[Lcom/example/handpick/handpick/Objective;"⟩ : MethodName) prog_59_method_1_code 0 (some (.array (.object "com/example/handpick/handpick/Objective"))) [] ({ frames := 1, cells := 1, slots := 3, locals := 14 } : Room) #[] h0 (fun v h => ∃ b, v = some (.ref b) ∧ h0.size ≤ b ∧ Ext h0 h ∧ AV Z h b (.object "com/example/handpick/handpick/Objective") [(.ref o0), (.ref o1), (.ref o2)]) := by
  refine Ct.of (a0 := a0) (L0 := #[]) (plainFor_of_name pn_com_example_handpick_handpick_Objective) (fun m => by first | (simp [entryFrame, mkF, argsToLocals, Value.category]; done) | rfl) ?_
  intro κ B0
  have B : Ok κ l Z a0 n0 ({ frames := 1, cells := 1, slots := 3, locals := 14 } : Room) "com/example/handpick/handpick/Objective" "values" prog_59_method_1_code 0 (some (.array (.object "com/example/handpick/handpick/Objective"))) := B0
  refine go_getstatic B d8_0 (w_40 H) SV ?_
  refine go_clone B (ad := "[Lcom/example/handpick/handpick/Objective;") (W := 0) (cap := 3) d8_3 (w_42 H) (w_43 H) (w_47 H) (w_45 H) (w_46 H) (w_48 H) AV0 EV (List.forall_mem_cons.mpr ⟨rfl, (List.forall_mem_cons.mpr ⟨rfl, (List.forall_mem_cons.mpr ⟨rfl, (fun _ q => nomatch q)⟩)⟩)⟩) rfl rfl (by decide) (by decide) (Nat.le_refl _) (by decide) (by decide) ?_
  intro h252 a253 hba253 Ea253 Aa253 Ca253
  have ne_a253_av : a253 ≠ av := Nat.ne_of_gt (Nat.lt_of_lt_of_le (AV0).lt (by omega))
  have ge_a253 : n0 ≤ a253 := by have q1 := Z0; omega
  refine go_checkcast B d8_6 (w_52 H) (Ins.self Ca253) ?_
  refine go_areturn B d8_9 rfl rfl rfl (by decide) (by decide) ?_
  exact ⟨a253, rfl, by omega, Ea253, Aa253⟩
theorem d7_0 : Dc prog_59_method_4_code 0 (.invokestatic 36) 3 3 := ⟨by decide +kernel, rfl⟩
theorem w_39 {a0 : Array Value} {Z : State} (H : Wd a0 Z) : (Jvm.Cond.code ({ cls := "com/example/handpick/handpick/Objective", name := "values", desc := "()[Lcom/example/handpick/handpick/Objective;" } : Jvm.MethodName) prog_59_method_1_code (0 : Nat) (Option.some (Jvm.ClassFile.FieldType.array (Jvm.ClassFile.FieldType.object "com/example/handpick/handpick/Objective")))).before a0 Z = true := H _ (List.mem_of_getElem? (i := 39) rfl)
theorem w_3 {a0 : Array Value} {Z : State} (H : Wd a0 Z) : (Jvm.Cond.initialized "com/example/handpick/handpick/Objective").before a0 Z = true := H _ (List.mem_of_getElem? (i := 3) rfl)
theorem pd_5 : parseMethodDescriptor "()[Lcom/example/handpick/handpick/Objective;" = some ⟨[], some (.array (.object "com/example/handpick/handpick/Objective"))⟩ := by decide +kernel
theorem w_37 {a0 : Array Value} {Z : State} (H : Wd a0 Z) : (Jvm.Cond.methodLink "com/example/handpick/handpick/Objective" (36 : Nat) ({ cls := "com/example/handpick/handpick/Objective", name := "values", desc := "()[Lcom/example/handpick/handpick/Objective;" } : Jvm.MethodName)).before a0 Z = true := H _ (List.mem_of_getElem? (i := 37) rfl)
theorem w_38 {a0 : Array Value} {Z : State} (H : Wd a0 Z) : (Jvm.Cond.static ({ cls := "com/example/handpick/handpick/Objective", name := "values", desc := "()[Lcom/example/handpick/handpick/Objective;" } : Jvm.MethodName)).before a0 Z = true := H _ (List.mem_of_getElem? (i := 38) rfl)
theorem d7_3 : Dc prog_59_method_4_code 3 (.astore_n 1) 1 4 := ⟨by decide +kernel, rfl⟩
theorem d7_4 : Dc prog_59_method_4_code 4 (.aload_n 1) 1 5 := ⟨by decide +kernel, rfl⟩
theorem d7_5 : Dc prog_59_method_4_code 5 (.arraylength) 1 6 := ⟨by decide +kernel, rfl⟩
theorem d7_6 : Dc prog_59_method_4_code 6 (.istore_n 2) 1 7 := ⟨by decide +kernel, rfl⟩
theorem d7_7 : Dc prog_59_method_4_code 7 (.iconst 0) 1 8 := ⟨by decide +kernel, rfl⟩
theorem d7_8 : Dc prog_59_method_4_code 8 (.istore_n 3) 1 9 := ⟨by decide +kernel, rfl⟩
theorem d7_9 : Dc prog_59_method_4_code 9 (.iload_n 3) 1 10 := ⟨by decide +kernel, rfl⟩
theorem d7_10 : Dc prog_59_method_4_code 10 (.iload_n 2) 1 11 := ⟨by decide +kernel, rfl⟩
theorem d7_11 : Db prog_59_method_4_code 11 (.if_icmp .ge 29) 29 14 40 := ⟨by decide +kernel, rfl, rfl⟩
theorem d7_14 : Dc prog_59_method_4_code 14 (.aload_n 1) 1 15 := ⟨by decide +kernel, rfl⟩
theorem d7_15 : Dc prog_59_method_4_code 15 (.iload_n 3) 1 16 := ⟨by decide +kernel, rfl⟩
theorem d7_16 : Dc prog_59_method_4_code 16 (.aaload) 1 17 := ⟨by decide +kernel, rfl⟩
theorem d7_17 : Dc prog_59_method_4_code 17 (.astore 4) 2 19 := ⟨by decide +kernel, rfl⟩
theorem d7_19 : Dc prog_59_method_4_code 19 (.aload 4) 2 21 := ⟨by decide +kernel, rfl⟩
theorem d7_21 : Dc prog_59_method_4_code 21 (.getfield 32) 3 24 := ⟨by decide +kernel, rfl⟩
theorem w_54 {a0 : Array Value} {Z : State} (H : Wd a0 Z) : (Jvm.Cond.fieldLink "com/example/handpick/handpick/Objective" (32 : Nat) "com/example/handpick/handpick/Objective" "name" "Ljava/lang/String;").before a0 Z = true := H _ (List.mem_of_getElem? (i := 54) rfl)
theorem d7_24 : Dc prog_59_method_4_code 24 (.aload_n 0) 1 25 := ⟨by decide +kernel, rfl⟩
theorem d7_25 : Dc prog_59_method_4_code 25 (.invokevirtual 40) 3 28 := ⟨by decide +kernel, rfl⟩
theorem w_60 {a0 : Array Value} {Z : State} (H : Wd a0 Z) : (Jvm.Cond.code ({ cls := "java/lang/String", name := "equals", desc := "(Ljava/lang/Object;)Z" } : Jvm.MethodName) jdk_42_method_66_code (3 : Nat) (Option.some Jvm.ClassFile.FieldType.boolean)).before a0 Z = true := H _ (List.mem_of_getElem? (i := 60) rfl)
theorem pd_6 : parseMethodDescriptor "(Ljava/lang/Object;)Z" = some ⟨[(.object "java/lang/Object")], some .boolean⟩ := by decide +kernel
theorem w_56 {a0 : Array Value} {Z : State} (H : Wd a0 Z) : (Jvm.Cond.methodLink "com/example/handpick/handpick/Objective" (40 : Nat) ({ cls := "java/lang/String", name := "equals", desc := "(Ljava/lang/Object;)Z" } : Jvm.MethodName)).before a0 Z = true := H _ (List.mem_of_getElem? (i := 56) rfl)
theorem w_57 {a0 : Array Value} {Z : State} (H : Wd a0 Z) : (Jvm.Cond.declares ({ cls := "java/lang/String", name := "equals", desc := "(Ljava/lang/Object;)Z" } : Jvm.MethodName)).before a0 Z = true := H _ (List.mem_of_getElem? (i := 57) rfl)
theorem w_59 {a0 : Array Value} {Z : State} (H : Wd a0 Z) : (Jvm.Cond.selects "java/lang/String" ({ cls := "java/lang/String", name := "equals", desc := "(Ljava/lang/Object;)Z" } : Jvm.MethodName) ({ cls := "java/lang/String", name := "equals", desc := "(Ljava/lang/Object;)Z" } : Jvm.MethodName)).before a0 Z = true := H _ (List.mem_of_getElem? (i := 59) rfl)
theorem w_58 {a0 : Array Value} {Z : State} (H : Wd a0 Z) : (Jvm.Cond.instanceMethod ({ cls := "java/lang/String", name := "equals", desc := "(Ljava/lang/Object;)Z" } : Jvm.MethodName)).before a0 Z = true := H _ (List.mem_of_getElem? (i := 58) rfl)
theorem d7_28 : Db prog_59_method_4_code 28 (.ifCond .eq 6) 6 31 34 := ⟨by decide +kernel, rfl, rfl⟩
theorem d7_31 : Dc prog_59_method_4_code 31 (.aload 4) 2 33 := ⟨by decide +kernel, rfl⟩
theorem d7_33 : Dc prog_59_method_4_code 33 (.areturn) 1 34 := ⟨by decide +kernel, rfl⟩
set_option maxRecDepth 65536 in
set_option maxHeartbeats 40000000 in
theorem rmP0 {l : Launch} {Z : State} {a0 : Array Value} {n0 : Nat} (H : Wd a0 Z) (av o0 o1 o2 s0 s1 s2 v0 v1 v2 a va : Addr) (cz : Int32) (h0 : Heap) (Z0 : n0 ≤ h0.size) (SV : Sta Z h0 "com/example/handpick/handpick/Objective" "$VALUES" "[Lcom/example/handpick/handpick/Objective;" (.ref av)) (AV0 : AV Z h0 av (.object "com/example/handpick/handpick/Objective") [(.ref o0), (.ref o1), (.ref o2)]) (EV : Exa Z h0 av "[Lcom/example/handpick/handpick/Objective;") (EO0 : Exa Z h0 o0 "com/example/handpick/handpick/Objective") (FO0 : Fld Z h0 o0 "com/example/handpick/handpick/Objective" "name" "Ljava/lang/String;" (.ref s0)) (E_s0 : Exa Z h0 s0 "java/lang/String") (F0_s0 : Fld Z h0 s0 "java/lang/String" "value" "[B" (.ref v0)) (F1_s0 : Fld Z h0 s0 "java/lang/String" "coder" "B" (.int (0 : Int32))) (A_v0 : AV Z h0 v0 .byte [(.int (109 : Int32)), (.int (97 : Int32)), (.int (120 : Int32)), (.int (45 : Int32)), (.int (115 : Int32)), (.int (117 : Int32)), (.int (109 : Int32))]) (EO1 : Exa Z h0 o1 "com/example/handpick/handpick/Objective") (FO1 : Fld Z h0 o1 "com/example/handpick/handpick/Objective" "name" "Ljava/lang/String;" (.ref s1)) (E_s1 : Exa Z h0 s1 "java/lang/String") (F0_s1 : Fld Z h0 s1 "java/lang/String" "value" "[B" (.ref v1)) (F1_s1 : Fld Z h0 s1 "java/lang/String" "coder" "B" (.int (0 : Int32))) (A_v1 : AV Z h0 v1 .byte [(.int (109 : Int32)), (.int (97 : Int32)), (.int (120 : Int32)), (.int (45 : Int32)), (.int (109 : Int32)), (.int (105 : Int32)), (.int (110 : Int32))]) (EO2 : Exa Z h0 o2 "com/example/handpick/handpick/Objective") (FO2 : Fld Z h0 o2 "com/example/handpick/handpick/Objective" "name" "Ljava/lang/String;" (.ref s2)) (E_s2 : Exa Z h0 s2 "java/lang/String") (F0_s2 : Fld Z h0 s2 "java/lang/String" "value" "[B" (.ref v2)) (F1_s2 : Fld Z h0 s2 "java/lang/String" "coder" "B" (.int (0 : Int32))) (A_v2 : AV Z h0 v2 .byte [(.int (109 : Int32)), (.int (111 : Int32)), (.int (110 : Int32)), (.int (111 : Int32))]) (E_a : Exa Z h0 a "java/lang/String") (F0_a : Fld Z h0 a "java/lang/String" "value" "[B" (.ref va)) (F1_a : Fld Z h0 a "java/lang/String" "coder" "B" (.int (0 : Int32))) (A_va : AV Z h0 va .byte [(.int (109 : Int32)), (.int (97 : Int32)), (.int (120 : Int32)), (.int (45 : Int32)), (.int (115 : Int32)), (.int (117 : Int32)), (.int (109 : Int32))]) (na0 : s0 ≠ a) (na1 : s1 ≠ a) (na2 : s2 ≠ a) (SC : Sta Z h0 "java/lang/String" "COMPACT_STRINGS" "Z" (.int cz)) (hz : ¬ cz = 0) :
    Ct l Z n0 (⟨"com/example/handpick/handpick/Objective", "parse", "(Ljava/lang/String;)Lcom/example/handpick/handpick/Objective;"⟩ : MethodName) prog_59_method_4_code 5 (some (.object "com/example/handpick/handpick/Objective")) [] ({ frames := 2, cells := 1, slots := 3, locals := 40 } : Room) #[(.ref a)] h0 (fun v h => v = some (.ref o0) ∧ Ext h0 h) := by
  refine Ct.of (a0 := a0) (L0 := #[.val (.ref a), .unset, .unset, .unset, .unset]) (plainFor_of_name pn_com_example_handpick_handpick_Objective) (fun m => by first | (simp [entryFrame, mkF, argsToLocals, Value.category]; done) | rfl) ?_
  intro κ B0
  have B : Ok κ l Z a0 n0 ({ frames := 2, cells := 1, slots := 3, locals := 40 } : Room) "com/example/handpick/handpick/Objective" "parse" prog_59_method_4_code 5 (some (.object "com/example/handpick/handpick/Objective")) := B0
  refine go_static B (W := 0) (argsL := []) (st := []) d7_0 (w_37 H) (w_38 H) (w_3 H) (w_39 H) (by decide) (rmV H av o0 o1 o2 h0 Z0 SV AV0 EV) pd_5 rfl rfl rfl rfl (by decide) (by decide) (by decide) (by decide) ?_
  rintro _ h258 ⟨b254, rfl, g255, E256, A257⟩
  have ne_b254_av : b254 ≠ av := Nat.ne_of_gt (Nat.lt_of_lt_of_le (AV0).lt (by omega))
  have ne_b254_o0 : b254 ≠ o0 := Nat.ne_of_gt (Nat.lt_of_lt_of_le (EO0).lt (by omega))
  have ne_b254_s0 : b254 ≠ s0 := Nat.ne_of_gt (Nat.lt_of_lt_of_le (E_s0).lt (by omega))
  have ne_b254_v0 : b254 ≠ v0 := Nat.ne_of_gt (Nat.lt_of_lt_of_le (A_v0).lt (by omega))
  have ne_b254_o1 : b254 ≠ o1 := Nat.ne_of_gt (Nat.lt_of_lt_of_le (EO1).lt (by omega))
  have ne_b254_s1 : b254 ≠ s1 := Nat.ne_of_gt (Nat.lt_of_lt_of_le (E_s1).lt (by omega))
  have ne_b254_v1 : b254 ≠ v1 := Nat.ne_of_gt (Nat.lt_of_lt_of_le (A_v1).lt (by omega))
  have ne_b254_o2 : b254 ≠ o2 := Nat.ne_of_gt (Nat.lt_of_lt_of_le (EO2).lt (by omega))
  have ne_b254_s2 : b254 ≠ s2 := Nat.ne_of_gt (Nat.lt_of_lt_of_le (E_s2).lt (by omega))
  have ne_b254_v2 : b254 ≠ v2 := Nat.ne_of_gt (Nat.lt_of_lt_of_le (A_v2).lt (by omega))
  have ne_b254_a : b254 ≠ a := Nat.ne_of_gt (Nat.lt_of_lt_of_le (E_a).lt (by omega))
  have ne_b254_va : b254 ≠ va := Nat.ne_of_gt (Nat.lt_of_lt_of_le (A_va).lt (by omega))
  have ge_b254 : n0 ≤ b254 := by have q1 := Z0; omega
  show Go κ _ h258 _ _ 3 #[.val (.ref a), .unset, .unset, .unset, .unset] [(.ref b254)]
  refine go_astore_n B #[.val (.ref a), .val (.ref b254), .unset, .unset, .unset] d7_3 rfl rfl ?_
  refine go_aload_n B d7_4 rfl rfl ?_
  refine go_arraylength B (x := (3 : Int32)) d7_5 A257 rfl ?_
  refine go_istore_n B #[.val (.ref a), .val (.ref b254), .val (.int (3 : Int32)), .unset, .unset] d7_6 rfl ?_
  refine go_iconst B (x := (0 : Int32)) d7_7 rfl ?_
  refine go_istore_n B #[.val (.ref a), .val (.ref b254), .val (.int (3 : Int32)), .val (.int (0 : Int32)), .unset] d7_8 rfl ?_
  refine go_iload_n B d7_9 rfl ?_
  refine go_iload_n B d7_10 rfl ?_
  refine go_icmpge B d7_11 (fun c11 => ?_) (fun c11 => ?_)
  · exact absurd c11 (by decide)
  refine go_aload_n B d7_14 rfl rfl ?_
  refine go_iload_n B d7_15 rfl ?_
  refine go_aaload B (i := 0) (v := (.ref o0)) d7_16 A257 rfl rfl rfl ?_
  refine go_astore B #[.val (.ref a), .val (.ref b254), .val (.int (3 : Int32)), .val (.int (0 : Int32)), .val (.ref o0)] d7_17 rfl rfl ?_
  refine go_aload B d7_19 rfl rfl ?_
  refine go_getfield B d7_21 (w_54 H) (Fld.ext E256 FO0) ?_
  refine go_aload_n B d7_24 rfl rfl ?_
  refine go_virtual B (W := 0) (a := s0) (argsL := [(.ref a)]) (st := []) d7_25 (w_56 H) (w_57 H) (w_59 H) (w_58 H) (w_7 H) (w_60 H) (by decide) (Exa.ext E256 E_s0) (rmE00 H s0 v0 a va cz h258 (Nat.le_trans Z0 E256.1) (Exa.ext E256 E_s0) (Fld.ext E256 F0_s0) (Fld.ext E256 F1_s0) (Exa.ext E256 E_a) (Fld.ext E256 F0_a) (Fld.ext E256 F1_a) (AV.ext A_v0 E256) (AV.ext A_va E256) na0 (Sta.ext E256 SC) hz) pd_6 rfl rfl rfl rfl (by decide) (by decide) (by decide) (by decide) ?_
  rintro _ h259 ⟨rfl, rfl⟩
  show Go κ _ h258 _ _ 28 #[.val (.ref a), .val (.ref b254), .val (.int (3 : Int32)), .val (.int (0 : Int32)), .val (.ref o0)] [(.int (1 : Int32))]
  refine go_ifeq B d7_28 (fun c28 => ?_) (fun c28 => ?_)
  · exact absurd c28 (by decide)
  refine go_aload B d7_31 rfl rfl ?_
  refine go_areturn B d7_33 rfl rfl rfl (by decide) (by decide) ?_
  exact ⟨rfl, E256⟩
theorem d7_34 : Dc prog_59_method_4_code 34 (.iinc 3 1) 3 37 := ⟨by decide +kernel, rfl⟩
theorem d7_37 : Db prog_59_method_4_code 37 (.goto (-28)) (-28) 40 9 := ⟨by decide +kernel, rfl, rfl⟩
set_option maxRecDepth 65536 in
set_option maxHeartbeats 40000000 in
theorem rmP1 {l : Launch} {Z : State} {a0 : Array Value} {n0 : Nat} (H : Wd a0 Z) (av o0 o1 o2 s0 s1 s2 v0 v1 v2 a va : Addr) (cz : Int32) (h0 : Heap) (Z0 : n0 ≤ h0.size) (SV : Sta Z h0 "com/example/handpick/handpick/Objective" "$VALUES" "[Lcom/example/handpick/handpick/Objective;" (.ref av)) (AV0 : AV Z h0 av (.object "com/example/handpick/handpick/Objective") [(.ref o0), (.ref o1), (.ref o2)]) (EV : Exa Z h0 av "[Lcom/example/handpick/handpick/Objective;") (EO0 : Exa Z h0 o0 "com/example/handpick/handpick/Objective") (FO0 : Fld Z h0 o0 "com/example/handpick/handpick/Objective" "name" "Ljava/lang/String;" (.ref s0)) (E_s0 : Exa Z h0 s0 "java/lang/String") (F0_s0 : Fld Z h0 s0 "java/lang/String" "value" "[B" (.ref v0)) (F1_s0 : Fld Z h0 s0 "java/lang/String" "coder" "B" (.int (0 : Int32))) (A_v0 : AV Z h0 v0 .byte [(.int (109 : Int32)), (.int (97 : Int32)), (.int (120 : Int32)), (.int (45 : Int32)), (.int (115 : Int32)), (.int (117 : Int32)), (.int (109 : Int32))]) (EO1 : Exa Z h0 o1 "com/example/handpick/handpick/Objective") (FO1 : Fld Z h0 o1 "com/example/handpick/handpick/Objective" "name" "Ljava/lang/String;" (.ref s1)) (E_s1 : Exa Z h0 s1 "java/lang/String") (F0_s1 : Fld Z h0 s1 "java/lang/String" "value" "[B" (.ref v1)) (F1_s1 : Fld Z h0 s1 "java/lang/String" "coder" "B" (.int (0 : Int32))) (A_v1 : AV Z h0 v1 .byte [(.int (109 : Int32)), (.int (97 : Int32)), (.int (120 : Int32)), (.int (45 : Int32)), (.int (109 : Int32)), (.int (105 : Int32)), (.int (110 : Int32))]) (EO2 : Exa Z h0 o2 "com/example/handpick/handpick/Objective") (FO2 : Fld Z h0 o2 "com/example/handpick/handpick/Objective" "name" "Ljava/lang/String;" (.ref s2)) (E_s2 : Exa Z h0 s2 "java/lang/String") (F0_s2 : Fld Z h0 s2 "java/lang/String" "value" "[B" (.ref v2)) (F1_s2 : Fld Z h0 s2 "java/lang/String" "coder" "B" (.int (0 : Int32))) (A_v2 : AV Z h0 v2 .byte [(.int (109 : Int32)), (.int (111 : Int32)), (.int (110 : Int32)), (.int (111 : Int32))]) (E_a : Exa Z h0 a "java/lang/String") (F0_a : Fld Z h0 a "java/lang/String" "value" "[B" (.ref va)) (F1_a : Fld Z h0 a "java/lang/String" "coder" "B" (.int (0 : Int32))) (A_va : AV Z h0 va .byte [(.int (109 : Int32)), (.int (97 : Int32)), (.int (120 : Int32)), (.int (45 : Int32)), (.int (109 : Int32)), (.int (105 : Int32)), (.int (110 : Int32))]) (na0 : s0 ≠ a) (na1 : s1 ≠ a) (na2 : s2 ≠ a) (SC : Sta Z h0 "java/lang/String" "COMPACT_STRINGS" "Z" (.int cz)) (hz : ¬ cz = 0) :
    Ct l Z n0 (⟨"com/example/handpick/handpick/Objective", "parse", "(Ljava/lang/String;)Lcom/example/handpick/handpick/Objective;"⟩ : MethodName) prog_59_method_4_code 5 (some (.object "com/example/handpick/handpick/Objective")) [] ({ frames := 2, cells := 1, slots := 3, locals := 40 } : Room) #[(.ref a)] h0 (fun v h => v = some (.ref o1) ∧ Ext h0 h) := by
  refine Ct.of (a0 := a0) (L0 := #[.val (.ref a), .unset, .unset, .unset, .unset]) (plainFor_of_name pn_com_example_handpick_handpick_Objective) (fun m => by first | (simp [entryFrame, mkF, argsToLocals, Value.category]; done) | rfl) ?_
  intro κ B0
  have B : Ok κ l Z a0 n0 ({ frames := 2, cells := 1, slots := 3, locals := 40 } : Room) "com/example/handpick/handpick/Objective" "parse" prog_59_method_4_code 5 (some (.object "com/example/handpick/handpick/Objective")) := B0
  refine go_static B (W := 0) (argsL := []) (st := []) d7_0 (w_37 H) (w_38 H) (w_3 H) (w_39 H) (by decide) (rmV H av o0 o1 o2 h0 Z0 SV AV0 EV) pd_5 rfl rfl rfl rfl (by decide) (by decide) (by decide) (by decide) ?_
  rintro _ h264 ⟨b260, rfl, g261, E262, A263⟩
  have ne_b260_av : b260 ≠ av := Nat.ne_of_gt (Nat.lt_of_lt_of_le (AV0).lt (by omega))
  have ne_b260_o0 : b260 ≠ o0 := Nat.ne_of_gt (Nat.lt_of_lt_of_le (EO0).lt (by omega))
  have ne_b260_s0 : b260 ≠ s0 := Nat.ne_of_gt (Nat.lt_of_lt_of_le (E_s0).lt (by omega))
  have ne_b260_v0 : b260 ≠ v0 := Nat.ne_of_gt (Nat.lt_of_lt_of_le (A_v0).lt (by omega))
  have ne_b260_o1 : b260 ≠ o1 := Nat.ne_of_gt (Nat.lt_of_lt_of_le (EO1).lt (by omega))
  have ne_b260_s1 : b260 ≠ s1 := Nat.ne_of_gt (Nat.lt_of_lt_of_le (E_s1).lt (by omega))
  have ne_b260_v1 : b260 ≠ v1 := Nat.ne_of_gt (Nat.lt_of_lt_of_le (A_v1).lt (by omega))
  have ne_b260_o2 : b260 ≠ o2 := Nat.ne_of_gt (Nat.lt_of_lt_of_le (EO2).lt (by omega))
  have ne_b260_s2 : b260 ≠ s2 := Nat.ne_of_gt (Nat.lt_of_lt_of_le (E_s2).lt (by omega))
  have ne_b260_v2 : b260 ≠ v2 := Nat.ne_of_gt (Nat.lt_of_lt_of_le (A_v2).lt (by omega))
  have ne_b260_a : b260 ≠ a := Nat.ne_of_gt (Nat.lt_of_lt_of_le (E_a).lt (by omega))
  have ne_b260_va : b260 ≠ va := Nat.ne_of_gt (Nat.lt_of_lt_of_le (A_va).lt (by omega))
  have ge_b260 : n0 ≤ b260 := by have q1 := Z0; omega
  show Go κ _ h264 _ _ 3 #[.val (.ref a), .unset, .unset, .unset, .unset] [(.ref b260)]
  refine go_astore_n B #[.val (.ref a), .val (.ref b260), .unset, .unset, .unset] d7_3 rfl rfl ?_
  refine go_aload_n B d7_4 rfl rfl ?_
  refine go_arraylength B (x := (3 : Int32)) d7_5 A263 rfl ?_
  refine go_istore_n B #[.val (.ref a), .val (.ref b260), .val (.int (3 : Int32)), .unset, .unset] d7_6 rfl ?_
  refine go_iconst B (x := (0 : Int32)) d7_7 rfl ?_
  refine go_istore_n B #[.val (.ref a), .val (.ref b260), .val (.int (3 : Int32)), .val (.int (0 : Int32)), .unset] d7_8 rfl ?_
  refine go_iload_n B d7_9 rfl ?_
  refine go_iload_n B d7_10 rfl ?_
  refine go_icmpge B d7_11 (fun c11 => ?_) (fun c11 => ?_)
  · exact absurd c11 (by decide)
  refine go_aload_n B d7_14 rfl rfl ?_
  refine go_iload_n B d7_15 rfl ?_
  refine go_aaload B (i := 0) (v := (.ref o0)) d7_16 A263 rfl rfl rfl ?_
  refine go_astore B #[.val (.ref a), .val (.ref b260), .val (.int (3 : Int32)), .val (.int (0 : Int32)), .val (.ref o0)] d7_17 rfl rfl ?_
  refine go_aload B d7_19 rfl rfl ?_
  refine go_getfield B d7_21 (w_54 H) (Fld.ext E262 FO0) ?_
  refine go_aload_n B d7_24 rfl rfl ?_
  refine go_virtual B (W := 0) (a := s0) (argsL := [(.ref a)]) (st := []) d7_25 (w_56 H) (w_57 H) (w_59 H) (w_58 H) (w_7 H) (w_60 H) (by decide) (Exa.ext E262 E_s0) (rmE01 H s0 v0 a va cz h264 (Nat.le_trans Z0 E262.1) (Exa.ext E262 E_s0) (Fld.ext E262 F0_s0) (Fld.ext E262 F1_s0) (Exa.ext E262 E_a) (Fld.ext E262 F0_a) (Fld.ext E262 F1_a) (AV.ext A_v0 E262) (AV.ext A_va E262) na0 (Sta.ext E262 SC) hz) pd_6 rfl rfl rfl rfl (by decide) (by decide) (by decide) (by decide) ?_
  rintro _ h265 ⟨rfl, rfl⟩
  show Go κ _ h264 _ _ 28 #[.val (.ref a), .val (.ref b260), .val (.int (3 : Int32)), .val (.int (0 : Int32)), .val (.ref o0)] [(.int (0 : Int32))]
  refine go_ifeq B d7_28 (fun c28 => ?_) (fun c28 => ?_)
  rotate_left
  · exact absurd c28 (by decide)
  refine go_iinc B #[.val (.ref a), .val (.ref b260), .val (.int (3 : Int32)), .val (.int ((0 : Int32) + (1 : Int32))), .val (.ref o0)] d7_34 (z := (1 : Int32)) rfl rfl rfl ?_
  rw [show ((0 : Int32) + (1 : Int32)) = (1 : Int32) from by decide]
  refine go_goto B d7_37 ?_
  refine go_iload_n B d7_9 rfl ?_
  refine go_iload_n B d7_10 rfl ?_
  refine go_icmpge B d7_11 (fun c11_266 => ?_) (fun c11_266 => ?_)
  · exact absurd c11_266 (by decide)
  refine go_aload_n B d7_14 rfl rfl ?_
  refine go_iload_n B d7_15 rfl ?_
  refine go_aaload B (i := 1) (v := (.ref o1)) d7_16 A263 rfl rfl rfl ?_
  refine go_astore B #[.val (.ref a), .val (.ref b260), .val (.int (3 : Int32)), .val (.int (1 : Int32)), .val (.ref o1)] d7_17 rfl rfl ?_
  refine go_aload B d7_19 rfl rfl ?_
  refine go_getfield B d7_21 (w_54 H) (Fld.ext E262 FO1) ?_
  refine go_aload_n B d7_24 rfl rfl ?_
  refine go_virtual B (W := 0) (a := s1) (argsL := [(.ref a)]) (st := []) d7_25 (w_56 H) (w_57 H) (w_59 H) (w_58 H) (w_7 H) (w_60 H) (by decide) (Exa.ext E262 E_s1) (rmE11 H s1 v1 a va cz h264 (Nat.le_trans Z0 E262.1) (Exa.ext E262 E_s1) (Fld.ext E262 F0_s1) (Fld.ext E262 F1_s1) (Exa.ext E262 E_a) (Fld.ext E262 F0_a) (Fld.ext E262 F1_a) (AV.ext A_v1 E262) (AV.ext A_va E262) na1 (Sta.ext E262 SC) hz) pd_6 rfl rfl rfl rfl (by decide) (by decide) (by decide) (by decide) ?_
  rintro _ h267 ⟨rfl, rfl⟩
  show Go κ _ h264 _ _ 28 #[.val (.ref a), .val (.ref b260), .val (.int (3 : Int32)), .val (.int (1 : Int32)), .val (.ref o1)] [(.int (1 : Int32))]
  refine go_ifeq B d7_28 (fun c28_268 => ?_) (fun c28_268 => ?_)
  · exact absurd c28_268 (by decide)
  refine go_aload B d7_31 rfl rfl ?_
  refine go_areturn B d7_33 rfl rfl rfl (by decide) (by decide) ?_
  exact ⟨rfl, E262⟩
set_option maxRecDepth 65536 in
set_option maxHeartbeats 40000000 in
theorem rmP2 {l : Launch} {Z : State} {a0 : Array Value} {n0 : Nat} (H : Wd a0 Z) (av o0 o1 o2 s0 s1 s2 v0 v1 v2 a va : Addr) (cz : Int32) (h0 : Heap) (Z0 : n0 ≤ h0.size) (SV : Sta Z h0 "com/example/handpick/handpick/Objective" "$VALUES" "[Lcom/example/handpick/handpick/Objective;" (.ref av)) (AV0 : AV Z h0 av (.object "com/example/handpick/handpick/Objective") [(.ref o0), (.ref o1), (.ref o2)]) (EV : Exa Z h0 av "[Lcom/example/handpick/handpick/Objective;") (EO0 : Exa Z h0 o0 "com/example/handpick/handpick/Objective") (FO0 : Fld Z h0 o0 "com/example/handpick/handpick/Objective" "name" "Ljava/lang/String;" (.ref s0)) (E_s0 : Exa Z h0 s0 "java/lang/String") (F0_s0 : Fld Z h0 s0 "java/lang/String" "value" "[B" (.ref v0)) (F1_s0 : Fld Z h0 s0 "java/lang/String" "coder" "B" (.int (0 : Int32))) (A_v0 : AV Z h0 v0 .byte [(.int (109 : Int32)), (.int (97 : Int32)), (.int (120 : Int32)), (.int (45 : Int32)), (.int (115 : Int32)), (.int (117 : Int32)), (.int (109 : Int32))]) (EO1 : Exa Z h0 o1 "com/example/handpick/handpick/Objective") (FO1 : Fld Z h0 o1 "com/example/handpick/handpick/Objective" "name" "Ljava/lang/String;" (.ref s1)) (E_s1 : Exa Z h0 s1 "java/lang/String") (F0_s1 : Fld Z h0 s1 "java/lang/String" "value" "[B" (.ref v1)) (F1_s1 : Fld Z h0 s1 "java/lang/String" "coder" "B" (.int (0 : Int32))) (A_v1 : AV Z h0 v1 .byte [(.int (109 : Int32)), (.int (97 : Int32)), (.int (120 : Int32)), (.int (45 : Int32)), (.int (109 : Int32)), (.int (105 : Int32)), (.int (110 : Int32))]) (EO2 : Exa Z h0 o2 "com/example/handpick/handpick/Objective") (FO2 : Fld Z h0 o2 "com/example/handpick/handpick/Objective" "name" "Ljava/lang/String;" (.ref s2)) (E_s2 : Exa Z h0 s2 "java/lang/String") (F0_s2 : Fld Z h0 s2 "java/lang/String" "value" "[B" (.ref v2)) (F1_s2 : Fld Z h0 s2 "java/lang/String" "coder" "B" (.int (0 : Int32))) (A_v2 : AV Z h0 v2 .byte [(.int (109 : Int32)), (.int (111 : Int32)), (.int (110 : Int32)), (.int (111 : Int32))]) (E_a : Exa Z h0 a "java/lang/String") (F0_a : Fld Z h0 a "java/lang/String" "value" "[B" (.ref va)) (F1_a : Fld Z h0 a "java/lang/String" "coder" "B" (.int (0 : Int32))) (A_va : AV Z h0 va .byte [(.int (109 : Int32)), (.int (111 : Int32)), (.int (110 : Int32)), (.int (111 : Int32))]) (na0 : s0 ≠ a) (na1 : s1 ≠ a) (na2 : s2 ≠ a) (SC : Sta Z h0 "java/lang/String" "COMPACT_STRINGS" "Z" (.int cz)) (hz : ¬ cz = 0) :
    Ct l Z n0 (⟨"com/example/handpick/handpick/Objective", "parse", "(Ljava/lang/String;)Lcom/example/handpick/handpick/Objective;"⟩ : MethodName) prog_59_method_4_code 5 (some (.object "com/example/handpick/handpick/Objective")) [] ({ frames := 2, cells := 1, slots := 3, locals := 40 } : Room) #[(.ref a)] h0 (fun v h => v = some (.ref o2) ∧ Ext h0 h) := by
  refine Ct.of (a0 := a0) (L0 := #[.val (.ref a), .unset, .unset, .unset, .unset]) (plainFor_of_name pn_com_example_handpick_handpick_Objective) (fun m => by first | (simp [entryFrame, mkF, argsToLocals, Value.category]; done) | rfl) ?_
  intro κ B0
  have B : Ok κ l Z a0 n0 ({ frames := 2, cells := 1, slots := 3, locals := 40 } : Room) "com/example/handpick/handpick/Objective" "parse" prog_59_method_4_code 5 (some (.object "com/example/handpick/handpick/Objective")) := B0
  refine go_static B (W := 0) (argsL := []) (st := []) d7_0 (w_37 H) (w_38 H) (w_3 H) (w_39 H) (by decide) (rmV H av o0 o1 o2 h0 Z0 SV AV0 EV) pd_5 rfl rfl rfl rfl (by decide) (by decide) (by decide) (by decide) ?_
  rintro _ h273 ⟨b269, rfl, g270, E271, A272⟩
  have ne_b269_av : b269 ≠ av := Nat.ne_of_gt (Nat.lt_of_lt_of_le (AV0).lt (by omega))
  have ne_b269_o0 : b269 ≠ o0 := Nat.ne_of_gt (Nat.lt_of_lt_of_le (EO0).lt (by omega))
  have ne_b269_s0 : b269 ≠ s0 := Nat.ne_of_gt (Nat.lt_of_lt_of_le (E_s0).lt (by omega))
  have ne_b269_v0 : b269 ≠ v0 := Nat.ne_of_gt (Nat.lt_of_lt_of_le (A_v0).lt (by omega))
  have ne_b269_o1 : b269 ≠ o1 := Nat.ne_of_gt (Nat.lt_of_lt_of_le (EO1).lt (by omega))
  have ne_b269_s1 : b269 ≠ s1 := Nat.ne_of_gt (Nat.lt_of_lt_of_le (E_s1).lt (by omega))
  have ne_b269_v1 : b269 ≠ v1 := Nat.ne_of_gt (Nat.lt_of_lt_of_le (A_v1).lt (by omega))
  have ne_b269_o2 : b269 ≠ o2 := Nat.ne_of_gt (Nat.lt_of_lt_of_le (EO2).lt (by omega))
  have ne_b269_s2 : b269 ≠ s2 := Nat.ne_of_gt (Nat.lt_of_lt_of_le (E_s2).lt (by omega))
  have ne_b269_v2 : b269 ≠ v2 := Nat.ne_of_gt (Nat.lt_of_lt_of_le (A_v2).lt (by omega))
  have ne_b269_a : b269 ≠ a := Nat.ne_of_gt (Nat.lt_of_lt_of_le (E_a).lt (by omega))
  have ne_b269_va : b269 ≠ va := Nat.ne_of_gt (Nat.lt_of_lt_of_le (A_va).lt (by omega))
  have ge_b269 : n0 ≤ b269 := by have q1 := Z0; omega
  show Go κ _ h273 _ _ 3 #[.val (.ref a), .unset, .unset, .unset, .unset] [(.ref b269)]
  refine go_astore_n B #[.val (.ref a), .val (.ref b269), .unset, .unset, .unset] d7_3 rfl rfl ?_
  refine go_aload_n B d7_4 rfl rfl ?_
  refine go_arraylength B (x := (3 : Int32)) d7_5 A272 rfl ?_
  refine go_istore_n B #[.val (.ref a), .val (.ref b269), .val (.int (3 : Int32)), .unset, .unset] d7_6 rfl ?_
  refine go_iconst B (x := (0 : Int32)) d7_7 rfl ?_
  refine go_istore_n B #[.val (.ref a), .val (.ref b269), .val (.int (3 : Int32)), .val (.int (0 : Int32)), .unset] d7_8 rfl ?_
  refine go_iload_n B d7_9 rfl ?_
  refine go_iload_n B d7_10 rfl ?_
  refine go_icmpge B d7_11 (fun c11 => ?_) (fun c11 => ?_)
  · exact absurd c11 (by decide)
  refine go_aload_n B d7_14 rfl rfl ?_
  refine go_iload_n B d7_15 rfl ?_
  refine go_aaload B (i := 0) (v := (.ref o0)) d7_16 A272 rfl rfl rfl ?_
  refine go_astore B #[.val (.ref a), .val (.ref b269), .val (.int (3 : Int32)), .val (.int (0 : Int32)), .val (.ref o0)] d7_17 rfl rfl ?_
  refine go_aload B d7_19 rfl rfl ?_
  refine go_getfield B d7_21 (w_54 H) (Fld.ext E271 FO0) ?_
  refine go_aload_n B d7_24 rfl rfl ?_
  refine go_virtual B (W := 0) (a := s0) (argsL := [(.ref a)]) (st := []) d7_25 (w_56 H) (w_57 H) (w_59 H) (w_58 H) (w_7 H) (w_60 H) (by decide) (Exa.ext E271 E_s0) (rmE02 H s0 v0 a va cz h273 (Nat.le_trans Z0 E271.1) (Exa.ext E271 E_s0) (Fld.ext E271 F0_s0) (Fld.ext E271 F1_s0) (Exa.ext E271 E_a) (Fld.ext E271 F0_a) (Fld.ext E271 F1_a) (AV.ext A_v0 E271) (AV.ext A_va E271) na0 (Sta.ext E271 SC) hz) pd_6 rfl rfl rfl rfl (by decide) (by decide) (by decide) (by decide) ?_
  rintro _ h274 ⟨rfl, rfl⟩
  show Go κ _ h273 _ _ 28 #[.val (.ref a), .val (.ref b269), .val (.int (3 : Int32)), .val (.int (0 : Int32)), .val (.ref o0)] [(.int (0 : Int32))]
  refine go_ifeq B d7_28 (fun c28 => ?_) (fun c28 => ?_)
  rotate_left
  · exact absurd c28 (by decide)
  refine go_iinc B #[.val (.ref a), .val (.ref b269), .val (.int (3 : Int32)), .val (.int ((0 : Int32) + (1 : Int32))), .val (.ref o0)] d7_34 (z := (1 : Int32)) rfl rfl rfl ?_
  rw [show ((0 : Int32) + (1 : Int32)) = (1 : Int32) from by decide]
  refine go_goto B d7_37 ?_
  refine go_iload_n B d7_9 rfl ?_
  refine go_iload_n B d7_10 rfl ?_
  refine go_icmpge B d7_11 (fun c11_275 => ?_) (fun c11_275 => ?_)
  · exact absurd c11_275 (by decide)
  refine go_aload_n B d7_14 rfl rfl ?_
  refine go_iload_n B d7_15 rfl ?_
  refine go_aaload B (i := 1) (v := (.ref o1)) d7_16 A272 rfl rfl rfl ?_
  refine go_astore B #[.val (.ref a), .val (.ref b269), .val (.int (3 : Int32)), .val (.int (1 : Int32)), .val (.ref o1)] d7_17 rfl rfl ?_
  refine go_aload B d7_19 rfl rfl ?_
  refine go_getfield B d7_21 (w_54 H) (Fld.ext E271 FO1) ?_
  refine go_aload_n B d7_24 rfl rfl ?_
  refine go_virtual B (W := 0) (a := s1) (argsL := [(.ref a)]) (st := []) d7_25 (w_56 H) (w_57 H) (w_59 H) (w_58 H) (w_7 H) (w_60 H) (by decide) (Exa.ext E271 E_s1) (rmE12 H s1 v1 a va cz h273 (Nat.le_trans Z0 E271.1) (Exa.ext E271 E_s1) (Fld.ext E271 F0_s1) (Fld.ext E271 F1_s1) (Exa.ext E271 E_a) (Fld.ext E271 F0_a) (Fld.ext E271 F1_a) (AV.ext A_v1 E271) (AV.ext A_va E271) na1 (Sta.ext E271 SC) hz) pd_6 rfl rfl rfl rfl (by decide) (by decide) (by decide) (by decide) ?_
  rintro _ h276 ⟨rfl, rfl⟩
  show Go κ _ h273 _ _ 28 #[.val (.ref a), .val (.ref b269), .val (.int (3 : Int32)), .val (.int (1 : Int32)), .val (.ref o1)] [(.int (0 : Int32))]
  refine go_ifeq B d7_28 (fun c28_277 => ?_) (fun c28_277 => ?_)
  rotate_left
  · exact absurd c28_277 (by decide)
  refine go_iinc B #[.val (.ref a), .val (.ref b269), .val (.int (3 : Int32)), .val (.int ((1 : Int32) + (1 : Int32))), .val (.ref o1)] d7_34 (z := (1 : Int32)) rfl rfl rfl ?_
  rw [show ((1 : Int32) + (1 : Int32)) = (2 : Int32) from by decide]
  refine go_goto B d7_37 ?_
  refine go_iload_n B d7_9 rfl ?_
  refine go_iload_n B d7_10 rfl ?_
  refine go_icmpge B d7_11 (fun c11_278 => ?_) (fun c11_278 => ?_)
  · exact absurd c11_278 (by decide)
  refine go_aload_n B d7_14 rfl rfl ?_
  refine go_iload_n B d7_15 rfl ?_
  refine go_aaload B (i := 2) (v := (.ref o2)) d7_16 A272 rfl rfl rfl ?_
  refine go_astore B #[.val (.ref a), .val (.ref b269), .val (.int (3 : Int32)), .val (.int (2 : Int32)), .val (.ref o2)] d7_17 rfl rfl ?_
  refine go_aload B d7_19 rfl rfl ?_
  refine go_getfield B d7_21 (w_54 H) (Fld.ext E271 FO2) ?_
  refine go_aload_n B d7_24 rfl rfl ?_
  refine go_virtual B (W := 0) (a := s2) (argsL := [(.ref a)]) (st := []) d7_25 (w_56 H) (w_57 H) (w_59 H) (w_58 H) (w_7 H) (w_60 H) (by decide) (Exa.ext E271 E_s2) (rmE22 H s2 v2 a va cz h273 (Nat.le_trans Z0 E271.1) (Exa.ext E271 E_s2) (Fld.ext E271 F0_s2) (Fld.ext E271 F1_s2) (Exa.ext E271 E_a) (Fld.ext E271 F0_a) (Fld.ext E271 F1_a) (AV.ext A_v2 E271) (AV.ext A_va E271) na2 (Sta.ext E271 SC) hz) pd_6 rfl rfl rfl rfl (by decide) (by decide) (by decide) (by decide) ?_
  rintro _ h279 ⟨rfl, rfl⟩
  show Go κ _ h273 _ _ 28 #[.val (.ref a), .val (.ref b269), .val (.int (3 : Int32)), .val (.int (2 : Int32)), .val (.ref o2)] [(.int (1 : Int32))]
  refine go_ifeq B d7_28 (fun c28_280 => ?_) (fun c28_280 => ?_)
  · exact absurd c28_280 (by decide)
  refine go_aload B d7_31 rfl rfl ?_
  refine go_areturn B d7_33 rfl rfl rfl (by decide) (by decide) ?_
  exact ⟨rfl, E271⟩
theorem d11_0 : Dc prog_59_method_5_code 0 (.aload_n 0) 1 1 := ⟨by decide +kernel, rfl⟩
theorem d11_1 : Dc prog_59_method_5_code 1 (.getfield 32) 3 4 := ⟨by decide +kernel, rfl⟩
theorem d11_4 : Dc prog_59_method_5_code 4 (.areturn) 1 5 := ⟨by decide +kernel, rfl⟩
set_option maxRecDepth 65536 in
set_option maxHeartbeats 40000000 in
theorem rmO {l : Launch} {Z : State} {a0 : Array Value} {n0 : Nat} (H : Wd a0 Z) (o n : Addr) (h0 : Heap) (Z0 : n0 ≤ h0.size) (FO : Fld Z h0 o "com/example/handpick/handpick/Objective" "name" "Ljava/lang/String;" (.ref n)) :
    Ct l Z n0 (⟨"com/example/handpick/handpick/Objective", "toString", "()Ljava/lang/String;"⟩ : MethodName) prog_59_method_5_code 1 (some (.object "java/lang/String")) [] ({ frames := 0, cells := 0, slots := 0, locals := 0 } : Room) #[(.ref o)] h0 (fun v h => v = some (.ref n) ∧ h0 = h) := by
  refine Ct.of (a0 := a0) (L0 := #[.val (.ref o)]) (plainFor_of_name pn_com_example_handpick_handpick_Objective) (fun m => by first | (simp [entryFrame, mkF, argsToLocals, Value.category]; done) | rfl) ?_
  intro κ B0
  have B : Ok κ l Z a0 n0 ({ frames := 0, cells := 0, slots := 0, locals := 0 } : Room) "com/example/handpick/handpick/Objective" "toString" prog_59_method_5_code 1 (some (.object "java/lang/String")) := B0
  refine go_aload_n B d11_0 rfl rfl ?_
  refine go_getfield B d11_1 (w_54 H) FO ?_
  refine go_areturn B d11_4 rfl rfl rfl (by decide) (by decide) ?_
  exact ⟨rfl, rfl⟩
theorem pn_com_example_handpick_handpick_ObjectiveParsePinLaw : plainName "com/example/handpick/handpick/ObjectiveParsePinLaw" = true := by first | (simp [plainName, overriddenIn]; done) | decide +kernel
theorem d0_0 : Dc code 0 (.iload_n 0) 1 1 := ⟨at_0, rfl⟩
theorem d0_1 : Dc code 1 (.ldc 7) 2 3 := ⟨at_1, rfl⟩
theorem w_0 {a0 : Array Value} {Z : State} (H : Wd a0 Z) : (Jvm.Cond.constant "com/example/handpick/handpick/ObjectiveParsePinLaw" (7 : Nat) (2147483647 : Int32)).before a0 Z = true := H _ (List.mem_of_getElem? (i := 0) rfl)
theorem d0_3 : Dc code 3 (.iand) 1 4 := ⟨at_3, rfl⟩
theorem d0_4 : Dc code 4 (.iconst 3) 1 5 := ⟨at_4, rfl⟩
theorem d0_5 : Dc code 5 (.irem) 1 6 := ⟨at_5, rfl⟩
theorem d0_6 : Dc code 6 (.istore_n 1) 1 7 := ⟨at_6, rfl⟩
theorem d0_7 : Dc code 7 (.iload_n 1) 1 8 := ⟨at_7, rfl⟩
theorem d0_8 : Db code 8 (.ifCond .ne 51) 51 11 59 := ⟨at_8, rfl, rfl⟩
theorem d0_59 : Dc code 59 (.iload_n 1) 1 60 := ⟨at_59, rfl⟩
theorem d0_60 : Dc code 60 (.iconst 1) 1 61 := ⟨at_60, rfl⟩
theorem d0_61 : Db code 61 (.if_icmp .ne 51) 51 64 112 := ⟨at_61, rfl, rfl⟩
theorem d0_112 : Dc code 112 (.iconst 4) 1 113 := ⟨at_112, rfl⟩
theorem d0_113 : Dc code 113 (.newarray .char) 2 115 := ⟨at_113, rfl⟩
theorem w_1 {a0 : Array Value} {Z : State} (H : Wd a0 Z) : (Jvm.Cond.arrayClass Jvm.ClassFile.FieldType.char).before a0 Z = true := H _ (List.mem_of_getElem? (i := 1) rfl)
theorem d0_115 : Dc code 115 (.dup) 1 116 := ⟨at_115, rfl⟩
theorem d0_116 : Dc code 116 (.iconst 0) 1 117 := ⟨at_116, rfl⟩
theorem d0_117 : Dc code 117 (.bipush 109) 2 119 := ⟨at_117, rfl⟩
theorem d0_119 : Dc code 119 (.castore) 1 120 := ⟨at_119, rfl⟩
theorem d0_120 : Dc code 120 (.dup) 1 121 := ⟨at_120, rfl⟩
theorem d0_121 : Dc code 121 (.iconst 1) 1 122 := ⟨at_121, rfl⟩
theorem d0_122 : Dc code 122 (.bipush 111) 2 124 := ⟨at_122, rfl⟩
theorem d0_124 : Dc code 124 (.castore) 1 125 := ⟨at_124, rfl⟩
theorem d0_125 : Dc code 125 (.dup) 1 126 := ⟨at_125, rfl⟩
theorem d0_126 : Dc code 126 (.iconst 2) 1 127 := ⟨at_126, rfl⟩
theorem d0_127 : Dc code 127 (.bipush 110) 2 129 := ⟨at_127, rfl⟩
theorem d0_129 : Dc code 129 (.castore) 1 130 := ⟨at_129, rfl⟩
theorem d0_130 : Dc code 130 (.dup) 1 131 := ⟨at_130, rfl⟩
theorem d0_131 : Dc code 131 (.iconst 3) 1 132 := ⟨at_131, rfl⟩
theorem d0_132 : Dc code 132 (.bipush 111) 2 134 := ⟨at_132, rfl⟩
theorem d0_134 : Dc code 134 (.castore) 1 135 := ⟨at_134, rfl⟩
theorem d0_135 : Dc code 135 (.astore_n 2) 1 136 := ⟨at_135, rfl⟩
theorem d0_136 : Dc code 136 (.getstatic 17) 3 139 := ⟨at_136, rfl⟩
theorem w_72 {a0 : Array Value} {Z : State} (H : Wd a0 Z) : (Jvm.Cond.fieldLink "com/example/handpick/handpick/ObjectiveParsePinLaw" (17 : Nat) "com/example/handpick/handpick/Objective" "MONO" "Lcom/example/handpick/handpick/Objective;").before a0 Z = true := H _ (List.mem_of_getElem? (i := 72) rfl)
theorem d0_139 : Dc code 139 (.astore_n 3) 1 140 := ⟨at_139, rfl⟩
theorem d0_140 : Dc code 140 (.new 20) 3 143 := ⟨at_140, rfl⟩
theorem w_5 {a0 : Array Value} {Z : State} (H : Wd a0 Z) : (Jvm.Cond.classLink "com/example/handpick/handpick/ObjectiveParsePinLaw" (20 : Nat) "java/lang/String").before a0 Z = true := H _ (List.mem_of_getElem? (i := 5) rfl)
theorem d0_143 : Dc code 143 (.dup) 1 144 := ⟨at_143, rfl⟩
theorem d0_144 : Dc code 144 (.aload_n 2) 1 145 := ⟨at_144, rfl⟩
theorem d0_145 : Dc code 145 (.invokespecial 22) 3 148 := ⟨at_145, rfl⟩
theorem w_10 {a0 : Array Value} {Z : State} (H : Wd a0 Z) : (Jvm.Cond.code ({ cls := "java/lang/String", name := "<init>", desc := "([C)V" } : Jvm.MethodName) jdk_42_method_3_code (2 : Nat) (Option.none : Option Jvm.ClassFile.FieldType)).before a0 Z = true := H _ (List.mem_of_getElem? (i := 10) rfl)
theorem pd_7 : parseMethodDescriptor "([C)V" = some ⟨[(.array .char)], none⟩ := by decide +kernel
theorem w_8 {a0 : Array Value} {Z : State} (H : Wd a0 Z) : (Jvm.Cond.methodLink "com/example/handpick/handpick/ObjectiveParsePinLaw" (22 : Nat) ({ cls := "java/lang/String", name := "<init>", desc := "([C)V" } : Jvm.MethodName)).before a0 Z = true := H _ (List.mem_of_getElem? (i := 8) rfl)
theorem w_9 {a0 : Array Value} {Z : State} (H : Wd a0 Z) : (Jvm.Cond.instanceMethod ({ cls := "java/lang/String", name := "<init>", desc := "([C)V" } : Jvm.MethodName)).before a0 Z = true := H _ (List.mem_of_getElem? (i := 9) rfl)
theorem d0_148 : Dc code 148 (.astore 4) 2 150 := ⟨at_148, rfl⟩
theorem d0_150 : Dc code 150 (.aload 4) 2 152 := ⟨at_150, rfl⟩
theorem d0_152 : Dc code 152 (.invokestatic 25) 3 155 := ⟨at_152, rfl⟩
theorem w_36 {a0 : Array Value} {Z : State} (H : Wd a0 Z) : (Jvm.Cond.code ({ cls := "com/example/handpick/handpick/Objective", name := "parse", desc := "(Ljava/lang/String;)Lcom/example/handpick/handpick/Objective;" } : Jvm.MethodName) prog_59_method_4_code (5 : Nat) (Option.some (Jvm.ClassFile.FieldType.object "com/example/handpick/handpick/Objective"))).before a0 Z = true := H _ (List.mem_of_getElem? (i := 36) rfl)
theorem pd_8 : parseMethodDescriptor "(Ljava/lang/String;)Lcom/example/handpick/handpick/Objective;" = some ⟨[(.object "java/lang/String")], some (.object "com/example/handpick/handpick/Objective")⟩ := by decide +kernel
theorem w_34 {a0 : Array Value} {Z : State} (H : Wd a0 Z) : (Jvm.Cond.methodLink "com/example/handpick/handpick/ObjectiveParsePinLaw" (25 : Nat) ({ cls := "com/example/handpick/handpick/Objective", name := "parse", desc := "(Ljava/lang/String;)Lcom/example/handpick/handpick/Objective;" } : Jvm.MethodName)).before a0 Z = true := H _ (List.mem_of_getElem? (i := 34) rfl)
theorem w_35 {a0 : Array Value} {Z : State} (H : Wd a0 Z) : (Jvm.Cond.static ({ cls := "com/example/handpick/handpick/Objective", name := "parse", desc := "(Ljava/lang/String;)Lcom/example/handpick/handpick/Objective;" } : Jvm.MethodName)).before a0 Z = true := H _ (List.mem_of_getElem? (i := 35) rfl)
theorem d0_155 : Dc code 155 (.astore 5) 2 157 := ⟨at_155, rfl⟩
theorem d0_157 : Dc code 157 (.aload 5) 2 159 := ⟨at_157, rfl⟩
theorem d0_159 : Dc code 159 (.aload_n 3) 1 160 := ⟨at_159, rfl⟩
theorem d0_160 : Db code 160 (.if_acmp .ne 20) 20 163 180 := ⟨at_160, rfl, rfl⟩
theorem d0_163 : Dc code 163 (.aload 5) 2 165 := ⟨at_163, rfl⟩
theorem d0_165 : Dc code 165 (.invokevirtual 29) 3 168 := ⟨at_165, rfl⟩
theorem w_70 {a0 : Array Value} {Z : State} (H : Wd a0 Z) : (Jvm.Cond.code ({ cls := "com/example/handpick/handpick/Objective", name := "toString", desc := "()Ljava/lang/String;" } : Jvm.MethodName) prog_59_method_5_code (1 : Nat) (Option.some (Jvm.ClassFile.FieldType.object "java/lang/String"))).before a0 Z = true := H _ (List.mem_of_getElem? (i := 70) rfl)
theorem pd_9 : parseMethodDescriptor "()Ljava/lang/String;" = some ⟨[], some (.object "java/lang/String")⟩ := by decide +kernel
theorem w_66 {a0 : Array Value} {Z : State} (H : Wd a0 Z) : (Jvm.Cond.methodLink "com/example/handpick/handpick/ObjectiveParsePinLaw" (29 : Nat) ({ cls := "com/example/handpick/handpick/Objective", name := "toString", desc := "()Ljava/lang/String;" } : Jvm.MethodName)).before a0 Z = true := H _ (List.mem_of_getElem? (i := 66) rfl)
theorem w_67 {a0 : Array Value} {Z : State} (H : Wd a0 Z) : (Jvm.Cond.declares ({ cls := "com/example/handpick/handpick/Objective", name := "toString", desc := "()Ljava/lang/String;" } : Jvm.MethodName)).before a0 Z = true := H _ (List.mem_of_getElem? (i := 67) rfl)
theorem w_69 {a0 : Array Value} {Z : State} (H : Wd a0 Z) : (Jvm.Cond.selects "com/example/handpick/handpick/Objective" ({ cls := "com/example/handpick/handpick/Objective", name := "toString", desc := "()Ljava/lang/String;" } : Jvm.MethodName) ({ cls := "com/example/handpick/handpick/Objective", name := "toString", desc := "()Ljava/lang/String;" } : Jvm.MethodName)).before a0 Z = true := H _ (List.mem_of_getElem? (i := 69) rfl)
theorem w_68 {a0 : Array Value} {Z : State} (H : Wd a0 Z) : (Jvm.Cond.instanceMethod ({ cls := "com/example/handpick/handpick/Objective", name := "toString", desc := "()Ljava/lang/String;" } : Jvm.MethodName)).before a0 Z = true := H _ (List.mem_of_getElem? (i := 68) rfl)
theorem d0_168 : Dc code 168 (.aload 4) 2 170 := ⟨at_168, rfl⟩
theorem d0_170 : Dc code 170 (.invokevirtual 33) 3 173 := ⟨at_170, rfl⟩
theorem w_71 {a0 : Array Value} {Z : State} (H : Wd a0 Z) : (Jvm.Cond.methodLink "com/example/handpick/handpick/ObjectiveParsePinLaw" (33 : Nat) ({ cls := "java/lang/String", name := "equals", desc := "(Ljava/lang/Object;)Z" } : Jvm.MethodName)).before a0 Z = true := H _ (List.mem_of_getElem? (i := 71) rfl)
theorem d0_173 : Db code 173 (.ifCond .eq 7) 7 176 180 := ⟨at_173, rfl, rfl⟩
theorem d0_176 : Dc code 176 (.iconst 1) 1 177 := ⟨at_176, rfl⟩
theorem d0_177 : Db code 177 (.goto 4) 4 180 181 := ⟨at_177, rfl, rfl⟩
theorem d0_181 : Dc code 181 (.ireturn) 1 182 := ⟨at_181, rfl⟩
theorem d0_64 : Dc code 64 (.bipush 7) 2 66 := ⟨at_64, rfl⟩
theorem d0_66 : Dc code 66 (.newarray .char) 2 68 := ⟨at_66, rfl⟩
theorem d0_68 : Dc code 68 (.dup) 1 69 := ⟨at_68, rfl⟩
theorem d0_69 : Dc code 69 (.iconst 0) 1 70 := ⟨at_69, rfl⟩
theorem d0_70 : Dc code 70 (.bipush 109) 2 72 := ⟨at_70, rfl⟩
theorem d0_72 : Dc code 72 (.castore) 1 73 := ⟨at_72, rfl⟩
theorem d0_73 : Dc code 73 (.dup) 1 74 := ⟨at_73, rfl⟩
theorem d0_74 : Dc code 74 (.iconst 1) 1 75 := ⟨at_74, rfl⟩
theorem d0_75 : Dc code 75 (.bipush 97) 2 77 := ⟨at_75, rfl⟩
theorem d0_77 : Dc code 77 (.castore) 1 78 := ⟨at_77, rfl⟩
theorem d0_78 : Dc code 78 (.dup) 1 79 := ⟨at_78, rfl⟩
theorem d0_79 : Dc code 79 (.iconst 2) 1 80 := ⟨at_79, rfl⟩
theorem d0_80 : Dc code 80 (.bipush 120) 2 82 := ⟨at_80, rfl⟩
theorem d0_82 : Dc code 82 (.castore) 1 83 := ⟨at_82, rfl⟩
theorem d0_83 : Dc code 83 (.dup) 1 84 := ⟨at_83, rfl⟩
theorem d0_84 : Dc code 84 (.iconst 3) 1 85 := ⟨at_84, rfl⟩
theorem d0_85 : Dc code 85 (.bipush 45) 2 87 := ⟨at_85, rfl⟩
theorem d0_87 : Dc code 87 (.castore) 1 88 := ⟨at_87, rfl⟩
theorem d0_88 : Dc code 88 (.dup) 1 89 := ⟨at_88, rfl⟩
theorem d0_89 : Dc code 89 (.iconst 4) 1 90 := ⟨at_89, rfl⟩
theorem d0_90 : Dc code 90 (.bipush 109) 2 92 := ⟨at_90, rfl⟩
theorem d0_92 : Dc code 92 (.castore) 1 93 := ⟨at_92, rfl⟩
theorem d0_93 : Dc code 93 (.dup) 1 94 := ⟨at_93, rfl⟩
theorem d0_94 : Dc code 94 (.iconst 5) 1 95 := ⟨at_94, rfl⟩
theorem d0_95 : Dc code 95 (.bipush 105) 2 97 := ⟨at_95, rfl⟩
theorem d0_97 : Dc code 97 (.castore) 1 98 := ⟨at_97, rfl⟩
theorem d0_98 : Dc code 98 (.dup) 1 99 := ⟨at_98, rfl⟩
theorem d0_99 : Dc code 99 (.bipush 6) 2 101 := ⟨at_99, rfl⟩
theorem d0_101 : Dc code 101 (.bipush 110) 2 103 := ⟨at_101, rfl⟩
theorem d0_103 : Dc code 103 (.castore) 1 104 := ⟨at_103, rfl⟩
theorem d0_104 : Dc code 104 (.astore_n 2) 1 105 := ⟨at_104, rfl⟩
theorem d0_105 : Dc code 105 (.getstatic 14) 3 108 := ⟨at_105, rfl⟩
theorem w_73 {a0 : Array Value} {Z : State} (H : Wd a0 Z) : (Jvm.Cond.fieldLink "com/example/handpick/handpick/ObjectiveParsePinLaw" (14 : Nat) "com/example/handpick/handpick/Objective" "MAX_MIN" "Lcom/example/handpick/handpick/Objective;").before a0 Z = true := H _ (List.mem_of_getElem? (i := 73) rfl)
theorem d0_108 : Dc code 108 (.astore_n 3) 1 109 := ⟨at_108, rfl⟩
theorem d0_109 : Db code 109 (.goto 31) 31 112 140 := ⟨at_109, rfl, rfl⟩
theorem d0_11 : Dc code 11 (.bipush 7) 2 13 := ⟨at_11, rfl⟩
theorem d0_13 : Dc code 13 (.newarray .char) 2 15 := ⟨at_13, rfl⟩
theorem d0_15 : Dc code 15 (.dup) 1 16 := ⟨at_15, rfl⟩
theorem d0_16 : Dc code 16 (.iconst 0) 1 17 := ⟨at_16, rfl⟩
theorem d0_17 : Dc code 17 (.bipush 109) 2 19 := ⟨at_17, rfl⟩
theorem d0_19 : Dc code 19 (.castore) 1 20 := ⟨at_19, rfl⟩
theorem d0_20 : Dc code 20 (.dup) 1 21 := ⟨at_20, rfl⟩
theorem d0_21 : Dc code 21 (.iconst 1) 1 22 := ⟨at_21, rfl⟩
theorem d0_22 : Dc code 22 (.bipush 97) 2 24 := ⟨at_22, rfl⟩
theorem d0_24 : Dc code 24 (.castore) 1 25 := ⟨at_24, rfl⟩
theorem d0_25 : Dc code 25 (.dup) 1 26 := ⟨at_25, rfl⟩
theorem d0_26 : Dc code 26 (.iconst 2) 1 27 := ⟨at_26, rfl⟩
theorem d0_27 : Dc code 27 (.bipush 120) 2 29 := ⟨at_27, rfl⟩
theorem d0_29 : Dc code 29 (.castore) 1 30 := ⟨at_29, rfl⟩
theorem d0_30 : Dc code 30 (.dup) 1 31 := ⟨at_30, rfl⟩
theorem d0_31 : Dc code 31 (.iconst 3) 1 32 := ⟨at_31, rfl⟩
theorem d0_32 : Dc code 32 (.bipush 45) 2 34 := ⟨at_32, rfl⟩
theorem d0_34 : Dc code 34 (.castore) 1 35 := ⟨at_34, rfl⟩
theorem d0_35 : Dc code 35 (.dup) 1 36 := ⟨at_35, rfl⟩
theorem d0_36 : Dc code 36 (.iconst 4) 1 37 := ⟨at_36, rfl⟩
theorem d0_37 : Dc code 37 (.bipush 115) 2 39 := ⟨at_37, rfl⟩
theorem d0_39 : Dc code 39 (.castore) 1 40 := ⟨at_39, rfl⟩
theorem d0_40 : Dc code 40 (.dup) 1 41 := ⟨at_40, rfl⟩
theorem d0_41 : Dc code 41 (.iconst 5) 1 42 := ⟨at_41, rfl⟩
theorem d0_42 : Dc code 42 (.bipush 117) 2 44 := ⟨at_42, rfl⟩
theorem d0_44 : Dc code 44 (.castore) 1 45 := ⟨at_44, rfl⟩
theorem d0_45 : Dc code 45 (.dup) 1 46 := ⟨at_45, rfl⟩
theorem d0_46 : Dc code 46 (.bipush 6) 2 48 := ⟨at_46, rfl⟩
theorem d0_48 : Dc code 48 (.bipush 109) 2 50 := ⟨at_48, rfl⟩
theorem d0_50 : Dc code 50 (.castore) 1 51 := ⟨at_50, rfl⟩
theorem d0_51 : Dc code 51 (.astore_n 2) 1 52 := ⟨at_51, rfl⟩
theorem d0_52 : Dc code 52 (.getstatic 8) 3 55 := ⟨at_52, rfl⟩
theorem w_2 {a0 : Array Value} {Z : State} (H : Wd a0 Z) : (Jvm.Cond.fieldLink "com/example/handpick/handpick/ObjectiveParsePinLaw" (8 : Nat) "com/example/handpick/handpick/Objective" "MAX_SUM" "Lcom/example/handpick/handpick/Objective;").before a0 Z = true := H _ (List.mem_of_getElem? (i := 2) rfl)
theorem d0_55 : Dc code 55 (.astore_n 3) 1 56 := ⟨at_55, rfl⟩
theorem d0_56 : Db code 56 (.goto 84) 84 59 140 := ⟨at_56, rfl, rfl⟩
set_option maxRecDepth 65536 in
set_option maxHeartbeats 40000000 in
theorem rm0 {l : Launch} {Z : State} {a0 : Array Value} {n0 : Nat} (H : Wd a0 Z) (p0 : Int32) (h0 : Heap) (Z0 : n0 ≤ h0.size) {av o0 o1 o2 s0 s1 s2 v0 v1 v2 : Addr} {cz : Int32} (SV : Sta Z h0 "com/example/handpick/handpick/Objective" "$VALUES" "[Lcom/example/handpick/handpick/Objective;" (.ref av)) (AV0 : AV Z h0 av (.object "com/example/handpick/handpick/Objective") [(.ref o0), (.ref o1), (.ref o2)]) (EV : Exa Z h0 av "[Lcom/example/handpick/handpick/Objective;") (EO0 : Exa Z h0 o0 "com/example/handpick/handpick/Objective") (FO0 : Fld Z h0 o0 "com/example/handpick/handpick/Objective" "name" "Ljava/lang/String;" (.ref s0)) (E_s0 : Exa Z h0 s0 "java/lang/String") (F0_s0 : Fld Z h0 s0 "java/lang/String" "value" "[B" (.ref v0)) (F1_s0 : Fld Z h0 s0 "java/lang/String" "coder" "B" (.int (0 : Int32))) (A_v0 : AV Z h0 v0 .byte [(.int (109 : Int32)), (.int (97 : Int32)), (.int (120 : Int32)), (.int (45 : Int32)), (.int (115 : Int32)), (.int (117 : Int32)), (.int (109 : Int32))]) (EO1 : Exa Z h0 o1 "com/example/handpick/handpick/Objective") (FO1 : Fld Z h0 o1 "com/example/handpick/handpick/Objective" "name" "Ljava/lang/String;" (.ref s1)) (E_s1 : Exa Z h0 s1 "java/lang/String") (F0_s1 : Fld Z h0 s1 "java/lang/String" "value" "[B" (.ref v1)) (F1_s1 : Fld Z h0 s1 "java/lang/String" "coder" "B" (.int (0 : Int32))) (A_v1 : AV Z h0 v1 .byte [(.int (109 : Int32)), (.int (97 : Int32)), (.int (120 : Int32)), (.int (45 : Int32)), (.int (109 : Int32)), (.int (105 : Int32)), (.int (110 : Int32))]) (EO2 : Exa Z h0 o2 "com/example/handpick/handpick/Objective") (FO2 : Fld Z h0 o2 "com/example/handpick/handpick/Objective" "name" "Ljava/lang/String;" (.ref s2)) (E_s2 : Exa Z h0 s2 "java/lang/String") (F0_s2 : Fld Z h0 s2 "java/lang/String" "value" "[B" (.ref v2)) (F1_s2 : Fld Z h0 s2 "java/lang/String" "coder" "B" (.int (0 : Int32))) (A_v2 : AV Z h0 v2 .byte [(.int (109 : Int32)), (.int (111 : Int32)), (.int (110 : Int32)), (.int (111 : Int32))]) (SO0 : Sta Z h0 "com/example/handpick/handpick/Objective" "MAX_SUM" "Lcom/example/handpick/handpick/Objective;" (.ref o0)) (SO1 : Sta Z h0 "com/example/handpick/handpick/Objective" "MAX_MIN" "Lcom/example/handpick/handpick/Objective;" (.ref o1)) (SO2 : Sta Z h0 "com/example/handpick/handpick/Objective" "MONO" "Lcom/example/handpick/handpick/Objective;" (.ref o2)) (SC : Sta Z h0 "java/lang/String" "COMPACT_STRINGS" "Z" (.int cz)) (hz : ¬ cz = 0) :
    Ct l Z n0 x code maxLocals ret tables_1 room_1 #[(.int p0)] h0 (fun v h => v = some (.int 1)) := by
  refine Ct.of (a0 := a0) (L0 := #[.val (.int p0), .unset, .unset, .unset, .unset, .unset]) (plainFor_of_name pn_com_example_handpick_handpick_ObjectiveParsePinLaw) (fun m => by first | (simp [entryFrame, mkF, argsToLocals, Value.category, maxLocals]; done) | rfl) ?_
  intro κ B0
  have B : Ok κ l Z a0 n0 room_1 "com/example/handpick/handpick/ObjectiveParsePinLaw" "law" code maxLocals ret := B0
  refine go_iload_n B d0_0 rfl ?_
  refine go_ldcI B d0_1 (w_0 H) ?_
  refine go_iand B d0_3 ?_
  refine go_iconst B (x := (3 : Int32)) d0_4 rfl ?_
  refine go_irem B d0_5 (by decide) ?_
  refine go_istore_n B #[.val (.int p0), .val (.int ((p0 &&& (2147483647 : Int32)) % (3 : Int32))), .unset, .unset, .unset, .unset] d0_6 rfl ?_
  refine go_iload_n B d0_7 rfl ?_
  refine go_ifne B d0_8 (fun c8 => ?_) (fun c8 => ?_)
  · skip
    refine go_iload_n B d0_59 rfl ?_
    refine go_iconst B (x := (1 : Int32)) d0_60 rfl ?_
    refine go_icmpne B d0_61 (fun c61 => ?_) (fun c61 => ?_)
    · skip
      refine go_iconst B (x := (4 : Int32)) d0_112 rfl ?_
      refine go_newarray B (i := 4) (cap := 4) d0_113 (w_1 H) rfl (Nat.le_refl _) (by decide) (by decide) (by decide) ?_
      intro h281 a282 hba282 Ea282 Aa282 Ca282
      have ne_a282_av : a282 ≠ av := Nat.ne_of_gt (Nat.lt_of_lt_of_le (AV0).lt (by omega))
      have ne_a282_o0 : a282 ≠ o0 := Nat.ne_of_gt (Nat.lt_of_lt_of_le (EO0).lt (by omega))
      have ne_a282_s0 : a282 ≠ s0 := Nat.ne_of_gt (Nat.lt_of_lt_of_le (E_s0).lt (by omega))
      have ne_a282_v0 : a282 ≠ v0 := Nat.ne_of_gt (Nat.lt_of_lt_of_le (A_v0).lt (by omega))
      have ne_a282_o1 : a282 ≠ o1 := Nat.ne_of_gt (Nat.lt_of_lt_of_le (EO1).lt (by omega))
      have ne_a282_s1 : a282 ≠ s1 := Nat.ne_of_gt (Nat.lt_of_lt_of_le (E_s1).lt (by omega))
      have ne_a282_v1 : a282 ≠ v1 := Nat.ne_of_gt (Nat.lt_of_lt_of_le (A_v1).lt (by omega))
      have ne_a282_o2 : a282 ≠ o2 := Nat.ne_of_gt (Nat.lt_of_lt_of_le (EO2).lt (by omega))
      have ne_a282_s2 : a282 ≠ s2 := Nat.ne_of_gt (Nat.lt_of_lt_of_le (E_s2).lt (by omega))
      have ne_a282_v2 : a282 ≠ v2 := Nat.ne_of_gt (Nat.lt_of_lt_of_le (A_v2).lt (by omega))
      have ge_a282 : n0 ≤ a282 := by have q1 := Z0; omega
      have Ba282 : AV Z h281 a282 .char [(.int (0 : Int32)), (.int (0 : Int32)), (.int (0 : Int32)), (.int (0 : Int32))] := Aa282
      refine go_dup B d0_115 rfl ?_
      refine go_iconst B (x := (0 : Int32)) d0_116 rfl ?_
      refine go_bipush B (x := (109 : Int32)) d0_117 (by decide) ?_
      refine go_castore B (i := 0) d0_119 Ba282 rfl (show 0 < 4 from by decide) ge_a282 ?_
      intro h283 W284 A285
      have A286 : AV Z h283 a282 .char [(.int (109 : Int32)), (.int (0 : Int32)), (.int (0 : Int32)), (.int (0 : Int32))] := (by have q := A285; rw [show nar .char (109 : Int32) = (109 : Int32) from by decide] at q; exact q)
      refine go_dup B d0_120 rfl ?_
      refine go_iconst B (x := (1 : Int32)) d0_121 rfl ?_
      refine go_bipush B (x := (111 : Int32)) d0_122 (by decide) ?_
      refine go_castore B (i := 1) d0_124 A286 rfl (show 1 < 4 from by decide) ge_a282 ?_
      intro h287 W288 A289
      have A290 : AV Z h287 a282 .char [(.int (109 : Int32)), (.int (111 : Int32)), (.int (0 : Int32)), (.int (0 : Int32))] := (by have q := A289; rw [show nar .char (111 : Int32) = (111 : Int32) from by decide] at q; exact q)
      refine go_dup B d0_125 rfl ?_
      refine go_iconst B (x := (2 : Int32)) d0_126 rfl ?_
      refine go_bipush B (x := (110 : Int32)) d0_127 (by decide) ?_
      refine go_castore B (i := 2) d0_129 A290 rfl (show 2 < 4 from by decide) ge_a282 ?_
      intro h291 W292 A293
      have A294 : AV Z h291 a282 .char [(.int (109 : Int32)), (.int (111 : Int32)), (.int (110 : Int32)), (.int (0 : Int32))] := (by have q := A293; rw [show nar .char (110 : Int32) = (110 : Int32) from by decide] at q; exact q)
      refine go_dup B d0_130 rfl ?_
      refine go_iconst B (x := (3 : Int32)) d0_131 rfl ?_
      refine go_bipush B (x := (111 : Int32)) d0_132 (by decide) ?_
      refine go_castore B (i := 3) d0_134 A294 rfl (show 3 < 4 from by decide) ge_a282 ?_
      intro h295 W296 A297
      have A298 : AV Z h295 a282 .char [(.int (109 : Int32)), (.int (111 : Int32)), (.int (110 : Int32)), (.int (111 : Int32))] := (by have q := A297; rw [show nar .char (111 : Int32) = (111 : Int32) from by decide] at q; exact q)
      refine go_astore_n B #[.val (.int p0), .val (.int ((p0 &&& (2147483647 : Int32)) % (3 : Int32))), .val (.ref a282), .unset, .unset, .unset] d0_135 rfl rfl ?_
      have f299 : Sta Z h295 "com/example/handpick/handpick/Objective" "MONO" "Lcom/example/handpick/handpick/Objective;" (.ref o2) := (Sta.wr W296 (Sta.wr W292 (Sta.wr W288 (Sta.wr W284 (Sta.ext Ea282 SO2)))))
      refine go_getstatic B d0_136 (w_72 H) f299 ?_
      refine go_astore_n B #[.val (.int p0), .val (.int ((p0 &&& (2147483647 : Int32)) % (3 : Int32))), .val (.ref a282), .val (.ref o2), .unset, .unset] d0_139 rfl rfl ?_
      refine go_new B d0_140 (w_5 H) (w_6 H) (w_7 H) (by decide) (by decide) ?_
      intro h300 a301 hba301 Ea301 Aa301 Da301
      have f302 : AV Z h295 av (.object "com/example/handpick/handpick/Objective") [(.ref o0), (.ref o1), (.ref o2)] := (AV.other (AV.other (AV.other (AV.other (AV.ext AV0 Ea282) W284 (Ne.symm ne_a282_av)) W288 (Ne.symm ne_a282_av)) W292 (Ne.symm ne_a282_av)) W296 (Ne.symm ne_a282_av))
      have ne_a301_av : a301 ≠ av := Nat.ne_of_gt (Nat.lt_of_lt_of_le (f302).lt (by omega))
      have f303 : Exa Z h295 o0 "com/example/handpick/handpick/Objective" := (Exa.wr W296 (Exa.wr W292 (Exa.wr W288 (Exa.wr W284 (Exa.ext Ea282 EO0)))))
      have ne_a301_o0 : a301 ≠ o0 := Nat.ne_of_gt (Nat.lt_of_lt_of_le (f303).lt (by omega))
      have f304 : Exa Z h295 s0 "java/lang/String" := (Exa.wr W296 (Exa.wr W292 (Exa.wr W288 (Exa.wr W284 (Exa.ext Ea282 E_s0)))))
      have ne_a301_s0 : a301 ≠ s0 := Nat.ne_of_gt (Nat.lt_of_lt_of_le (f304).lt (by omega))
      have f305 : AV Z h295 v0 .byte [(.int (109 : Int32)), (.int (97 : Int32)), (.int (120 : Int32)), (.int (45 : Int32)), (.int (115 : Int32)), (.int (117 : Int32)), (.int (109 : Int32))] := (AV.other (AV.other (AV.other (AV.other (AV.ext A_v0 Ea282) W284 (Ne.symm ne_a282_v0)) W288 (Ne.symm ne_a282_v0)) W292 (Ne.symm ne_a282_v0)) W296 (Ne.symm ne_a282_v0))
      have ne_a301_v0 : a301 ≠ v0 := Nat.ne_of_gt (Nat.lt_of_lt_of_le (f305).lt (by omega))
      have f306 : Exa Z h295 o1 "com/example/handpick/handpick/Objective" := (Exa.wr W296 (Exa.wr W292 (Exa.wr W288 (Exa.wr W284 (Exa.ext Ea282 EO1)))))
      have ne_a301_o1 : a301 ≠ o1 := Nat.ne_of_gt (Nat.lt_of_lt_of_le (f306).lt (by omega))
      have f307 : Exa Z h295 s1 "java/lang/String" := (Exa.wr W296 (Exa.wr W292 (Exa.wr W288 (Exa.wr W284 (Exa.ext Ea282 E_s1)))))
      have ne_a301_s1 : a301 ≠ s1 := Nat.ne_of_gt (Nat.lt_of_lt_of_le (f307).lt (by omega))
      have f308 : AV Z h295 v1 .byte [(.int (109 : Int32)), (.int (97 : Int32)), (.int (120 : Int32)), (.int (45 : Int32)), (.int (109 : Int32)), (.int (105 : Int32)), (.int (110 : Int32))] := (AV.other (AV.other (AV.other (AV.other (AV.ext A_v1 Ea282) W284 (Ne.symm ne_a282_v1)) W288 (Ne.symm ne_a282_v1)) W292 (Ne.symm ne_a282_v1)) W296 (Ne.symm ne_a282_v1))
      have ne_a301_v1 : a301 ≠ v1 := Nat.ne_of_gt (Nat.lt_of_lt_of_le (f308).lt (by omega))
      have f309 : Exa Z h295 o2 "com/example/handpick/handpick/Objective" := (Exa.wr W296 (Exa.wr W292 (Exa.wr W288 (Exa.wr W284 (Exa.ext Ea282 EO2)))))
      have ne_a301_o2 : a301 ≠ o2 := Nat.ne_of_gt (Nat.lt_of_lt_of_le (f309).lt (by omega))
      have f310 : Exa Z h295 s2 "java/lang/String" := (Exa.wr W296 (Exa.wr W292 (Exa.wr W288 (Exa.wr W284 (Exa.ext Ea282 E_s2)))))
      have ne_a301_s2 : a301 ≠ s2 := Nat.ne_of_gt (Nat.lt_of_lt_of_le (f310).lt (by omega))
      have f311 : AV Z h295 v2 .byte [(.int (109 : Int32)), (.int (111 : Int32)), (.int (110 : Int32)), (.int (111 : Int32))] := (AV.other (AV.other (AV.other (AV.other (AV.ext A_v2 Ea282) W284 (Ne.symm ne_a282_v2)) W288 (Ne.symm ne_a282_v2)) W292 (Ne.symm ne_a282_v2)) W296 (Ne.symm ne_a282_v2))
      have ne_a301_v2 : a301 ≠ v2 := Nat.ne_of_gt (Nat.lt_of_lt_of_le (f311).lt (by omega))
      have f312 : Exa Z h295 a282 "[C" := (Exa.wr W296 (Exa.wr W292 (Exa.wr W288 (Exa.wr W284 Ca282))))
      have ne_a301_a282 : a301 ≠ a282 := Nat.ne_of_gt (Nat.lt_of_lt_of_le (f312).lt (by omega))
      have f313 : n0 ≤ h295.size := (Nat.le_trans (Nat.le_trans (Nat.le_trans (Nat.le_trans (Nat.le_trans Z0 Ea282.1) (Nat.le_of_eq (Wr.size W284).symm)) (Nat.le_of_eq (Wr.size W288).symm)) (Nat.le_of_eq (Wr.size W292).symm)) (Nat.le_of_eq (Wr.size W296).symm))
      have ge_a301 : n0 ≤ a301 := by have q1 := f313; omega
      refine go_dup B d0_143 rfl ?_
      refine go_aload_n B d0_144 rfl rfl ?_
      have f321 : Sta Z h300 "java/lang/String" "COMPACT_STRINGS" "Z" (.int cz) := (Sta.ext Ea301 (Sta.wr W296 (Sta.wr W292 (Sta.wr W288 (Sta.wr W284 (Sta.ext Ea282 SC))))))
      refine go_special B (W := 1) (a := a301) (argsL := [(.ref a282)]) (st := [(.ref a301)]) d0_145 rfl (w_8 H) (w_9 H) (w_7 H) (w_10 H) (by decide) (rmT2 H a301 a282 cz h300 (Nat.le_trans f313 Ea301.1) Aa301 (Da301 (Or.inr (w_33 H)) (ty := (.array .byte)) (by decide)) (Da301 (Or.inr (w_31 H)) (ty := .byte) (by decide)) (AV.ext A298 Ea301) ge_a301 (Ne.symm ne_a301_a282) f321 hz) pd_7 rfl rfl rfl rfl (by decide) (by decide) (by decide) (by decide) ?_
      rintro _ h322 ⟨b314, rfl, g315, K316, E318, f319, f320, A317⟩
      have ne_b314_av : b314 ≠ av := Nat.ne_of_gt (Nat.lt_of_lt_of_le ((AV.ext f302 Ea301)).lt (by omega))
      have ne_b314_o0 : b314 ≠ o0 := Nat.ne_of_gt (Nat.lt_of_lt_of_le ((Exa.ext Ea301 f303)).lt (by omega))
      have ne_b314_s0 : b314 ≠ s0 := Nat.ne_of_gt (Nat.lt_of_lt_of_le ((Exa.ext Ea301 f304)).lt (by omega))
      have ne_b314_v0 : b314 ≠ v0 := Nat.ne_of_gt (Nat.lt_of_lt_of_le ((AV.ext f305 Ea301)).lt (by omega))
      have ne_b314_o1 : b314 ≠ o1 := Nat.ne_of_gt (Nat.lt_of_lt_of_le ((Exa.ext Ea301 f306)).lt (by omega))
      have ne_b314_s1 : b314 ≠ s1 := Nat.ne_of_gt (Nat.lt_of_lt_of_le ((Exa.ext Ea301 f307)).lt (by omega))
      have ne_b314_v1 : b314 ≠ v1 := Nat.ne_of_gt (Nat.lt_of_lt_of_le ((AV.ext f308 Ea301)).lt (by omega))
      have ne_b314_o2 : b314 ≠ o2 := Nat.ne_of_gt (Nat.lt_of_lt_of_le ((Exa.ext Ea301 f309)).lt (by omega))
      have ne_b314_s2 : b314 ≠ s2 := Nat.ne_of_gt (Nat.lt_of_lt_of_le ((Exa.ext Ea301 f310)).lt (by omega))
      have ne_b314_v2 : b314 ≠ v2 := Nat.ne_of_gt (Nat.lt_of_lt_of_le ((AV.ext f311 Ea301)).lt (by omega))
      have ne_b314_a282 : b314 ≠ a282 := Nat.ne_of_gt (Nat.lt_of_lt_of_le ((Exa.ext Ea301 f312)).lt (by omega))
      have ne_b314_a301 : b314 ≠ a301 := Nat.ne_of_gt (Nat.lt_of_lt_of_le (Aa301).lt (by omega))
      have ge_b314 : n0 ≤ b314 := by have q1 := (Nat.le_trans f313 Ea301.1); omega
      show Go κ _ h322 _ _ 148 #[.val (.int p0), .val (.int ((p0 &&& (2147483647 : Int32)) % (3 : Int32))), .val (.ref a282), .val (.ref o2), .unset, .unset] [(.ref a301)]
      refine go_astore B #[.val (.int p0), .val (.int ((p0 &&& (2147483647 : Int32)) % (3 : Int32))), .val (.ref a282), .val (.ref o2), .val (.ref a301), .unset] d0_148 rfl rfl ?_
      refine go_aload B d0_150 rfl rfl ?_
      have f324 : Sta Z h322 "com/example/handpick/handpick/Objective" "$VALUES" "[Lcom/example/handpick/handpick/Objective;" (.ref av) := (sta_keep (Sta.ext Ea301 (Sta.wr W296 (Sta.wr W292 (Sta.wr W288 (Sta.wr W284 (Sta.ext Ea282 SV)))))) K316 (allS (nst_exa Aa301) all0))
      have f325 : AV Z h322 av (.object "com/example/handpick/handpick/Objective") [(.ref o0), (.ref o1), (.ref o2)] := (AV.keep (AV.ext f302 Ea301) K316 (ninS (Ne.symm ne_a301_av) nin0))
      have f326 : Exa Z h322 av "[Lcom/example/handpick/handpick/Objective;" := (Exa.keep (Exa.ext Ea301 (Exa.wr W296 (Exa.wr W292 (Exa.wr W288 (Exa.wr W284 (Exa.ext Ea282 EV)))))) K316)
      have f327 : Fld Z h322 o0 "com/example/handpick/handpick/Objective" "name" "Ljava/lang/String;" (.ref s0) := (Fld.keep (Fld.ext Ea301 (Fld.other W296 (Fld.other W292 (Fld.other W288 (Fld.other W284 (Fld.ext Ea282 FO0) (Or.inl (Ne.symm ne_a282_o0))) (Or.inl (Ne.symm ne_a282_o0))) (Or.inl (Ne.symm ne_a282_o0))) (Or.inl (Ne.symm ne_a282_o0)))) K316 (ninS (Ne.symm ne_a301_o0) nin0))
      have f328 : Fld Z h322 s0 "java/lang/String" "value" "[B" (.ref v0) := (Fld.keep (Fld.ext Ea301 (Fld.other W296 (Fld.other W292 (Fld.other W288 (Fld.other W284 (Fld.ext Ea282 F0_s0) (Or.inl (Ne.symm ne_a282_s0))) (Or.inl (Ne.symm ne_a282_s0))) (Or.inl (Ne.symm ne_a282_s0))) (Or.inl (Ne.symm ne_a282_s0)))) K316 (ninS (Ne.symm ne_a301_s0) nin0))
      have f329 : Fld Z h322 s0 "java/lang/String" "coder" "B" (.int (0 : Int32)) := (Fld.keep (Fld.ext Ea301 (Fld.other W296 (Fld.other W292 (Fld.other W288 (Fld.other W284 (Fld.ext Ea282 F1_s0) (Or.inl (Ne.symm ne_a282_s0))) (Or.inl (Ne.symm ne_a282_s0))) (Or.inl (Ne.symm ne_a282_s0))) (Or.inl (Ne.symm ne_a282_s0)))) K316 (ninS (Ne.symm ne_a301_s0) nin0))
      have f330 : AV Z h322 v0 .byte [(.int (109 : Int32)), (.int (97 : Int32)), (.int (120 : Int32)), (.int (45 : Int32)), (.int (115 : Int32)), (.int (117 : Int32)), (.int (109 : Int32))] := (AV.keep (AV.ext f305 Ea301) K316 (ninS (Ne.symm ne_a301_v0) nin0))
      have f331 : Fld Z h322 o1 "com/example/handpick/handpick/Objective" "name" "Ljava/lang/String;" (.ref s1) := (Fld.keep (Fld.ext Ea301 (Fld.other W296 (Fld.other W292 (Fld.other W288 (Fld.other W284 (Fld.ext Ea282 FO1) (Or.inl (Ne.symm ne_a282_o1))) (Or.inl (Ne.symm ne_a282_o1))) (Or.inl (Ne.symm ne_a282_o1))) (Or.inl (Ne.symm ne_a282_o1)))) K316 (ninS (Ne.symm ne_a301_o1) nin0))
      have f332 : Fld Z h322 s1 "java/lang/String" "value" "[B" (.ref v1) := (Fld.keep (Fld.ext Ea301 (Fld.other W296 (Fld.other W292 (Fld.other W288 (Fld.other W284 (Fld.ext Ea282 F0_s1) (Or.inl (Ne.symm ne_a282_s1))) (Or.inl (Ne.symm ne_a282_s1))) (Or.inl (Ne.symm ne_a282_s1))) (Or.inl (Ne.symm ne_a282_s1)))) K316 (ninS (Ne.symm ne_a301_s1) nin0))
      have f333 : Fld Z h322 s1 "java/lang/String" "coder" "B" (.int (0 : Int32)) := (Fld.keep (Fld.ext Ea301 (Fld.other W296 (Fld.other W292 (Fld.other W288 (Fld.other W284 (Fld.ext Ea282 F1_s1) (Or.inl (Ne.symm ne_a282_s1))) (Or.inl (Ne.symm ne_a282_s1))) (Or.inl (Ne.symm ne_a282_s1))) (Or.inl (Ne.symm ne_a282_s1)))) K316 (ninS (Ne.symm ne_a301_s1) nin0))
      have f334 : AV Z h322 v1 .byte [(.int (109 : Int32)), (.int (97 : Int32)), (.int (120 : Int32)), (.int (45 : Int32)), (.int (109 : Int32)), (.int (105 : Int32)), (.int (110 : Int32))] := (AV.keep (AV.ext f308 Ea301) K316 (ninS (Ne.symm ne_a301_v1) nin0))
      have f335 : Fld Z h322 o2 "com/example/handpick/handpick/Objective" "name" "Ljava/lang/String;" (.ref s2) := (Fld.keep (Fld.ext Ea301 (Fld.other W296 (Fld.other W292 (Fld.other W288 (Fld.other W284 (Fld.ext Ea282 FO2) (Or.inl (Ne.symm ne_a282_o2))) (Or.inl (Ne.symm ne_a282_o2))) (Or.inl (Ne.symm ne_a282_o2))) (Or.inl (Ne.symm ne_a282_o2)))) K316 (ninS (Ne.symm ne_a301_o2) nin0))
      have f336 : Fld Z h322 s2 "java/lang/String" "value" "[B" (.ref v2) := (Fld.keep (Fld.ext Ea301 (Fld.other W296 (Fld.other W292 (Fld.other W288 (Fld.other W284 (Fld.ext Ea282 F0_s2) (Or.inl (Ne.symm ne_a282_s2))) (Or.inl (Ne.symm ne_a282_s2))) (Or.inl (Ne.symm ne_a282_s2))) (Or.inl (Ne.symm ne_a282_s2)))) K316 (ninS (Ne.symm ne_a301_s2) nin0))
      have f337 : Fld Z h322 s2 "java/lang/String" "coder" "B" (.int (0 : Int32)) := (Fld.keep (Fld.ext Ea301 (Fld.other W296 (Fld.other W292 (Fld.other W288 (Fld.other W284 (Fld.ext Ea282 F1_s2) (Or.inl (Ne.symm ne_a282_s2))) (Or.inl (Ne.symm ne_a282_s2))) (Or.inl (Ne.symm ne_a282_s2))) (Or.inl (Ne.symm ne_a282_s2)))) K316 (ninS (Ne.symm ne_a301_s2) nin0))
      have f338 : AV Z h322 v2 .byte [(.int (109 : Int32)), (.int (111 : Int32)), (.int (110 : Int32)), (.int (111 : Int32))] := (AV.keep (AV.ext f311 Ea301) K316 (ninS (Ne.symm ne_a301_v2) nin0))
      refine go_static B (W := 0) (argsL := [(.ref a301)]) (st := []) d0_152 (w_34 H) (w_35 H) (w_3 H) (w_36 H) (by decide) (rmP2 H av o0 o1 o2 s0 s1 s2 v0 v1 v2 a301 b314 cz h322 (Nat.le_trans (Nat.le_trans f313 Ea301.1) K316.1) f324 f325 f326 (Exa.keep (Exa.ext Ea301 f303) K316) f327 (Exa.keep (Exa.ext Ea301 f304) K316) f328 f329 f330 (Exa.keep (Exa.ext Ea301 f306) K316) f331 (Exa.keep (Exa.ext Ea301 f307) K316) f332 f333 f334 (Exa.keep (Exa.ext Ea301 f309) K316) f335 (Exa.keep (Exa.ext Ea301 f310) K316) f336 f337 f338 E318 f319 f320 A317 (Ne.symm ne_a301_s0) (Ne.symm ne_a301_s1) (Ne.symm ne_a301_s2) (sta_keep f321 K316 (allS (nst_exa Aa301) all0)) hz) pd_8 rfl rfl rfl rfl (by decide) (by decide) (by decide) (by decide) ?_
      rintro _ h339 ⟨rfl, E323⟩
      show Go κ _ h339 _ _ 155 #[.val (.int p0), .val (.int ((p0 &&& (2147483647 : Int32)) % (3 : Int32))), .val (.ref a282), .val (.ref o2), .val (.ref a301), .unset] [(.ref o2)]
      refine go_astore B #[.val (.int p0), .val (.int ((p0 &&& (2147483647 : Int32)) % (3 : Int32))), .val (.ref a282), .val (.ref o2), .val (.ref a301), .val (.ref o2)] d0_155 rfl rfl ?_
      refine go_aload B d0_157 rfl rfl ?_
      refine go_aload_n B d0_159 rfl rfl ?_
      refine go_acmpne B d0_160 rfl rfl (fun c160 => ?_) (fun c160 => ?_)
      · exact absurd rfl c160
      refine go_aload B d0_163 rfl rfl ?_
      have f340 : n0 ≤ h339.size := (Nat.le_trans (Nat.le_trans (Nat.le_trans f313 Ea301.1) K316.1) E323.1)
      refine go_virtual B (W := 0) (a := o2) (argsL := []) (st := []) d0_165 (w_66 H) (w_67 H) (w_69 H) (w_68 H) (w_3 H) (w_70 H) (by decide) (Exa.ext E323 (Exa.keep (Exa.ext Ea301 f309) K316)) (rmO H o2 s2 h339 f340 (Fld.ext E323 f335)) pd_9 rfl rfl rfl rfl (by decide) (by decide) (by decide) (by decide) ?_
      rintro _ h341 ⟨rfl, rfl⟩
      show Go κ _ h339 _ _ 168 #[.val (.int p0), .val (.int ((p0 &&& (2147483647 : Int32)) % (3 : Int32))), .val (.ref a282), .val (.ref o2), .val (.ref a301), .val (.ref o2)] [(.ref s2)]
      refine go_aload B d0_168 rfl rfl ?_
      have f342 : Sta Z h339 "java/lang/String" "COMPACT_STRINGS" "Z" (.int cz) := (Sta.ext E323 (sta_keep f321 K316 (allS (nst_exa Aa301) all0)))
      refine go_virtual B (W := 0) (a := s2) (argsL := [(.ref a301)]) (st := []) d0_170 (w_71 H) (w_57 H) (w_59 H) (w_58 H) (w_7 H) (w_60 H) (by decide) (Exa.ext E323 (Exa.keep (Exa.ext Ea301 f310) K316)) (rmE22 H s2 v2 a301 b314 cz h339 f340 (Exa.ext E323 (Exa.keep (Exa.ext Ea301 f310) K316)) (Fld.ext E323 f336) (Fld.ext E323 f337) (Exa.ext E323 E318) (Fld.ext E323 f319) (Fld.ext E323 f320) (AV.ext f338 E323) (AV.ext A317 E323) (Ne.symm ne_a301_s2) f342 hz) pd_6 rfl rfl rfl rfl (by decide) (by decide) (by decide) (by decide) ?_
      rintro _ h343 ⟨rfl, rfl⟩
      show Go κ _ h339 _ _ 173 #[.val (.int p0), .val (.int ((p0 &&& (2147483647 : Int32)) % (3 : Int32))), .val (.ref a282), .val (.ref o2), .val (.ref a301), .val (.ref o2)] [(.int (1 : Int32))]
      refine go_ifeq B d0_173 (fun c173 => ?_) (fun c173 => ?_)
      · exact absurd c173 (by decide)
      refine go_iconst B (x := (1 : Int32)) d0_176 rfl ?_
      refine go_goto B d0_177 ?_
      refine go_zreturn B (y := (1 : Int32)) d0_181 (by decide) (by decide) (by decide) ?_
      exact rfl
    · skip
      refine go_bipush B (x := (7 : Int32)) d0_64 (by decide) ?_
      refine go_newarray B (i := 7) (cap := 7) d0_66 (w_1 H) rfl (Nat.le_refl _) (by decide) (by decide) (by decide) ?_
      intro h344 a345 hba345 Ea345 Aa345 Ca345
      have ne_a345_av : a345 ≠ av := Nat.ne_of_gt (Nat.lt_of_lt_of_le (AV0).lt (by omega))
      have ne_a345_o0 : a345 ≠ o0 := Nat.ne_of_gt (Nat.lt_of_lt_of_le (EO0).lt (by omega))
      have ne_a345_s0 : a345 ≠ s0 := Nat.ne_of_gt (Nat.lt_of_lt_of_le (E_s0).lt (by omega))
      have ne_a345_v0 : a345 ≠ v0 := Nat.ne_of_gt (Nat.lt_of_lt_of_le (A_v0).lt (by omega))
      have ne_a345_o1 : a345 ≠ o1 := Nat.ne_of_gt (Nat.lt_of_lt_of_le (EO1).lt (by omega))
      have ne_a345_s1 : a345 ≠ s1 := Nat.ne_of_gt (Nat.lt_of_lt_of_le (E_s1).lt (by omega))
      have ne_a345_v1 : a345 ≠ v1 := Nat.ne_of_gt (Nat.lt_of_lt_of_le (A_v1).lt (by omega))
      have ne_a345_o2 : a345 ≠ o2 := Nat.ne_of_gt (Nat.lt_of_lt_of_le (EO2).lt (by omega))
      have ne_a345_s2 : a345 ≠ s2 := Nat.ne_of_gt (Nat.lt_of_lt_of_le (E_s2).lt (by omega))
      have ne_a345_v2 : a345 ≠ v2 := Nat.ne_of_gt (Nat.lt_of_lt_of_le (A_v2).lt (by omega))
      have ge_a345 : n0 ≤ a345 := by have q1 := Z0; omega
      have Ba345 : AV Z h344 a345 .char [(.int (0 : Int32)), (.int (0 : Int32)), (.int (0 : Int32)), (.int (0 : Int32)), (.int (0 : Int32)), (.int (0 : Int32)), (.int (0 : Int32))] := Aa345
      refine go_dup B d0_68 rfl ?_
      refine go_iconst B (x := (0 : Int32)) d0_69 rfl ?_
      refine go_bipush B (x := (109 : Int32)) d0_70 (by decide) ?_
      refine go_castore B (i := 0) d0_72 Ba345 rfl (show 0 < 7 from by decide) ge_a345 ?_
      intro h346 W347 A348
      have A349 : AV Z h346 a345 .char [(.int (109 : Int32)), (.int (0 : Int32)), (.int (0 : Int32)), (.int (0 : Int32)), (.int (0 : Int32)), (.int (0 : Int32)), (.int (0 : Int32))] := (by have q := A348; rw [show nar .char (109 : Int32) = (109 : Int32) from by decide] at q; exact q)
      refine go_dup B d0_73 rfl ?_
      refine go_iconst B (x := (1 : Int32)) d0_74 rfl ?_
      refine go_bipush B (x := (97 : Int32)) d0_75 (by decide) ?_
      refine go_castore B (i := 1) d0_77 A349 rfl (show 1 < 7 from by decide) ge_a345 ?_
      intro h350 W351 A352
      have A353 : AV Z h350 a345 .char [(.int (109 : Int32)), (.int (97 : Int32)), (.int (0 : Int32)), (.int (0 : Int32)), (.int (0 : Int32)), (.int (0 : Int32)), (.int (0 : Int32))] := (by have q := A352; rw [show nar .char (97 : Int32) = (97 : Int32) from by decide] at q; exact q)
      refine go_dup B d0_78 rfl ?_
      refine go_iconst B (x := (2 : Int32)) d0_79 rfl ?_
      refine go_bipush B (x := (120 : Int32)) d0_80 (by decide) ?_
      refine go_castore B (i := 2) d0_82 A353 rfl (show 2 < 7 from by decide) ge_a345 ?_
      intro h354 W355 A356
      have A357 : AV Z h354 a345 .char [(.int (109 : Int32)), (.int (97 : Int32)), (.int (120 : Int32)), (.int (0 : Int32)), (.int (0 : Int32)), (.int (0 : Int32)), (.int (0 : Int32))] := (by have q := A356; rw [show nar .char (120 : Int32) = (120 : Int32) from by decide] at q; exact q)
      refine go_dup B d0_83 rfl ?_
      refine go_iconst B (x := (3 : Int32)) d0_84 rfl ?_
      refine go_bipush B (x := (45 : Int32)) d0_85 (by decide) ?_
      refine go_castore B (i := 3) d0_87 A357 rfl (show 3 < 7 from by decide) ge_a345 ?_
      intro h358 W359 A360
      have A361 : AV Z h358 a345 .char [(.int (109 : Int32)), (.int (97 : Int32)), (.int (120 : Int32)), (.int (45 : Int32)), (.int (0 : Int32)), (.int (0 : Int32)), (.int (0 : Int32))] := (by have q := A360; rw [show nar .char (45 : Int32) = (45 : Int32) from by decide] at q; exact q)
      refine go_dup B d0_88 rfl ?_
      refine go_iconst B (x := (4 : Int32)) d0_89 rfl ?_
      refine go_bipush B (x := (109 : Int32)) d0_90 (by decide) ?_
      refine go_castore B (i := 4) d0_92 A361 rfl (show 4 < 7 from by decide) ge_a345 ?_
      intro h362 W363 A364
      have A365 : AV Z h362 a345 .char [(.int (109 : Int32)), (.int (97 : Int32)), (.int (120 : Int32)), (.int (45 : Int32)), (.int (109 : Int32)), (.int (0 : Int32)), (.int (0 : Int32))] := (by have q := A364; rw [show nar .char (109 : Int32) = (109 : Int32) from by decide] at q; exact q)
      refine go_dup B d0_93 rfl ?_
      refine go_iconst B (x := (5 : Int32)) d0_94 rfl ?_
      refine go_bipush B (x := (105 : Int32)) d0_95 (by decide) ?_
      refine go_castore B (i := 5) d0_97 A365 rfl (show 5 < 7 from by decide) ge_a345 ?_
      intro h366 W367 A368
      have A369 : AV Z h366 a345 .char [(.int (109 : Int32)), (.int (97 : Int32)), (.int (120 : Int32)), (.int (45 : Int32)), (.int (109 : Int32)), (.int (105 : Int32)), (.int (0 : Int32))] := (by have q := A368; rw [show nar .char (105 : Int32) = (105 : Int32) from by decide] at q; exact q)
      refine go_dup B d0_98 rfl ?_
      refine go_bipush B (x := (6 : Int32)) d0_99 (by decide) ?_
      refine go_bipush B (x := (110 : Int32)) d0_101 (by decide) ?_
      refine go_castore B (i := 6) d0_103 A369 rfl (show 6 < 7 from by decide) ge_a345 ?_
      intro h370 W371 A372
      have A373 : AV Z h370 a345 .char [(.int (109 : Int32)), (.int (97 : Int32)), (.int (120 : Int32)), (.int (45 : Int32)), (.int (109 : Int32)), (.int (105 : Int32)), (.int (110 : Int32))] := (by have q := A372; rw [show nar .char (110 : Int32) = (110 : Int32) from by decide] at q; exact q)
      refine go_astore_n B #[.val (.int p0), .val (.int ((p0 &&& (2147483647 : Int32)) % (3 : Int32))), .val (.ref a345), .unset, .unset, .unset] d0_104 rfl rfl ?_
      have f374 : Sta Z h370 "com/example/handpick/handpick/Objective" "MAX_MIN" "Lcom/example/handpick/handpick/Objective;" (.ref o1) := (Sta.wr W371 (Sta.wr W367 (Sta.wr W363 (Sta.wr W359 (Sta.wr W355 (Sta.wr W351 (Sta.wr W347 (Sta.ext Ea345 SO1))))))))
      refine go_getstatic B d0_105 (w_73 H) f374 ?_
      refine go_astore_n B #[.val (.int p0), .val (.int ((p0 &&& (2147483647 : Int32)) % (3 : Int32))), .val (.ref a345), .val (.ref o1), .unset, .unset] d0_108 rfl rfl ?_
      refine go_goto B d0_109 ?_
      refine go_new B d0_140 (w_5 H) (w_6 H) (w_7 H) (by decide) (by decide) ?_
      intro h375 a376 hba376 Ea376 Aa376 Da376
      have f377 : AV Z h370 av (.object "com/example/handpick/handpick/Objective") [(.ref o0), (.ref o1), (.ref o2)] := (AV.other (AV.other (AV.other (AV.other (AV.other (AV.other (AV.other (AV.ext AV0 Ea345) W347 (Ne.symm ne_a345_av)) W351 (Ne.symm ne_a345_av)) W355 (Ne.symm ne_a345_av)) W359 (Ne.symm ne_a345_av)) W363 (Ne.symm ne_a345_av)) W367 (Ne.symm ne_a345_av)) W371 (Ne.symm ne_a345_av))
      have ne_a376_av : a376 ≠ av := Nat.ne_of_gt (Nat.lt_of_lt_of_le (f377).lt (by omega))
      have f378 : Exa Z h370 o0 "com/example/handpick/handpick/Objective" := (Exa.wr W371 (Exa.wr W367 (Exa.wr W363 (Exa.wr W359 (Exa.wr W355 (Exa.wr W351 (Exa.wr W347 (Exa.ext Ea345 EO0))))))))
      have ne_a376_o0 : a376 ≠ o0 := Nat.ne_of_gt (Nat.lt_of_lt_of_le (f378).lt (by omega))
      have f379 : Exa Z h370 s0 "java/lang/String" := (Exa.wr W371 (Exa.wr W367 (Exa.wr W363 (Exa.wr W359 (Exa.wr W355 (Exa.wr W351 (Exa.wr W347 (Exa.ext Ea345 E_s0))))))))
      have ne_a376_s0 : a376 ≠ s0 := Nat.ne_of_gt (Nat.lt_of_lt_of_le (f379).lt (by omega))
      have f380 : AV Z h370 v0 .byte [(.int (109 : Int32)), (.int (97 : Int32)), (.int (120 : Int32)), (.int (45 : Int32)), (.int (115 : Int32)), (.int (117 : Int32)), (.int (109 : Int32))] := (AV.other (AV.other (AV.other (AV.other (AV.other (AV.other (AV.other (AV.ext A_v0 Ea345) W347 (Ne.symm ne_a345_v0)) W351 (Ne.symm ne_a345_v0)) W355 (Ne.symm ne_a345_v0)) W359 (Ne.symm ne_a345_v0)) W363 (Ne.symm ne_a345_v0)) W367 (Ne.symm ne_a345_v0)) W371 (Ne.symm ne_a345_v0))
      have ne_a376_v0 : a376 ≠ v0 := Nat.ne_of_gt (Nat.lt_of_lt_of_le (f380).lt (by omega))
      have f381 : Exa Z h370 o1 "com/example/handpick/handpick/Objective" := (Exa.wr W371 (Exa.wr W367 (Exa.wr W363 (Exa.wr W359 (Exa.wr W355 (Exa.wr W351 (Exa.wr W347 (Exa.ext Ea345 EO1))))))))
      have ne_a376_o1 : a376 ≠ o1 := Nat.ne_of_gt (Nat.lt_of_lt_of_le (f381).lt (by omega))
      have f382 : Exa Z h370 s1 "java/lang/String" := (Exa.wr W371 (Exa.wr W367 (Exa.wr W363 (Exa.wr W359 (Exa.wr W355 (Exa.wr W351 (Exa.wr W347 (Exa.ext Ea345 E_s1))))))))
      have ne_a376_s1 : a376 ≠ s1 := Nat.ne_of_gt (Nat.lt_of_lt_of_le (f382).lt (by omega))
      have f383 : AV Z h370 v1 .byte [(.int (109 : Int32)), (.int (97 : Int32)), (.int (120 : Int32)), (.int (45 : Int32)), (.int (109 : Int32)), (.int (105 : Int32)), (.int (110 : Int32))] := (AV.other (AV.other (AV.other (AV.other (AV.other (AV.other (AV.other (AV.ext A_v1 Ea345) W347 (Ne.symm ne_a345_v1)) W351 (Ne.symm ne_a345_v1)) W355 (Ne.symm ne_a345_v1)) W359 (Ne.symm ne_a345_v1)) W363 (Ne.symm ne_a345_v1)) W367 (Ne.symm ne_a345_v1)) W371 (Ne.symm ne_a345_v1))
      have ne_a376_v1 : a376 ≠ v1 := Nat.ne_of_gt (Nat.lt_of_lt_of_le (f383).lt (by omega))
      have f384 : Exa Z h370 o2 "com/example/handpick/handpick/Objective" := (Exa.wr W371 (Exa.wr W367 (Exa.wr W363 (Exa.wr W359 (Exa.wr W355 (Exa.wr W351 (Exa.wr W347 (Exa.ext Ea345 EO2))))))))
      have ne_a376_o2 : a376 ≠ o2 := Nat.ne_of_gt (Nat.lt_of_lt_of_le (f384).lt (by omega))
      have f385 : Exa Z h370 s2 "java/lang/String" := (Exa.wr W371 (Exa.wr W367 (Exa.wr W363 (Exa.wr W359 (Exa.wr W355 (Exa.wr W351 (Exa.wr W347 (Exa.ext Ea345 E_s2))))))))
      have ne_a376_s2 : a376 ≠ s2 := Nat.ne_of_gt (Nat.lt_of_lt_of_le (f385).lt (by omega))
      have f386 : AV Z h370 v2 .byte [(.int (109 : Int32)), (.int (111 : Int32)), (.int (110 : Int32)), (.int (111 : Int32))] := (AV.other (AV.other (AV.other (AV.other (AV.other (AV.other (AV.other (AV.ext A_v2 Ea345) W347 (Ne.symm ne_a345_v2)) W351 (Ne.symm ne_a345_v2)) W355 (Ne.symm ne_a345_v2)) W359 (Ne.symm ne_a345_v2)) W363 (Ne.symm ne_a345_v2)) W367 (Ne.symm ne_a345_v2)) W371 (Ne.symm ne_a345_v2))
      have ne_a376_v2 : a376 ≠ v2 := Nat.ne_of_gt (Nat.lt_of_lt_of_le (f386).lt (by omega))
      have f387 : Exa Z h370 a345 "[C" := (Exa.wr W371 (Exa.wr W367 (Exa.wr W363 (Exa.wr W359 (Exa.wr W355 (Exa.wr W351 (Exa.wr W347 Ca345)))))))
      have ne_a376_a345 : a376 ≠ a345 := Nat.ne_of_gt (Nat.lt_of_lt_of_le (f387).lt (by omega))
      have f388 : n0 ≤ h370.size := (Nat.le_trans (Nat.le_trans (Nat.le_trans (Nat.le_trans (Nat.le_trans (Nat.le_trans (Nat.le_trans (Nat.le_trans Z0 Ea345.1) (Nat.le_of_eq (Wr.size W347).symm)) (Nat.le_of_eq (Wr.size W351).symm)) (Nat.le_of_eq (Wr.size W355).symm)) (Nat.le_of_eq (Wr.size W359).symm)) (Nat.le_of_eq (Wr.size W363).symm)) (Nat.le_of_eq (Wr.size W367).symm)) (Nat.le_of_eq (Wr.size W371).symm))
      have ge_a376 : n0 ≤ a376 := by have q1 := f388; omega
      refine go_dup B d0_143 rfl ?_
      refine go_aload_n B d0_144 rfl rfl ?_
      have f396 : Sta Z h375 "java/lang/String" "COMPACT_STRINGS" "Z" (.int cz) := (Sta.ext Ea376 (Sta.wr W371 (Sta.wr W367 (Sta.wr W363 (Sta.wr W359 (Sta.wr W355 (Sta.wr W351 (Sta.wr W347 (Sta.ext Ea345 SC)))))))))
      refine go_special B (W := 1) (a := a376) (argsL := [(.ref a345)]) (st := [(.ref a376)]) d0_145 rfl (w_8 H) (w_9 H) (w_7 H) (w_10 H) (by decide) (rmT1 H a376 a345 cz h375 (Nat.le_trans f388 Ea376.1) Aa376 (Da376 (Or.inr (w_33 H)) (ty := (.array .byte)) (by decide)) (Da376 (Or.inr (w_31 H)) (ty := .byte) (by decide)) (AV.ext A373 Ea376) ge_a376 (Ne.symm ne_a376_a345) f396 hz) pd_7 rfl rfl rfl rfl (by decide) (by decide) (by decide) (by decide) ?_
      rintro _ h397 ⟨b389, rfl, g390, K391, E393, f394, f395, A392⟩
      have ne_b389_av : b389 ≠ av := Nat.ne_of_gt (Nat.lt_of_lt_of_le ((AV.ext f377 Ea376)).lt (by omega))
      have ne_b389_o0 : b389 ≠ o0 := Nat.ne_of_gt (Nat.lt_of_lt_of_le ((Exa.ext Ea376 f378)).lt (by omega))
      have ne_b389_s0 : b389 ≠ s0 := Nat.ne_of_gt (Nat.lt_of_lt_of_le ((Exa.ext Ea376 f379)).lt (by omega))
      have ne_b389_v0 : b389 ≠ v0 := Nat.ne_of_gt (Nat.lt_of_lt_of_le ((AV.ext f380 Ea376)).lt (by omega))
      have ne_b389_o1 : b389 ≠ o1 := Nat.ne_of_gt (Nat.lt_of_lt_of_le ((Exa.ext Ea376 f381)).lt (by omega))
      have ne_b389_s1 : b389 ≠ s1 := Nat.ne_of_gt (Nat.lt_of_lt_of_le ((Exa.ext Ea376 f382)).lt (by omega))
      have ne_b389_v1 : b389 ≠ v1 := Nat.ne_of_gt (Nat.lt_of_lt_of_le ((AV.ext f383 Ea376)).lt (by omega))
      have ne_b389_o2 : b389 ≠ o2 := Nat.ne_of_gt (Nat.lt_of_lt_of_le ((Exa.ext Ea376 f384)).lt (by omega))
      have ne_b389_s2 : b389 ≠ s2 := Nat.ne_of_gt (Nat.lt_of_lt_of_le ((Exa.ext Ea376 f385)).lt (by omega))
      have ne_b389_v2 : b389 ≠ v2 := Nat.ne_of_gt (Nat.lt_of_lt_of_le ((AV.ext f386 Ea376)).lt (by omega))
      have ne_b389_a345 : b389 ≠ a345 := Nat.ne_of_gt (Nat.lt_of_lt_of_le ((Exa.ext Ea376 f387)).lt (by omega))
      have ne_b389_a376 : b389 ≠ a376 := Nat.ne_of_gt (Nat.lt_of_lt_of_le (Aa376).lt (by omega))
      have ge_b389 : n0 ≤ b389 := by have q1 := (Nat.le_trans f388 Ea376.1); omega
      show Go κ _ h397 _ _ 148 #[.val (.int p0), .val (.int ((p0 &&& (2147483647 : Int32)) % (3 : Int32))), .val (.ref a345), .val (.ref o1), .unset, .unset] [(.ref a376)]
      refine go_astore B #[.val (.int p0), .val (.int ((p0 &&& (2147483647 : Int32)) % (3 : Int32))), .val (.ref a345), .val (.ref o1), .val (.ref a376), .unset] d0_148 rfl rfl ?_
      refine go_aload B d0_150 rfl rfl ?_
      have f399 : Sta Z h397 "com/example/handpick/handpick/Objective" "$VALUES" "[Lcom/example/handpick/handpick/Objective;" (.ref av) := (sta_keep (Sta.ext Ea376 (Sta.wr W371 (Sta.wr W367 (Sta.wr W363 (Sta.wr W359 (Sta.wr W355 (Sta.wr W351 (Sta.wr W347 (Sta.ext Ea345 SV))))))))) K391 (allS (nst_exa Aa376) all0))
      have f400 : AV Z h397 av (.object "com/example/handpick/handpick/Objective") [(.ref o0), (.ref o1), (.ref o2)] := (AV.keep (AV.ext f377 Ea376) K391 (ninS (Ne.symm ne_a376_av) nin0))
      have f401 : Exa Z h397 av "[Lcom/example/handpick/handpick/Objective;" := (Exa.keep (Exa.ext Ea376 (Exa.wr W371 (Exa.wr W367 (Exa.wr W363 (Exa.wr W359 (Exa.wr W355 (Exa.wr W351 (Exa.wr W347 (Exa.ext Ea345 EV))))))))) K391)
      have f402 : Fld Z h397 o0 "com/example/handpick/handpick/Objective" "name" "Ljava/lang/String;" (.ref s0) := (Fld.keep (Fld.ext Ea376 (Fld.other W371 (Fld.other W367 (Fld.other W363 (Fld.other W359 (Fld.other W355 (Fld.other W351 (Fld.other W347 (Fld.ext Ea345 FO0) (Or.inl (Ne.symm ne_a345_o0))) (Or.inl (Ne.symm ne_a345_o0))) (Or.inl (Ne.symm ne_a345_o0))) (Or.inl (Ne.symm ne_a345_o0))) (Or.inl (Ne.symm ne_a345_o0))) (Or.inl (Ne.symm ne_a345_o0))) (Or.inl (Ne.symm ne_a345_o0)))) K391 (ninS (Ne.symm ne_a376_o0) nin0))
      have f403 : Fld Z h397 s0 "java/lang/String" "value" "[B" (.ref v0) := (Fld.keep (Fld.ext Ea376 (Fld.other W371 (Fld.other W367 (Fld.other W363 (Fld.other W359 (Fld.other W355 (Fld.other W351 (Fld.other W347 (Fld.ext Ea345 F0_s0) (Or.inl (Ne.symm ne_a345_s0))) (Or.inl (Ne.symm ne_a345_s0))) (Or.inl (Ne.symm ne_a345_s0))) (Or.inl (Ne.symm ne_a345_s0))) (Or.inl (Ne.symm ne_a345_s0))) (Or.inl (Ne.symm ne_a345_s0))) (Or.inl (Ne.symm ne_a345_s0)))) K391 (ninS (Ne.symm ne_a376_s0) nin0))
      have f404 : Fld Z h397 s0 "java/lang/String" "coder" "B" (.int (0 : Int32)) := (Fld.keep (Fld.ext Ea376 (Fld.other W371 (Fld.other W367 (Fld.other W363 (Fld.other W359 (Fld.other W355 (Fld.other W351 (Fld.other W347 (Fld.ext Ea345 F1_s0) (Or.inl (Ne.symm ne_a345_s0))) (Or.inl (Ne.symm ne_a345_s0))) (Or.inl (Ne.symm ne_a345_s0))) (Or.inl (Ne.symm ne_a345_s0))) (Or.inl (Ne.symm ne_a345_s0))) (Or.inl (Ne.symm ne_a345_s0))) (Or.inl (Ne.symm ne_a345_s0)))) K391 (ninS (Ne.symm ne_a376_s0) nin0))
      have f405 : AV Z h397 v0 .byte [(.int (109 : Int32)), (.int (97 : Int32)), (.int (120 : Int32)), (.int (45 : Int32)), (.int (115 : Int32)), (.int (117 : Int32)), (.int (109 : Int32))] := (AV.keep (AV.ext f380 Ea376) K391 (ninS (Ne.symm ne_a376_v0) nin0))
      have f406 : Fld Z h397 o1 "com/example/handpick/handpick/Objective" "name" "Ljava/lang/String;" (.ref s1) := (Fld.keep (Fld.ext Ea376 (Fld.other W371 (Fld.other W367 (Fld.other W363 (Fld.other W359 (Fld.other W355 (Fld.other W351 (Fld.other W347 (Fld.ext Ea345 FO1) (Or.inl (Ne.symm ne_a345_o1))) (Or.inl (Ne.symm ne_a345_o1))) (Or.inl (Ne.symm ne_a345_o1))) (Or.inl (Ne.symm ne_a345_o1))) (Or.inl (Ne.symm ne_a345_o1))) (Or.inl (Ne.symm ne_a345_o1))) (Or.inl (Ne.symm ne_a345_o1)))) K391 (ninS (Ne.symm ne_a376_o1) nin0))
      have f407 : Fld Z h397 s1 "java/lang/String" "value" "[B" (.ref v1) := (Fld.keep (Fld.ext Ea376 (Fld.other W371 (Fld.other W367 (Fld.other W363 (Fld.other W359 (Fld.other W355 (Fld.other W351 (Fld.other W347 (Fld.ext Ea345 F0_s1) (Or.inl (Ne.symm ne_a345_s1))) (Or.inl (Ne.symm ne_a345_s1))) (Or.inl (Ne.symm ne_a345_s1))) (Or.inl (Ne.symm ne_a345_s1))) (Or.inl (Ne.symm ne_a345_s1))) (Or.inl (Ne.symm ne_a345_s1))) (Or.inl (Ne.symm ne_a345_s1)))) K391 (ninS (Ne.symm ne_a376_s1) nin0))
      have f408 : Fld Z h397 s1 "java/lang/String" "coder" "B" (.int (0 : Int32)) := (Fld.keep (Fld.ext Ea376 (Fld.other W371 (Fld.other W367 (Fld.other W363 (Fld.other W359 (Fld.other W355 (Fld.other W351 (Fld.other W347 (Fld.ext Ea345 F1_s1) (Or.inl (Ne.symm ne_a345_s1))) (Or.inl (Ne.symm ne_a345_s1))) (Or.inl (Ne.symm ne_a345_s1))) (Or.inl (Ne.symm ne_a345_s1))) (Or.inl (Ne.symm ne_a345_s1))) (Or.inl (Ne.symm ne_a345_s1))) (Or.inl (Ne.symm ne_a345_s1)))) K391 (ninS (Ne.symm ne_a376_s1) nin0))
      have f409 : AV Z h397 v1 .byte [(.int (109 : Int32)), (.int (97 : Int32)), (.int (120 : Int32)), (.int (45 : Int32)), (.int (109 : Int32)), (.int (105 : Int32)), (.int (110 : Int32))] := (AV.keep (AV.ext f383 Ea376) K391 (ninS (Ne.symm ne_a376_v1) nin0))
      have f410 : Fld Z h397 o2 "com/example/handpick/handpick/Objective" "name" "Ljava/lang/String;" (.ref s2) := (Fld.keep (Fld.ext Ea376 (Fld.other W371 (Fld.other W367 (Fld.other W363 (Fld.other W359 (Fld.other W355 (Fld.other W351 (Fld.other W347 (Fld.ext Ea345 FO2) (Or.inl (Ne.symm ne_a345_o2))) (Or.inl (Ne.symm ne_a345_o2))) (Or.inl (Ne.symm ne_a345_o2))) (Or.inl (Ne.symm ne_a345_o2))) (Or.inl (Ne.symm ne_a345_o2))) (Or.inl (Ne.symm ne_a345_o2))) (Or.inl (Ne.symm ne_a345_o2)))) K391 (ninS (Ne.symm ne_a376_o2) nin0))
      have f411 : Fld Z h397 s2 "java/lang/String" "value" "[B" (.ref v2) := (Fld.keep (Fld.ext Ea376 (Fld.other W371 (Fld.other W367 (Fld.other W363 (Fld.other W359 (Fld.other W355 (Fld.other W351 (Fld.other W347 (Fld.ext Ea345 F0_s2) (Or.inl (Ne.symm ne_a345_s2))) (Or.inl (Ne.symm ne_a345_s2))) (Or.inl (Ne.symm ne_a345_s2))) (Or.inl (Ne.symm ne_a345_s2))) (Or.inl (Ne.symm ne_a345_s2))) (Or.inl (Ne.symm ne_a345_s2))) (Or.inl (Ne.symm ne_a345_s2)))) K391 (ninS (Ne.symm ne_a376_s2) nin0))
      have f412 : Fld Z h397 s2 "java/lang/String" "coder" "B" (.int (0 : Int32)) := (Fld.keep (Fld.ext Ea376 (Fld.other W371 (Fld.other W367 (Fld.other W363 (Fld.other W359 (Fld.other W355 (Fld.other W351 (Fld.other W347 (Fld.ext Ea345 F1_s2) (Or.inl (Ne.symm ne_a345_s2))) (Or.inl (Ne.symm ne_a345_s2))) (Or.inl (Ne.symm ne_a345_s2))) (Or.inl (Ne.symm ne_a345_s2))) (Or.inl (Ne.symm ne_a345_s2))) (Or.inl (Ne.symm ne_a345_s2))) (Or.inl (Ne.symm ne_a345_s2)))) K391 (ninS (Ne.symm ne_a376_s2) nin0))
      have f413 : AV Z h397 v2 .byte [(.int (109 : Int32)), (.int (111 : Int32)), (.int (110 : Int32)), (.int (111 : Int32))] := (AV.keep (AV.ext f386 Ea376) K391 (ninS (Ne.symm ne_a376_v2) nin0))
      refine go_static B (W := 0) (argsL := [(.ref a376)]) (st := []) d0_152 (w_34 H) (w_35 H) (w_3 H) (w_36 H) (by decide) (rmP1 H av o0 o1 o2 s0 s1 s2 v0 v1 v2 a376 b389 cz h397 (Nat.le_trans (Nat.le_trans f388 Ea376.1) K391.1) f399 f400 f401 (Exa.keep (Exa.ext Ea376 f378) K391) f402 (Exa.keep (Exa.ext Ea376 f379) K391) f403 f404 f405 (Exa.keep (Exa.ext Ea376 f381) K391) f406 (Exa.keep (Exa.ext Ea376 f382) K391) f407 f408 f409 (Exa.keep (Exa.ext Ea376 f384) K391) f410 (Exa.keep (Exa.ext Ea376 f385) K391) f411 f412 f413 E393 f394 f395 A392 (Ne.symm ne_a376_s0) (Ne.symm ne_a376_s1) (Ne.symm ne_a376_s2) (sta_keep f396 K391 (allS (nst_exa Aa376) all0)) hz) pd_8 rfl rfl rfl rfl (by decide) (by decide) (by decide) (by decide) ?_
      rintro _ h414 ⟨rfl, E398⟩
      show Go κ _ h414 _ _ 155 #[.val (.int p0), .val (.int ((p0 &&& (2147483647 : Int32)) % (3 : Int32))), .val (.ref a345), .val (.ref o1), .val (.ref a376), .unset] [(.ref o1)]
      refine go_astore B #[.val (.int p0), .val (.int ((p0 &&& (2147483647 : Int32)) % (3 : Int32))), .val (.ref a345), .val (.ref o1), .val (.ref a376), .val (.ref o1)] d0_155 rfl rfl ?_
      refine go_aload B d0_157 rfl rfl ?_
      refine go_aload_n B d0_159 rfl rfl ?_
      refine go_acmpne B d0_160 rfl rfl (fun c160 => ?_) (fun c160 => ?_)
      · exact absurd rfl c160
      refine go_aload B d0_163 rfl rfl ?_
      have f415 : n0 ≤ h414.size := (Nat.le_trans (Nat.le_trans (Nat.le_trans f388 Ea376.1) K391.1) E398.1)
      refine go_virtual B (W := 0) (a := o1) (argsL := []) (st := []) d0_165 (w_66 H) (w_67 H) (w_69 H) (w_68 H) (w_3 H) (w_70 H) (by decide) (Exa.ext E398 (Exa.keep (Exa.ext Ea376 f381) K391)) (rmO H o1 s1 h414 f415 (Fld.ext E398 f406)) pd_9 rfl rfl rfl rfl (by decide) (by decide) (by decide) (by decide) ?_
      rintro _ h416 ⟨rfl, rfl⟩
      show Go κ _ h414 _ _ 168 #[.val (.int p0), .val (.int ((p0 &&& (2147483647 : Int32)) % (3 : Int32))), .val (.ref a345), .val (.ref o1), .val (.ref a376), .val (.ref o1)] [(.ref s1)]
      refine go_aload B d0_168 rfl rfl ?_
      have f417 : Sta Z h414 "java/lang/String" "COMPACT_STRINGS" "Z" (.int cz) := (Sta.ext E398 (sta_keep f396 K391 (allS (nst_exa Aa376) all0)))
      refine go_virtual B (W := 0) (a := s1) (argsL := [(.ref a376)]) (st := []) d0_170 (w_71 H) (w_57 H) (w_59 H) (w_58 H) (w_7 H) (w_60 H) (by decide) (Exa.ext E398 (Exa.keep (Exa.ext Ea376 f382) K391)) (rmE11 H s1 v1 a376 b389 cz h414 f415 (Exa.ext E398 (Exa.keep (Exa.ext Ea376 f382) K391)) (Fld.ext E398 f407) (Fld.ext E398 f408) (Exa.ext E398 E393) (Fld.ext E398 f394) (Fld.ext E398 f395) (AV.ext f409 E398) (AV.ext A392 E398) (Ne.symm ne_a376_s1) f417 hz) pd_6 rfl rfl rfl rfl (by decide) (by decide) (by decide) (by decide) ?_
      rintro _ h418 ⟨rfl, rfl⟩
      show Go κ _ h414 _ _ 173 #[.val (.int p0), .val (.int ((p0 &&& (2147483647 : Int32)) % (3 : Int32))), .val (.ref a345), .val (.ref o1), .val (.ref a376), .val (.ref o1)] [(.int (1 : Int32))]
      refine go_ifeq B d0_173 (fun c173 => ?_) (fun c173 => ?_)
      · exact absurd c173 (by decide)
      refine go_iconst B (x := (1 : Int32)) d0_176 rfl ?_
      refine go_goto B d0_177 ?_
      refine go_zreturn B (y := (1 : Int32)) d0_181 (by decide) (by decide) (by decide) ?_
      exact rfl
  · skip
    refine go_bipush B (x := (7 : Int32)) d0_11 (by decide) ?_
    refine go_newarray B (i := 7) (cap := 7) d0_13 (w_1 H) rfl (Nat.le_refl _) (by decide) (by decide) (by decide) ?_
    intro h419 a420 hba420 Ea420 Aa420 Ca420
    have ne_a420_av : a420 ≠ av := Nat.ne_of_gt (Nat.lt_of_lt_of_le (AV0).lt (by omega))
    have ne_a420_o0 : a420 ≠ o0 := Nat.ne_of_gt (Nat.lt_of_lt_of_le (EO0).lt (by omega))
    have ne_a420_s0 : a420 ≠ s0 := Nat.ne_of_gt (Nat.lt_of_lt_of_le (E_s0).lt (by omega))
    have ne_a420_v0 : a420 ≠ v0 := Nat.ne_of_gt (Nat.lt_of_lt_of_le (A_v0).lt (by omega))
    have ne_a420_o1 : a420 ≠ o1 := Nat.ne_of_gt (Nat.lt_of_lt_of_le (EO1).lt (by omega))
    have ne_a420_s1 : a420 ≠ s1 := Nat.ne_of_gt (Nat.lt_of_lt_of_le (E_s1).lt (by omega))
    have ne_a420_v1 : a420 ≠ v1 := Nat.ne_of_gt (Nat.lt_of_lt_of_le (A_v1).lt (by omega))
    have ne_a420_o2 : a420 ≠ o2 := Nat.ne_of_gt (Nat.lt_of_lt_of_le (EO2).lt (by omega))
    have ne_a420_s2 : a420 ≠ s2 := Nat.ne_of_gt (Nat.lt_of_lt_of_le (E_s2).lt (by omega))
    have ne_a420_v2 : a420 ≠ v2 := Nat.ne_of_gt (Nat.lt_of_lt_of_le (A_v2).lt (by omega))
    have ge_a420 : n0 ≤ a420 := by have q1 := Z0; omega
    have Ba420 : AV Z h419 a420 .char [(.int (0 : Int32)), (.int (0 : Int32)), (.int (0 : Int32)), (.int (0 : Int32)), (.int (0 : Int32)), (.int (0 : Int32)), (.int (0 : Int32))] := Aa420
    refine go_dup B d0_15 rfl ?_
    refine go_iconst B (x := (0 : Int32)) d0_16 rfl ?_
    refine go_bipush B (x := (109 : Int32)) d0_17 (by decide) ?_
    refine go_castore B (i := 0) d0_19 Ba420 rfl (show 0 < 7 from by decide) ge_a420 ?_
    intro h421 W422 A423
    have A424 : AV Z h421 a420 .char [(.int (109 : Int32)), (.int (0 : Int32)), (.int (0 : Int32)), (.int (0 : Int32)), (.int (0 : Int32)), (.int (0 : Int32)), (.int (0 : Int32))] := (by have q := A423; rw [show nar .char (109 : Int32) = (109 : Int32) from by decide] at q; exact q)
    refine go_dup B d0_20 rfl ?_
    refine go_iconst B (x := (1 : Int32)) d0_21 rfl ?_
    refine go_bipush B (x := (97 : Int32)) d0_22 (by decide) ?_
    refine go_castore B (i := 1) d0_24 A424 rfl (show 1 < 7 from by decide) ge_a420 ?_
    intro h425 W426 A427
    have A428 : AV Z h425 a420 .char [(.int (109 : Int32)), (.int (97 : Int32)), (.int (0 : Int32)), (.int (0 : Int32)), (.int (0 : Int32)), (.int (0 : Int32)), (.int (0 : Int32))] := (by have q := A427; rw [show nar .char (97 : Int32) = (97 : Int32) from by decide] at q; exact q)
    refine go_dup B d0_25 rfl ?_
    refine go_iconst B (x := (2 : Int32)) d0_26 rfl ?_
    refine go_bipush B (x := (120 : Int32)) d0_27 (by decide) ?_
    refine go_castore B (i := 2) d0_29 A428 rfl (show 2 < 7 from by decide) ge_a420 ?_
    intro h429 W430 A431
    have A432 : AV Z h429 a420 .char [(.int (109 : Int32)), (.int (97 : Int32)), (.int (120 : Int32)), (.int (0 : Int32)), (.int (0 : Int32)), (.int (0 : Int32)), (.int (0 : Int32))] := (by have q := A431; rw [show nar .char (120 : Int32) = (120 : Int32) from by decide] at q; exact q)
    refine go_dup B d0_30 rfl ?_
    refine go_iconst B (x := (3 : Int32)) d0_31 rfl ?_
    refine go_bipush B (x := (45 : Int32)) d0_32 (by decide) ?_
    refine go_castore B (i := 3) d0_34 A432 rfl (show 3 < 7 from by decide) ge_a420 ?_
    intro h433 W434 A435
    have A436 : AV Z h433 a420 .char [(.int (109 : Int32)), (.int (97 : Int32)), (.int (120 : Int32)), (.int (45 : Int32)), (.int (0 : Int32)), (.int (0 : Int32)), (.int (0 : Int32))] := (by have q := A435; rw [show nar .char (45 : Int32) = (45 : Int32) from by decide] at q; exact q)
    refine go_dup B d0_35 rfl ?_
    refine go_iconst B (x := (4 : Int32)) d0_36 rfl ?_
    refine go_bipush B (x := (115 : Int32)) d0_37 (by decide) ?_
    refine go_castore B (i := 4) d0_39 A436 rfl (show 4 < 7 from by decide) ge_a420 ?_
    intro h437 W438 A439
    have A440 : AV Z h437 a420 .char [(.int (109 : Int32)), (.int (97 : Int32)), (.int (120 : Int32)), (.int (45 : Int32)), (.int (115 : Int32)), (.int (0 : Int32)), (.int (0 : Int32))] := (by have q := A439; rw [show nar .char (115 : Int32) = (115 : Int32) from by decide] at q; exact q)
    refine go_dup B d0_40 rfl ?_
    refine go_iconst B (x := (5 : Int32)) d0_41 rfl ?_
    refine go_bipush B (x := (117 : Int32)) d0_42 (by decide) ?_
    refine go_castore B (i := 5) d0_44 A440 rfl (show 5 < 7 from by decide) ge_a420 ?_
    intro h441 W442 A443
    have A444 : AV Z h441 a420 .char [(.int (109 : Int32)), (.int (97 : Int32)), (.int (120 : Int32)), (.int (45 : Int32)), (.int (115 : Int32)), (.int (117 : Int32)), (.int (0 : Int32))] := (by have q := A443; rw [show nar .char (117 : Int32) = (117 : Int32) from by decide] at q; exact q)
    refine go_dup B d0_45 rfl ?_
    refine go_bipush B (x := (6 : Int32)) d0_46 (by decide) ?_
    refine go_bipush B (x := (109 : Int32)) d0_48 (by decide) ?_
    refine go_castore B (i := 6) d0_50 A444 rfl (show 6 < 7 from by decide) ge_a420 ?_
    intro h445 W446 A447
    have A448 : AV Z h445 a420 .char [(.int (109 : Int32)), (.int (97 : Int32)), (.int (120 : Int32)), (.int (45 : Int32)), (.int (115 : Int32)), (.int (117 : Int32)), (.int (109 : Int32))] := (by have q := A447; rw [show nar .char (109 : Int32) = (109 : Int32) from by decide] at q; exact q)
    refine go_astore_n B #[.val (.int p0), .val (.int ((p0 &&& (2147483647 : Int32)) % (3 : Int32))), .val (.ref a420), .unset, .unset, .unset] d0_51 rfl rfl ?_
    have f449 : Sta Z h445 "com/example/handpick/handpick/Objective" "MAX_SUM" "Lcom/example/handpick/handpick/Objective;" (.ref o0) := (Sta.wr W446 (Sta.wr W442 (Sta.wr W438 (Sta.wr W434 (Sta.wr W430 (Sta.wr W426 (Sta.wr W422 (Sta.ext Ea420 SO0))))))))
    refine go_getstatic B d0_52 (w_2 H) f449 ?_
    refine go_astore_n B #[.val (.int p0), .val (.int ((p0 &&& (2147483647 : Int32)) % (3 : Int32))), .val (.ref a420), .val (.ref o0), .unset, .unset] d0_55 rfl rfl ?_
    refine go_goto B d0_56 ?_
    refine go_new B d0_140 (w_5 H) (w_6 H) (w_7 H) (by decide) (by decide) ?_
    intro h450 a451 hba451 Ea451 Aa451 Da451
    have f452 : AV Z h445 av (.object "com/example/handpick/handpick/Objective") [(.ref o0), (.ref o1), (.ref o2)] := (AV.other (AV.other (AV.other (AV.other (AV.other (AV.other (AV.other (AV.ext AV0 Ea420) W422 (Ne.symm ne_a420_av)) W426 (Ne.symm ne_a420_av)) W430 (Ne.symm ne_a420_av)) W434 (Ne.symm ne_a420_av)) W438 (Ne.symm ne_a420_av)) W442 (Ne.symm ne_a420_av)) W446 (Ne.symm ne_a420_av))
    have ne_a451_av : a451 ≠ av := Nat.ne_of_gt (Nat.lt_of_lt_of_le (f452).lt (by omega))
    have f453 : Exa Z h445 o0 "com/example/handpick/handpick/Objective" := (Exa.wr W446 (Exa.wr W442 (Exa.wr W438 (Exa.wr W434 (Exa.wr W430 (Exa.wr W426 (Exa.wr W422 (Exa.ext Ea420 EO0))))))))
    have ne_a451_o0 : a451 ≠ o0 := Nat.ne_of_gt (Nat.lt_of_lt_of_le (f453).lt (by omega))
    have f454 : Exa Z h445 s0 "java/lang/String" := (Exa.wr W446 (Exa.wr W442 (Exa.wr W438 (Exa.wr W434 (Exa.wr W430 (Exa.wr W426 (Exa.wr W422 (Exa.ext Ea420 E_s0))))))))
    have ne_a451_s0 : a451 ≠ s0 := Nat.ne_of_gt (Nat.lt_of_lt_of_le (f454).lt (by omega))
    have f455 : AV Z h445 v0 .byte [(.int (109 : Int32)), (.int (97 : Int32)), (.int (120 : Int32)), (.int (45 : Int32)), (.int (115 : Int32)), (.int (117 : Int32)), (.int (109 : Int32))] := (AV.other (AV.other (AV.other (AV.other (AV.other (AV.other (AV.other (AV.ext A_v0 Ea420) W422 (Ne.symm ne_a420_v0)) W426 (Ne.symm ne_a420_v0)) W430 (Ne.symm ne_a420_v0)) W434 (Ne.symm ne_a420_v0)) W438 (Ne.symm ne_a420_v0)) W442 (Ne.symm ne_a420_v0)) W446 (Ne.symm ne_a420_v0))
    have ne_a451_v0 : a451 ≠ v0 := Nat.ne_of_gt (Nat.lt_of_lt_of_le (f455).lt (by omega))
    have f456 : Exa Z h445 o1 "com/example/handpick/handpick/Objective" := (Exa.wr W446 (Exa.wr W442 (Exa.wr W438 (Exa.wr W434 (Exa.wr W430 (Exa.wr W426 (Exa.wr W422 (Exa.ext Ea420 EO1))))))))
    have ne_a451_o1 : a451 ≠ o1 := Nat.ne_of_gt (Nat.lt_of_lt_of_le (f456).lt (by omega))
    have f457 : Exa Z h445 s1 "java/lang/String" := (Exa.wr W446 (Exa.wr W442 (Exa.wr W438 (Exa.wr W434 (Exa.wr W430 (Exa.wr W426 (Exa.wr W422 (Exa.ext Ea420 E_s1))))))))
    have ne_a451_s1 : a451 ≠ s1 := Nat.ne_of_gt (Nat.lt_of_lt_of_le (f457).lt (by omega))
    have f458 : AV Z h445 v1 .byte [(.int (109 : Int32)), (.int (97 : Int32)), (.int (120 : Int32)), (.int (45 : Int32)), (.int (109 : Int32)), (.int (105 : Int32)), (.int (110 : Int32))] := (AV.other (AV.other (AV.other (AV.other (AV.other (AV.other (AV.other (AV.ext A_v1 Ea420) W422 (Ne.symm ne_a420_v1)) W426 (Ne.symm ne_a420_v1)) W430 (Ne.symm ne_a420_v1)) W434 (Ne.symm ne_a420_v1)) W438 (Ne.symm ne_a420_v1)) W442 (Ne.symm ne_a420_v1)) W446 (Ne.symm ne_a420_v1))
    have ne_a451_v1 : a451 ≠ v1 := Nat.ne_of_gt (Nat.lt_of_lt_of_le (f458).lt (by omega))
    have f459 : Exa Z h445 o2 "com/example/handpick/handpick/Objective" := (Exa.wr W446 (Exa.wr W442 (Exa.wr W438 (Exa.wr W434 (Exa.wr W430 (Exa.wr W426 (Exa.wr W422 (Exa.ext Ea420 EO2))))))))
    have ne_a451_o2 : a451 ≠ o2 := Nat.ne_of_gt (Nat.lt_of_lt_of_le (f459).lt (by omega))
    have f460 : Exa Z h445 s2 "java/lang/String" := (Exa.wr W446 (Exa.wr W442 (Exa.wr W438 (Exa.wr W434 (Exa.wr W430 (Exa.wr W426 (Exa.wr W422 (Exa.ext Ea420 E_s2))))))))
    have ne_a451_s2 : a451 ≠ s2 := Nat.ne_of_gt (Nat.lt_of_lt_of_le (f460).lt (by omega))
    have f461 : AV Z h445 v2 .byte [(.int (109 : Int32)), (.int (111 : Int32)), (.int (110 : Int32)), (.int (111 : Int32))] := (AV.other (AV.other (AV.other (AV.other (AV.other (AV.other (AV.other (AV.ext A_v2 Ea420) W422 (Ne.symm ne_a420_v2)) W426 (Ne.symm ne_a420_v2)) W430 (Ne.symm ne_a420_v2)) W434 (Ne.symm ne_a420_v2)) W438 (Ne.symm ne_a420_v2)) W442 (Ne.symm ne_a420_v2)) W446 (Ne.symm ne_a420_v2))
    have ne_a451_v2 : a451 ≠ v2 := Nat.ne_of_gt (Nat.lt_of_lt_of_le (f461).lt (by omega))
    have f462 : Exa Z h445 a420 "[C" := (Exa.wr W446 (Exa.wr W442 (Exa.wr W438 (Exa.wr W434 (Exa.wr W430 (Exa.wr W426 (Exa.wr W422 Ca420)))))))
    have ne_a451_a420 : a451 ≠ a420 := Nat.ne_of_gt (Nat.lt_of_lt_of_le (f462).lt (by omega))
    have f463 : n0 ≤ h445.size := (Nat.le_trans (Nat.le_trans (Nat.le_trans (Nat.le_trans (Nat.le_trans (Nat.le_trans (Nat.le_trans (Nat.le_trans Z0 Ea420.1) (Nat.le_of_eq (Wr.size W422).symm)) (Nat.le_of_eq (Wr.size W426).symm)) (Nat.le_of_eq (Wr.size W430).symm)) (Nat.le_of_eq (Wr.size W434).symm)) (Nat.le_of_eq (Wr.size W438).symm)) (Nat.le_of_eq (Wr.size W442).symm)) (Nat.le_of_eq (Wr.size W446).symm))
    have ge_a451 : n0 ≤ a451 := by have q1 := f463; omega
    refine go_dup B d0_143 rfl ?_
    refine go_aload_n B d0_144 rfl rfl ?_
    have f471 : Sta Z h450 "java/lang/String" "COMPACT_STRINGS" "Z" (.int cz) := (Sta.ext Ea451 (Sta.wr W446 (Sta.wr W442 (Sta.wr W438 (Sta.wr W434 (Sta.wr W430 (Sta.wr W426 (Sta.wr W422 (Sta.ext Ea420 SC)))))))))
    refine go_special B (W := 1) (a := a451) (argsL := [(.ref a420)]) (st := [(.ref a451)]) d0_145 rfl (w_8 H) (w_9 H) (w_7 H) (w_10 H) (by decide) (rmT0 H a451 a420 cz h450 (Nat.le_trans f463 Ea451.1) Aa451 (Da451 (Or.inr (w_33 H)) (ty := (.array .byte)) (by decide)) (Da451 (Or.inr (w_31 H)) (ty := .byte) (by decide)) (AV.ext A448 Ea451) ge_a451 (Ne.symm ne_a451_a420) f471 hz) pd_7 rfl rfl rfl rfl (by decide) (by decide) (by decide) (by decide) ?_
    rintro _ h472 ⟨b464, rfl, g465, K466, E468, f469, f470, A467⟩
    have ne_b464_av : b464 ≠ av := Nat.ne_of_gt (Nat.lt_of_lt_of_le ((AV.ext f452 Ea451)).lt (by omega))
    have ne_b464_o0 : b464 ≠ o0 := Nat.ne_of_gt (Nat.lt_of_lt_of_le ((Exa.ext Ea451 f453)).lt (by omega))
    have ne_b464_s0 : b464 ≠ s0 := Nat.ne_of_gt (Nat.lt_of_lt_of_le ((Exa.ext Ea451 f454)).lt (by omega))
    have ne_b464_v0 : b464 ≠ v0 := Nat.ne_of_gt (Nat.lt_of_lt_of_le ((AV.ext f455 Ea451)).lt (by omega))
    have ne_b464_o1 : b464 ≠ o1 := Nat.ne_of_gt (Nat.lt_of_lt_of_le ((Exa.ext Ea451 f456)).lt (by omega))
    have ne_b464_s1 : b464 ≠ s1 := Nat.ne_of_gt (Nat.lt_of_lt_of_le ((Exa.ext Ea451 f457)).lt (by omega))
    have ne_b464_v1 : b464 ≠ v1 := Nat.ne_of_gt (Nat.lt_of_lt_of_le ((AV.ext f458 Ea451)).lt (by omega))
    have ne_b464_o2 : b464 ≠ o2 := Nat.ne_of_gt (Nat.lt_of_lt_of_le ((Exa.ext Ea451 f459)).lt (by omega))
    have ne_b464_s2 : b464 ≠ s2 := Nat.ne_of_gt (Nat.lt_of_lt_of_le ((Exa.ext Ea451 f460)).lt (by omega))
    have ne_b464_v2 : b464 ≠ v2 := Nat.ne_of_gt (Nat.lt_of_lt_of_le ((AV.ext f461 Ea451)).lt (by omega))
    have ne_b464_a420 : b464 ≠ a420 := Nat.ne_of_gt (Nat.lt_of_lt_of_le ((Exa.ext Ea451 f462)).lt (by omega))
    have ne_b464_a451 : b464 ≠ a451 := Nat.ne_of_gt (Nat.lt_of_lt_of_le (Aa451).lt (by omega))
    have ge_b464 : n0 ≤ b464 := by have q1 := (Nat.le_trans f463 Ea451.1); omega
    show Go κ _ h472 _ _ 148 #[.val (.int p0), .val (.int ((p0 &&& (2147483647 : Int32)) % (3 : Int32))), .val (.ref a420), .val (.ref o0), .unset, .unset] [(.ref a451)]
    refine go_astore B #[.val (.int p0), .val (.int ((p0 &&& (2147483647 : Int32)) % (3 : Int32))), .val (.ref a420), .val (.ref o0), .val (.ref a451), .unset] d0_148 rfl rfl ?_
    refine go_aload B d0_150 rfl rfl ?_
    have f474 : Sta Z h472 "com/example/handpick/handpick/Objective" "$VALUES" "[Lcom/example/handpick/handpick/Objective;" (.ref av) := (sta_keep (Sta.ext Ea451 (Sta.wr W446 (Sta.wr W442 (Sta.wr W438 (Sta.wr W434 (Sta.wr W430 (Sta.wr W426 (Sta.wr W422 (Sta.ext Ea420 SV))))))))) K466 (allS (nst_exa Aa451) all0))
    have f475 : AV Z h472 av (.object "com/example/handpick/handpick/Objective") [(.ref o0), (.ref o1), (.ref o2)] := (AV.keep (AV.ext f452 Ea451) K466 (ninS (Ne.symm ne_a451_av) nin0))
    have f476 : Exa Z h472 av "[Lcom/example/handpick/handpick/Objective;" := (Exa.keep (Exa.ext Ea451 (Exa.wr W446 (Exa.wr W442 (Exa.wr W438 (Exa.wr W434 (Exa.wr W430 (Exa.wr W426 (Exa.wr W422 (Exa.ext Ea420 EV))))))))) K466)
    have f477 : Fld Z h472 o0 "com/example/handpick/handpick/Objective" "name" "Ljava/lang/String;" (.ref s0) := (Fld.keep (Fld.ext Ea451 (Fld.other W446 (Fld.other W442 (Fld.other W438 (Fld.other W434 (Fld.other W430 (Fld.other W426 (Fld.other W422 (Fld.ext Ea420 FO0) (Or.inl (Ne.symm ne_a420_o0))) (Or.inl (Ne.symm ne_a420_o0))) (Or.inl (Ne.symm ne_a420_o0))) (Or.inl (Ne.symm ne_a420_o0))) (Or.inl (Ne.symm ne_a420_o0))) (Or.inl (Ne.symm ne_a420_o0))) (Or.inl (Ne.symm ne_a420_o0)))) K466 (ninS (Ne.symm ne_a451_o0) nin0))
    have f478 : Fld Z h472 s0 "java/lang/String" "value" "[B" (.ref v0) := (Fld.keep (Fld.ext Ea451 (Fld.other W446 (Fld.other W442 (Fld.other W438 (Fld.other W434 (Fld.other W430 (Fld.other W426 (Fld.other W422 (Fld.ext Ea420 F0_s0) (Or.inl (Ne.symm ne_a420_s0))) (Or.inl (Ne.symm ne_a420_s0))) (Or.inl (Ne.symm ne_a420_s0))) (Or.inl (Ne.symm ne_a420_s0))) (Or.inl (Ne.symm ne_a420_s0))) (Or.inl (Ne.symm ne_a420_s0))) (Or.inl (Ne.symm ne_a420_s0)))) K466 (ninS (Ne.symm ne_a451_s0) nin0))
    have f479 : Fld Z h472 s0 "java/lang/String" "coder" "B" (.int (0 : Int32)) := (Fld.keep (Fld.ext Ea451 (Fld.other W446 (Fld.other W442 (Fld.other W438 (Fld.other W434 (Fld.other W430 (Fld.other W426 (Fld.other W422 (Fld.ext Ea420 F1_s0) (Or.inl (Ne.symm ne_a420_s0))) (Or.inl (Ne.symm ne_a420_s0))) (Or.inl (Ne.symm ne_a420_s0))) (Or.inl (Ne.symm ne_a420_s0))) (Or.inl (Ne.symm ne_a420_s0))) (Or.inl (Ne.symm ne_a420_s0))) (Or.inl (Ne.symm ne_a420_s0)))) K466 (ninS (Ne.symm ne_a451_s0) nin0))
    have f480 : AV Z h472 v0 .byte [(.int (109 : Int32)), (.int (97 : Int32)), (.int (120 : Int32)), (.int (45 : Int32)), (.int (115 : Int32)), (.int (117 : Int32)), (.int (109 : Int32))] := (AV.keep (AV.ext f455 Ea451) K466 (ninS (Ne.symm ne_a451_v0) nin0))
    have f481 : Fld Z h472 o1 "com/example/handpick/handpick/Objective" "name" "Ljava/lang/String;" (.ref s1) := (Fld.keep (Fld.ext Ea451 (Fld.other W446 (Fld.other W442 (Fld.other W438 (Fld.other W434 (Fld.other W430 (Fld.other W426 (Fld.other W422 (Fld.ext Ea420 FO1) (Or.inl (Ne.symm ne_a420_o1))) (Or.inl (Ne.symm ne_a420_o1))) (Or.inl (Ne.symm ne_a420_o1))) (Or.inl (Ne.symm ne_a420_o1))) (Or.inl (Ne.symm ne_a420_o1))) (Or.inl (Ne.symm ne_a420_o1))) (Or.inl (Ne.symm ne_a420_o1)))) K466 (ninS (Ne.symm ne_a451_o1) nin0))
    have f482 : Fld Z h472 s1 "java/lang/String" "value" "[B" (.ref v1) := (Fld.keep (Fld.ext Ea451 (Fld.other W446 (Fld.other W442 (Fld.other W438 (Fld.other W434 (Fld.other W430 (Fld.other W426 (Fld.other W422 (Fld.ext Ea420 F0_s1) (Or.inl (Ne.symm ne_a420_s1))) (Or.inl (Ne.symm ne_a420_s1))) (Or.inl (Ne.symm ne_a420_s1))) (Or.inl (Ne.symm ne_a420_s1))) (Or.inl (Ne.symm ne_a420_s1))) (Or.inl (Ne.symm ne_a420_s1))) (Or.inl (Ne.symm ne_a420_s1)))) K466 (ninS (Ne.symm ne_a451_s1) nin0))
    have f483 : Fld Z h472 s1 "java/lang/String" "coder" "B" (.int (0 : Int32)) := (Fld.keep (Fld.ext Ea451 (Fld.other W446 (Fld.other W442 (Fld.other W438 (Fld.other W434 (Fld.other W430 (Fld.other W426 (Fld.other W422 (Fld.ext Ea420 F1_s1) (Or.inl (Ne.symm ne_a420_s1))) (Or.inl (Ne.symm ne_a420_s1))) (Or.inl (Ne.symm ne_a420_s1))) (Or.inl (Ne.symm ne_a420_s1))) (Or.inl (Ne.symm ne_a420_s1))) (Or.inl (Ne.symm ne_a420_s1))) (Or.inl (Ne.symm ne_a420_s1)))) K466 (ninS (Ne.symm ne_a451_s1) nin0))
    have f484 : AV Z h472 v1 .byte [(.int (109 : Int32)), (.int (97 : Int32)), (.int (120 : Int32)), (.int (45 : Int32)), (.int (109 : Int32)), (.int (105 : Int32)), (.int (110 : Int32))] := (AV.keep (AV.ext f458 Ea451) K466 (ninS (Ne.symm ne_a451_v1) nin0))
    have f485 : Fld Z h472 o2 "com/example/handpick/handpick/Objective" "name" "Ljava/lang/String;" (.ref s2) := (Fld.keep (Fld.ext Ea451 (Fld.other W446 (Fld.other W442 (Fld.other W438 (Fld.other W434 (Fld.other W430 (Fld.other W426 (Fld.other W422 (Fld.ext Ea420 FO2) (Or.inl (Ne.symm ne_a420_o2))) (Or.inl (Ne.symm ne_a420_o2))) (Or.inl (Ne.symm ne_a420_o2))) (Or.inl (Ne.symm ne_a420_o2))) (Or.inl (Ne.symm ne_a420_o2))) (Or.inl (Ne.symm ne_a420_o2))) (Or.inl (Ne.symm ne_a420_o2)))) K466 (ninS (Ne.symm ne_a451_o2) nin0))
    have f486 : Fld Z h472 s2 "java/lang/String" "value" "[B" (.ref v2) := (Fld.keep (Fld.ext Ea451 (Fld.other W446 (Fld.other W442 (Fld.other W438 (Fld.other W434 (Fld.other W430 (Fld.other W426 (Fld.other W422 (Fld.ext Ea420 F0_s2) (Or.inl (Ne.symm ne_a420_s2))) (Or.inl (Ne.symm ne_a420_s2))) (Or.inl (Ne.symm ne_a420_s2))) (Or.inl (Ne.symm ne_a420_s2))) (Or.inl (Ne.symm ne_a420_s2))) (Or.inl (Ne.symm ne_a420_s2))) (Or.inl (Ne.symm ne_a420_s2)))) K466 (ninS (Ne.symm ne_a451_s2) nin0))
    have f487 : Fld Z h472 s2 "java/lang/String" "coder" "B" (.int (0 : Int32)) := (Fld.keep (Fld.ext Ea451 (Fld.other W446 (Fld.other W442 (Fld.other W438 (Fld.other W434 (Fld.other W430 (Fld.other W426 (Fld.other W422 (Fld.ext Ea420 F1_s2) (Or.inl (Ne.symm ne_a420_s2))) (Or.inl (Ne.symm ne_a420_s2))) (Or.inl (Ne.symm ne_a420_s2))) (Or.inl (Ne.symm ne_a420_s2))) (Or.inl (Ne.symm ne_a420_s2))) (Or.inl (Ne.symm ne_a420_s2))) (Or.inl (Ne.symm ne_a420_s2)))) K466 (ninS (Ne.symm ne_a451_s2) nin0))
    have f488 : AV Z h472 v2 .byte [(.int (109 : Int32)), (.int (111 : Int32)), (.int (110 : Int32)), (.int (111 : Int32))] := (AV.keep (AV.ext f461 Ea451) K466 (ninS (Ne.symm ne_a451_v2) nin0))
    refine go_static B (W := 0) (argsL := [(.ref a451)]) (st := []) d0_152 (w_34 H) (w_35 H) (w_3 H) (w_36 H) (by decide) (rmP0 H av o0 o1 o2 s0 s1 s2 v0 v1 v2 a451 b464 cz h472 (Nat.le_trans (Nat.le_trans f463 Ea451.1) K466.1) f474 f475 f476 (Exa.keep (Exa.ext Ea451 f453) K466) f477 (Exa.keep (Exa.ext Ea451 f454) K466) f478 f479 f480 (Exa.keep (Exa.ext Ea451 f456) K466) f481 (Exa.keep (Exa.ext Ea451 f457) K466) f482 f483 f484 (Exa.keep (Exa.ext Ea451 f459) K466) f485 (Exa.keep (Exa.ext Ea451 f460) K466) f486 f487 f488 E468 f469 f470 A467 (Ne.symm ne_a451_s0) (Ne.symm ne_a451_s1) (Ne.symm ne_a451_s2) (sta_keep f471 K466 (allS (nst_exa Aa451) all0)) hz) pd_8 rfl rfl rfl rfl (by decide) (by decide) (by decide) (by decide) ?_
    rintro _ h489 ⟨rfl, E473⟩
    show Go κ _ h489 _ _ 155 #[.val (.int p0), .val (.int ((p0 &&& (2147483647 : Int32)) % (3 : Int32))), .val (.ref a420), .val (.ref o0), .val (.ref a451), .unset] [(.ref o0)]
    refine go_astore B #[.val (.int p0), .val (.int ((p0 &&& (2147483647 : Int32)) % (3 : Int32))), .val (.ref a420), .val (.ref o0), .val (.ref a451), .val (.ref o0)] d0_155 rfl rfl ?_
    refine go_aload B d0_157 rfl rfl ?_
    refine go_aload_n B d0_159 rfl rfl ?_
    refine go_acmpne B d0_160 rfl rfl (fun c160 => ?_) (fun c160 => ?_)
    · exact absurd rfl c160
    refine go_aload B d0_163 rfl rfl ?_
    have f490 : n0 ≤ h489.size := (Nat.le_trans (Nat.le_trans (Nat.le_trans f463 Ea451.1) K466.1) E473.1)
    refine go_virtual B (W := 0) (a := o0) (argsL := []) (st := []) d0_165 (w_66 H) (w_67 H) (w_69 H) (w_68 H) (w_3 H) (w_70 H) (by decide) (Exa.ext E473 (Exa.keep (Exa.ext Ea451 f453) K466)) (rmO H o0 s0 h489 f490 (Fld.ext E473 f477)) pd_9 rfl rfl rfl rfl (by decide) (by decide) (by decide) (by decide) ?_
    rintro _ h491 ⟨rfl, rfl⟩
    show Go κ _ h489 _ _ 168 #[.val (.int p0), .val (.int ((p0 &&& (2147483647 : Int32)) % (3 : Int32))), .val (.ref a420), .val (.ref o0), .val (.ref a451), .val (.ref o0)] [(.ref s0)]
    refine go_aload B d0_168 rfl rfl ?_
    have f492 : Sta Z h489 "java/lang/String" "COMPACT_STRINGS" "Z" (.int cz) := (Sta.ext E473 (sta_keep f471 K466 (allS (nst_exa Aa451) all0)))
    refine go_virtual B (W := 0) (a := s0) (argsL := [(.ref a451)]) (st := []) d0_170 (w_71 H) (w_57 H) (w_59 H) (w_58 H) (w_7 H) (w_60 H) (by decide) (Exa.ext E473 (Exa.keep (Exa.ext Ea451 f454) K466)) (rmE00 H s0 v0 a451 b464 cz h489 f490 (Exa.ext E473 (Exa.keep (Exa.ext Ea451 f454) K466)) (Fld.ext E473 f478) (Fld.ext E473 f479) (Exa.ext E473 E468) (Fld.ext E473 f469) (Fld.ext E473 f470) (AV.ext f480 E473) (AV.ext A467 E473) (Ne.symm ne_a451_s0) f492 hz) pd_6 rfl rfl rfl rfl (by decide) (by decide) (by decide) (by decide) ?_
    rintro _ h493 ⟨rfl, rfl⟩
    show Go κ _ h489 _ _ 173 #[.val (.int p0), .val (.int ((p0 &&& (2147483647 : Int32)) % (3 : Int32))), .val (.ref a420), .val (.ref o0), .val (.ref a451), .val (.ref o0)] [(.int (1 : Int32))]
    refine go_ifeq B d0_173 (fun c173 => ?_) (fun c173 => ?_)
    · exact absurd c173 (by decide)
    refine go_iconst B (x := (1 : Int32)) d0_176 rfl ?_
    refine go_goto B d0_177 ?_
    refine go_zreturn B (y := (1 : Int32)) d0_181 (by decide) (by decide) (by decide) ?_
    exact rfl
theorem w_41 {a0 : Array Value} {Z : State} (H : Wd a0 Z) : (Jvm.Cond.laysStatic "com/example/handpick/handpick/Objective" "$VALUES" "[Lcom/example/handpick/handpick/Objective;").before a0 Z = true := H _ (List.mem_of_getElem? (i := 41) rfl)
theorem w_4 {a0 : Array Value} {Z : State} (H : Wd a0 Z) : (Jvm.Cond.laysStatic "com/example/handpick/handpick/Objective" "MAX_SUM" "Lcom/example/handpick/handpick/Objective;").before a0 Z = true := H _ (List.mem_of_getElem? (i := 4) rfl)
theorem w_49 {a0 : Array Value} {Z : State} (H : Wd a0 Z) : (Jvm.Cond.laysStatic "com/example/handpick/handpick/Objective" "MAX_MIN" "Lcom/example/handpick/handpick/Objective;").before a0 Z = true := H _ (List.mem_of_getElem? (i := 49) rfl)
theorem w_50 {a0 : Array Value} {Z : State} (H : Wd a0 Z) : (Jvm.Cond.laysStatic "com/example/handpick/handpick/Objective" "MONO" "Lcom/example/handpick/handpick/Objective;").before a0 Z = true := H _ (List.mem_of_getElem? (i := 50) rfl)
set_option maxRecDepth 65536 in
set_option maxHeartbeats 40000000 in
theorem comes_1 {Post : Tables → Env → Array Value → State → Outcome → State → Prop} (hpost : ∀ tb e args s v u, (limb_1_1.after args s (.returned v) u = true ∧ limb_1_2.after args s (.returned v) u = true ∧ True) → FrameEnd s (.returned v) u (Jvm.fieldLocs frame_1_writes args s ++ Jvm.arrayLocs frame_1_arrays args s ++ Jvm.staticLocs frame_1_statics s) 16 128 → Post tb e args s (.returned v) u) :
    ArmFor flags0 classFile x code maxLocals ret World_1 tables_1 room_1 Calls_1 rest_1 Pre_1 Post := by
  intro l hfl _ _ p e ha hc hk s m args below hf hA hF happ hP
  obtain ⟨hcalls, hrest, hpre⟩ := hP
  obtain ⟨-, -, -, hnamed, -, -, -, hat⟩ := (Spec.applies_iff hf).mp happ
  obtain ⟨hg, hn⟩ := and_e (Cond.before_iff.mp (show (Jvm.Cond.and given_1 narrow_1).before args s = true from hpre))
  obtain ⟨hg0, hg1⟩ := and_e hg
  have hk0 := hg1
  obtain ⟨w0, rfl⟩ : ∃ w0 : Value, args = #[w0] := by
    have hs : args.size = 1 := by simpa [Cond.value, given_1] using hg0
    obtain ⟨L⟩ := args
    match L, hs with
    | [w0], _ => exact ⟨w0, rfl⟩
  have hw : Wd _ s := fun d (hd : d ∈ tables_1) => atoms_spec (ws := Jvm.Cond.code x code maxLocals ret :: tables_1) hat d (List.mem_cons_of_mem _ hd)
  obtain ⟨cj0, rcj0⟩ := and_e hn
  obtain ⟨cj1, rcj1⟩ := and_e rcj0
  obtain ⟨cj2, rcj2⟩ := and_e rcj1
  obtain ⟨cj3, rcj3⟩ := and_e rcj2
  obtain ⟨cj4, rcj4⟩ := and_e rcj3
  obtain ⟨cj5, rcj5⟩ := and_e rcj4
  obtain ⟨cj6, rcj6⟩ := and_e rcj5
  obtain ⟨cj7, rcj7⟩ := and_e rcj6
  obtain ⟨cj8, rcj8⟩ := and_e rcj7
  obtain ⟨cj9, rcj9⟩ := and_e rcj8
  obtain ⟨cj10, rcj10⟩ := and_e rcj9
  obtain ⟨cj11, rcj11⟩ := and_e rcj10
  obtain ⟨cj12, rcj12⟩ := and_e rcj11
  obtain ⟨cj13, rcj13⟩ := and_e rcj12
  obtain ⟨cj14, rcj14⟩ := and_e rcj13
  obtain ⟨cj15, rcj15⟩ := and_e rcj14
  obtain ⟨cj16, rcj16⟩ := and_e rcj15
  obtain ⟨cj17, rcj17⟩ := and_e rcj16
  obtain ⟨cj18, rcj18⟩ := and_e rcj17
  obtain ⟨cj19, rcj19⟩ := and_e rcj18
  obtain ⟨cj20, rcj20⟩ := and_e rcj19
  obtain ⟨cj21, rcj21⟩ := and_e rcj20
  obtain ⟨cj22, rcj22⟩ := and_e rcj21
  obtain ⟨cj23, rcj23⟩ := and_e rcj22
  obtain ⟨cj24, rcj24⟩ := and_e rcj23
  obtain ⟨cj25, rcj25⟩ := and_e rcj24
  obtain ⟨cj26, rcj26⟩ := and_e rcj25
  obtain ⟨cj27, rcj27⟩ := and_e rcj26
  obtain ⟨cj28, rcj28⟩ := and_e rcj27
  obtain ⟨cj29, rcj29⟩ := and_e rcj28
  obtain ⟨cj30, rcj30⟩ := and_e rcj29
  obtain ⟨cj31, rcj31⟩ := and_e rcj30
  obtain ⟨cj32, rcj32⟩ := and_e rcj31
  obtain ⟨cj33, rcj33⟩ := and_e rcj32
  obtain ⟨cj34, rcj34⟩ := and_e rcj33
  obtain ⟨cj35, rcj35⟩ := and_e rcj34
  obtain ⟨cj36, rcj36⟩ := and_e rcj35
  obtain ⟨cj37, rcj37⟩ := and_e rcj36
  have cj38 := rcj37
  obtain ⟨hsets, hown0⟩ := atoms_of _ (rest_1_c_eq ▸ (show rest_1_c.before _ s = true from hrest))
  obtain ⟨cz, ecz⟩ := is_v (Cond.before_iff.mp (hsets _ (List.mem_of_getElem? (i := 1) rfl)))
  have SC := Sta.start ecz (Or.inl (hsets _ (List.mem_of_getElem? (i := 0) rfl)))
  have hz : ¬ cz = 0 := gotF (Cond.eq_ints ecz (Term.int_eval (0))) (not_v (Cond.before_iff.mp (hsets _ (List.mem_of_getElem? (i := 2) rfl))))
  obtain ⟨av, eav⟩ := exa_v cj2
  have EV := Exa.start eav cj2
  have SV := Sta.start eav (Or.inr ⟨(w_3 hw), (w_41 hw)⟩)
  obtain ⟨o0, eo0⟩ := exa_v cj0
  have EO0 := Exa.start eo0 cj0
  have SO0 := Sta.start eo0 (Or.inr ⟨(w_3 hw), (w_4 hw)⟩)
  obtain ⟨s0, es0⟩ := exa_v cj9
  have E_s0 := Exa.start es0 cj9
  have FO0 := Fld.start ((fld_at eo0).symm.trans es0)
  have F1_s0 := int_fld es0 cj10
  obtain ⟨v0, ev0⟩ := arr_v cj11
  have F0_s0 := Fld.start ((fld_at es0).symm.trans ev0)
  have A_v0 := av_ints (xs := [(109 : Int32), (97 : Int32), (120 : Int32), (45 : Int32), (115 : Int32), (117 : Int32), (109 : Int32)]) ev0 cj11 (cj12 :) (fun i hi => match i, hi with | 0, _ => cj25 | 1, _ => cj26 | 2, _ => cj27 | 3, _ => cj28 | 4, _ => cj29 | 5, _ => cj30 | 6, _ => cj31)
  obtain ⟨o1, eo1⟩ := exa_v cj5
  have EO1 := Exa.start eo1 cj5
  have SO1 := Sta.start eo1 (Or.inr ⟨(w_3 hw), (w_49 hw)⟩)
  obtain ⟨s1, es1⟩ := exa_v cj13
  have E_s1 := Exa.start es1 cj13
  have FO1 := Fld.start ((fld_at eo1).symm.trans es1)
  have F1_s1 := int_fld es1 cj14
  obtain ⟨v1, ev1⟩ := arr_v cj15
  have F0_s1 := Fld.start ((fld_at es1).symm.trans ev1)
  have A_v1 := av_ints (xs := [(109 : Int32), (97 : Int32), (120 : Int32), (45 : Int32), (109 : Int32), (105 : Int32), (110 : Int32)]) ev1 cj15 (cj16 :) (fun i hi => match i, hi with | 0, _ => cj32 | 1, _ => cj33 | 2, _ => cj34 | 3, _ => cj35 | 4, _ => cj36 | 5, _ => cj37 | 6, _ => cj38)
  obtain ⟨o2, eo2⟩ := exa_v cj7
  have EO2 := Exa.start eo2 cj7
  have SO2 := Sta.start eo2 (Or.inr ⟨(w_3 hw), (w_50 hw)⟩)
  obtain ⟨s2, es2⟩ := exa_v cj17
  have E_s2 := Exa.start es2 cj17
  have FO2 := Fld.start ((fld_at eo2).symm.trans es2)
  have F1_s2 := int_fld es2 cj18
  obtain ⟨v2, ev2⟩ := arr_v cj19
  have F0_s2 := Fld.start ((fld_at es2).symm.trans ev2)
  have A_v2 := av_ints (xs := [(109 : Int32), (111 : Int32), (110 : Int32), (111 : Int32)]) ev2 cj19 (cj20 :) (fun i hi => match i, hi with | 0, _ => cj21 | 1, _ => cj22 | 2, _ => cj23 | 3, _ => cj24)
  have AV0 := av_refs (bs := [o0, o1, o2]) eav cj1 cj3 (fun i hi => match i, hi with | 0, _ => ⟨_, eo0, cj4⟩ | 1, _ => ⟨_, eo1, cj6⟩ | 2, _ => ⟨_, eo2, cj8⟩)
  obtain ⟨i0, e0⟩ := is_v hk0
  obtain rfl : w0 = (.int i0) := Option.some.inj e0
  obtain ⟨n, o, h1, h2, h3, _, L, rfl, ⟨rfl, N⟩, hq⟩ := rm0 (l := l) hw i0 s.heap (Nat.le_refl _) SV AV0 EV EO0 FO0 E_s0 F0_s0 F1_s0 A_v0 EO1 FO1 E_s1 F0_s1 F1_s1 A_v1 EO2 FO2 E_s2 F0_s2 F1_s2 A_v2 SO0 SO1 SO2 SC hz p e ha hc hk s m _ below hf ((Spec.applies_iff_loose hf).mp happ).1 ⟨rfl, State.Warmed39.refl s, rfl⟩ trivial
  refine ⟨n, _, h1, h2, h3, hpost _ _ _ _ _ _ ⟨Cond.after_iff.mpr rfl, Cond.after_iff.mpr (eq_i res_at (Term.int_eval (1)) rfl), trivial⟩ ⟨hq.1, hq.2.1, (hq.2.2.sift fun y hy => Or.inr (N y hy)).mono (by decide) (by decide)⟩⟩
theorem main_1_1 : Claimed_1_1 := comes_1 fun _ _ _ _ _ _ h hF => ⟨h.1, hF⟩
theorem main_1_2 : Claimed_1_2 := comes_1 fun _ _ _ _ _ _ h hF => ⟨h.2.1, hF⟩
end Jvm.Pilot.@@N@@
namespace Jvm.Pilot.@@N@@
open Jvm Jvm.ClassFile Sem Op Lib Jvm.Free Jvm.Stand Jvm.Pilot.@@N@@.Jvm.D
/-! MADE BY PROGRAM (witnessworld.py) out of the Statement's table words and the real class files: 22 classes; the members and pool entries that the words name. The judged class is class 1, her method 1. -/
namespace start1
open Jvm.ClassFile
def u (s : String) : CpInfo := .utf8 (stringToUtf16 s)
/-- a pool by its gaps: so many unusable entries, then the entry; so many at the end -/
def gap : Nat → List CpInfo → List CpInfo
  | 0, r => r
  | n + 1, r => .unusable :: gap n r
def poolList (es : List (Nat × CpInfo)) (last : Nat) : List CpInfo := es.foldr (fun e r => gap e.1 (e.2 :: r)) (gap last [])
def pool (es : List (Nat × CpInfo)) (last : Nat) : Array CpInfo := ⟨poolList es last⟩
def fileOf (pool : Array CpInfo) (this : Nat) (attrs : Array Attribute := #[]) (ms : Array MethodInfo := #[]) (fl : Nat := 33) (sup : Nat := 0) (ifs : Array Nat := #[]) (fds : Array FieldInfo := #[]) : ClassFile where
  minorVersion := 0
  majorVersion := 65
  constantPool := pool
  accessFlags := fl
  thisClass := this
  superClass := sup
  interfaces := ifs
  fields := fds
  methods := ms
  attributes := attrs
def plain (name : String) (sup : Option ClassId) : Class where
  name := name
  kind := .ordinary
  loader := none
  accessFlags := 33
  super := sup
  interfaces := #[]
  cf := none
  fields := #[]
  methods := #[]
  instanceTypes := #[]
  staticTypes := #[]
  resolved := #[]
  callSites := []
  init := .initialized
  statics := none
  mirror := none

def pool0 : Array CpInfo := pool [(5, u "<init>"), (0, u "()V"), (1, .class_ 10), (1, u "java/lang/Object"), (85, u "clone"), (0, u "()Ljava/lang/Object;")] 26

def k0c0 : Code := { maxStack := 0, maxLocals := 1, code := object_method_1_code, exceptionTable := #[], attributes := #[] }
def k0m0 : Method := { name := "<init>", desc := "()V", sig := { parameters := [], returnType := none }, accessFlags := 1, code := some k0c0 }
def k0m1 : Method := { name := "clone", desc := "()Ljava/lang/Object;", sig := { parameters := [], returnType := some (.object "java/lang/Object") }, accessFlags := 260, code := none }
/-- java/lang/Object -/
def k0 : Class := { plain "java/lang/Object" none with
  accessFlags := 33
  interfaces := #[]
  cf := some (fileOf pool0 8 #[] #[{ accessFlags := 1, nameIndex := 5, descriptorIndex := 6, attributes := #[] }, { accessFlags := 260, nameIndex := 96, descriptorIndex := 97, attributes := #[] }] 33 0 #[] #[])
  fields := #[]
  methods := #[k0m0, k0m1]
  instanceTypes := #[]
  staticTypes := #[]
  resolved := Array.replicate 124 none
  statics := none }

def pool1 : Array CpInfo := pool [(2, .class_ 4), (1, u "java/lang/Object"), (0, u "<init>"), (0, u "()V"), (0, .integer 2147483647), (0, .fieldref 9 10), (0, .class_ 11), (0, .nameAndType 12 13), (0, u "com/example/handpick/handpick/Objective"), (0, u "MAX_SUM"), (0, u "Lcom/example/handpick/handpick/Objective;"), (0, .fieldref 9 15), (0, .nameAndType 16 13), (0, u "MAX_MIN"), (0, .fieldref 9 18), (0, .nameAndType 19 13), (0, u "MONO"), (0, .class_ 21), (0, u "java/lang/String"), (0, .methodref 20 23), (0, .nameAndType 5 24), (0, u "([C)V"), (0, .methodref 9 26), (0, .nameAndType 27 28), (0, u "parse"), (0, u "(Ljava/lang/String;)Lcom/example/handpick/handpick/Objective;"), (0, .methodref 9 30), (0, .nameAndType 31 32), (0, u "toString"), (0, u "()Ljava/lang/String;"), (0, .methodref 20 34), (0, .nameAndType 35 36), (0, u "equals"), (0, u "(Ljava/lang/Object;)Z"), (0, .class_ 38), (0, u "com/example/handpick/handpick/ObjectiveParsePinLaw"), (2, u "law"), (0, u "(I)Z")] 5

def k1m0 : Method := { name := "<init>", desc := "()V", sig := { parameters := [], returnType := none }, accessFlags := 1, code := none }
def k1c1 : Code := { maxStack := 4, maxLocals := 6, code := code, exceptionTable := #[], attributes := #[] }
def k1m1 : Method := { name := "law", desc := "(I)Z", sig := { parameters := [.int], returnType := some .boolean }, accessFlags := 9, code := some k1c1 }
/-- com/example/handpick/handpick/ObjectiveParsePinLaw -/
def k1 : Class := { plain "com/example/handpick/handpick/ObjectiveParsePinLaw" (some 0) with
  accessFlags := 49
  interfaces := #[]
  cf := some (fileOf pool1 37 #[] #[{ accessFlags := 1, nameIndex := 5, descriptorIndex := 6, attributes := #[] }, { accessFlags := 9, nameIndex := 41, descriptorIndex := 42, attributes := #[] }] 49 2 #[] #[])
  fields := #[]
  methods := #[k1m0, k1m1]
  instanceTypes := #[]
  staticTypes := #[]
  resolved := Array.replicate 48 none
  statics := none }

def pool2 : Array CpInfo := pool [(1, .class_ 2), (0, u "java/lang/constant/Constable"), (0, .class_ 4), (0, u "java/lang/Object")] 6

/-- java/lang/constant/Constable -/
def k2 : Class := { plain "java/lang/constant/Constable" (some 0) with
  accessFlags := 1537
  interfaces := #[]
  cf := some (fileOf pool2 1 #[] #[] 1537 3 #[] #[])
  fields := #[]
  methods := #[]
  instanceTypes := #[]
  staticTypes := #[]
  resolved := Array.replicate 11 none
  statics := none }

def pool3 : Array CpInfo := pool [(1, .class_ 2), (0, u "java/lang/Comparable"), (0, .class_ 4), (0, u "java/lang/Object")] 7

/-- java/lang/Comparable -/
def k3 : Class := { plain "java/lang/Comparable" (some 0) with
  accessFlags := 1537
  interfaces := #[]
  cf := some (fileOf pool3 1 #[] #[] 1537 3 #[] #[])
  fields := #[]
  methods := #[]
  instanceTypes := #[]
  staticTypes := #[]
  resolved := Array.replicate 12 none
  statics := none }

def pool4 : Array CpInfo := pool [(1, .class_ 2), (0, u "java/io/Serializable"), (0, .class_ 4), (0, u "java/lang/Object")] 2

/-- java/io/Serializable -/
def k4 : Class := { plain "java/io/Serializable" (some 0) with
  accessFlags := 1537
  interfaces := #[]
  cf := some (fileOf pool4 1 #[] #[] 1537 3 #[] #[])
  fields := #[]
  methods := #[]
  instanceTypes := #[]
  staticTypes := #[]
  resolved := Array.replicate 7 none
  statics := none }

def pool5 : Array CpInfo := pool [(2, .class_ 4), (1, u "java/lang/Enum"), (0, u "name"), (0, u "Ljava/lang/String;"), (2, u "ordinal"), (0, u "I"), (1, .class_ 14), (1, u "java/lang/Object"), (4, u "hash"), (86, .class_ 108), (1, u "java/lang/Enum$EnumDesc"), (2, .class_ 112), (0, u "java/lang/constant/Constable"), (0, .class_ 114), (0, u "java/lang/Comparable"), (0, .class_ 116), (0, u "java/io/Serializable")] 87

/-- java/lang/Enum -/
def k5 : Class := { plain "java/lang/Enum" (some 0) with
  accessFlags := 1057
  interfaces := #[2, 3, 4]
  cf := some (fileOf pool5 2 #[.nestMembers #[106]] #[] 1057 12 #[111, 113, 115] #[{ accessFlags := 18, nameIndex := 5, descriptorIndex := 6, attributes := #[] }, { accessFlags := 18, nameIndex := 9, descriptorIndex := 10, attributes := #[] }, { accessFlags := 2, nameIndex := 19, descriptorIndex := 10, attributes := #[] }])
  fields := #[{ name := "name", type := (.object "java/lang/String"), accessFlags := 18, slot := 0, constantValue := 0 }, { name := "ordinal", type := .int, accessFlags := 18, slot := 1, constantValue := 0 }, { name := "hash", type := .int, accessFlags := 2, slot := 2, constantValue := 0 }]
  methods := #[]
  instanceTypes := #[(.object "java/lang/String"), .int, .int]
  staticTypes := #[]
  resolved := Array.replicate 204 none
  statics := none }

def pool6 : Array CpInfo := pool [(1, .class_ 2), (0, u "com/example/handpick/handpick/Objective"), (2, u "MAX_SUM"), (0, u "Lcom/example/handpick/handpick/Objective;"), (2, u "MAX_MIN"), (2, u "MONO"), (0, .fieldref 1 14), (0, .nameAndType 15 16), (0, u "$VALUES"), (0, u "[Lcom/example/handpick/handpick/Objective;"), (0, .methodref 18 19), (0, .class_ 16), (0, .nameAndType 20 21), (0, u "clone"), (0, u "()Ljava/lang/Object;"), (1, .class_ 25), (1, u "java/lang/Enum"), (6, .fieldref 1 33), (0, .nameAndType 34 35), (0, u "name"), (0, u "Ljava/lang/String;"), (0, .methodref 1 37), (0, .nameAndType 38 39), (0, u "values"), (0, u "()[Lcom/example/handpick/handpick/Objective;"), (0, .methodref 41 42), (0, .class_ 43), (0, .nameAndType 44 45), (0, u "java/lang/String"), (0, u "equals"), (0, u "(Ljava/lang/Object;)Z"), (26, u "(Ljava/lang/String;)Lcom/example/handpick/handpick/Objective;"), (2, u "parse"), (1, u "toString"), (0, u "()Ljava/lang/String;")] 20

def k6c0 : Code := { maxStack := 1, maxLocals := 0, code := prog_59_method_1_code, exceptionTable := #[], attributes := #[] }
def k6m0 : Method := { name := "values", desc := "()[Lcom/example/handpick/handpick/Objective;", sig := { parameters := [], returnType := some (.array (.object "com/example/handpick/handpick/Objective")) }, accessFlags := 9, code := some k6c0 }
def k6c1 : Code := { maxStack := 3, maxLocals := 5, code := prog_59_method_4_code, exceptionTable := #[], attributes := #[] }
def k6m1 : Method := { name := "parse", desc := "(Ljava/lang/String;)Lcom/example/handpick/handpick/Objective;", sig := { parameters := [(.object "java/lang/String")], returnType := some (.object "com/example/handpick/handpick/Objective") }, accessFlags := 9, code := some k6c1 }
def k6c2 : Code := { maxStack := 1, maxLocals := 1, code := prog_59_method_5_code, exceptionTable := #[], attributes := #[] }
def k6m2 : Method := { name := "toString", desc := "()Ljava/lang/String;", sig := { parameters := [], returnType := some (.object "java/lang/String") }, accessFlags := 1, code := some k6c2 }
/-- com/example/handpick/handpick/Objective -/
def k6 : Class := { plain "com/example/handpick/handpick/Objective" (some 5) with
  accessFlags := 16433
  interfaces := #[]
  cf := some (fileOf pool6 1 #[] #[{ accessFlags := 9, nameIndex := 38, descriptorIndex := 39, attributes := #[] }, { accessFlags := 9, nameIndex := 75, descriptorIndex := 72, attributes := #[] }, { accessFlags := 1, nameIndex := 77, descriptorIndex := 78, attributes := #[] }] 16433 23 #[] #[{ accessFlags := 16409, nameIndex := 5, descriptorIndex := 6, attributes := #[] }, { accessFlags := 16409, nameIndex := 9, descriptorIndex := 6, attributes := #[] }, { accessFlags := 16409, nameIndex := 12, descriptorIndex := 6, attributes := #[] }, { accessFlags := 18, nameIndex := 34, descriptorIndex := 35, attributes := #[] }, { accessFlags := 4122, nameIndex := 15, descriptorIndex := 16, attributes := #[] }])
  fields := #[{ name := "MAX_SUM", type := (.object "com/example/handpick/handpick/Objective"), accessFlags := 16409, slot := 0, constantValue := 0 }, { name := "MAX_MIN", type := (.object "com/example/handpick/handpick/Objective"), accessFlags := 16409, slot := 1, constantValue := 0 }, { name := "MONO", type := (.object "com/example/handpick/handpick/Objective"), accessFlags := 16409, slot := 2, constantValue := 0 }, { name := "name", type := (.object "java/lang/String"), accessFlags := 18, slot := 3, constantValue := 0 }, { name := "$VALUES", type := (.array (.object "com/example/handpick/handpick/Objective")), accessFlags := 4122, slot := 3, constantValue := 0 }]
  methods := #[k6m0, k6m1, k6m2]
  instanceTypes := #[(.object "java/lang/String"), .int, .int, (.object "java/lang/String")]
  staticTypes := #[(.object "com/example/handpick/handpick/Objective"), (.object "com/example/handpick/handpick/Objective"), (.object "com/example/handpick/handpick/Objective"), (.array (.object "com/example/handpick/handpick/Objective"))]
  resolved := Array.replicate 99 none
  statics := some 0 }

def pool7 : Array CpInfo := pool [(2, .class_ 4), (1, u "java/lang/CharSequence"), (42, .class_ 48), (0, u "java/lang/CharSequence$1CodePointIterator"), (10, .class_ 60), (0, u "java/lang/CharSequence$1CharIterator"), (5, .class_ 67), (0, u "java/lang/Object")] 63

/-- java/lang/CharSequence -/
def k7 : Class := { plain "java/lang/CharSequence" (some 0) with
  accessFlags := 1537
  interfaces := #[]
  cf := some (fileOf pool7 2 #[.nestMembers #[47, 59]] #[] 1537 66 #[] #[])
  fields := #[]
  methods := #[]
  instanceTypes := #[]
  staticTypes := #[]
  resolved := Array.replicate 131 none
  statics := none }

def pool8 : Array CpInfo := pool [(1, .class_ 2), (0, u "java/lang/constant/ConstantDesc"), (0, .class_ 4), (0, u "java/lang/Object")] 32

/-- java/lang/constant/ConstantDesc -/
def k8 : Class := { plain "java/lang/constant/ConstantDesc" (some 0) with
  accessFlags := 1537
  interfaces := #[]
  cf := some (fileOf pool8 1 #[] #[] 1537 3 #[] #[])
  fields := #[]
  methods := #[]
  instanceTypes := #[]
  staticTypes := #[]
  resolved := Array.replicate 37 none
  statics := none }

def pool9 : Array CpInfo := pool [(1, .methodref 2 3), (0, .class_ 4), (0, .nameAndType 5 6), (0, u "java/lang/Object"), (0, u "<init>"), (0, u "()V"), (2, .fieldref 10 11), (0, .class_ 12), (0, .nameAndType 13 14), (0, u "java/lang/String"), (0, u "value"), (0, u "[B"), (0, .fieldref 10 16), (0, .nameAndType 17 18), (0, u "coder"), (0, u "B"), (2, u "hash"), (0, u "I"), (2, u "hashIsZero"), (0, u "Z"), (0, .methodref 10 28), (0, .nameAndType 5 29), (0, u "([CIILjava/lang/Void;)V"), (8, .fieldref 10 39), (0, .nameAndType 40 26), (0, u "COMPACT_STRINGS"), (1, .class_ 44), (1, u "java/lang/StringUTF16"), (0, u "compress"), (1, .methodref 42 48), (0, .nameAndType 49 50), (0, u "coderFromArrayLen"), (0, u "([BI)B"), (56, .class_ 109), (1, u "java/lang/StringLatin1"), (67, .methodref 42 178), (0, .nameAndType 45 179), (0, u "([CII)[B"), (361, .methodref 107 542), (0, .nameAndType 543 544), (0, u "equals"), (0, u "([B[B)Z"), (28, u "(Ljava/lang/Object;)Z"), (1, .class_ 576), (0, u "java/lang/CharSequence"), (22, u "CASE_INSENSITIVE_ORDER"), (0, u "Ljava/util/Comparator;"), (409, u "([C)V"), (90, u "serialPersistentFields"), (0, u "[Ljava/io/ObjectStreamField;"), (0, .class_ 1104), (0, u "java/lang/String$CaseInsensitiveComparator"), (1, .class_ 1107), (0, u "java/io/Serializable"), (0, .class_ 1109), (0, u "java/lang/Comparable"), (0, .class_ 1111), (0, u "java/lang/constant/Constable"), (0, .class_ 1113), (0, u "java/lang/constant/ConstantDesc"), (2, u "serialVersionUID"), (0, u "J"), (3, u "REPL"), (0, u "C"), (2, u "LATIN1"), (1, u "UTF16")] 323

def k9m0 : Method := { name := "<init>", desc := "()V", sig := { parameters := [], returnType := none }, accessFlags := 1, code := none }
def k9c1 : Code := { maxStack := 5, maxLocals := 2, code := jdk_42_method_3_code, exceptionTable := #[], attributes := #[] }
def k9m1 : Method := { name := "<init>", desc := "([C)V", sig := { parameters := [(.array .char)], returnType := none }, accessFlags := 1, code := some k9c1 }
def k9c2 : Code := { maxStack := 2, maxLocals := 3, code := jdk_42_method_66_code, exceptionTable := #[], attributes := #[] }
def k9m2 : Method := { name := "equals", desc := "(Ljava/lang/Object;)Z", sig := { parameters := [(.object "java/lang/Object")], returnType := some .boolean }, accessFlags := 1, code := some k9c2 }
def k9c3 : Code := { maxStack := 4, maxLocals := 6, code := jdk_42_method_149_code, exceptionTable := #[], attributes := #[] }
def k9m3 : Method := { name := "<init>", desc := "([CIILjava/lang/Void;)V", sig := { parameters := [(.array .char), .int, .int, (.object "java/lang/Void")], returnType := none }, accessFlags := 2, code := some k9c3 }
/-- java/lang/String -/
def k9 : Class := { plain "java/lang/String" (some 0) with
  accessFlags := 49
  interfaces := #[4, 3, 7, 2, 8]
  cf := some (fileOf pool9 10 #[.nestMembers #[1103]] #[{ accessFlags := 1, nameIndex := 5, descriptorIndex := 6, attributes := #[] }, { accessFlags := 1, nameIndex := 5, descriptorIndex := 1010, attributes := #[] }, { accessFlags := 1, nameIndex := 543, descriptorIndex := 573, attributes := #[] }, { accessFlags := 2, nameIndex := 5, descriptorIndex := 29, attributes := #[] }] 49 2 #[1106, 1108, 575, 1110, 1112] #[{ accessFlags := 18, nameIndex := 13, descriptorIndex := 14, attributes := #[] }, { accessFlags := 18, nameIndex := 17, descriptorIndex := 18, attributes := #[] }, { accessFlags := 2, nameIndex := 21, descriptorIndex := 22, attributes := #[] }, { accessFlags := 2, nameIndex := 25, descriptorIndex := 26, attributes := #[] }, { accessFlags := 26, nameIndex := 1116, descriptorIndex := 1117, attributes := #[] }, { accessFlags := 24, nameIndex := 40, descriptorIndex := 26, attributes := #[] }, { accessFlags := 26, nameIndex := 1101, descriptorIndex := 1102, attributes := #[] }, { accessFlags := 26, nameIndex := 1121, descriptorIndex := 1122, attributes := #[] }, { accessFlags := 25, nameIndex := 599, descriptorIndex := 600, attributes := #[] }, { accessFlags := 24, nameIndex := 1125, descriptorIndex := 18, attributes := #[] }, { accessFlags := 24, nameIndex := 1127, descriptorIndex := 18, attributes := #[] }])
  fields := #[{ name := "value", type := (.array .byte), accessFlags := 18, slot := 0, constantValue := 0 }, { name := "coder", type := .byte, accessFlags := 18, slot := 1, constantValue := 0 }, { name := "hash", type := .int, accessFlags := 2, slot := 2, constantValue := 0 }, { name := "hashIsZero", type := .boolean, accessFlags := 2, slot := 3, constantValue := 0 }, { name := "serialVersionUID", type := .long, accessFlags := 26, slot := 0, constantValue := 0 }, { name := "COMPACT_STRINGS", type := .boolean, accessFlags := 24, slot := 1, constantValue := 0 }, { name := "serialPersistentFields", type := (.array (.object "java/io/ObjectStreamField")), accessFlags := 26, slot := 2, constantValue := 0 }, { name := "REPL", type := .char, accessFlags := 26, slot := 3, constantValue := 0 }, { name := "CASE_INSENSITIVE_ORDER", type := (.object "java/util/Comparator"), accessFlags := 25, slot := 4, constantValue := 0 }, { name := "LATIN1", type := .byte, accessFlags := 24, slot := 5, constantValue := 0 }, { name := "UTF16", type := .byte, accessFlags := 24, slot := 6, constantValue := 0 }]
  methods := #[k9m0, k9m1, k9m2, k9m3]
  instanceTypes := #[(.array .byte), .byte, .int, .boolean]
  staticTypes := #[.long, .boolean, (.array (.object "java/io/ObjectStreamField")), .char, (.object "java/util/Comparator"), .byte, .byte]
  resolved := Array.replicate 1451 none
  statics := some 1 }

def pool10 : Array CpInfo := pool [(6, .class_ 8), (1, u "java/lang/Object"), (0, u "<init>"), (0, u "()V"), (1, .class_ 14), (1, u "java/lang/StringUTF16"), (31, u "$assertionsDisabled"), (0, u "Z"), (13, u "HI_BYTE_SHIFT"), (0, u "I"), (2, u "LO_BYTE_SHIFT"), (49, .methodref 12 116), (0, .nameAndType 117 118), (0, u "compress"), (0, u "([CI[BII)I"), (3, u "([CII)[B"), (138, u "coderFromArrayLen"), (0, u "([BI)B"), (106, .class_ 371), (1, u "java/lang/StringUTF16$LinesSpliterator"), (58, u "MAX_LENGTH"), (196, .class_ 628), (0, u "java/lang/StringUTF16$CodePointsSpliterator"), (0, .class_ 630), (0, u "java/lang/StringUTF16$CharsSpliterator")] 4

def k10m0 : Method := { name := "<init>", desc := "()V", sig := { parameters := [], returnType := none }, accessFlags := 0, code := none }
def k10c1 : Code := { maxStack := 2, maxLocals := 2, code := jdk_52_method_15_code, exceptionTable := #[], attributes := #[] }
def k10m1 : Method := { name := "coderFromArrayLen", desc := "([BI)B", sig := { parameters := [(.array .byte), .int], returnType := some .byte }, accessFlags := 8, code := some k10c1 }
def k10c2 : Code := { maxStack := 5, maxLocals := 6, code := jdk_52_method_16_code, exceptionTable := #[], attributes := #[] }
def k10m2 : Method := { name := "compress", desc := "([CII)[B", sig := { parameters := [(.array .char), .int, .int], returnType := some (.array .byte) }, accessFlags := 9, code := some k10c2 }
def k10c3 : Code := { maxStack := 3, maxLocals := 7, code := jdk_52_method_21_code, exceptionTable := #[], attributes := #[] }
def k10m3 : Method := { name := "compress", desc := "([CI[BII)I", sig := { parameters := [(.array .char), .int, (.array .byte), .int, .int], returnType := some .int }, accessFlags := 9, code := some k10c3 }
/-- java/lang/StringUTF16 -/
def k10 : Class := { plain "java/lang/StringUTF16" (some 0) with
  accessFlags := 48
  interfaces := #[]
  cf := some (fileOf pool10 12 #[.nestMembers #[627, 629, 369]] #[{ accessFlags := 0, nameIndex := 9, descriptorIndex := 10, attributes := #[] }, { accessFlags := 8, nameIndex := 261, descriptorIndex := 262, attributes := #[] }, { accessFlags := 9, nameIndex := 117, descriptorIndex := 122, attributes := #[] }, { accessFlags := 9, nameIndex := 117, descriptorIndex := 118, attributes := #[] }] 48 6 #[] #[{ accessFlags := 26, nameIndex := 61, descriptorIndex := 62, attributes := #[] }, { accessFlags := 26, nameIndex := 65, descriptorIndex := 62, attributes := #[] }, { accessFlags := 24, nameIndex := 430, descriptorIndex := 62, attributes := #[] }, { accessFlags := 4120, nameIndex := 46, descriptorIndex := 47, attributes := #[] }])
  fields := #[{ name := "HI_BYTE_SHIFT", type := .int, accessFlags := 26, slot := 0, constantValue := 0 }, { name := "LO_BYTE_SHIFT", type := .int, accessFlags := 26, slot := 1, constantValue := 0 }, { name := "MAX_LENGTH", type := .int, accessFlags := 24, slot := 2, constantValue := 0 }, { name := "$assertionsDisabled", type := .boolean, accessFlags := 4120, slot := 3, constantValue := 0 }]
  methods := #[k10m0, k10m1, k10m2, k10m3]
  instanceTypes := #[]
  staticTypes := #[.int, .int, .int, .boolean]
  resolved := Array.replicate 635 none
  statics := none }

def pool11 : Array CpInfo := pool [(1, .class_ 2), (0, u "java/lang/Cloneable"), (0, .class_ 4), (0, u "java/lang/Object")] 2

/-- java/lang/Cloneable -/
def k11 : Class := { plain "java/lang/Cloneable" (some 0) with
  accessFlags := 1537
  interfaces := #[]
  cf := some (fileOf pool11 1 #[] #[] 1537 3 #[] #[])
  fields := #[]
  methods := #[]
  instanceTypes := #[]
  staticTypes := #[]
  resolved := Array.replicate 7 none
  statics := none }

def pool12 : Array CpInfo := pool [(4, .class_ 6), (1, u "java/lang/Object"), (0, u "<init>"), (0, u "()V"), (5, .class_ 16), (1, u "java/lang/StringLatin1"), (104, u "$assertionsDisabled"), (0, u "Z"), (98, .class_ 223), (1, u "java/lang/StringLatin1$LinesSpliterator"), (57, u "equals"), (0, u "([B[B)Z"), (107, .class_ 391), (0, u "java/lang/StringLatin1$CharsSpliterator")] 3

def k12m0 : Method := { name := "<init>", desc := "()V", sig := { parameters := [], returnType := none }, accessFlags := 0, code := none }
def k12c1 : Code := { maxStack := 3, maxLocals := 3, code := jdk_43_method_13_code, exceptionTable := #[], attributes := #[] }
def k12m1 : Method := { name := "equals", desc := "([B[B)Z", sig := { parameters := [(.array .byte), (.array .byte)], returnType := some .boolean }, accessFlags := 9, code := some k12c1 }
/-- java/lang/StringLatin1 -/
def k12 : Class := { plain "java/lang/StringLatin1" (some 0) with
  accessFlags := 48
  interfaces := #[]
  cf := some (fileOf pool12 14 #[.nestMembers #[390, 221]] #[{ accessFlags := 0, nameIndex := 7, descriptorIndex := 8, attributes := #[] }, { accessFlags := 9, nameIndex := 281, descriptorIndex := 282, attributes := #[] }] 48 4 #[] #[{ accessFlags := 4120, nameIndex := 121, descriptorIndex := 122, attributes := #[] }])
  fields := #[{ name := "$assertionsDisabled", type := .boolean, accessFlags := 4120, slot := 0, constantValue := 0 }]
  methods := #[k12m0, k12m1]
  instanceTypes := #[]
  staticTypes := #[.boolean]
  resolved := Array.replicate 395 none
  statics := none }

def pool13 : Array CpInfo := pool [(2, .class_ 4), (1, u "java/lang/Object"), (0, u "<init>"), (0, u "()V"), (17, .class_ 26), (1, u "jdk/internal/util/Preconditions"), (28, .class_ 56), (0, u "jdk/internal/util/Preconditions$4"), (57, .class_ 115), (0, u "jdk/internal/util/Preconditions$1"), (7, u "SIOOBE_FORMATTER"), (0, u "Ljava/util/function/BiFunction;"), (0, .class_ 126), (0, u "jdk/internal/util/Preconditions$2"), (3, u "AIOOBE_FORMATTER"), (0, .class_ 132), (0, u "jdk/internal/util/Preconditions$3"), (3, u "IOOBE_FORMATTER")] 57

def k13m0 : Method := { name := "<init>", desc := "()V", sig := { parameters := [], returnType := none }, accessFlags := 1, code := none }
/-- jdk/internal/util/Preconditions -/
def k13 : Class := { plain "jdk/internal/util/Preconditions" (some 0) with
  accessFlags := 33
  interfaces := #[]
  cf := some (fileOf pool13 24 #[.nestMembers #[55, 131, 125, 114]] #[{ accessFlags := 1, nameIndex := 5, descriptorIndex := 6, attributes := #[] }] 33 2 #[] #[{ accessFlags := 25, nameIndex := 123, descriptorIndex := 124, attributes := #[] }, { accessFlags := 25, nameIndex := 130, descriptorIndex := 124, attributes := #[] }, { accessFlags := 25, nameIndex := 136, descriptorIndex := 124, attributes := #[] }])
  fields := #[{ name := "SIOOBE_FORMATTER", type := (.object "java/util/function/BiFunction"), accessFlags := 25, slot := 0, constantValue := 0 }, { name := "AIOOBE_FORMATTER", type := (.object "java/util/function/BiFunction"), accessFlags := 25, slot := 1, constantValue := 0 }, { name := "IOOBE_FORMATTER", type := (.object "java/util/function/BiFunction"), accessFlags := 25, slot := 2, constantValue := 0 }]
  methods := #[k13m0]
  instanceTypes := #[]
  staticTypes := #[(.object "java/util/function/BiFunction"), (.object "java/util/function/BiFunction"), (.object "java/util/function/BiFunction")]
  resolved := Array.replicate 194 none
  statics := some 2 }

def pool14 : Array CpInfo := pool [(9, u "<init>"), (6, .class_ 18), (1, u "java/lang/Object"), (0, u "()V"), (1, .class_ 23), (1, u "jdk/internal/util/ArraysSupport"), (0, u "LOG2_ARRAY_LONG_INDEX_SCALE"), (0, u "I"), (2, u "U"), (0, u "Ljdk/internal/misc/Unsafe;"), (8, u "BIG_ENDIAN"), (0, u "Z"), (8, u "LOG2_BYTE_BIT_SIZE"), (4, u "LOG2_ARRAY_INT_INDEX_SCALE"), (54, u "JLA"), (0, u "Ljdk/internal/access/JavaLangAccess;"), (11, u "LOG2_ARRAY_BOOLEAN_INDEX_SCALE"), (9, u "LOG2_ARRAY_BYTE_INDEX_SCALE"), (5, u "LOG2_ARRAY_CHAR_INDEX_SCALE"), (5, u "LOG2_ARRAY_SHORT_INDEX_SCALE"), (18, u "LOG2_ARRAY_FLOAT_INDEX_SCALE"), (24, u "LOG2_ARRAY_DOUBLE_INDEX_SCALE"), (89, u "T_BOOLEAN"), (2, u "T_CHAR"), (1, u "T_FLOAT"), (1, u "T_DOUBLE"), (1, u "T_BYTE"), (1, u "T_SHORT"), (1, u "T_INT"), (1, u "T_LONG"), (1, u "SOFT_MAX_ARRAY_LENGTH")] 83

def k14m0 : Method := { name := "<init>", desc := "()V", sig := { parameters := [], returnType := none }, accessFlags := 2, code := none }
/-- jdk/internal/util/ArraysSupport -/
def k14 : Class := { plain "jdk/internal/util/ArraysSupport" (some 0) with
  accessFlags := 33
  interfaces := #[]
  cf := some (fileOf pool14 21 #[] #[{ accessFlags := 2, nameIndex := 9, descriptorIndex := 19, attributes := #[] }] 33 16 #[] #[{ accessFlags := 24, nameIndex := 28, descriptorIndex := 29, attributes := #[] }, { accessFlags := 26, nameIndex := 38, descriptorIndex := 39, attributes := #[] }, { accessFlags := 25, nameIndex := 121, descriptorIndex := 25, attributes := #[] }, { accessFlags := 25, nameIndex := 131, descriptorIndex := 25, attributes := #[] }, { accessFlags := 25, nameIndex := 137, descriptorIndex := 25, attributes := #[] }, { accessFlags := 25, nameIndex := 143, descriptorIndex := 25, attributes := #[] }, { accessFlags := 25, nameIndex := 53, descriptorIndex := 25, attributes := #[] }, { accessFlags := 25, nameIndex := 24, descriptorIndex := 25, attributes := #[] }, { accessFlags := 25, nameIndex := 162, descriptorIndex := 25, attributes := #[] }, { accessFlags := 25, nameIndex := 187, descriptorIndex := 25, attributes := #[] }, { accessFlags := 26, nameIndex := 48, descriptorIndex := 25, attributes := #[] }, { accessFlags := 25, nameIndex := 277, descriptorIndex := 25, attributes := #[] }, { accessFlags := 25, nameIndex := 280, descriptorIndex := 25, attributes := #[] }, { accessFlags := 25, nameIndex := 282, descriptorIndex := 25, attributes := #[] }, { accessFlags := 25, nameIndex := 284, descriptorIndex := 25, attributes := #[] }, { accessFlags := 25, nameIndex := 286, descriptorIndex := 25, attributes := #[] }, { accessFlags := 25, nameIndex := 288, descriptorIndex := 25, attributes := #[] }, { accessFlags := 25, nameIndex := 290, descriptorIndex := 25, attributes := #[] }, { accessFlags := 25, nameIndex := 292, descriptorIndex := 25, attributes := #[] }, { accessFlags := 26, nameIndex := 108, descriptorIndex := 109, attributes := #[] }, { accessFlags := 25, nameIndex := 294, descriptorIndex := 25, attributes := #[] }])
  fields := #[{ name := "U", type := (.object "jdk/internal/misc/Unsafe"), accessFlags := 24, slot := 0, constantValue := 0 }, { name := "BIG_ENDIAN", type := .boolean, accessFlags := 26, slot := 1, constantValue := 0 }, { name := "LOG2_ARRAY_BOOLEAN_INDEX_SCALE", type := .int, accessFlags := 25, slot := 2, constantValue := 0 }, { name := "LOG2_ARRAY_BYTE_INDEX_SCALE", type := .int, accessFlags := 25, slot := 3, constantValue := 0 }, { name := "LOG2_ARRAY_CHAR_INDEX_SCALE", type := .int, accessFlags := 25, slot := 4, constantValue := 0 }, { name := "LOG2_ARRAY_SHORT_INDEX_SCALE", type := .int, accessFlags := 25, slot := 5, constantValue := 0 }, { name := "LOG2_ARRAY_INT_INDEX_SCALE", type := .int, accessFlags := 25, slot := 6, constantValue := 0 }, { name := "LOG2_ARRAY_LONG_INDEX_SCALE", type := .int, accessFlags := 25, slot := 7, constantValue := 0 }, { name := "LOG2_ARRAY_FLOAT_INDEX_SCALE", type := .int, accessFlags := 25, slot := 8, constantValue := 0 }, { name := "LOG2_ARRAY_DOUBLE_INDEX_SCALE", type := .int, accessFlags := 25, slot := 9, constantValue := 0 }, { name := "LOG2_BYTE_BIT_SIZE", type := .int, accessFlags := 26, slot := 10, constantValue := 0 }, { name := "T_BOOLEAN", type := .int, accessFlags := 25, slot := 11, constantValue := 0 }, { name := "T_CHAR", type := .int, accessFlags := 25, slot := 12, constantValue := 0 }, { name := "T_FLOAT", type := .int, accessFlags := 25, slot := 13, constantValue := 0 }, { name := "T_DOUBLE", type := .int, accessFlags := 25, slot := 14, constantValue := 0 }, { name := "T_BYTE", type := .int, accessFlags := 25, slot := 15, constantValue := 0 }, { name := "T_SHORT", type := .int, accessFlags := 25, slot := 16, constantValue := 0 }, { name := "T_INT", type := .int, accessFlags := 25, slot := 17, constantValue := 0 }, { name := "T_LONG", type := .int, accessFlags := 25, slot := 18, constantValue := 0 }, { name := "JLA", type := (.object "jdk/internal/access/JavaLangAccess"), accessFlags := 26, slot := 19, constantValue := 0 }, { name := "SOFT_MAX_ARRAY_LENGTH", type := .int, accessFlags := 25, slot := 20, constantValue := 0 }]
  methods := #[k14m0]
  instanceTypes := #[]
  staticTypes := #[(.object "jdk/internal/misc/Unsafe"), .boolean, .int, .int, .int, .int, .int, .int, .int, .int, .int, .int, .int, .int, .int, .int, .int, .int, .int, (.object "jdk/internal/access/JavaLangAccess"), .int]
  resolved := Array.replicate 378 none
  statics := none }

/-- the primitive byte -/
def k15 : Class := { plain "byte" none with kind := .primitive 'B', accessFlags := 0x411 }
/-- [B -/
def k16 : Class := { plain "[B" (some 0) with kind := .array 15 .byte, interfaces := #[11, 4], accessFlags := 1041 }

/-- the primitive char -/
def k17 : Class := { plain "char" none with kind := .primitive 'C', accessFlags := 0x411 }
/-- [C -/
def k18 : Class := { plain "[C" (some 0) with kind := .array 17 .char, interfaces := #[11, 4], accessFlags := 1041 }

/-- the primitive int -/
def k19 : Class := { plain "int" none with kind := .primitive 'I', accessFlags := 0x411 }
/-- [I -/
def k20 : Class := { plain "[I" (some 0) with kind := .array 19 .int, interfaces := #[11, 4], accessFlags := 1041 }

/-- [Lcom/example/handpick/handpick/Objective; -/
def k21 : Class := { plain "[Lcom/example/handpick/handpick/Objective;" (some 0) with kind := .array 6 (.object "com/example/handpick/handpick/Objective"), interfaces := #[11, 4], accessFlags := 1041 }

def heap : Heap := #[{ cls := 6, slots := #[.ref 4, .ref 5, .ref 6, .ref 3], vm := .statics 6 },
  { cls := 9, slots := #[.long 0, .int 1, .null, .int 0, .null, .int 0, .int 0], vm := .statics 9 },
  { cls := 13, slots := #[.null, .null, .null], vm := .statics 13 },
  { cls := 21, slots := #[.ref 4, .ref 5, .ref 6], vm := .none },
  { cls := 6, slots := #[.null, .int 0, .int 0, .ref 7], vm := .none },
  { cls := 6, slots := #[.null, .int 1, .int 0, .ref 8], vm := .none },
  { cls := 6, slots := #[.null, .int 2, .int 0, .ref 9], vm := .none },
  { cls := 9, slots := #[.ref 10, .int 0, .int 0, .int 0], vm := .none },
  { cls := 9, slots := #[.ref 11, .int 0, .int 0, .int 0], vm := .none },
  { cls := 9, slots := #[.ref 12, .int 0, .int 0, .int 0], vm := .none },
  { cls := 16, slots := #[.int 109, .int 97, .int 120, .int 45, .int 115, .int 117, .int 109], vm := .none },
  { cls := 16, slots := #[.int 109, .int 97, .int 120, .int 45, .int 109, .int 105, .int 110], vm := .none },
  { cls := 16, slots := #[.int 109, .int 111, .int 110, .int 111], vm := .none }]
def classes : Array Class := #[k0, k1, k2, k3, k4, k5, k6, k7, k8, k9, k10, k11, k12, k13, k14, k15, k16, k17, k18, k19, k20, k21]
def interned : List (Array UInt16 × Addr) := []
def slotsUsed : Nat := 59
def theMethod : MethodId := ⟨1, 1⟩
def args0 : Array Value := #[.int 5]
def aboutOver (below : List Frame) : State where
  vm := { classes := classes, interned := interned.toArray }
  heap := heap
  slotsUsed := slotsUsed
  threads := #[{ frames := .invoking theMethod args0 :: below }]
def below0 : List Frame := [.native { method := ⟨0, 0⟩, args := #[] }]
def about1 : State := aboutOver below0
def p0 : Program := .bare "" "" ""
def e0 : Env := launch0.env 0 0 0
theorem w_frames : about1.frames = Frame.invoking theMethod args0 :: below0 := rfl
set_option maxRecDepth 65536 in
theorem w_args : argsFit about1.vm theMethod args0 = true := by decide +kernel
set_option maxRecDepth 65536 in
theorem w_heap : heapFits about1 = true := by decide +kernel
set_option maxRecDepth 65536 in
theorem w_runnable : about1.curStatus? = some .runnable := by decide +kernel
set_option maxRecDepth 65536 in
theorem w_alone : about1.alone = true := by decide +kernel
set_option maxRecDepth 65536 in
theorem w_named : about1.methodNamed? x = some theMethod := by decide +kernel
set_option maxRecDepth 65536 in
theorem w_hears : about1.hears theMethod below0 = true := by decide +kernel
set_option maxRecDepth 65536 in
theorem w_ripe : about1.ripe theMethod args0 below0 = true := by decide +kernel
theorem w_running : about1.status = .running := rfl
set_option maxRecDepth 65536 in
theorem w_room : about1.hasRoom e0.platform room_1 = true :=
  launch0.hasRoom_least _ room_1 (by decide +kernel) (by decide +kernel) (by decide +kernel) (by decide +kernel) (by decide +kernel) (by decide +kernel)
theorem allAtoms_all (ts : List Jvm.Cond) (a : Array Jvm.Value) (st : Jvm.State) : (allAtoms ts).before a st = ts.all (fun c => c.before a st) := by
  induction ts with
  | nil => rfl
  | cons c t ih =>
    show (Jvm.Cond.and c (allAtoms t)).before a st = _
    rw [Jvm.Cond.before_and, ih, List.all_cons]
def words1 : List Jvm.Cond := Jvm.Cond.code x code maxLocals ret :: tables_1
/-- a 'code' word, met by the world's own term for the bytes: nothing is compared byte by byte -/
theorem code_word {y : MethodName} {bytes : ByteArray} {mx : Nat} {rt : Option FieldType} {a : Array Value} {s : State} {m : MethodId} {meth : Method} {c : Code} (h1 : s.methodNamed? y = some m) (h2 : s.vm.method? m = some meth) (h3 : meth.code = some c) (h4 : c.code = bytes)
    (h5 : (c.maxLocals == mx && c.exceptionTable.isEmpty && decide (c.maxStack ≤ mostOperands) && decide (meth.sig.returnType = rt) && !meth.locks && decide (parseMethodDescriptor y.desc = some meth.sig)) = true) : (Jvm.Cond.code y bytes mx rt).before a s = true := by
  simp only [Bool.and_eq_true, beq_iff_eq, Bool.not_eq_true', decide_eq_true_eq] at h5
  obtain ⟨⟨⟨⟨⟨g1, g2⟩, g3⟩, g4⟩, g5⟩, g6⟩ := h5
  simp [Cond.before, Cond.holds, Cond.value, h1, h2, h3, h4, g1, g2, g3, g4, g5, g6]
def isCode : Jvm.Cond → Bool
  | .code _ _ _ _ => true
  | _ => false
theorem all_split {L : List Jvm.Cond} {P : Jvm.Cond → Bool} (h1 : L.all (fun c => isCode c || P c) = true) (h2 : ∀ c ∈ L.filter isCode, P c = true) : L.all P = true := by
  refine List.all_eq_true.mpr fun c hc => ?_
  have h := List.all_eq_true.mp h1 c hc
  rcases Bool.eq_false_or_eq_true (isCode c) with hi | hi
  · exact h2 c (List.mem_filter.mpr ⟨hc, hi⟩)
  · simpa [hi] using h
set_option maxRecDepth 65536 in
theorem w_c0 : (Jvm.Cond.code x code maxLocals ret).before args0 about1 = true := code_word (m := ⟨1, 1⟩) (meth := k1m1) (c := k1c1) (by decide +kernel) rfl rfl rfl (by decide +kernel)
set_option maxRecDepth 65536 in
theorem w_c1 : (Jvm.Cond.code ({ cls := "java/lang/String", name := "<init>", desc := "([C)V" } : Jvm.MethodName) jdk_42_method_3_code (2 : Nat) (Option.none : Option Jvm.ClassFile.FieldType)).before args0 about1 = true := code_word (m := ⟨9, 1⟩) (meth := k9m1) (c := k9c1) (by decide +kernel) rfl rfl rfl (by decide +kernel)
set_option maxRecDepth 65536 in
theorem w_c2 : (Jvm.Cond.code ({ cls := "java/lang/String", name := "<init>", desc := "([CIILjava/lang/Void;)V" } : Jvm.MethodName) jdk_42_method_149_code (6 : Nat) (Option.none : Option Jvm.ClassFile.FieldType)).before args0 about1 = true := code_word (m := ⟨9, 3⟩) (meth := k9m3) (c := k9c3) (by decide +kernel) rfl rfl rfl (by decide +kernel)
set_option maxRecDepth 65536 in
theorem w_c3 : (Jvm.Cond.code ({ cls := "java/lang/Object", name := "<init>", desc := "()V" } : Jvm.MethodName) object_method_1_code (1 : Nat) (Option.none : Option Jvm.ClassFile.FieldType)).before args0 about1 = true := code_word (m := ⟨0, 0⟩) (meth := k0m0) (c := k0c0) (by decide +kernel) rfl rfl rfl (by decide +kernel)
set_option maxRecDepth 65536 in
theorem w_c4 : (Jvm.Cond.code ({ cls := "java/lang/StringUTF16", name := "compress", desc := "([CII)[B" } : Jvm.MethodName) jdk_52_method_16_code (6 : Nat) (Option.some (Jvm.ClassFile.FieldType.array Jvm.ClassFile.FieldType.byte))).before args0 about1 = true := code_word (m := ⟨10, 2⟩) (meth := k10m2) (c := k10c2) (by decide +kernel) rfl rfl rfl (by decide +kernel)
set_option maxRecDepth 65536 in
theorem w_c5 : (Jvm.Cond.code ({ cls := "java/lang/StringUTF16", name := "compress", desc := "([CI[BII)I" } : Jvm.MethodName) jdk_52_method_21_code (7 : Nat) (Option.some Jvm.ClassFile.FieldType.int)).before args0 about1 = true := code_word (m := ⟨10, 3⟩) (meth := k10m3) (c := k10c3) (by decide +kernel) rfl rfl rfl (by decide +kernel)
set_option maxRecDepth 65536 in
theorem w_c6 : (Jvm.Cond.code ({ cls := "java/lang/StringUTF16", name := "coderFromArrayLen", desc := "([BI)B" } : Jvm.MethodName) jdk_52_method_15_code (2 : Nat) (Option.some Jvm.ClassFile.FieldType.byte)).before args0 about1 = true := code_word (m := ⟨10, 1⟩) (meth := k10m1) (c := k10c1) (by decide +kernel) rfl rfl rfl (by decide +kernel)
set_option maxRecDepth 65536 in
theorem w_c7 : (Jvm.Cond.code ({ cls := "com/example/handpick/handpick/Objective", name := "parse", desc := "(Ljava/lang/String;)Lcom/example/handpick/handpick/Objective;" } : Jvm.MethodName) prog_59_method_4_code (5 : Nat) (Option.some (Jvm.ClassFile.FieldType.object "com/example/handpick/handpick/Objective"))).before args0 about1 = true := code_word (m := ⟨6, 1⟩) (meth := k6m1) (c := k6c1) (by decide +kernel) rfl rfl rfl (by decide +kernel)
set_option maxRecDepth 65536 in
theorem w_c8 : (Jvm.Cond.code ({ cls := "com/example/handpick/handpick/Objective", name := "values", desc := "()[Lcom/example/handpick/handpick/Objective;" } : Jvm.MethodName) prog_59_method_1_code (0 : Nat) (Option.some (Jvm.ClassFile.FieldType.array (Jvm.ClassFile.FieldType.object "com/example/handpick/handpick/Objective")))).before args0 about1 = true := code_word (m := ⟨6, 0⟩) (meth := k6m0) (c := k6c0) (by decide +kernel) rfl rfl rfl (by decide +kernel)
set_option maxRecDepth 65536 in
theorem w_c9 : (Jvm.Cond.code ({ cls := "java/lang/String", name := "equals", desc := "(Ljava/lang/Object;)Z" } : Jvm.MethodName) jdk_42_method_66_code (3 : Nat) (Option.some Jvm.ClassFile.FieldType.boolean)).before args0 about1 = true := code_word (m := ⟨9, 2⟩) (meth := k9m2) (c := k9c2) (by decide +kernel) rfl rfl rfl (by decide +kernel)
set_option maxRecDepth 65536 in
theorem w_c10 : (Jvm.Cond.code ({ cls := "java/lang/StringLatin1", name := "equals", desc := "([B[B)Z" } : Jvm.MethodName) jdk_43_method_13_code (3 : Nat) (Option.some Jvm.ClassFile.FieldType.boolean)).before args0 about1 = true := code_word (m := ⟨12, 1⟩) (meth := k12m1) (c := k12c1) (by decide +kernel) rfl rfl rfl (by decide +kernel)
set_option maxRecDepth 65536 in
theorem w_c11 : (Jvm.Cond.code ({ cls := "com/example/handpick/handpick/Objective", name := "toString", desc := "()Ljava/lang/String;" } : Jvm.MethodName) prog_59_method_5_code (1 : Nat) (Option.some (Jvm.ClassFile.FieldType.object "java/lang/String"))).before args0 about1 = true := code_word (m := ⟨6, 2⟩) (meth := k6m2) (c := k6c2) (by decide +kernel) rfl rfl rfl (by decide +kernel)
def codes1 : List Jvm.Cond := [Jvm.Cond.code x code maxLocals ret, Jvm.Cond.code ({ cls := "java/lang/String", name := "<init>", desc := "([C)V" } : Jvm.MethodName) jdk_42_method_3_code (2 : Nat) (Option.none : Option Jvm.ClassFile.FieldType), Jvm.Cond.code ({ cls := "java/lang/String", name := "<init>", desc := "([CIILjava/lang/Void;)V" } : Jvm.MethodName) jdk_42_method_149_code (6 : Nat) (Option.none : Option Jvm.ClassFile.FieldType), Jvm.Cond.code ({ cls := "java/lang/Object", name := "<init>", desc := "()V" } : Jvm.MethodName) object_method_1_code (1 : Nat) (Option.none : Option Jvm.ClassFile.FieldType), Jvm.Cond.code ({ cls := "java/lang/StringUTF16", name := "compress", desc := "([CII)[B" } : Jvm.MethodName) jdk_52_method_16_code (6 : Nat) (Option.some (Jvm.ClassFile.FieldType.array Jvm.ClassFile.FieldType.byte)), Jvm.Cond.code ({ cls := "java/lang/StringUTF16", name := "compress", desc := "([CI[BII)I" } : Jvm.MethodName) jdk_52_method_21_code (7 : Nat) (Option.some Jvm.ClassFile.FieldType.int), Jvm.Cond.code ({ cls := "java/lang/StringUTF16", name := "coderFromArrayLen", desc := "([BI)B" } : Jvm.MethodName) jdk_52_method_15_code (2 : Nat) (Option.some Jvm.ClassFile.FieldType.byte), Jvm.Cond.code ({ cls := "com/example/handpick/handpick/Objective", name := "parse", desc := "(Ljava/lang/String;)Lcom/example/handpick/handpick/Objective;" } : Jvm.MethodName) prog_59_method_4_code (5 : Nat) (Option.some (Jvm.ClassFile.FieldType.object "com/example/handpick/handpick/Objective")), Jvm.Cond.code ({ cls := "com/example/handpick/handpick/Objective", name := "values", desc := "()[Lcom/example/handpick/handpick/Objective;" } : Jvm.MethodName) prog_59_method_1_code (0 : Nat) (Option.some (Jvm.ClassFile.FieldType.array (Jvm.ClassFile.FieldType.object "com/example/handpick/handpick/Objective"))), Jvm.Cond.code ({ cls := "java/lang/String", name := "equals", desc := "(Ljava/lang/Object;)Z" } : Jvm.MethodName) jdk_42_method_66_code (3 : Nat) (Option.some Jvm.ClassFile.FieldType.boolean), Jvm.Cond.code ({ cls := "java/lang/StringLatin1", name := "equals", desc := "([B[B)Z" } : Jvm.MethodName) jdk_43_method_13_code (3 : Nat) (Option.some Jvm.ClassFile.FieldType.boolean), Jvm.Cond.code ({ cls := "com/example/handpick/handpick/Objective", name := "toString", desc := "()Ljava/lang/String;" } : Jvm.MethodName) prog_59_method_5_code (1 : Nat) (Option.some (Jvm.ClassFile.FieldType.object "java/lang/String"))]
set_option maxRecDepth 65536 in
theorem codes_eq : words1.filter isCode = codes1 := rfl
theorem w_codes : ∀ c ∈ words1.filter isCode, c.before args0 about1 = true := by
  rw [codes_eq]
  intro c hc
  simp only [codes1, List.mem_cons, List.not_mem_nil, or_false] at hc
  rcases hc with rfl | rfl | rfl | rfl | rfl | rfl | rfl | rfl | rfl | rfl | rfl | rfl
  · exact w_c0
  · exact w_c1
  · exact w_c2
  · exact w_c3
  · exact w_c4
  · exact w_c5
  · exact w_c6
  · exact w_c7
  · exact w_c8
  · exact w_c9
  · exact w_c10
  · exact w_c11
set_option maxRecDepth 65536 in
theorem w_t1 : (words1.take 24).all (fun c => isCode c || c.before args0 about1) = true := by decide +kernel
set_option maxRecDepth 65536 in
theorem w_t2 : ((words1.drop 24).take 24).all (fun c => isCode c || c.before args0 about1) = true := by decide +kernel
set_option maxRecDepth 65536 in
theorem w_t3 : (((words1.drop 24).drop 24).take 24).all (fun c => isCode c || c.before args0 about1) = true := by decide +kernel
set_option maxRecDepth 65536 in
theorem w_t4 : (((words1.drop 24).drop 24).drop 24).all (fun c => isCode c || c.before args0 about1) = true := by decide +kernel
theorem w_tables : (allAtoms (Jvm.Cond.code x code maxLocals ret :: tables_1)).before args0 about1 = true := by
  rw [allAtoms_all]
  show words1.all (fun c => c.before args0 about1) = true
  refine all_split ?_ w_codes
  rw [← List.take_append_drop 24 words1, List.all_append, w_t1, ← List.take_append_drop 24 (words1.drop 24), List.all_append, w_t2, ← List.take_append_drop 24 ((words1.drop 24).drop 24), List.all_append, w_t3, w_t4]
  rfl
set_option maxRecDepth 65536 in
theorem w_rest : rest_1_c.before args0 about1 = true := by decide +kernel
set_option maxRecDepth 65536 in
theorem w_case : (Jvm.Cond.and given_1 narrow_1).before args0 about1 = true := by decide +kernel
theorem w_applies : (headSpec (Jvm.Cond.code x code maxLocals ret :: tables_1) room_1).applies x e0.platform about1 = true :=
  (Spec.applies_iff w_frames).mpr ⟨w_running, w_runnable, w_alone, w_named, w_hears, w_ripe, w_room, w_tables⟩
theorem atStart : AtStart classFile x code maxLocals ret World_1 tables_1 room_1 Calls_1 rest_1 Pre_1 launch0 p0 e0 about1 theMethod args0 below0 :=
  ⟨lists_1, trivial, launch0.admits_env _ _ _, launch0.least_env, fairChoices_fair.cas, fairChoices_fair.clock, w_frames, w_args, w_heap, w_applies, trivial, w_rest, w_case⟩
end start1
theorem witness_1 : WitnessClaimed_1 := ⟨start1.p0, start1.e0, start1.about1, start1.theMethod, start1.args0, start1.below0, start1.atStart⟩
end Jvm.Pilot.@@N@@
