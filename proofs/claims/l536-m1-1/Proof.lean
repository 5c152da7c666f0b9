import JvmDerived
import JvmDerived.Pilot.@@N@@Statement
import JvmDerived.Pilot.@@N@@Code
set_option linter.unusedVariables false
set_option linter.unusedSimpArgs false
namespace Jvm.OwnGo
open Sem ClassFile Op Lib Jvm.Stand Jvm.Free Jvm.LawKit Jvm.RoadKit
/-- the context of one walk: program, launch, environment, room, start, method, arguments, frames below, the method's record, its code, the tables' state, the words' arguments, the first new address -/
abbrev Cx : Type := Program × Launch × Env × Room × State × MethodId × Array Value × List Frame × Method × Code × State × Array Value × Nat × (Outcome → State → List Loc → Prop) × Nat × State
abbrev Cx.p (κ : Cx) : Program := κ.1
abbrev Cx.l (κ : Cx) : Launch := κ.2.1
abbrev Cx.e (κ : Cx) : Env := κ.2.2.1
abbrev Cx.R (κ : Cx) : Room := κ.2.2.2.1
abbrev Cx.s (κ : Cx) : State := κ.2.2.2.2.1
abbrev Cx.m (κ : Cx) : MethodId := κ.2.2.2.2.2.1
abbrev Cx.args (κ : Cx) : Array Value := κ.2.2.2.2.2.2.1
abbrev Cx.below (κ : Cx) : List Frame := κ.2.2.2.2.2.2.2.1
abbrev Cx.meth (κ : Cx) : Method := κ.2.2.2.2.2.2.2.2.1
abbrev Cx.c (κ : Cx) : Code := κ.2.2.2.2.2.2.2.2.2.1
abbrev Cx.Z (κ : Cx) : State := κ.2.2.2.2.2.2.2.2.2.2.1
abbrev Cx.a0 (κ : Cx) : Array Value := κ.2.2.2.2.2.2.2.2.2.2.2.1
abbrev Cx.n0 (κ : Cx) : Nat := κ.2.2.2.2.2.2.2.2.2.2.2.2.1
abbrev Cx.E (κ : Cx) : Outcome → State → List Loc → Prop := κ.2.2.2.2.2.2.2.2.2.2.2.2.2.1
abbrev Cx.kmin (κ : Cx) : Nat := κ.2.2.2.2.2.2.2.2.2.2.2.2.2.2.1
abbrev Cx.s0 (κ : Cx) : State := κ.2.2.2.2.2.2.2.2.2.2.2.2.2.2.2
/-- what is known of the context throughout the walk of a body -/
def OkK (km : Nat) (κ : Cx) (l : Launch) (Z : State) (a0 : Array Value) (n0 : Nat) (R : Room) (own nm : String) (bytes : ByteArray) (maxL : Nat) (ret : Option FieldType) : Prop :=
  κ.p.tables.exec = Jvm.exec ∧ κ.c.code = bytes ∧ κ.c.maxLocals = maxL ∧ κ.Z.Warmed39 κ.s.vm ∧ κ.s.vm.findClass own = some κ.m.cls ∧ κ.meth.sig.returnType = ret ∧ κ.meth.locks = false ∧ κ.meth.name = nm ∧ κ.l = l ∧ κ.Z = Z ∧ κ.a0 = a0 ∧ κ.n0 = n0 ∧ κ.R = R ∧ κ.kmin = km ∧ (∀ o t L, FrameEnd κ.s o t L κ.R.cells κ.R.slots → κ.kmin ≤ t.heap.size → κ.E o t L)
abbrev Ok (κ : Cx) (l : Launch) (Z : State) (a0 : Array Value) (n0 : Nat) (R : Room) (own nm : String) (bytes : ByteArray) (maxL : Nat) (ret : Option FieldType) : Prop := OkK 0 κ l Z a0 n0 R own nm bytes maxL ret
section B
variable {km : Nat} {κ : Cx} {l : Launch} {Z : State} {a0 : Array Value} {n0 : Nat} {R : Room} {own nm : String} {bytes : ByteArray} {maxL : Nat} {ret : Option FieldType}
theorem OkK.exec (B : OkK km κ l Z a0 n0 R own nm bytes maxL ret) : κ.p.tables.exec = Jvm.exec := B.1
theorem OkK.byt (B : OkK km κ l Z a0 n0 R own nm bytes maxL ret) : κ.c.code = bytes := B.2.1
theorem OkK.mxl (B : OkK km κ l Z a0 n0 R own nm bytes maxL ret) : κ.c.maxLocals = maxL := B.2.2.1
theorem OkK.warm (B : OkK km κ l Z a0 n0 R own nm bytes maxL ret) : Z.Warmed39 κ.s.vm := B.2.2.2.2.2.2.2.2.2.1 ▸ B.2.2.2.1
theorem OkK.hown (B : OkK km κ l Z a0 n0 R own nm bytes maxL ret) : κ.s.vm.findClass own = some κ.m.cls := B.2.2.2.2.1
theorem OkK.rets (B : OkK km κ l Z a0 n0 R own nm bytes maxL ret) : κ.meth.sig.returnType = ret := B.2.2.2.2.2.1
theorem OkK.nolock (B : OkK km κ l Z a0 n0 R own nm bytes maxL ret) : κ.meth.locks = false := B.2.2.2.2.2.2.1
theorem OkK.name (B : OkK km κ l Z a0 n0 R own nm bytes maxL ret) : κ.meth.name = nm := B.2.2.2.2.2.2.2.1
theorem OkK.hl (B : OkK km κ l Z a0 n0 R own nm bytes maxL ret) : κ.l = l := B.2.2.2.2.2.2.2.2.1
theorem OkK.hn (B : OkK km κ l Z a0 n0 R own nm bytes maxL ret) : κ.n0 = n0 := B.2.2.2.2.2.2.2.2.2.2.2.1
theorem OkK.room (B : OkK km κ l Z a0 n0 R own nm bytes maxL ret) : κ.R = R := B.2.2.2.2.2.2.2.2.2.2.2.2.1
theorem OkK.hkm (B : OkK km κ l Z a0 n0 R own nm bytes maxL ret) : κ.kmin = km := B.2.2.2.2.2.2.2.2.2.2.2.2.2.1
theorem OkK.hE (B : OkK km κ l Z a0 n0 R own nm bytes maxL ret) : ∀ o t L, FrameEnd κ.s o t L κ.R.cells κ.R.slots → κ.kmin ≤ t.heap.size → κ.E o t L := B.2.2.2.2.2.2.2.2.2.2.2.2.2.2
end B
/-- FROM HERE THE RUN ENDS AS Q SAYS: heap h, k cells and n slots made so far, the frame at pc with locals L and operands st -/
def Go (κ : Cx) (Q : Option Value → Heap → Prop) (h : Heap) (k n pc : Nat) (L : Array Slot) (st : List Value) : Prop :=
  ∀ (T : State) (locs : List Loc), Stand κ.p κ.l κ.e κ.R κ.s κ.m κ.args κ.below κ.meth κ.c T locs k n → Fr κ.n0 locs → T.heap = h →
    ∃ t o, Steps κ.p.tables κ.e κ.below (T.setTop (mkF κ.m pc L st)) t ∧ t.status = .running ∧ Ended t κ.below o ∧ ∃ v L', o = .returned v ∧ (Q v t.heap ∧ Fr κ.n0 L') ∧ κ.E o t L'
/-- a decode fact with the next pc -/
def Dc (bytes : ByteArray) (pc : Nat) (i : Instr) (len pc' : Nat) : Prop := decode bytes pc = .ok (i, len) ∧ pc + len = pc'
/-- a branch's decode fact: the pc behind it, the pc that it goes to -/
def Db (bytes : ByteArray) (pc : Nat) (i : Instr) (o : Int) (pc1 pc2 : Nat) : Prop := decode bytes pc = .ok (i, 3) ∧ pc + 3 = pc1 ∧ (pc : Int) + o = (pc2 : Int)
/-- a body's contract: with these arguments at this heap it ends as Q says -/
def Ct (l : Launch) (Z : State) (n0 : Nat) (y : MethodName) (bytes : ByteArray) (maxL : Nat) (ret : Option FieldType) (ws : List Jvm.Cond) (rm : Room) (as' : Array Value) (h0 : Heap) (Q : Option Value → Heap → Prop) : Prop :=
  MetFree l y (head1 (Jvm.Cond.code y bytes maxL ret :: ws) rm) (fun a U => a = as' ∧ Z.Warmed39 U.vm ∧ U.heap = h0) (fun _ _ _ _ _ => True) (fun _ U o U' => ∃ v L, o = .returned v ∧ (Q v U'.heap ∧ Fr n0 L) ∧ FrameEnd U o U' L rm.cells rm.slots)
theorem Ct.of {l : Launch} {Z : State} {a0 : Array Value} {n0 : Nat} {y : MethodName} {bytes : ByteArray} {maxL : Nat} {ret : Option FieldType} {ws : List Jvm.Cond} {rm : Room} {as' : Array Value} {h0 : Heap} {Q : Option Value → Heap → Prop} {L0 : Array Slot}
    (hp : plainFor y = true) (hf : ∀ m : MethodId, entryFrame m as' maxL = mkF m 0 L0 [])
    (body : ∀ κ : Cx, Ok κ l Z a0 n0 rm y.cls y.name bytes maxL ret → Go κ Q h0 0 0 0 L0 []) : Ct l Z n0 y bytes maxL ret ws rm as' h0 Q := by
  refine MetFree.of_bodySF hp hisR ?_
  intro p e s m args below meth c s₁ Bd hml0 hP hK
  obtain ⟨rfl, hZ, hh⟩ := hP
  have hown : s.vm.findClass y.cls = some m.cls := findClass_of_methodNamed Bd.named
  have hnm := (name_of_methodNamed Bd.named Bd.method).1
  have X0 : Stand p l e rm s m args below meth c s₁ [] 0 0 := Stand.of_body Bd
  have e0 : s₁.heap = h0 := by rw [← hh, Bd.state]; rfl
  have q := body (p, l, e, rm, s, m, args, below, meth, c, Z, a0, n0, fun o t L => FrameEnd s o t L rm.cells rm.slots, 0, s) ⟨Bd.exec, Bd.bytes, hml0, hZ, hown, Bd.returns, Bd.notSynchronized, hnm, rfl, rfl, rfl, rfl, rfl, rfl, fun _ _ _ q _ => q⟩ s₁ [] X0 (Fr.nil n0) e0
  obtain ⟨t, o, h1, h2, h3, h4⟩ := q
  exact ⟨t, o, castTop (hf m) h1, h2, h3, h4⟩
section G
variable {km : Nat} {κ : Cx} {l : Launch} {Z : State} {a0 : Array Value} {n0 : Nat} {R : Room} {own nm : String} {bytes : ByteArray} {maxL : Nat} {ret : Option FieldType} {Q : Option Value → Heap → Prop} {h : Heap} {k n pc pc' pc1 pc2 : Nat} {L L' : Array Slot} {st st' : List Value} {o : Int} {x y : Int32} {u w : Int64} {a : Addr} {v v' : Value}
theorem go_step (hs : ∀ (T : State) (locs : List Loc), Stand κ.p κ.l κ.e κ.R κ.s κ.m κ.args κ.below κ.meth κ.c T locs k n → T.heap = h → ∀ target, Steps κ.p.tables κ.e κ.below (T.setTop (mkF κ.m pc' L' st')) target → Steps κ.p.tables κ.e κ.below (T.setTop (mkF κ.m pc L st)) target)
    (g : Go κ Q h k n pc' L' st') : Go κ Q h k n pc L st := fun T locs X N e => by
  obtain ⟨t, o, h1, h2⟩ := g T locs X N e
  exact ⟨t, o, hs T locs X e t h1, h2⟩
theorem go_cast {h' : Heap} {k' n' : Nat} (g : Go κ Q h' k' n' pc' L' st') (e1 : h' = h) (e2 : k' = k) (e3 : n' = n) (e4 : pc' = pc) (e5 : L' = L) (e6 : st' = st) : Go κ Q h k n pc L st := by
  subst e1 e2 e3 e4 e5 e6; exact g
theorem go_mono {Q' : Option Value → Heap → Prop} (g : Go κ Q h k n pc L st) (q : ∀ v h', Q v h' → Q' v h') : Go κ Q' h k n pc L st := fun T locs X N e => by
  obtain ⟨t, o, h1, h2, h3, v, L', h4, ⟨h5, h6⟩, h7⟩ := g T locs X N e
  exact ⟨t, o, h1, h2, h3, v, L', h4, ⟨q _ _ h5, h6⟩, h7⟩
theorem go_iadd (B : OkK km κ l Z a0 n0 R own nm bytes maxL ret) (hd : Dc bytes pc (.iadd) 1 pc') (g : Go κ Q h k n pc' L (.int (x + y) :: st)) : Go κ Q h k n pc L (.int y :: .int x :: st) := by
  obtain ⟨d, rfl⟩ := hd
  exact go_step (fun T locs X e t q => XS.iadd X.here B.exec rfl (hb B.byt d) rfl q) g
theorem go_isub (B : OkK km κ l Z a0 n0 R own nm bytes maxL ret) (hd : Dc bytes pc (.isub) 1 pc') (g : Go κ Q h k n pc' L (.int (x - y) :: st)) : Go κ Q h k n pc L (.int y :: .int x :: st) := by
  obtain ⟨d, rfl⟩ := hd
  exact go_step (fun T locs X e t q => XS.isub X.here B.exec rfl (hb B.byt d) rfl q) g
theorem go_iand (B : OkK km κ l Z a0 n0 R own nm bytes maxL ret) (hd : Dc bytes pc (.iand) 1 pc') (g : Go κ Q h k n pc' L (.int (x &&& y) :: st)) : Go κ Q h k n pc L (.int y :: .int x :: st) := by
  obtain ⟨d, rfl⟩ := hd
  exact go_step (fun T locs X e t q => XS.iand X.here B.exec rfl (hb B.byt d) rfl q) g
theorem go_imul (B : OkK km κ l Z a0 n0 R own nm bytes maxL ret) (hd : Dc bytes pc (.imul) 1 pc') (g : Go κ Q h k n pc' L (.int (x * y) :: st)) : Go κ Q h k n pc L (.int y :: .int x :: st) := by
  obtain ⟨d, rfl⟩ := hd
  exact go_step (fun T locs X e t q => XS.imul X.here B.exec rfl (hb B.byt d) rfl q) g
theorem go_ixor (B : OkK km κ l Z a0 n0 R own nm bytes maxL ret) (hd : Dc bytes pc (.ixor) 1 pc') (g : Go κ Q h k n pc' L (.int (x ^^^ y) :: st)) : Go κ Q h k n pc L (.int y :: .int x :: st) := by
  obtain ⟨d, rfl⟩ := hd
  exact go_step (fun T locs X e t q => XT.ixor X.here B.exec rfl (hb B.byt d) rfl q) g
theorem go_ior (B : OkK km κ l Z a0 n0 R own nm bytes maxL ret) (hd : Dc bytes pc (.ior) 1 pc') (g : Go κ Q h k n pc' L (.int (x ||| y) :: st)) : Go κ Q h k n pc L (.int y :: .int x :: st) := by
  obtain ⟨d, rfl⟩ := hd
  exact go_step (fun T locs X e t q => XT.ior X.here B.exec rfl (hb B.byt d) rfl q) g
theorem go_ishl (B : OkK km κ l Z a0 n0 R own nm bytes maxL ret) (hd : Dc bytes pc (.ishl) 1 pc') (g : Go κ Q h k n pc' L (.int (x <<< (y &&& 31)) :: st)) : Go κ Q h k n pc L (.int y :: .int x :: st) := by
  obtain ⟨d, rfl⟩ := hd
  exact go_step (fun T locs X e t q => XT.ishl X.here B.exec rfl (hb B.byt d) rfl q) g
theorem go_ishr (B : OkK km κ l Z a0 n0 R own nm bytes maxL ret) (hd : Dc bytes pc (.ishr) 1 pc') (g : Go κ Q h k n pc' L (.int (x >>> (y &&& 31)) :: st)) : Go κ Q h k n pc L (.int y :: .int x :: st) := by
  obtain ⟨d, rfl⟩ := hd
  exact go_step (fun T locs X e t q => XT.ishr X.here B.exec rfl (hb B.byt d) rfl q) g
theorem go_iushr (B : OkK km κ l Z a0 n0 R own nm bytes maxL ret) (hd : Dc bytes pc (.iushr) 1 pc') (g : Go κ Q h k n pc' L (.int (XT.ushr x y) :: st)) : Go κ Q h k n pc L (.int y :: .int x :: st) := by
  obtain ⟨d, rfl⟩ := hd
  exact go_step (fun T locs X e t q => XT.iushr X.here B.exec rfl (hb B.byt d) rfl q) g
theorem go_idiv (B : OkK km κ l Z a0 n0 R own nm bytes maxL ret) (hd : Dc bytes pc (.idiv) 1 pc') (hy : y ≠ 0) (g : Go κ Q h k n pc' L (.int (x / y) :: st)) : Go κ Q h k n pc L (.int y :: .int x :: st) := by
  obtain ⟨d, rfl⟩ := hd
  exact go_step (fun T locs X e t q => XS.idiv X.here B.exec rfl (hb B.byt d) rfl hy q) g
theorem go_irem (B : OkK km κ l Z a0 n0 R own nm bytes maxL ret) (hd : Dc bytes pc (.irem) 1 pc') (hy : y ≠ 0) (g : Go κ Q h k n pc' L (.int (x % y) :: st)) : Go κ Q h k n pc L (.int y :: .int x :: st) := by
  obtain ⟨d, rfl⟩ := hd
  exact go_step (fun T locs X e t q => iremM X B.exec rfl (hb B.byt d) rfl hy q) g
theorem go_ineg (B : OkK km κ l Z a0 n0 R own nm bytes maxL ret) (hd : Dc bytes pc (.ineg) 1 pc') (g : Go κ Q h k n pc' L (.int (-x) :: st)) : Go κ Q h k n pc L (.int x :: st) := by
  obtain ⟨d, rfl⟩ := hd
  exact go_step (fun T locs X e t q => XS.ineg X.here B.exec rfl (hb B.byt d) rfl q) g
theorem go_ladd (B : OkK km κ l Z a0 n0 R own nm bytes maxL ret) (hd : Dc bytes pc (.ladd) 1 pc') (g : Go κ Q h k n pc' L (.long (u + w) :: st)) : Go κ Q h k n pc L (.long w :: .long u :: st) := by
  obtain ⟨d, rfl⟩ := hd
  exact go_step (fun T locs X e t q => XT.ladd X.here B.exec rfl (hb B.byt d) rfl q) g
theorem go_lsub (B : OkK km κ l Z a0 n0 R own nm bytes maxL ret) (hd : Dc bytes pc (.lsub) 1 pc') (g : Go κ Q h k n pc' L (.long (u - w) :: st)) : Go κ Q h k n pc L (.long w :: .long u :: st) := by
  obtain ⟨d, rfl⟩ := hd
  exact go_step (fun T locs X e t q => XT.lsub X.here B.exec rfl (hb B.byt d) rfl q) g
theorem go_lmul (B : OkK km κ l Z a0 n0 R own nm bytes maxL ret) (hd : Dc bytes pc (.lmul) 1 pc') (g : Go κ Q h k n pc' L (.long (u * w) :: st)) : Go κ Q h k n pc L (.long w :: .long u :: st) := by
  obtain ⟨d, rfl⟩ := hd
  exact go_step (fun T locs X e t q => XT.lmul X.here B.exec rfl (hb B.byt d) rfl q) g
theorem go_land (B : OkK km κ l Z a0 n0 R own nm bytes maxL ret) (hd : Dc bytes pc (.land) 1 pc') (g : Go κ Q h k n pc' L (.long (u &&& w) :: st)) : Go κ Q h k n pc L (.long w :: .long u :: st) := by
  obtain ⟨d, rfl⟩ := hd
  exact go_step (fun T locs X e t q => XT.land X.here B.exec rfl (hb B.byt d) rfl q) g
theorem go_lor (B : OkK km κ l Z a0 n0 R own nm bytes maxL ret) (hd : Dc bytes pc (.lor) 1 pc') (g : Go κ Q h k n pc' L (.long (u ||| w) :: st)) : Go κ Q h k n pc L (.long w :: .long u :: st) := by
  obtain ⟨d, rfl⟩ := hd
  exact go_step (fun T locs X e t q => XT.lor X.here B.exec rfl (hb B.byt d) rfl q) g
theorem go_lxor (B : OkK km κ l Z a0 n0 R own nm bytes maxL ret) (hd : Dc bytes pc (.lxor) 1 pc') (g : Go κ Q h k n pc' L (.long (u ^^^ w) :: st)) : Go κ Q h k n pc L (.long w :: .long u :: st) := by
  obtain ⟨d, rfl⟩ := hd
  exact go_step (fun T locs X e t q => XT.lxor X.here B.exec rfl (hb B.byt d) rfl q) g
theorem go_ldiv (B : OkK km κ l Z a0 n0 R own nm bytes maxL ret) (hd : Dc bytes pc (.ldiv) 1 pc') (hy : w ≠ 0) (g : Go κ Q h k n pc' L (.long (u / w) :: st)) : Go κ Q h k n pc L (.long w :: .long u :: st) := by
  obtain ⟨d, rfl⟩ := hd
  exact go_step (fun T locs X e t q => XT.ldiv X.here B.exec rfl (hb B.byt d) rfl hy q) g
theorem go_lrem (B : OkK km κ l Z a0 n0 R own nm bytes maxL ret) (hd : Dc bytes pc (.lrem) 1 pc') (hy : w ≠ 0) (g : Go κ Q h k n pc' L (.long (u - (u / w) * w) :: st)) : Go κ Q h k n pc L (.long w :: .long u :: st) := by
  obtain ⟨d, rfl⟩ := hd
  exact go_step (fun T locs X e t q => XT.lrem X.here B.exec rfl (hb B.byt d) rfl hy q) g
theorem go_lshl (B : OkK km κ l Z a0 n0 R own nm bytes maxL ret) (hd : Dc bytes pc (.lshl) 1 pc') (g : Go κ Q h k n pc' L (.long (u <<< (y.toInt64 &&& 63)) :: st)) : Go κ Q h k n pc L (.int y :: .long u :: st) := by
  obtain ⟨d, rfl⟩ := hd
  exact go_step (fun T locs X e t q => XT.lshl X.here B.exec rfl (hb B.byt d) rfl q) g
theorem go_lshr (B : OkK km κ l Z a0 n0 R own nm bytes maxL ret) (hd : Dc bytes pc (.lshr) 1 pc') (g : Go κ Q h k n pc' L (.long (u >>> (y.toInt64 &&& 63)) :: st)) : Go κ Q h k n pc L (.int y :: .long u :: st) := by
  obtain ⟨d, rfl⟩ := hd
  exact go_step (fun T locs X e t q => XT.lshr X.here B.exec rfl (hb B.byt d) rfl q) g
theorem go_lushr (B : OkK km κ l Z a0 n0 R own nm bytes maxL ret) (hd : Dc bytes pc (.lushr) 1 pc') (g : Go κ Q h k n pc' L (.long (XT.ushrL u y) :: st)) : Go κ Q h k n pc L (.int y :: .long u :: st) := by
  obtain ⟨d, rfl⟩ := hd
  exact go_step (fun T locs X e t q => XT.lushr X.here B.exec rfl (hb B.byt d) rfl q) g
theorem go_lneg (B : OkK km κ l Z a0 n0 R own nm bytes maxL ret) (hd : Dc bytes pc (.lneg) 1 pc') (g : Go κ Q h k n pc' L (.long (-u) :: st)) : Go κ Q h k n pc L (.long u :: st) := by
  obtain ⟨d, rfl⟩ := hd
  exact go_step (fun T locs X e t q => XT.lneg X.here B.exec rfl (hb B.byt d) rfl q) g
theorem go_i2l (B : OkK km κ l Z a0 n0 R own nm bytes maxL ret) (hd : Dc bytes pc (.i2l) 1 pc') (g : Go κ Q h k n pc' L (.long x.toInt64 :: st)) : Go κ Q h k n pc L (.int x :: st) := by
  obtain ⟨d, rfl⟩ := hd
  exact go_step (fun T locs X e t q => XT.i2l X.here B.exec rfl (hb B.byt d) rfl q) g
theorem go_l2i (B : OkK km κ l Z a0 n0 R own nm bytes maxL ret) (hd : Dc bytes pc (.l2i) 1 pc') (g : Go κ Q h k n pc' L (.int u.toInt32 :: st)) : Go κ Q h k n pc L (.long u :: st) := by
  obtain ⟨d, rfl⟩ := hd
  exact go_step (fun T locs X e t q => XT.l2i X.here B.exec rfl (hb B.byt d) rfl q) g
theorem go_i2b (B : OkK km κ l Z a0 n0 R own nm bytes maxL ret) (hd : Dc bytes pc (.i2b) 1 pc') (g : Go κ Q h k n pc' L (.int x.toInt8.toInt32 :: st)) : Go κ Q h k n pc L (.int x :: st) := by
  obtain ⟨d, rfl⟩ := hd
  exact go_step (fun T locs X e t q => XT.i2b X.here B.exec rfl (hb B.byt d) rfl q) g
theorem go_i2c (B : OkK km κ l Z a0 n0 R own nm bytes maxL ret) (hd : Dc bytes pc (.i2c) 1 pc') (g : Go κ Q h k n pc' L (.int x.toUInt32.toUInt16.toUInt32.toInt32 :: st)) : Go κ Q h k n pc L (.int x :: st) := by
  obtain ⟨d, rfl⟩ := hd
  exact go_step (fun T locs X e t q => XT.i2c X.here B.exec rfl (hb B.byt d) rfl q) g
theorem go_lcmp (B : OkK km κ l Z a0 n0 R own nm bytes maxL ret) (hd : Dc bytes pc (.lcmp) 1 pc') (g : Go κ Q h k n pc' L (.int (XT.cmpL u w) :: st)) : Go κ Q h k n pc L (.long w :: .long u :: st) := by
  obtain ⟨d, rfl⟩ := hd
  exact go_step (fun T locs X e t q => XT.lcmp X.here B.exec rfl (hb B.byt d) rfl q) g
theorem go_pop (B : OkK km κ l Z a0 n0 R own nm bytes maxL ret) (hd : Dc bytes pc (.pop) 1 pc') (hc : v.category = 1) (g : Go κ Q h k n pc' L (st)) : Go κ Q h k n pc L (v :: st) := by
  obtain ⟨d, rfl⟩ := hd
  exact go_step (fun T locs X e t q => XT.pop X.here B.exec rfl (hb B.byt d) rfl hc q) g
theorem go_dup (B : OkK km κ l Z a0 n0 R own nm bytes maxL ret) (hd : Dc bytes pc (.dup) 1 pc') (hc : v.category = 1) (g : Go κ Q h k n pc' L (v :: v :: st)) : Go κ Q h k n pc L (v :: st) := by
  obtain ⟨d, rfl⟩ := hd
  exact go_step (fun T locs X e t q => XS.dup X.here B.exec rfl (hb B.byt d) rfl hc q) g
theorem go_dup_x1 (B : OkK km κ l Z a0 n0 R own nm bytes maxL ret) (hd : Dc bytes pc (.dup_x1) 1 pc') (hc : v.category = 1) (hc' : v'.category = 1) (g : Go κ Q h k n pc' L (v :: v' :: v :: st)) : Go κ Q h k n pc L (v :: v' :: st) := by
  obtain ⟨d, rfl⟩ := hd
  exact go_step (fun T locs X e t q => XT.dupX1 X.here B.exec rfl (hb B.byt d) rfl hc hc' q) g
theorem go_dup2 (B : OkK km κ l Z a0 n0 R own nm bytes maxL ret) (hd : Dc bytes pc (.dup2) 1 pc') (hc : v.category = 1) (hc' : v'.category = 1) (g : Go κ Q h k n pc' L (v :: v' :: v :: v' :: st)) : Go κ Q h k n pc L (v :: v' :: st) := by
  obtain ⟨d, rfl⟩ := hd
  exact go_step (fun T locs X e t q => XT.dup2 X.here B.exec rfl (hb B.byt d) rfl hc hc' q) g
theorem go_dup2l (B : OkK km κ l Z a0 n0 R own nm bytes maxL ret) (hd : Dc bytes pc (.dup2) 1 pc') (g : Go κ Q h k n pc' L (.long u :: .long u :: st)) : Go κ Q h k n pc L (.long u :: st) := by
  obtain ⟨d, rfl⟩ := hd
  exact go_step (fun T locs X e t q => XT.dup2L X.here B.exec rfl (hb B.byt d) rfl q) g
theorem go_iconst (B : OkK km κ l Z a0 n0 R own nm bytes maxL ret) (hd : Dc bytes pc (.iconst o) 1 pc') (hv : Int32.ofInt o = x) (g : Go κ Q h k n pc' L (.int x :: st)) : Go κ Q h k n pc L (st) := by
  obtain ⟨d, rfl⟩ := hd
  exact go_step (fun T locs X e t q => XT.iconstV X.here B.exec rfl x (hb B.byt d) hv q) g
theorem go_bipush (B : OkK km κ l Z a0 n0 R own nm bytes maxL ret) (hd : Dc bytes pc (.bipush o) 2 pc') (hv : (Int8.ofInt o).toInt32 = x) (g : Go κ Q h k n pc' L (.int x :: st)) : Go κ Q h k n pc L (st) := by
  obtain ⟨d, rfl⟩ := hd
  exact go_step (fun T locs X e t q => XT.bipushV X.here B.exec rfl x (hb B.byt d) hv q) g
theorem go_sipush (B : OkK km κ l Z a0 n0 R own nm bytes maxL ret) (hd : Dc bytes pc (.sipush o) 3 pc') (hv : (Int16.ofInt o).toInt32 = x) (g : Go κ Q h k n pc' L (.int x :: st)) : Go κ Q h k n pc L (st) := by
  obtain ⟨d, rfl⟩ := hd
  exact go_step (fun T locs X e t q => XT.sipushV X.here B.exec rfl x (hb B.byt d) hv q) g
theorem go_lconst (B : OkK km κ l Z a0 n0 R own nm bytes maxL ret) {j : Fin 2} (hd : Dc bytes pc (.lconst j) 1 pc') (hv : Int64.ofNat j = u) (g : Go κ Q h k n pc' L (.long u :: st)) : Go κ Q h k n pc L (st) := by
  obtain ⟨d, rfl⟩ := hd
  exact go_step (fun T locs X e t q => XT.lconstV X.here B.exec rfl u (hb B.byt d) hv q) g
theorem go_aconst_null (B : OkK km κ l Z a0 n0 R own nm bytes maxL ret) (hd : Dc bytes pc (.aconst_null) 1 pc') (g : Go κ Q h k n pc' L (.null :: st)) : Go κ Q h k n pc L (st) := by
  obtain ⟨d, rfl⟩ := hd
  exact go_step (fun T locs X e t q => XS.aconstNull X.here B.exec rfl (hb B.byt d) q) g
theorem go_iload_n (B : OkK km κ l Z a0 n0 R own nm bytes maxL ret) {j : Fin 4} (hd : Dc bytes pc (.iload_n j) 1 pc') (hl : L[j.val]? = some (.val (.int x))) (g : Go κ Q h k n pc' L (.int x :: st)) : Go κ Q h k n pc L (st) := by
  obtain ⟨d, rfl⟩ := hd
  exact go_step (fun T locs X e t q => XS.iloadN X.here B.exec rfl (hb B.byt d) hl q) g
theorem go_iload (B : OkK km κ l Z a0 n0 R own nm bytes maxL ret) {j : Nat} (hd : Dc bytes pc (.iload j) 2 pc') (hl : L[j]? = some (.val (.int x))) (g : Go κ Q h k n pc' L (.int x :: st)) : Go κ Q h k n pc L (st) := by
  obtain ⟨d, rfl⟩ := hd
  exact go_step (fun T locs X e t q => XS.iload X.here B.exec rfl (hb B.byt d) hl q) g
theorem go_istore_n (B : OkK km κ l Z a0 n0 R own nm bytes maxL ret) {j : Fin 4} (L' : Array Slot) (hd : Dc bytes pc (.istore_n j) 1 pc') (hl : storeLocals L j.val (.int x) = some L') (g : Go κ Q h k n pc' L' st) : Go κ Q h k n pc L (.int x :: st) := by
  obtain ⟨d, rfl⟩ := hd
  exact go_step (fun T locs X e t q => XS.istoreN X.here B.exec rfl (hb B.byt d) rfl hl q) g
theorem go_istore (B : OkK km κ l Z a0 n0 R own nm bytes maxL ret) {j : Nat} (L' : Array Slot) (hd : Dc bytes pc (.istore j) 2 pc') (hl : storeLocals L j (.int x) = some L') (g : Go κ Q h k n pc' L' st) : Go κ Q h k n pc L (.int x :: st) := by
  obtain ⟨d, rfl⟩ := hd
  exact go_step (fun T locs X e t q => XS.istore X.here B.exec rfl (hb B.byt d) rfl hl q) g
theorem go_lload_n (B : OkK km κ l Z a0 n0 R own nm bytes maxL ret) {j : Fin 4} (hd : Dc bytes pc (.lload_n j) 1 pc') (hl : L[j.val]? = some (.val (.long u))) (g : Go κ Q h k n pc' L (.long u :: st)) : Go κ Q h k n pc L (st) := by
  obtain ⟨d, rfl⟩ := hd
  exact go_step (fun T locs X e t q => XT.lloadN X.here B.exec rfl (hb B.byt d) hl q) g
theorem go_lload (B : OkK km κ l Z a0 n0 R own nm bytes maxL ret) {j : Nat} (hd : Dc bytes pc (.lload j) 2 pc') (hl : L[j]? = some (.val (.long u))) (g : Go κ Q h k n pc' L (.long u :: st)) : Go κ Q h k n pc L (st) := by
  obtain ⟨d, rfl⟩ := hd
  exact go_step (fun T locs X e t q => XT.lload X.here B.exec rfl (hb B.byt d) hl q) g
theorem go_lstore_n (B : OkK km κ l Z a0 n0 R own nm bytes maxL ret) {j : Fin 4} (L' : Array Slot) (hd : Dc bytes pc (.lstore_n j) 1 pc') (hl : storeLocals L j.val (.long u) = some L') (g : Go κ Q h k n pc' L' st) : Go κ Q h k n pc L (.long u :: st) := by
  obtain ⟨d, rfl⟩ := hd
  exact go_step (fun T locs X e t q => XT.lstoreN X.here B.exec rfl (hb B.byt d) rfl hl q) g
theorem go_lstore (B : OkK km κ l Z a0 n0 R own nm bytes maxL ret) {j : Nat} (L' : Array Slot) (hd : Dc bytes pc (.lstore j) 2 pc') (hl : storeLocals L j (.long u) = some L') (g : Go κ Q h k n pc' L' st) : Go κ Q h k n pc L (.long u :: st) := by
  obtain ⟨d, rfl⟩ := hd
  exact go_step (fun T locs X e t q => XT.lstore X.here B.exec rfl (hb B.byt d) rfl hl q) g
theorem go_aload_n (B : OkK km κ l Z a0 n0 R own nm bytes maxL ret) {j : Fin 4} (hd : Dc bytes pc (.aload_n j) 1 pc') (hl : L[j.val]? = some (.val (v))) (hv : v.isRef = true) (g : Go κ Q h k n pc' L (v :: st)) : Go κ Q h k n pc L (st) := by
  obtain ⟨d, rfl⟩ := hd
  exact go_step (fun T locs X e t q => XS.aloadN X.here B.exec rfl (hb B.byt d) hl hv q) g
theorem go_aload (B : OkK km κ l Z a0 n0 R own nm bytes maxL ret) {j : Nat} (hd : Dc bytes pc (.aload j) 2 pc') (hl : L[j]? = some (.val (v))) (hv : v.isRef = true) (g : Go κ Q h k n pc' L (v :: st)) : Go κ Q h k n pc L (st) := by
  obtain ⟨d, rfl⟩ := hd
  exact go_step (fun T locs X e t q => XS.aload X.here B.exec rfl (hb B.byt d) hl hv q) g
theorem go_astore_n (B : OkK km κ l Z a0 n0 R own nm bytes maxL ret) {j : Fin 4} (L' : Array Slot) (hd : Dc bytes pc (.astore_n j) 1 pc') (hv : v.isRef = true) (hl : storeLocals L j.val (v) = some L') (g : Go κ Q h k n pc' L' st) : Go κ Q h k n pc L (v :: st) := by
  obtain ⟨d, rfl⟩ := hd
  exact go_step (fun T locs X e t q => XS.astoreN X.here B.exec rfl (hb B.byt d) rfl hv hl q) g
theorem go_astore (B : OkK km κ l Z a0 n0 R own nm bytes maxL ret) {j : Nat} (L' : Array Slot) (hd : Dc bytes pc (.astore j) 2 pc') (hv : v.isRef = true) (hl : storeLocals L j (v) = some L') (g : Go κ Q h k n pc' L' st) : Go κ Q h k n pc L (v :: st) := by
  obtain ⟨d, rfl⟩ := hd
  exact go_step (fun T locs X e t q => XS.astore X.here B.exec rfl (hb B.byt d) rfl hv hl q) g
theorem go_iinc (B : OkK km κ l Z a0 n0 R own nm bytes maxL ret) {j : Nat} {z : Int32} (L' : Array Slot) (hd : Dc bytes pc (.iinc j o) 3 pc') (hz : Int32.ofInt o = z) (hl : L[j]? = some (.val (.int x))) (hl' : storeLocals L j (.int (x + z)) = some L') (g : Go κ Q h k n pc' L' st) : Go κ Q h k n pc L st := by
  obtain ⟨d, rfl⟩ := hd
  subst hz
  exact go_step (fun T locs X e t q => XS.iinc X.here B.exec rfl (hb B.byt d) hl hl' q) g
theorem go_goto (B : OkK km κ l Z a0 n0 R own nm bytes maxL ret) (hd : Db bytes pc (.goto o) o pc1 pc2) (g : Go κ Q h k n pc2 L st) : Go κ Q h k n pc L st := by
  obtain ⟨d, -, e2⟩ := hd
  exact go_step (fun T locs X e t q => XS.goto X.here B.exec rfl (pc0 := pc) rfl (hb B.byt d) (by omega) (by omega) q) g
theorem go_icmpeq (B : OkK km κ l Z a0 n0 R own nm bytes maxL ret) (hd : Db bytes pc (.if_icmp .eq o) o pc1 pc2) (gt : x = y → Go κ Q h k n pc2 L st) (gf : ¬ x = y → Go κ Q h k n pc1 L st) : Go κ Q h k n pc L (.int y :: .int x :: st) := by
  obtain ⟨d, rfl, e2⟩ := hd
  rcases Classical.em (x = y) with q0 | q0
  · exact go_step (fun T locs X e t q => XS.icmpYes X.here B.exec rfl (pc0 := pc) rfl (hb B.byt d) rfl (XT.ii_eq_t q0) (by omega) (by omega) q) (gt q0)
  · exact go_step (fun T locs X e t q => XS.icmpNo X.here B.exec rfl (hb B.byt d) rfl (XT.ii_eq_f q0) q) (gf q0)
theorem go_icmpne (B : OkK km κ l Z a0 n0 R own nm bytes maxL ret) (hd : Db bytes pc (.if_icmp .ne o) o pc1 pc2) (gt : ¬ x = y → Go κ Q h k n pc2 L st) (gf : x = y → Go κ Q h k n pc1 L st) : Go κ Q h k n pc L (.int y :: .int x :: st) := by
  obtain ⟨d, rfl, e2⟩ := hd
  rcases Classical.em (¬ x = y) with q0 | q0
  · exact go_step (fun T locs X e t q => XS.icmpYes X.here B.exec rfl (pc0 := pc) rfl (hb B.byt d) rfl (XT.ii_ne_t q0) (by omega) (by omega) q) (gt q0)
  · exact go_step (fun T locs X e t q => XS.icmpNo X.here B.exec rfl (hb B.byt d) rfl (XT.ii_ne_f (Classical.not_not.mp q0)) q) (gf (Classical.not_not.mp q0))
theorem go_icmplt (B : OkK km κ l Z a0 n0 R own nm bytes maxL ret) (hd : Db bytes pc (.if_icmp .lt o) o pc1 pc2) (gt : x < y → Go κ Q h k n pc2 L st) (gf : ¬ x < y → Go κ Q h k n pc1 L st) : Go κ Q h k n pc L (.int y :: .int x :: st) := by
  obtain ⟨d, rfl, e2⟩ := hd
  rcases Classical.em (x < y) with q0 | q0
  · exact go_step (fun T locs X e t q => XS.icmpYes X.here B.exec rfl (pc0 := pc) rfl (hb B.byt d) rfl (XT.ii_lt_t q0) (by omega) (by omega) q) (gt q0)
  · exact go_step (fun T locs X e t q => XS.icmpNo X.here B.exec rfl (hb B.byt d) rfl (XT.ii_lt_f q0) q) (gf q0)
theorem go_icmpge (B : OkK km κ l Z a0 n0 R own nm bytes maxL ret) (hd : Db bytes pc (.if_icmp .ge o) o pc1 pc2) (gt : ¬ x < y → Go κ Q h k n pc2 L st) (gf : x < y → Go κ Q h k n pc1 L st) : Go κ Q h k n pc L (.int y :: .int x :: st) := by
  obtain ⟨d, rfl, e2⟩ := hd
  rcases Classical.em (¬ x < y) with q0 | q0
  · exact go_step (fun T locs X e t q => XS.icmpYes X.here B.exec rfl (pc0 := pc) rfl (hb B.byt d) rfl (XT.ii_ge_t q0) (by omega) (by omega) q) (gt q0)
  · exact go_step (fun T locs X e t q => XS.icmpNo X.here B.exec rfl (hb B.byt d) rfl (XT.ii_ge_f (Classical.not_not.mp q0)) q) (gf (Classical.not_not.mp q0))
theorem go_icmpgt (B : OkK km κ l Z a0 n0 R own nm bytes maxL ret) (hd : Db bytes pc (.if_icmp .gt o) o pc1 pc2) (gt : y < x → Go κ Q h k n pc2 L st) (gf : ¬ y < x → Go κ Q h k n pc1 L st) : Go κ Q h k n pc L (.int y :: .int x :: st) := by
  obtain ⟨d, rfl, e2⟩ := hd
  rcases Classical.em (y < x) with q0 | q0
  · exact go_step (fun T locs X e t q => XS.icmpYes X.here B.exec rfl (pc0 := pc) rfl (hb B.byt d) rfl (XT.ii_gt_t q0) (by omega) (by omega) q) (gt q0)
  · exact go_step (fun T locs X e t q => XS.icmpNo X.here B.exec rfl (hb B.byt d) rfl (XT.ii_gt_f q0) q) (gf q0)
theorem go_icmple (B : OkK km κ l Z a0 n0 R own nm bytes maxL ret) (hd : Db bytes pc (.if_icmp .le o) o pc1 pc2) (gt : ¬ y < x → Go κ Q h k n pc2 L st) (gf : y < x → Go κ Q h k n pc1 L st) : Go κ Q h k n pc L (.int y :: .int x :: st) := by
  obtain ⟨d, rfl, e2⟩ := hd
  rcases Classical.em (¬ y < x) with q0 | q0
  · exact go_step (fun T locs X e t q => XS.icmpYes X.here B.exec rfl (pc0 := pc) rfl (hb B.byt d) rfl (XT.ii_le_t q0) (by omega) (by omega) q) (gt q0)
  · exact go_step (fun T locs X e t q => XS.icmpNo X.here B.exec rfl (hb B.byt d) rfl (XT.ii_le_f (Classical.not_not.mp q0)) q) (gf (Classical.not_not.mp q0))
theorem go_ifeq (B : OkK km κ l Z a0 n0 R own nm bytes maxL ret) (hd : Db bytes pc (.ifCond .eq o) o pc1 pc2) (gt : x = 0 → Go κ Q h k n pc2 L st) (gf : ¬ x = 0 → Go κ Q h k n pc1 L st) : Go κ Q h k n pc L (.int x :: st) := by
  obtain ⟨d, rfl, e2⟩ := hd
  rcases Classical.em (x = 0) with q0 | q0
  · exact go_step (fun T locs X e t q => XS.ifYes X.here B.exec rfl (pc0 := pc) rfl (hb B.byt d) rfl (XT.i0_eq_t q0) (by omega) (by omega) q) (gt q0)
  · exact go_step (fun T locs X e t q => XS.ifNo X.here B.exec rfl (hb B.byt d) rfl (XT.i0_eq_f q0) q) (gf q0)
theorem go_ifne (B : OkK km κ l Z a0 n0 R own nm bytes maxL ret) (hd : Db bytes pc (.ifCond .ne o) o pc1 pc2) (gt : ¬ x = 0 → Go κ Q h k n pc2 L st) (gf : x = 0 → Go κ Q h k n pc1 L st) : Go κ Q h k n pc L (.int x :: st) := by
  obtain ⟨d, rfl, e2⟩ := hd
  rcases Classical.em (¬ x = 0) with q0 | q0
  · exact go_step (fun T locs X e t q => XS.ifYes X.here B.exec rfl (pc0 := pc) rfl (hb B.byt d) rfl (XT.i0_ne_t q0) (by omega) (by omega) q) (gt q0)
  · exact go_step (fun T locs X e t q => XS.ifNo X.here B.exec rfl (hb B.byt d) rfl (XT.i0_ne_f (Classical.not_not.mp q0)) q) (gf (Classical.not_not.mp q0))
theorem go_iflt (B : OkK km κ l Z a0 n0 R own nm bytes maxL ret) (hd : Db bytes pc (.ifCond .lt o) o pc1 pc2) (gt : x < 0 → Go κ Q h k n pc2 L st) (gf : ¬ x < 0 → Go κ Q h k n pc1 L st) : Go κ Q h k n pc L (.int x :: st) := by
  obtain ⟨d, rfl, e2⟩ := hd
  rcases Classical.em (x < 0) with q0 | q0
  · exact go_step (fun T locs X e t q => XS.ifYes X.here B.exec rfl (pc0 := pc) rfl (hb B.byt d) rfl (XT.i0_lt_t q0) (by omega) (by omega) q) (gt q0)
  · exact go_step (fun T locs X e t q => XS.ifNo X.here B.exec rfl (hb B.byt d) rfl (XT.i0_lt_f q0) q) (gf q0)
theorem go_ifge (B : OkK km κ l Z a0 n0 R own nm bytes maxL ret) (hd : Db bytes pc (.ifCond .ge o) o pc1 pc2) (gt : ¬ x < 0 → Go κ Q h k n pc2 L st) (gf : x < 0 → Go κ Q h k n pc1 L st) : Go κ Q h k n pc L (.int x :: st) := by
  obtain ⟨d, rfl, e2⟩ := hd
  rcases Classical.em (¬ x < 0) with q0 | q0
  · exact go_step (fun T locs X e t q => XS.ifYes X.here B.exec rfl (pc0 := pc) rfl (hb B.byt d) rfl (XT.i0_ge_t q0) (by omega) (by omega) q) (gt q0)
  · exact go_step (fun T locs X e t q => XS.ifNo X.here B.exec rfl (hb B.byt d) rfl (XT.i0_ge_f (Classical.not_not.mp q0)) q) (gf (Classical.not_not.mp q0))
theorem go_ifgt (B : OkK km κ l Z a0 n0 R own nm bytes maxL ret) (hd : Db bytes pc (.ifCond .gt o) o pc1 pc2) (gt : 0 < x → Go κ Q h k n pc2 L st) (gf : ¬ 0 < x → Go κ Q h k n pc1 L st) : Go κ Q h k n pc L (.int x :: st) := by
  obtain ⟨d, rfl, e2⟩ := hd
  rcases Classical.em (0 < x) with q0 | q0
  · exact go_step (fun T locs X e t q => XS.ifYes X.here B.exec rfl (pc0 := pc) rfl (hb B.byt d) rfl (XT.i0_gt_t q0) (by omega) (by omega) q) (gt q0)
  · exact go_step (fun T locs X e t q => XS.ifNo X.here B.exec rfl (hb B.byt d) rfl (XT.i0_gt_f q0) q) (gf q0)
theorem go_ifle (B : OkK km κ l Z a0 n0 R own nm bytes maxL ret) (hd : Db bytes pc (.ifCond .le o) o pc1 pc2) (gt : ¬ 0 < x → Go κ Q h k n pc2 L st) (gf : 0 < x → Go κ Q h k n pc1 L st) : Go κ Q h k n pc L (.int x :: st) := by
  obtain ⟨d, rfl, e2⟩ := hd
  rcases Classical.em (¬ 0 < x) with q0 | q0
  · exact go_step (fun T locs X e t q => XS.ifYes X.here B.exec rfl (pc0 := pc) rfl (hb B.byt d) rfl (XT.i0_le_t q0) (by omega) (by omega) q) (gt q0)
  · exact go_step (fun T locs X e t q => XS.ifNo X.here B.exec rfl (hb B.byt d) rfl (XT.i0_le_f (Classical.not_not.mp q0)) q) (gf (Classical.not_not.mp q0))
theorem go_lifeq (B : OkK km κ l Z a0 n0 R own nm bytes maxL ret) (hd : Db bytes pc (.ifCond .eq o) o pc1 pc2) (gt : u = w → Go κ Q h k n pc2 L st) (gf : ¬ u = w → Go κ Q h k n pc1 L st) : Go κ Q h k n pc L (.int (XT.cmpL u w) :: st) := by
  obtain ⟨d, rfl, e2⟩ := hd
  rcases Classical.em (u = w) with q0 | q0
  · exact go_step (fun T locs X e t q => XS.ifYes X.here B.exec rfl (pc0 := pc) rfl (hb B.byt d) rfl (XT.ll_eq_t q0) (by omega) (by omega) q) (gt q0)
  · exact go_step (fun T locs X e t q => XS.ifNo X.here B.exec rfl (hb B.byt d) rfl (XT.ll_eq_f q0) q) (gf q0)
theorem go_lifne (B : OkK km κ l Z a0 n0 R own nm bytes maxL ret) (hd : Db bytes pc (.ifCond .ne o) o pc1 pc2) (gt : ¬ u = w → Go κ Q h k n pc2 L st) (gf : u = w → Go κ Q h k n pc1 L st) : Go κ Q h k n pc L (.int (XT.cmpL u w) :: st) := by
  obtain ⟨d, rfl, e2⟩ := hd
  rcases Classical.em (¬ u = w) with q0 | q0
  · exact go_step (fun T locs X e t q => XS.ifYes X.here B.exec rfl (pc0 := pc) rfl (hb B.byt d) rfl (XT.ll_ne_t q0) (by omega) (by omega) q) (gt q0)
  · exact go_step (fun T locs X e t q => XS.ifNo X.here B.exec rfl (hb B.byt d) rfl (XT.ll_ne_f (Classical.not_not.mp q0)) q) (gf (Classical.not_not.mp q0))
theorem go_liflt (B : OkK km κ l Z a0 n0 R own nm bytes maxL ret) (hd : Db bytes pc (.ifCond .lt o) o pc1 pc2) (gt : u < w → Go κ Q h k n pc2 L st) (gf : ¬ u < w → Go κ Q h k n pc1 L st) : Go κ Q h k n pc L (.int (XT.cmpL u w) :: st) := by
  obtain ⟨d, rfl, e2⟩ := hd
  rcases Classical.em (u < w) with q0 | q0
  · exact go_step (fun T locs X e t q => XS.ifYes X.here B.exec rfl (pc0 := pc) rfl (hb B.byt d) rfl (XT.ll_lt_t q0) (by omega) (by omega) q) (gt q0)
  · exact go_step (fun T locs X e t q => XS.ifNo X.here B.exec rfl (hb B.byt d) rfl (XT.ll_lt_f q0) q) (gf q0)
theorem go_lifge (B : OkK km κ l Z a0 n0 R own nm bytes maxL ret) (hd : Db bytes pc (.ifCond .ge o) o pc1 pc2) (gt : ¬ u < w → Go κ Q h k n pc2 L st) (gf : u < w → Go κ Q h k n pc1 L st) : Go κ Q h k n pc L (.int (XT.cmpL u w) :: st) := by
  obtain ⟨d, rfl, e2⟩ := hd
  rcases Classical.em (¬ u < w) with q0 | q0
  · exact go_step (fun T locs X e t q => XS.ifYes X.here B.exec rfl (pc0 := pc) rfl (hb B.byt d) rfl (XT.ll_ge_t q0) (by omega) (by omega) q) (gt q0)
  · exact go_step (fun T locs X e t q => XS.ifNo X.here B.exec rfl (hb B.byt d) rfl (XT.ll_ge_f (Classical.not_not.mp q0)) q) (gf (Classical.not_not.mp q0))
theorem go_lifgt (B : OkK km κ l Z a0 n0 R own nm bytes maxL ret) (hd : Db bytes pc (.ifCond .gt o) o pc1 pc2) (gt : w < u → Go κ Q h k n pc2 L st) (gf : ¬ w < u → Go κ Q h k n pc1 L st) : Go κ Q h k n pc L (.int (XT.cmpL u w) :: st) := by
  obtain ⟨d, rfl, e2⟩ := hd
  rcases Classical.em (w < u) with q0 | q0
  · exact go_step (fun T locs X e t q => XS.ifYes X.here B.exec rfl (pc0 := pc) rfl (hb B.byt d) rfl (XT.ll_gt_t q0) (by omega) (by omega) q) (gt q0)
  · exact go_step (fun T locs X e t q => XS.ifNo X.here B.exec rfl (hb B.byt d) rfl (XT.ll_gt_f q0) q) (gf q0)
theorem go_lifle (B : OkK km κ l Z a0 n0 R own nm bytes maxL ret) (hd : Db bytes pc (.ifCond .le o) o pc1 pc2) (gt : ¬ w < u → Go κ Q h k n pc2 L st) (gf : w < u → Go κ Q h k n pc1 L st) : Go κ Q h k n pc L (.int (XT.cmpL u w) :: st) := by
  obtain ⟨d, rfl, e2⟩ := hd
  rcases Classical.em (¬ w < u) with q0 | q0
  · exact go_step (fun T locs X e t q => XS.ifYes X.here B.exec rfl (pc0 := pc) rfl (hb B.byt d) rfl (XT.ll_le_t q0) (by omega) (by omega) q) (gt q0)
  · exact go_step (fun T locs X e t q => XS.ifNo X.here B.exec rfl (hb B.byt d) rfl (XT.ll_le_f (Classical.not_not.mp q0)) q) (gf (Classical.not_not.mp q0))
theorem go_acmpeq (B : OkK km κ l Z a0 n0 R own nm bytes maxL ret) (hd : Db bytes pc (.if_acmp .eq o) o pc1 pc2) (hv : v.isRef = true) (hv' : v'.isRef = true) (gt : v' = v → Go κ Q h k n pc2 L st) (gf : ¬ v' = v → Go κ Q h k n pc1 L st) : Go κ Q h k n pc L (v :: v' :: st) := by
  obtain ⟨d, rfl, e2⟩ := hd
  rcases Classical.em (v' = v) with q0 | q0
  · exact go_step (fun T locs X e t q => XT.acmpYes X.here B.exec rfl (pc0 := pc) rfl (hb B.byt d) rfl hv' hv (XT.aa_eq_t q0) (by omega) (by omega) q) (gt q0)
  · exact go_step (fun T locs X e t q => XT.acmpNo X.here B.exec rfl (hb B.byt d) rfl hv' hv (XT.aa_eq_f q0) q) (gf q0)
theorem go_acmpne (B : OkK km κ l Z a0 n0 R own nm bytes maxL ret) (hd : Db bytes pc (.if_acmp .ne o) o pc1 pc2) (hv : v.isRef = true) (hv' : v'.isRef = true) (gt : ¬ v' = v → Go κ Q h k n pc2 L st) (gf : v' = v → Go κ Q h k n pc1 L st) : Go κ Q h k n pc L (v :: v' :: st) := by
  obtain ⟨d, rfl, e2⟩ := hd
  rcases Classical.em (¬ v' = v) with q0 | q0
  · exact go_step (fun T locs X e t q => XT.acmpYes X.here B.exec rfl (pc0 := pc) rfl (hb B.byt d) rfl hv' hv (XT.aa_ne_t q0) (by omega) (by omega) q) (gt q0)
  · exact go_step (fun T locs X e t q => XT.acmpNo X.here B.exec rfl (hb B.byt d) rfl hv' hv (XT.aa_ne_f (Classical.not_not.mp q0)) q) (gf (Classical.not_not.mp q0))
theorem go_ifnull_t (B : OkK km κ l Z a0 n0 R own nm bytes maxL ret) (hd : Db bytes pc (.ifnull o) o pc1 pc2) (g : Go κ Q h k n pc2 L st) : Go κ Q h k n pc L (.null :: st) := by
  obtain ⟨d, rfl, e2⟩ := hd
  exact go_step (fun T locs X e t q => XS.ifnullYes X.here B.exec rfl (pc0 := pc) rfl (hb B.byt d) rfl (by omega) (by omega) q) g
theorem go_ifnull_f (B : OkK km κ l Z a0 n0 R own nm bytes maxL ret) (hd : Db bytes pc (.ifnull o) o pc1 pc2) (g : Go κ Q h k n pc1 L st) : Go κ Q h k n pc L (.ref a :: st) := by
  obtain ⟨d, rfl, e2⟩ := hd
  exact go_step (fun T locs X e t q => XS.ifnullNo X.here B.exec rfl (hb B.byt d) rfl q) g
theorem go_ifnonnull_t (B : OkK km κ l Z a0 n0 R own nm bytes maxL ret) (hd : Db bytes pc (.ifnonnull o) o pc1 pc2) (g : Go κ Q h k n pc2 L st) : Go κ Q h k n pc L (.ref a :: st) := by
  obtain ⟨d, rfl, e2⟩ := hd
  exact go_step (fun T locs X e t q => XT.ifnonnullYes X.here B.exec rfl (pc0 := pc) rfl (hb B.byt d) rfl (by omega) (by omega) q) g
theorem go_ifnonnull_f (B : OkK km κ l Z a0 n0 R own nm bytes maxL ret) (hd : Db bytes pc (.ifnonnull o) o pc1 pc2) (g : Go κ Q h k n pc1 L st) : Go κ Q h k n pc L (.null :: st) := by
  obtain ⟨d, rfl, e2⟩ := hd
  exact go_step (fun T locs X e t q => XT.ifnonnullNo X.here B.exec rfl (hb B.byt d) rfl q) g
/-! fields, objects, arrays, calls, returns -/
theorem go_getfield (B : OkK km κ l Z a0 n0 R own nm bytes maxL ret) {idx : Nat} {O fn d : String} (hd : Dc bytes pc (.getfield idx) 3 pc') (wl : (Jvm.Cond.fieldLink own idx O fn d).before a0 Z = true) (F : Fld Z h a O fn d v) (g : Go κ Q h k n pc' L (v :: st)) : Go κ Q h k n pc L (.ref a :: st) := fun T locs X N e => by
  obtain ⟨dd, rfl⟩ := hd
  obtain ⟨T', X', e', sp⟩ := getF X B.exec B.warm B.hown (host := "") (Or.inl wl) Via.refl e F (g := mkF κ.m pc L (.ref a :: st)) rfl rfl (hb B.byt dd)
  obtain ⟨t, o, h1, h2⟩ := g T' locs X' N e'
  exact ⟨t, o, sp _ h1, h2⟩
theorem go_getstatic (B : OkK km κ l Z a0 n0 R own nm bytes maxL ret) {idx : Nat} {O fn d : String} (hd : Dc bytes pc (.getstatic idx) 3 pc') (wl : (Jvm.Cond.fieldLink own idx O fn d).before a0 Z = true) (F : Sta Z h O fn d v) (g : Go κ Q h k n pc' L (v :: st)) : Go κ Q h k n pc L st := fun T locs X N e => by
  obtain ⟨dd, rfl⟩ := hd
  obtain ⟨T', X', e', sp⟩ := getS (host := "") X B.exec B.warm B.hown wl Via.refl e F (g := mkF κ.m pc L st) rfl (hb B.byt dd)
  obtain ⟨t, o, h1, h2⟩ := g T' locs X' N e'
  exact ⟨t, o, sp _ h1, h2⟩
theorem go_putfield (B : OkK km κ l Z a0 n0 R own nm bytes maxL ret) {idx kk : Nat} {O fn d C : String} {ty : FieldType} {old : Value} (hd : Dc bytes pc (.putfield idx) 3 pc') (wl : (Jvm.Cond.fieldLink own idx O fn d).before a0 Z = true) (F : Fld Z h a O fn d old) (E : Exa Z h a C)
    (wy : (Jvm.Cond.lays C O fn d).before a0 Z = true ∨ ((Jvm.Cond.laysFinal C O fn d).before a0 Z = true ∧ own = O ∧ nm = "<init>")) (wi : (Jvm.Cond.instantiable C kk).before a0 Z = true) (hty : parseFieldDescriptor d = some ty) (hn : narrow ty v = v) (hf : fits ty v = true) (ha : n0 ≤ a)
    (g : ∀ h', Wr h h' a (Jvm.RoadKit.slotOf Z O fn d) v → Go κ Q h' k n pc' L st) : Go κ Q h k n pc L (v :: .ref a :: st) := fun T locs X N e => by
  obtain ⟨dd, rfl⟩ := hd
  obtain ⟨T', h', X', e', W, sp⟩ := putF X B.exec B.warm B.hown (host := "") (Or.inl wl) Via.refl e F E (wy.imp id fun q => ⟨q.1, q.2.1, B.name.trans q.2.2⟩) wi hty hn hf (g := mkF κ.m pc L (v :: .ref a :: st)) rfl rfl (hb B.byt dd)
  obtain ⟨t, o, h1, h2⟩ := g h' W T' _ X' (Fr.snoc X' N (B.hn ▸ ha)) e'
  exact ⟨t, o, sp _ h1, h2⟩
theorem go_new (B : OkK km κ l Z a0 n0 R own nm bytes maxL ret) {idx nf : Nat} {C : String} (hd : Dc bytes pc (.new idx) 3 pc') (wl : (Jvm.Cond.classLink own idx C).before a0 Z = true) (wi : (Jvm.Cond.instantiable C nf).before a0 Z = true) (wz : (Jvm.Cond.initialized C).before a0 Z = true) (hc : k + 1 ≤ R.cells) (hl : n + nf ≤ R.slots)
    (g : ∀ h' b, b = h.size → Ext h h' → Exa Z h' b C → (∀ {O fn d : String} {ty : FieldType}, Laid Z a0 C O fn d → parseFieldDescriptor d = some ty → Fld Z h' b O fn d (defaultValue ty)) → Go κ Q h' (k + 1) (n + nf) pc' L (.ref b :: st)) : Go κ Q h k n pc L st := fun T locs X N e => by
  obtain ⟨dd, rfl⟩ := hd
  obtain ⟨T', h', X', e', E, A, D, -, sp⟩ := newO X B.exec B.warm B.hown wl wi wz e (g := mkF κ.m pc L st) rfl (hb B.byt dd) (by rw [B.room]; exact hc) (by rw [B.room]; exact hl)
  obtain ⟨t, o, h1, h2⟩ := g h' _ rfl E A D T' locs X' N e'
  exact ⟨t, o, sp _ h1, h2⟩
/-- an array whose places hold just these values -/
def AV (Z : State) (h : Heap) (a : Addr) (ty : FieldType) (vs : List Value) : Prop := ∃ c : Cell, Arr Z h a c ty ∧ c.slots = vs.toArray ∧ vs.length < 2 ^ 31
theorem AV.ext {ty : FieldType} {vs : List Value} {h' : Heap} (F : AV Z h a ty vs) (E : Ext h h') : AV Z h' a ty vs := by obtain ⟨c, A, r⟩ := F; exact ⟨c, A.ext E, r⟩
theorem AV.other {ty : FieldType} {vs : List Value} {h' : Heap} {b : Addr} {sl : Nat} (F : AV Z h b ty vs) (W : Wr h h' a sl v) (q : b ≠ a) : AV Z h' b ty vs := by obtain ⟨c, A, r⟩ := F; exact ⟨c, A.other W q, r⟩
theorem AV.keep {ty : FieldType} {vs : List Value} {h' : Heap} {ws : List Addr} (F : AV Z h a ty vs) (K : Keep h h' ws) (q : a ∉ ws) : AV Z h' a ty vs := by obtain ⟨c, A, r⟩ := F; exact ⟨c, ⟨K.2.1 a c A.1 q, A.2⟩, r⟩
theorem AV.same {ty : FieldType} {vs : List Value} {h' : Heap} {i : Nat} (F : AV Z h a ty vs) (W : Wr h h' a i v) : AV Z h' a ty (vs.set i v) := by
  obtain ⟨c, A, r, s⟩ := F
  exact ⟨_, A.same W, by simp [Cell.setSlot, r], by simpa using s⟩
theorem AV.lt {ty : FieldType} {vs : List Value} (F : AV Z h a ty vs) : a < h.size := by obtain ⟨c, A, -⟩ := F; exact A.lt
theorem AV.len {ty : FieldType} {vs : List Value} (F : AV Z h a ty vs) : vs.length < 2 ^ 31 := by obtain ⟨c, A, -, q⟩ := F; exact q
theorem nat_idx {i : Nat} (hj : x.toInt = (i : Int)) : ¬ x < 0 ∧ x.toNatClampNeg = i := by
  refine ⟨fun q => ?_, ?_⟩
  · have := (Int32.lt_iff_toInt_lt).mp q
    have z : (0 : Int32).toInt = 0 := rfl
    omega
  · show x.toInt.toNat = i
    omega
theorem go_arraylength (B : OkK km κ l Z a0 n0 R own nm bytes maxL ret) {ty : FieldType} {vs : List Value} (hd : Dc bytes pc .arraylength 1 pc') (A : AV Z h a ty vs) (hx : Int32.ofNat vs.length = x) (g : Go κ Q h k n pc' L (.int x :: st)) : Go κ Q h k n pc L (.ref a :: st) := by
  obtain ⟨dd, rfl⟩ := hd
  obtain ⟨c, A, r, s⟩ := A
  have e1 : (Int32.ofNat c.slots.size) = x := by rw [← hx, r]; simp
  subst e1
  exact go_step (fun T locs X e t q => X.arraylength B.exec (by rw [e]; exact A.1) (State.isArrayOf_alike B.warm.alike A.2.1) (g := mkF κ.m pc L (.ref a :: st)) rfl rfl (hb B.byt dd) _ q) g
theorem go_iaload (B : OkK km κ l Z a0 n0 R own nm bytes maxL ret) {vs : List Value} {i : Nat} (hd : Dc bytes pc .iaload 1 pc') (A : AV Z h a .int vs) (hi : x.toInt = (i : Int)) (hv : vs[i]? = some v) (g : Go κ Q h k n pc' L (v :: st)) : Go κ Q h k n pc L (.int x :: .ref a :: st) := by
  obtain ⟨dd, rfl⟩ := hd
  obtain ⟨c, A, r, s⟩ := A
  obtain ⟨q1, q2⟩ := nat_idx hi
  have hl : i < vs.length := (List.getElem?_eq_some_iff.mp hv).1
  exact go_step (fun T locs X e t q => X.iaload B.exec (j := x) (v := v) (by rw [e]; exact A.1) (State.isArrayOf_alike B.warm.alike A.2.1) A.2.2 (by rw [r, q2]; simp; exact ⟨Int32.not_lt.mp q1, hl⟩) (by rw [r, q2]; simpa using hv) (g := mkF κ.m pc L (.int x :: .ref a :: st)) rfl rfl (hb B.byt dd) _ q) g
theorem go_laload (B : OkK km κ l Z a0 n0 R own nm bytes maxL ret) {vs : List Value} {i : Nat} (hd : Dc bytes pc .laload 1 pc') (A : AV Z h a .long vs) (hi : x.toInt = (i : Int)) (hv : vs[i]? = some v) (g : Go κ Q h k n pc' L (v :: st)) : Go κ Q h k n pc L (.int x :: .ref a :: st) := by
  obtain ⟨dd, rfl⟩ := hd
  obtain ⟨c, A, r, s⟩ := A
  obtain ⟨q1, q2⟩ := nat_idx hi
  have hl : i < vs.length := (List.getElem?_eq_some_iff.mp hv).1
  exact go_step (fun T locs X e t q => X.laload B.exec (j := x) (v := v) (by rw [e]; exact A.1) (State.isArrayOf_alike B.warm.alike A.2.1) A.2.2 (by rw [r, q2]; simp; exact ⟨Int32.not_lt.mp q1, hl⟩) (by rw [r, q2]; simpa using hv) (g := mkF κ.m pc L (.int x :: .ref a :: st)) rfl rfl (hb B.byt dd) _ q) g
theorem go_caload (B : OkK km κ l Z a0 n0 R own nm bytes maxL ret) {vs : List Value} {i : Nat} (hd : Dc bytes pc .caload 1 pc') (A : AV Z h a .char vs) (hi : x.toInt = (i : Int)) (hv : vs[i]? = some v) (g : Go κ Q h k n pc' L (v :: st)) : Go κ Q h k n pc L (.int x :: .ref a :: st) := by
  obtain ⟨dd, rfl⟩ := hd
  obtain ⟨c, A, r, s⟩ := A
  obtain ⟨q1, q2⟩ := nat_idx hi
  have hl : i < vs.length := (List.getElem?_eq_some_iff.mp hv).1
  exact go_step (fun T locs X e t q => X.caload B.exec (j := x) (v := v) (by rw [e]; exact A.1) (State.isArrayOf_alike B.warm.alike A.2.1) A.2.2 (by rw [r, q2]; simp; exact ⟨Int32.not_lt.mp q1, hl⟩) (by rw [r, q2]; simpa using hv) (g := mkF κ.m pc L (.int x :: .ref a :: st)) rfl rfl (hb B.byt dd) _ q) g
theorem go_baload (B : OkK km κ l Z a0 n0 R own nm bytes maxL ret) {vs : List Value} {i : Nat} (hd : Dc bytes pc .baload 1 pc') (A : AV Z h a .byte vs) (hi : x.toInt = (i : Int)) (hv : vs[i]? = some v) (g : Go κ Q h k n pc' L (v :: st)) : Go κ Q h k n pc L (.int x :: .ref a :: st) := by
  obtain ⟨dd, rfl⟩ := hd
  obtain ⟨c, A, r, s⟩ := A
  obtain ⟨q1, q2⟩ := nat_idx hi
  have hl : i < vs.length := (List.getElem?_eq_some_iff.mp hv).1
  exact go_step (fun T locs X e t q => X.baloadBytes B.exec (j := x) (v := v) (by rw [e]; exact A.1) (State.isArrayOf_alike B.warm.alike A.2.1) A.2.2 (by rw [r, q2]; simp; exact ⟨Int32.not_lt.mp q1, hl⟩) (by rw [r, q2]; simpa using hv) (g := mkF κ.m pc L (.int x :: .ref a :: st)) rfl rfl (hb B.byt dd) _ q) g
theorem go_zaload (B : OkK km κ l Z a0 n0 R own nm bytes maxL ret) {vs : List Value} {i : Nat} (hd : Dc bytes pc .baload 1 pc') (A : AV Z h a .boolean vs) (hi : x.toInt = (i : Int)) (hv : vs[i]? = some v) (g : Go κ Q h k n pc' L (v :: st)) : Go κ Q h k n pc L (.int x :: .ref a :: st) := by
  obtain ⟨dd, rfl⟩ := hd
  obtain ⟨c, A, r, s⟩ := A
  obtain ⟨q1, q2⟩ := nat_idx hi
  have hl : i < vs.length := (List.getElem?_eq_some_iff.mp hv).1
  exact go_step (fun T locs X e t q => X.baloadBooleans B.exec (j := x) (v := v) (by rw [e]; exact A.1) (State.isArrayOf_alike B.warm.alike A.2.1) A.2.2 (by rw [r, q2]; simp; exact ⟨Int32.not_lt.mp q1, hl⟩) (by rw [r, q2]; simpa using hv) (g := mkF κ.m pc L (.int x :: .ref a :: st)) rfl rfl (hb B.byt dd) _ q) g
theorem go_aaload (B : OkK km κ l Z a0 n0 R own nm bytes maxL ret) {ty : FieldType} {vs : List Value} {i : Nat} (hd : Dc bytes pc .aaload 1 pc') (A : AV Z h a ty vs) (hty : ty.isReference = true) (hi : x.toInt = (i : Int)) (hv : vs[i]? = some v) (g : Go κ Q h k n pc' L (v :: st)) : Go κ Q h k n pc L (.int x :: .ref a :: st) := by
  obtain ⟨dd, rfl⟩ := hd
  obtain ⟨c, A, r, s⟩ := A
  obtain ⟨q1, q2⟩ := nat_idx hi
  have hl : i < vs.length := (List.getElem?_eq_some_iff.mp hv).1
  exact go_step (fun T locs X e t q => X.aaload B.exec (j := x) (v := v) (by rw [e]; exact A.1) (State.isArrayOf_alike B.warm.alike A.2.1) hty A.2.2 (by rw [r, q2]; simp; exact ⟨Int32.not_lt.mp q1, hl⟩) (by rw [r, q2]; simpa using hv) (g := mkF κ.m pc L (.int x :: .ref a :: st)) rfl rfl (hb B.byt dd) _ q) g
theorem go_iastore (B : OkK km κ l Z a0 n0 R own nm bytes maxL ret) {vs : List Value} {i : Nat} (hd : Dc bytes pc .iastore 1 pc') (A : AV Z h a .int vs) (hi : x.toInt = (i : Int)) (hl : i < vs.length) (ha : n0 ≤ a) (g : ∀ h', Wr h h' a i (.int y) → AV Z h' a .int (vs.set i (.int y)) → Go κ Q h' k n pc' L st) : Go κ Q h k n pc L (.int y :: .int x :: .ref a :: st) := fun T locs X N e => by
  obtain ⟨dd, rfl⟩ := hd
  have A0 := A
  obtain ⟨c, A, r, s⟩ := A
  obtain ⟨q1, q2⟩ := nat_idx hi
  obtain ⟨T', h', X', e', W, sp⟩ := stI X B.exec B.warm e A (j := x) (by rw [r, q2]; simp; exact ⟨Int32.not_lt.mp q1, hl⟩) (g := mkF κ.m pc L (.int y :: .int x :: .ref a :: st)) rfl rfl (hb B.byt dd)
  have W' : Wr h h' a i (.int y) := q2 ▸ W
  obtain ⟨t, o, h1, h2⟩ := g h' W' (A0.same W') T' _ X' (Fr.snoc X' N (B.hn ▸ ha)) e'
  exact ⟨t, o, sp _ h1, h2⟩
theorem go_lastore (B : OkK km κ l Z a0 n0 R own nm bytes maxL ret) {vs : List Value} {i : Nat} (hd : Dc bytes pc .lastore 1 pc') (A : AV Z h a .long vs) (hi : x.toInt = (i : Int)) (hl : i < vs.length) (ha : n0 ≤ a) (g : ∀ h', Wr h h' a i (.long u) → AV Z h' a .long (vs.set i (.long u)) → Go κ Q h' k n pc' L st) : Go κ Q h k n pc L (.long u :: .int x :: .ref a :: st) := fun T locs X N e => by
  obtain ⟨dd, rfl⟩ := hd
  have A0 := A
  obtain ⟨c, A, r, s⟩ := A
  obtain ⟨q1, q2⟩ := nat_idx hi
  obtain ⟨T', h', X', e', W, sp⟩ := stJ X B.exec B.warm e A (j := x) (by rw [r, q2]; simp; exact ⟨Int32.not_lt.mp q1, hl⟩) (g := mkF κ.m pc L (.long u :: .int x :: .ref a :: st)) rfl rfl (hb B.byt dd)
  have W' : Wr h h' a i (.long u) := q2 ▸ W
  obtain ⟨t, o, h1, h2⟩ := g h' W' (A0.same W') T' _ X' (Fr.snoc X' N (B.hn ▸ ha)) e'
  exact ⟨t, o, sp _ h1, h2⟩
theorem go_castore (B : OkK km κ l Z a0 n0 R own nm bytes maxL ret) {vs : List Value} {i : Nat} (hd : Dc bytes pc .castore 1 pc') (A : AV Z h a .char vs) (hi : x.toInt = (i : Int)) (hl : i < vs.length) (ha : n0 ≤ a) (g : ∀ h', Wr h h' a i (.int (nar .char y)) → AV Z h' a .char (vs.set i (.int (nar .char y))) → Go κ Q h' k n pc' L st) : Go κ Q h k n pc L (.int y :: .int x :: .ref a :: st) := fun T locs X N e => by
  obtain ⟨dd, rfl⟩ := hd
  have A0 := A
  obtain ⟨c, A, r, s⟩ := A
  obtain ⟨q1, q2⟩ := nat_idx hi
  obtain ⟨T', h', X', e', W, sp⟩ := stC X B.exec B.warm e A (j := x) (by rw [r, q2]; simp; exact ⟨Int32.not_lt.mp q1, hl⟩) (g := mkF κ.m pc L (.int y :: .int x :: .ref a :: st)) rfl rfl (hb B.byt dd)
  have W' : Wr h h' a i (.int (nar .char y)) := q2 ▸ W
  obtain ⟨t, o, h1, h2⟩ := g h' W' (A0.same W') T' _ X' (Fr.snoc X' N (B.hn ▸ ha)) e'
  exact ⟨t, o, sp _ h1, h2⟩
theorem go_bastore (B : OkK km κ l Z a0 n0 R own nm bytes maxL ret) {vs : List Value} {i : Nat} (hd : Dc bytes pc .bastore 1 pc') (A : AV Z h a .byte vs) (hi : x.toInt = (i : Int)) (hl : i < vs.length) (ha : n0 ≤ a) (g : ∀ h', Wr h h' a i (.int (nar .byte y)) → AV Z h' a .byte (vs.set i (.int (nar .byte y))) → Go κ Q h' k n pc' L st) : Go κ Q h k n pc L (.int y :: .int x :: .ref a :: st) := fun T locs X N e => by
  obtain ⟨dd, rfl⟩ := hd
  have A0 := A
  obtain ⟨c, A, r, s⟩ := A
  obtain ⟨q1, q2⟩ := nat_idx hi
  obtain ⟨T', h', X', e', W, sp⟩ := stB X B.exec B.warm e A (j := x) (by rw [r, q2]; simp; exact ⟨Int32.not_lt.mp q1, hl⟩) (g := mkF κ.m pc L (.int y :: .int x :: .ref a :: st)) rfl rfl (hb B.byt dd)
  have W' : Wr h h' a i (.int (nar .byte y)) := q2 ▸ W
  obtain ⟨t, o, h1, h2⟩ := g h' W' (A0.same W') T' _ X' (Fr.snoc X' N (B.hn ▸ ha)) e'
  exact ⟨t, o, sp _ h1, h2⟩
theorem go_zastore (B : OkK km κ l Z a0 n0 R own nm bytes maxL ret) {vs : List Value} {i : Nat} (hd : Dc bytes pc .bastore 1 pc') (A : AV Z h a .boolean vs) (hi : x.toInt = (i : Int)) (hl : i < vs.length) (ha : n0 ≤ a) (g : ∀ h', Wr h h' a i (.int (nar .boolean y)) → AV Z h' a .boolean (vs.set i (.int (nar .boolean y))) → Go κ Q h' k n pc' L st) : Go κ Q h k n pc L (.int y :: .int x :: .ref a :: st) := fun T locs X N e => by
  obtain ⟨dd, rfl⟩ := hd
  have A0 := A
  obtain ⟨c, A, r, s⟩ := A
  obtain ⟨q1, q2⟩ := nat_idx hi
  obtain ⟨T', h', X', e', W, sp⟩ := stZ X B.exec B.warm e A (j := x) (by rw [r, q2]; simp; exact ⟨Int32.not_lt.mp q1, hl⟩) (g := mkF κ.m pc L (.int y :: .int x :: .ref a :: st)) rfl rfl (hb B.byt dd)
  have W' : Wr h h' a i (.int (nar .boolean y)) := q2 ▸ W
  obtain ⟨t, o, h1, h2⟩ := g h' W' (A0.same W') T' _ X' (Fr.snoc X' N (B.hn ▸ ha)) e'
  exact ⟨t, o, sp _ h1, h2⟩
theorem go_newarray (B : OkK km κ l Z a0 n0 R own nm bytes maxL ret) {aty : ArrayType} {i cap : Nat} (hd : Dc bytes pc (.newarray aty) 2 pc') (wa : (Jvm.Cond.arrayClass (newarray.typeOf aty)).before a0 Z = true) (hi : x.toInt = (i : Int)) (hcap : i ≤ cap) (hbig : cap * 8 ≤ 536870912) (hc : k + 1 ≤ R.cells) (hl : n + cap ≤ R.slots)
    (g : ∀ h' b, b = h.size → Ext h h' → AV Z h' b (newarray.typeOf aty) (List.replicate i (defaultValue (newarray.typeOf aty))) → Exa Z h' b ("[" ++ (newarray.typeOf aty).toString) → Go κ Q h' (k + 1) (n + cap) pc' L (.ref b :: st)) : Go κ Q h k n pc L (.int x :: st) := fun T locs X N e => by
  obtain ⟨dd, rfl⟩ := hd
  obtain ⟨q1, q2⟩ := nat_idx hi
  have hcb : componentBytes (newarray.typeOf aty) ≤ 8 := by cases aty <;> decide
  have hbig' : x.toNatClampNeg * componentBytes (newarray.typeOf aty) ≤ 536870912 := Nat.le_trans (Nat.mul_le_mul (q2 ▸ hcap) hcb) hbig
  obtain ⟨cA, kA, comp, f1, f2, f3, X', sp⟩ := X.newarrayPrim B.exec (mvA B.warm wa) (g := mkF κ.m pc L (.int x :: st)) rfl (hb B.byt dd) rfl q1 hbig' (by rw [B.room]; exact hc) (by rw [B.room, q2]; omega)
  subst e
  have f1' : Z.vm.findClass ("[" ++ (newarray.typeOf aty).toString) = some cA := by rw [← B.warm.alike.findClass]; exact f1
  obtain ⟨kZ, z1, -⟩ := Vm.findClass_spec f1'
  obtain ⟨k', z2, z3⟩ := B.warm.alike.2.2 _ _ z1
  cases f2.symm.trans z2
  have f4 : kZ.kind = .array comp (newarray.typeOf aty) := by rw [← f3, z3]
  have hat : (T.heap.push { cls := cA, slots := Array.replicate x.toNatClampNeg (defaultValue (newarray.typeOf aty)), vm := .none : Cell })[T.heap.size]? = some { cls := cA, slots := Array.replicate x.toNatClampNeg (defaultValue (newarray.typeOf aty)), vm := .none } := by simp
  have hE : Ext T.heap (T.heap.push { cls := cA, slots := Array.replicate x.toNatClampNeg (defaultValue (newarray.typeOf aty)), vm := .none : Cell }) := ext_of fun a ha => by rw [Array.getElem?_push_lt ha]; exact (Array.getElem?_eq_getElem _).symm
  obtain ⟨t, o, h1, h2⟩ := g _ _ rfl hE ⟨_, ⟨hat, ⟨by simp, kZ, z1, comp, f4⟩, by simp⟩, by simp [q2], by simp; have := x.toInt_lt; omega⟩
    ⟨_, kZ, hat, f1', z1, rfl, fun q => by rw [f4] at q; cases q⟩ _ locs (X'.more (Nat.le_refl _) (by rw [q2]; omega)) N rfl
  exact ⟨t, o, sp _ h1, h2⟩
theorem go_ldcI (B : OkK km κ l Z a0 n0 R own nm bytes maxL ret) {idx : Nat} (hd : Dc bytes pc (.ldc idx) 2 pc') (wl : (Jvm.Cond.constant own idx x).before a0 Z = true) (g : Go κ Q h k n pc' L (.int x :: st)) : Go κ Q h k n pc L st := by
  obtain ⟨dd, rfl⟩ := hd
  exact go_step (fun T locs X e t q => X.ldcInt B.exec B.hown (mvT B.warm wl) (g := mkF κ.m pc L st) rfl (hb B.byt dd) _ q) g
theorem go_ldcWI (B : OkK km κ l Z a0 n0 R own nm bytes maxL ret) {idx : Nat} (hd : Dc bytes pc (.ldc_w idx) 3 pc') (wl : (Jvm.Cond.constant own idx x).before a0 Z = true) (g : Go κ Q h k n pc' L (.int x :: st)) : Go κ Q h k n pc L st := by
  obtain ⟨dd, rfl⟩ := hd
  exact go_step (fun T locs X e t q => X.ldcwInt B.exec B.hown (mvT B.warm wl) (g := mkF κ.m pc L st) rfl (hb B.byt dd) _ q) g
theorem go_ldc2J (B : OkK km κ l Z a0 n0 R own nm bytes maxL ret) {idx : Nat} (hd : Dc bytes pc (.ldc2_w idx) 3 pc') (wl : (Jvm.Cond.constantLong own idx u).before a0 Z = true) (g : Go κ Q h k n pc' L (.long u :: st)) : Go κ Q h k n pc L st := by
  obtain ⟨dd, rfl⟩ := hd
  exact go_step (fun T locs X e t q => X.ldc2Long B.exec B.hown (mvT B.warm wl) (g := mkF κ.m pc L st) rfl (hb B.byt dd) _ q) g
theorem go_initO (B : OkK km κ l Z a0 n0 R own nm bytes maxL ret) {idx W : Nat} (hd : Dc bytes pc (.invokespecial idx) 3 pc') (w1 : (Jvm.Cond.methodLink own idx Lib.objectInit).before a0 Z = true) (w2 : (Jvm.Cond.instanceMethod Lib.objectInit).before a0 Z = true) (w3 : (Jvm.Cond.code Lib.objectInit ⟨#[0xb1]⟩ 1 none).before a0 Z = true)
    (hs : L.size = maxL) (hW : (st.map fun v => v.category).sum = W) (hf : 1 ≤ R.frames) (hl : W + 12 ≤ R.locals) (g : Go κ Q h k n pc' L st) : Go κ Q h k n pc L (.ref a :: st) := fun T locs X N e => by
  obtain ⟨dd, rfl⟩ := hd
  obtain ⟨T', X', e', sp⟩ := initO X B.exec B.warm B.hown w1 w2 w3 e (g := mkF κ.m pc L (.ref a :: st)) rfl (by rw [B.mxl]; exact hs) rfl (hb B.byt dd) (by rw [B.room]; exact hf) (W := W) (by show 2 * 0 + _ ≤ _; omega) (by rw [B.room]; exact hl)
  obtain ⟨t, o, h1, h2⟩ := g T' locs X' N e'
  exact ⟨t, o, sp _ h1, h2⟩
section Call
variable {y' : MethodName} {idx W : Nat} {bytes' : ByteArray} {maxL' : Nat} {ret' : Option FieldType} {rm : Room} {as' : Array Value} {argsL : List Value} {Q' : Option Value → Heap → Prop} {ps : List FieldType} {rt : Option FieldType}
theorem go_static (B : OkK km κ l Z a0 n0 R own nm bytes maxL ret) (hd : Dc bytes pc (.invokestatic idx) 3 pc') (w1 : (Jvm.Cond.methodLink own idx y').before a0 Z = true) (w2 : (Jvm.Cond.static y').before a0 Z = true) (w3 : (Jvm.Cond.initialized y'.cls).before a0 Z = true) (w4 : (Jvm.Cond.code y' bytes' maxL' ret').before a0 Z = true)
    (hy : y'.cls ≠ "java/lang/invoke/MethodHandle" ∧ y'.cls ≠ "java/lang/invoke/VarHandle") (C : Ct l Z n0 y' bytes' maxL' ret' [] rm argsL.toArray h Q') (pd : parseMethodDescriptor y'.desc = some ⟨ps, rt⟩) (hlen : argsL.length = ps.length) (hst : st' = argsL.reverse ++ st) (hs : L.size = maxL)
    (hW : (st.map fun v => v.category).sum = W) (hf : rm.frames + 1 ≤ R.frames) (hl : W + (maxL' + 11) + rm.locals ≤ R.locals) (hc : k + rm.cells ≤ R.cells) (hn : n + rm.slots ≤ R.slots)
    (g : ∀ v h', Q' v h' → Go κ Q h' (k + rm.cells) (n + rm.slots) pc' L (v.toList ++ st)) : Go κ Q h k n pc L st' := fun T locs X N e => by
  obtain ⟨dd, rfl⟩ := hd
  have C' : Ct κ.l Z n0 y' bytes' maxL' ret' [] rm argsL.toArray h Q' := B.hl.symm ▸ C
  obtain ⟨vv, _, ⟨T', L2, k2, n2⟩, -, X', ⟨Lc, hQ, l2, y2, z2⟩, sp⟩ := Jvm.LawKit.callS X B.exec (y := y') B.hown (mvT B.warm w1) (mvT B.warm w2) (mvT B.warm w3) (mvT B.warm w4) hy
    (backOf (Q := fun v h L => Q' v h ∧ Fr n0 L) (W := W) C' B.warm w4 w3 (by rw [B.room]; exact hf) (by rw [B.room]; exact hl)) (g := mkF κ.m pc L st') rfl (by rw [B.mxl]; exact hs) (argsL := argsL) (rest := st) (lenOf pd hlen) hst (by show 2 * 0 + _ ≤ _; omega) (hb B.byt dd)
    (fun _ _ => ⟨rfl, e, by rw [B.room]; exact hc, by rw [B.room]; exact hn⟩)
  dsimp only [Pt.U, Pt.locs, Pt.cells, Pt.slots] at X' l2 y2 z2 sp hQ
  subst l2 y2 z2
  obtain ⟨t, o, h1, h2⟩ := g vv T'.heap hQ.1 T' _ X' (Fr.app N (B.hn.symm ▸ hQ.2)) rfl
  exact ⟨t, o, sp _ h1, h2⟩
theorem go_special (B : OkK km κ l Z a0 n0 R own nm bytes maxL ret) (hd : Dc bytes pc (.invokespecial idx) 3 pc') (hi : y'.name = "<init>") (w1 : (Jvm.Cond.methodLink own idx y').before a0 Z = true) (w2 : (Jvm.Cond.instanceMethod y').before a0 Z = true) (w3 : (Jvm.Cond.initialized y'.cls).before a0 Z = true) (w4 : (Jvm.Cond.code y' bytes' maxL' none).before a0 Z = true)
    (hy : y'.cls ≠ "java/lang/invoke/MethodHandle" ∧ y'.cls ≠ "java/lang/invoke/VarHandle") (C : Ct l Z n0 y' bytes' maxL' none [] rm (.ref a :: argsL).toArray h Q') (pd : parseMethodDescriptor y'.desc = some ⟨ps, rt⟩) (hlen : argsL.length = ps.length) (hst : st' = argsL.reverse ++ .ref a :: st) (hs : L.size = maxL)
    (hW : (st.map fun v => v.category).sum = W) (hf : rm.frames + 1 ≤ R.frames) (hl : W + (maxL' + 11) + rm.locals ≤ R.locals) (hc : k + rm.cells ≤ R.cells) (hn : n + rm.slots ≤ R.slots)
    (g : ∀ v h', Q' v h' → Go κ Q h' (k + rm.cells) (n + rm.slots) pc' L (v.toList ++ st)) : Go κ Q h k n pc L st' := fun T locs X N e => by
  obtain ⟨dd, rfl⟩ := hd
  have C' : Ct κ.l Z n0 y' bytes' maxL' none [] rm (.ref a :: argsL).toArray h Q' := B.hl.symm ▸ C
  obtain ⟨vv, _, ⟨T', L2, k2, n2⟩, -, X', ⟨Lc, hQ, l2, y2, z2⟩, sp⟩ := X.specialBack B.exec (y := y') hi B.hown (mvT B.warm w1) (mvT B.warm w2) (mvT B.warm w4) hy
    (backOf (Q := fun v h L => Q' v h ∧ Fr n0 L) (W := W) C' B.warm w4 w3 (by rw [B.room]; exact hf) (by rw [B.room]; exact hl)) (g := mkF κ.m pc L st') rfl (by rw [B.mxl]; exact hs) (Steps.refl _) (a := a) (argsL := argsL) (rest := st) (lenOf pd hlen) hst (by show 2 * 0 + _ ≤ _; omega) (hb B.byt dd)
    (fun _ _ => ⟨rfl, e, by rw [B.room]; exact hc, by rw [B.room]; exact hn⟩)
  dsimp only [Pt.U, Pt.locs, Pt.cells, Pt.slots] at X' l2 y2 z2 sp hQ
  subst l2 y2 z2
  obtain ⟨t, o, h1, h2⟩ := g vv T'.heap hQ.1 T' _ X' (Fr.app N (B.hn.symm ▸ hQ.2)) rfl
  exact ⟨t, o, sp.trans h1, h2⟩
theorem go_virtual (B : OkK km κ l Z a0 n0 R own nm bytes maxL ret) {C0 : String} (hd : Dc bytes pc (.invokevirtual idx) 3 pc') (w1 : (Jvm.Cond.methodLink own idx y').before a0 Z = true) (w2 : (Jvm.Cond.declares y').before a0 Z = true) (w5 : (Jvm.Cond.selects C0 y' y').before a0 Z = true) (w6 : (Jvm.Cond.instanceMethod y').before a0 Z = true) (w3 : (Jvm.Cond.initialized y'.cls).before a0 Z = true) (w4 : (Jvm.Cond.code y' bytes' maxL' ret').before a0 Z = true)
    (hy : y'.cls ≠ "java/lang/invoke/MethodHandle" ∧ y'.cls ≠ "java/lang/invoke/VarHandle") (E : Exa Z h a C0) (C : Ct l Z n0 y' bytes' maxL' ret' [] rm (.ref a :: argsL).toArray h Q') (pd : parseMethodDescriptor y'.desc = some ⟨ps, rt⟩) (hlen : argsL.length = ps.length) (hst : st' = argsL.reverse ++ .ref a :: st) (hs : L.size = maxL)
    (hW : (st.map fun v => v.category).sum = W) (hf : rm.frames + 1 ≤ R.frames) (hl : W + (maxL' + 11) + rm.locals ≤ R.locals) (hc : k + rm.cells ≤ R.cells) (hn : n + rm.slots ≤ R.slots)
    (g : ∀ v h', Q' v h' → Go κ Q h' (k + rm.cells) (n + rm.slots) pc' L (v.toList ++ st)) : Go κ Q h k n pc L st' := fun T locs X N e => by
  obtain ⟨dd, rfl⟩ := hd
  have C' : Ct κ.l Z n0 y' bytes' maxL' ret' [] rm (.ref a :: argsL).toArray h Q' := B.hl.symm ▸ C
  obtain ⟨cq, kq, qa, qb, qc⟩ := isOf B.warm e E
  obtain ⟨vv, _, ⟨T', L2, k2, n2⟩, -, X', ⟨Lc, hQ, l2, y2, z2⟩, sp⟩ := X.virtualBack B.exec (y := y') (z := y') B.hown (mvT B.warm w1) (mvT B.warm w2) (notFace_of_selects (args := #[]) (mvT B.warm w5)) (mvT B.warm w5) (mvT B.warm w6) hy
    (backOf (Q := fun v h L => Q' v h ∧ Fr n0 L) (W := W) C' B.warm w4 w3 (by rw [B.room]; exact hf) (by rw [B.room]; exact hl)) qa qc (g := mkF κ.m pc L st') rfl (by rw [B.mxl]; exact hs) (Steps.refl _) (argsL := argsL) (rest := st) (lenOf pd hlen) hst (by show 2 * 0 + _ ≤ _; omega) (hb B.byt dd)
    (fun _ _ => ⟨rfl, e, by rw [B.room]; exact hc, by rw [B.room]; exact hn⟩)
  dsimp only [Pt.U, Pt.locs, Pt.cells, Pt.slots] at X' l2 y2 z2 sp hQ
  subst l2 y2 z2
  obtain ⟨t, o, h1, h2⟩ := g vv T'.heap hQ.1 T' _ X' (Fr.app N (B.hn.symm ▸ hQ.2)) rfl
  exact ⟨t, o, sp.trans h1, h2⟩
end Call
theorem go_end (B : OkK km κ l Z a0 n0 R own nm bytes maxL ret) {vv : Option Value} (hk : k ≤ R.cells) (hn : n ≤ R.slots) (hq : Q vv h) (hv : ret = none → vv = none) (hkm : km ≤ h.size)
    (hs : ∀ (T : State) (locs : List Loc) (fs : List Frame), Stand κ.p κ.l κ.e κ.R κ.s κ.m κ.args κ.below κ.meth κ.c T locs k n → (∀ (f : JFrame) (acts : List Action), f.method = κ.m → f.locked = none → f.entered = [] → (doReturn κ.e (T.setTop f) acts vv).1 = T.setFrames fs) → Steps κ.p.tables κ.e κ.below (T.setTop (mkF κ.m pc L st)) (T.setFrames fs)) : Go κ Q h k n pc L st := fun T locs X N e => by
  obtain ⟨fs, hr, hrun, hended, hW, hsame⟩ := X.leave (v := vv) (fun q => hv (B.rets.symm.trans q)) B.nolock
  exact ⟨_, _, hs T locs fs X hr, hrun, hended, _, _, rfl, ⟨by show Q vv T.heap; rw [e]; exact hq, N⟩, B.hE _ _ _ ⟨⟨_, rfl⟩, hW, hsame.mono (by rw [B.room]; exact hk) (by rw [B.room]; exact hn)⟩ (by show κ.kmin ≤ T.heap.size; rw [e, B.hkm]; exact hkm)⟩
theorem go_ireturn (B : OkK km κ l Z a0 n0 R own nm bytes maxL (some .int)) (hd : Dc bytes pc .ireturn 1 pc') (hk : k ≤ R.cells) (hn : n ≤ R.slots) (hq : Q (some (.int x)) h) (hkm : km ≤ h.size := by first | exact Nat.zero_le _ | assumption) : Go κ Q h k n pc L (.int x :: st) :=
  go_end B hk hn hq (fun q => by cases q) hkm (fun T locs fs X hr => retOut X B.exec (t := .int) (i := .ireturn) B.rets rfl (Or.inl ⟨rfl, Or.inl rfl, x, rfl⟩) (hb B.byt hd.1) hr)
theorem go_zreturn (B : OkK km κ l Z a0 n0 R own nm bytes maxL (some .boolean)) (hd : Dc bytes pc .ireturn 1 pc') (hk : k ≤ R.cells) (hn : n ≤ R.slots) (hz : x &&& 1 = y) (hq : Q (some (.int y)) h) (hkm : km ≤ h.size := by first | exact Nat.zero_le _ | assumption) : Go κ Q h k n pc L (.int x :: st) := by
  subst hz
  exact go_end B hk hn hq (fun q => by cases q) hkm (fun T locs fs X hr => retN X B.exec (t := .boolean) B.rets (by simp) (hb B.byt hd.1) hr)
theorem go_breturn (B : OkK km κ l Z a0 n0 R own nm bytes maxL (some .byte)) (hd : Dc bytes pc .ireturn 1 pc') (hk : k ≤ R.cells) (hn : n ≤ R.slots) (hz : x.toInt8.toInt32 = y) (hq : Q (some (.int y)) h) (hkm : km ≤ h.size := by first | exact Nat.zero_le _ | assumption) : Go κ Q h k n pc L (.int x :: st) := by
  subst hz
  exact go_end B hk hn hq (fun q => by cases q) hkm (fun T locs fs X hr => retN X B.exec (t := .byte) B.rets (by simp) (hb B.byt hd.1) hr)
theorem go_lreturn (B : OkK km κ l Z a0 n0 R own nm bytes maxL (some .long)) (hd : Dc bytes pc .lreturn 1 pc') (hk : k ≤ R.cells) (hn : n ≤ R.slots) (hq : Q (some (.long u)) h) (hkm : km ≤ h.size := by first | exact Nat.zero_le _ | assumption) : Go κ Q h k n pc L (.long u :: st) :=
  go_end B hk hn hq (fun q => by cases q) hkm (fun T locs fs X hr => retOut X B.exec (t := .long) (i := .lreturn) B.rets rfl (Or.inr (Or.inl ⟨rfl, rfl, u, rfl⟩)) (hb B.byt hd.1) hr)
theorem go_areturn {ty : FieldType} (B : OkK km κ l Z a0 n0 R own nm bytes maxL (some ty)) (hd : Dc bytes pc .areturn 1 pc') (hty : ty.isReference = true) (hnr : narrow ty v = v) (hv : v.isRef = true) (hk : k ≤ R.cells) (hn : n ≤ R.slots) (hq : Q (some v) h) (hkm : km ≤ h.size := by first | exact Nat.zero_le _ | assumption) : Go κ Q h k n pc L (v :: st) :=
  go_end B hk hn hq (fun q => by cases q) hkm (fun T locs fs X hr => retOut X B.exec (t := ty) (i := .areturn) B.rets hnr (Or.inr (Or.inr (Or.inr (Or.inr ⟨rfl, hty, hv⟩)))) (hb B.byt hd.1) hr)
theorem go_return (B : OkK km κ l Z a0 n0 R own nm bytes maxL none) (hd : Dc bytes pc .return_ 1 pc') (hk : k ≤ R.cells) (hn : n ≤ R.slots) (hq : Q none h) (hkm : km ≤ h.size := by first | exact Nat.zero_le _ | assumption) : Go κ Q h k n pc L [] :=
  go_end B hk hn hq (fun _ => rfl) hkm (fun T locs fs X hr => X.returnOut B.exec B.rets (hb B.byt hd.1) hr)
end G
end Jvm.OwnGo
namespace Jvm.OwnGo
open Sem ClassFile Op Lib Jvm.Stand Jvm.Free Jvm.LawKit Jvm.RoadKit
theorem i_lt {x y : Int32} {i j : Int} (hx : x.toInt = i) (hy : y.toInt = j) (h : i < j) : x < y := Int32.lt_iff_toInt_lt.mpr (by omega)
theorem i_nlt {x y : Int32} {i j : Int} (hx : x.toInt = i) (hy : y.toInt = j) (h : j ≤ i) : ¬ x < y := fun q => by have := Int32.lt_iff_toInt_lt.mp q; omega
theorem i_of_lt {x y : Int32} {i j : Int} (hx : x.toInt = i) (hy : y.toInt = j) (h : x < y) : i < j := by have := Int32.lt_iff_toInt_lt.mp h; omega
theorem i_of_nlt {x y : Int32} {i j : Int} (hx : x.toInt = i) (hy : y.toInt = j) (h : ¬ x < y) : j ≤ i := by
  have := Int32.le_iff_toInt_le.mp (Int32.not_lt.mp h)
  omega
theorem i_eq {x y : Int32} {i : Int} (hx : x.toInt = i) (hy : y.toInt = i) : x = y := Int32.toInt_inj.mp (hx.trans hy.symm)
theorem i_ne {x y : Int32} {i j : Int} (hx : x.toInt = i) (hy : y.toInt = j) (h : i ≠ j) : ¬ x = y := fun q => h (by rw [← hx, ← hy, q])
theorem i_of_ne {x y : Int32} {i j : Int} (hx : x.toInt = i) (hy : y.toInt = j) (h : ¬ x = y) : i ≠ j := fun q => h (i_eq hx (hy.trans q.symm))
theorem i_add {x y : Int32} {i j : Int} (hx : x.toInt = i) (hy : y.toInt = j) (h1 : -2147483648 ≤ i + j) (h2 : i + j < 2147483648) : (x + y).toInt = i + j := by
  rw [Int32.toInt_add, hx, hy]; exact Int.bmod_eq_of_le (by omega) (by omega)
theorem i_sub {x y : Int32} {i j : Int} (hx : x.toInt = i) (hy : y.toInt = j) (h1 : -2147483648 ≤ i - j) (h2 : i - j < 2147483648) : (x - y).toInt = i - j := by
  rw [Int32.toInt_sub, hx, hy]; exact Int.bmod_eq_of_le (by omega) (by omega)
theorem i_mul {x y : Int32} {i j : Int} (hx : x.toInt = i) (hy : y.toInt = j) (h1 : -2147483648 ≤ i * j) (h2 : i * j < 2147483648) : (x * y).toInt = i * j := by
  rw [Int32.toInt_mul, hx, hy]; exact Int.bmod_eq_of_le (by omega) (by omega)
/-- x & m for a mask m that isn't negative -/
theorem i_and (x m : Int32) (hm : 0 ≤ m.toInt) : 0 ≤ (x &&& m).toInt ∧ (x &&& m).toInt ≤ m.toInt := by
  have h1 : ¬ (x &&& m) < 0 := by
    rw [XT.and_neg32]
    exact fun q => by have := (XT.negI32 _).mp q.2; omega
  have h2 : 0 ≤ (x &&& m).toInt := by
    have := mt (XT.negI32 _).mpr h1
    omega
  refine ⟨h2, ?_⟩
  have e1 : (x &&& m).toInt = ((x &&& m).toBitVec.toNat : Int) := by
    show (x &&& m).toBitVec.toInt = _
    rw [BitVec.toInt_eq_toNat_cond]
    split
    · rfl
    · rename_i q
      have h3 : (x &&& m).toBitVec.toInt = _ := BitVec.toInt_eq_toNat_cond _
      rw [if_neg q] at h3
      have h4 : 0 ≤ (x &&& m).toBitVec.toInt := h2
      have := (x &&& m).toBitVec.isLt
      omega
  have e2 : m.toInt = (m.toBitVec.toNat : Int) := by
    show m.toBitVec.toInt = _
    rw [BitVec.toInt_eq_toNat_cond]
    split
    · rfl
    · rename_i q
      have h3 : m.toBitVec.toInt = _ := BitVec.toInt_eq_toNat_cond _
      rw [if_neg q] at h3
      have h4 : 0 ≤ m.toBitVec.toInt := hm
      have := m.toBitVec.isLt
      omega
  rw [e1, e2, Int32.toBitVec_and, BitVec.toNat_and]
  exact Int.ofNat_le.mpr Nat.and_le_right
theorem i_mod {x y : Int32} {i j : Int} (hx : x.toInt = i) (hy : y.toInt = j) (hi : 0 ≤ i) (hj : 0 < j) : (x % y).toInt = i % j := by
  rw [Int32.toInt_mod, hx, hy, Int.tmod_eq_emod_of_nonneg hi]
theorem i_nat {x : Int32} (h : 0 ≤ x.toInt) : ∃ n : Nat, x.toInt = (n : Int) ∧ n < 2147483648 := ⟨x.toInt.toNat, by omega, by have := x.toInt_lt; omega⟩
theorem i_ofNat {n : Nat} (h : n < 2147483648) : (Int32.ofNat n).toInt = (n : Int) := Int32.toInt_ofNat_of_lt h
end Jvm.OwnGo
namespace Jvm.OwnGo
open Sem ClassFile Op Lib Jvm.Stand Jvm.Free Jvm.LawKit Jvm.RoadKit
section G
variable {km : Nat} {κ : Cx} {l : Launch} {Z : State} {a0 : Array Value} {n0 : Nat} {R : Room} {own nm : String} {bytes : ByteArray} {maxL : Nat} {ret : Option FieldType} {Q : Option Value → Heap → Prop} {h : Heap} {k n pc pc' pc1 pc2 : Nat} {L L' : Array Slot} {st st' : List Value} {o : Int} {x y : Int32} {u w : Int64} {a b : Addr} {v v' : Value}
theorem fitC_of {c : Cell} {ty : FieldType} (A : Arr Z h a c ty) (hv : ∀ v ∈ c.slots.toList, fits ty v = true) : FitC Z c := fun i v q => by
  obtain ⟨-, kk, hk, comp, hkind⟩ := A.2.1
  have m : v ∈ c.slots.toList := by
    obtain ⟨hi, rfl⟩ := Array.getElem?_eq_some_iff.mp q
    exact Array.mem_toList_iff.mpr (Array.getElem_mem hi)
  simp [State.fitsSlot, State.slotType?, hk, hkind, hv v m]
/-- array.clone() -/
theorem go_clone (B : OkK km κ l Z a0 n0 R own nm bytes maxL ret) {ad : String} {idx W cap : Nat} {ty : FieldType} {vs : List Value} (hd : Dc bytes pc (.invokevirtual idx) 3 pc')
    (w1 : (Jvm.Cond.methodLink own idx ⟨ad, "clone", "()Ljava/lang/Object;"⟩).before a0 Z = true) (w2 : (Jvm.Cond.sameMethod ad "java/lang/Object" "clone" "()Ljava/lang/Object;").before a0 Z = true) (w3 : (Jvm.Cond.native ⟨"java/lang/Object", "clone", "()Ljava/lang/Object;"⟩).before a0 Z = true)
    (w4 : (Jvm.Cond.instanceMethod ⟨"java/lang/Object", "clone", "()Ljava/lang/Object;"⟩).before a0 Z = true) (w5 : (Jvm.Cond.selects ad ⟨ad, "clone", "()Ljava/lang/Object;"⟩ ⟨"java/lang/Object", "clone", "()Ljava/lang/Object;"⟩).before a0 Z = true) (w6 : (Jvm.Cond.castable ad "java/lang/Cloneable").before a0 Z = true)
    (A : AV Z h a ty vs) (E : Exa Z h a ad) (hv : ∀ v ∈ vs, fits ty v = true) (hs : L.size = maxL) (hW : (st.map fun v => v.category).sum = W) (hf : 1 ≤ R.frames) (hl : W + 14 ≤ R.locals) (hcap : vs.length ≤ cap) (hc : k + 1 ≤ R.cells) (hsl : n + cap ≤ R.slots)
    (g : ∀ h' b, b = h.size → Ext h h' → AV Z h' b ty vs → Exa Z h' b ad → Go κ Q h' (k + 1) (n + cap) pc' L (.ref b :: st)) : Go κ Q h k n pc L (.ref a :: st) := fun T locs X N e => by
  obtain ⟨dd, rfl⟩ := hd
  obtain ⟨c, A, r, s⟩ := A
  obtain ⟨T', h', X', e', E', A', C', sp⟩ := cloneA X B.exec B.warm B.hown w1 w2 w3 w4 w5 w6 e A E (fitC_of A (by rw [r]; simpa using hv)) (g := mkF κ.m pc L (.ref a :: st)) rfl (by rw [B.mxl]; exact hs) rfl (hb B.byt dd) (by rw [B.room]; exact hf) (W := W) (cap := cap) (by show 2 * 0 + _ ≤ _; omega) (by rw [B.room]; exact hl) (by rw [r]; simpa using hcap) (by rw [B.room]; exact hc) (by rw [B.room]; exact hsl)
  obtain ⟨t, o, h1, h2⟩ := g h' _ rfl E' ⟨_, A', r, s⟩ C' T' locs X' N e'
  exact ⟨t, o, sp _ h1, h2⟩
theorem go_checkcast (B : OkK km κ l Z a0 n0 R own nm bytes maxL ret) {K : String} {idx : Nat} (hd : Dc bytes pc (.checkcast idx) 3 pc') (wl : (Jvm.Cond.classLink own idx K).before a0 Z = true) (F : Ins Z h a K true) (g : Go κ Q h k n pc' L (.ref a :: st)) : Go κ Q h k n pc L (.ref a :: st) := fun T locs X N e => by
  obtain ⟨dd, rfl⟩ := hd
  obtain ⟨T', X', e', sp⟩ := castY X B.exec B.warm B.hown wl e F (g := mkF κ.m pc L (.ref a :: st)) rfl rfl (hb B.byt dd)
  obtain ⟨t, o, h1, h2⟩ := g T' locs X' N e'
  exact ⟨t, o, sp _ h1, h2⟩
theorem AV.arv {ty : FieldType} {vs : List Value} {d : Value} (A : AV Z h a ty vs) (hv : ∀ v ∈ vs, fits ty v = true) : ∃ kk, Arv Z h a kk ty (Int32.ofNat vs.length) vs d := by
  obtain ⟨c, A, r, s⟩ := A
  have e1 : (Int32.ofNat vs.length).toInt = (vs.length : Int) := Int32.toInt_ofNat_of_lt s
  obtain ⟨q1, q2⟩ := nat_idx e1
  refine ⟨_, c, A, rfl, by rw [r, q2]; simp, q1, fun i hi => ?_, fun i hi => ?_⟩
  · rw [r] at hi ⊢
    have hi' : i < vs.length := by simpa using hi
    simp [List.getD, hi']
  · rw [r] at hi
    have hi' : i < vs.length := by simpa using hi
    have e : vs.getD i d = vs[i] := by simp [List.getD, hi']
    rw [e]
    exact hv _ (List.getElem_mem hi')
theorem AV.of_arv {ty : FieldType} {vs : List Value} {d : Value} {kk : ClassId} {z : Int32} (F : Arv Z h a kk ty z vs d) (e : vs.length = z.toNatClampNeg) : AV Z h a ty vs := by
  obtain ⟨c, A, -, S, N, H, -⟩ := F
  refine ⟨c, A, ?_, by rw [e]; exact (back32 N).2⟩
  apply Array.ext_getElem?
  intro i
  rcases Nat.lt_or_ge i vs.length with q | q
  · rw [H i (by omega)]; simp [List.getD, q]
  · rw [Array.getElem?_eq_none (by omega)]; simp [q]
/-- System.arraycopy between two arrays of one primitive kind: from place sp on, dc places, to place dp on -/
theorem go_arraycopy (B : OkK km κ l Z a0 n0 R own nm bytes maxL ret) {idx W si di ni : Nat} {ty : FieldType} {vs ws : List Value} {sp dp cn : Int32} (hd : Dc bytes pc (.invokestatic idx) 3 pc')
    (w1 : (Jvm.Cond.methodLink own idx Jvm.Stand.acN).before a0 Z = true) (w2 : (Jvm.Cond.native Jvm.Stand.acN).before a0 Z = true) (w3 : (Jvm.Cond.static Jvm.Stand.acN).before a0 Z = true) (w4 : (Jvm.Cond.initialized "java/lang/System").before a0 Z = true)
    (A : AV Z h a ty vs) (A2 : AV Z h b ty ws) (hp : refKind ty = false) (hv : ∀ v ∈ vs, fits ty v = true) (hw : ∀ v ∈ ws, fits ty v = true) (hsp : sp.toInt = (si : Int)) (hdp : dp.toInt = (di : Int)) (hcn : cn.toInt = (ni : Int)) (h4 : si + ni ≤ vs.length) (h5 : di + ni ≤ ws.length) (ge : n0 ≤ b)
    (hs : L.size = maxL) (hW : (st.map fun v => v.category).sum = W) (hf : 1 ≤ R.frames) (hl : W + 18 ≤ R.locals)
    (g : ∀ h', Keep h h' [b] → AV Z h' b ty (ws.take di ++ (vs.drop si).take ni ++ ws.drop (di + ni)) → Go κ Q h' k n pc' L st) : Go κ Q h k n pc L (.int cn :: .int dp :: .ref b :: .int sp :: .ref a :: st) := fun T locs X N e => by
  obtain ⟨dd, rfl⟩ := hd
  obtain ⟨k1, F1⟩ := A.arv (d := .null) hv
  obtain ⟨k2, F2⟩ := A2.arv (d := .null) hw
  obtain ⟨p1, p2⟩ := nat_idx hsp
  obtain ⟨d1, d2⟩ := nat_idx hdp
  obtain ⟨m1, m2⟩ := nat_idx hcn
  have eA : (Int32.ofNat vs.length).toNatClampNeg = vs.length := (nat_idx (Int32.toInt_ofNat_of_lt A.len)).2
  have eB : (Int32.ofNat ws.length).toNatClampNeg = ws.length := (nat_idx (Int32.toInt_ofNat_of_lt A2.len)).2
  have hus : (vs.drop si).take ni = (List.range cn.toNatClampNeg).map fun i => vs.getD (sp.toNatClampNeg + i) .null := by
    rw [m2, p2]
    apply List.ext_getElem?
    intro i
    rcases Nat.lt_or_ge i ni with q | q
    · rw [List.getElem?_take_of_lt q, List.getElem?_drop]
      simp only [List.getElem?_map, List.getElem?_range q, Option.map_some, List.getD]
      rw [List.getElem?_eq_getElem (by omega)]; rfl
    · rw [List.getElem?_eq_none (by simp; omega), List.getElem?_eq_none (by simp; omega)]
  obtain ⟨T', h', L2, X', e', N', K, F3, sp'⟩ := cpA X B.exec B.warm B.hown w1 w2 w3 w4 e F1 F2 (Or.inl ⟨rfl, hp⟩) p1 d1 m1 (by rw [p2, m2, eA]; exact h4) (by rw [d2, m2, eB]; exact h5) hus (by rw [d2, m2]; exact h5) N (B.hn ▸ ge) (g := mkF κ.m pc L (.int cn :: .int dp :: .ref b :: .int sp :: .ref a :: st)) rfl (by rw [B.mxl]; exact hs) rfl (hb B.byt dd) (by rw [B.room]; exact hf) (W := W) (by show 2 * 0 + _ ≤ _; omega) (by rw [B.room]; exact hl)
  rw [d2, m2] at F3
  have F4 := AV.of_arv F3 (by rw [eB]; simp; omega)
  obtain ⟨t, o, h1, h2⟩ := g h' K F4 T' _ X' N' e'
  exact ⟨t, o, sp' _ h1, h2⟩
end G
end Jvm.OwnGo
namespace Jvm.OwnGo
open Sem ClassFile Op Lib Jvm.Stand Jvm.Free Jvm.LawKit Jvm.RoadKit
theorem go_instanceof {km : Nat} {κ : Cx} {l : Launch} {Z : State} {a0 : Array Value} {n0 : Nat} {R : Room} {own nm : String} {bytes : ByteArray} {maxL : Nat} {ret : Option FieldType} {Q : Option Value → Heap → Prop} {h : Heap} {k n pc pc' : Nat} {L : Array Slot} {st : List Value} {a : Addr} (B : OkK km κ l Z a0 n0 R own nm bytes maxL ret) {K : String} {idx : Nat} (hd : Dc bytes pc (.instanceof idx) 3 pc') (wl : (Jvm.Cond.classLink own idx K).before a0 Z = true) (F : Ins Z h a K true) (g : Go κ Q h k n pc' L (.int 1 :: st)) : Go κ Q h k n pc L (.ref a :: st) := fun T locs X N e => by
  obtain ⟨dd, rfl⟩ := hd
  obtain ⟨T', X', e', sp⟩ := instY X B.exec B.warm B.hown wl e F (g := mkF κ.m pc L (.ref a :: st)) rfl rfl (hb B.byt dd)
  obtain ⟨t, o, h1, h2⟩ := g T' locs X' N e'
  exact ⟨t, o, sp _ h1, h2⟩
end Jvm.OwnGo
namespace Jvm.OwnGo
open Sem ClassFile Op Lib Jvm.Stand Jvm.Free Jvm.LawKit Jvm.RoadKit
/-- a cell that is no class's statics -/
def Nst (h : Heap) (x : Addr) : Prop := ∃ c : Cell, h[x]? = some c ∧ c.vm.isStatics = false
theorem nst_exa {Z : State} {h : Heap} {a : Addr} {C : String} (E : Exa Z h a C) : Nst h a := by obtain ⟨c, k, h1, -, -, h4, -⟩ := E; exact ⟨c, h1, h4⟩
theorem sta_keep {Z : State} {h h' : Heap} {C n d : String} {v : Value} {ws : List Addr} (F : Sta Z h C n d v) (K : Keep h h' ws) (q : ∀ x ∈ ws, Nst h x) : Sta Z h' C n d v := by
  obtain ⟨cf, i, k, f, st, cell, h1, h2, h3, h4, h5, h6, h7⟩ := F
  refine ⟨cf, i, k, f, st, cell, h1, h2, h3, h4, K.2.1 st cell h5 fun m => ?_, h6, h7⟩
  obtain ⟨c, e1, e2⟩ := q st m
  cases h5.symm.trans e1
  rw [h6] at e2
  cases e2
end Jvm.OwnGo
namespace Jvm.Pilot.@@N@@
open Jvm Jvm.ClassFile Sem Op Lib Jvm.Free Jvm.Stand Jvm.LawKit Jvm.RoadKit Bundle Jvm.Pilot.@@N@@.Jvm.D Jvm.OwnGo
def Wd (a0 : Array Value) (Z : State) : Prop := ∀ d ∈ tables_1, d.before a0 Z = true
def own_v (xs : List Int32) : List Value := xs.map Value.int
theorem own_v_len (xs : List Int32) : (own_v xs).length = xs.length := by simp [own_v]
theorem own_v_set (xs : List Int32) (j : Nat) (y : Int32) : (own_v xs).set j (.int y) = own_v (xs.set j y) := by simp [own_v, List.map_set]
theorem own_v_at (xs : List Int32) (i : Nat) (h : i < xs.length) : (own_v xs)[i]? = some (.int (xs.getD i 0)) := by simp [own_v, List.getD, h]
def own_skip (i g : Int32) : Int32 := if ¬ g < 0 ∧ ¬ i < g then i + 1 else i
def own_w (v0 v1 v2 v3 j : Int32) : Int32 := if j = 0 then v0 else if j = 1 then v1 else if j = 2 then v2 else v3
theorem own_w_at (v0 v1 v2 v3 : Int32) {j : Int32} {i : Nat} (h : j.toInt = (i : Int)) (hi : i ≤ 3) : ([.int v0, .int v1, .int v2, .int v3] : List Value)[i]? = some (.int (own_w v0 v1 v2 v3 j)) := by
  have e : j = Int32.ofNat i := i_eq h (i_ofNat (by omega))
  subst e
  obtain rfl | rfl | rfl | rfl : i = 0 ∨ i = 1 ∨ i = 2 ∨ i = 3 := by omega
  · rfl
  · rfl
  · rfl
  · rfl
theorem own_skip_range {i g : Int32} {n : Int} (h0 : 0 ≤ i.toInt) (h1 : i.toInt ≤ n) (hn : n ≤ 100) : 0 ≤ (own_skip i g).toInt ∧ (own_skip i g).toInt ≤ n + 1 := by
  unfold own_skip
  split
  · rw [i_add rfl (show (1 : Int32).toInt = 1 from rfl) (by omega) (by omega)]; omega
  · omega
/-- what MoveBound.after makes of the rest of the open ones -/
def own_aft (cl ad : Int32) : List Int32 → Bool → List Int32
  | [], pl => if pl then [] else [ad]
  | x :: r, pl => (if pl = false ∧ ad < x then [ad] else []) ++ (if x = cl then [] else [x]) ++ own_aft cl ad r (pl || decide (ad < x))
theorem own_push (P : List Int32) (n : Nat) (x : Int32) (h : P.length < n) : (P ++ List.replicate (n - P.length) 0).set P.length x = (P ++ [x]) ++ List.replicate (n - (P ++ [x]).length) 0 := by
  obtain ⟨k, hk⟩ : ∃ k, n - P.length = k + 1 := ⟨n - P.length - 1, by omega⟩
  rw [hk, show n - (P ++ [x]).length = k by simp; omega, List.replicate_succ]
  simp [List.set_append]
theorem own_drop (S : List Int32) (k : Nat) (h : k < S.length) : S.drop k = S.getD k 0 :: S.drop (k + 1) := by
  rw [List.drop_eq_getElem_cons h]; simp [List.getD, h]
theorem pn_com_example_baseload_baseload_solve_MoveBoundAfterPinLaw : plainName "com/example/baseload/baseload/solve/MoveBoundAfterPinLaw" = true := by first | (simp [plainName, overriddenIn]; done) | decide +kernel
theorem d1_0 : Dc method_3_code 0 (.iload_n 1) 1 1 := ⟨by decide +kernel, rfl⟩
theorem d1_1 : Db method_3_code 1 (.ifCond .lt 14) 14 4 15 := ⟨by decide +kernel, rfl, rfl⟩
theorem d1_15 : Dc method_3_code 15 (.iload_n 0) 1 16 := ⟨by decide +kernel, rfl⟩
theorem d1_16 : Dc method_3_code 16 (.ireturn) 1 17 := ⟨by decide +kernel, rfl⟩
theorem d1_4 : Dc method_3_code 4 (.iload_n 0) 1 5 := ⟨by decide +kernel, rfl⟩
theorem d1_5 : Dc method_3_code 5 (.iload_n 1) 1 6 := ⟨by decide +kernel, rfl⟩
theorem d1_6 : Db method_3_code 6 (.if_icmp .lt 9) 9 9 15 := ⟨by decide +kernel, rfl, rfl⟩
theorem d1_9 : Dc method_3_code 9 (.iload_n 0) 1 10 := ⟨by decide +kernel, rfl⟩
theorem d1_10 : Dc method_3_code 10 (.iconst 1) 1 11 := ⟨by decide +kernel, rfl⟩
theorem d1_11 : Dc method_3_code 11 (.iadd) 1 12 := ⟨by decide +kernel, rfl⟩
theorem d1_12 : Db method_3_code 12 (.goto 4) 4 15 16 := ⟨by decide +kernel, rfl, rfl⟩
set_option maxRecDepth 65536 in
set_option maxHeartbeats 40000000 in
theorem rmS {l : Launch} {Z : State} {a0 : Array Value} {n0 : Nat} (H : Wd a0 Z) (i g : Int32) (h0 : Heap) (Z0 : n0 ≤ h0.size) :
    Ct l Z n0 (⟨"com/example/baseload/baseload/solve/MoveBoundAfterPinLaw", "skip", "(II)I"⟩ : MethodName) method_3_code 2 (some .int) [] ({ frames := 0, cells := 0, slots := 0, locals := 0 } : Room) #[(.int i), (.int g)] h0 (fun v h => v = some (.int (own_skip i g)) ∧ h0 = h) := by
  refine Ct.of (a0 := a0) (L0 := #[.val (.int i), .val (.int g)]) (plainFor_of_name pn_com_example_baseload_baseload_solve_MoveBoundAfterPinLaw) (fun m => by first | (simp [entryFrame, mkF, argsToLocals, Value.category]; done) | rfl) ?_
  intro κ B0
  have B : Ok κ l Z a0 n0 ({ frames := 0, cells := 0, slots := 0, locals := 0 } : Room) "com/example/baseload/baseload/solve/MoveBoundAfterPinLaw" "skip" method_3_code 2 (some .int) := B0
  refine go_iload_n B d1_0 rfl ?_
  refine go_iflt B d1_1 (fun c1 => ?_) (fun c1 => ?_)
  · skip
    refine go_iload_n B d1_15 rfl ?_
    refine go_ireturn B d1_16 (by decide) (by decide) ?_
    exact ⟨congrArg (fun z => some (Value.int z)) (by simp [own_skip, c1]), rfl⟩
  · skip
    refine go_iload_n B d1_4 rfl ?_
    refine go_iload_n B d1_5 rfl ?_
    refine go_icmplt B d1_6 (fun c6 => ?_) (fun c6 => ?_)
    · skip
      refine go_iload_n B d1_15 rfl ?_
      refine go_ireturn B d1_16 (by decide) (by decide) ?_
      exact ⟨congrArg (fun z => some (Value.int z)) (by simp [own_skip, c1, c6]), rfl⟩
    · skip
      refine go_iload_n B d1_9 rfl ?_
      refine go_iconst B (x := (1 : Int32)) d1_10 rfl ?_
      refine go_iadd B d1_11 ?_
      refine go_goto B d1_12 ?_
      refine go_ireturn B d1_16 (by decide) (by decide) ?_
      exact ⟨congrArg (fun z => some (Value.int z)) (by simp [own_skip, c1, c6]), rfl⟩
theorem d2_53 : Dc prog_47_method_3_code 53 (.iload 8) 2 55 := ⟨by decide +kernel, rfl⟩
theorem d2_55 : Dc prog_47_method_3_code 55 (.iload 7) 2 57 := ⟨by decide +kernel, rfl⟩
theorem d2_57 : Db prog_47_method_3_code 57 (.if_icmp .ge 53) 53 60 110 := ⟨by decide +kernel, rfl, rfl⟩
theorem d2_60 : Dc prog_47_method_3_code 60 (.aload 6) 2 62 := ⟨by decide +kernel, rfl⟩
theorem d2_62 : Dc prog_47_method_3_code 62 (.iload 8) 2 64 := ⟨by decide +kernel, rfl⟩
theorem d2_64 : Dc prog_47_method_3_code 64 (.iaload) 1 65 := ⟨by decide +kernel, rfl⟩
theorem d2_65 : Dc prog_47_method_3_code 65 (.istore 9) 2 67 := ⟨by decide +kernel, rfl⟩
theorem d2_67 : Dc prog_47_method_3_code 67 (.iload 5) 2 69 := ⟨by decide +kernel, rfl⟩
theorem d2_69 : Db prog_47_method_3_code 69 (.ifCond .ne 20) 20 72 89 := ⟨by decide +kernel, rfl, rfl⟩
theorem d2_89 : Dc prog_47_method_3_code 89 (.iload 9) 2 91 := ⟨by decide +kernel, rfl⟩
theorem d2_91 : Dc prog_47_method_3_code 91 (.iload_n 1) 1 92 := ⟨by decide +kernel, rfl⟩
theorem d2_92 : Db prog_47_method_3_code 92 (.if_icmp .eq 12) 12 95 104 := ⟨by decide +kernel, rfl, rfl⟩
theorem d2_104 : Dc prog_47_method_3_code 104 (.iinc 8 1) 3 107 := ⟨by decide +kernel, rfl⟩
theorem d2_107 : Db prog_47_method_3_code 107 (.goto (-54)) (-54) 110 53 := ⟨by decide +kernel, rfl, rfl⟩
theorem d2_95 : Dc prog_47_method_3_code 95 (.aload_n 3) 1 96 := ⟨by decide +kernel, rfl⟩
theorem d2_96 : Dc prog_47_method_3_code 96 (.iload 4) 2 98 := ⟨by decide +kernel, rfl⟩
theorem d2_98 : Dc prog_47_method_3_code 98 (.iinc 4 1) 3 101 := ⟨by decide +kernel, rfl⟩
theorem d2_101 : Dc prog_47_method_3_code 101 (.iload 9) 2 103 := ⟨by decide +kernel, rfl⟩
theorem d2_103 : Dc prog_47_method_3_code 103 (.iastore) 1 104 := ⟨by decide +kernel, rfl⟩
theorem d2_72 : Dc prog_47_method_3_code 72 (.iload_n 2) 1 73 := ⟨by decide +kernel, rfl⟩
theorem d2_73 : Dc prog_47_method_3_code 73 (.iload 9) 2 75 := ⟨by decide +kernel, rfl⟩
theorem d2_75 : Db prog_47_method_3_code 75 (.if_icmp .ge 14) 14 78 89 := ⟨by decide +kernel, rfl, rfl⟩
theorem d2_78 : Dc prog_47_method_3_code 78 (.aload_n 3) 1 79 := ⟨by decide +kernel, rfl⟩
theorem d2_79 : Dc prog_47_method_3_code 79 (.iload 4) 2 81 := ⟨by decide +kernel, rfl⟩
theorem d2_81 : Dc prog_47_method_3_code 81 (.iinc 4 1) 3 84 := ⟨by decide +kernel, rfl⟩
theorem d2_84 : Dc prog_47_method_3_code 84 (.iload_n 2) 1 85 := ⟨by decide +kernel, rfl⟩
theorem d2_85 : Dc prog_47_method_3_code 85 (.iastore) 1 86 := ⟨by decide +kernel, rfl⟩
theorem d2_86 : Dc prog_47_method_3_code 86 (.iconst 1) 1 87 := ⟨by decide +kernel, rfl⟩
theorem d2_87 : Dc prog_47_method_3_code 87 (.istore 5) 2 89 := ⟨by decide +kernel, rfl⟩
set_option maxRecDepth 65536 in
set_option maxHeartbeats 40000000 in
theorem loop53 {κ : Cx} {l : Launch} {Z : State} {a0 : Array Value} {n0 : Nat} (H : Wd a0 Z) (B : Ok κ l Z a0 n0 ({ frames := 0, cells := 1, slots := 4, locals := 0 } : Room) "com/example/baseload/baseload/solve/MoveBound" "after" prog_47_method_3_code 10 (some (.array .int))) {Q : Option Value → Heap → Prop} {k nn : Nat} {cl ad lv : Int32} {a b : Addr} {xs tot : List Int32} (hl : lv.toInt = (xs.length : Int)) (hX : xs.length ≤ 3) (hT : tot.length ≤ 4) (gb : n0 ≤ b) (nab : a ≠ b) :
    ∀ (m i : Nat), i + m = xs.length → ∀ (jv pv iv : Int32) (s9 : Slot) (P : List Int32) (pl : Bool), iv.toInt = (i : Int) → jv.toInt = (P.length : Int) → pv = (if pl = true then (1 : Int32) else 0) → (∀ (z jv' pv' iv' : Int32), storeLocals #[.val (.ref a), .val (.int cl), .val (.int ad), .val (.ref b), .val (.int jv'), .val (.int pv'), .val (.ref a), .val (.int lv), .val (.int iv'), s9] 9 (.int z) = some #[.val (.ref a), .val (.int cl), .val (.int ad), .val (.ref b), .val (.int jv'), .val (.int pv'), .val (.ref a), .val (.int lv), .val (.int iv'), .val (.int z)]) → P ++ own_aft cl ad (xs.drop i) pl = tot → ∀ (h : Heap), AV Z h a .int (own_v xs) → AV Z h b .int (own_v (P ++ List.replicate (tot.length - P.length) 0)) →
    (∀ h' jv' pv' iv' s9' P' pl', Keep h h' [b] → jv'.toInt = (P'.length : Int) → pv' = (if pl' = true then (1 : Int32) else 0) → P' ++ own_aft cl ad [] pl' = tot → AV Z h' b .int (own_v (P' ++ List.replicate (tot.length - P'.length) 0)) → Go κ Q h' k nn 110 #[.val (.ref a), .val (.int cl), .val (.int ad), .val (.ref b), .val (.int jv'), .val (.int pv'), .val (.ref a), .val (.int lv), .val (.int iv'), s9'] []) → Go κ Q h k nn 53 #[.val (.ref a), .val (.int cl), .val (.int ad), .val (.ref b), .val (.int jv), .val (.int pv), .val (.ref a), .val (.int lv), .val (.int iv), s9] [] := by
  intro m
  induction m with
  | zero =>
    intro i him jv pv iv s9 P pl hi hj hpv hs htot h A1 A2 g
    refine go_iload B d2_53 rfl ?_
    refine go_iload B d2_55 rfl ?_
    refine go_icmpge B d2_57 (fun c57 => ?_) (fun c57 => ?_)
    rotate_left
    · exact absurd c57 (i_nlt hi hl (by omega))
    exact g h jv pv iv s9 P pl (Keep.refl _ _) hj hpv (by rw [List.drop_of_length_le (by omega)] at htot; exact htot) A2
  | succ m ih =>
    intro i him jv pv iv s9 P pl hi hj hpv hs htot h A1 A2 g
    have hPl : P.length ≤ tot.length := by rw [← htot]; simp
    have hin : i < xs.length := by omega
    rw [own_drop xs i hin] at htot
    obtain ⟨x, hx⟩ : ∃ z, z = xs.getD i 0 := ⟨_, rfl⟩
    rw [← hx, own_aft] at htot
    refine go_iload B d2_53 rfl ?_
    refine go_iload B d2_55 rfl ?_
    refine go_icmpge B d2_57 (fun c57 => ?_) (fun c57 => ?_)
    · exact absurd (i_lt hi hl (by omega)) c57
    refine go_aload B d2_60 rfl rfl ?_
    refine go_iload B d2_62 rfl ?_
    refine go_iaload B (i := i) (v := (.int x)) d2_64 A1 hi (hx ▸ own_v_at xs i hin) ?_
    refine go_istore B #[.val (.ref a), .val (.int cl), .val (.int ad), .val (.ref b), .val (.int jv), .val (.int pv), .val (.ref a), .val (.int lv), .val (.int iv), .val (.int x)] d2_65 (hs _ _ _ _) ?_
    refine go_iload B d2_67 rfl ?_
    have J4 : ∀ h1 : Heap, ∀ z2 : Int32, ∀ z3 : Int32, (∃ P2 : List Int32, Keep h h1 [b] ∧ AV Z h1 b .int (own_v (P2 ++ List.replicate (tot.length - P2.length) 0)) ∧ z2.toInt = (P2.length : Int) ∧ z3 = (if (pl || decide (ad < x)) = true then (1 : Int32) else 0) ∧ P2 ++ (if x = cl then [] else [x]) ++ own_aft cl ad (xs.drop (i + 1)) (pl || decide (ad < x)) = tot) → Go κ (Q) h1 (k) (nn) 89 #[.val (.ref a), .val (.int cl), .val (.int ad), .val (.ref b), .val (.int z2), .val (.int z3), .val (.ref a), .val (.int lv), .val (.int iv), .val (.int x)] [] := by
      intro h1 z2 z3 hJ4
      obtain ⟨P10, K5, A6, hj7, hp8, ht9⟩ := hJ4
      refine go_iload B d2_89 rfl ?_
      refine go_iload_n B d2_91 rfl ?_
      refine go_icmpeq B d2_92 (fun c92 => ?_) (fun c92 => ?_)
      · skip
        rw [if_pos c92, List.append_nil] at ht9
        refine go_iinc B #[.val (.ref a), .val (.int cl), .val (.int ad), .val (.ref b), .val (.int z2), .val (.int z3), .val (.ref a), .val (.int lv), .val (.int (iv + (1 : Int32))), .val (.int x)] d2_104 (z := (1 : Int32)) rfl rfl rfl ?_
        refine go_goto B d2_107 ?_
        have f11 : Keep h h1 [b] := (Keep.trans (Keep.refl h [b]) K5 (allS (Or.inl (by simp)) all0))
        refine ih (i + 1) (by omega) _ _ _ _ P10 _ (by rw [i_add hi (show (1 : Int32).toInt = 1 from rfl) (by omega) (by omega)]; omega) hj7 hp8 (fun _ _ _ _ => rfl) ht9 h1 (AV.keep A1 K5 (ninS nab nin0)) A6 ?_
        intro h' jv' pv' iv' s9' P' pl' K' r1 r2 r3 A'
        exact g h' jv' pv' iv' s9' P' pl' ((f11).trans K' (allS (Or.inl (by simp)) all0)) r1 r2 r3 A'
      · skip
        rw [if_neg c92] at ht9
        have hlt : P10.length < tot.length := by rw [← ht9]; simp <;> omega
        have htl : tot.length ≤ 4 := hT
        refine go_aload_n B d2_95 rfl rfl ?_
        refine go_iload B d2_96 rfl ?_
        refine go_iinc B #[.val (.ref a), .val (.int cl), .val (.int ad), .val (.ref b), .val (.int (z2 + (1 : Int32))), .val (.int z3), .val (.ref a), .val (.int lv), .val (.int iv), .val (.int x)] d2_98 (z := (1 : Int32)) rfl rfl rfl ?_
        refine go_iload B d2_101 rfl ?_
        refine go_iastore B (i := P10.length) d2_103 A6 hj7 (by rw [own_v_len]; simp; omega) gb ?_
        intro h12 W13 A14
        have A15 : AV Z h12 b .int (own_v ((P10 ++ [x]) ++ List.replicate (tot.length - (P10 ++ [x]).length) 0)) := (by rw [← own_push _ _ _ (by omega), ← own_v_set]; exact A14)
        refine go_iinc B #[.val (.ref a), .val (.int cl), .val (.int ad), .val (.ref b), .val (.int (z2 + (1 : Int32))), .val (.int z3), .val (.ref a), .val (.int lv), .val (.int (iv + (1 : Int32))), .val (.int x)] d2_104 (z := (1 : Int32)) rfl rfl rfl ?_
        refine go_goto B d2_107 ?_
        have f16 : Keep h h12 [b] := (Keep.wr (Keep.trans (Keep.refl h [b]) K5 (allS (Or.inl (by simp)) all0)) W13 (Or.inl (by simp)))
        refine ih (i + 1) (by omega) _ _ _ _ (P10 ++ [x]) _ (by rw [i_add hi (show (1 : Int32).toInt = 1 from rfl) (by omega) (by omega)]; omega) (by rw [i_add hj7 (show (1 : Int32).toInt = 1 from rfl) (by omega) (by omega)]; simp) hp8 (fun _ _ _ _ => rfl) ht9 h12 (AV.other (AV.keep A1 K5 (ninS nab nin0)) W13 nab) A15 ?_
        intro h' jv' pv' iv' s9' P' pl' K' r1 r2 r3 A'
        exact g h' jv' pv' iv' s9' P' pl' ((f16).trans K' (allS (Or.inl (by simp)) all0)) r1 r2 r3 A'
    refine go_ifne B d2_69 (fun c69 => ?_) (fun c69 => ?_)
    · skip
      have hpt : pl = true := by cases pl <;> simp_all
      exact J4 h _ _ ⟨P, (Keep.refl h [b]), A2, hj, by rw [hpv]; simp [hpt], by rw [← htot]; simp [hpt]⟩
    · skip
      have hpf : pl = false := by cases pl <;> simp_all
      refine go_iload_n B d2_72 rfl ?_
      refine go_iload B d2_73 rfl ?_
      refine go_icmpge B d2_75 (fun c75 => ?_) (fun c75 => ?_)
      · skip
        exact J4 h _ _ ⟨P, (Keep.refl h [b]), A2, hj, by rw [hpv]; simp [hpf, c75], by rw [← htot]; simp [hpf, c75]⟩
      · skip
        have hlt : P.length < tot.length := by rw [← htot]; simp [hpf, c75] <;> omega
        refine go_aload_n B d2_78 rfl rfl ?_
        refine go_iload B d2_79 rfl ?_
        refine go_iinc B #[.val (.ref a), .val (.int cl), .val (.int ad), .val (.ref b), .val (.int (jv + (1 : Int32))), .val (.int pv), .val (.ref a), .val (.int lv), .val (.int iv), .val (.int x)] d2_81 (z := (1 : Int32)) rfl rfl rfl ?_
        refine go_iload_n B d2_84 rfl ?_
        refine go_iastore B (i := P.length) d2_85 A2 hj (by rw [own_v_len]; simp; omega) gb ?_
        intro h17 W18 A19
        have A20 : AV Z h17 b .int (own_v ((P ++ [ad]) ++ List.replicate (tot.length - (P ++ [ad]).length) 0)) := (by rw [← own_push _ _ _ (by omega), ← own_v_set]; exact A19)
        refine go_iconst B (x := (1 : Int32)) d2_86 rfl ?_
        refine go_istore B #[.val (.ref a), .val (.int cl), .val (.int ad), .val (.ref b), .val (.int (jv + (1 : Int32))), .val (.int (1 : Int32)), .val (.ref a), .val (.int lv), .val (.int iv), .val (.int x)] d2_87 rfl ?_
        exact J4 h17 _ _ ⟨P ++ [ad], (Keep.wr (Keep.refl h [b]) W18 (Or.inl (by simp))), A20, by rw [i_add hj (show (1 : Int32).toInt = 1 from rfl) (by omega) (by omega)]; simp, by simp [c75], by rw [← htot]; simp [hpf, c75]⟩
theorem own_total (x t : Nat) (cl ad : Int32) (hX : x ≤ 3) (hT : t ≤ 4) (h : (t : Int) = x - (if cl = -1 then 0 else 1) + (if ad = -1 then 0 else 1)) : (Int32.ofNat x - (if cl = -1 then (0 : Int32) else 1) + (if ad = -1 then (0 : Int32) else 1)).toInt = (t : Int) := by
  have e0 : (0 : Int32).toInt = 0 := rfl
  have e1 : (1 : Int32).toInt = 1 := rfl
  have ex : (Int32.ofNat x).toInt = (x : Int) := i_ofNat (by omega)
  rw [h]
  split <;> split <;> (rw [i_add (i_sub ex (by assumption) (by omega) (by omega)) (by assumption) (by omega) (by omega)])
theorem pn_com_example_baseload_baseload_solve_MoveBound : plainName "com/example/baseload/baseload/solve/MoveBound" = true := by first | (simp [plainName, overriddenIn]; done) | decide +kernel
theorem d2_0 : Dc prog_47_method_3_code 0 (.aload_n 0) 1 1 := ⟨by decide +kernel, rfl⟩
theorem d2_1 : Dc prog_47_method_3_code 1 (.arraylength) 1 2 := ⟨by decide +kernel, rfl⟩
theorem d2_2 : Dc prog_47_method_3_code 2 (.iload_n 1) 1 3 := ⟨by decide +kernel, rfl⟩
theorem d2_3 : Dc prog_47_method_3_code 3 (.iconst (-1)) 1 4 := ⟨by decide +kernel, rfl⟩
theorem d2_4 : Db prog_47_method_3_code 4 (.if_icmp .eq 7) 7 7 11 := ⟨by decide +kernel, rfl, rfl⟩
theorem d2_12 : Dc prog_47_method_3_code 12 (.isub) 1 13 := ⟨by decide +kernel, rfl⟩
theorem d2_13 : Dc prog_47_method_3_code 13 (.iload_n 2) 1 14 := ⟨by decide +kernel, rfl⟩
theorem d2_14 : Dc prog_47_method_3_code 14 (.iconst (-1)) 1 15 := ⟨by decide +kernel, rfl⟩
theorem d2_15 : Db prog_47_method_3_code 15 (.if_icmp .eq 7) 7 18 22 := ⟨by decide +kernel, rfl, rfl⟩
theorem d2_23 : Dc prog_47_method_3_code 23 (.iadd) 1 24 := ⟨by decide +kernel, rfl⟩
theorem d2_24 : Dc prog_47_method_3_code 24 (.newarray .int) 2 26 := ⟨by decide +kernel, rfl⟩
theorem w_1 {a0 : Array Value} {Z : State} (H : Wd a0 Z) : (Jvm.Cond.arrayClass Jvm.ClassFile.FieldType.int).before a0 Z = true := H _ (List.mem_of_getElem? (i := 1) rfl)
theorem d2_26 : Dc prog_47_method_3_code 26 (.astore_n 3) 1 27 := ⟨by decide +kernel, rfl⟩
theorem d2_27 : Dc prog_47_method_3_code 27 (.iconst 0) 1 28 := ⟨by decide +kernel, rfl⟩
theorem d2_28 : Dc prog_47_method_3_code 28 (.istore 4) 2 30 := ⟨by decide +kernel, rfl⟩
theorem d2_30 : Dc prog_47_method_3_code 30 (.iload_n 2) 1 31 := ⟨by decide +kernel, rfl⟩
theorem d2_31 : Dc prog_47_method_3_code 31 (.iconst (-1)) 1 32 := ⟨by decide +kernel, rfl⟩
theorem d2_32 : Db prog_47_method_3_code 32 (.if_icmp .ne 7) 7 35 39 := ⟨by decide +kernel, rfl, rfl⟩
theorem d2_40 : Dc prog_47_method_3_code 40 (.istore 5) 2 42 := ⟨by decide +kernel, rfl⟩
theorem d2_42 : Dc prog_47_method_3_code 42 (.aload_n 0) 1 43 := ⟨by decide +kernel, rfl⟩
theorem d2_43 : Dc prog_47_method_3_code 43 (.astore 6) 2 45 := ⟨by decide +kernel, rfl⟩
theorem d2_45 : Dc prog_47_method_3_code 45 (.aload 6) 2 47 := ⟨by decide +kernel, rfl⟩
theorem d2_47 : Dc prog_47_method_3_code 47 (.arraylength) 1 48 := ⟨by decide +kernel, rfl⟩
theorem d2_48 : Dc prog_47_method_3_code 48 (.istore 7) 2 50 := ⟨by decide +kernel, rfl⟩
theorem d2_50 : Dc prog_47_method_3_code 50 (.iconst 0) 1 51 := ⟨by decide +kernel, rfl⟩
theorem d2_51 : Dc prog_47_method_3_code 51 (.istore 8) 2 53 := ⟨by decide +kernel, rfl⟩
theorem d2_110 : Dc prog_47_method_3_code 110 (.iload 5) 2 112 := ⟨by decide +kernel, rfl⟩
theorem d2_112 : Db prog_47_method_3_code 112 (.ifCond .ne 8) 8 115 120 := ⟨by decide +kernel, rfl, rfl⟩
theorem d2_120 : Dc prog_47_method_3_code 120 (.aload_n 3) 1 121 := ⟨by decide +kernel, rfl⟩
theorem d2_121 : Dc prog_47_method_3_code 121 (.areturn) 1 122 := ⟨by decide +kernel, rfl⟩
theorem d2_115 : Dc prog_47_method_3_code 115 (.aload_n 3) 1 116 := ⟨by decide +kernel, rfl⟩
theorem d2_116 : Dc prog_47_method_3_code 116 (.iload 4) 2 118 := ⟨by decide +kernel, rfl⟩
theorem d2_118 : Dc prog_47_method_3_code 118 (.iload_n 2) 1 119 := ⟨by decide +kernel, rfl⟩
theorem d2_119 : Dc prog_47_method_3_code 119 (.iastore) 1 120 := ⟨by decide +kernel, rfl⟩
theorem d2_39 : Dc prog_47_method_3_code 39 (.iconst 0) 1 40 := ⟨by decide +kernel, rfl⟩
theorem d2_35 : Dc prog_47_method_3_code 35 (.iconst 1) 1 36 := ⟨by decide +kernel, rfl⟩
theorem d2_36 : Db prog_47_method_3_code 36 (.goto 4) 4 39 40 := ⟨by decide +kernel, rfl, rfl⟩
theorem d2_22 : Dc prog_47_method_3_code 22 (.iconst 0) 1 23 := ⟨by decide +kernel, rfl⟩
theorem d2_18 : Dc prog_47_method_3_code 18 (.iconst 1) 1 19 := ⟨by decide +kernel, rfl⟩
theorem d2_19 : Db prog_47_method_3_code 19 (.goto 4) 4 22 23 := ⟨by decide +kernel, rfl, rfl⟩
theorem d2_11 : Dc prog_47_method_3_code 11 (.iconst 0) 1 12 := ⟨by decide +kernel, rfl⟩
theorem d2_7 : Dc prog_47_method_3_code 7 (.iconst 1) 1 8 := ⟨by decide +kernel, rfl⟩
theorem d2_8 : Db prog_47_method_3_code 8 (.goto 4) 4 11 12 := ⟨by decide +kernel, rfl, rfl⟩
set_option maxRecDepth 65536 in
set_option maxHeartbeats 40000000 in
theorem rmA {l : Launch} {Z : State} {a0 : Array Value} {n0 : Nat} (H : Wd a0 Z) (a : Addr) (cl ad : Int32) (xs tot : List Int32) (h0 : Heap) (Z0 : n0 ≤ h0.size) (A1 : AV Z h0 a .int (own_v xs)) (hX : xs.length ≤ 3) (hT : tot.length ≤ 4) (hlen : (tot.length : Int) = xs.length - (if cl = -1 then 0 else 1) + (if ad = -1 then 0 else 1)) (htot : own_aft cl ad xs (decide (ad = -1)) = tot) :
    Ct l Z n0 (⟨"com/example/baseload/baseload/solve/MoveBound", "after", "([III)[I"⟩ : MethodName) prog_47_method_3_code 10 (some (.array .int)) [] ({ frames := 0, cells := 1, slots := 4, locals := 0 } : Room) #[(.ref a), (.int cl), (.int ad)] h0 (fun v h => ∃ b, v = some (.ref b) ∧ h0.size ≤ b ∧ Keep h0 h [] ∧ AV Z h b .int (own_v tot)) := by
  refine Ct.of (a0 := a0) (L0 := #[.val (.ref a), .val (.int cl), .val (.int ad), .unset, .unset, .unset, .unset, .unset, .unset, .unset]) (plainFor_of_name pn_com_example_baseload_baseload_solve_MoveBound) (fun m => by first | (simp [entryFrame, mkF, argsToLocals, Value.category]; done) | rfl) ?_
  intro κ B0
  have B : Ok κ l Z a0 n0 ({ frames := 0, cells := 1, slots := 4, locals := 0 } : Room) "com/example/baseload/baseload/solve/MoveBound" "after" prog_47_method_3_code 10 (some (.array .int)) := B0
  refine go_aload_n B d2_0 rfl rfl ?_
  refine go_arraylength B (x := (Int32.ofNat xs.length)) d2_1 A1 (by rw [own_v_len]) ?_
  refine go_iload_n B d2_2 rfl ?_
  refine go_iconst B (x := (-1 : Int32)) d2_3 rfl ?_
  have J22 : ∀ z21 : Int32, (z21 = if cl = -1 then (0 : Int32) else 1) → Go κ (fun v h => ∃ b, v = some (.ref b) ∧ h0.size ≤ b ∧ Keep h0 h [] ∧ AV Z h b .int (own_v tot)) h0 (0) (0) 12 #[.val (.ref a), .val (.int cl), .val (.int ad), .unset, .unset, .unset, .unset, .unset, .unset, .unset] [(.int z21), (.int (Int32.ofNat xs.length))] := by
    intro z21 hJ22
    refine go_isub B d2_12 ?_
    refine go_iload_n B d2_13 rfl ?_
    refine go_iconst B (x := (-1 : Int32)) d2_14 rfl ?_
    have J24 : ∀ z23 : Int32, (z23 = if ad = -1 then (0 : Int32) else 1) → Go κ (fun v h => ∃ b, v = some (.ref b) ∧ h0.size ≤ b ∧ Keep h0 h [] ∧ AV Z h b .int (own_v tot)) h0 (0) (0) 23 #[.val (.ref a), .val (.int cl), .val (.int ad), .unset, .unset, .unset, .unset, .unset, .unset, .unset] [(.int z23), (.int ((Int32.ofNat xs.length) - z21))] := by
      intro z23 hJ24
      refine go_iadd B d2_23 ?_
      refine go_newarray B (i := tot.length) (cap := 4) d2_24 (w_1 H) (by rw [hJ22, hJ24]; exact own_total xs.length tot.length cl ad hX hT hlen) hT (by decide) (by decide) (by decide) ?_
      intro h25 a26 hba26 Ea26 Aa26 Ca26
      have ne_a26_a : a26 ≠ a := Nat.ne_of_gt (Nat.lt_of_lt_of_le (A1).lt (by omega))
      have ge_a26 : n0 ≤ a26 := by have q1 := Z0; omega
      refine go_astore_n B #[.val (.ref a), .val (.int cl), .val (.int ad), .val (.ref a26), .unset, .unset, .unset, .unset, .unset, .unset] d2_26 rfl rfl ?_
      refine go_iconst B (x := (0 : Int32)) d2_27 rfl ?_
      refine go_istore B #[.val (.ref a), .val (.int cl), .val (.int ad), .val (.ref a26), .val (.int (0 : Int32)), .unset, .unset, .unset, .unset, .unset] d2_28 rfl ?_
      refine go_iload_n B d2_30 rfl ?_
      refine go_iconst B (x := (-1 : Int32)) d2_31 rfl ?_
      have J28 : ∀ z27 : Int32, (z27 = if decide (ad = -1) = true then (1 : Int32) else 0) → Go κ (fun v h => ∃ b, v = some (.ref b) ∧ h0.size ≤ b ∧ Keep h0 h [] ∧ AV Z h b .int (own_v tot)) h25 (0 + 1) (0 + 4) 40 #[.val (.ref a), .val (.int cl), .val (.int ad), .val (.ref a26), .val (.int (0 : Int32)), .unset, .unset, .unset, .unset, .unset] [(.int z27)] := by
        intro z27 hJ28
        refine go_istore B #[.val (.ref a), .val (.int cl), .val (.int ad), .val (.ref a26), .val (.int (0 : Int32)), .val (.int z27), .unset, .unset, .unset, .unset] d2_40 rfl ?_
        refine go_aload_n B d2_42 rfl rfl ?_
        refine go_astore B #[.val (.ref a), .val (.int cl), .val (.int ad), .val (.ref a26), .val (.int (0 : Int32)), .val (.int z27), .val (.ref a), .unset, .unset, .unset] d2_43 rfl rfl ?_
        refine go_aload B d2_45 rfl rfl ?_
        refine go_arraylength B (x := (Int32.ofNat xs.length)) d2_47 (AV.ext A1 Ea26) (by rw [own_v_len]) ?_
        refine go_istore B #[.val (.ref a), .val (.int cl), .val (.int ad), .val (.ref a26), .val (.int (0 : Int32)), .val (.int z27), .val (.ref a), .val (.int (Int32.ofNat xs.length)), .unset, .unset] d2_48 rfl ?_
        refine go_iconst B (x := (0 : Int32)) d2_50 rfl ?_
        refine go_istore B #[.val (.ref a), .val (.int cl), .val (.int ad), .val (.ref a26), .val (.int (0 : Int32)), .val (.int z27), .val (.ref a), .val (.int (Int32.ofNat xs.length)), .val (.int (0 : Int32)), .unset] d2_51 rfl ?_
        refine loop53 H B (lv := _) (i_ofNat (by omega)) hX hT ge_a26 (Ne.symm ne_a26_a) xs.length 0 (by omega) _ _ _ _ [] (decide (ad = -1)) rfl rfl hJ28 (fun _ _ _ _ => rfl) htot h25 (AV.ext A1 Ea26) (by have q : AV Z h25 a26 .int (List.replicate tot.length (Value.int 0)) := Aa26; simpa [own_v] using q) ?_
        intro h' jv' pv' iv' s9' P' pl' K' r1 r2 r3 A'
        refine go_iload B d2_110 rfl ?_
        refine go_ifne B d2_112 (fun c112 => ?_) (fun c112 => ?_)
        · skip
          have hpt : pl' = true := by cases pl' <;> simp_all
          subst hpt
          rw [own_aft, if_pos rfl, List.append_nil] at r3
          subst r3
          refine go_aload_n B d2_120 rfl rfl ?_
          refine go_areturn B d2_121 rfl rfl rfl (by decide) (by decide) ?_
          have f29 : Keep h0 h' [] := ((Keep.ext (Keep.refl h0 []) Ea26).trans K' (allS (Or.inr (by omega)) all0))
          exact ⟨a26, rfl, by omega, f29, by have q := A'; simpa using q⟩
        · skip
          have hpf : pl' = false := by cases pl' <;> simp_all
          subst hpf
          rw [own_aft, if_neg (by decide)] at r3
          have hlt : P'.length < tot.length := by rw [← r3]; simp
          refine go_aload_n B d2_115 rfl rfl ?_
          refine go_iload B d2_116 rfl ?_
          refine go_iload_n B d2_118 rfl ?_
          refine go_iastore B (i := P'.length) d2_119 A' r1 (by rw [own_v_len]; simp; omega) ge_a26 ?_
          intro h30 W31 A32
          have A33 : AV Z h30 a26 .int (own_v ((P' ++ [ad]) ++ List.replicate (tot.length - (P' ++ [ad]).length) 0)) := (by rw [← own_push _ _ _ (by omega), ← own_v_set]; exact A32)
          refine go_aload_n B d2_120 rfl rfl ?_
          refine go_areturn B d2_121 rfl rfl rfl (by decide) (by decide) ?_
          have f34 : Keep h0 h30 [] := (Keep.wr ((Keep.ext (Keep.refl h0 []) Ea26).trans K' (allS (Or.inr (by omega)) all0)) W31 (Or.inr (by omega)))
          exact ⟨a26, rfl, by omega, f34, by have q := A33; simpa [r3] using q⟩
      refine go_icmpne B d2_32 (fun c32 => ?_) (fun c32 => ?_)
      · skip
        refine go_iconst B (x := (0 : Int32)) d2_39 rfl ?_
        exact J28 _ (by simp [c32])
      · skip
        refine go_iconst B (x := (1 : Int32)) d2_35 rfl ?_
        refine go_goto B d2_36 ?_
        exact J28 _ (by simp [c32])
    refine go_icmpeq B d2_15 (fun c15 => ?_) (fun c15 => ?_)
    · skip
      refine go_iconst B (x := (0 : Int32)) d2_22 rfl ?_
      exact J24 _ (by simp [c15])
    · skip
      refine go_iconst B (x := (1 : Int32)) d2_18 rfl ?_
      refine go_goto B d2_19 ?_
      exact J24 _ (by simp [c15])
  refine go_icmpeq B d2_4 (fun c4 => ?_) (fun c4 => ?_)
  · skip
    refine go_iconst B (x := (0 : Int32)) d2_11 rfl ?_
    exact J22 _ (by simp [c4])
  · skip
    refine go_iconst B (x := (1 : Int32)) d2_7 rfl ?_
    refine go_goto B d2_8 ?_
    exact J22 _ (by simp [c4])
theorem d3_0 : Dc method_4_code 0 (.iload_n 1) 1 1 := ⟨by decide +kernel, rfl⟩
theorem d3_1 : Dc method_4_code 1 (.aload_n 0) 1 2 := ⟨by decide +kernel, rfl⟩
theorem d3_2 : Dc method_4_code 2 (.arraylength) 1 3 := ⟨by decide +kernel, rfl⟩
theorem d3_3 : Db method_4_code 3 (.if_icmp .ge 16) 16 6 19 := ⟨by decide +kernel, rfl, rfl⟩
theorem d3_19 : Dc method_4_code 19 (.iconst 1) 1 20 := ⟨by decide +kernel, rfl⟩
theorem d3_20 : Db method_4_code 20 (.goto 4) 4 23 24 := ⟨by decide +kernel, rfl, rfl⟩
theorem d3_24 : Dc method_4_code 24 (.ireturn) 1 25 := ⟨by decide +kernel, rfl⟩
theorem d3_6 : Dc method_4_code 6 (.aload_n 0) 1 7 := ⟨by decide +kernel, rfl⟩
theorem d3_7 : Dc method_4_code 7 (.iload_n 1) 1 8 := ⟨by decide +kernel, rfl⟩
theorem d3_8 : Dc method_4_code 8 (.iaload) 1 9 := ⟨by decide +kernel, rfl⟩
theorem d3_9 : Dc method_4_code 9 (.aload_n 2) 1 10 := ⟨by decide +kernel, rfl⟩
theorem d3_10 : Dc method_4_code 10 (.iload_n 1) 1 11 := ⟨by decide +kernel, rfl⟩
theorem d3_11 : Dc method_4_code 11 (.iload_n 3) 1 12 := ⟨by decide +kernel, rfl⟩
theorem d3_12 : Dc method_4_code 12 (.invokestatic 9) 3 15 := ⟨by decide +kernel, rfl⟩
theorem w_5 {a0 : Array Value} {Z : State} (H : Wd a0 Z) : (Jvm.Cond.code ({ cls := "com/example/baseload/baseload/solve/MoveBoundAfterPinLaw", name := "skip", desc := "(II)I" } : Jvm.MethodName) method_3_code (2 : Nat) (Option.some Jvm.ClassFile.FieldType.int)).before a0 Z = true := H _ (List.mem_of_getElem? (i := 5) rfl)
theorem w_4 {a0 : Array Value} {Z : State} (H : Wd a0 Z) : (Jvm.Cond.initialized "com/example/baseload/baseload/solve/MoveBoundAfterPinLaw").before a0 Z = true := H _ (List.mem_of_getElem? (i := 4) rfl)
theorem pd_0 : parseMethodDescriptor "(II)I" = some ⟨[.int, .int], some .int⟩ := by decide +kernel
theorem w_2 {a0 : Array Value} {Z : State} (H : Wd a0 Z) : (Jvm.Cond.methodLink "com/example/baseload/baseload/solve/MoveBoundAfterPinLaw" (9 : Nat) ({ cls := "com/example/baseload/baseload/solve/MoveBoundAfterPinLaw", name := "skip", desc := "(II)I" } : Jvm.MethodName)).before a0 Z = true := H _ (List.mem_of_getElem? (i := 2) rfl)
theorem w_3 {a0 : Array Value} {Z : State} (H : Wd a0 Z) : (Jvm.Cond.static ({ cls := "com/example/baseload/baseload/solve/MoveBoundAfterPinLaw", name := "skip", desc := "(II)I" } : Jvm.MethodName)).before a0 Z = true := H _ (List.mem_of_getElem? (i := 3) rfl)
theorem d3_15 : Dc method_4_code 15 (.iaload) 1 16 := ⟨by decide +kernel, rfl⟩
theorem d3_16 : Db method_4_code 16 (.if_icmp .ne 7) 7 19 23 := ⟨by decide +kernel, rfl, rfl⟩
set_option maxRecDepth 65536 in
set_option maxHeartbeats 40000000 in
theorem rmT {l : Launch} {Z : State} {a0 : Array Value} {n0 : Nat} (H : Wd a0 Z) (r wa : Addr) (i cl v0 v1 v2 v3 : Int32) (j : Nat) (tot : List Int32) (h0 : Heap) (Z0 : n0 ≤ h0.size) (A1 : AV Z h0 r .int (own_v tot)) (A2 : AV Z h0 wa .int [(.int v0), (.int v1), (.int v2), (.int v3)]) (hT : tot.length ≤ 4) (hi : i.toInt = (j : Int)) (hok : j < tot.length → tot.getD j 0 = own_w v0 v1 v2 v3 (own_skip i cl) ∧ 0 ≤ (own_skip i cl).toInt ∧ (own_skip i cl).toInt ≤ 3) :
    Ct l Z n0 (⟨"com/example/baseload/baseload/solve/MoveBoundAfterPinLaw", "at", "([II[II)Z"⟩ : MethodName) method_4_code 4 (some .boolean) [] ({ frames := 1, cells := 0, slots := 0, locals := 16 } : Room) #[(.ref r), (.int i), (.ref wa), (.int cl)] h0 (fun v h => v = some (.int 1) ∧ h0 = h) := by
  refine Ct.of (a0 := a0) (L0 := #[.val (.ref r), .val (.int i), .val (.ref wa), .val (.int cl)]) (plainFor_of_name pn_com_example_baseload_baseload_solve_MoveBoundAfterPinLaw) (fun m => by first | (simp [entryFrame, mkF, argsToLocals, Value.category]; done) | rfl) ?_
  intro κ B0
  have B : Ok κ l Z a0 n0 ({ frames := 1, cells := 0, slots := 0, locals := 16 } : Room) "com/example/baseload/baseload/solve/MoveBoundAfterPinLaw" "at" method_4_code 4 (some .boolean) := B0
  refine go_iload_n B d3_0 rfl ?_
  refine go_aload_n B d3_1 rfl rfl ?_
  refine go_arraylength B (x := (Int32.ofNat tot.length)) d3_2 A1 (by rw [own_v_len]) ?_
  refine go_icmpge B d3_3 (fun c3 => ?_) (fun c3 => ?_)
  · skip
    refine go_iconst B (x := (1 : Int32)) d3_19 rfl ?_
    refine go_goto B d3_20 ?_
    refine go_zreturn B (y := (1 : Int32)) d3_24 (by decide) (by decide) (by decide) ?_
    exact ⟨rfl, rfl⟩
  · skip
    refine go_aload_n B d3_6 rfl rfl ?_
    refine go_iload_n B d3_7 rfl ?_
    refine go_iaload B (i := j) (v := (.int (tot.getD j 0))) d3_8 A1 hi (own_v_at tot j (by have := i_of_lt hi (i_ofNat (by omega)) c3; omega)) ?_
    refine go_aload_n B d3_9 rfl rfl ?_
    refine go_iload_n B d3_10 rfl ?_
    refine go_iload_n B d3_11 rfl ?_
    refine go_static B (W := 2) (argsL := [(.int i), (.int cl)]) (st := [(.ref wa), (.int (tot.getD j 0))]) d3_12 (w_2 H) (w_3 H) (w_4 H) (w_5 H) (by decide) (rmS H i cl h0 Z0) pd_0 rfl rfl rfl rfl (by decide) (by decide) (by decide) (by decide) ?_
    rintro _ h35 ⟨rfl, rfl⟩
    show Go κ _ h0 _ _ 15 #[.val (.ref r), .val (.int i), .val (.ref wa), .val (.int cl)] [(.int (own_skip i cl)), (.ref wa), (.int (tot.getD j 0))]
    refine go_iaload B (i := (own_skip i cl).toInt.toNat) (v := (.int (own_w v0 v1 v2 v3 (own_skip i cl)))) d3_15 A2 (by have := (hok (by have := i_of_lt hi (i_ofNat (by omega)) c3; omega)).2; omega) (own_w_at v0 v1 v2 v3 (by have := (hok (by have := i_of_lt hi (i_ofNat (by omega)) c3; omega)).2; omega) (by have := (hok (by have := i_of_lt hi (i_ofNat (by omega)) c3; omega)).2; omega)) ?_
    refine go_icmpne B d3_16 (fun c16 => ?_) (fun c16 => ?_)
    · exact absurd (hok (by have := i_of_lt hi (i_ofNat (by omega)) c3; omega)).1 c16
    refine go_iconst B (x := (1 : Int32)) d3_19 rfl ?_
    refine go_goto B d3_20 ?_
    refine go_zreturn B (y := (1 : Int32)) d3_24 (by decide) (by decide) (by decide) ?_
    exact ⟨rfl, rfl⟩
theorem own_k5 {k : Int32} (h0 : -1 ≤ k.toInt) (h1 : k.toInt ≤ 3) : k = -1 ∨ k = 0 ∨ k = 1 ∨ k = 2 ∨ k = 3 := by
  have : k.toInt = -1 ∨ k.toInt = 0 ∨ k.toInt = 1 ∨ k.toInt = 2 ∨ k.toInt = 3 := by omega
  rcases this with h | h | h | h | h
  · exact Or.inl (i_eq h rfl)
  · exact Or.inr (Or.inl (i_eq h rfl))
  · exact Or.inr (Or.inr (Or.inl (i_eq h rfl)))
  · exact Or.inr (Or.inr (Or.inr (Or.inl (i_eq h rfl))))
  · exact Or.inr (Or.inr (Or.inr (Or.inr (i_eq h rfl))))
def own_op (v0 v1 v2 v3 k : Int32) (nn : Nat) : List Int32 := [own_w v0 v1 v2 v3 (own_skip 0 k), own_w v0 v1 v2 v3 (own_skip 1 k), own_w v0 v1 v2 v3 (own_skip 2 k)].take nn
theorem own_law0 {v0 v1 v2 v3 n k ci adds cl closed added : Int32} {nn : Nat} (o01 : v0 < v1) (o12 : v1 < v2) (o23 : v2 < v3) (o0 : 0 ≤ v0.toInt) (hn : n.toInt = (nn : Int)) (h3 : nn ≤ 3) (hk : (adds = 0 ∧ k = -1) ∨ (¬ adds = 0 ∧ 0 ≤ k.toInt ∧ k.toInt ≤ nn)) (hci : 0 ≤ ci.toInt ∧ ci.toInt ≤ nn)
    (hcl : cl = if ci = n then -1 else own_skip ci k) (hclosed : closed = if cl < 0 then -1 else own_w v0 v1 v2 v3 cl) (hadded : added = if adds = 0 then -1 else own_w v0 v1 v2 v3 k) :
    ∃ tot : List Int32, own_aft closed added (own_op v0 v1 v2 v3 k nn) (decide (added = -1)) = tot ∧ tot.length ≤ 4 ∧ (tot.length : Int) = (own_op v0 v1 v2 v3 k nn).length - (if closed = -1 then 0 else 1) + (if added = -1 then 0 else 1) ∧ (∀ j : Nat, j < tot.length → tot.getD j 0 = own_w v0 v1 v2 v3 (own_skip (Int32.ofNat j) cl) ∧ 0 ≤ (own_skip (Int32.ofNat j) cl).toInt ∧ (own_skip (Int32.ofNat j) cl).toInt ≤ 3) ∧ (tot.length : Int) = nn + (if adds = 0 then 0 else 1) - (if cl < 0 then 0 else 1) := by
  have o02 := Int32.lt_trans o01 o12
  have o13 := Int32.lt_trans o12 o23
  have o03 := Int32.lt_trans o01 o13
  have a10 := Int32.lt_asymm o01
  have a20 := Int32.lt_asymm o02
  have a30 := Int32.lt_asymm o03
  have a21 := Int32.lt_asymm o12
  have a31 := Int32.lt_asymm o13
  have a32 := Int32.lt_asymm o23
  have e01 : ¬ v0 = v1 := Int32.ne_of_lt o01
  have e02 : ¬ v0 = v2 := Int32.ne_of_lt o02
  have e03 : ¬ v0 = v3 := Int32.ne_of_lt o03
  have e12 : ¬ v1 = v2 := Int32.ne_of_lt o12
  have e13 : ¬ v1 = v3 := Int32.ne_of_lt o13
  have e23 : ¬ v2 = v3 := Int32.ne_of_lt o23
  have f01 := Int32.lt_iff_toInt_lt.mp o01
  have f12 := Int32.lt_iff_toInt_lt.mp o12
  have f23 := Int32.lt_iff_toInt_lt.mp o23
  have em : (-1 : Int32).toInt = -1 := rfl
  have g0 : ¬ v0 = -1 := fun q => by rw [q] at o0; omega
  have g1 : ¬ v1 = -1 := fun q => by rw [q] at f01; omega
  have g2 : ¬ v2 = -1 := fun q => by rw [q] at f12; omega
  have g3 : ¬ v3 = -1 := fun q => by rw [q] at f23; omega
  have hk5 : k = -1 ∨ k = 0 ∨ k = 1 ∨ k = 2 ∨ k = 3 := by
    rcases hk with q | q
    · exact Or.inl q.2
    · exact own_k5 (by omega) (by omega)
  have hc5 := own_k5 (k := ci) (by omega) (by omega)
  have z0 : (0 : Int32).toInt = 0 := rfl
  have z1 : (1 : Int32).toInt = 1 := rfl
  have z2 : (2 : Int32).toInt = 2 := rfl
  have z3 : (3 : Int32).toInt = 3 := rfl
  subst hclosed hadded
  obtain rfl | rfl | rfl | rfl : nn = 0 ∨ nn = 1 ∨ nn = 2 ∨ nn = 3 := by omega
  all_goals
    first
    | (obtain rfl : n = 0 := i_eq hn rfl)
    | (obtain rfl : n = 1 := i_eq hn rfl)
    | (obtain rfl : n = 2 := i_eq hn rfl)
    | (obtain rfl : n = 3 := i_eq hn rfl)
  all_goals
    rcases hk5 with rfl | rfl | rfl | rfl | rfl <;> rcases hc5 with rfl | rfl | rfl | rfl | rfl <;> first
    | (exfalso; omega)
    | (exfalso; rcases hk with q | q
       · exact absurd q.2 (by decide)
       · omega)
    | skip
  all_goals
    have hadds : adds = 0 ∨ ¬ adds = 0 := Classical.em _
    rcases hadds with hz | hz
  all_goals
    first
    | (exfalso; rcases hk with q | q
       · exact absurd q.2 (by decide)
       · exact absurd hz q.1)
    | (exfalso; rcases hk with q | q
       · exact absurd q.1 hz
       · omega)
    | skip
  all_goals
    subst hcl
    refine ⟨_, rfl, ?_, ?_, ?_, ?_⟩
  all_goals
    first
    | (simp [own_op, own_aft, own_skip, own_w, hz, o01, o02, o03, o12, o13, o23, a10, a20, a30, a21, a31, a32, e01, e02, e03, e12, e13, e23, Ne.symm e01, Ne.symm e02, Ne.symm e03, Ne.symm e12, Ne.symm e13, Ne.symm e23, g0, g1, g2, g3]; done)
    | (intro j hj
       rcases j with _ | _ | _ | _ | j <;>
       first
       | (simp [own_op, own_aft, own_skip, own_w, hz, o01, o02, o03, o12, o13, o23, a10, a20, a30, a21, a31, a32, e01, e02, e03, e12, e13, e23, Ne.symm e01, Ne.symm e02, Ne.symm e03, Ne.symm e12, Ne.symm e13, Ne.symm e23, g0, g1, g2, g3]; done)
       | (exfalso
          simp [own_op, own_aft, own_skip, own_w, hz, o01, o02, o03, o12, o13, o23, a10, a20, a30, a21, a31, a32, e01, e02, e03, e12, e13, e23, Ne.symm e01, Ne.symm e02, Ne.symm e03, Ne.symm e12, Ne.symm e13, Ne.symm e23, g0, g1, g2, g3] at hj; done)
       | (exfalso
          simp [own_op, own_aft, own_skip, own_w, hz, o01, o02, o03, o12, o13, o23, a10, a20, a30, a21, a31, a32, e01, e02, e03, e12, e13, e23, Ne.symm e01, Ne.symm e02, Ne.symm e03, Ne.symm e12, Ne.symm e13, Ne.symm e23, g0, g1, g2, g3] at hj; omega))
theorem own_rem_range (x : Int32) {n : Int32} {nn : Nat} (hn : n.toInt = (nn : Int)) (h3 : nn ≤ 3) : 0 ≤ ((x &&& (2147483647 : Int32)) % (n + (1 : Int32))).toInt ∧ ((x &&& (2147483647 : Int32)) % (n + (1 : Int32))).toInt ≤ nn := by
  have h1 : (n + (1 : Int32)).toInt = (nn : Int) + 1 := i_add hn (show (1 : Int32).toInt = 1 from rfl) (by omega) (by omega)
  have hm := i_mod (rfl : (x &&& (2147483647 : Int32)).toInt = _) h1 (i_and x 2147483647 (by decide)).1 (by omega)
  have a1 := Int.emod_nonneg (x &&& (2147483647 : Int32)).toInt (show (nn : Int) + 1 ≠ 0 by omega)
  have a2 := Int.emod_lt_of_pos (x &&& (2147483647 : Int32)).toInt (show (0 : Int) < (nn : Int) + 1 by omega)
  omega
theorem own_law {v0 v1 v2 v3 n k ci adds cl closed added : Int32} {nn : Nat} (o01 : v0 < v1) (o12 : v1 < v2) (o23 : v2 < v3) (o0 : 0 ≤ v0.toInt) (hn : n.toInt = (nn : Int)) (h3 : nn ≤ 3) (hk : (adds = 0 ∧ k = -1) ∨ (¬ adds = 0 ∧ 0 ≤ k.toInt ∧ k.toInt ≤ nn)) (hci : 0 ≤ ci.toInt ∧ ci.toInt ≤ nn)
    (hcl : cl = if ci = n then -1 else own_skip ci k) (hclosed : closed = if cl < 0 then -1 else own_w v0 v1 v2 v3 cl) (hadded : added = if adds = 0 then -1 else own_w v0 v1 v2 v3 k) :
    ∃ tot : List Int32, own_aft closed added ([(own_w v0 v1 v2 v3 (own_skip (0 : Int32) k)), (own_w v0 v1 v2 v3 (own_skip (1 : Int32) k)), (own_w v0 v1 v2 v3 (own_skip (2 : Int32) k))].take nn) (decide (added = -1)) = tot ∧ tot.length ≤ 4 ∧ (tot.length : Int) = ([(own_w v0 v1 v2 v3 (own_skip (0 : Int32) k)), (own_w v0 v1 v2 v3 (own_skip (1 : Int32) k)), (own_w v0 v1 v2 v3 (own_skip (2 : Int32) k))].take nn).length - (if closed = -1 then 0 else 1) + (if added = -1 then 0 else 1) ∧ (∀ j : Nat, j < tot.length → tot.getD j 0 = own_w v0 v1 v2 v3 (own_skip (Int32.ofNat j) cl) ∧ 0 ≤ (own_skip (Int32.ofNat j) cl).toInt ∧ (own_skip (Int32.ofNat j) cl).toInt ≤ 3) ∧ (tot.length : Int) = nn + (if adds = 0 then 0 else 1) - (if cl < 0 then 0 else 1) := own_law0 o01 o12 o23 o0 hn h3 hk hci hcl hclosed hadded
theorem own_cl_range {n k ci cl : Int32} {nn : Nat} (hn : n.toInt = (nn : Int)) (h3 : nn ≤ 3) (hci : 0 ≤ ci.toInt ∧ ci.toInt ≤ nn) (hcl : cl = if ci = n then -1 else own_skip ci k) (h : ¬ cl < 0) : 0 ≤ cl.toInt ∧ cl.toInt ≤ 3 := by
  split at hcl
  · subst hcl; exact absurd (by decide) h
  · rename_i q
    have hne := i_of_ne (rfl : ci.toInt = _) hn q
    have := own_skip_range (g := k) hci.1 (show ci.toInt ≤ 2 by omega) (by omega)
    rw [hcl]; omega
theorem own_len {n adds cl : Int32} {nn t : Nat} (hn : n.toInt = (nn : Int)) (h3 : nn ≤ 3) (hT : t ≤ 4) (h : (t : Int) = nn + (if adds = 0 then 0 else 1) - (if cl < 0 then 0 else 1)) : Int32.ofNat t = n + (if adds = 0 then (0 : Int32) else 1) - (if cl < 0 then (0 : Int32) else 1) := by
  have e0 : (0 : Int32).toInt = 0 := rfl
  have e1 : (1 : Int32).toInt = 1 := rfl
  refine i_eq (i_ofNat (by omega)) ?_
  rw [h]
  split <;> split <;> (exact i_sub (i_add hn (by assumption) (by omega) (by omega)) (by assumption) (by omega) (by omega))
theorem d0_0 : Dc code 0 (.iload_n 0) 1 1 := ⟨at_0, rfl⟩
theorem d0_1 : Dc code 1 (.ldc 7) 2 3 := ⟨at_1, rfl⟩
theorem w_0 {a0 : Array Value} {Z : State} (H : Wd a0 Z) : (Jvm.Cond.constant "com/example/baseload/baseload/solve/MoveBoundAfterPinLaw" (7 : Nat) (536870911 : Int32)).before a0 Z = true := H _ (List.mem_of_getElem? (i := 0) rfl)
theorem d0_3 : Dc code 3 (.iand) 1 4 := ⟨at_3, rfl⟩
theorem d0_4 : Dc code 4 (.istore 6) 2 6 := ⟨at_4, rfl⟩
theorem d0_6 : Dc code 6 (.iload 6) 2 8 := ⟨at_6, rfl⟩
theorem d0_8 : Dc code 8 (.iconst 1) 1 9 := ⟨at_8, rfl⟩
theorem d0_9 : Dc code 9 (.iadd) 1 10 := ⟨at_9, rfl⟩
theorem d0_10 : Dc code 10 (.iload_n 1) 1 11 := ⟨at_10, rfl⟩
theorem d0_11 : Dc code 11 (.ldc 7) 2 13 := ⟨at_11, rfl⟩
theorem d0_13 : Dc code 13 (.iand) 1 14 := ⟨at_13, rfl⟩
theorem d0_14 : Dc code 14 (.iadd) 1 15 := ⟨at_14, rfl⟩
theorem d0_15 : Dc code 15 (.istore 7) 2 17 := ⟨at_15, rfl⟩
theorem d0_17 : Dc code 17 (.iload 7) 2 19 := ⟨at_17, rfl⟩
theorem d0_19 : Dc code 19 (.iconst 1) 1 20 := ⟨at_19, rfl⟩
theorem d0_20 : Dc code 20 (.iadd) 1 21 := ⟨at_20, rfl⟩
theorem d0_21 : Dc code 21 (.iload_n 2) 1 22 := ⟨at_21, rfl⟩
theorem d0_22 : Dc code 22 (.ldc 7) 2 24 := ⟨at_22, rfl⟩
theorem d0_24 : Dc code 24 (.iand) 1 25 := ⟨at_24, rfl⟩
theorem d0_25 : Dc code 25 (.iadd) 1 26 := ⟨at_25, rfl⟩
theorem d0_26 : Dc code 26 (.istore 8) 2 28 := ⟨at_26, rfl⟩
theorem d0_28 : Dc code 28 (.iload 8) 2 30 := ⟨at_28, rfl⟩
theorem d0_30 : Dc code 30 (.iconst 1) 1 31 := ⟨at_30, rfl⟩
theorem d0_31 : Dc code 31 (.iadd) 1 32 := ⟨at_31, rfl⟩
theorem d0_32 : Dc code 32 (.iload_n 3) 1 33 := ⟨at_32, rfl⟩
theorem d0_33 : Dc code 33 (.ldc 7) 2 35 := ⟨at_33, rfl⟩
theorem d0_35 : Dc code 35 (.iand) 1 36 := ⟨at_35, rfl⟩
theorem d0_36 : Dc code 36 (.iadd) 1 37 := ⟨at_36, rfl⟩
theorem d0_37 : Dc code 37 (.istore 9) 2 39 := ⟨at_37, rfl⟩
theorem d0_39 : Dc code 39 (.iconst 4) 1 40 := ⟨at_39, rfl⟩
theorem d0_40 : Dc code 40 (.newarray .int) 2 42 := ⟨at_40, rfl⟩
theorem d0_42 : Dc code 42 (.dup) 1 43 := ⟨at_42, rfl⟩
theorem d0_43 : Dc code 43 (.iconst 0) 1 44 := ⟨at_43, rfl⟩
theorem d0_44 : Dc code 44 (.iload 6) 2 46 := ⟨at_44, rfl⟩
theorem d0_46 : Dc code 46 (.iastore) 1 47 := ⟨at_46, rfl⟩
theorem d0_47 : Dc code 47 (.dup) 1 48 := ⟨at_47, rfl⟩
theorem d0_48 : Dc code 48 (.iconst 1) 1 49 := ⟨at_48, rfl⟩
theorem d0_49 : Dc code 49 (.iload 7) 2 51 := ⟨at_49, rfl⟩
theorem d0_51 : Dc code 51 (.iastore) 1 52 := ⟨at_51, rfl⟩
theorem d0_52 : Dc code 52 (.dup) 1 53 := ⟨at_52, rfl⟩
theorem d0_53 : Dc code 53 (.iconst 2) 1 54 := ⟨at_53, rfl⟩
theorem d0_54 : Dc code 54 (.iload 8) 2 56 := ⟨at_54, rfl⟩
theorem d0_56 : Dc code 56 (.iastore) 1 57 := ⟨at_56, rfl⟩
theorem d0_57 : Dc code 57 (.dup) 1 58 := ⟨at_57, rfl⟩
theorem d0_58 : Dc code 58 (.iconst 3) 1 59 := ⟨at_58, rfl⟩
theorem d0_59 : Dc code 59 (.iload 9) 2 61 := ⟨at_59, rfl⟩
theorem d0_61 : Dc code 61 (.iastore) 1 62 := ⟨at_61, rfl⟩
theorem d0_62 : Dc code 62 (.astore 10) 2 64 := ⟨at_62, rfl⟩
theorem d0_64 : Dc code 64 (.iload 4) 2 66 := ⟨at_64, rfl⟩
theorem d0_66 : Dc code 66 (.iconst 3) 1 67 := ⟨at_66, rfl⟩
theorem d0_67 : Dc code 67 (.iand) 1 68 := ⟨at_67, rfl⟩
theorem d0_68 : Dc code 68 (.istore 11) 2 70 := ⟨at_68, rfl⟩
theorem d0_70 : Dc code 70 (.iload 4) 2 72 := ⟨at_70, rfl⟩
theorem d0_72 : Dc code 72 (.iconst 2) 1 73 := ⟨at_72, rfl⟩
theorem d0_73 : Dc code 73 (.iushr) 1 74 := ⟨at_73, rfl⟩
theorem d0_74 : Dc code 74 (.iconst 1) 1 75 := ⟨at_74, rfl⟩
theorem d0_75 : Dc code 75 (.iand) 1 76 := ⟨at_75, rfl⟩
theorem d0_76 : Db code 76 (.ifCond .eq 7) 7 79 83 := ⟨at_76, rfl, rfl⟩
theorem d0_84 : Dc code 84 (.istore 12) 2 86 := ⟨at_84, rfl⟩
theorem d0_86 : Dc code 86 (.iload 12) 2 88 := ⟨at_86, rfl⟩
theorem d0_88 : Db code 88 (.ifCond .eq 18) 18 91 106 := ⟨at_88, rfl, rfl⟩
theorem d0_107 : Dc code 107 (.istore 13) 2 109 := ⟨at_107, rfl⟩
theorem d0_109 : Dc code 109 (.aload 10) 2 111 := ⟨at_109, rfl⟩
theorem d0_111 : Dc code 111 (.iconst 0) 1 112 := ⟨at_111, rfl⟩
theorem d0_112 : Dc code 112 (.iload 13) 2 114 := ⟨at_112, rfl⟩
theorem d0_114 : Dc code 114 (.invokestatic 9) 3 117 := ⟨at_114, rfl⟩
theorem d0_117 : Dc code 117 (.iaload) 1 118 := ⟨at_117, rfl⟩
theorem d0_118 : Dc code 118 (.istore 14) 2 120 := ⟨at_118, rfl⟩
theorem d0_120 : Dc code 120 (.aload 10) 2 122 := ⟨at_120, rfl⟩
theorem d0_122 : Dc code 122 (.iconst 1) 1 123 := ⟨at_122, rfl⟩
theorem d0_123 : Dc code 123 (.iload 13) 2 125 := ⟨at_123, rfl⟩
theorem d0_125 : Dc code 125 (.invokestatic 9) 3 128 := ⟨at_125, rfl⟩
theorem d0_128 : Dc code 128 (.iaload) 1 129 := ⟨at_128, rfl⟩
theorem d0_129 : Dc code 129 (.istore 15) 2 131 := ⟨at_129, rfl⟩
theorem d0_131 : Dc code 131 (.aload 10) 2 133 := ⟨at_131, rfl⟩
theorem d0_133 : Dc code 133 (.iconst 2) 1 134 := ⟨at_133, rfl⟩
theorem d0_134 : Dc code 134 (.iload 13) 2 136 := ⟨at_134, rfl⟩
theorem d0_136 : Dc code 136 (.invokestatic 9) 3 139 := ⟨at_136, rfl⟩
theorem d0_139 : Dc code 139 (.iaload) 1 140 := ⟨at_139, rfl⟩
theorem d0_140 : Dc code 140 (.istore 16) 2 142 := ⟨at_140, rfl⟩
theorem d0_142 : Dc code 142 (.iload 11) 2 144 := ⟨at_142, rfl⟩
theorem d0_144 : Db code 144 (.ifCond .ne 9) 9 147 153 := ⟨at_144, rfl, rfl⟩
theorem d0_210 : Dc code 210 (.astore 17) 2 212 := ⟨at_210, rfl⟩
theorem d0_212 : Dc code 212 (.iload 12) 2 214 := ⟨at_212, rfl⟩
theorem d0_214 : Db code 214 (.ifCond .eq 11) 11 217 225 := ⟨at_214, rfl, rfl⟩
theorem d0_226 : Dc code 226 (.istore 18) 2 228 := ⟨at_226, rfl⟩
theorem d0_228 : Dc code 228 (.iload 5) 2 230 := ⟨at_228, rfl⟩
theorem d0_230 : Dc code 230 (.ldc 8) 2 232 := ⟨at_230, rfl⟩
theorem w_6 {a0 : Array Value} {Z : State} (H : Wd a0 Z) : (Jvm.Cond.constant "com/example/baseload/baseload/solve/MoveBoundAfterPinLaw" (8 : Nat) (2147483647 : Int32)).before a0 Z = true := H _ (List.mem_of_getElem? (i := 6) rfl)
theorem d0_232 : Dc code 232 (.iand) 1 233 := ⟨at_232, rfl⟩
theorem d0_233 : Dc code 233 (.iload 11) 2 235 := ⟨at_233, rfl⟩
theorem d0_235 : Dc code 235 (.iconst 1) 1 236 := ⟨at_235, rfl⟩
theorem d0_236 : Dc code 236 (.iadd) 1 237 := ⟨at_236, rfl⟩
theorem d0_237 : Dc code 237 (.irem) 1 238 := ⟨at_237, rfl⟩
theorem d0_238 : Dc code 238 (.istore 19) 2 240 := ⟨at_238, rfl⟩
theorem d0_240 : Dc code 240 (.iload 19) 2 242 := ⟨at_240, rfl⟩
theorem d0_242 : Dc code 242 (.iload 11) 2 244 := ⟨at_242, rfl⟩
theorem d0_244 : Db code 244 (.if_icmp .ne 7) 7 247 251 := ⟨at_244, rfl, rfl⟩
theorem d0_258 : Dc code 258 (.istore 20) 2 260 := ⟨at_258, rfl⟩
theorem d0_260 : Dc code 260 (.iload 20) 2 262 := ⟨at_260, rfl⟩
theorem d0_262 : Db code 262 (.ifCond .lt 11) 11 265 273 := ⟨at_262, rfl, rfl⟩
theorem d0_274 : Dc code 274 (.istore 21) 2 276 := ⟨at_274, rfl⟩
theorem d0_276 : Dc code 276 (.aload 17) 2 278 := ⟨at_276, rfl⟩
theorem d0_278 : Dc code 278 (.iload 21) 2 280 := ⟨at_278, rfl⟩
theorem d0_280 : Dc code 280 (.iload 18) 2 282 := ⟨at_280, rfl⟩
theorem d0_282 : Dc code 282 (.invokestatic 17) 3 285 := ⟨at_282, rfl⟩
theorem w_10 {a0 : Array Value} {Z : State} (H : Wd a0 Z) : (Jvm.Cond.code ({ cls := "com/example/baseload/baseload/solve/MoveBound", name := "after", desc := "([III)[I" } : Jvm.MethodName) prog_47_method_3_code (10 : Nat) (Option.some (Jvm.ClassFile.FieldType.array Jvm.ClassFile.FieldType.int))).before a0 Z = true := H _ (List.mem_of_getElem? (i := 10) rfl)
theorem w_9 {a0 : Array Value} {Z : State} (H : Wd a0 Z) : (Jvm.Cond.initialized "com/example/baseload/baseload/solve/MoveBound").before a0 Z = true := H _ (List.mem_of_getElem? (i := 9) rfl)
theorem pd_1 : parseMethodDescriptor "([III)[I" = some ⟨[(.array .int), .int, .int], some (.array .int)⟩ := by decide +kernel
theorem w_7 {a0 : Array Value} {Z : State} (H : Wd a0 Z) : (Jvm.Cond.methodLink "com/example/baseload/baseload/solve/MoveBoundAfterPinLaw" (17 : Nat) ({ cls := "com/example/baseload/baseload/solve/MoveBound", name := "after", desc := "([III)[I" } : Jvm.MethodName)).before a0 Z = true := H _ (List.mem_of_getElem? (i := 7) rfl)
theorem w_8 {a0 : Array Value} {Z : State} (H : Wd a0 Z) : (Jvm.Cond.static ({ cls := "com/example/baseload/baseload/solve/MoveBound", name := "after", desc := "([III)[I" } : Jvm.MethodName)).before a0 Z = true := H _ (List.mem_of_getElem? (i := 8) rfl)
theorem d0_285 : Dc code 285 (.astore 22) 2 287 := ⟨at_285, rfl⟩
theorem d0_287 : Dc code 287 (.iload 11) 2 289 := ⟨at_287, rfl⟩
theorem d0_289 : Dc code 289 (.iload 12) 2 291 := ⟨at_289, rfl⟩
theorem d0_291 : Db code 291 (.ifCond .eq 7) 7 294 298 := ⟨at_291, rfl, rfl⟩
theorem d0_299 : Dc code 299 (.iadd) 1 300 := ⟨at_299, rfl⟩
theorem d0_300 : Dc code 300 (.iload 20) 2 302 := ⟨at_300, rfl⟩
theorem d0_302 : Db code 302 (.ifCond .lt 7) 7 305 309 := ⟨at_302, rfl, rfl⟩
theorem d0_310 : Dc code 310 (.isub) 1 311 := ⟨at_310, rfl⟩
theorem d0_311 : Dc code 311 (.istore 23) 2 313 := ⟨at_311, rfl⟩
theorem d0_313 : Dc code 313 (.aload 22) 2 315 := ⟨at_313, rfl⟩
theorem d0_315 : Dc code 315 (.arraylength) 1 316 := ⟨at_315, rfl⟩
theorem d0_316 : Dc code 316 (.iload 23) 2 318 := ⟨at_316, rfl⟩
theorem d0_318 : Db code 318 (.if_icmp .ne 59) 59 321 377 := ⟨at_318, rfl, rfl⟩
theorem d0_321 : Dc code 321 (.aload 22) 2 323 := ⟨at_321, rfl⟩
theorem d0_323 : Dc code 323 (.iconst 0) 1 324 := ⟨at_323, rfl⟩
theorem d0_324 : Dc code 324 (.aload 10) 2 326 := ⟨at_324, rfl⟩
theorem d0_326 : Dc code 326 (.iload 20) 2 328 := ⟨at_326, rfl⟩
theorem d0_328 : Dc code 328 (.invokestatic 21) 3 331 := ⟨at_328, rfl⟩
theorem w_13 {a0 : Array Value} {Z : State} (H : Wd a0 Z) : (Jvm.Cond.code ({ cls := "com/example/baseload/baseload/solve/MoveBoundAfterPinLaw", name := "at", desc := "([II[II)Z" } : Jvm.MethodName) method_4_code (4 : Nat) (Option.some Jvm.ClassFile.FieldType.boolean)).before a0 Z = true := H _ (List.mem_of_getElem? (i := 13) rfl)
theorem pd_2 : parseMethodDescriptor "([II[II)Z" = some ⟨[(.array .int), .int, (.array .int), .int], some .boolean⟩ := by decide +kernel
theorem w_11 {a0 : Array Value} {Z : State} (H : Wd a0 Z) : (Jvm.Cond.methodLink "com/example/baseload/baseload/solve/MoveBoundAfterPinLaw" (21 : Nat) ({ cls := "com/example/baseload/baseload/solve/MoveBoundAfterPinLaw", name := "at", desc := "([II[II)Z" } : Jvm.MethodName)).before a0 Z = true := H _ (List.mem_of_getElem? (i := 11) rfl)
theorem w_12 {a0 : Array Value} {Z : State} (H : Wd a0 Z) : (Jvm.Cond.static ({ cls := "com/example/baseload/baseload/solve/MoveBoundAfterPinLaw", name := "at", desc := "([II[II)Z" } : Jvm.MethodName)).before a0 Z = true := H _ (List.mem_of_getElem? (i := 12) rfl)
theorem d0_331 : Db code 331 (.ifCond .eq 46) 46 334 377 := ⟨at_331, rfl, rfl⟩
theorem d0_334 : Dc code 334 (.aload 22) 2 336 := ⟨at_334, rfl⟩
theorem d0_336 : Dc code 336 (.iconst 1) 1 337 := ⟨at_336, rfl⟩
theorem d0_337 : Dc code 337 (.aload 10) 2 339 := ⟨at_337, rfl⟩
theorem d0_339 : Dc code 339 (.iload 20) 2 341 := ⟨at_339, rfl⟩
theorem d0_341 : Dc code 341 (.invokestatic 21) 3 344 := ⟨at_341, rfl⟩
theorem d0_344 : Db code 344 (.ifCond .eq 33) 33 347 377 := ⟨at_344, rfl, rfl⟩
theorem d0_347 : Dc code 347 (.aload 22) 2 349 := ⟨at_347, rfl⟩
theorem d0_349 : Dc code 349 (.iconst 2) 1 350 := ⟨at_349, rfl⟩
theorem d0_350 : Dc code 350 (.aload 10) 2 352 := ⟨at_350, rfl⟩
theorem d0_352 : Dc code 352 (.iload 20) 2 354 := ⟨at_352, rfl⟩
theorem d0_354 : Dc code 354 (.invokestatic 21) 3 357 := ⟨at_354, rfl⟩
theorem d0_357 : Db code 357 (.ifCond .eq 20) 20 360 377 := ⟨at_357, rfl, rfl⟩
theorem d0_360 : Dc code 360 (.aload 22) 2 362 := ⟨at_360, rfl⟩
theorem d0_362 : Dc code 362 (.iconst 3) 1 363 := ⟨at_362, rfl⟩
theorem d0_363 : Dc code 363 (.aload 10) 2 365 := ⟨at_363, rfl⟩
theorem d0_365 : Dc code 365 (.iload 20) 2 367 := ⟨at_365, rfl⟩
theorem d0_367 : Dc code 367 (.invokestatic 21) 3 370 := ⟨at_367, rfl⟩
theorem d0_370 : Db code 370 (.ifCond .eq 7) 7 373 377 := ⟨at_370, rfl, rfl⟩
theorem d0_373 : Dc code 373 (.iconst 1) 1 374 := ⟨at_373, rfl⟩
theorem d0_374 : Db code 374 (.goto 4) 4 377 378 := ⟨at_374, rfl, rfl⟩
theorem d0_378 : Dc code 378 (.ireturn) 1 379 := ⟨at_378, rfl⟩
theorem d0_309 : Dc code 309 (.iconst 0) 1 310 := ⟨at_309, rfl⟩
theorem d0_305 : Dc code 305 (.iconst 1) 1 306 := ⟨at_305, rfl⟩
theorem d0_306 : Db code 306 (.goto 4) 4 309 310 := ⟨at_306, rfl, rfl⟩
theorem d0_298 : Dc code 298 (.iconst 0) 1 299 := ⟨at_298, rfl⟩
theorem d0_294 : Dc code 294 (.iconst 1) 1 295 := ⟨at_294, rfl⟩
theorem d0_295 : Db code 295 (.goto 4) 4 298 299 := ⟨at_295, rfl, rfl⟩
theorem d0_273 : Dc code 273 (.iconst (-1)) 1 274 := ⟨at_273, rfl⟩
theorem d0_265 : Dc code 265 (.aload 10) 2 267 := ⟨at_265, rfl⟩
theorem d0_267 : Dc code 267 (.iload 20) 2 269 := ⟨at_267, rfl⟩
theorem d0_269 : Dc code 269 (.iaload) 1 270 := ⟨at_269, rfl⟩
theorem d0_270 : Db code 270 (.goto 4) 4 273 274 := ⟨at_270, rfl, rfl⟩
theorem d0_251 : Dc code 251 (.iload 19) 2 253 := ⟨at_251, rfl⟩
theorem d0_253 : Dc code 253 (.iload 13) 2 255 := ⟨at_253, rfl⟩
theorem d0_255 : Dc code 255 (.invokestatic 9) 3 258 := ⟨at_255, rfl⟩
theorem d0_247 : Dc code 247 (.iconst (-1)) 1 248 := ⟨at_247, rfl⟩
theorem d0_248 : Db code 248 (.goto 10) 10 251 258 := ⟨at_248, rfl, rfl⟩
theorem d0_225 : Dc code 225 (.iconst (-1)) 1 226 := ⟨at_225, rfl⟩
theorem d0_217 : Dc code 217 (.aload 10) 2 219 := ⟨at_217, rfl⟩
theorem d0_219 : Dc code 219 (.iload 13) 2 221 := ⟨at_219, rfl⟩
theorem d0_221 : Dc code 221 (.iaload) 1 222 := ⟨at_221, rfl⟩
theorem d0_222 : Db code 222 (.goto 4) 4 225 226 := ⟨at_222, rfl, rfl⟩
theorem d0_153 : Dc code 153 (.iload 11) 2 155 := ⟨at_153, rfl⟩
theorem d0_155 : Dc code 155 (.iconst 1) 1 156 := ⟨at_155, rfl⟩
theorem d0_156 : Db code 156 (.if_icmp .ne 14) 14 159 170 := ⟨at_156, rfl, rfl⟩
theorem d0_170 : Dc code 170 (.iload 11) 2 172 := ⟨at_170, rfl⟩
theorem d0_172 : Dc code 172 (.iconst 2) 1 173 := ⟨at_172, rfl⟩
theorem d0_173 : Db code 173 (.if_icmp .ne 19) 19 176 192 := ⟨at_173, rfl, rfl⟩
theorem d0_192 : Dc code 192 (.iconst 3) 1 193 := ⟨at_192, rfl⟩
theorem d0_193 : Dc code 193 (.newarray .int) 2 195 := ⟨at_193, rfl⟩
theorem d0_195 : Dc code 195 (.dup) 1 196 := ⟨at_195, rfl⟩
theorem d0_196 : Dc code 196 (.iconst 0) 1 197 := ⟨at_196, rfl⟩
theorem d0_197 : Dc code 197 (.iload 14) 2 199 := ⟨at_197, rfl⟩
theorem d0_199 : Dc code 199 (.iastore) 1 200 := ⟨at_199, rfl⟩
theorem d0_200 : Dc code 200 (.dup) 1 201 := ⟨at_200, rfl⟩
theorem d0_201 : Dc code 201 (.iconst 1) 1 202 := ⟨at_201, rfl⟩
theorem d0_202 : Dc code 202 (.iload 15) 2 204 := ⟨at_202, rfl⟩
theorem d0_204 : Dc code 204 (.iastore) 1 205 := ⟨at_204, rfl⟩
theorem d0_205 : Dc code 205 (.dup) 1 206 := ⟨at_205, rfl⟩
theorem d0_206 : Dc code 206 (.iconst 2) 1 207 := ⟨at_206, rfl⟩
theorem d0_207 : Dc code 207 (.iload 16) 2 209 := ⟨at_207, rfl⟩
theorem d0_209 : Dc code 209 (.iastore) 1 210 := ⟨at_209, rfl⟩
theorem d0_176 : Dc code 176 (.iconst 2) 1 177 := ⟨at_176, rfl⟩
theorem d0_177 : Dc code 177 (.newarray .int) 2 179 := ⟨at_177, rfl⟩
theorem d0_179 : Dc code 179 (.dup) 1 180 := ⟨at_179, rfl⟩
theorem d0_180 : Dc code 180 (.iconst 0) 1 181 := ⟨at_180, rfl⟩
theorem d0_181 : Dc code 181 (.iload 14) 2 183 := ⟨at_181, rfl⟩
theorem d0_183 : Dc code 183 (.iastore) 1 184 := ⟨at_183, rfl⟩
theorem d0_184 : Dc code 184 (.dup) 1 185 := ⟨at_184, rfl⟩
theorem d0_185 : Dc code 185 (.iconst 1) 1 186 := ⟨at_185, rfl⟩
theorem d0_186 : Dc code 186 (.iload 15) 2 188 := ⟨at_186, rfl⟩
theorem d0_188 : Dc code 188 (.iastore) 1 189 := ⟨at_188, rfl⟩
theorem d0_189 : Db code 189 (.goto 21) 21 192 210 := ⟨at_189, rfl, rfl⟩
theorem d0_159 : Dc code 159 (.iconst 1) 1 160 := ⟨at_159, rfl⟩
theorem d0_160 : Dc code 160 (.newarray .int) 2 162 := ⟨at_160, rfl⟩
theorem d0_162 : Dc code 162 (.dup) 1 163 := ⟨at_162, rfl⟩
theorem d0_163 : Dc code 163 (.iconst 0) 1 164 := ⟨at_163, rfl⟩
theorem d0_164 : Dc code 164 (.iload 14) 2 166 := ⟨at_164, rfl⟩
theorem d0_166 : Dc code 166 (.iastore) 1 167 := ⟨at_166, rfl⟩
theorem d0_167 : Db code 167 (.goto 43) 43 170 210 := ⟨at_167, rfl, rfl⟩
theorem d0_147 : Dc code 147 (.iconst 0) 1 148 := ⟨at_147, rfl⟩
theorem d0_148 : Dc code 148 (.newarray .int) 2 150 := ⟨at_148, rfl⟩
theorem d0_150 : Db code 150 (.goto 60) 60 153 210 := ⟨at_150, rfl, rfl⟩
theorem d0_106 : Dc code 106 (.iconst (-1)) 1 107 := ⟨at_106, rfl⟩
theorem d0_91 : Dc code 91 (.iload 4) 2 93 := ⟨at_91, rfl⟩
theorem d0_93 : Dc code 93 (.iconst 3) 1 94 := ⟨at_93, rfl⟩
theorem d0_94 : Dc code 94 (.iushr) 1 95 := ⟨at_94, rfl⟩
theorem d0_95 : Dc code 95 (.ldc 8) 2 97 := ⟨at_95, rfl⟩
theorem d0_97 : Dc code 97 (.iand) 1 98 := ⟨at_97, rfl⟩
theorem d0_98 : Dc code 98 (.iload 11) 2 100 := ⟨at_98, rfl⟩
theorem d0_100 : Dc code 100 (.iconst 1) 1 101 := ⟨at_100, rfl⟩
theorem d0_101 : Dc code 101 (.iadd) 1 102 := ⟨at_101, rfl⟩
theorem d0_102 : Dc code 102 (.irem) 1 103 := ⟨at_102, rfl⟩
theorem d0_103 : Db code 103 (.goto 4) 4 106 107 := ⟨at_103, rfl, rfl⟩
theorem d0_83 : Dc code 83 (.iconst 0) 1 84 := ⟨at_83, rfl⟩
theorem d0_79 : Dc code 79 (.iconst 1) 1 80 := ⟨at_79, rfl⟩
theorem d0_80 : Db code 80 (.goto 4) 4 83 84 := ⟨at_80, rfl, rfl⟩
set_option maxRecDepth 65536 in
set_option maxHeartbeats 40000000 in
theorem rm0 {l : Launch} {Z : State} {a0 : Array Value} {n0 : Nat} (H : Wd a0 Z) (p0 p1 p2 p3 p4 p5 : Int32) (h0 : Heap) (Z0 : n0 ≤ h0.size) :
    Ct l Z n0 x code maxLocals ret tables_1 room_1 #[(.int p0), (.int p1), (.int p2), (.int p3), (.int p4), (.int p5)] h0 (fun v h => v = some (.int 1)) := by
  refine Ct.of (a0 := a0) (L0 := #[.val (.int p0), .val (.int p1), .val (.int p2), .val (.int p3), .val (.int p4), .val (.int p5), .unset, .unset, .unset, .unset, .unset, .unset, .unset, .unset, .unset, .unset, .unset, .unset, .unset, .unset, .unset, .unset, .unset, .unset]) (plainFor_of_name pn_com_example_baseload_baseload_solve_MoveBoundAfterPinLaw) (fun m => by first | (simp [entryFrame, mkF, argsToLocals, Value.category, maxLocals]; done) | rfl) ?_
  intro κ B0
  have B : Ok κ l Z a0 n0 room_1 "com/example/baseload/baseload/solve/MoveBoundAfterPinLaw" "law" code maxLocals ret := B0
  obtain ⟨v0, e0⟩ : ∃ z, z = p0 &&& (536870911 : Int32) := ⟨_, rfl⟩
  obtain ⟨v1, e1⟩ : ∃ z, z = v0 + (1 : Int32) + (p1 &&& (536870911 : Int32)) := ⟨_, rfl⟩
  obtain ⟨v2, e2⟩ : ∃ z, z = v1 + (1 : Int32) + (p2 &&& (536870911 : Int32)) := ⟨_, rfl⟩
  obtain ⟨v3, e3⟩ : ∃ z, z = v2 + (1 : Int32) + (p3 &&& (536870911 : Int32)) := ⟨_, rfl⟩
  have one : (1 : Int32).toInt = 1 := rfl
  have m0 := i_and p0 536870911 (by decide)
  have m1 := i_and p1 536870911 (by decide)
  have m2 := i_and p2 536870911 (by decide)
  have m3 := i_and p3 536870911 (by decide)
  rw [show (536870911 : Int32).toInt = 536870911 from rfl] at m0 m1 m2 m3
  rw [← e0] at m0
  have f1 : v1.toInt = v0.toInt + 1 + (p1 &&& (536870911 : Int32)).toInt := by rw [e1]; exact i_add (i_add rfl one (by omega) (by omega)) rfl (by omega) (by omega)
  have f2 : v2.toInt = v1.toInt + 1 + (p2 &&& (536870911 : Int32)).toInt := by rw [e2]; exact i_add (i_add rfl one (by omega) (by omega)) rfl (by omega) (by omega)
  have f3 : v3.toInt = v2.toInt + 1 + (p3 &&& (536870911 : Int32)).toInt := by rw [e3]; exact i_add (i_add rfl one (by omega) (by omega)) rfl (by omega) (by omega)
  have o01 : v0 < v1 := i_lt rfl rfl (by omega)
  have o12 : v1 < v2 := i_lt rfl rfl (by omega)
  have o23 : v2 < v3 := i_lt rfl rfl (by omega)
  obtain ⟨n, en⟩ : ∃ z, z = p4 &&& (3 : Int32) := ⟨_, rfl⟩
  have mn := i_and p4 3 (by decide)
  rw [← en, show (3 : Int32).toInt = 3 from rfl] at mn
  obtain ⟨nn, hn, -⟩ := i_nat mn.1
  have h3 : nn ≤ 3 := by omega
  obtain ⟨ci, eci⟩ : ∃ z, z = (p5 &&& (2147483647 : Int32)) % (n + (1 : Int32)) := ⟨_, rfl⟩
  have hci := own_rem_range p5 hn h3
  rw [← eci] at hci
  have hnz : n + (1 : Int32) ≠ 0 := i_ne (i_add hn one (by omega) (by omega)) (show (0 : Int32).toInt = 0 from rfl) (by omega)
  refine go_iload_n B d0_0 rfl ?_
  refine go_ldcI B d0_1 (w_0 H) ?_
  refine go_iand B d0_3 ?_
  rw [show (p0 &&& (536870911 : Int32)) = v0 from e0.symm]
  refine go_istore B #[.val (.int p0), .val (.int p1), .val (.int p2), .val (.int p3), .val (.int p4), .val (.int p5), .val (.int v0), .unset, .unset, .unset, .unset, .unset, .unset, .unset, .unset, .unset, .unset, .unset, .unset, .unset, .unset, .unset, .unset, .unset] d0_4 rfl ?_
  refine go_iload B d0_6 rfl ?_
  refine go_iconst B (x := (1 : Int32)) d0_8 rfl ?_
  refine go_iadd B d0_9 ?_
  refine go_iload_n B d0_10 rfl ?_
  refine go_ldcI B d0_11 (w_0 H) ?_
  refine go_iand B d0_13 ?_
  refine go_iadd B d0_14 ?_
  rw [show ((v0 + (1 : Int32)) + (p1 &&& (536870911 : Int32))) = v1 from e1.symm]
  refine go_istore B #[.val (.int p0), .val (.int p1), .val (.int p2), .val (.int p3), .val (.int p4), .val (.int p5), .val (.int v0), .val (.int v1), .unset, .unset, .unset, .unset, .unset, .unset, .unset, .unset, .unset, .unset, .unset, .unset, .unset, .unset, .unset, .unset] d0_15 rfl ?_
  refine go_iload B d0_17 rfl ?_
  refine go_iconst B (x := (1 : Int32)) d0_19 rfl ?_
  refine go_iadd B d0_20 ?_
  refine go_iload_n B d0_21 rfl ?_
  refine go_ldcI B d0_22 (w_0 H) ?_
  refine go_iand B d0_24 ?_
  refine go_iadd B d0_25 ?_
  rw [show ((v1 + (1 : Int32)) + (p2 &&& (536870911 : Int32))) = v2 from e2.symm]
  refine go_istore B #[.val (.int p0), .val (.int p1), .val (.int p2), .val (.int p3), .val (.int p4), .val (.int p5), .val (.int v0), .val (.int v1), .val (.int v2), .unset, .unset, .unset, .unset, .unset, .unset, .unset, .unset, .unset, .unset, .unset, .unset, .unset, .unset, .unset] d0_26 rfl ?_
  refine go_iload B d0_28 rfl ?_
  refine go_iconst B (x := (1 : Int32)) d0_30 rfl ?_
  refine go_iadd B d0_31 ?_
  refine go_iload_n B d0_32 rfl ?_
  refine go_ldcI B d0_33 (w_0 H) ?_
  refine go_iand B d0_35 ?_
  refine go_iadd B d0_36 ?_
  rw [show ((v2 + (1 : Int32)) + (p3 &&& (536870911 : Int32))) = v3 from e3.symm]
  refine go_istore B #[.val (.int p0), .val (.int p1), .val (.int p2), .val (.int p3), .val (.int p4), .val (.int p5), .val (.int v0), .val (.int v1), .val (.int v2), .val (.int v3), .unset, .unset, .unset, .unset, .unset, .unset, .unset, .unset, .unset, .unset, .unset, .unset, .unset, .unset] d0_37 rfl ?_
  refine go_iconst B (x := (4 : Int32)) d0_39 rfl ?_
  refine go_newarray B (i := 4) (cap := 4) d0_40 (w_1 H) rfl (Nat.le_refl _) (by decide) (by decide) (by decide) ?_
  intro h36 a37 hba37 Ea37 Aa37 Ca37
  have ge_a37 : n0 ≤ a37 := by have q1 := Z0; omega
  have Ba37 : AV Z h36 a37 .int [(.int (0 : Int32)), (.int (0 : Int32)), (.int (0 : Int32)), (.int (0 : Int32))] := Aa37
  refine go_dup B d0_42 rfl ?_
  refine go_iconst B (x := (0 : Int32)) d0_43 rfl ?_
  refine go_iload B d0_44 rfl ?_
  refine go_iastore B (i := 0) d0_46 Ba37 rfl (show 0 < 4 from by decide) ge_a37 ?_
  intro h38 W39 A40
  have A41 : AV Z h38 a37 .int [(.int v0), (.int (0 : Int32)), (.int (0 : Int32)), (.int (0 : Int32))] := A40
  refine go_dup B d0_47 rfl ?_
  refine go_iconst B (x := (1 : Int32)) d0_48 rfl ?_
  refine go_iload B d0_49 rfl ?_
  refine go_iastore B (i := 1) d0_51 A41 rfl (show 1 < 4 from by decide) ge_a37 ?_
  intro h42 W43 A44
  have A45 : AV Z h42 a37 .int [(.int v0), (.int v1), (.int (0 : Int32)), (.int (0 : Int32))] := A44
  refine go_dup B d0_52 rfl ?_
  refine go_iconst B (x := (2 : Int32)) d0_53 rfl ?_
  refine go_iload B d0_54 rfl ?_
  refine go_iastore B (i := 2) d0_56 A45 rfl (show 2 < 4 from by decide) ge_a37 ?_
  intro h46 W47 A48
  have A49 : AV Z h46 a37 .int [(.int v0), (.int v1), (.int v2), (.int (0 : Int32))] := A48
  refine go_dup B d0_57 rfl ?_
  refine go_iconst B (x := (3 : Int32)) d0_58 rfl ?_
  refine go_iload B d0_59 rfl ?_
  refine go_iastore B (i := 3) d0_61 A49 rfl (show 3 < 4 from by decide) ge_a37 ?_
  intro h50 W51 A52
  have A53 : AV Z h50 a37 .int [(.int v0), (.int v1), (.int v2), (.int v3)] := A52
  refine go_astore B #[.val (.int p0), .val (.int p1), .val (.int p2), .val (.int p3), .val (.int p4), .val (.int p5), .val (.int v0), .val (.int v1), .val (.int v2), .val (.int v3), .val (.ref a37), .unset, .unset, .unset, .unset, .unset, .unset, .unset, .unset, .unset, .unset, .unset, .unset, .unset] d0_62 rfl rfl ?_
  refine go_iload B d0_64 rfl ?_
  refine go_iconst B (x := (3 : Int32)) d0_66 rfl ?_
  refine go_iand B d0_67 ?_
  rw [show (p4 &&& (3 : Int32)) = n from en.symm]
  refine go_istore B #[.val (.int p0), .val (.int p1), .val (.int p2), .val (.int p3), .val (.int p4), .val (.int p5), .val (.int v0), .val (.int v1), .val (.int v2), .val (.int v3), .val (.ref a37), .val (.int n), .unset, .unset, .unset, .unset, .unset, .unset, .unset, .unset, .unset, .unset, .unset, .unset] d0_68 rfl ?_
  refine go_iload B d0_70 rfl ?_
  refine go_iconst B (x := (2 : Int32)) d0_72 rfl ?_
  refine go_iushr B d0_73 ?_
  refine go_iconst B (x := (1 : Int32)) d0_74 rfl ?_
  refine go_iand B d0_75 ?_
  have J55 : ∀ z54 : Int32, (True) → Go κ (fun v h => v = some (.int 1)) h50 (0 + 1) (0 + 4) 84 #[.val (.int p0), .val (.int p1), .val (.int p2), .val (.int p3), .val (.int p4), .val (.int p5), .val (.int v0), .val (.int v1), .val (.int v2), .val (.int v3), .val (.ref a37), .val (.int n), .unset, .unset, .unset, .unset, .unset, .unset, .unset, .unset, .unset, .unset, .unset, .unset] [(.int z54)] := by
    intro z54 hJ55
    refine go_istore B #[.val (.int p0), .val (.int p1), .val (.int p2), .val (.int p3), .val (.int p4), .val (.int p5), .val (.int v0), .val (.int v1), .val (.int v2), .val (.int v3), .val (.ref a37), .val (.int n), .val (.int z54), .unset, .unset, .unset, .unset, .unset, .unset, .unset, .unset, .unset, .unset, .unset] d0_84 rfl ?_
    refine go_iload B d0_86 rfl ?_
    have J57 : ∀ z56 : Int32, ((z54 = 0 ∧ z56 = -1) ∨ (¬ z54 = 0 ∧ 0 ≤ z56.toInt ∧ z56.toInt ≤ nn)) → Go κ (fun v h => v = some (.int 1)) h50 (0 + 1) (0 + 4) 107 #[.val (.int p0), .val (.int p1), .val (.int p2), .val (.int p3), .val (.int p4), .val (.int p5), .val (.int v0), .val (.int v1), .val (.int v2), .val (.int v3), .val (.ref a37), .val (.int n), .val (.int z54), .unset, .unset, .unset, .unset, .unset, .unset, .unset, .unset, .unset, .unset, .unset] [(.int z56)] := by
      intro z56 hJ57
      refine go_istore B #[.val (.int p0), .val (.int p1), .val (.int p2), .val (.int p3), .val (.int p4), .val (.int p5), .val (.int v0), .val (.int v1), .val (.int v2), .val (.int v3), .val (.ref a37), .val (.int n), .val (.int z54), .val (.int z56), .unset, .unset, .unset, .unset, .unset, .unset, .unset, .unset, .unset, .unset] d0_107 rfl ?_
      refine go_aload B d0_109 rfl rfl ?_
      refine go_iconst B (x := (0 : Int32)) d0_111 rfl ?_
      refine go_iload B d0_112 rfl ?_
      have f58 : n0 ≤ h50.size := (Nat.le_trans (Nat.le_trans (Nat.le_trans (Nat.le_trans (Nat.le_trans Z0 Ea37.1) (Nat.le_of_eq (Wr.size W39).symm)) (Nat.le_of_eq (Wr.size W43).symm)) (Nat.le_of_eq (Wr.size W47).symm)) (Nat.le_of_eq (Wr.size W51).symm))
      refine go_static B (W := 1) (argsL := [(.int (0 : Int32)), (.int z56)]) (st := [(.ref a37)]) d0_114 (w_2 H) (w_3 H) (w_4 H) (w_5 H) (by decide) (rmS H (0 : Int32) z56 h50 f58) pd_0 rfl rfl rfl rfl (by decide) (by decide) (by decide) (by decide) ?_
      rintro _ h59 ⟨rfl, rfl⟩
      show Go κ _ h50 _ _ 117 #[.val (.int p0), .val (.int p1), .val (.int p2), .val (.int p3), .val (.int p4), .val (.int p5), .val (.int v0), .val (.int v1), .val (.int v2), .val (.int v3), .val (.ref a37), .val (.int n), .val (.int z54), .val (.int z56), .unset, .unset, .unset, .unset, .unset, .unset, .unset, .unset, .unset, .unset] [(.int (own_skip (0 : Int32) z56)), (.ref a37)]
      refine go_iaload B (i := (own_skip (0 : Int32) z56).toInt.toNat) (v := (.int (own_w v0 v1 v2 v3 (own_skip (0 : Int32) z56)))) d0_117 A53 (by have := (own_skip_range (g := z56) (show 0 ≤ (0 : Int32).toInt by decide) (show (0 : Int32).toInt ≤ 0 by decide) (by omega)); omega) (own_w_at v0 v1 v2 v3 (by have := (own_skip_range (g := z56) (show 0 ≤ (0 : Int32).toInt by decide) (show (0 : Int32).toInt ≤ 0 by decide) (by omega)); omega) (by have := (own_skip_range (g := z56) (show 0 ≤ (0 : Int32).toInt by decide) (show (0 : Int32).toInt ≤ 0 by decide) (by omega)); omega)) ?_
      refine go_istore B #[.val (.int p0), .val (.int p1), .val (.int p2), .val (.int p3), .val (.int p4), .val (.int p5), .val (.int v0), .val (.int v1), .val (.int v2), .val (.int v3), .val (.ref a37), .val (.int n), .val (.int z54), .val (.int z56), .val (.int (own_w v0 v1 v2 v3 (own_skip (0 : Int32) z56))), .unset, .unset, .unset, .unset, .unset, .unset, .unset, .unset, .unset] d0_118 rfl ?_
      refine go_aload B d0_120 rfl rfl ?_
      refine go_iconst B (x := (1 : Int32)) d0_122 rfl ?_
      refine go_iload B d0_123 rfl ?_
      refine go_static B (W := 1) (argsL := [(.int (1 : Int32)), (.int z56)]) (st := [(.ref a37)]) d0_125 (w_2 H) (w_3 H) (w_4 H) (w_5 H) (by decide) (rmS H (1 : Int32) z56 h50 f58) pd_0 rfl rfl rfl rfl (by decide) (by decide) (by decide) (by decide) ?_
      rintro _ h60 ⟨rfl, rfl⟩
      show Go κ _ h50 _ _ 128 #[.val (.int p0), .val (.int p1), .val (.int p2), .val (.int p3), .val (.int p4), .val (.int p5), .val (.int v0), .val (.int v1), .val (.int v2), .val (.int v3), .val (.ref a37), .val (.int n), .val (.int z54), .val (.int z56), .val (.int (own_w v0 v1 v2 v3 (own_skip (0 : Int32) z56))), .unset, .unset, .unset, .unset, .unset, .unset, .unset, .unset, .unset] [(.int (own_skip (1 : Int32) z56)), (.ref a37)]
      refine go_iaload B (i := (own_skip (1 : Int32) z56).toInt.toNat) (v := (.int (own_w v0 v1 v2 v3 (own_skip (1 : Int32) z56)))) d0_128 A53 (by have := (own_skip_range (g := z56) (show 0 ≤ (1 : Int32).toInt by decide) (show (1 : Int32).toInt ≤ 1 by decide) (by omega)); omega) (own_w_at v0 v1 v2 v3 (by have := (own_skip_range (g := z56) (show 0 ≤ (1 : Int32).toInt by decide) (show (1 : Int32).toInt ≤ 1 by decide) (by omega)); omega) (by have := (own_skip_range (g := z56) (show 0 ≤ (1 : Int32).toInt by decide) (show (1 : Int32).toInt ≤ 1 by decide) (by omega)); omega)) ?_
      refine go_istore B #[.val (.int p0), .val (.int p1), .val (.int p2), .val (.int p3), .val (.int p4), .val (.int p5), .val (.int v0), .val (.int v1), .val (.int v2), .val (.int v3), .val (.ref a37), .val (.int n), .val (.int z54), .val (.int z56), .val (.int (own_w v0 v1 v2 v3 (own_skip (0 : Int32) z56))), .val (.int (own_w v0 v1 v2 v3 (own_skip (1 : Int32) z56))), .unset, .unset, .unset, .unset, .unset, .unset, .unset, .unset] d0_129 rfl ?_
      refine go_aload B d0_131 rfl rfl ?_
      refine go_iconst B (x := (2 : Int32)) d0_133 rfl ?_
      refine go_iload B d0_134 rfl ?_
      refine go_static B (W := 1) (argsL := [(.int (2 : Int32)), (.int z56)]) (st := [(.ref a37)]) d0_136 (w_2 H) (w_3 H) (w_4 H) (w_5 H) (by decide) (rmS H (2 : Int32) z56 h50 f58) pd_0 rfl rfl rfl rfl (by decide) (by decide) (by decide) (by decide) ?_
      rintro _ h61 ⟨rfl, rfl⟩
      show Go κ _ h50 _ _ 139 #[.val (.int p0), .val (.int p1), .val (.int p2), .val (.int p3), .val (.int p4), .val (.int p5), .val (.int v0), .val (.int v1), .val (.int v2), .val (.int v3), .val (.ref a37), .val (.int n), .val (.int z54), .val (.int z56), .val (.int (own_w v0 v1 v2 v3 (own_skip (0 : Int32) z56))), .val (.int (own_w v0 v1 v2 v3 (own_skip (1 : Int32) z56))), .unset, .unset, .unset, .unset, .unset, .unset, .unset, .unset] [(.int (own_skip (2 : Int32) z56)), (.ref a37)]
      refine go_iaload B (i := (own_skip (2 : Int32) z56).toInt.toNat) (v := (.int (own_w v0 v1 v2 v3 (own_skip (2 : Int32) z56)))) d0_139 A53 (by have := (own_skip_range (g := z56) (show 0 ≤ (2 : Int32).toInt by decide) (show (2 : Int32).toInt ≤ 2 by decide) (by omega)); omega) (own_w_at v0 v1 v2 v3 (by have := (own_skip_range (g := z56) (show 0 ≤ (2 : Int32).toInt by decide) (show (2 : Int32).toInt ≤ 2 by decide) (by omega)); omega) (by have := (own_skip_range (g := z56) (show 0 ≤ (2 : Int32).toInt by decide) (show (2 : Int32).toInt ≤ 2 by decide) (by omega)); omega)) ?_
      refine go_istore B #[.val (.int p0), .val (.int p1), .val (.int p2), .val (.int p3), .val (.int p4), .val (.int p5), .val (.int v0), .val (.int v1), .val (.int v2), .val (.int v3), .val (.ref a37), .val (.int n), .val (.int z54), .val (.int z56), .val (.int (own_w v0 v1 v2 v3 (own_skip (0 : Int32) z56))), .val (.int (own_w v0 v1 v2 v3 (own_skip (1 : Int32) z56))), .val (.int (own_w v0 v1 v2 v3 (own_skip (2 : Int32) z56))), .unset, .unset, .unset, .unset, .unset, .unset, .unset] d0_140 rfl ?_
      refine go_iload B d0_142 rfl ?_
      have J64 : ∀ h62 : Heap, ∀ z63 : Addr, (AV Z h62 z63 .int (own_v ([(own_w v0 v1 v2 v3 (own_skip (0 : Int32) z56)), (own_w v0 v1 v2 v3 (own_skip (1 : Int32) z56)), (own_w v0 v1 v2 v3 (own_skip (2 : Int32) z56))].take nn)) ∧ h50.size ≤ z63 ∧ Keep h50 h62 []) → Go κ (fun v h => v = some (.int 1)) h62 (0 + 1 + 0 + 0 + 0 + 1) (0 + 4 + 0 + 0 + 0 + 3) 210 #[.val (.int p0), .val (.int p1), .val (.int p2), .val (.int p3), .val (.int p4), .val (.int p5), .val (.int v0), .val (.int v1), .val (.int v2), .val (.int v3), .val (.ref a37), .val (.int n), .val (.int z54), .val (.int z56), .val (.int (own_w v0 v1 v2 v3 (own_skip (0 : Int32) z56))), .val (.int (own_w v0 v1 v2 v3 (own_skip (1 : Int32) z56))), .val (.int (own_w v0 v1 v2 v3 (own_skip (2 : Int32) z56))), .unset, .unset, .unset, .unset, .unset, .unset, .unset] [(.ref z63)] := by
        intro h62 z63 hJ64
        obtain ⟨A65, g66, K67⟩ := hJ64
        have ne_z63_a37 : z63 ≠ a37 := Nat.ne_of_gt (Nat.lt_of_lt_of_le ((Exa.wr W51 (Exa.wr W47 (Exa.wr W43 (Exa.wr W39 Ca37))))).lt (by omega))
        have ge_z63 : n0 ≤ z63 := by have q1 := f58; omega
        refine go_astore B #[.val (.int p0), .val (.int p1), .val (.int p2), .val (.int p3), .val (.int p4), .val (.int p5), .val (.int v0), .val (.int v1), .val (.int v2), .val (.int v3), .val (.ref a37), .val (.int n), .val (.int z54), .val (.int z56), .val (.int (own_w v0 v1 v2 v3 (own_skip (0 : Int32) z56))), .val (.int (own_w v0 v1 v2 v3 (own_skip (1 : Int32) z56))), .val (.int (own_w v0 v1 v2 v3 (own_skip (2 : Int32) z56))), .val (.ref z63), .unset, .unset, .unset, .unset, .unset, .unset] d0_210 rfl rfl ?_
        refine go_iload B d0_212 rfl ?_
        have J69 : ∀ z68 : Int32, (z68 = if z54 = 0 then -1 else (own_w v0 v1 v2 v3 z56)) → Go κ (fun v h => v = some (.int 1)) h62 (0 + 1 + 0 + 0 + 0 + 1) (0 + 4 + 0 + 0 + 0 + 3) 226 #[.val (.int p0), .val (.int p1), .val (.int p2), .val (.int p3), .val (.int p4), .val (.int p5), .val (.int v0), .val (.int v1), .val (.int v2), .val (.int v3), .val (.ref a37), .val (.int n), .val (.int z54), .val (.int z56), .val (.int (own_w v0 v1 v2 v3 (own_skip (0 : Int32) z56))), .val (.int (own_w v0 v1 v2 v3 (own_skip (1 : Int32) z56))), .val (.int (own_w v0 v1 v2 v3 (own_skip (2 : Int32) z56))), .val (.ref z63), .unset, .unset, .unset, .unset, .unset, .unset] [(.int z68)] := by
          intro z68 hJ69
          refine go_istore B #[.val (.int p0), .val (.int p1), .val (.int p2), .val (.int p3), .val (.int p4), .val (.int p5), .val (.int v0), .val (.int v1), .val (.int v2), .val (.int v3), .val (.ref a37), .val (.int n), .val (.int z54), .val (.int z56), .val (.int (own_w v0 v1 v2 v3 (own_skip (0 : Int32) z56))), .val (.int (own_w v0 v1 v2 v3 (own_skip (1 : Int32) z56))), .val (.int (own_w v0 v1 v2 v3 (own_skip (2 : Int32) z56))), .val (.ref z63), .val (.int z68), .unset, .unset, .unset, .unset, .unset] d0_226 rfl ?_
          refine go_iload B d0_228 rfl ?_
          refine go_ldcI B d0_230 (w_6 H) ?_
          refine go_iand B d0_232 ?_
          refine go_iload B d0_233 rfl ?_
          refine go_iconst B (x := (1 : Int32)) d0_235 rfl ?_
          refine go_iadd B d0_236 ?_
          refine go_irem B d0_237 hnz ?_
          rw [show ((p5 &&& (2147483647 : Int32)) % (n + (1 : Int32))) = ci from eci.symm]
          refine go_istore B #[.val (.int p0), .val (.int p1), .val (.int p2), .val (.int p3), .val (.int p4), .val (.int p5), .val (.int v0), .val (.int v1), .val (.int v2), .val (.int v3), .val (.ref a37), .val (.int n), .val (.int z54), .val (.int z56), .val (.int (own_w v0 v1 v2 v3 (own_skip (0 : Int32) z56))), .val (.int (own_w v0 v1 v2 v3 (own_skip (1 : Int32) z56))), .val (.int (own_w v0 v1 v2 v3 (own_skip (2 : Int32) z56))), .val (.ref z63), .val (.int z68), .val (.int ci), .unset, .unset, .unset, .unset] d0_238 rfl ?_
          refine go_iload B d0_240 rfl ?_
          refine go_iload B d0_242 rfl ?_
          have J71 : ∀ z70 : Int32, (z70 = if ci = n then -1 else own_skip ci z56) → Go κ (fun v h => v = some (.int 1)) h62 (0 + 1 + 0 + 0 + 0 + 1) (0 + 4 + 0 + 0 + 0 + 3) 258 #[.val (.int p0), .val (.int p1), .val (.int p2), .val (.int p3), .val (.int p4), .val (.int p5), .val (.int v0), .val (.int v1), .val (.int v2), .val (.int v3), .val (.ref a37), .val (.int n), .val (.int z54), .val (.int z56), .val (.int (own_w v0 v1 v2 v3 (own_skip (0 : Int32) z56))), .val (.int (own_w v0 v1 v2 v3 (own_skip (1 : Int32) z56))), .val (.int (own_w v0 v1 v2 v3 (own_skip (2 : Int32) z56))), .val (.ref z63), .val (.int z68), .val (.int ci), .unset, .unset, .unset, .unset] [(.int z70)] := by
            intro z70 hJ71
            refine go_istore B #[.val (.int p0), .val (.int p1), .val (.int p2), .val (.int p3), .val (.int p4), .val (.int p5), .val (.int v0), .val (.int v1), .val (.int v2), .val (.int v3), .val (.ref a37), .val (.int n), .val (.int z54), .val (.int z56), .val (.int (own_w v0 v1 v2 v3 (own_skip (0 : Int32) z56))), .val (.int (own_w v0 v1 v2 v3 (own_skip (1 : Int32) z56))), .val (.int (own_w v0 v1 v2 v3 (own_skip (2 : Int32) z56))), .val (.ref z63), .val (.int z68), .val (.int ci), .val (.int z70), .unset, .unset, .unset] d0_258 rfl ?_
            refine go_iload B d0_260 rfl ?_
            have J73 : ∀ z72 : Int32, (z72 = if z70 < 0 then -1 else (own_w v0 v1 v2 v3 z70)) → Go κ (fun v h => v = some (.int 1)) h62 (0 + 1 + 0 + 0 + 0 + 1) (0 + 4 + 0 + 0 + 0 + 3) 274 #[.val (.int p0), .val (.int p1), .val (.int p2), .val (.int p3), .val (.int p4), .val (.int p5), .val (.int v0), .val (.int v1), .val (.int v2), .val (.int v3), .val (.ref a37), .val (.int n), .val (.int z54), .val (.int z56), .val (.int (own_w v0 v1 v2 v3 (own_skip (0 : Int32) z56))), .val (.int (own_w v0 v1 v2 v3 (own_skip (1 : Int32) z56))), .val (.int (own_w v0 v1 v2 v3 (own_skip (2 : Int32) z56))), .val (.ref z63), .val (.int z68), .val (.int ci), .val (.int z70), .unset, .unset, .unset] [(.int z72)] := by
              intro z72 hJ73
              refine go_istore B #[.val (.int p0), .val (.int p1), .val (.int p2), .val (.int p3), .val (.int p4), .val (.int p5), .val (.int v0), .val (.int v1), .val (.int v2), .val (.int v3), .val (.ref a37), .val (.int n), .val (.int z54), .val (.int z56), .val (.int (own_w v0 v1 v2 v3 (own_skip (0 : Int32) z56))), .val (.int (own_w v0 v1 v2 v3 (own_skip (1 : Int32) z56))), .val (.int (own_w v0 v1 v2 v3 (own_skip (2 : Int32) z56))), .val (.ref z63), .val (.int z68), .val (.int ci), .val (.int z70), .val (.int z72), .unset, .unset] d0_274 rfl ?_
              refine go_aload B d0_276 rfl rfl ?_
              refine go_iload B d0_278 rfl ?_
              refine go_iload B d0_280 rfl ?_
              obtain ⟨tot, htot, hT, hlen, hok, hlen2⟩ := own_law o01 o12 o23 m0.1 hn h3 hJ57 hci hJ71 hJ73 hJ69
              refine go_static B (W := 0) (argsL := [(.ref z63), (.int z72), (.int z68)]) (st := []) d0_282 (w_7 H) (w_8 H) (w_9 H) (w_10 H) (by decide) (rmA H z63 z72 z68 _ tot h62 (Nat.le_trans f58 K67.1) A65 (by simp; omega) hT hlen htot) pd_1 rfl rfl rfl rfl (by decide) (by decide) (by decide) (by decide) ?_
              rintro _ h78 ⟨b74, rfl, g75, K76, A77⟩
              have f79 : Exa Z h62 a37 "[I" := (Exa.keep (Exa.wr W51 (Exa.wr W47 (Exa.wr W43 (Exa.wr W39 Ca37)))) K67)
              have ne_b74_a37 : b74 ≠ a37 := Nat.ne_of_gt (Nat.lt_of_lt_of_le (f79).lt (by omega))
              have ne_b74_z63 : b74 ≠ z63 := Nat.ne_of_gt (Nat.lt_of_lt_of_le (A65).lt (by omega))
              have ge_b74 : n0 ≤ b74 := by have q1 := (Nat.le_trans f58 K67.1); omega
              show Go κ _ h78 _ _ 285 #[.val (.int p0), .val (.int p1), .val (.int p2), .val (.int p3), .val (.int p4), .val (.int p5), .val (.int v0), .val (.int v1), .val (.int v2), .val (.int v3), .val (.ref a37), .val (.int n), .val (.int z54), .val (.int z56), .val (.int (own_w v0 v1 v2 v3 (own_skip (0 : Int32) z56))), .val (.int (own_w v0 v1 v2 v3 (own_skip (1 : Int32) z56))), .val (.int (own_w v0 v1 v2 v3 (own_skip (2 : Int32) z56))), .val (.ref z63), .val (.int z68), .val (.int ci), .val (.int z70), .val (.int z72), .unset, .unset] [(.ref b74)]
              refine go_astore B #[.val (.int p0), .val (.int p1), .val (.int p2), .val (.int p3), .val (.int p4), .val (.int p5), .val (.int v0), .val (.int v1), .val (.int v2), .val (.int v3), .val (.ref a37), .val (.int n), .val (.int z54), .val (.int z56), .val (.int (own_w v0 v1 v2 v3 (own_skip (0 : Int32) z56))), .val (.int (own_w v0 v1 v2 v3 (own_skip (1 : Int32) z56))), .val (.int (own_w v0 v1 v2 v3 (own_skip (2 : Int32) z56))), .val (.ref z63), .val (.int z68), .val (.int ci), .val (.int z70), .val (.int z72), .val (.ref b74), .unset] d0_285 rfl rfl ?_
              refine go_iload B d0_287 rfl ?_
              refine go_iload B d0_289 rfl ?_
              have J81 : ∀ z80 : Int32, (z80 = if z54 = 0 then (0 : Int32) else 1) → Go κ (fun v h => v = some (.int 1)) h78 (0 + 1 + 0 + 0 + 0 + 1 + 1) (0 + 4 + 0 + 0 + 0 + 3 + 4) 299 #[.val (.int p0), .val (.int p1), .val (.int p2), .val (.int p3), .val (.int p4), .val (.int p5), .val (.int v0), .val (.int v1), .val (.int v2), .val (.int v3), .val (.ref a37), .val (.int n), .val (.int z54), .val (.int z56), .val (.int (own_w v0 v1 v2 v3 (own_skip (0 : Int32) z56))), .val (.int (own_w v0 v1 v2 v3 (own_skip (1 : Int32) z56))), .val (.int (own_w v0 v1 v2 v3 (own_skip (2 : Int32) z56))), .val (.ref z63), .val (.int z68), .val (.int ci), .val (.int z70), .val (.int z72), .val (.ref b74), .unset] [(.int z80), (.int n)] := by
                intro z80 hJ81
                refine go_iadd B d0_299 ?_
                refine go_iload B d0_300 rfl ?_
                have J83 : ∀ z82 : Int32, (z82 = if z70 < 0 then (0 : Int32) else 1) → Go κ (fun v h => v = some (.int 1)) h78 (0 + 1 + 0 + 0 + 0 + 1 + 1) (0 + 4 + 0 + 0 + 0 + 3 + 4) 310 #[.val (.int p0), .val (.int p1), .val (.int p2), .val (.int p3), .val (.int p4), .val (.int p5), .val (.int v0), .val (.int v1), .val (.int v2), .val (.int v3), .val (.ref a37), .val (.int n), .val (.int z54), .val (.int z56), .val (.int (own_w v0 v1 v2 v3 (own_skip (0 : Int32) z56))), .val (.int (own_w v0 v1 v2 v3 (own_skip (1 : Int32) z56))), .val (.int (own_w v0 v1 v2 v3 (own_skip (2 : Int32) z56))), .val (.ref z63), .val (.int z68), .val (.int ci), .val (.int z70), .val (.int z72), .val (.ref b74), .unset] [(.int z82), (.int (n + z80))] := by
                  intro z82 hJ83
                  refine go_isub B d0_310 ?_
                  refine go_istore B #[.val (.int p0), .val (.int p1), .val (.int p2), .val (.int p3), .val (.int p4), .val (.int p5), .val (.int v0), .val (.int v1), .val (.int v2), .val (.int v3), .val (.ref a37), .val (.int n), .val (.int z54), .val (.int z56), .val (.int (own_w v0 v1 v2 v3 (own_skip (0 : Int32) z56))), .val (.int (own_w v0 v1 v2 v3 (own_skip (1 : Int32) z56))), .val (.int (own_w v0 v1 v2 v3 (own_skip (2 : Int32) z56))), .val (.ref z63), .val (.int z68), .val (.int ci), .val (.int z70), .val (.int z72), .val (.ref b74), .val (.int ((n + z80) - z82))] d0_311 rfl ?_
                  refine go_aload B d0_313 rfl rfl ?_
                  refine go_arraylength B (x := (Int32.ofNat tot.length)) d0_315 A77 (by rw [own_v_len]) ?_
                  refine go_iload B d0_316 rfl ?_
                  refine go_icmpne B d0_318 (fun c318 => ?_) (fun c318 => ?_)
                  · exact absurd (by rw [hJ81, hJ83]; exact own_len hn h3 hT hlen2) c318
                  refine go_aload B d0_321 rfl rfl ?_
                  refine go_iconst B (x := (0 : Int32)) d0_323 rfl ?_
                  refine go_aload B d0_324 rfl rfl ?_
                  refine go_iload B d0_326 rfl ?_
                  refine go_static B (W := 0) (argsL := [(.ref b74), (.int (0 : Int32)), (.ref a37), (.int z70)]) (st := []) d0_328 (w_11 H) (w_12 H) (w_4 H) (w_13 H) (by decide) (rmT H b74 a37 (0 : Int32) z70 v0 v1 v2 v3 0 tot h78 (Nat.le_trans (Nat.le_trans f58 K67.1) K76.1) A77 (AV.keep (AV.keep A53 K67 nin0) K76 nin0) hT rfl (hok 0)) pd_2 rfl rfl rfl rfl (by decide) (by decide) (by decide) (by decide) ?_
                  rintro _ h84 ⟨rfl, rfl⟩
                  show Go κ _ h78 _ _ 331 #[.val (.int p0), .val (.int p1), .val (.int p2), .val (.int p3), .val (.int p4), .val (.int p5), .val (.int v0), .val (.int v1), .val (.int v2), .val (.int v3), .val (.ref a37), .val (.int n), .val (.int z54), .val (.int z56), .val (.int (own_w v0 v1 v2 v3 (own_skip (0 : Int32) z56))), .val (.int (own_w v0 v1 v2 v3 (own_skip (1 : Int32) z56))), .val (.int (own_w v0 v1 v2 v3 (own_skip (2 : Int32) z56))), .val (.ref z63), .val (.int z68), .val (.int ci), .val (.int z70), .val (.int z72), .val (.ref b74), .val (.int ((n + z80) - z82))] [(.int (1 : Int32))]
                  refine go_ifeq B d0_331 (fun c331 => ?_) (fun c331 => ?_)
                  · exact absurd c331 (by decide)
                  refine go_aload B d0_334 rfl rfl ?_
                  refine go_iconst B (x := (1 : Int32)) d0_336 rfl ?_
                  refine go_aload B d0_337 rfl rfl ?_
                  refine go_iload B d0_339 rfl ?_
                  refine go_static B (W := 0) (argsL := [(.ref b74), (.int (1 : Int32)), (.ref a37), (.int z70)]) (st := []) d0_341 (w_11 H) (w_12 H) (w_4 H) (w_13 H) (by decide) (rmT H b74 a37 (1 : Int32) z70 v0 v1 v2 v3 1 tot h78 (Nat.le_trans (Nat.le_trans f58 K67.1) K76.1) A77 (AV.keep (AV.keep A53 K67 nin0) K76 nin0) hT rfl (hok 1)) pd_2 rfl rfl rfl rfl (by decide) (by decide) (by decide) (by decide) ?_
                  rintro _ h85 ⟨rfl, rfl⟩
                  show Go κ _ h78 _ _ 344 #[.val (.int p0), .val (.int p1), .val (.int p2), .val (.int p3), .val (.int p4), .val (.int p5), .val (.int v0), .val (.int v1), .val (.int v2), .val (.int v3), .val (.ref a37), .val (.int n), .val (.int z54), .val (.int z56), .val (.int (own_w v0 v1 v2 v3 (own_skip (0 : Int32) z56))), .val (.int (own_w v0 v1 v2 v3 (own_skip (1 : Int32) z56))), .val (.int (own_w v0 v1 v2 v3 (own_skip (2 : Int32) z56))), .val (.ref z63), .val (.int z68), .val (.int ci), .val (.int z70), .val (.int z72), .val (.ref b74), .val (.int ((n + z80) - z82))] [(.int (1 : Int32))]
                  refine go_ifeq B d0_344 (fun c344 => ?_) (fun c344 => ?_)
                  · exact absurd c344 (by decide)
                  refine go_aload B d0_347 rfl rfl ?_
                  refine go_iconst B (x := (2 : Int32)) d0_349 rfl ?_
                  refine go_aload B d0_350 rfl rfl ?_
                  refine go_iload B d0_352 rfl ?_
                  refine go_static B (W := 0) (argsL := [(.ref b74), (.int (2 : Int32)), (.ref a37), (.int z70)]) (st := []) d0_354 (w_11 H) (w_12 H) (w_4 H) (w_13 H) (by decide) (rmT H b74 a37 (2 : Int32) z70 v0 v1 v2 v3 2 tot h78 (Nat.le_trans (Nat.le_trans f58 K67.1) K76.1) A77 (AV.keep (AV.keep A53 K67 nin0) K76 nin0) hT rfl (hok 2)) pd_2 rfl rfl rfl rfl (by decide) (by decide) (by decide) (by decide) ?_
                  rintro _ h86 ⟨rfl, rfl⟩
                  show Go κ _ h78 _ _ 357 #[.val (.int p0), .val (.int p1), .val (.int p2), .val (.int p3), .val (.int p4), .val (.int p5), .val (.int v0), .val (.int v1), .val (.int v2), .val (.int v3), .val (.ref a37), .val (.int n), .val (.int z54), .val (.int z56), .val (.int (own_w v0 v1 v2 v3 (own_skip (0 : Int32) z56))), .val (.int (own_w v0 v1 v2 v3 (own_skip (1 : Int32) z56))), .val (.int (own_w v0 v1 v2 v3 (own_skip (2 : Int32) z56))), .val (.ref z63), .val (.int z68), .val (.int ci), .val (.int z70), .val (.int z72), .val (.ref b74), .val (.int ((n + z80) - z82))] [(.int (1 : Int32))]
                  refine go_ifeq B d0_357 (fun c357 => ?_) (fun c357 => ?_)
                  · exact absurd c357 (by decide)
                  refine go_aload B d0_360 rfl rfl ?_
                  refine go_iconst B (x := (3 : Int32)) d0_362 rfl ?_
                  refine go_aload B d0_363 rfl rfl ?_
                  refine go_iload B d0_365 rfl ?_
                  refine go_static B (W := 0) (argsL := [(.ref b74), (.int (3 : Int32)), (.ref a37), (.int z70)]) (st := []) d0_367 (w_11 H) (w_12 H) (w_4 H) (w_13 H) (by decide) (rmT H b74 a37 (3 : Int32) z70 v0 v1 v2 v3 3 tot h78 (Nat.le_trans (Nat.le_trans f58 K67.1) K76.1) A77 (AV.keep (AV.keep A53 K67 nin0) K76 nin0) hT rfl (hok 3)) pd_2 rfl rfl rfl rfl (by decide) (by decide) (by decide) (by decide) ?_
                  rintro _ h87 ⟨rfl, rfl⟩
                  show Go κ _ h78 _ _ 370 #[.val (.int p0), .val (.int p1), .val (.int p2), .val (.int p3), .val (.int p4), .val (.int p5), .val (.int v0), .val (.int v1), .val (.int v2), .val (.int v3), .val (.ref a37), .val (.int n), .val (.int z54), .val (.int z56), .val (.int (own_w v0 v1 v2 v3 (own_skip (0 : Int32) z56))), .val (.int (own_w v0 v1 v2 v3 (own_skip (1 : Int32) z56))), .val (.int (own_w v0 v1 v2 v3 (own_skip (2 : Int32) z56))), .val (.ref z63), .val (.int z68), .val (.int ci), .val (.int z70), .val (.int z72), .val (.ref b74), .val (.int ((n + z80) - z82))] [(.int (1 : Int32))]
                  refine go_ifeq B d0_370 (fun c370 => ?_) (fun c370 => ?_)
                  · exact absurd c370 (by decide)
                  refine go_iconst B (x := (1 : Int32)) d0_373 rfl ?_
                  refine go_goto B d0_374 ?_
                  refine go_zreturn B (y := (1 : Int32)) d0_378 (by decide) (by decide) (by decide) ?_
                  exact rfl
                refine go_iflt B d0_302 (fun c302 => ?_) (fun c302 => ?_)
                · skip
                  refine go_iconst B (x := (0 : Int32)) d0_309 rfl ?_
                  exact J83 _ (by simp [c302])
                · skip
                  refine go_iconst B (x := (1 : Int32)) d0_305 rfl ?_
                  refine go_goto B d0_306 ?_
                  exact J83 _ (by simp [c302])
              refine go_ifeq B d0_291 (fun c291 => ?_) (fun c291 => ?_)
              · skip
                refine go_iconst B (x := (0 : Int32)) d0_298 rfl ?_
                exact J81 _ (by simp [c291])
              · skip
                refine go_iconst B (x := (1 : Int32)) d0_294 rfl ?_
                refine go_goto B d0_295 ?_
                exact J81 _ (by simp [c291])
            refine go_iflt B d0_262 (fun c262 => ?_) (fun c262 => ?_)
            · skip
              refine go_iconst B (x := (-1 : Int32)) d0_273 rfl ?_
              exact J73 _ (by simp [c262])
            · skip
              refine go_aload B d0_265 rfl rfl ?_
              refine go_iload B d0_267 rfl ?_
              refine go_iaload B (i := z70.toInt.toNat) (v := (.int (own_w v0 v1 v2 v3 z70))) d0_269 (AV.keep A53 K67 nin0) (by have hcr : 0 ≤ z70.toInt ∧ z70.toInt ≤ 3 := own_cl_range hn h3 hci hJ71 c262; omega) (own_w_at v0 v1 v2 v3 (by have hcr : 0 ≤ z70.toInt ∧ z70.toInt ≤ 3 := own_cl_range hn h3 hci hJ71 c262; omega) (by have hcr : 0 ≤ z70.toInt ∧ z70.toInt ≤ 3 := own_cl_range hn h3 hci hJ71 c262; omega)) ?_
              refine go_goto B d0_270 ?_
              exact J73 _ (by simp [c262])
          refine go_icmpne B d0_244 (fun c244 => ?_) (fun c244 => ?_)
          · skip
            refine go_iload B d0_251 rfl ?_
            refine go_iload B d0_253 rfl ?_
            refine go_static B (W := 0) (argsL := [(.int ci), (.int z56)]) (st := []) d0_255 (w_2 H) (w_3 H) (w_4 H) (w_5 H) (by decide) (rmS H ci z56 h62 (Nat.le_trans f58 K67.1)) pd_0 rfl rfl rfl rfl (by decide) (by decide) (by decide) (by decide) ?_
            rintro _ h88 ⟨rfl, rfl⟩
            show Go κ _ h62 _ _ 258 #[.val (.int p0), .val (.int p1), .val (.int p2), .val (.int p3), .val (.int p4), .val (.int p5), .val (.int v0), .val (.int v1), .val (.int v2), .val (.int v3), .val (.ref a37), .val (.int n), .val (.int z54), .val (.int z56), .val (.int (own_w v0 v1 v2 v3 (own_skip (0 : Int32) z56))), .val (.int (own_w v0 v1 v2 v3 (own_skip (1 : Int32) z56))), .val (.int (own_w v0 v1 v2 v3 (own_skip (2 : Int32) z56))), .val (.ref z63), .val (.int z68), .val (.int ci), .unset, .unset, .unset, .unset] [(.int (own_skip ci z56))]
            exact J71 _ (by simp [c244])
          · skip
            refine go_iconst B (x := (-1 : Int32)) d0_247 rfl ?_
            refine go_goto B d0_248 ?_
            exact J71 _ (by simp [c244])
        refine go_ifeq B d0_214 (fun c214 => ?_) (fun c214 => ?_)
        · skip
          refine go_iconst B (x := (-1 : Int32)) d0_225 rfl ?_
          exact J69 _ (by simp [c214])
        · skip
          refine go_aload B d0_217 rfl rfl ?_
          refine go_iload B d0_219 rfl ?_
          refine go_iaload B (i := z56.toInt.toNat) (v := (.int (own_w v0 v1 v2 v3 z56))) d0_221 (AV.keep A53 K67 nin0) (hJ57.elim (fun q => absurd q.1 c214) (fun q => by omega)) (own_w_at v0 v1 v2 v3 (hJ57.elim (fun q => absurd q.1 c214) (fun q => by omega)) (hJ57.elim (fun q => absurd q.1 c214) (fun q => by omega))) ?_
          refine go_goto B d0_222 ?_
          exact J69 _ (by simp [c214])
      refine go_ifne B d0_144 (fun c144 => ?_) (fun c144 => ?_)
      · skip
        refine go_iload B d0_153 rfl ?_
        refine go_iconst B (x := (1 : Int32)) d0_155 rfl ?_
        refine go_icmpne B d0_156 (fun c156 => ?_) (fun c156 => ?_)
        · skip
          refine go_iload B d0_170 rfl ?_
          refine go_iconst B (x := (2 : Int32)) d0_172 rfl ?_
          refine go_icmpne B d0_173 (fun c173 => ?_) (fun c173 => ?_)
          · skip
            refine go_iconst B (x := (3 : Int32)) d0_192 rfl ?_
            refine go_newarray B (i := 3) (cap := 3) d0_193 (w_1 H) rfl (by decide) (by decide) (by decide) (by decide) ?_
            intro h89 a90 hba90 Ea90 Aa90 Ca90
            have ne_a90_a37 : a90 ≠ a37 := Nat.ne_of_gt (Nat.lt_of_lt_of_le ((Exa.wr W51 (Exa.wr W47 (Exa.wr W43 (Exa.wr W39 Ca37))))).lt (by omega))
            have ge_a90 : n0 ≤ a90 := by have q1 := f58; omega
            have fr_a90 : h50.size ≤ a90 := by have q1 := (show Keep h50 h50 [] from (Keep.refl h50 [])).1; omega
            have Ba90 : AV Z h89 a90 .int [(.int (0 : Int32)), (.int (0 : Int32)), (.int (0 : Int32))] := Aa90
            refine go_dup B d0_195 rfl ?_
            refine go_iconst B (x := (0 : Int32)) d0_196 rfl ?_
            refine go_iload B d0_197 rfl ?_
            refine go_iastore B (i := 0) d0_199 Ba90 rfl (show 0 < 3 from by decide) ge_a90 ?_
            intro h91 W92 A93
            have A94 : AV Z h91 a90 .int [(.int (own_w v0 v1 v2 v3 (own_skip (0 : Int32) z56))), (.int (0 : Int32)), (.int (0 : Int32))] := A93
            refine go_dup B d0_200 rfl ?_
            refine go_iconst B (x := (1 : Int32)) d0_201 rfl ?_
            refine go_iload B d0_202 rfl ?_
            refine go_iastore B (i := 1) d0_204 A94 rfl (show 1 < 3 from by decide) ge_a90 ?_
            intro h95 W96 A97
            have A98 : AV Z h95 a90 .int [(.int (own_w v0 v1 v2 v3 (own_skip (0 : Int32) z56))), (.int (own_w v0 v1 v2 v3 (own_skip (1 : Int32) z56))), (.int (0 : Int32))] := A97
            refine go_dup B d0_205 rfl ?_
            refine go_iconst B (x := (2 : Int32)) d0_206 rfl ?_
            refine go_iload B d0_207 rfl ?_
            refine go_iastore B (i := 2) d0_209 A98 rfl (show 2 < 3 from by decide) ge_a90 ?_
            intro h99 W100 A101
            have A102 : AV Z h99 a90 .int [(.int (own_w v0 v1 v2 v3 (own_skip (0 : Int32) z56))), (.int (own_w v0 v1 v2 v3 (own_skip (1 : Int32) z56))), (.int (own_w v0 v1 v2 v3 (own_skip (2 : Int32) z56)))] := A101
            have enn : nn = 3 := by have q0 := i_of_ne hn rfl c144; have q1 := i_of_ne hn rfl c156; have q2 := i_of_ne hn rfl c173; have z0 : (0 : Int32).toInt = 0 := rfl; have z1 : (1 : Int32).toInt = 1 := rfl; have z2 : (2 : Int32).toInt = 2 := rfl; have z3 : (3 : Int32).toInt = 3 := rfl; omega
            have f103 : Keep h50 h99 [] := (Keep.wr (Keep.wr (Keep.wr (Keep.ext (Keep.refl h50 []) Ea90) W92 (Or.inr fr_a90)) W96 (Or.inr fr_a90)) W100 (Or.inr fr_a90))
            exact J64 h99 _ ⟨by rw [enn]; exact A102, fr_a90, f103⟩
          · skip
            refine go_iconst B (x := (2 : Int32)) d0_176 rfl ?_
            refine go_newarray B (i := 2) (cap := 3) d0_177 (w_1 H) rfl (by decide) (by decide) (by decide) (by decide) ?_
            intro h104 a105 hba105 Ea105 Aa105 Ca105
            have ne_a105_a37 : a105 ≠ a37 := Nat.ne_of_gt (Nat.lt_of_lt_of_le ((Exa.wr W51 (Exa.wr W47 (Exa.wr W43 (Exa.wr W39 Ca37))))).lt (by omega))
            have ge_a105 : n0 ≤ a105 := by have q1 := f58; omega
            have fr_a105 : h50.size ≤ a105 := by have q1 := (show Keep h50 h50 [] from (Keep.refl h50 [])).1; omega
            have Ba105 : AV Z h104 a105 .int [(.int (0 : Int32)), (.int (0 : Int32))] := Aa105
            refine go_dup B d0_179 rfl ?_
            refine go_iconst B (x := (0 : Int32)) d0_180 rfl ?_
            refine go_iload B d0_181 rfl ?_
            refine go_iastore B (i := 0) d0_183 Ba105 rfl (show 0 < 2 from by decide) ge_a105 ?_
            intro h106 W107 A108
            have A109 : AV Z h106 a105 .int [(.int (own_w v0 v1 v2 v3 (own_skip (0 : Int32) z56))), (.int (0 : Int32))] := A108
            refine go_dup B d0_184 rfl ?_
            refine go_iconst B (x := (1 : Int32)) d0_185 rfl ?_
            refine go_iload B d0_186 rfl ?_
            refine go_iastore B (i := 1) d0_188 A109 rfl (show 1 < 2 from by decide) ge_a105 ?_
            intro h110 W111 A112
            have A113 : AV Z h110 a105 .int [(.int (own_w v0 v1 v2 v3 (own_skip (0 : Int32) z56))), (.int (own_w v0 v1 v2 v3 (own_skip (1 : Int32) z56)))] := A112
            refine go_goto B d0_189 ?_
            have enn : nn = 2 := by have q := hn; rw [c173] at q; have z0 : (0 : Int32).toInt = 0 := rfl; have z1 : (1 : Int32).toInt = 1 := rfl; have z2 : (2 : Int32).toInt = 2 := rfl; have z3 : (3 : Int32).toInt = 3 := rfl; omega
            have f114 : Keep h50 h110 [] := (Keep.wr (Keep.wr (Keep.ext (Keep.refl h50 []) Ea105) W107 (Or.inr fr_a105)) W111 (Or.inr fr_a105))
            exact J64 h110 _ ⟨by rw [enn]; exact A113, fr_a105, f114⟩
        · skip
          refine go_iconst B (x := (1 : Int32)) d0_159 rfl ?_
          refine go_newarray B (i := 1) (cap := 3) d0_160 (w_1 H) rfl (by decide) (by decide) (by decide) (by decide) ?_
          intro h115 a116 hba116 Ea116 Aa116 Ca116
          have ne_a116_a37 : a116 ≠ a37 := Nat.ne_of_gt (Nat.lt_of_lt_of_le ((Exa.wr W51 (Exa.wr W47 (Exa.wr W43 (Exa.wr W39 Ca37))))).lt (by omega))
          have ge_a116 : n0 ≤ a116 := by have q1 := f58; omega
          have fr_a116 : h50.size ≤ a116 := by have q1 := (show Keep h50 h50 [] from (Keep.refl h50 [])).1; omega
          have Ba116 : AV Z h115 a116 .int [(.int (0 : Int32))] := Aa116
          refine go_dup B d0_162 rfl ?_
          refine go_iconst B (x := (0 : Int32)) d0_163 rfl ?_
          refine go_iload B d0_164 rfl ?_
          refine go_iastore B (i := 0) d0_166 Ba116 rfl (show 0 < 1 from by decide) ge_a116 ?_
          intro h117 W118 A119
          have A120 : AV Z h117 a116 .int [(.int (own_w v0 v1 v2 v3 (own_skip (0 : Int32) z56)))] := A119
          refine go_goto B d0_167 ?_
          have enn : nn = 1 := by have q := hn; rw [c156] at q; have z0 : (0 : Int32).toInt = 0 := rfl; have z1 : (1 : Int32).toInt = 1 := rfl; have z2 : (2 : Int32).toInt = 2 := rfl; have z3 : (3 : Int32).toInt = 3 := rfl; omega
          have f121 : Keep h50 h117 [] := (Keep.wr (Keep.ext (Keep.refl h50 []) Ea116) W118 (Or.inr fr_a116))
          exact J64 h117 _ ⟨by rw [enn]; exact A120, fr_a116, f121⟩
      · skip
        refine go_iconst B (x := (0 : Int32)) d0_147 rfl ?_
        refine go_newarray B (i := 0) (cap := 3) d0_148 (w_1 H) rfl (by decide) (by decide) (by decide) (by decide) ?_
        intro h122 a123 hba123 Ea123 Aa123 Ca123
        have ne_a123_a37 : a123 ≠ a37 := Nat.ne_of_gt (Nat.lt_of_lt_of_le ((Exa.wr W51 (Exa.wr W47 (Exa.wr W43 (Exa.wr W39 Ca37))))).lt (by omega))
        have ge_a123 : n0 ≤ a123 := by have q1 := f58; omega
        have fr_a123 : h50.size ≤ a123 := by have q1 := (show Keep h50 h50 [] from (Keep.refl h50 [])).1; omega
        have Ba123 : AV Z h122 a123 .int [] := Aa123
        refine go_goto B d0_150 ?_
        have enn : nn = 0 := by have q := hn; rw [c144] at q; have z0 : (0 : Int32).toInt = 0 := rfl; have z1 : (1 : Int32).toInt = 1 := rfl; have z2 : (2 : Int32).toInt = 2 := rfl; have z3 : (3 : Int32).toInt = 3 := rfl; omega
        exact J64 h122 _ ⟨by rw [enn]; exact Ba123, fr_a123, (Keep.ext (Keep.refl h50 []) Ea123)⟩
    refine go_ifeq B d0_88 (fun c88 => ?_) (fun c88 => ?_)
    · skip
      refine go_iconst B (x := (-1 : Int32)) d0_106 rfl ?_
      exact J57 _ (Or.inl ⟨c88, rfl⟩)
    · skip
      refine go_iload B d0_91 rfl ?_
      refine go_iconst B (x := (3 : Int32)) d0_93 rfl ?_
      refine go_iushr B d0_94 ?_
      refine go_ldcI B d0_95 (w_6 H) ?_
      refine go_iand B d0_97 ?_
      refine go_iload B d0_98 rfl ?_
      refine go_iconst B (x := (1 : Int32)) d0_100 rfl ?_
      refine go_iadd B d0_101 ?_
      refine go_irem B d0_102 hnz ?_
      refine go_goto B d0_103 ?_
      exact J57 _ (Or.inr ⟨c88, own_rem_range _ hn h3⟩)
  refine go_ifeq B d0_76 (fun c76 => ?_) (fun c76 => ?_)
  · skip
    refine go_iconst B (x := (0 : Int32)) d0_83 rfl ?_
    exact J55 _ trivial
  · skip
    refine go_iconst B (x := (1 : Int32)) d0_79 rfl ?_
    refine go_goto B d0_80 ?_
    exact J55 _ trivial
set_option maxRecDepth 65536 in
set_option maxHeartbeats 40000000 in
theorem comes_1 {Post : Tables → Env → Array Value → State → Outcome → State → Prop} (hpost : ∀ tb e args s v u, (limb_1_1.after args s (.returned v) u = true ∧ limb_1_2.after args s (.returned v) u = true ∧ True) → FrameEnd s (.returned v) u (Jvm.fieldLocs frame_1_writes args s ++ Jvm.arrayLocs frame_1_arrays args s ++ Jvm.staticLocs frame_1_statics s) 16 128 → Post tb e args s (.returned v) u) :
    ArmFor flags0 classFile x code maxLocals ret World_1 tables_1 room_1 Calls_1 rest_1 Pre_1 Post := by
  intro l hfl _ _ p e ha hc hk s m args below hf hA hF happ hP
  obtain ⟨hcalls, hrest, hpre⟩ := hP
  obtain ⟨-, -, -, hnamed, -, -, -, hat⟩ := (Spec.applies_iff hf).mp happ
  obtain ⟨hg, hn⟩ := and_e (Cond.before_iff.mp (show (Jvm.Cond.and given_1 narrow_1).before args s = true from hpre))
  obtain ⟨hg0, hg1⟩ := and_e hg
  obtain ⟨hk0, hg2⟩ := and_e hg1
  obtain ⟨hk1, hg3⟩ := and_e hg2
  obtain ⟨hk2, hg4⟩ := and_e hg3
  obtain ⟨hk3, hg5⟩ := and_e hg4
  obtain ⟨hk4, hg6⟩ := and_e hg5
  have hk5 := hg6
  obtain ⟨w0, w1, w2, w3, w4, w5, rfl⟩ : ∃ w0 w1 w2 w3 w4 w5 : Value, args = #[w0, w1, w2, w3, w4, w5] := by
    have hs : args.size = 6 := by simpa [Cond.value, given_1] using hg0
    obtain ⟨L⟩ := args
    match L, hs with
    | [w0, w1, w2, w3, w4, w5], _ => exact ⟨w0, w1, w2, w3, w4, w5, rfl⟩
  have hw : Wd _ s := fun d (hd : d ∈ tables_1) => atoms_spec (ws := Jvm.Cond.code x code maxLocals ret :: tables_1) hat d (List.mem_cons_of_mem _ hd)
  obtain ⟨i0, e0⟩ := is_v hk0
  obtain rfl : w0 = (.int i0) := Option.some.inj e0
  obtain ⟨i1, e1⟩ := is_v hk1
  obtain rfl : w1 = (.int i1) := Option.some.inj e1
  obtain ⟨i2, e2⟩ := is_v hk2
  obtain rfl : w2 = (.int i2) := Option.some.inj e2
  obtain ⟨i3, e3⟩ := is_v hk3
  obtain rfl : w3 = (.int i3) := Option.some.inj e3
  obtain ⟨i4, e4⟩ := is_v hk4
  obtain rfl : w4 = (.int i4) := Option.some.inj e4
  obtain ⟨i5, e5⟩ := is_v hk5
  obtain rfl : w5 = (.int i5) := Option.some.inj e5
  obtain ⟨n, o, h1, h2, h3, _, L, rfl, ⟨rfl, N⟩, hq⟩ := rm0 (l := l) hw i0 i1 i2 i3 i4 i5 s.heap (Nat.le_refl _)  p e ha hc hk s m _ below hf ((Spec.applies_iff_loose hf).mp happ).1 ⟨rfl, State.Warmed39.refl s, rfl⟩ trivial
  refine ⟨n, _, h1, h2, h3, hpost _ _ _ _ _ _ ⟨Cond.after_iff.mpr rfl, Cond.after_iff.mpr (eq_i res_at (Term.int_eval (1)) rfl), trivial⟩ ⟨hq.1, hq.2.1, (hq.2.2.sift fun y hy => Or.inr (N y hy)).mono (by decide) (by decide)⟩⟩
theorem main_1_1 : Claimed_1_1 := comes_1 fun _ _ _ _ _ _ h hF => ⟨h.1, hF⟩
theorem main_1_2 : Claimed_1_2 := comes_1 fun _ _ _ _ _ _ h hF => ⟨h.2.1, hF⟩
end Jvm.Pilot.@@N@@
namespace Jvm.Pilot.@@N@@
open Jvm Jvm.ClassFile Sem Op Lib Jvm.Free Jvm.Stand Jvm.Pilot.@@N@@.Jvm.D
/-! MADE BY PROGRAM (witnessworld.py) out of the Statement's table words and the real class files: 9 classes; the members and pool entries that the words name. The judged class is class 1, her method 1. -/
namespace start1
open Jvm.ClassFile
def u (s : String) : CpInfo := .utf8 (stringToUtf16 s)
/-- a pool by its gaps: so many unusable entries, then the entry; so many at the end -/
def gap : Nat → List CpInfo → List CpInfo
  | 0, r => r
  | n + 1, r => .unusable :: gap n r
def poolList (es : List (Nat × CpInfo)) (last : Nat) : List CpInfo := es.foldr (fun e r => gap e.1 (e.2 :: r)) (gap last [])
def pool (es : List (Nat × CpInfo)) (last : Nat) : Array CpInfo := ⟨poolList es last⟩
def fileOf (pool : Array CpInfo) (this : Nat) (attrs : Array Attribute := #[]) (ms : Array MethodInfo := #[]) (fl : Nat := 33) (sup : Nat := 0) (ifs : Array Nat := #[]) (fds : Array FieldInfo := #[]) : ClassFile where
  minorVersion := 0
  majorVersion := 65
  constantPool := pool
  accessFlags := fl
  thisClass := this
  superClass := sup
  interfaces := ifs
  fields := fds
  methods := ms
  attributes := attrs
def plain (name : String) (sup : Option ClassId) : Class where
  name := name
  kind := .ordinary
  loader := none
  accessFlags := 33
  super := sup
  interfaces := #[]
  cf := none
  fields := #[]
  methods := #[]
  instanceTypes := #[]
  staticTypes := #[]
  resolved := #[]
  callSites := []
  init := .initialized
  statics := none
  mirror := none

def pool0 : Array CpInfo := pool [(5, u "<init>"), (0, u "()V"), (1, .class_ 10), (1, u "java/lang/Object")] 113

def k0m0 : Method := { name := "<init>", desc := "()V", sig := { parameters := [], returnType := none }, accessFlags := 1, code := none }
/-- java/lang/Object -/
def k0 : Class := { plain "java/lang/Object" none with
  accessFlags := 33
  interfaces := #[]
  cf := some (fileOf pool0 8 #[] #[{ accessFlags := 1, nameIndex := 5, descriptorIndex := 6, attributes := #[] }] 33 0 #[] #[])
  fields := #[]
  methods := #[k0m0]
  instanceTypes := #[]
  staticTypes := #[]
  resolved := Array.replicate 124 none
  statics := none }

def pool1 : Array CpInfo := pool [(2, .class_ 4), (1, u "java/lang/Object"), (0, u "<init>"), (0, u "()V"), (0, .integer 536870911), (0, .integer 2147483647), (0, .methodref 10 11), (0, .class_ 12), (0, .nameAndType 13 14), (0, u "com/example/baseload/baseload/solve/MoveBoundAfterPinLaw"), (0, u "skip"), (0, u "(II)I"), (0, .class_ 16), (0, u "com/example/baseload/baseload/solve/MoveBound"), (0, .methodref 15 18), (0, .nameAndType 19 20), (0, u "after"), (0, u "([III)[I"), (0, .methodref 10 22), (0, .nameAndType 23 24), (0, u "at"), (0, u "([II[II)Z"), (2, u "law"), (0, u "(IIIIII)Z")] 5

def k1m0 : Method := { name := "<init>", desc := "()V", sig := { parameters := [], returnType := none }, accessFlags := 1, code := none }
def k1c1 : Code := { maxStack := 4, maxLocals := 24, code := code, exceptionTable := #[], attributes := #[] }
def k1m1 : Method := { name := "law", desc := "(IIIIII)Z", sig := { parameters := [.int, .int, .int, .int, .int, .int], returnType := some .boolean }, accessFlags := 9, code := some k1c1 }
def k1c2 : Code := { maxStack := 2, maxLocals := 2, code := method_3_code, exceptionTable := #[], attributes := #[] }
def k1m2 : Method := { name := "skip", desc := "(II)I", sig := { parameters := [.int, .int], returnType := some .int }, accessFlags := 10, code := some k1c2 }
def k1c3 : Code := { maxStack := 4, maxLocals := 4, code := method_4_code, exceptionTable := #[], attributes := #[] }
def k1m3 : Method := { name := "at", desc := "([II[II)Z", sig := { parameters := [(.array .int), .int, (.array .int), .int], returnType := some .boolean }, accessFlags := 10, code := some k1c3 }
/-- com/example/baseload/baseload/solve/MoveBoundAfterPinLaw -/
def k1 : Class := { plain "com/example/baseload/baseload/solve/MoveBoundAfterPinLaw" (some 0) with
  accessFlags := 49
  interfaces := #[]
  cf := some (fileOf pool1 10 #[] #[{ accessFlags := 1, nameIndex := 5, descriptorIndex := 6, attributes := #[] }, { accessFlags := 9, nameIndex := 27, descriptorIndex := 28, attributes := #[] }, { accessFlags := 10, nameIndex := 13, descriptorIndex := 14, attributes := #[] }, { accessFlags := 10, nameIndex := 23, descriptorIndex := 24, attributes := #[] }] 49 2 #[] #[])
  fields := #[]
  methods := #[k1m0, k1m1, k1m2, k1m3]
  instanceTypes := #[]
  staticTypes := #[]
  resolved := Array.replicate 34 none
  statics := none }

def pool2 : Array CpInfo := pool [(2, .class_ 4), (1, u "java/lang/Object"), (3, .class_ 10), (1, u "com/example/baseload/baseload/solve/MoveBound"), (0, u "instance"), (0, u "Lcom/example/baseload/baseload/model/Instance;"), (2, u "costsFrom"), (0, u "[[D"), (2, u "openingCosts"), (0, u "[D"), (2, u "open"), (0, u "[I"), (2, u "prices"), (2, u "least"), (0, u "I"), (2, u "openCount"), (2, u "nearest"), (2, u "nearestFacility"), (2, u "second"), (2, u "secondFacility"), (2, u "third"), (2, u "rise"), (2, u "margins"), (2, u "stamp"), (15, u "position"), (2, u "nearestSum"), (0, u "D"), (3, u "members"), (0, u "[[I"), (2, u "loss"), (2, u "charge"), (6, u "staying"), (2, u "opened"), (3, u "lowest"), (2, u "lowestClients"), (37, u "together"), (10, u "unpriced"), (6, u "Lcom/example/baseload/baseload/solve/MoveBound;"), (12, u "stamps"), (4, u "NONE"), (8, u "after"), (0, u "([III)[I")] 2

def k2c0 : Code := { maxStack := 3, maxLocals := 10, code := prog_47_method_3_code, exceptionTable := #[], attributes := #[] }
def k2m0 : Method := { name := "after", desc := "([III)[I", sig := { parameters := [(.array .int), .int, .int], returnType := some (.array .int) }, accessFlags := 8, code := some k2c0 }
/-- com/example/baseload/baseload/solve/MoveBound -/
def k2 : Class := { plain "com/example/baseload/baseload/solve/MoveBound" (some 0) with
  accessFlags := 48
  interfaces := #[]
  cf := some (fileOf pool2 8 #[] #[{ accessFlags := 8, nameIndex := 189, descriptorIndex := 190, attributes := #[] }] 48 2 #[] #[{ accessFlags := 24, nameIndex := 180, descriptorIndex := 31, attributes := #[] }, { accessFlags := 18, nameIndex := 11, descriptorIndex := 12, attributes := #[] }, { accessFlags := 18, nameIndex := 15, descriptorIndex := 16, attributes := #[] }, { accessFlags := 18, nameIndex := 19, descriptorIndex := 20, attributes := #[] }, { accessFlags := 18, nameIndex := 23, descriptorIndex := 24, attributes := #[] }, { accessFlags := 18, nameIndex := 27, descriptorIndex := 20, attributes := #[] }, { accessFlags := 18, nameIndex := 30, descriptorIndex := 31, attributes := #[] }, { accessFlags := 18, nameIndex := 34, descriptorIndex := 31, attributes := #[] }, { accessFlags := 18, nameIndex := 89, descriptorIndex := 78, attributes := #[] }, { accessFlags := 18, nameIndex := 96, descriptorIndex := 20, attributes := #[] }, { accessFlags := 18, nameIndex := 77, descriptorIndex := 78, attributes := #[] }, { accessFlags := 18, nameIndex := 37, descriptorIndex := 20, attributes := #[] }, { accessFlags := 18, nameIndex := 40, descriptorIndex := 24, attributes := #[] }, { accessFlags := 18, nameIndex := 43, descriptorIndex := 20, attributes := #[] }, { accessFlags := 18, nameIndex := 46, descriptorIndex := 24, attributes := #[] }, { accessFlags := 18, nameIndex := 49, descriptorIndex := 20, attributes := #[] }, { accessFlags := 18, nameIndex := 82, descriptorIndex := 83, attributes := #[] }, { accessFlags := 18, nameIndex := 86, descriptorIndex := 20, attributes := #[] }, { accessFlags := 18, nameIndex := 99, descriptorIndex := 20, attributes := #[] }, { accessFlags := 18, nameIndex := 103, descriptorIndex := 16, attributes := #[] }, { accessFlags := 18, nameIndex := 106, descriptorIndex := 83, attributes := #[] }, { accessFlags := 18, nameIndex := 74, descriptorIndex := 24, attributes := #[] }, { accessFlags := 2, nameIndex := 144, descriptorIndex := 16, attributes := #[] }, { accessFlags := 2, nameIndex := 155, descriptorIndex := 162, attributes := #[] }, { accessFlags := 18, nameIndex := 52, descriptorIndex := 20, attributes := #[] }, { accessFlags := 18, nameIndex := 55, descriptorIndex := 20, attributes := #[] }, { accessFlags := 18, nameIndex := 58, descriptorIndex := 24, attributes := #[] }, { accessFlags := 2, nameIndex := 175, descriptorIndex := 31, attributes := #[] }])
  fields := #[{ name := "NONE", type := .int, accessFlags := 24, slot := 0, constantValue := 0 }, { name := "instance", type := (.object "com/example/baseload/baseload/model/Instance"), accessFlags := 18, slot := 0, constantValue := 0 }, { name := "costsFrom", type := (.array (.array .double)), accessFlags := 18, slot := 1, constantValue := 0 }, { name := "openingCosts", type := (.array .double), accessFlags := 18, slot := 2, constantValue := 0 }, { name := "open", type := (.array .int), accessFlags := 18, slot := 3, constantValue := 0 }, { name := "prices", type := (.array .double), accessFlags := 18, slot := 4, constantValue := 0 }, { name := "least", type := .int, accessFlags := 18, slot := 5, constantValue := 0 }, { name := "openCount", type := .int, accessFlags := 18, slot := 6, constantValue := 0 }, { name := "charge", type := .double, accessFlags := 18, slot := 7, constantValue := 0 }, { name := "staying", type := (.array .double), accessFlags := 18, slot := 8, constantValue := 0 }, { name := "nearestSum", type := .double, accessFlags := 18, slot := 9, constantValue := 0 }, { name := "nearest", type := (.array .double), accessFlags := 18, slot := 10, constantValue := 0 }, { name := "nearestFacility", type := (.array .int), accessFlags := 18, slot := 11, constantValue := 0 }, { name := "second", type := (.array .double), accessFlags := 18, slot := 12, constantValue := 0 }, { name := "secondFacility", type := (.array .int), accessFlags := 18, slot := 13, constantValue := 0 }, { name := "third", type := (.array .double), accessFlags := 18, slot := 14, constantValue := 0 }, { name := "members", type := (.array (.array .int)), accessFlags := 18, slot := 15, constantValue := 0 }, { name := "loss", type := (.array .double), accessFlags := 18, slot := 16, constantValue := 0 }, { name := "opened", type := (.array .double), accessFlags := 18, slot := 17, constantValue := 0 }, { name := "lowest", type := (.array (.array .double)), accessFlags := 18, slot := 18, constantValue := 0 }, { name := "lowestClients", type := (.array (.array .int)), accessFlags := 18, slot := 19, constantValue := 0 }, { name := "position", type := (.array .int), accessFlags := 18, slot := 20, constantValue := 0 }, { name := "together", type := (.array (.array .double)), accessFlags := 2, slot := 21, constantValue := 0 }, { name := "unpriced", type := (.object "com/example/baseload/baseload/solve/MoveBound"), accessFlags := 2, slot := 22, constantValue := 0 }, { name := "rise", type := (.array .double), accessFlags := 18, slot := 23, constantValue := 0 }, { name := "margins", type := (.array .double), accessFlags := 18, slot := 24, constantValue := 0 }, { name := "stamp", type := (.array .int), accessFlags := 18, slot := 25, constantValue := 0 }, { name := "stamps", type := .int, accessFlags := 2, slot := 26, constantValue := 0 }]
  methods := #[k2m0]
  instanceTypes := #[(.object "com/example/baseload/baseload/model/Instance"), (.array (.array .double)), (.array .double), (.array .int), (.array .double), .int, .int, .double, (.array .double), .double, (.array .double), (.array .int), (.array .double), (.array .int), (.array .double), (.array (.array .int)), (.array .double), (.array .double), (.array (.array .double)), (.array (.array .int)), (.array .int), (.array (.array .double)), (.object "com/example/baseload/baseload/solve/MoveBound"), (.array .double), (.array .double), (.array .int), .int]
  staticTypes := #[.int]
  resolved := Array.replicate 193 none
  statics := none }

def pool3 : Array CpInfo := pool [(1, u "java/lang/Cloneable"), (0, .class_ 1), (0, u "java/lang/Object"), (0, .class_ 3)] 3

/-- java/lang/Cloneable -/
def k3 : Class := { plain "java/lang/Cloneable" (some 0) with
  accessFlags := 1537
  interfaces := #[]
  cf := some (fileOf pool3 2 #[] #[] 1537 4 #[] #[])
  fields := #[]
  methods := #[]
  instanceTypes := #[]
  staticTypes := #[]
  resolved := Array.replicate 8 none
  statics := none }

def pool4 : Array CpInfo := pool [(1, u "java/io/Serializable"), (0, .class_ 1), (0, u "java/lang/Object"), (0, .class_ 3)] 3

/-- java/io/Serializable -/
def k4 : Class := { plain "java/io/Serializable" (some 0) with
  accessFlags := 1537
  interfaces := #[]
  cf := some (fileOf pool4 2 #[] #[] 1537 4 #[] #[])
  fields := #[]
  methods := #[]
  instanceTypes := #[]
  staticTypes := #[]
  resolved := Array.replicate 8 none
  statics := none }

/-- the primitive byte -/
def k5 : Class := { plain "byte" none with kind := .primitive 'B', accessFlags := 0x411 }
/-- [B -/
def k6 : Class := { plain "[B" (some 0) with kind := .array 5 .byte, interfaces := #[3, 4], accessFlags := 1041 }

/-- the primitive int -/
def k7 : Class := { plain "int" none with kind := .primitive 'I', accessFlags := 0x411 }
/-- [I -/
def k8 : Class := { plain "[I" (some 0) with kind := .array 7 .int, interfaces := #[3, 4], accessFlags := 1041 }

def heap : Heap := #[]
def classes : Array Class := #[k0, k1, k2, k3, k4, k5, k6, k7, k8]
def interned : List (Array UInt16 × Addr) := []
def slotsUsed : Nat := 0
def theMethod : MethodId := ⟨1, 1⟩
def args0 : Array Value := #[.int 1, .int 2, .int 3, .int 4, .int 13, .int 6]
def aboutOver (below : List Frame) : State where
  vm := { classes := classes, interned := interned.toArray }
  heap := heap
  slotsUsed := slotsUsed
  threads := #[{ frames := .invoking theMethod args0 :: below }]
def below0 : List Frame := [.native { method := ⟨0, 0⟩, args := #[] }]
def about1 : State := aboutOver below0
def p0 : Program := .bare "" "" ""
def e0 : Env := launch0.env 0 0 0
theorem w_frames : about1.frames = Frame.invoking theMethod args0 :: below0 := rfl
set_option maxRecDepth 65536 in
theorem w_args : argsFit about1.vm theMethod args0 = true := by decide +kernel
set_option maxRecDepth 65536 in
theorem w_heap : heapFits about1 = true := by decide +kernel
set_option maxRecDepth 65536 in
theorem w_runnable : about1.curStatus? = some .runnable := by decide +kernel
set_option maxRecDepth 65536 in
theorem w_alone : about1.alone = true := by decide +kernel
set_option maxRecDepth 65536 in
theorem w_named : about1.methodNamed? x = some theMethod := by decide +kernel
set_option maxRecDepth 65536 in
theorem w_hears : about1.hears theMethod below0 = true := by decide +kernel
set_option maxRecDepth 65536 in
theorem w_ripe : about1.ripe theMethod args0 below0 = true := by decide +kernel
theorem w_running : about1.status = .running := rfl
set_option maxRecDepth 65536 in
theorem w_room : about1.hasRoom e0.platform room_1 = true :=
  launch0.hasRoom_least _ room_1 (by decide +kernel) (by decide +kernel) (by decide +kernel) (by decide +kernel) (by decide +kernel) (by decide +kernel)
theorem allAtoms_all (ts : List Jvm.Cond) (a : Array Jvm.Value) (st : Jvm.State) : (allAtoms ts).before a st = ts.all (fun c => c.before a st) := by
  induction ts with
  | nil => rfl
  | cons c t ih =>
    show (Jvm.Cond.and c (allAtoms t)).before a st = _
    rw [Jvm.Cond.before_and, ih, List.all_cons]
def words1 : List Jvm.Cond := Jvm.Cond.code x code maxLocals ret :: tables_1
/-- a 'code' word, met by the world's own term for the bytes: nothing is compared byte by byte -/
theorem code_word {y : MethodName} {bytes : ByteArray} {mx : Nat} {rt : Option FieldType} {a : Array Value} {s : State} {m : MethodId} {meth : Method} {c : Code} (h1 : s.methodNamed? y = some m) (h2 : s.vm.method? m = some meth) (h3 : meth.code = some c) (h4 : c.code = bytes)
    (h5 : (c.maxLocals == mx && c.exceptionTable.isEmpty && decide (c.maxStack ≤ mostOperands) && decide (meth.sig.returnType = rt) && !meth.locks && decide (parseMethodDescriptor y.desc = some meth.sig)) = true) : (Jvm.Cond.code y bytes mx rt).before a s = true := by
  simp only [Bool.and_eq_true, beq_iff_eq, Bool.not_eq_true', decide_eq_true_eq] at h5
  obtain ⟨⟨⟨⟨⟨g1, g2⟩, g3⟩, g4⟩, g5⟩, g6⟩ := h5
  simp [Cond.before, Cond.holds, Cond.value, h1, h2, h3, h4, g1, g2, g3, g4, g5, g6]
def isCode : Jvm.Cond → Bool
  | .code _ _ _ _ => true
  | _ => false
theorem all_split {L : List Jvm.Cond} {P : Jvm.Cond → Bool} (h1 : L.all (fun c => isCode c || P c) = true) (h2 : ∀ c ∈ L.filter isCode, P c = true) : L.all P = true := by
  refine List.all_eq_true.mpr fun c hc => ?_
  have h := List.all_eq_true.mp h1 c hc
  rcases Bool.eq_false_or_eq_true (isCode c) with hi | hi
  · exact h2 c (List.mem_filter.mpr ⟨hc, hi⟩)
  · simpa [hi] using h
set_option maxRecDepth 65536 in
theorem w_c0 : (Jvm.Cond.code x code maxLocals ret).before args0 about1 = true := code_word (m := ⟨1, 1⟩) (meth := k1m1) (c := k1c1) (by decide +kernel) rfl rfl rfl (by decide +kernel)
set_option maxRecDepth 65536 in
theorem w_c1 : (Jvm.Cond.code ({ cls := "com/example/baseload/baseload/solve/MoveBoundAfterPinLaw", name := "skip", desc := "(II)I" } : Jvm.MethodName) method_3_code (2 : Nat) (Option.some Jvm.ClassFile.FieldType.int)).before args0 about1 = true := code_word (m := ⟨1, 2⟩) (meth := k1m2) (c := k1c2) (by decide +kernel) rfl rfl rfl (by decide +kernel)
set_option maxRecDepth 65536 in
theorem w_c2 : (Jvm.Cond.code ({ cls := "com/example/baseload/baseload/solve/MoveBound", name := "after", desc := "([III)[I" } : Jvm.MethodName) prog_47_method_3_code (10 : Nat) (Option.some (Jvm.ClassFile.FieldType.array Jvm.ClassFile.FieldType.int))).before args0 about1 = true := code_word (m := ⟨2, 0⟩) (meth := k2m0) (c := k2c0) (by decide +kernel) rfl rfl rfl (by decide +kernel)
set_option maxRecDepth 65536 in
theorem w_c3 : (Jvm.Cond.code ({ cls := "com/example/baseload/baseload/solve/MoveBoundAfterPinLaw", name := "at", desc := "([II[II)Z" } : Jvm.MethodName) method_4_code (4 : Nat) (Option.some Jvm.ClassFile.FieldType.boolean)).before args0 about1 = true := code_word (m := ⟨1, 3⟩) (meth := k1m3) (c := k1c3) (by decide +kernel) rfl rfl rfl (by decide +kernel)
def codes1 : List Jvm.Cond := [Jvm.Cond.code x code maxLocals ret, Jvm.Cond.code ({ cls := "com/example/baseload/baseload/solve/MoveBoundAfterPinLaw", name := "skip", desc := "(II)I" } : Jvm.MethodName) method_3_code (2 : Nat) (Option.some Jvm.ClassFile.FieldType.int), Jvm.Cond.code ({ cls := "com/example/baseload/baseload/solve/MoveBound", name := "after", desc := "([III)[I" } : Jvm.MethodName) prog_47_method_3_code (10 : Nat) (Option.some (Jvm.ClassFile.FieldType.array Jvm.ClassFile.FieldType.int)), Jvm.Cond.code ({ cls := "com/example/baseload/baseload/solve/MoveBoundAfterPinLaw", name := "at", desc := "([II[II)Z" } : Jvm.MethodName) method_4_code (4 : Nat) (Option.some Jvm.ClassFile.FieldType.boolean)]
set_option maxRecDepth 65536 in
theorem codes_eq : words1.filter isCode = codes1 := rfl
theorem w_codes : ∀ c ∈ words1.filter isCode, c.before args0 about1 = true := by
  rw [codes_eq]
  intro c hc
  simp only [codes1, List.mem_cons, List.not_mem_nil, or_false] at hc
  rcases hc with rfl | rfl | rfl | rfl
  · exact w_c0
  · exact w_c1
  · exact w_c2
  · exact w_c3
set_option maxRecDepth 65536 in
theorem w_t1 : words1.all (fun c => isCode c || c.before args0 about1) = true := by decide +kernel
theorem w_tables : (allAtoms (Jvm.Cond.code x code maxLocals ret :: tables_1)).before args0 about1 = true := by
  rw [allAtoms_all]
  show words1.all (fun c => c.before args0 about1) = true
  refine all_split ?_ w_codes
  rw [w_t1]
set_option maxRecDepth 65536 in
theorem w_case : (Jvm.Cond.and given_1 narrow_1).before args0 about1 = true := by decide +kernel
theorem w_applies : (headSpec (Jvm.Cond.code x code maxLocals ret :: tables_1) room_1).applies x e0.platform about1 = true :=
  (Spec.applies_iff w_frames).mpr ⟨w_running, w_runnable, w_alone, w_named, w_hears, w_ripe, w_room, w_tables⟩
theorem atStart : AtStart classFile x code maxLocals ret World_1 tables_1 room_1 Calls_1 rest_1 Pre_1 launch0 p0 e0 about1 theMethod args0 below0 :=
  ⟨lists_1, trivial, launch0.admits_env _ _ _, launch0.least_env, fairChoices_fair.cas, fairChoices_fair.clock, w_frames, w_args, w_heap, w_applies, trivial, trivial, w_case⟩
end start1
theorem witness_1 : WitnessClaimed_1 := ⟨start1.p0, start1.e0, start1.about1, start1.theMethod, start1.args0, start1.below0, start1.atStart⟩
end Jvm.Pilot.@@N@@
