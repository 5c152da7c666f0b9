import JvmDerived
import JvmDerived.Pilot.@@N@@Statement
import JvmDerived.Pilot.@@N@@Code
set_option linter.unusedVariables false
set_option linter.unusedSimpArgs false
namespace Jvm.OwnGo
open Sem ClassFile Op Lib Jvm.Stand Jvm.Free Jvm.LawKit Jvm.RoadKit
/-- the context of one walk: program, launch, environment, room, start, method, arguments, frames below, the method's record, its code, the tables' state, the words' arguments, the first new address -/
abbrev Cx : Type := Program × Launch × Env × Room × State × MethodId × Array Value × List Frame × Method × Code × State × Array Value × Nat × (Outcome → State → List Loc → Prop) × Nat × State
abbrev Cx.p (κ : Cx) : Program := κ.1
abbrev Cx.l (κ : Cx) : Launch := κ.2.1
abbrev Cx.e (κ : Cx) : Env := κ.2.2.1
abbrev Cx.R (κ : Cx) : Room := κ.2.2.2.1
abbrev Cx.s (κ : Cx) : State := κ.2.2.2.2.1
abbrev Cx.m (κ : Cx) : MethodId := κ.2.2.2.2.2.1
abbrev Cx.args (κ : Cx) : Array Value := κ.2.2.2.2.2.2.1
abbrev Cx.below (κ : Cx) : List Frame := κ.2.2.2.2.2.2.2.1
abbrev Cx.meth (κ : Cx) : Method := κ.2.2.2.2.2.2.2.2.1
abbrev Cx.c (κ : Cx) : Code := κ.2.2.2.2.2.2.2.2.2.1
abbrev Cx.Z (κ : Cx) : State := κ.2.2.2.2.2.2.2.2.2.2.1
abbrev Cx.a0 (κ : Cx) : Array Value := κ.2.2.2.2.2.2.2.2.2.2.2.1
abbrev Cx.n0 (κ : Cx) : Nat := κ.2.2.2.2.2.2.2.2.2.2.2.2.1
abbrev Cx.E (κ : Cx) : Outcome → State → List Loc → Prop := κ.2.2.2.2.2.2.2.2.2.2.2.2.2.1
abbrev Cx.kmin (κ : Cx) : Nat := κ.2.2.2.2.2.2.2.2.2.2.2.2.2.2.1
abbrev Cx.s0 (κ : Cx) : State := κ.2.2.2.2.2.2.2.2.2.2.2.2.2.2.2
/-- what is known of the context throughout the walk of a body -/
def OkK (km : Nat) (κ : Cx) (l : Launch) (Z : State) (a0 : Array Value) (n0 : Nat) (R : Room) (own nm : String) (bytes : ByteArray) (maxL : Nat) (ret : Option FieldType) : Prop :=
  κ.p.tables.exec = Jvm.exec ∧ κ.c.code = bytes ∧ κ.c.maxLocals = maxL ∧ κ.Z.Warmed39 κ.s.vm ∧ κ.s.vm.findClass own = some κ.m.cls ∧ κ.meth.sig.returnType = ret ∧ κ.meth.locks = false ∧ κ.meth.name = nm ∧ κ.l = l ∧ κ.Z = Z ∧ κ.a0 = a0 ∧ κ.n0 = n0 ∧ κ.R = R ∧ κ.kmin = km ∧ (∀ o t L, FrameEnd κ.s o t L κ.R.cells κ.R.slots → κ.kmin ≤ t.heap.size → κ.E o t L)
abbrev Ok (κ : Cx) (l : Launch) (Z : State) (a0 : Array Value) (n0 : Nat) (R : Room) (own nm : String) (bytes : ByteArray) (maxL : Nat) (ret : Option FieldType) : Prop := OkK 0 κ l Z a0 n0 R own nm bytes maxL ret
section B
variable {km : Nat} {κ : Cx} {l : Launch} {Z : State} {a0 : Array Value} {n0 : Nat} {R : Room} {own nm : String} {bytes : ByteArray} {maxL : Nat} {ret : Option FieldType}
theorem OkK.exec (B : OkK km κ l Z a0 n0 R own nm bytes maxL ret) : κ.p.tables.exec = Jvm.exec := B.1
theorem OkK.byt (B : OkK km κ l Z a0 n0 R own nm bytes maxL ret) : κ.c.code = bytes := B.2.1
theorem OkK.mxl (B : OkK km κ l Z a0 n0 R own nm bytes maxL ret) : κ.c.maxLocals = maxL := B.2.2.1
theorem OkK.warm (B : OkK km κ l Z a0 n0 R own nm bytes maxL ret) : Z.Warmed39 κ.s.vm := B.2.2.2.2.2.2.2.2.2.1 ▸ B.2.2.2.1
theorem OkK.hown (B : OkK km κ l Z a0 n0 R own nm bytes maxL ret) : κ.s.vm.findClass own = some κ.m.cls := B.2.2.2.2.1
theorem OkK.rets (B : OkK km κ l Z a0 n0 R own nm bytes maxL ret) : κ.meth.sig.returnType = ret := B.2.2.2.2.2.1
theorem OkK.nolock (B : OkK km κ l Z a0 n0 R own nm bytes maxL ret) : κ.meth.locks = false := B.2.2.2.2.2.2.1
theorem OkK.name (B : OkK km κ l Z a0 n0 R own nm bytes maxL ret) : κ.meth.name = nm := B.2.2.2.2.2.2.2.1
theorem OkK.hl (B : OkK km κ l Z a0 n0 R own nm bytes maxL ret) : κ.l = l := B.2.2.2.2.2.2.2.2.1
theorem OkK.hn (B : OkK km κ l Z a0 n0 R own nm bytes maxL ret) : κ.n0 = n0 := B.2.2.2.2.2.2.2.2.2.2.2.1
theorem OkK.room (B : OkK km κ l Z a0 n0 R own nm bytes maxL ret) : κ.R = R := B.2.2.2.2.2.2.2.2.2.2.2.2.1
theorem OkK.hkm (B : OkK km κ l Z a0 n0 R own nm bytes maxL ret) : κ.kmin = km := B.2.2.2.2.2.2.2.2.2.2.2.2.2.1
theorem OkK.hE (B : OkK km κ l Z a0 n0 R own nm bytes maxL ret) : ∀ o t L, FrameEnd κ.s o t L κ.R.cells κ.R.slots → κ.kmin ≤ t.heap.size → κ.E o t L := B.2.2.2.2.2.2.2.2.2.2.2.2.2.2
end B
/-- FROM HERE THE RUN ENDS AS Q SAYS: heap h, k cells and n slots made so far, the frame at pc with locals L and operands st -/
def Go (κ : Cx) (Q : Option Value → Heap → Prop) (h : Heap) (k n pc : Nat) (L : Array Slot) (st : List Value) : Prop :=
  ∀ (T : State) (locs : List Loc), Stand κ.p κ.l κ.e κ.R κ.s κ.m κ.args κ.below κ.meth κ.c T locs k n → Fr κ.n0 locs → T.heap = h →
    ∃ t o, Steps κ.p.tables κ.e κ.below (T.setTop (mkF κ.m pc L st)) t ∧ t.status = .running ∧ Ended t κ.below o ∧ ∃ v L', o = .returned v ∧ (Q v t.heap ∧ Fr κ.n0 L') ∧ κ.E o t L'
/-- a decode fact with the next pc -/
def Dc (bytes : ByteArray) (pc : Nat) (i : Instr) (len pc' : Nat) : Prop := decode bytes pc = .ok (i, len) ∧ pc + len = pc'
/-- a branch's decode fact: the pc behind it, the pc that it goes to -/
def Db (bytes : ByteArray) (pc : Nat) (i : Instr) (o : Int) (pc1 pc2 : Nat) : Prop := decode bytes pc = .ok (i, 3) ∧ pc + 3 = pc1 ∧ (pc : Int) + o = (pc2 : Int)
/-- a body's contract: with these arguments at this heap it ends as Q says -/
def Ct (l : Launch) (Z : State) (n0 : Nat) (y : MethodName) (bytes : ByteArray) (maxL : Nat) (ret : Option FieldType) (ws : List Jvm.Cond) (rm : Room) (as' : Array Value) (h0 : Heap) (Q : Option Value → Heap → Prop) : Prop :=
  MetFree l y (head1 (Jvm.Cond.code y bytes maxL ret :: ws) rm) (fun a U => a = as' ∧ Z.Warmed39 U.vm ∧ U.heap = h0) (fun _ _ _ _ _ => True) (fun _ U o U' => ∃ v L, o = .returned v ∧ (Q v U'.heap ∧ Fr n0 L) ∧ FrameEnd U o U' L rm.cells rm.slots)
theorem Ct.of {l : Launch} {Z : State} {a0 : Array Value} {n0 : Nat} {y : MethodName} {bytes : ByteArray} {maxL : Nat} {ret : Option FieldType} {ws : List Jvm.Cond} {rm : Room} {as' : Array Value} {h0 : Heap} {Q : Option Value → Heap → Prop} {L0 : Array Slot}
    (hp : plainFor y = true) (hf : ∀ m : MethodId, entryFrame m as' maxL = mkF m 0 L0 [])
    (body : ∀ κ : Cx, Ok κ l Z a0 n0 rm y.cls y.name bytes maxL ret → Go κ Q h0 0 0 0 L0 []) : Ct l Z n0 y bytes maxL ret ws rm as' h0 Q := by
  refine MetFree.of_bodySF hp hisR ?_
  intro p e s m args below meth c s₁ Bd hml0 hP hK
  obtain ⟨rfl, hZ, hh⟩ := hP
  have hown : s.vm.findClass y.cls = some m.cls := findClass_of_methodNamed Bd.named
  have hnm := (name_of_methodNamed Bd.named Bd.method).1
  have X0 : Stand p l e rm s m args below meth c s₁ [] 0 0 := Stand.of_body Bd
  have e0 : s₁.heap = h0 := by rw [← hh, Bd.state]; rfl
  have q := body (p, l, e, rm, s, m, args, below, meth, c, Z, a0, n0, fun o t L => FrameEnd s o t L rm.cells rm.slots, 0, s) ⟨Bd.exec, Bd.bytes, hml0, hZ, hown, Bd.returns, Bd.notSynchronized, hnm, rfl, rfl, rfl, rfl, rfl, rfl, fun _ _ _ q _ => q⟩ s₁ [] X0 (Fr.nil n0) e0
  obtain ⟨t, o, h1, h2, h3, h4⟩ := q
  exact ⟨t, o, castTop (hf m) h1, h2, h3, h4⟩
section G
variable {km : Nat} {κ : Cx} {l : Launch} {Z : State} {a0 : Array Value} {n0 : Nat} {R : Room} {own nm : String} {bytes : ByteArray} {maxL : Nat} {ret : Option FieldType} {Q : Option Value → Heap → Prop} {h : Heap} {k n pc pc' pc1 pc2 : Nat} {L L' : Array Slot} {st st' : List Value} {o : Int} {x y : Int32} {u w : Int64} {a : Addr} {v v' : Value}
theorem go_step (hs : ∀ (T : State) (locs : List Loc), Stand κ.p κ.l κ.e κ.R κ.s κ.m κ.args κ.below κ.meth κ.c T locs k n → T.heap = h → ∀ target, Steps κ.p.tables κ.e κ.below (T.setTop (mkF κ.m pc' L' st')) target → Steps κ.p.tables κ.e κ.below (T.setTop (mkF κ.m pc L st)) target)
    (g : Go κ Q h k n pc' L' st') : Go κ Q h k n pc L st := fun T locs X N e => by
  obtain ⟨t, o, h1, h2⟩ := g T locs X N e
  exact ⟨t, o, hs T locs X e t h1, h2⟩
theorem go_cast {h' : Heap} {k' n' : Nat} (g : Go κ Q h' k' n' pc' L' st') (e1 : h' = h) (e2 : k' = k) (e3 : n' = n) (e4 : pc' = pc) (e5 : L' = L) (e6 : st' = st) : Go κ Q h k n pc L st := by
  subst e1 e2 e3 e4 e5 e6; exact g
theorem go_mono {Q' : Option Value → Heap → Prop} (g : Go κ Q h k n pc L st) (q : ∀ v h', Q v h' → Q' v h') : Go κ Q' h k n pc L st := fun T locs X N e => by
  obtain ⟨t, o, h1, h2, h3, v, L', h4, ⟨h5, h6⟩, h7⟩ := g T locs X N e
  exact ⟨t, o, h1, h2, h3, v, L', h4, ⟨q _ _ h5, h6⟩, h7⟩
theorem go_iadd (B : OkK km κ l Z a0 n0 R own nm bytes maxL ret) (hd : Dc bytes pc (.iadd) 1 pc') (g : Go κ Q h k n pc' L (.int (x + y) :: st)) : Go κ Q h k n pc L (.int y :: .int x :: st) := by
  obtain ⟨d, rfl⟩ := hd
  exact go_step (fun T locs X e t q => XS.iadd X.here B.exec rfl (hb B.byt d) rfl q) g
theorem go_isub (B : OkK km κ l Z a0 n0 R own nm bytes maxL ret) (hd : Dc bytes pc (.isub) 1 pc') (g : Go κ Q h k n pc' L (.int (x - y) :: st)) : Go κ Q h k n pc L (.int y :: .int x :: st) := by
  obtain ⟨d, rfl⟩ := hd
  exact go_step (fun T locs X e t q => XS.isub X.here B.exec rfl (hb B.byt d) rfl q) g
theorem go_iand (B : OkK km κ l Z a0 n0 R own nm bytes maxL ret) (hd : Dc bytes pc (.iand) 1 pc') (g : Go κ Q h k n pc' L (.int (x &&& y) :: st)) : Go κ Q h k n pc L (.int y :: .int x :: st) := by
  obtain ⟨d, rfl⟩ := hd
  exact go_step (fun T locs X e t q => XS.iand X.here B.exec rfl (hb B.byt d) rfl q) g
theorem go_imul (B : OkK km κ l Z a0 n0 R own nm bytes maxL ret) (hd : Dc bytes pc (.imul) 1 pc') (g : Go κ Q h k n pc' L (.int (x * y) :: st)) : Go κ Q h k n pc L (.int y :: .int x :: st) := by
  obtain ⟨d, rfl⟩ := hd
  exact go_step (fun T locs X e t q => XS.imul X.here B.exec rfl (hb B.byt d) rfl q) g
theorem go_ixor (B : OkK km κ l Z a0 n0 R own nm bytes maxL ret) (hd : Dc bytes pc (.ixor) 1 pc') (g : Go κ Q h k n pc' L (.int (x ^^^ y) :: st)) : Go κ Q h k n pc L (.int y :: .int x :: st) := by
  obtain ⟨d, rfl⟩ := hd
  exact go_step (fun T locs X e t q => XT.ixor X.here B.exec rfl (hb B.byt d) rfl q) g
theorem go_ior (B : OkK km κ l Z a0 n0 R own nm bytes maxL ret) (hd : Dc bytes pc (.ior) 1 pc') (g : Go κ Q h k n pc' L (.int (x ||| y) :: st)) : Go κ Q h k n pc L (.int y :: .int x :: st) := by
  obtain ⟨d, rfl⟩ := hd
  exact go_step (fun T locs X e t q => XT.ior X.here B.exec rfl (hb B.byt d) rfl q) g
theorem go_ishl (B : OkK km κ l Z a0 n0 R own nm bytes maxL ret) (hd : Dc bytes pc (.ishl) 1 pc') (g : Go κ Q h k n pc' L (.int (x <<< (y &&& 31)) :: st)) : Go κ Q h k n pc L (.int y :: .int x :: st) := by
  obtain ⟨d, rfl⟩ := hd
  exact go_step (fun T locs X e t q => XT.ishl X.here B.exec rfl (hb B.byt d) rfl q) g
theorem go_ishr (B : OkK km κ l Z a0 n0 R own nm bytes maxL ret) (hd : Dc bytes pc (.ishr) 1 pc') (g : Go κ Q h k n pc' L (.int (x >>> (y &&& 31)) :: st)) : Go κ Q h k n pc L (.int y :: .int x :: st) := by
  obtain ⟨d, rfl⟩ := hd
  exact go_step (fun T locs X e t q => XT.ishr X.here B.exec rfl (hb B.byt d) rfl q) g
theorem go_iushr (B : OkK km κ l Z a0 n0 R own nm bytes maxL ret) (hd : Dc bytes pc (.iushr) 1 pc') (g : Go κ Q h k n pc' L (.int (XT.ushr x y) :: st)) : Go κ Q h k n pc L (.int y :: .int x :: st) := by
  obtain ⟨d, rfl⟩ := hd
  exact go_step (fun T locs X e t q => XT.iushr X.here B.exec rfl (hb B.byt d) rfl q) g
theorem go_idiv (B : OkK km κ l Z a0 n0 R own nm bytes maxL ret) (hd : Dc bytes pc (.idiv) 1 pc') (hy : y ≠ 0) (g : Go κ Q h k n pc' L (.int (x / y) :: st)) : Go κ Q h k n pc L (.int y :: .int x :: st) := by
  obtain ⟨d, rfl⟩ := hd
  exact go_step (fun T locs X e t q => XS.idiv X.here B.exec rfl (hb B.byt d) rfl hy q) g
theorem go_irem (B : OkK km κ l Z a0 n0 R own nm bytes maxL ret) (hd : Dc bytes pc (.irem) 1 pc') (hy : y ≠ 0) (g : Go κ Q h k n pc' L (.int (x % y) :: st)) : Go κ Q h k n pc L (.int y :: .int x :: st) := by
  obtain ⟨d, rfl⟩ := hd
  exact go_step (fun T locs X e t q => iremM X B.exec rfl (hb B.byt d) rfl hy q) g
theorem go_ineg (B : OkK km κ l Z a0 n0 R own nm bytes maxL ret) (hd : Dc bytes pc (.ineg) 1 pc') (g : Go κ Q h k n pc' L (.int (-x) :: st)) : Go κ Q h k n pc L (.int x :: st) := by
  obtain ⟨d, rfl⟩ := hd
  exact go_step (fun T locs X e t q => XS.ineg X.here B.exec rfl (hb B.byt d) rfl q) g
theorem go_ladd (B : OkK km κ l Z a0 n0 R own nm bytes maxL ret) (hd : Dc bytes pc (.ladd) 1 pc') (g : Go κ Q h k n pc' L (.long (u + w) :: st)) : Go κ Q h k n pc L (.long w :: .long u :: st) := by
  obtain ⟨d, rfl⟩ := hd
  exact go_step (fun T locs X e t q => XT.ladd X.here B.exec rfl (hb B.byt d) rfl q) g
theorem go_lsub (B : OkK km κ l Z a0 n0 R own nm bytes maxL ret) (hd : Dc bytes pc (.lsub) 1 pc') (g : Go κ Q h k n pc' L (.long (u - w) :: st)) : Go κ Q h k n pc L (.long w :: .long u :: st) := by
  obtain ⟨d, rfl⟩ := hd
  exact go_step (fun T locs X e t q => XT.lsub X.here B.exec rfl (hb B.byt d) rfl q) g
theorem go_lmul (B : OkK km κ l Z a0 n0 R own nm bytes maxL ret) (hd : Dc bytes pc (.lmul) 1 pc') (g : Go κ Q h k n pc' L (.long (u * w) :: st)) : Go κ Q h k n pc L (.long w :: .long u :: st) := by
  obtain ⟨d, rfl⟩ := hd
  exact go_step (fun T locs X e t q => XT.lmul X.here B.exec rfl (hb B.byt d) rfl q) g
theorem go_land (B : OkK km κ l Z a0 n0 R own nm bytes maxL ret) (hd : Dc bytes pc (.land) 1 pc') (g : Go κ Q h k n pc' L (.long (u &&& w) :: st)) : Go κ Q h k n pc L (.long w :: .long u :: st) := by
  obtain ⟨d, rfl⟩ := hd
  exact go_step (fun T locs X e t q => XT.land X.here B.exec rfl (hb B.byt d) rfl q) g
theorem go_lor (B : OkK km κ l Z a0 n0 R own nm bytes maxL ret) (hd : Dc bytes pc (.lor) 1 pc') (g : Go κ Q h k n pc' L (.long (u ||| w) :: st)) : Go κ Q h k n pc L (.long w :: .long u :: st) := by
  obtain ⟨d, rfl⟩ := hd
  exact go_step (fun T locs X e t q => XT.lor X.here B.exec rfl (hb B.byt d) rfl q) g
theorem go_lxor (B : OkK km κ l Z a0 n0 R own nm bytes maxL ret) (hd : Dc bytes pc (.lxor) 1 pc') (g : Go κ Q h k n pc' L (.long (u ^^^ w) :: st)) : Go κ Q h k n pc L (.long w :: .long u :: st) := by
  obtain ⟨d, rfl⟩ := hd
  exact go_step (fun T locs X e t q => XT.lxor X.here B.exec rfl (hb B.byt d) rfl q) g
theorem go_ldiv (B : OkK km κ l Z a0 n0 R own nm bytes maxL ret) (hd : Dc bytes pc (.ldiv) 1 pc') (hy : w ≠ 0) (g : Go κ Q h k n pc' L (.long (u / w) :: st)) : Go κ Q h k n pc L (.long w :: .long u :: st) := by
  obtain ⟨d, rfl⟩ := hd
  exact go_step (fun T locs X e t q => XT.ldiv X.here B.exec rfl (hb B.byt d) rfl hy q) g
theorem go_lrem (B : OkK km κ l Z a0 n0 R own nm bytes maxL ret) (hd : Dc bytes pc (.lrem) 1 pc') (hy : w ≠ 0) (g : Go κ Q h k n pc' L (.long (u - (u / w) * w) :: st)) : Go κ Q h k n pc L (.long w :: .long u :: st) := by
  obtain ⟨d, rfl⟩ := hd
  exact go_step (fun T locs X e t q => XT.lrem X.here B.exec rfl (hb B.byt d) rfl hy q) g
theorem go_lshl (B : OkK km κ l Z a0 n0 R own nm bytes maxL ret) (hd : Dc bytes pc (.lshl) 1 pc') (g : Go κ Q h k n pc' L (.long (u <<< (y.toInt64 &&& 63)) :: st)) : Go κ Q h k n pc L (.int y :: .long u :: st) := by
  obtain ⟨d, rfl⟩ := hd
  exact go_step (fun T locs X e t q => XT.lshl X.here B.exec rfl (hb B.byt d) rfl q) g
theorem go_lshr (B : OkK km κ l Z a0 n0 R own nm bytes maxL ret) (hd : Dc bytes pc (.lshr) 1 pc') (g : Go κ Q h k n pc' L (.long (u >>> (y.toInt64 &&& 63)) :: st)) : Go κ Q h k n pc L (.int y :: .long u :: st) := by
  obtain ⟨d, rfl⟩ := hd
  exact go_step (fun T locs X e t q => XT.lshr X.here B.exec rfl (hb B.byt d) rfl q) g
theorem go_lushr (B : OkK km κ l Z a0 n0 R own nm bytes maxL ret) (hd : Dc bytes pc (.lushr) 1 pc') (g : Go κ Q h k n pc' L (.long (XT.ushrL u y) :: st)) : Go κ Q h k n pc L (.int y :: .long u :: st) := by
  obtain ⟨d, rfl⟩ := hd
  exact go_step (fun T locs X e t q => XT.lushr X.here B.exec rfl (hb B.byt d) rfl q) g
theorem go_lneg (B : OkK km κ l Z a0 n0 R own nm bytes maxL ret) (hd : Dc bytes pc (.lneg) 1 pc') (g : Go κ Q h k n pc' L (.long (-u) :: st)) : Go κ Q h k n pc L (.long u :: st) := by
  obtain ⟨d, rfl⟩ := hd
  exact go_step (fun T locs X e t q => XT.lneg X.here B.exec rfl (hb B.byt d) rfl q) g
theorem go_i2l (B : OkK km κ l Z a0 n0 R own nm bytes maxL ret) (hd : Dc bytes pc (.i2l) 1 pc') (g : Go κ Q h k n pc' L (.long x.toInt64 :: st)) : Go κ Q h k n pc L (.int x :: st) := by
  obtain ⟨d, rfl⟩ := hd
  exact go_step (fun T locs X e t q => XT.i2l X.here B.exec rfl (hb B.byt d) rfl q) g
theorem go_l2i (B : OkK km κ l Z a0 n0 R own nm bytes maxL ret) (hd : Dc bytes pc (.l2i) 1 pc') (g : Go κ Q h k n pc' L (.int u.toInt32 :: st)) : Go κ Q h k n pc L (.long u :: st) := by
  obtain ⟨d, rfl⟩ := hd
  exact go_step (fun T locs X e t q => XT.l2i X.here B.exec rfl (hb B.byt d) rfl q) g
theorem go_i2b (B : OkK km κ l Z a0 n0 R own nm bytes maxL ret) (hd : Dc bytes pc (.i2b) 1 pc') (g : Go κ Q h k n pc' L (.int x.toInt8.toInt32 :: st)) : Go κ Q h k n pc L (.int x :: st) := by
  obtain ⟨d, rfl⟩ := hd
  exact go_step (fun T locs X e t q => XT.i2b X.here B.exec rfl (hb B.byt d) rfl q) g
theorem go_i2c (B : OkK km κ l Z a0 n0 R own nm bytes maxL ret) (hd : Dc bytes pc (.i2c) 1 pc') (g : Go κ Q h k n pc' L (.int x.toUInt32.toUInt16.toUInt32.toInt32 :: st)) : Go κ Q h k n pc L (.int x :: st) := by
  obtain ⟨d, rfl⟩ := hd
  exact go_step (fun T locs X e t q => XT.i2c X.here B.exec rfl (hb B.byt d) rfl q) g
theorem go_lcmp (B : OkK km κ l Z a0 n0 R own nm bytes maxL ret) (hd : Dc bytes pc (.lcmp) 1 pc') (g : Go κ Q h k n pc' L (.int (XT.cmpL u w) :: st)) : Go κ Q h k n pc L (.long w :: .long u :: st) := by
  obtain ⟨d, rfl⟩ := hd
  exact go_step (fun T locs X e t q => XT.lcmp X.here B.exec rfl (hb B.byt d) rfl q) g
theorem go_pop (B : OkK km κ l Z a0 n0 R own nm bytes maxL ret) (hd : Dc bytes pc (.pop) 1 pc') (hc : v.category = 1) (g : Go κ Q h k n pc' L (st)) : Go κ Q h k n pc L (v :: st) := by
  obtain ⟨d, rfl⟩ := hd
  exact go_step (fun T locs X e t q => XT.pop X.here B.exec rfl (hb B.byt d) rfl hc q) g
theorem go_dup (B : OkK km κ l Z a0 n0 R own nm bytes maxL ret) (hd : Dc bytes pc (.dup) 1 pc') (hc : v.category = 1) (g : Go κ Q h k n pc' L (v :: v :: st)) : Go κ Q h k n pc L (v :: st) := by
  obtain ⟨d, rfl⟩ := hd
  exact go_step (fun T locs X e t q => XS.dup X.here B.exec rfl (hb B.byt d) rfl hc q) g
theorem go_dup_x1 (B : OkK km κ l Z a0 n0 R own nm bytes maxL ret) (hd : Dc bytes pc (.dup_x1) 1 pc') (hc : v.category = 1) (hc' : v'.category = 1) (g : Go κ Q h k n pc' L (v :: v' :: v :: st)) : Go κ Q h k n pc L (v :: v' :: st) := by
  obtain ⟨d, rfl⟩ := hd
  exact go_step (fun T locs X e t q => XT.dupX1 X.here B.exec rfl (hb B.byt d) rfl hc hc' q) g
theorem go_dup2 (B : OkK km κ l Z a0 n0 R own nm bytes maxL ret) (hd : Dc bytes pc (.dup2) 1 pc') (hc : v.category = 1) (hc' : v'.category = 1) (g : Go κ Q h k n pc' L (v :: v' :: v :: v' :: st)) : Go κ Q h k n pc L (v :: v' :: st) := by
  obtain ⟨d, rfl⟩ := hd
  exact go_step (fun T locs X e t q => XT.dup2 X.here B.exec rfl (hb B.byt d) rfl hc hc' q) g
theorem go_dup2l (B : OkK km κ l Z a0 n0 R own nm bytes maxL ret) (hd : Dc bytes pc (.dup2) 1 pc') (g : Go κ Q h k n pc' L (.long u :: .long u :: st)) : Go κ Q h k n pc L (.long u :: st) := by
  obtain ⟨d, rfl⟩ := hd
  exact go_step (fun T locs X e t q => XT.dup2L X.here B.exec rfl (hb B.byt d) rfl q) g
theorem go_iconst (B : OkK km κ l Z a0 n0 R own nm bytes maxL ret) (hd : Dc bytes pc (.iconst o) 1 pc') (hv : Int32.ofInt o = x) (g : Go κ Q h k n pc' L (.int x :: st)) : Go κ Q h k n pc L (st) := by
  obtain ⟨d, rfl⟩ := hd
  exact go_step (fun T locs X e t q => XT.iconstV X.here B.exec rfl x (hb B.byt d) hv q) g
theorem go_bipush (B : OkK km κ l Z a0 n0 R own nm bytes maxL ret) (hd : Dc bytes pc (.bipush o) 2 pc') (hv : (Int8.ofInt o).toInt32 = x) (g : Go κ Q h k n pc' L (.int x :: st)) : Go κ Q h k n pc L (st) := by
  obtain ⟨d, rfl⟩ := hd
  exact go_step (fun T locs X e t q => XT.bipushV X.here B.exec rfl x (hb B.byt d) hv q) g
theorem go_sipush (B : OkK km κ l Z a0 n0 R own nm bytes maxL ret) (hd : Dc bytes pc (.sipush o) 3 pc') (hv : (Int16.ofInt o).toInt32 = x) (g : Go κ Q h k n pc' L (.int x :: st)) : Go κ Q h k n pc L (st) := by
  obtain ⟨d, rfl⟩ := hd
  exact go_step (fun T locs X e t q => XT.sipushV X.here B.exec rfl x (hb B.byt d) hv q) g
theorem go_lconst (B : OkK km κ l Z a0 n0 R own nm bytes maxL ret) {j : Fin 2} (hd : Dc bytes pc (.lconst j) 1 pc') (hv : Int64.ofNat j = u) (g : Go κ Q h k n pc' L (.long u :: st)) : Go κ Q h k n pc L (st) := by
  obtain ⟨d, rfl⟩ := hd
  exact go_step (fun T locs X e t q => XT.lconstV X.here B.exec rfl u (hb B.byt d) hv q) g
theorem go_aconst_null (B : OkK km κ l Z a0 n0 R own nm bytes maxL ret) (hd : Dc bytes pc (.aconst_null) 1 pc') (g : Go κ Q h k n pc' L (.null :: st)) : Go κ Q h k n pc L (st) := by
  obtain ⟨d, rfl⟩ := hd
  exact go_step (fun T locs X e t q => XS.aconstNull X.here B.exec rfl (hb B.byt d) q) g
theorem go_iload_n (B : OkK km κ l Z a0 n0 R own nm bytes maxL ret) {j : Fin 4} (hd : Dc bytes pc (.iload_n j) 1 pc') (hl : L[j.val]? = some (.val (.int x))) (g : Go κ Q h k n pc' L (.int x :: st)) : Go κ Q h k n pc L (st) := by
  obtain ⟨d, rfl⟩ := hd
  exact go_step (fun T locs X e t q => XS.iloadN X.here B.exec rfl (hb B.byt d) hl q) g
theorem go_iload (B : OkK km κ l Z a0 n0 R own nm bytes maxL ret) {j : Nat} (hd : Dc bytes pc (.iload j) 2 pc') (hl : L[j]? = some (.val (.int x))) (g : Go κ Q h k n pc' L (.int x :: st)) : Go κ Q h k n pc L (st) := by
  obtain ⟨d, rfl⟩ := hd
  exact go_step (fun T locs X e t q => XS.iload X.here B.exec rfl (hb B.byt d) hl q) g
theorem go_istore_n (B : OkK km κ l Z a0 n0 R own nm bytes maxL ret) {j : Fin 4} (L' : Array Slot) (hd : Dc bytes pc (.istore_n j) 1 pc') (hl : storeLocals L j.val (.int x) = some L') (g : Go κ Q h k n pc' L' st) : Go κ Q h k n pc L (.int x :: st) := by
  obtain ⟨d, rfl⟩ := hd
  exact go_step (fun T locs X e t q => XS.istoreN X.here B.exec rfl (hb B.byt d) rfl hl q) g
theorem go_istore (B : OkK km κ l Z a0 n0 R own nm bytes maxL ret) {j : Nat} (L' : Array Slot) (hd : Dc bytes pc (.istore j) 2 pc') (hl : storeLocals L j (.int x) = some L') (g : Go κ Q h k n pc' L' st) : Go κ Q h k n pc L (.int x :: st) := by
  obtain ⟨d, rfl⟩ := hd
  exact go_step (fun T locs X e t q => XS.istore X.here B.exec rfl (hb B.byt d) rfl hl q) g
theorem go_lload_n (B : OkK km κ l Z a0 n0 R own nm bytes maxL ret) {j : Fin 4} (hd : Dc bytes pc (.lload_n j) 1 pc') (hl : L[j.val]? = some (.val (.long u))) (g : Go κ Q h k n pc' L (.long u :: st)) : Go κ Q h k n pc L (st) := by
  obtain ⟨d, rfl⟩ := hd
  exact go_step (fun T locs X e t q => XT.lloadN X.here B.exec rfl (hb B.byt d) hl q) g
theorem go_lload (B : OkK km κ l Z a0 n0 R own nm bytes maxL ret) {j : Nat} (hd : Dc bytes pc (.lload j) 2 pc') (hl : L[j]? = some (.val (.long u))) (g : Go κ Q h k n pc' L (.long u :: st)) : Go κ Q h k n pc L (st) := by
  obtain ⟨d, rfl⟩ := hd
  exact go_step (fun T locs X e t q => XT.lload X.here B.exec rfl (hb B.byt d) hl q) g
theorem go_lstore_n (B : OkK km κ l Z a0 n0 R own nm bytes maxL ret) {j : Fin 4} (L' : Array Slot) (hd : Dc bytes pc (.lstore_n j) 1 pc') (hl : storeLocals L j.val (.long u) = some L') (g : Go κ Q h k n pc' L' st) : Go κ Q h k n pc L (.long u :: st) := by
  obtain ⟨d, rfl⟩ := hd
  exact go_step (fun T locs X e t q => XT.lstoreN X.here B.exec rfl (hb B.byt d) rfl hl q) g
theorem go_lstore (B : OkK km κ l Z a0 n0 R own nm bytes maxL ret) {j : Nat} (L' : Array Slot) (hd : Dc bytes pc (.lstore j) 2 pc') (hl : storeLocals L j (.long u) = some L') (g : Go κ Q h k n pc' L' st) : Go κ Q h k n pc L (.long u :: st) := by
  obtain ⟨d, rfl⟩ := hd
  exact go_step (fun T locs X e t q => XT.lstore X.here B.exec rfl (hb B.byt d) rfl hl q) g
theorem go_aload_n (B : OkK km κ l Z a0 n0 R own nm bytes maxL ret) {j : Fin 4} (hd : Dc bytes pc (.aload_n j) 1 pc') (hl : L[j.val]? = some (.val (v))) (hv : v.isRef = true) (g : Go κ Q h k n pc' L (v :: st)) : Go κ Q h k n pc L (st) := by
  obtain ⟨d, rfl⟩ := hd
  exact go_step (fun T locs X e t q => XS.aloadN X.here B.exec rfl (hb B.byt d) hl hv q) g
theorem go_aload (B : OkK km κ l Z a0 n0 R own nm bytes maxL ret) {j : Nat} (hd : Dc bytes pc (.aload j) 2 pc') (hl : L[j]? = some (.val (v))) (hv : v.isRef = true) (g : Go κ Q h k n pc' L (v :: st)) : Go κ Q h k n pc L (st) := by
  obtain ⟨d, rfl⟩ := hd
  exact go_step (fun T locs X e t q => XS.aload X.here B.exec rfl (hb B.byt d) hl hv q) g
theorem go_astore_n (B : OkK km κ l Z a0 n0 R own nm bytes maxL ret) {j : Fin 4} (L' : Array Slot) (hd : Dc bytes pc (.astore_n j) 1 pc') (hv : v.isRef = true) (hl : storeLocals L j.val (v) = some L') (g : Go κ Q h k n pc' L' st) : Go κ Q h k n pc L (v :: st) := by
  obtain ⟨d, rfl⟩ := hd
  exact go_step (fun T locs X e t q => XS.astoreN X.here B.exec rfl (hb B.byt d) rfl hv hl q) g
theorem go_astore (B : OkK km κ l Z a0 n0 R own nm bytes maxL ret) {j : Nat} (L' : Array Slot) (hd : Dc bytes pc (.astore j) 2 pc') (hv : v.isRef = true) (hl : storeLocals L j (v) = some L') (g : Go κ Q h k n pc' L' st) : Go κ Q h k n pc L (v :: st) := by
  obtain ⟨d, rfl⟩ := hd
  exact go_step (fun T locs X e t q => XS.astore X.here B.exec rfl (hb B.byt d) rfl hv hl q) g
theorem go_iinc (B : OkK km κ l Z a0 n0 R own nm bytes maxL ret) {j : Nat} {z : Int32} (L' : Array Slot) (hd : Dc bytes pc (.iinc j o) 3 pc') (hz : Int32.ofInt o = z) (hl : L[j]? = some (.val (.int x))) (hl' : storeLocals L j (.int (x + z)) = some L') (g : Go κ Q h k n pc' L' st) : Go κ Q h k n pc L st := by
  obtain ⟨d, rfl⟩ := hd
  subst hz
  exact go_step (fun T locs X e t q => XS.iinc X.here B.exec rfl (hb B.byt d) hl hl' q) g
theorem go_goto (B : OkK km κ l Z a0 n0 R own nm bytes maxL ret) (hd : Db bytes pc (.goto o) o pc1 pc2) (g : Go κ Q h k n pc2 L st) : Go κ Q h k n pc L st := by
  obtain ⟨d, -, e2⟩ := hd
  exact go_step (fun T locs X e t q => XS.goto X.here B.exec rfl (pc0 := pc) rfl (hb B.byt d) (by omega) (by omega) q) g
theorem go_icmpeq (B : OkK km κ l Z a0 n0 R own nm bytes maxL ret) (hd : Db bytes pc (.if_icmp .eq o) o pc1 pc2) (gt : x = y → Go κ Q h k n pc2 L st) (gf : ¬ x = y → Go κ Q h k n pc1 L st) : Go κ Q h k n pc L (.int y :: .int x :: st) := by
  obtain ⟨d, rfl, e2⟩ := hd
  rcases Classical.em (x = y) with q0 | q0
  · exact go_step (fun T locs X e t q => XS.icmpYes X.here B.exec rfl (pc0 := pc) rfl (hb B.byt d) rfl (XT.ii_eq_t q0) (by omega) (by omega) q) (gt q0)
  · exact go_step (fun T locs X e t q => XS.icmpNo X.here B.exec rfl (hb B.byt d) rfl (XT.ii_eq_f q0) q) (gf q0)
theorem go_icmpne (B : OkK km κ l Z a0 n0 R own nm bytes maxL ret) (hd : Db bytes pc (.if_icmp .ne o) o pc1 pc2) (gt : ¬ x = y → Go κ Q h k n pc2 L st) (gf : x = y → Go κ Q h k n pc1 L st) : Go κ Q h k n pc L (.int y :: .int x :: st) := by
  obtain ⟨d, rfl, e2⟩ := hd
  rcases Classical.em (¬ x = y) with q0 | q0
  · exact go_step (fun T locs X e t q => XS.icmpYes X.here B.exec rfl (pc0 := pc) rfl (hb B.byt d) rfl (XT.ii_ne_t q0) (by omega) (by omega) q) (gt q0)
  · exact go_step (fun T locs X e t q => XS.icmpNo X.here B.exec rfl (hb B.byt d) rfl (XT.ii_ne_f (Classical.not_not.mp q0)) q) (gf (Classical.not_not.mp q0))
theorem go_icmplt (B : OkK km κ l Z a0 n0 R own nm bytes maxL ret) (hd : Db bytes pc (.if_icmp .lt o) o pc1 pc2) (gt : x < y → Go κ Q h k n pc2 L st) (gf : ¬ x < y → Go κ Q h k n pc1 L st) : Go κ Q h k n pc L (.int y :: .int x :: st) := by
  obtain ⟨d, rfl, e2⟩ := hd
  rcases Classical.em (x < y) with q0 | q0
  · exact go_step (fun T locs X e t q => XS.icmpYes X.here B.exec rfl (pc0 := pc) rfl (hb B.byt d) rfl (XT.ii_lt_t q0) (by omega) (by omega) q) (gt q0)
  · exact go_step (fun T locs X e t q => XS.icmpNo X.here B.exec rfl (hb B.byt d) rfl (XT.ii_lt_f q0) q) (gf q0)
theorem go_icmpge (B : OkK km κ l Z a0 n0 R own nm bytes maxL ret) (hd : Db bytes pc (.if_icmp .ge o) o pc1 pc2) (gt : ¬ x < y → Go κ Q h k n pc2 L st) (gf : x < y → Go κ Q h k n pc1 L st) : Go κ Q h k n pc L (.int y :: .int x :: st) := by
  obtain ⟨d, rfl, e2⟩ := hd
  rcases Classical.em (¬ x < y) with q0 | q0
  · exact go_step (fun T locs X e t q => XS.icmpYes X.here B.exec rfl (pc0 := pc) rfl (hb B.byt d) rfl (XT.ii_ge_t q0) (by omega) (by omega) q) (gt q0)
  · exact go_step (fun T locs X e t q => XS.icmpNo X.here B.exec rfl (hb B.byt d) rfl (XT.ii_ge_f (Classical.not_not.mp q0)) q) (gf (Classical.not_not.mp q0))
theorem go_icmpgt (B : OkK km κ l Z a0 n0 R own nm bytes maxL ret) (hd : Db bytes pc (.if_icmp .gt o) o pc1 pc2) (gt : y < x → Go κ Q h k n pc2 L st) (gf : ¬ y < x → Go κ Q h k n pc1 L st) : Go κ Q h k n pc L (.int y :: .int x :: st) := by
  obtain ⟨d, rfl, e2⟩ := hd
  rcases Classical.em (y < x) with q0 | q0
  · exact go_step (fun T locs X e t q => XS.icmpYes X.here B.exec rfl (pc0 := pc) rfl (hb B.byt d) rfl (XT.ii_gt_t q0) (by omega) (by omega) q) (gt q0)
  · exact go_step (fun T locs X e t q => XS.icmpNo X.here B.exec rfl (hb B.byt d) rfl (XT.ii_gt_f q0) q) (gf q0)
theorem go_icmple (B : OkK km κ l Z a0 n0 R own nm bytes maxL ret) (hd : Db bytes pc (.if_icmp .le o) o pc1 pc2) (gt : ¬ y < x → Go κ Q h k n pc2 L st) (gf : y < x → Go κ Q h k n pc1 L st) : Go κ Q h k n pc L (.int y :: .int x :: st) := by
  obtain ⟨d, rfl, e2⟩ := hd
  rcases Classical.em (¬ y < x) with q0 | q0
  · exact go_step (fun T locs X e t q => XS.icmpYes X.here B.exec rfl (pc0 := pc) rfl (hb B.byt d) rfl (XT.ii_le_t q0) (by omega) (by omega) q) (gt q0)
  · exact go_step (fun T locs X e t q => XS.icmpNo X.here B.exec rfl (hb B.byt d) rfl (XT.ii_le_f (Classical.not_not.mp q0)) q) (gf (Classical.not_not.mp q0))
theorem go_ifeq (B : OkK km κ l Z a0 n0 R own nm bytes maxL ret) (hd : Db bytes pc (.ifCond .eq o) o pc1 pc2) (gt : x = 0 → Go κ Q h k n pc2 L st) (gf : ¬ x = 0 → Go κ Q h k n pc1 L st) : Go κ Q h k n pc L (.int x :: st) := by
  obtain ⟨d, rfl, e2⟩ := hd
  rcases Classical.em (x = 0) with q0 | q0
  · exact go_step (fun T locs X e t q => XS.ifYes X.here B.exec rfl (pc0 := pc) rfl (hb B.byt d) rfl (XT.i0_eq_t q0) (by omega) (by omega) q) (gt q0)
  · exact go_step (fun T locs X e t q => XS.ifNo X.here B.exec rfl (hb B.byt d) rfl (XT.i0_eq_f q0) q) (gf q0)
theorem go_ifne (B : OkK km κ l Z a0 n0 R own nm bytes maxL ret) (hd : Db bytes pc (.ifCond .ne o) o pc1 pc2) (gt : ¬ x = 0 → Go κ Q h k n pc2 L st) (gf : x = 0 → Go κ Q h k n pc1 L st) : Go κ Q h k n pc L (.int x :: st) := by
  obtain ⟨d, rfl, e2⟩ := hd
  rcases Classical.em (¬ x = 0) with q0 | q0
  · exact go_step (fun T locs X e t q => XS.ifYes X.here B.exec rfl (pc0 := pc) rfl (hb B.byt d) rfl (XT.i0_ne_t q0) (by omega) (by omega) q) (gt q0)
  · exact go_step (fun T locs X e t q => XS.ifNo X.here B.exec rfl (hb B.byt d) rfl (XT.i0_ne_f (Classical.not_not.mp q0)) q) (gf (Classical.not_not.mp q0))
theorem go_iflt (B : OkK km κ l Z a0 n0 R own nm bytes maxL ret) (hd : Db bytes pc (.ifCond .lt o) o pc1 pc2) (gt : x < 0 → Go κ Q h k n pc2 L st) (gf : ¬ x < 0 → Go κ Q h k n pc1 L st) : Go κ Q h k n pc L (.int x :: st) := by
  obtain ⟨d, rfl, e2⟩ := hd
  rcases Classical.em (x < 0) with q0 | q0
  · exact go_step (fun T locs X e t q => XS.ifYes X.here B.exec rfl (pc0 := pc) rfl (hb B.byt d) rfl (XT.i0_lt_t q0) (by omega) (by omega) q) (gt q0)
  · exact go_step (fun T locs X e t q => XS.ifNo X.here B.exec rfl (hb B.byt d) rfl (XT.i0_lt_f q0) q) (gf q0)
theorem go_ifge (B : OkK km κ l Z a0 n0 R own nm bytes maxL ret) (hd : Db bytes pc (.ifCond .ge o) o pc1 pc2) (gt : ¬ x < 0 → Go κ Q h k n pc2 L st) (gf : x < 0 → Go κ Q h k n pc1 L st) : Go κ Q h k n pc L (.int x :: st) := by
  obtain ⟨d, rfl, e2⟩ := hd
  rcases Classical.em (¬ x < 0) with q0 | q0
  · exact go_step (fun T locs X e t q => XS.ifYes X.here B.exec rfl (pc0 := pc) rfl (hb B.byt d) rfl (XT.i0_ge_t q0) (by omega) (by omega) q) (gt q0)
  · exact go_step (fun T locs X e t q => XS.ifNo X.here B.exec rfl (hb B.byt d) rfl (XT.i0_ge_f (Classical.not_not.mp q0)) q) (gf (Classical.not_not.mp q0))
theorem go_ifgt (B : OkK km κ l Z a0 n0 R own nm bytes maxL ret) (hd : Db bytes pc (.ifCond .gt o) o pc1 pc2) (gt : 0 < x → Go κ Q h k n pc2 L st) (gf : ¬ 0 < x → Go κ Q h k n pc1 L st) : Go κ Q h k n pc L (.int x :: st) := by
  obtain ⟨d, rfl, e2⟩ := hd
  rcases Classical.em (0 < x) with q0 | q0
  · exact go_step (fun T locs X e t q => XS.ifYes X.here B.exec rfl (pc0 := pc) rfl (hb B.byt d) rfl (XT.i0_gt_t q0) (by omega) (by omega) q) (gt q0)
  · exact go_step (fun T locs X e t q => XS.ifNo X.here B.exec rfl (hb B.byt d) rfl (XT.i0_gt_f q0) q) (gf q0)
theorem go_ifle (B : OkK km κ l Z a0 n0 R own nm bytes maxL ret) (hd : Db bytes pc (.ifCond .le o) o pc1 pc2) (gt : ¬ 0 < x → Go κ Q h k n pc2 L st) (gf : 0 < x → Go κ Q h k n pc1 L st) : Go κ Q h k n pc L (.int x :: st) := by
  obtain ⟨d, rfl, e2⟩ := hd
  rcases Classical.em (¬ 0 < x) with q0 | q0
  · exact go_step (fun T locs X e t q => XS.ifYes X.here B.exec rfl (pc0 := pc) rfl (hb B.byt d) rfl (XT.i0_le_t q0) (by omega) (by omega) q) (gt q0)
  · exact go_step (fun T locs X e t q => XS.ifNo X.here B.exec rfl (hb B.byt d) rfl (XT.i0_le_f (Classical.not_not.mp q0)) q) (gf (Classical.not_not.mp q0))
theorem go_lifeq (B : OkK km κ l Z a0 n0 R own nm bytes maxL ret) (hd : Db bytes pc (.ifCond .eq o) o pc1 pc2) (gt : u = w → Go κ Q h k n pc2 L st) (gf : ¬ u = w → Go κ Q h k n pc1 L st) : Go κ Q h k n pc L (.int (XT.cmpL u w) :: st) := by
  obtain ⟨d, rfl, e2⟩ := hd
  rcases Classical.em (u = w) with q0 | q0
  · exact go_step (fun T locs X e t q => XS.ifYes X.here B.exec rfl (pc0 := pc) rfl (hb B.byt d) rfl (XT.ll_eq_t q0) (by omega) (by omega) q) (gt q0)
  · exact go_step (fun T locs X e t q => XS.ifNo X.here B.exec rfl (hb B.byt d) rfl (XT.ll_eq_f q0) q) (gf q0)
theorem go_lifne (B : OkK km κ l Z a0 n0 R own nm bytes maxL ret) (hd : Db bytes pc (.ifCond .ne o) o pc1 pc2) (gt : ¬ u = w → Go κ Q h k n pc2 L st) (gf : u = w → Go κ Q h k n pc1 L st) : Go κ Q h k n pc L (.int (XT.cmpL u w) :: st) := by
  obtain ⟨d, rfl, e2⟩ := hd
  rcases Classical.em (¬ u = w) with q0 | q0
  · exact go_step (fun T locs X e t q => XS.ifYes X.here B.exec rfl (pc0 := pc) rfl (hb B.byt d) rfl (XT.ll_ne_t q0) (by omega) (by omega) q) (gt q0)
  · exact go_step (fun T locs X e t q => XS.ifNo X.here B.exec rfl (hb B.byt d) rfl (XT.ll_ne_f (Classical.not_not.mp q0)) q) (gf (Classical.not_not.mp q0))
theorem go_liflt (B : OkK km κ l Z a0 n0 R own nm bytes maxL ret) (hd : Db bytes pc (.ifCond .lt o) o pc1 pc2) (gt : u < w → Go κ Q h k n pc2 L st) (gf : ¬ u < w → Go κ Q h k n pc1 L st) : Go κ Q h k n pc L (.int (XT.cmpL u w) :: st) := by
  obtain ⟨d, rfl, e2⟩ := hd
  rcases Classical.em (u < w) with q0 | q0
  · exact go_step (fun T locs X e t q => XS.ifYes X.here B.exec rfl (pc0 := pc) rfl (hb B.byt d) rfl (XT.ll_lt_t q0) (by omega) (by omega) q) (gt q0)
  · exact go_step (fun T locs X e t q => XS.ifNo X.here B.exec rfl (hb B.byt d) rfl (XT.ll_lt_f q0) q) (gf q0)
theorem go_lifge (B : OkK km κ l Z a0 n0 R own nm bytes maxL ret) (hd : Db bytes pc (.ifCond .ge o) o pc1 pc2) (gt : ¬ u < w → Go κ Q h k n pc2 L st) (gf : u < w → Go κ Q h k n pc1 L st) : Go κ Q h k n pc L (.int (XT.cmpL u w) :: st) := by
  obtain ⟨d, rfl, e2⟩ := hd
  rcases Classical.em (¬ u < w) with q0 | q0
  · exact go_step (fun T locs X e t q => XS.ifYes X.here B.exec rfl (pc0 := pc) rfl (hb B.byt d) rfl (XT.ll_ge_t q0) (by omega) (by omega) q) (gt q0)
  · exact go_step (fun T locs X e t q => XS.ifNo X.here B.exec rfl (hb B.byt d) rfl (XT.ll_ge_f (Classical.not_not.mp q0)) q) (gf (Classical.not_not.mp q0))
theorem go_lifgt (B : OkK km κ l Z a0 n0 R own nm bytes maxL ret) (hd : Db bytes pc (.ifCond .gt o) o pc1 pc2) (gt : w < u → Go κ Q h k n pc2 L st) (gf : ¬ w < u → Go κ Q h k n pc1 L st) : Go κ Q h k n pc L (.int (XT.cmpL u w) :: st) := by
  obtain ⟨d, rfl, e2⟩ := hd
  rcases Classical.em (w < u) with q0 | q0
  · exact go_step (fun T locs X e t q => XS.ifYes X.here B.exec rfl (pc0 := pc) rfl (hb B.byt d) rfl (XT.ll_gt_t q0) (by omega) (by omega) q) (gt q0)
  · exact go_step (fun T locs X e t q => XS.ifNo X.here B.exec rfl (hb B.byt d) rfl (XT.ll_gt_f q0) q) (gf q0)
theorem go_lifle (B : OkK km κ l Z a0 n0 R own nm bytes maxL ret) (hd : Db bytes pc (.ifCond .le o) o pc1 pc2) (gt : ¬ w < u → Go κ Q h k n pc2 L st) (gf : w < u → Go κ Q h k n pc1 L st) : Go κ Q h k n pc L (.int (XT.cmpL u w) :: st) := by
  obtain ⟨d, rfl, e2⟩ := hd
  rcases Classical.em (¬ w < u) with q0 | q0
  · exact go_step (fun T locs X e t q => XS.ifYes X.here B.exec rfl (pc0 := pc) rfl (hb B.byt d) rfl (XT.ll_le_t q0) (by omega) (by omega) q) (gt q0)
  · exact go_step (fun T locs X e t q => XS.ifNo X.here B.exec rfl (hb B.byt d) rfl (XT.ll_le_f (Classical.not_not.mp q0)) q) (gf (Classical.not_not.mp q0))
theorem go_acmpeq (B : OkK km κ l Z a0 n0 R own nm bytes maxL ret) (hd : Db bytes pc (.if_acmp .eq o) o pc1 pc2) (hv : v.isRef = true) (hv' : v'.isRef = true) (gt : v' = v → Go κ Q h k n pc2 L st) (gf : ¬ v' = v → Go κ Q h k n pc1 L st) : Go κ Q h k n pc L (v :: v' :: st) := by
  obtain ⟨d, rfl, e2⟩ := hd
  rcases Classical.em (v' = v) with q0 | q0
  · exact go_step (fun T locs X e t q => XT.acmpYes X.here B.exec rfl (pc0 := pc) rfl (hb B.byt d) rfl hv' hv (XT.aa_eq_t q0) (by omega) (by omega) q) (gt q0)
  · exact go_step (fun T locs X e t q => XT.acmpNo X.here B.exec rfl (hb B.byt d) rfl hv' hv (XT.aa_eq_f q0) q) (gf q0)
theorem go_acmpne (B : OkK km κ l Z a0 n0 R own nm bytes maxL ret) (hd : Db bytes pc (.if_acmp .ne o) o pc1 pc2) (hv : v.isRef = true) (hv' : v'.isRef = true) (gt : ¬ v' = v → Go κ Q h k n pc2 L st) (gf : v' = v → Go κ Q h k n pc1 L st) : Go κ Q h k n pc L (v :: v' :: st) := by
  obtain ⟨d, rfl, e2⟩ := hd
  rcases Classical.em (¬ v' = v) with q0 | q0
  · exact go_step (fun T locs X e t q => XT.acmpYes X.here B.exec rfl (pc0 := pc) rfl (hb B.byt d) rfl hv' hv (XT.aa_ne_t q0) (by omega) (by omega) q) (gt q0)
  · exact go_step (fun T locs X e t q => XT.acmpNo X.here B.exec rfl (hb B.byt d) rfl hv' hv (XT.aa_ne_f (Classical.not_not.mp q0)) q) (gf (Classical.not_not.mp q0))
theorem go_ifnull_t (B : OkK km κ l Z a0 n0 R own nm bytes maxL ret) (hd : Db bytes pc (.ifnull o) o pc1 pc2) (g : Go κ Q h k n pc2 L st) : Go κ Q h k n pc L (.null :: st) := by
  obtain ⟨d, rfl, e2⟩ := hd
  exact go_step (fun T locs X e t q => XS.ifnullYes X.here B.exec rfl (pc0 := pc) rfl (hb B.byt d) rfl (by omega) (by omega) q) g
theorem go_ifnull_f (B : OkK km κ l Z a0 n0 R own nm bytes maxL ret) (hd : Db bytes pc (.ifnull o) o pc1 pc2) (g : Go κ Q h k n pc1 L st) : Go κ Q h k n pc L (.ref a :: st) := by
  obtain ⟨d, rfl, e2⟩ := hd
  exact go_step (fun T locs X e t q => XS.ifnullNo X.here B.exec rfl (hb B.byt d) rfl q) g
theorem go_ifnonnull_t (B : OkK km κ l Z a0 n0 R own nm bytes maxL ret) (hd : Db bytes pc (.ifnonnull o) o pc1 pc2) (g : Go κ Q h k n pc2 L st) : Go κ Q h k n pc L (.ref a :: st) := by
  obtain ⟨d, rfl, e2⟩ := hd
  exact go_step (fun T locs X e t q => XT.ifnonnullYes X.here B.exec rfl (pc0 := pc) rfl (hb B.byt d) rfl (by omega) (by omega) q) g
theorem go_ifnonnull_f (B : OkK km κ l Z a0 n0 R own nm bytes maxL ret) (hd : Db bytes pc (.ifnonnull o) o pc1 pc2) (g : Go κ Q h k n pc1 L st) : Go κ Q h k n pc L (.null :: st) := by
  obtain ⟨d, rfl, e2⟩ := hd
  exact go_step (fun T locs X e t q => XT.ifnonnullNo X.here B.exec rfl (hb B.byt d) rfl q) g
/-! fields, objects, arrays, calls, returns -/
theorem go_getfield (B : OkK km κ l Z a0 n0 R own nm bytes maxL ret) {idx : Nat} {O fn d : String} (hd : Dc bytes pc (.getfield idx) 3 pc') (wl : (Jvm.Cond.fieldLink own idx O fn d).before a0 Z = true) (F : Fld Z h a O fn d v) (g : Go κ Q h k n pc' L (v :: st)) : Go κ Q h k n pc L (.ref a :: st) := fun T locs X N e => by
  obtain ⟨dd, rfl⟩ := hd
  obtain ⟨T', X', e', sp⟩ := getF X B.exec B.warm B.hown (host := "") (Or.inl wl) Via.refl e F (g := mkF κ.m pc L (.ref a :: st)) rfl rfl (hb B.byt dd)
  obtain ⟨t, o, h1, h2⟩ := g T' locs X' N e'
  exact ⟨t, o, sp _ h1, h2⟩
theorem go_getstatic (B : OkK km κ l Z a0 n0 R own nm bytes maxL ret) {idx : Nat} {O fn d : String} (hd : Dc bytes pc (.getstatic idx) 3 pc') (wl : (Jvm.Cond.fieldLink own idx O fn d).before a0 Z = true) (F : Sta Z h O fn d v) (g : Go κ Q h k n pc' L (v :: st)) : Go κ Q h k n pc L st := fun T locs X N e => by
  obtain ⟨dd, rfl⟩ := hd
  obtain ⟨T', X', e', sp⟩ := getS (host := "") X B.exec B.warm B.hown wl Via.refl e F (g := mkF κ.m pc L st) rfl (hb B.byt dd)
  obtain ⟨t, o, h1, h2⟩ := g T' locs X' N e'
  exact ⟨t, o, sp _ h1, h2⟩
theorem go_putfield (B : OkK km κ l Z a0 n0 R own nm bytes maxL ret) {idx kk : Nat} {O fn d C : String} {ty : FieldType} {old : Value} (hd : Dc bytes pc (.putfield idx) 3 pc') (wl : (Jvm.Cond.fieldLink own idx O fn d).before a0 Z = true) (F : Fld Z h a O fn d old) (E : Exa Z h a C)
    (wy : (Jvm.Cond.lays C O fn d).before a0 Z = true ∨ ((Jvm.Cond.laysFinal C O fn d).before a0 Z = true ∧ own = O ∧ nm = "<init>")) (wi : (Jvm.Cond.instantiable C kk).before a0 Z = true) (hty : parseFieldDescriptor d = some ty) (hn : narrow ty v = v) (hf : fits ty v = true) (ha : n0 ≤ a)
    (g : ∀ h', Wr h h' a (Jvm.RoadKit.slotOf Z O fn d) v → Go κ Q h' k n pc' L st) : Go κ Q h k n pc L (v :: .ref a :: st) := fun T locs X N e => by
  obtain ⟨dd, rfl⟩ := hd
  obtain ⟨T', h', X', e', W, sp⟩ := putF X B.exec B.warm B.hown (host := "") (Or.inl wl) Via.refl e F E (wy.imp id fun q => ⟨q.1, q.2.1, B.name.trans q.2.2⟩) wi hty hn hf (g := mkF κ.m pc L (v :: .ref a :: st)) rfl rfl (hb B.byt dd)
  obtain ⟨t, o, h1, h2⟩ := g h' W T' _ X' (Fr.snoc X' N (B.hn ▸ ha)) e'
  exact ⟨t, o, sp _ h1, h2⟩
theorem go_new (B : OkK km κ l Z a0 n0 R own nm bytes maxL ret) {idx nf : Nat} {C : String} (hd : Dc bytes pc (.new idx) 3 pc') (wl : (Jvm.Cond.classLink own idx C).before a0 Z = true) (wi : (Jvm.Cond.instantiable C nf).before a0 Z = true) (wz : (Jvm.Cond.initialized C).before a0 Z = true) (hc : k + 1 ≤ R.cells) (hl : n + nf ≤ R.slots)
    (g : ∀ h' b, b = h.size → Ext h h' → Exa Z h' b C → (∀ {O fn d : String} {ty : FieldType}, Laid Z a0 C O fn d → parseFieldDescriptor d = some ty → Fld Z h' b O fn d (defaultValue ty)) → Go κ Q h' (k + 1) (n + nf) pc' L (.ref b :: st)) : Go κ Q h k n pc L st := fun T locs X N e => by
  obtain ⟨dd, rfl⟩ := hd
  obtain ⟨T', h', X', e', E, A, D, -, sp⟩ := newO X B.exec B.warm B.hown wl wi wz e (g := mkF κ.m pc L st) rfl (hb B.byt dd) (by rw [B.room]; exact hc) (by rw [B.room]; exact hl)
  obtain ⟨t, o, h1, h2⟩ := g h' _ rfl E A D T' locs X' N e'
  exact ⟨t, o, sp _ h1, h2⟩
/-- an array whose places hold just these values -/
def AV (Z : State) (h : Heap) (a : Addr) (ty : FieldType) (vs : List Value) : Prop := ∃ c : Cell, Arr Z h a c ty ∧ c.slots = vs.toArray ∧ vs.length < 2 ^ 31
theorem AV.ext {ty : FieldType} {vs : List Value} {h' : Heap} (F : AV Z h a ty vs) (E : Ext h h') : AV Z h' a ty vs := by obtain ⟨c, A, r⟩ := F; exact ⟨c, A.ext E, r⟩
theorem AV.other {ty : FieldType} {vs : List Value} {h' : Heap} {b : Addr} {sl : Nat} (F : AV Z h b ty vs) (W : Wr h h' a sl v) (q : b ≠ a) : AV Z h' b ty vs := by obtain ⟨c, A, r⟩ := F; exact ⟨c, A.other W q, r⟩
theorem AV.keep {ty : FieldType} {vs : List Value} {h' : Heap} {ws : List Addr} (F : AV Z h a ty vs) (K : Keep h h' ws) (q : a ∉ ws) : AV Z h' a ty vs := by obtain ⟨c, A, r⟩ := F; exact ⟨c, ⟨K.2.1 a c A.1 q, A.2⟩, r⟩
theorem AV.same {ty : FieldType} {vs : List Value} {h' : Heap} {i : Nat} (F : AV Z h a ty vs) (W : Wr h h' a i v) : AV Z h' a ty (vs.set i v) := by
  obtain ⟨c, A, r, s⟩ := F
  exact ⟨_, A.same W, by simp [Cell.setSlot, r], by simpa using s⟩
theorem AV.lt {ty : FieldType} {vs : List Value} (F : AV Z h a ty vs) : a < h.size := by obtain ⟨c, A, -⟩ := F; exact A.lt
theorem AV.len {ty : FieldType} {vs : List Value} (F : AV Z h a ty vs) : vs.length < 2 ^ 31 := by obtain ⟨c, A, -, q⟩ := F; exact q
theorem nat_idx {i : Nat} (hj : x.toInt = (i : Int)) : ¬ x < 0 ∧ x.toNatClampNeg = i := by
  refine ⟨fun q => ?_, ?_⟩
  · have := (Int32.lt_iff_toInt_lt).mp q
    have z : (0 : Int32).toInt = 0 := rfl
    omega
  · show x.toInt.toNat = i
    omega
theorem go_arraylength (B : OkK km κ l Z a0 n0 R own nm bytes maxL ret) {ty : FieldType} {vs : List Value} (hd : Dc bytes pc .arraylength 1 pc') (A : AV Z h a ty vs) (hx : Int32.ofNat vs.length = x) (g : Go κ Q h k n pc' L (.int x :: st)) : Go κ Q h k n pc L (.ref a :: st) := by
  obtain ⟨dd, rfl⟩ := hd
  obtain ⟨c, A, r, s⟩ := A
  have e1 : (Int32.ofNat c.slots.size) = x := by rw [← hx, r]; simp
  subst e1
  exact go_step (fun T locs X e t q => X.arraylength B.exec (by rw [e]; exact A.1) (State.isArrayOf_alike B.warm.alike A.2.1) (g := mkF κ.m pc L (.ref a :: st)) rfl rfl (hb B.byt dd) _ q) g
theorem go_iaload (B : OkK km κ l Z a0 n0 R own nm bytes maxL ret) {vs : List Value} {i : Nat} (hd : Dc bytes pc .iaload 1 pc') (A : AV Z h a .int vs) (hi : x.toInt = (i : Int)) (hv : vs[i]? = some v) (g : Go κ Q h k n pc' L (v :: st)) : Go κ Q h k n pc L (.int x :: .ref a :: st) := by
  obtain ⟨dd, rfl⟩ := hd
  obtain ⟨c, A, r, s⟩ := A
  obtain ⟨q1, q2⟩ := nat_idx hi
  have hl : i < vs.length := (List.getElem?_eq_some_iff.mp hv).1
  exact go_step (fun T locs X e t q => X.iaload B.exec (j := x) (v := v) (by rw [e]; exact A.1) (State.isArrayOf_alike B.warm.alike A.2.1) A.2.2 (by rw [r, q2]; simp; exact ⟨Int32.not_lt.mp q1, hl⟩) (by rw [r, q2]; simpa using hv) (g := mkF κ.m pc L (.int x :: .ref a :: st)) rfl rfl (hb B.byt dd) _ q) g
theorem go_laload (B : OkK km κ l Z a0 n0 R own nm bytes maxL ret) {vs : List Value} {i : Nat} (hd : Dc bytes pc .laload 1 pc') (A : AV Z h a .long vs) (hi : x.toInt = (i : Int)) (hv : vs[i]? = some v) (g : Go κ Q h k n pc' L (v :: st)) : Go κ Q h k n pc L (.int x :: .ref a :: st) := by
  obtain ⟨dd, rfl⟩ := hd
  obtain ⟨c, A, r, s⟩ := A
  obtain ⟨q1, q2⟩ := nat_idx hi
  have hl : i < vs.length := (List.getElem?_eq_some_iff.mp hv).1
  exact go_step (fun T locs X e t q => X.laload B.exec (j := x) (v := v) (by rw [e]; exact A.1) (State.isArrayOf_alike B.warm.alike A.2.1) A.2.2 (by rw [r, q2]; simp; exact ⟨Int32.not_lt.mp q1, hl⟩) (by rw [r, q2]; simpa using hv) (g := mkF κ.m pc L (.int x :: .ref a :: st)) rfl rfl (hb B.byt dd) _ q) g
theorem go_caload (B : OkK km κ l Z a0 n0 R own nm bytes maxL ret) {vs : List Value} {i : Nat} (hd : Dc bytes pc .caload 1 pc') (A : AV Z h a .char vs) (hi : x.toInt = (i : Int)) (hv : vs[i]? = some v) (g : Go κ Q h k n pc' L (v :: st)) : Go κ Q h k n pc L (.int x :: .ref a :: st) := by
  obtain ⟨dd, rfl⟩ := hd
  obtain ⟨c, A, r, s⟩ := A
  obtain ⟨q1, q2⟩ := nat_idx hi
  have hl : i < vs.length := (List.getElem?_eq_some_iff.mp hv).1
  exact go_step (fun T locs X e t q => X.caload B.exec (j := x) (v := v) (by rw [e]; exact A.1) (State.isArrayOf_alike B.warm.alike A.2.1) A.2.2 (by rw [r, q2]; simp; exact ⟨Int32.not_lt.mp q1, hl⟩) (by rw [r, q2]; simpa using hv) (g := mkF κ.m pc L (.int x :: .ref a :: st)) rfl rfl (hb B.byt dd) _ q) g
theorem go_baload (B : OkK km κ l Z a0 n0 R own nm bytes maxL ret) {vs : List Value} {i : Nat} (hd : Dc bytes pc .baload 1 pc') (A : AV Z h a .byte vs) (hi : x.toInt = (i : Int)) (hv : vs[i]? = some v) (g : Go κ Q h k n pc' L (v :: st)) : Go κ Q h k n pc L (.int x :: .ref a :: st) := by
  obtain ⟨dd, rfl⟩ := hd
  obtain ⟨c, A, r, s⟩ := A
  obtain ⟨q1, q2⟩ := nat_idx hi
  have hl : i < vs.length := (List.getElem?_eq_some_iff.mp hv).1
  exact go_step (fun T locs X e t q => X.baloadBytes B.exec (j := x) (v := v) (by rw [e]; exact A.1) (State.isArrayOf_alike B.warm.alike A.2.1) A.2.2 (by rw [r, q2]; simp; exact ⟨Int32.not_lt.mp q1, hl⟩) (by rw [r, q2]; simpa using hv) (g := mkF κ.m pc L (.int x :: .ref a :: st)) rfl rfl (hb B.byt dd) _ q) g
theorem go_zaload (B : OkK km κ l Z a0 n0 R own nm bytes maxL ret) {vs : List Value} {i : Nat} (hd : Dc bytes pc .baload 1 pc') (A : AV Z h a .boolean vs) (hi : x.toInt = (i : Int)) (hv : vs[i]? = some v) (g : Go κ Q h k n pc' L (v :: st)) : Go κ Q h k n pc L (.int x :: .ref a :: st) := by
  obtain ⟨dd, rfl⟩ := hd
  obtain ⟨c, A, r, s⟩ := A
  obtain ⟨q1, q2⟩ := nat_idx hi
  have hl : i < vs.length := (List.getElem?_eq_some_iff.mp hv).1
  exact go_step (fun T locs X e t q => X.baloadBooleans B.exec (j := x) (v := v) (by rw [e]; exact A.1) (State.isArrayOf_alike B.warm.alike A.2.1) A.2.2 (by rw [r, q2]; simp; exact ⟨Int32.not_lt.mp q1, hl⟩) (by rw [r, q2]; simpa using hv) (g := mkF κ.m pc L (.int x :: .ref a :: st)) rfl rfl (hb B.byt dd) _ q) g
theorem go_aaload (B : OkK km κ l Z a0 n0 R own nm bytes maxL ret) {ty : FieldType} {vs : List Value} {i : Nat} (hd : Dc bytes pc .aaload 1 pc') (A : AV Z h a ty vs) (hty : ty.isReference = true) (hi : x.toInt = (i : Int)) (hv : vs[i]? = some v) (g : Go κ Q h k n pc' L (v :: st)) : Go κ Q h k n pc L (.int x :: .ref a :: st) := by
  obtain ⟨dd, rfl⟩ := hd
  obtain ⟨c, A, r, s⟩ := A
  obtain ⟨q1, q2⟩ := nat_idx hi
  have hl : i < vs.length := (List.getElem?_eq_some_iff.mp hv).1
  exact go_step (fun T locs X e t q => X.aaload B.exec (j := x) (v := v) (by rw [e]; exact A.1) (State.isArrayOf_alike B.warm.alike A.2.1) hty A.2.2 (by rw [r, q2]; simp; exact ⟨Int32.not_lt.mp q1, hl⟩) (by rw [r, q2]; simpa using hv) (g := mkF κ.m pc L (.int x :: .ref a :: st)) rfl rfl (hb B.byt dd) _ q) g
theorem go_iastore (B : OkK km κ l Z a0 n0 R own nm bytes maxL ret) {vs : List Value} {i : Nat} (hd : Dc bytes pc .iastore 1 pc') (A : AV Z h a .int vs) (hi : x.toInt = (i : Int)) (hl : i < vs.length) (ha : n0 ≤ a) (g : ∀ h', Wr h h' a i (.int y) → AV Z h' a .int (vs.set i (.int y)) → Go κ Q h' k n pc' L st) : Go κ Q h k n pc L (.int y :: .int x :: .ref a :: st) := fun T locs X N e => by
  obtain ⟨dd, rfl⟩ := hd
  have A0 := A
  obtain ⟨c, A, r, s⟩ := A
  obtain ⟨q1, q2⟩ := nat_idx hi
  obtain ⟨T', h', X', e', W, sp⟩ := stI X B.exec B.warm e A (j := x) (by rw [r, q2]; simp; exact ⟨Int32.not_lt.mp q1, hl⟩) (g := mkF κ.m pc L (.int y :: .int x :: .ref a :: st)) rfl rfl (hb B.byt dd)
  have W' : Wr h h' a i (.int y) := q2 ▸ W
  obtain ⟨t, o, h1, h2⟩ := g h' W' (A0.same W') T' _ X' (Fr.snoc X' N (B.hn ▸ ha)) e'
  exact ⟨t, o, sp _ h1, h2⟩
theorem go_lastore (B : OkK km κ l Z a0 n0 R own nm bytes maxL ret) {vs : List Value} {i : Nat} (hd : Dc bytes pc .lastore 1 pc') (A : AV Z h a .long vs) (hi : x.toInt = (i : Int)) (hl : i < vs.length) (ha : n0 ≤ a) (g : ∀ h', Wr h h' a i (.long u) → AV Z h' a .long (vs.set i (.long u)) → Go κ Q h' k n pc' L st) : Go κ Q h k n pc L (.long u :: .int x :: .ref a :: st) := fun T locs X N e => by
  obtain ⟨dd, rfl⟩ := hd
  have A0 := A
  obtain ⟨c, A, r, s⟩ := A
  obtain ⟨q1, q2⟩ := nat_idx hi
  obtain ⟨T', h', X', e', W, sp⟩ := stJ X B.exec B.warm e A (j := x) (by rw [r, q2]; simp; exact ⟨Int32.not_lt.mp q1, hl⟩) (g := mkF κ.m pc L (.long u :: .int x :: .ref a :: st)) rfl rfl (hb B.byt dd)
  have W' : Wr h h' a i (.long u) := q2 ▸ W
  obtain ⟨t, o, h1, h2⟩ := g h' W' (A0.same W') T' _ X' (Fr.snoc X' N (B.hn ▸ ha)) e'
  exact ⟨t, o, sp _ h1, h2⟩
theorem go_castore (B : OkK km κ l Z a0 n0 R own nm bytes maxL ret) {vs : List Value} {i : Nat} (hd : Dc bytes pc .castore 1 pc') (A : AV Z h a .char vs) (hi : x.toInt = (i : Int)) (hl : i < vs.length) (ha : n0 ≤ a) (g : ∀ h', Wr h h' a i (.int (nar .char y)) → AV Z h' a .char (vs.set i (.int (nar .char y))) → Go κ Q h' k n pc' L st) : Go κ Q h k n pc L (.int y :: .int x :: .ref a :: st) := fun T locs X N e => by
  obtain ⟨dd, rfl⟩ := hd
  have A0 := A
  obtain ⟨c, A, r, s⟩ := A
  obtain ⟨q1, q2⟩ := nat_idx hi
  obtain ⟨T', h', X', e', W, sp⟩ := stC X B.exec B.warm e A (j := x) (by rw [r, q2]; simp; exact ⟨Int32.not_lt.mp q1, hl⟩) (g := mkF κ.m pc L (.int y :: .int x :: .ref a :: st)) rfl rfl (hb B.byt dd)
  have W' : Wr h h' a i (.int (nar .char y)) := q2 ▸ W
  obtain ⟨t, o, h1, h2⟩ := g h' W' (A0.same W') T' _ X' (Fr.snoc X' N (B.hn ▸ ha)) e'
  exact ⟨t, o, sp _ h1, h2⟩
theorem go_bastore (B : OkK km κ l Z a0 n0 R own nm bytes maxL ret) {vs : List Value} {i : Nat} (hd : Dc bytes pc .bastore 1 pc') (A : AV Z h a .byte vs) (hi : x.toInt = (i : Int)) (hl : i < vs.length) (ha : n0 ≤ a) (g : ∀ h', Wr h h' a i (.int (nar .byte y)) → AV Z h' a .byte (vs.set i (.int (nar .byte y))) → Go κ Q h' k n pc' L st) : Go κ Q h k n pc L (.int y :: .int x :: .ref a :: st) := fun T locs X N e => by
  obtain ⟨dd, rfl⟩ := hd
  have A0 := A
  obtain ⟨c, A, r, s⟩ := A
  obtain ⟨q1, q2⟩ := nat_idx hi
  obtain ⟨T', h', X', e', W, sp⟩ := stB X B.exec B.warm e A (j := x) (by rw [r, q2]; simp; exact ⟨Int32.not_lt.mp q1, hl⟩) (g := mkF κ.m pc L (.int y :: .int x :: .ref a :: st)) rfl rfl (hb B.byt dd)
  have W' : Wr h h' a i (.int (nar .byte y)) := q2 ▸ W
  obtain ⟨t, o, h1, h2⟩ := g h' W' (A0.same W') T' _ X' (Fr.snoc X' N (B.hn ▸ ha)) e'
  exact ⟨t, o, sp _ h1, h2⟩
theorem go_zastore (B : OkK km κ l Z a0 n0 R own nm bytes maxL ret) {vs : List Value} {i : Nat} (hd : Dc bytes pc .bastore 1 pc') (A : AV Z h a .boolean vs) (hi : x.toInt = (i : Int)) (hl : i < vs.length) (ha : n0 ≤ a) (g : ∀ h', Wr h h' a i (.int (nar .boolean y)) → AV Z h' a .boolean (vs.set i (.int (nar .boolean y))) → Go κ Q h' k n pc' L st) : Go κ Q h k n pc L (.int y :: .int x :: .ref a :: st) := fun T locs X N e => by
  obtain ⟨dd, rfl⟩ := hd
  have A0 := A
  obtain ⟨c, A, r, s⟩ := A
  obtain ⟨q1, q2⟩ := nat_idx hi
  obtain ⟨T', h', X', e', W, sp⟩ := stZ X B.exec B.warm e A (j := x) (by rw [r, q2]; simp; exact ⟨Int32.not_lt.mp q1, hl⟩) (g := mkF κ.m pc L (.int y :: .int x :: .ref a :: st)) rfl rfl (hb B.byt dd)
  have W' : Wr h h' a i (.int (nar .boolean y)) := q2 ▸ W
  obtain ⟨t, o, h1, h2⟩ := g h' W' (A0.same W') T' _ X' (Fr.snoc X' N (B.hn ▸ ha)) e'
  exact ⟨t, o, sp _ h1, h2⟩
theorem go_newarray (B : OkK km κ l Z a0 n0 R own nm bytes maxL ret) {aty : ArrayType} {i cap : Nat} (hd : Dc bytes pc (.newarray aty) 2 pc') (wa : (Jvm.Cond.arrayClass (newarray.typeOf aty)).before a0 Z = true) (hi : x.toInt = (i : Int)) (hcap : i ≤ cap) (hbig : cap * 8 ≤ 536870912) (hc : k + 1 ≤ R.cells) (hl : n + cap ≤ R.slots)
    (g : ∀ h' b, b = h.size → Ext h h' → AV Z h' b (newarray.typeOf aty) (List.replicate i (defaultValue (newarray.typeOf aty))) → Exa Z h' b ("[" ++ (newarray.typeOf aty).toString) → Go κ Q h' (k + 1) (n + cap) pc' L (.ref b :: st)) : Go κ Q h k n pc L (.int x :: st) := fun T locs X N e => by
  obtain ⟨dd, rfl⟩ := hd
  obtain ⟨q1, q2⟩ := nat_idx hi
  have hcb : componentBytes (newarray.typeOf aty) ≤ 8 := by cases aty <;> decide
  have hbig' : x.toNatClampNeg * componentBytes (newarray.typeOf aty) ≤ 536870912 := Nat.le_trans (Nat.mul_le_mul (q2 ▸ hcap) hcb) hbig
  obtain ⟨cA, kA, comp, f1, f2, f3, X', sp⟩ := X.newarrayPrim B.exec (mvA B.warm wa) (g := mkF κ.m pc L (.int x :: st)) rfl (hb B.byt dd) rfl q1 hbig' (by rw [B.room]; exact hc) (by rw [B.room, q2]; omega)
  subst e
  have f1' : Z.vm.findClass ("[" ++ (newarray.typeOf aty).toString) = some cA := by rw [← B.warm.alike.findClass]; exact f1
  obtain ⟨kZ, z1, -⟩ := Vm.findClass_spec f1'
  obtain ⟨k', z2, z3⟩ := B.warm.alike.2.2 _ _ z1
  cases f2.symm.trans z2
  have f4 : kZ.kind = .array comp (newarray.typeOf aty) := by rw [← f3, z3]
  have hat : (T.heap.push { cls := cA, slots := Array.replicate x.toNatClampNeg (defaultValue (newarray.typeOf aty)), vm := .none : Cell })[T.heap.size]? = some { cls := cA, slots := Array.replicate x.toNatClampNeg (defaultValue (newarray.typeOf aty)), vm := .none } := by simp
  have hE : Ext T.heap (T.heap.push { cls := cA, slots := Array.replicate x.toNatClampNeg (defaultValue (newarray.typeOf aty)), vm := .none : Cell }) := ext_of fun a ha => by rw [Array.getElem?_push_lt ha]; exact (Array.getElem?_eq_getElem _).symm
  obtain ⟨t, o, h1, h2⟩ := g _ _ rfl hE ⟨_, ⟨hat, ⟨by simp, kZ, z1, comp, f4⟩, by simp⟩, by simp [q2], by simp; have := x.toInt_lt; omega⟩
    ⟨_, kZ, hat, f1', z1, rfl, fun q => by rw [f4] at q; cases q⟩ _ locs (X'.more (Nat.le_refl _) (by rw [q2]; omega)) N rfl
  exact ⟨t, o, sp _ h1, h2⟩
theorem go_ldcI (B : OkK km κ l Z a0 n0 R own nm bytes maxL ret) {idx : Nat} (hd : Dc bytes pc (.ldc idx) 2 pc') (wl : (Jvm.Cond.constant own idx x).before a0 Z = true) (g : Go κ Q h k n pc' L (.int x :: st)) : Go κ Q h k n pc L st := by
  obtain ⟨dd, rfl⟩ := hd
  exact go_step (fun T locs X e t q => X.ldcInt B.exec B.hown (mvT B.warm wl) (g := mkF κ.m pc L st) rfl (hb B.byt dd) _ q) g
theorem go_ldcWI (B : OkK km κ l Z a0 n0 R own nm bytes maxL ret) {idx : Nat} (hd : Dc bytes pc (.ldc_w idx) 3 pc') (wl : (Jvm.Cond.constant own idx x).before a0 Z = true) (g : Go κ Q h k n pc' L (.int x :: st)) : Go κ Q h k n pc L st := by
  obtain ⟨dd, rfl⟩ := hd
  exact go_step (fun T locs X e t q => X.ldcwInt B.exec B.hown (mvT B.warm wl) (g := mkF κ.m pc L st) rfl (hb B.byt dd) _ q) g
theorem go_ldc2J (B : OkK km κ l Z a0 n0 R own nm bytes maxL ret) {idx : Nat} (hd : Dc bytes pc (.ldc2_w idx) 3 pc') (wl : (Jvm.Cond.constantLong own idx u).before a0 Z = true) (g : Go κ Q h k n pc' L (.long u :: st)) : Go κ Q h k n pc L st := by
  obtain ⟨dd, rfl⟩ := hd
  exact go_step (fun T locs X e t q => X.ldc2Long B.exec B.hown (mvT B.warm wl) (g := mkF κ.m pc L st) rfl (hb B.byt dd) _ q) g
theorem go_initO (B : OkK km κ l Z a0 n0 R own nm bytes maxL ret) {idx W : Nat} (hd : Dc bytes pc (.invokespecial idx) 3 pc') (w1 : (Jvm.Cond.methodLink own idx Lib.objectInit).before a0 Z = true) (w2 : (Jvm.Cond.instanceMethod Lib.objectInit).before a0 Z = true) (w3 : (Jvm.Cond.code Lib.objectInit ⟨#[0xb1]⟩ 1 none).before a0 Z = true)
    (hs : L.size = maxL) (hW : (st.map fun v => v.category).sum = W) (hf : 1 ≤ R.frames) (hl : W + 12 ≤ R.locals) (g : Go κ Q h k n pc' L st) : Go κ Q h k n pc L (.ref a :: st) := fun T locs X N e => by
  obtain ⟨dd, rfl⟩ := hd
  obtain ⟨T', X', e', sp⟩ := initO X B.exec B.warm B.hown w1 w2 w3 e (g := mkF κ.m pc L (.ref a :: st)) rfl (by rw [B.mxl]; exact hs) rfl (hb B.byt dd) (by rw [B.room]; exact hf) (W := W) (by show 2 * 0 + _ ≤ _; omega) (by rw [B.room]; exact hl)
  obtain ⟨t, o, h1, h2⟩ := g T' locs X' N e'
  exact ⟨t, o, sp _ h1, h2⟩
section Call
variable {y' : MethodName} {idx W : Nat} {bytes' : ByteArray} {maxL' : Nat} {ret' : Option FieldType} {rm : Room} {as' : Array Value} {argsL : List Value} {Q' : Option Value → Heap → Prop} {ps : List FieldType} {rt : Option FieldType}
theorem go_static (B : OkK km κ l Z a0 n0 R own nm bytes maxL ret) (hd : Dc bytes pc (.invokestatic idx) 3 pc') (w1 : (Jvm.Cond.methodLink own idx y').before a0 Z = true) (w2 : (Jvm.Cond.static y').before a0 Z = true) (w3 : (Jvm.Cond.initialized y'.cls).before a0 Z = true) (w4 : (Jvm.Cond.code y' bytes' maxL' ret').before a0 Z = true)
    (hy : y'.cls ≠ "java/lang/invoke/MethodHandle" ∧ y'.cls ≠ "java/lang/invoke/VarHandle") (C : Ct l Z n0 y' bytes' maxL' ret' [] rm argsL.toArray h Q') (pd : parseMethodDescriptor y'.desc = some ⟨ps, rt⟩) (hlen : argsL.length = ps.length) (hst : st' = argsL.reverse ++ st) (hs : L.size = maxL)
    (hW : (st.map fun v => v.category).sum = W) (hf : rm.frames + 1 ≤ R.frames) (hl : W + (maxL' + 11) + rm.locals ≤ R.locals) (hc : k + rm.cells ≤ R.cells) (hn : n + rm.slots ≤ R.slots)
    (g : ∀ v h', Q' v h' → Go κ Q h' (k + rm.cells) (n + rm.slots) pc' L (v.toList ++ st)) : Go κ Q h k n pc L st' := fun T locs X N e => by
  obtain ⟨dd, rfl⟩ := hd
  have C' : Ct κ.l Z n0 y' bytes' maxL' ret' [] rm argsL.toArray h Q' := B.hl.symm ▸ C
  obtain ⟨vv, _, ⟨T', L2, k2, n2⟩, -, X', ⟨Lc, hQ, l2, y2, z2⟩, sp⟩ := Jvm.LawKit.callS X B.exec (y := y') B.hown (mvT B.warm w1) (mvT B.warm w2) (mvT B.warm w3) (mvT B.warm w4) hy
    (backOf (Q := fun v h L => Q' v h ∧ Fr n0 L) (W := W) C' B.warm w4 w3 (by rw [B.room]; exact hf) (by rw [B.room]; exact hl)) (g := mkF κ.m pc L st') rfl (by rw [B.mxl]; exact hs) (argsL := argsL) (rest := st) (lenOf pd hlen) hst (by show 2 * 0 + _ ≤ _; omega) (hb B.byt dd)
    (fun _ _ => ⟨rfl, e, by rw [B.room]; exact hc, by rw [B.room]; exact hn⟩)
  dsimp only [Pt.U, Pt.locs, Pt.cells, Pt.slots] at X' l2 y2 z2 sp hQ
  subst l2 y2 z2
  obtain ⟨t, o, h1, h2⟩ := g vv T'.heap hQ.1 T' _ X' (Fr.app N (B.hn.symm ▸ hQ.2)) rfl
  exact ⟨t, o, sp _ h1, h2⟩
theorem go_special (B : OkK km κ l Z a0 n0 R own nm bytes maxL ret) (hd : Dc bytes pc (.invokespecial idx) 3 pc') (hi : y'.name = "<init>") (w1 : (Jvm.Cond.methodLink own idx y').before a0 Z = true) (w2 : (Jvm.Cond.instanceMethod y').before a0 Z = true) (w3 : (Jvm.Cond.initialized y'.cls).before a0 Z = true) (w4 : (Jvm.Cond.code y' bytes' maxL' none).before a0 Z = true)
    (hy : y'.cls ≠ "java/lang/invoke/MethodHandle" ∧ y'.cls ≠ "java/lang/invoke/VarHandle") (C : Ct l Z n0 y' bytes' maxL' none [] rm (.ref a :: argsL).toArray h Q') (pd : parseMethodDescriptor y'.desc = some ⟨ps, rt⟩) (hlen : argsL.length = ps.length) (hst : st' = argsL.reverse ++ .ref a :: st) (hs : L.size = maxL)
    (hW : (st.map fun v => v.category).sum = W) (hf : rm.frames + 1 ≤ R.frames) (hl : W + (maxL' + 11) + rm.locals ≤ R.locals) (hc : k + rm.cells ≤ R.cells) (hn : n + rm.slots ≤ R.slots)
    (g : ∀ v h', Q' v h' → Go κ Q h' (k + rm.cells) (n + rm.slots) pc' L (v.toList ++ st)) : Go κ Q h k n pc L st' := fun T locs X N e => by
  obtain ⟨dd, rfl⟩ := hd
  have C' : Ct κ.l Z n0 y' bytes' maxL' none [] rm (.ref a :: argsL).toArray h Q' := B.hl.symm ▸ C
  obtain ⟨vv, _, ⟨T', L2, k2, n2⟩, -, X', ⟨Lc, hQ, l2, y2, z2⟩, sp⟩ := X.specialBack B.exec (y := y') hi B.hown (mvT B.warm w1) (mvT B.warm w2) (mvT B.warm w4) hy
    (backOf (Q := fun v h L => Q' v h ∧ Fr n0 L) (W := W) C' B.warm w4 w3 (by rw [B.room]; exact hf) (by rw [B.room]; exact hl)) (g := mkF κ.m pc L st') rfl (by rw [B.mxl]; exact hs) (Steps.refl _) (a := a) (argsL := argsL) (rest := st) (lenOf pd hlen) hst (by show 2 * 0 + _ ≤ _; omega) (hb B.byt dd)
    (fun _ _ => ⟨rfl, e, by rw [B.room]; exact hc, by rw [B.room]; exact hn⟩)
  dsimp only [Pt.U, Pt.locs, Pt.cells, Pt.slots] at X' l2 y2 z2 sp hQ
  subst l2 y2 z2
  obtain ⟨t, o, h1, h2⟩ := g vv T'.heap hQ.1 T' _ X' (Fr.app N (B.hn.symm ▸ hQ.2)) rfl
  exact ⟨t, o, sp.trans h1, h2⟩
theorem go_virtual (B : OkK km κ l Z a0 n0 R own nm bytes maxL ret) {C0 : String} (hd : Dc bytes pc (.invokevirtual idx) 3 pc') (w1 : (Jvm.Cond.methodLink own idx y').before a0 Z = true) (w2 : (Jvm.Cond.declares y').before a0 Z = true) (w5 : (Jvm.Cond.selects C0 y' y').before a0 Z = true) (w6 : (Jvm.Cond.instanceMethod y').before a0 Z = true) (w3 : (Jvm.Cond.initialized y'.cls).before a0 Z = true) (w4 : (Jvm.Cond.code y' bytes' maxL' ret').before a0 Z = true)
    (hy : y'.cls ≠ "java/lang/invoke/MethodHandle" ∧ y'.cls ≠ "java/lang/invoke/VarHandle") (E : Exa Z h a C0) (C : Ct l Z n0 y' bytes' maxL' ret' [] rm (.ref a :: argsL).toArray h Q') (pd : parseMethodDescriptor y'.desc = some ⟨ps, rt⟩) (hlen : argsL.length = ps.length) (hst : st' = argsL.reverse ++ .ref a :: st) (hs : L.size = maxL)
    (hW : (st.map fun v => v.category).sum = W) (hf : rm.frames + 1 ≤ R.frames) (hl : W + (maxL' + 11) + rm.locals ≤ R.locals) (hc : k + rm.cells ≤ R.cells) (hn : n + rm.slots ≤ R.slots)
    (g : ∀ v h', Q' v h' → Go κ Q h' (k + rm.cells) (n + rm.slots) pc' L (v.toList ++ st)) : Go κ Q h k n pc L st' := fun T locs X N e => by
  obtain ⟨dd, rfl⟩ := hd
  have C' : Ct κ.l Z n0 y' bytes' maxL' ret' [] rm (.ref a :: argsL).toArray h Q' := B.hl.symm ▸ C
  obtain ⟨cq, kq, qa, qb, qc⟩ := isOf B.warm e E
  obtain ⟨vv, _, ⟨T', L2, k2, n2⟩, -, X', ⟨Lc, hQ, l2, y2, z2⟩, sp⟩ := X.virtualBack B.exec (y := y') (z := y') B.hown (mvT B.warm w1) (mvT B.warm w2) (notFace_of_selects (args := #[]) (mvT B.warm w5)) (mvT B.warm w5) (mvT B.warm w6) hy
    (backOf (Q := fun v h L => Q' v h ∧ Fr n0 L) (W := W) C' B.warm w4 w3 (by rw [B.room]; exact hf) (by rw [B.room]; exact hl)) qa qc (g := mkF κ.m pc L st') rfl (by rw [B.mxl]; exact hs) (Steps.refl _) (argsL := argsL) (rest := st) (lenOf pd hlen) hst (by show 2 * 0 + _ ≤ _; omega) (hb B.byt dd)
    (fun _ _ => ⟨rfl, e, by rw [B.room]; exact hc, by rw [B.room]; exact hn⟩)
  dsimp only [Pt.U, Pt.locs, Pt.cells, Pt.slots] at X' l2 y2 z2 sp hQ
  subst l2 y2 z2
  obtain ⟨t, o, h1, h2⟩ := g vv T'.heap hQ.1 T' _ X' (Fr.app N (B.hn.symm ▸ hQ.2)) rfl
  exact ⟨t, o, sp.trans h1, h2⟩
end Call
theorem go_end (B : OkK km κ l Z a0 n0 R own nm bytes maxL ret) {vv : Option Value} (hk : k ≤ R.cells) (hn : n ≤ R.slots) (hq : Q vv h) (hv : ret = none → vv = none) (hkm : km ≤ h.size)
    (hs : ∀ (T : State) (locs : List Loc) (fs : List Frame), Stand κ.p κ.l κ.e κ.R κ.s κ.m κ.args κ.below κ.meth κ.c T locs k n → (∀ (f : JFrame) (acts : List Action), f.method = κ.m → f.locked = none → f.entered = [] → (doReturn κ.e (T.setTop f) acts vv).1 = T.setFrames fs) → Steps κ.p.tables κ.e κ.below (T.setTop (mkF κ.m pc L st)) (T.setFrames fs)) : Go κ Q h k n pc L st := fun T locs X N e => by
  obtain ⟨fs, hr, hrun, hended, hW, hsame⟩ := X.leave (v := vv) (fun q => hv (B.rets.symm.trans q)) B.nolock
  exact ⟨_, _, hs T locs fs X hr, hrun, hended, _, _, rfl, ⟨by show Q vv T.heap; rw [e]; exact hq, N⟩, B.hE _ _ _ ⟨⟨_, rfl⟩, hW, hsame.mono (by rw [B.room]; exact hk) (by rw [B.room]; exact hn)⟩ (by show κ.kmin ≤ T.heap.size; rw [e, B.hkm]; exact hkm)⟩
theorem go_ireturn (B : OkK km κ l Z a0 n0 R own nm bytes maxL (some .int)) (hd : Dc bytes pc .ireturn 1 pc') (hk : k ≤ R.cells) (hn : n ≤ R.slots) (hq : Q (some (.int x)) h) (hkm : km ≤ h.size := by first | exact Nat.zero_le _ | assumption) : Go κ Q h k n pc L (.int x :: st) :=
  go_end B hk hn hq (fun q => by cases q) hkm (fun T locs fs X hr => retOut X B.exec (t := .int) (i := .ireturn) B.rets rfl (Or.inl ⟨rfl, Or.inl rfl, x, rfl⟩) (hb B.byt hd.1) hr)
theorem go_zreturn (B : OkK km κ l Z a0 n0 R own nm bytes maxL (some .boolean)) (hd : Dc bytes pc .ireturn 1 pc') (hk : k ≤ R.cells) (hn : n ≤ R.slots) (hz : x &&& 1 = y) (hq : Q (some (.int y)) h) (hkm : km ≤ h.size := by first | exact Nat.zero_le _ | assumption) : Go κ Q h k n pc L (.int x :: st) := by
  subst hz
  exact go_end B hk hn hq (fun q => by cases q) hkm (fun T locs fs X hr => retN X B.exec (t := .boolean) B.rets (by simp) (hb B.byt hd.1) hr)
theorem go_breturn (B : OkK km κ l Z a0 n0 R own nm bytes maxL (some .byte)) (hd : Dc bytes pc .ireturn 1 pc') (hk : k ≤ R.cells) (hn : n ≤ R.slots) (hz : x.toInt8.toInt32 = y) (hq : Q (some (.int y)) h) (hkm : km ≤ h.size := by first | exact Nat.zero_le _ | assumption) : Go κ Q h k n pc L (.int x :: st) := by
  subst hz
  exact go_end B hk hn hq (fun q => by cases q) hkm (fun T locs fs X hr => retN X B.exec (t := .byte) B.rets (by simp) (hb B.byt hd.1) hr)
theorem go_lreturn (B : OkK km κ l Z a0 n0 R own nm bytes maxL (some .long)) (hd : Dc bytes pc .lreturn 1 pc') (hk : k ≤ R.cells) (hn : n ≤ R.slots) (hq : Q (some (.long u)) h) (hkm : km ≤ h.size := by first | exact Nat.zero_le _ | assumption) : Go κ Q h k n pc L (.long u :: st) :=
  go_end B hk hn hq (fun q => by cases q) hkm (fun T locs fs X hr => retOut X B.exec (t := .long) (i := .lreturn) B.rets rfl (Or.inr (Or.inl ⟨rfl, rfl, u, rfl⟩)) (hb B.byt hd.1) hr)
theorem go_areturn {ty : FieldType} (B : OkK km κ l Z a0 n0 R own nm bytes maxL (some ty)) (hd : Dc bytes pc .areturn 1 pc') (hty : ty.isReference = true) (hnr : narrow ty v = v) (hv : v.isRef = true) (hk : k ≤ R.cells) (hn : n ≤ R.slots) (hq : Q (some v) h) (hkm : km ≤ h.size := by first | exact Nat.zero_le _ | assumption) : Go κ Q h k n pc L (v :: st) :=
  go_end B hk hn hq (fun q => by cases q) hkm (fun T locs fs X hr => retOut X B.exec (t := ty) (i := .areturn) B.rets hnr (Or.inr (Or.inr (Or.inr (Or.inr ⟨rfl, hty, hv⟩)))) (hb B.byt hd.1) hr)
theorem go_return (B : OkK km κ l Z a0 n0 R own nm bytes maxL none) (hd : Dc bytes pc .return_ 1 pc') (hk : k ≤ R.cells) (hn : n ≤ R.slots) (hq : Q none h) (hkm : km ≤ h.size := by first | exact Nat.zero_le _ | assumption) : Go κ Q h k n pc L [] :=
  go_end B hk hn hq (fun _ => rfl) hkm (fun T locs fs X hr => X.returnOut B.exec B.rets (hb B.byt hd.1) hr)
end G
end Jvm.OwnGo
namespace Jvm.OwnGo
open Sem ClassFile Op Lib Jvm.Stand Jvm.Free Jvm.LawKit Jvm.RoadKit
section G
variable {km : Nat} {κ : Cx} {l : Launch} {Z : State} {a0 : Array Value} {n0 : Nat} {R : Room} {own nm : String} {bytes : ByteArray} {maxL : Nat} {ret : Option FieldType} {Q : Option Value → Heap → Prop} {h : Heap} {k n pc pc' pc1 pc2 : Nat} {L L' : Array Slot} {st st' : List Value} {o : Int} {x y : Int32} {u w : Int64} {a b : Addr} {v v' : Value}
theorem fitC_of {c : Cell} {ty : FieldType} (A : Arr Z h a c ty) (hv : ∀ v ∈ c.slots.toList, fits ty v = true) : FitC Z c := fun i v q => by
  obtain ⟨-, kk, hk, comp, hkind⟩ := A.2.1
  have m : v ∈ c.slots.toList := by
    obtain ⟨hi, rfl⟩ := Array.getElem?_eq_some_iff.mp q
    exact Array.mem_toList_iff.mpr (Array.getElem_mem hi)
  simp [State.fitsSlot, State.slotType?, hk, hkind, hv v m]
/-- array.clone() -/
theorem go_clone (B : OkK km κ l Z a0 n0 R own nm bytes maxL ret) {ad : String} {idx W cap : Nat} {ty : FieldType} {vs : List Value} (hd : Dc bytes pc (.invokevirtual idx) 3 pc')
    (w1 : (Jvm.Cond.methodLink own idx ⟨ad, "clone", "()Ljava/lang/Object;"⟩).before a0 Z = true) (w2 : (Jvm.Cond.sameMethod ad "java/lang/Object" "clone" "()Ljava/lang/Object;").before a0 Z = true) (w3 : (Jvm.Cond.native ⟨"java/lang/Object", "clone", "()Ljava/lang/Object;"⟩).before a0 Z = true)
    (w4 : (Jvm.Cond.instanceMethod ⟨"java/lang/Object", "clone", "()Ljava/lang/Object;"⟩).before a0 Z = true) (w5 : (Jvm.Cond.selects ad ⟨ad, "clone", "()Ljava/lang/Object;"⟩ ⟨"java/lang/Object", "clone", "()Ljava/lang/Object;"⟩).before a0 Z = true) (w6 : (Jvm.Cond.castable ad "java/lang/Cloneable").before a0 Z = true)
    (A : AV Z h a ty vs) (E : Exa Z h a ad) (hv : ∀ v ∈ vs, fits ty v = true) (hs : L.size = maxL) (hW : (st.map fun v => v.category).sum = W) (hf : 1 ≤ R.frames) (hl : W + 14 ≤ R.locals) (hcap : vs.length ≤ cap) (hc : k + 1 ≤ R.cells) (hsl : n + cap ≤ R.slots)
    (g : ∀ h' b, b = h.size → Ext h h' → AV Z h' b ty vs → Exa Z h' b ad → Go κ Q h' (k + 1) (n + cap) pc' L (.ref b :: st)) : Go κ Q h k n pc L (.ref a :: st) := fun T locs X N e => by
  obtain ⟨dd, rfl⟩ := hd
  obtain ⟨c, A, r, s⟩ := A
  obtain ⟨T', h', X', e', E', A', C', sp⟩ := cloneA X B.exec B.warm B.hown w1 w2 w3 w4 w5 w6 e A E (fitC_of A (by rw [r]; simpa using hv)) (g := mkF κ.m pc L (.ref a :: st)) rfl (by rw [B.mxl]; exact hs) rfl (hb B.byt dd) (by rw [B.room]; exact hf) (W := W) (cap := cap) (by show 2 * 0 + _ ≤ _; omega) (by rw [B.room]; exact hl) (by rw [r]; simpa using hcap) (by rw [B.room]; exact hc) (by rw [B.room]; exact hsl)
  obtain ⟨t, o, h1, h2⟩ := g h' _ rfl E' ⟨_, A', r, s⟩ C' T' locs X' N e'
  exact ⟨t, o, sp _ h1, h2⟩
theorem go_checkcast (B : OkK km κ l Z a0 n0 R own nm bytes maxL ret) {K : String} {idx : Nat} (hd : Dc bytes pc (.checkcast idx) 3 pc') (wl : (Jvm.Cond.classLink own idx K).before a0 Z = true) (F : Ins Z h a K true) (g : Go κ Q h k n pc' L (.ref a :: st)) : Go κ Q h k n pc L (.ref a :: st) := fun T locs X N e => by
  obtain ⟨dd, rfl⟩ := hd
  obtain ⟨T', X', e', sp⟩ := castY X B.exec B.warm B.hown wl e F (g := mkF κ.m pc L (.ref a :: st)) rfl rfl (hb B.byt dd)
  obtain ⟨t, o, h1, h2⟩ := g T' locs X' N e'
  exact ⟨t, o, sp _ h1, h2⟩
theorem AV.arv {ty : FieldType} {vs : List Value} {d : Value} (A : AV Z h a ty vs) (hv : ∀ v ∈ vs, fits ty v = true) : ∃ kk, Arv Z h a kk ty (Int32.ofNat vs.length) vs d := by
  obtain ⟨c, A, r, s⟩ := A
  have e1 : (Int32.ofNat vs.length).toInt = (vs.length : Int) := Int32.toInt_ofNat_of_lt s
  obtain ⟨q1, q2⟩ := nat_idx e1
  refine ⟨_, c, A, rfl, by rw [r, q2]; simp, q1, fun i hi => ?_, fun i hi => ?_⟩
  · rw [r] at hi ⊢
    have hi' : i < vs.length := by simpa using hi
    simp [List.getD, hi']
  · rw [r] at hi
    have hi' : i < vs.length := by simpa using hi
    have e : vs.getD i d = vs[i] := by simp [List.getD, hi']
    rw [e]
    exact hv _ (List.getElem_mem hi')
theorem AV.of_arv {ty : FieldType} {vs : List Value} {d : Value} {kk : ClassId} {z : Int32} (F : Arv Z h a kk ty z vs d) (e : vs.length = z.toNatClampNeg) : AV Z h a ty vs := by
  obtain ⟨c, A, -, S, N, H, -⟩ := F
  refine ⟨c, A, ?_, by rw [e]; exact (back32 N).2⟩
  apply Array.ext_getElem?
  intro i
  rcases Nat.lt_or_ge i vs.length with q | q
  · rw [H i (by omega)]; simp [List.getD, q]
  · rw [Array.getElem?_eq_none (by omega)]; simp [q]
/-- System.arraycopy between two arrays of one primitive kind: from place sp on, dc places, to place dp on -/
theorem go_arraycopy (B : OkK km κ l Z a0 n0 R own nm bytes maxL ret) {idx W si di ni : Nat} {ty : FieldType} {vs ws : List Value} {sp dp cn : Int32} (hd : Dc bytes pc (.invokestatic idx) 3 pc')
    (w1 : (Jvm.Cond.methodLink own idx Jvm.Stand.acN).before a0 Z = true) (w2 : (Jvm.Cond.native Jvm.Stand.acN).before a0 Z = true) (w3 : (Jvm.Cond.static Jvm.Stand.acN).before a0 Z = true) (w4 : (Jvm.Cond.initialized "java/lang/System").before a0 Z = true)
    (A : AV Z h a ty vs) (A2 : AV Z h b ty ws) (hp : refKind ty = false) (hv : ∀ v ∈ vs, fits ty v = true) (hw : ∀ v ∈ ws, fits ty v = true) (hsp : sp.toInt = (si : Int)) (hdp : dp.toInt = (di : Int)) (hcn : cn.toInt = (ni : Int)) (h4 : si + ni ≤ vs.length) (h5 : di + ni ≤ ws.length) (ge : n0 ≤ b)
    (hs : L.size = maxL) (hW : (st.map fun v => v.category).sum = W) (hf : 1 ≤ R.frames) (hl : W + 18 ≤ R.locals)
    (g : ∀ h', Keep h h' [b] → AV Z h' b ty (ws.take di ++ (vs.drop si).take ni ++ ws.drop (di + ni)) → Go κ Q h' k n pc' L st) : Go κ Q h k n pc L (.int cn :: .int dp :: .ref b :: .int sp :: .ref a :: st) := fun T locs X N e => by
  obtain ⟨dd, rfl⟩ := hd
  obtain ⟨k1, F1⟩ := A.arv (d := .null) hv
  obtain ⟨k2, F2⟩ := A2.arv (d := .null) hw
  obtain ⟨p1, p2⟩ := nat_idx hsp
  obtain ⟨d1, d2⟩ := nat_idx hdp
  obtain ⟨m1, m2⟩ := nat_idx hcn
  have eA : (Int32.ofNat vs.length).toNatClampNeg = vs.length := (nat_idx (Int32.toInt_ofNat_of_lt A.len)).2
  have eB : (Int32.ofNat ws.length).toNatClampNeg = ws.length := (nat_idx (Int32.toInt_ofNat_of_lt A2.len)).2
  have hus : (vs.drop si).take ni = (List.range cn.toNatClampNeg).map fun i => vs.getD (sp.toNatClampNeg + i) .null := by
    rw [m2, p2]
    apply List.ext_getElem?
    intro i
    rcases Nat.lt_or_ge i ni with q | q
    · rw [List.getElem?_take_of_lt q, List.getElem?_drop]
      simp only [List.getElem?_map, List.getElem?_range q, Option.map_some, List.getD]
      rw [List.getElem?_eq_getElem (by omega)]; rfl
    · rw [List.getElem?_eq_none (by simp; omega), List.getElem?_eq_none (by simp; omega)]
  obtain ⟨T', h', L2, X', e', N', K, F3, sp'⟩ := cpA X B.exec B.warm B.hown w1 w2 w3 w4 e F1 F2 (Or.inl ⟨rfl, hp⟩) p1 d1 m1 (by rw [p2, m2, eA]; exact h4) (by rw [d2, m2, eB]; exact h5) hus (by rw [d2, m2]; exact h5) N (B.hn ▸ ge) (g := mkF κ.m pc L (.int cn :: .int dp :: .ref b :: .int sp :: .ref a :: st)) rfl (by rw [B.mxl]; exact hs) rfl (hb B.byt dd) (by rw [B.room]; exact hf) (W := W) (by show 2 * 0 + _ ≤ _; omega) (by rw [B.room]; exact hl)
  rw [d2, m2] at F3
  have F4 := AV.of_arv F3 (by rw [eB]; simp; omega)
  obtain ⟨t, o, h1, h2⟩ := g h' K F4 T' _ X' N' e'
  exact ⟨t, o, sp' _ h1, h2⟩
end G
end Jvm.OwnGo
namespace Jvm.OwnGo
open Sem ClassFile Op Lib Jvm.Stand Jvm.Free Jvm.LawKit Jvm.RoadKit
theorem go_instanceof {km : Nat} {κ : Cx} {l : Launch} {Z : State} {a0 : Array Value} {n0 : Nat} {R : Room} {own nm : String} {bytes : ByteArray} {maxL : Nat} {ret : Option FieldType} {Q : Option Value → Heap → Prop} {h : Heap} {k n pc pc' : Nat} {L : Array Slot} {st : List Value} {a : Addr} (B : OkK km κ l Z a0 n0 R own nm bytes maxL ret) {K : String} {idx : Nat} (hd : Dc bytes pc (.instanceof idx) 3 pc') (wl : (Jvm.Cond.classLink own idx K).before a0 Z = true) (F : Ins Z h a K true) (g : Go κ Q h k n pc' L (.int 1 :: st)) : Go κ Q h k n pc L (.ref a :: st) := fun T locs X N e => by
  obtain ⟨dd, rfl⟩ := hd
  obtain ⟨T', X', e', sp⟩ := instY X B.exec B.warm B.hown wl e F (g := mkF κ.m pc L (.ref a :: st)) rfl rfl (hb B.byt dd)
  obtain ⟨t, o, h1, h2⟩ := g T' locs X' N e'
  exact ⟨t, o, sp _ h1, h2⟩
end Jvm.OwnGo
namespace Jvm.OwnGo
open Sem ClassFile Op Lib Jvm.Stand Jvm.Free Jvm.LawKit Jvm.RoadKit
/-- a cell that is no class's statics -/
def Nst (h : Heap) (x : Addr) : Prop := ∃ c : Cell, h[x]? = some c ∧ c.vm.isStatics = false
theorem nst_exa {Z : State} {h : Heap} {a : Addr} {C : String} (E : Exa Z h a C) : Nst h a := by obtain ⟨c, k, h1, -, -, h4, -⟩ := E; exact ⟨c, h1, h4⟩
theorem sta_keep {Z : State} {h h' : Heap} {C n d : String} {v : Value} {ws : List Addr} (F : Sta Z h C n d v) (K : Keep h h' ws) (q : ∀ x ∈ ws, Nst h x) : Sta Z h' C n d v := by
  obtain ⟨cf, i, k, f, st, cell, h1, h2, h3, h4, h5, h6, h7⟩ := F
  refine ⟨cf, i, k, f, st, cell, h1, h2, h3, h4, K.2.1 st cell h5 fun m => ?_, h6, h7⟩
  obtain ⟨c, e1, e2⟩ := q st m
  cases h5.symm.trans e1
  rw [h6] at e2
  cases e2
end Jvm.OwnGo
namespace Jvm.OwnGo
open Sem ClassFile Op Lib Jvm.Stand Jvm.Free Jvm.LawKit Jvm.RoadKit
/-- a field of a static's object, as the case says it -/
theorem int_fld {s : State} {args : Array Value} {a : Addr} {C n d : String} {t : Term} {z : Int32} (ev : t.eval args s none [] s = some (.ref a)) (h : (Jvm.Cond.eq (Term.field t C n d) (Term.int z)).value args s none s [] = some true) : Fld s s.heap a C n d (.int z) := by
  obtain ⟨x, y, hx, hy, k1, k2⟩ := cmp_v (Or.inl h)
  obtain rfl := Option.some.inj (hy.symm.trans (Term.int_eval z))
  obtain ⟨w, rfl⟩ := k2
  have e := gotT (Cond.eq_ints hx hy) h
  subst e
  exact Fld.start ((fld_at ev).symm.trans hx)
end Jvm.OwnGo
namespace Jvm.OwnGo
open Sem ClassFile Op Lib Jvm.Stand Jvm.Free Jvm.LawKit Jvm.RoadKit
theorem size_of {s : State} {args : Array Value} {a : Addr} {t : Term} {ty : FieldType} {c : Cell} {n : Nat} (hn : n < 2147483648) (ev : t.eval args s none [] s = some (.ref a)) (A : Arr s s.heap a c ty) (h2 : (Jvm.Cond.eq (Term.length t) (Term.int (Int32.ofNat n))).value args s none s [] = some true) : c.slots.size = n := by
  obtain ⟨x, y, hx, hy, k1, k2⟩ := cmp_v (Or.inl h2)
  obtain rfl := Option.some.inj (hy.symm.trans (Term.int_eval _))
  obtain ⟨w, rfl⟩ := k2
  have e := gotT (Cond.eq_ints hx hy) h2
  have hA := Arr.fin (Vm.Alike.refl _) A
  simp only [Term.eval, ev, Option.bind_eq_bind, Option.bind_some, hA] at hx
  split at hx
  · rename_i q
    have e2 : c.slots.size.toInt32 = w := by simpa using hx
    have e3 := congrArg Int32.toInt (e2.trans e)
    rw [len_toInt q, Int32.toInt_ofNat_of_lt (by omega)] at e3
    omega
  · cases hx
/-- an array of ints (bytes, chars ..), as the case says it -/
theorem av_ints {s : State} {args : Array Value} {a : Addr} {t : Term} {ty : FieldType} {xs : List Int32} (ev : t.eval args s none [] s = some (.ref a)) (h1 : (Jvm.Cond.arrayOf t ty).value args s none s [] = some true) (h2 : (Jvm.Cond.eq (Term.length t) (Term.int (Int32.ofNat xs.length))).value args s none s [] = some true)
    (h3 : ∀ (i : Nat) (hi : i < xs.length), (Jvm.Cond.eq (Term.elem t (Term.int (Int32.ofNat i))) (Term.int xs[i])).value args s none s [] = some true) (hn : xs.length < 2147483648 := by simp) : AV s s.heap a ty (xs.map Value.int) := by
  obtain ⟨c, A⟩ := Arr.start ev h1
  have hs := size_of hn ev A h2
  refine ⟨c, A, ?_, by simpa using hn⟩
  apply Array.ext_getElem?
  intro i
  rcases Nat.lt_or_ge i xs.length with q | q
  · have h := h3 i q
    obtain ⟨x, y, hx, hy, k1, k2⟩ := cmp_v (Or.inl h)
    obtain rfl := Option.some.inj (hy.symm.trans (Term.int_eval _))
    obtain ⟨w, rfl⟩ := k2
    have e := gotT (Cond.eq_ints hx hy) h
    subst e
    have r := (elem_in hx ev (Term.int_eval _) A.1).2
    rw [(nat_idx (Int32.toInt_ofNat_of_lt (by omega : i < 2 ^ 31))).2] at r
    rw [r]; simp [q]
  · rw [Array.getElem?_eq_none (by omega)]; simp [q]
/-- an array of references, as the case says it -/
theorem av_refs {s : State} {args : Array Value} {a : Addr} {t : Term} {ty : FieldType} {bs : List Addr} (ev : t.eval args s none [] s = some (.ref a)) (h1 : (Jvm.Cond.arrayOf t ty).value args s none s [] = some true) (h2 : (Jvm.Cond.eq (Term.length t) (Term.int (Int32.ofNat bs.length))).value args s none s [] = some true)
    (h3 : ∀ (i : Nat) (hi : i < bs.length), ∃ u : Term, u.eval args s none [] s = some (.ref bs[i]) ∧ (Jvm.Cond.eq (Term.elem t (Term.int (Int32.ofNat i))) u).value args s none s [] = some true) (hn : bs.length < 2147483648 := by simp) : AV s s.heap a ty (bs.map Value.ref) := by
  obtain ⟨c, A⟩ := Arr.start ev h1
  have hs := size_of hn ev A h2
  refine ⟨c, A, ?_, by simpa using hn⟩
  apply Array.ext_getElem?
  intro i
  rcases Nat.lt_or_ge i bs.length with q | q
  · obtain ⟨u, eu, h⟩ := h3 i q
    obtain ⟨x, y, hx, hy, k1, k2⟩ := cmp_v (Or.inl h)
    obtain rfl := Option.some.inj (hy.symm.trans eu)
    have e := gotT (eq_R hx hy k2.2 k2.1) h
    subst e
    have r := (elem_in hx ev (Term.int_eval _) A.1).2
    rw [(nat_idx (Int32.toInt_ofNat_of_lt (by omega : i < 2 ^ 31))).2] at r
    rw [r]; simp [q]
  · rw [Array.getElem?_eq_none (by omega)]; simp [q]
end Jvm.OwnGo
namespace Jvm.OwnGo
open Sem ClassFile Op Lib Jvm.Stand Jvm.Free Jvm.LawKit Jvm.RoadKit
section W
variable {km : Nat} {κ : Cx} {l : Launch} {Z : State} {a0 : Array Value} {n0 : Nat} {R : Room} {own nm : String} {bytes : ByteArray} {maxL : Nat} {ret : Option FieldType} {Q : Option Value → Heap → Prop} {h : Heap} {k n pc pc' pc1 pc2 : Nat} {L L' : Array Slot} {st st' : List Value} {o : Int} {x y : Int32} {u w : Int64} {a : Addr} {v v' : Value}
/-- a walk that may have interned: the start with other tables, what was interned since, the wide end -/
def WK (κ : Cx) : Prop := κ.s = κ.s0.setVm κ.s.vm ∧ κ.s0.Since κ.s.vm κ.kmin ∧ κ.E = fun o t L => ReturnedEndW κ.s0 o t L κ.R.cells κ.R.slots
/-- the context over other tables -/
abbrev Cx.re (κ : Cx) (vm : Vm) (k1 : Nat) : Cx := (κ.p, κ.l, κ.e, κ.R, κ.s0.setVm vm, κ.m, κ.args, κ.below, κ.meth, κ.c, κ.Z, κ.a0, κ.n0, κ.E, k1, κ.s0)
theorem WK.re (W : WK κ) {vm : Vm} {k1 : Nat} (hS : κ.s0.Since vm k1) : WK (κ.re vm k1) := ⟨rfl, hS, W.2.2⟩
theorem WK.base (W : WK κ) (vm : Vm) : κ.s.setVm vm = κ.s0.setVm vm := by rw [W.1]; rfl
theorem OkK.re (B : OkK km κ l Z a0 n0 R own nm bytes maxL ret) (W : WK κ) {vm : Vm} {k1 : Nat} (hS : κ.s0.Since vm k1) (hZ : Z.Warmed39 vm) (ho : vm.findClass own = some κ.m.cls) : OkK k1 (κ.re vm k1) l Z a0 n0 R own nm bytes maxL ret := by
  obtain ⟨b1, b2, b3, b4, b5, b6, b7, b8, b9, b10, b11, b12, b13, b14, b15⟩ := B
  refine ⟨b1, b2, b3, ?_, ho, b6, b7, b8, b9, b10, b11, b12, b13, rfl, ?_⟩
  · show κ.Z.Warmed39 vm
    rw [b10]; exact hZ
  · intro o t L hF hk
    show κ.E o t L
    rw [W.2.2]
    obtain ⟨⟨v, rfl⟩, hW, hs⟩ := hF
    obtain ⟨p, q, r⟩ := hS.ended (U := t) hW hk hs
    exact ⟨⟨v, rfl⟩, p, q, r⟩
/-- a body's contract, wide -/
def CtW (l : Launch) (Z : State) (n0 : Nat) (y : MethodName) (bytes : ByteArray) (maxL : Nat) (ret : Option FieldType) (ws : List Jvm.Cond) (rm : Room) (as' : Array Value) (h0 : Heap) (Q : Option Value → Heap → Prop) : Prop :=
  MetFree l y (head1 (Jvm.Cond.code y bytes maxL ret :: ws) rm) (fun a U => a = as' ∧ Z.Warmed39 U.vm ∧ U.heap = h0) (fun _ _ _ _ _ => True) (fun _ U o U' => ∃ v L, o = .returned v ∧ (Q v U'.heap ∧ Fr n0 L) ∧ ReturnedEndW U o U' L rm.cells rm.slots)
theorem CtW.of {y : MethodName} {ws : List Jvm.Cond} {rm : Room} {as' : Array Value} {h0 : Heap} {L0 : Array Slot}
    (hp : plainFor y = true) (hf : ∀ m : MethodId, entryFrame m as' maxL = mkF m 0 L0 [])
    (body : ∀ κ : Cx, WK κ → Ok κ l Z a0 n0 rm y.cls y.name bytes maxL ret → Go κ Q h0 0 0 0 L0 []) : CtW l Z n0 y bytes maxL ret ws rm as' h0 Q := by
  refine MetFree.of_bodySF hp hisR ?_
  intro p e s m args below meth c s₁ Bd hml0 hP hK
  obtain ⟨rfl, hZ, hh⟩ := hP
  have hown : s.vm.findClass y.cls = some m.cls := findClass_of_methodNamed Bd.named
  have hnm := (name_of_methodNamed Bd.named Bd.method).1
  have X0 : Stand p l e rm s m args below meth c s₁ [] 0 0 := Stand.of_body Bd
  have e0 : s₁.heap = h0 := by rw [← hh, Bd.state]; rfl
  have q := body (p, l, e, rm, s, m, args, below, meth, c, Z, a0, n0, fun o t L => ReturnedEndW s o t L rm.cells rm.slots, 0, s) ⟨rfl, (State.WarmedH.refl s).since 0, rfl⟩ ⟨Bd.exec, Bd.bytes, hml0, hZ, hown, Bd.returns, Bd.notSynchronized, hnm, rfl, rfl, rfl, rfl, rfl, rfl, fun _ _ _ q _ => ReturnedEndW.of_narrow q.1 q.2.1 q.2.2⟩ s₁ [] X0 (Fr.nil n0) e0
  obtain ⟨t, o, h1, h2, h3, h4⟩ := q
  exact ⟨t, o, castTop (hf m) h1, h2, h3, h4⟩
/-- ldc of a string constant -/
theorem go_ldcS (B : OkK km κ l Z a0 n0 R own nm bytes maxL ret) (W : WK κ) {idx nn : Nat} {text : String} (hd : Dc bytes pc (.ldc idx) 2 pc') (wl : (Jvm.Cond.stringLink own idx text).before a0 Z = true) (wS : ∀ a ∈ Bundle.stringAtoms, a.before a0 Z = true) (hkm : km ≤ h.size)
    (hn : 4 * text.toList.length ≤ nn) (hbig : nn ≤ 536870912) (hc : k + 2 ≤ R.cells) (hl : n + (nn + 4) ≤ R.slots)
    (g : ∀ κ' km' h' b, WK κ' → OkK km' κ' l Z a0 n0 R own nm bytes maxL ret → km' ≤ h'.size → Ext h h' → Go κ' Q h' (k + 2) (n + (nn + 4)) pc' L (.ref b :: st)) : Go κ Q h k n pc L st := fun T locs X N e => by
  obtain ⟨dd, rfl⟩ := hd
  have X1 : Stand κ.p κ.l κ.e κ.R (κ.s0.setVm κ.s.vm) κ.m κ.args κ.below κ.meth κ.c T locs k n := by rw [← W.1]; exact X
  obtain ⟨b, T', h', k1, X', e', E, hS, hk1, hZ, ho, sp⟩ := ldcS X1 B.exec B.warm B.hown wl wS e W.2.1 (by rw [B.hkm]; exact hkm) (g := mkF κ.m pc L st) rfl (hb B.byt dd) hn hbig (by rw [B.room]; exact hc) (by rw [B.room]; exact hl)
  obtain ⟨t, o, h1, h2⟩ := g (κ.re T'.vm k1) k1 h' b (W.re hS) (B.re W hS hZ ho) hk1 E T' locs X' N e'
  exact ⟨t, o, sp _ h1, h2⟩
section Call
variable {y' : MethodName} {idx W' : Nat} {bytes' : ByteArray} {maxL' : Nat} {ret' : Option FieldType} {rm : Room} {as' : Array Value} {argsL : List Value} {Q' : Option Value → Heap → Prop} {ps : List FieldType} {rt : Option FieldType}
/-- behind a wide callee -/
theorem back_wide (B : OkK km κ l Z a0 n0 R own nm bytes maxL ret) (W : WK κ) (hkm : km ≤ h.size) {T' : State} (hS : κ.s.Since T'.vm T'.heap.size) (hg : h.size ≤ T'.heap.size) :
    WK (κ.re T'.vm T'.heap.size) ∧ OkK T'.heap.size (κ.re T'.vm T'.heap.size) l Z a0 n0 R own nm bytes maxL ret := by
  have hS0 : (κ.s0.setVm κ.s.vm).Since T'.vm T'.heap.size := by rw [← W.1]; exact hS
  have hS1 := W.2.1.trans hS0 (by rw [B.hkm]; omega)
  exact ⟨W.re hS1, B.re W hS1 (State.Warmed39.trans B.warm hS.1) ((hS.1.alike.findClass _ _).trans B.hown)⟩
theorem go_staticW (B : OkK km κ l Z a0 n0 R own nm bytes maxL ret) (Wk : WK κ) (hkm : km ≤ h.size) (hd : Dc bytes pc (.invokestatic idx) 3 pc') (w1 : (Jvm.Cond.methodLink own idx y').before a0 Z = true) (w2 : (Jvm.Cond.static y').before a0 Z = true) (w3 : (Jvm.Cond.initialized y'.cls).before a0 Z = true) (w4 : (Jvm.Cond.code y' bytes' maxL' ret').before a0 Z = true)
    (hy : y'.cls ≠ "java/lang/invoke/MethodHandle" ∧ y'.cls ≠ "java/lang/invoke/VarHandle") (C : CtW l Z n0 y' bytes' maxL' ret' [] rm argsL.toArray h Q') (pd : parseMethodDescriptor y'.desc = some ⟨ps, rt⟩) (hlen : argsL.length = ps.length) (hst : st' = argsL.reverse ++ st) (hs : L.size = maxL)
    (hW : (st.map fun v => v.category).sum = W') (hf : rm.frames + 1 ≤ R.frames) (hl : W' + (maxL' + 11) + rm.locals ≤ R.locals) (hc : k + rm.cells ≤ R.cells) (hn : n + rm.slots ≤ R.slots)
    (g : ∀ κ' km' v h', WK κ' → OkK km' κ' l Z a0 n0 R own nm bytes maxL ret → km' ≤ h'.size → Q' v h' → Go κ' Q h' (k + rm.cells) (n + rm.slots) pc' L (v.toList ++ st)) : Go κ Q h k n pc L st' := fun T locs X N e => by
  obtain ⟨dd, rfl⟩ := hd
  have C' : CtW κ.l Z n0 y' bytes' maxL' ret' [] rm argsL.toArray h Q' := B.hl.symm ▸ C
  obtain ⟨vv, _, ⟨T', L2, k2, n2⟩, -, X', hS, hg, ⟨Lc, hQ, l2, y2, z2⟩, sp⟩ := callSS X B.exec (y := y') B.hown (mvT B.warm w1) (mvT B.warm w2) (mvT B.warm w3) (mvT B.warm w4) hy
    (backOfS (Q := fun v h L => Q' v h ∧ Fr n0 L) (W := W') C' B.warm w4 w3 (by rw [B.room]; exact hf) (by rw [B.room]; exact hl)) (g := mkF κ.m pc L st') rfl (by rw [B.mxl]; exact hs) (argsL := argsL) (rest := st) (lenOf pd hlen) hst (by show 2 * 0 + _ ≤ _; omega) (hb B.byt dd)
    (fun _ _ => ⟨rfl, e, by rw [B.room]; exact hc, by rw [B.room]; exact hn⟩)
  dsimp only [Pt.U, Pt.locs, Pt.cells, Pt.slots] at X' hS hg l2 y2 z2 sp hQ
  subst l2 y2 z2
  rw [Wk.base] at X'
  obtain ⟨q1, q2⟩ := back_wide B Wk hkm hS (by rw [← e]; exact hg)
  obtain ⟨t, o, h1, h2⟩ := g _ _ vv T'.heap q1 q2 (Nat.le_refl _) hQ.1 T' _ X' (Fr.app N (B.hn.symm ▸ hQ.2)) rfl
  exact ⟨t, o, sp.trans h1, h2⟩
theorem go_specialW (B : OkK km κ l Z a0 n0 R own nm bytes maxL ret) (Wk : WK κ) (hkm : km ≤ h.size) (hd : Dc bytes pc (.invokespecial idx) 3 pc') (hi : y'.name = "<init>") (w1 : (Jvm.Cond.methodLink own idx y').before a0 Z = true) (w2 : (Jvm.Cond.instanceMethod y').before a0 Z = true) (w3 : (Jvm.Cond.initialized y'.cls).before a0 Z = true) (w4 : (Jvm.Cond.code y' bytes' maxL' none).before a0 Z = true)
    (hy : y'.cls ≠ "java/lang/invoke/MethodHandle" ∧ y'.cls ≠ "java/lang/invoke/VarHandle") (C : CtW l Z n0 y' bytes' maxL' none [] rm (.ref a :: argsL).toArray h Q') (pd : parseMethodDescriptor y'.desc = some ⟨ps, rt⟩) (hlen : argsL.length = ps.length) (hst : st' = argsL.reverse ++ .ref a :: st) (hs : L.size = maxL)
    (hW : (st.map fun v => v.category).sum = W') (hf : rm.frames + 1 ≤ R.frames) (hl : W' + (maxL' + 11) + rm.locals ≤ R.locals) (hc : k + rm.cells ≤ R.cells) (hn : n + rm.slots ≤ R.slots)
    (g : ∀ κ' km' v h', WK κ' → OkK km' κ' l Z a0 n0 R own nm bytes maxL ret → km' ≤ h'.size → Q' v h' → Go κ' Q h' (k + rm.cells) (n + rm.slots) pc' L (v.toList ++ st)) : Go κ Q h k n pc L st' := fun T locs X N e => by
  obtain ⟨dd, rfl⟩ := hd
  have C' : CtW κ.l Z n0 y' bytes' maxL' none [] rm (.ref a :: argsL).toArray h Q' := B.hl.symm ▸ C
  obtain ⟨vv, _, ⟨T', L2, k2, n2⟩, -, X', hS, hg, ⟨Lc, hQ, l2, y2, z2⟩, sp⟩ := X.specialBackS B.exec (y := y') hi B.hown (mvT B.warm w1) (mvT B.warm w2) (mvT B.warm w4) hy
    (backOfS (Q := fun v h L => Q' v h ∧ Fr n0 L) (W := W') C' B.warm w4 w3 (by rw [B.room]; exact hf) (by rw [B.room]; exact hl)) (g := mkF κ.m pc L st') rfl (by rw [B.mxl]; exact hs) (Steps.refl _) (a := a) (argsL := argsL) (rest := st) (lenOf pd hlen) hst (by show 2 * 0 + _ ≤ _; omega) (hb B.byt dd)
    (fun _ _ => ⟨rfl, e, by rw [B.room]; exact hc, by rw [B.room]; exact hn⟩)
  dsimp only [Pt.U, Pt.locs, Pt.cells, Pt.slots] at X' hS hg l2 y2 z2 sp hQ
  subst l2 y2 z2
  rw [Wk.base] at X'
  obtain ⟨q1, q2⟩ := back_wide B Wk hkm hS (by rw [← e]; exact hg)
  obtain ⟨t, o, h1, h2⟩ := g _ _ vv T'.heap q1 q2 (Nat.le_refl _) hQ.1 T' _ X' (Fr.app N (B.hn.symm ▸ hQ.2)) rfl
  exact ⟨t, o, sp.trans h1, h2⟩
theorem go_virtualW (B : OkK km κ l Z a0 n0 R own nm bytes maxL ret) (Wk : WK κ) (hkm : km ≤ h.size) {C0 : String} (hd : Dc bytes pc (.invokevirtual idx) 3 pc') (w1 : (Jvm.Cond.methodLink own idx y').before a0 Z = true) (w2 : (Jvm.Cond.declares y').before a0 Z = true) (w5 : (Jvm.Cond.selects C0 y' y').before a0 Z = true) (w6 : (Jvm.Cond.instanceMethod y').before a0 Z = true) (w3 : (Jvm.Cond.initialized y'.cls).before a0 Z = true) (w4 : (Jvm.Cond.code y' bytes' maxL' ret').before a0 Z = true)
    (hy : y'.cls ≠ "java/lang/invoke/MethodHandle" ∧ y'.cls ≠ "java/lang/invoke/VarHandle") (E : Exa Z h a C0) (C : CtW l Z n0 y' bytes' maxL' ret' [] rm (.ref a :: argsL).toArray h Q') (pd : parseMethodDescriptor y'.desc = some ⟨ps, rt⟩) (hlen : argsL.length = ps.length) (hst : st' = argsL.reverse ++ .ref a :: st) (hs : L.size = maxL)
    (hW : (st.map fun v => v.category).sum = W') (hf : rm.frames + 1 ≤ R.frames) (hl : W' + (maxL' + 11) + rm.locals ≤ R.locals) (hc : k + rm.cells ≤ R.cells) (hn : n + rm.slots ≤ R.slots)
    (g : ∀ κ' km' v h', WK κ' → OkK km' κ' l Z a0 n0 R own nm bytes maxL ret → km' ≤ h'.size → Q' v h' → Go κ' Q h' (k + rm.cells) (n + rm.slots) pc' L (v.toList ++ st)) : Go κ Q h k n pc L st' := fun T locs X N e => by
  obtain ⟨dd, rfl⟩ := hd
  have C' : CtW κ.l Z n0 y' bytes' maxL' ret' [] rm (.ref a :: argsL).toArray h Q' := B.hl.symm ▸ C
  obtain ⟨cq, kq, qa, qb, qc⟩ := isOf B.warm e E
  obtain ⟨vv, _, ⟨T', L2, k2, n2⟩, -, X', hS, hg, ⟨Lc, hQ, l2, y2, z2⟩, sp⟩ := X.virtualBackS B.exec (y := y') (z := y') B.hown (mvT B.warm w1) (mvT B.warm w2) (notFace_of_selects (args := #[]) (mvT B.warm w5)) (mvT B.warm w5) (mvT B.warm w6) hy
    (backOfS (Q := fun v h L => Q' v h ∧ Fr n0 L) (W := W') C' B.warm w4 w3 (by rw [B.room]; exact hf) (by rw [B.room]; exact hl)) qa qc (g := mkF κ.m pc L st') rfl (by rw [B.mxl]; exact hs) (Steps.refl _) (argsL := argsL) (rest := st) (lenOf pd hlen) hst (by show 2 * 0 + _ ≤ _; omega) (hb B.byt dd)
    (fun _ _ => ⟨rfl, e, by rw [B.room]; exact hc, by rw [B.room]; exact hn⟩)
  dsimp only [Pt.U, Pt.locs, Pt.cells, Pt.slots] at X' hS hg l2 y2 z2 sp hQ
  subst l2 y2 z2
  rw [Wk.base] at X'
  obtain ⟨q1, q2⟩ := back_wide B Wk hkm hS (by rw [← e]; exact hg)
  obtain ⟨t, o, h1, h2⟩ := g _ _ vv T'.heap q1 q2 (Nat.le_refl _) hQ.1 T' _ X' (Fr.app N (B.hn.symm ▸ hQ.2)) rfl
  exact ⟨t, o, sp.trans h1, h2⟩
/-- invokeinterface, narrow callee, found in a superinterface or not -/
theorem go_interface (B : OkK km κ l Z a0 n0 R own nm bytes maxL ret) {C0 : String} {xi : MethodName} {cnt : Nat} (hd : Dc bytes pc (.invokeinterface idx cnt) 5 pc') (w1 : (Jvm.Cond.methodLink own idx xi).before a0 Z = true) (w2 : (Jvm.Cond.declares xi).before a0 Z = true) (w8 : (Jvm.Cond.interfaceMethod xi.cls xi.cls xi.name xi.desc).before a0 Z = true) (w8m : ((Jvm.Cond.interfaceMethod xi.cls xi.cls xi.name xi.desc).onTables && (Jvm.Cond.interfaceMethod xi.cls xi.cls xi.name xi.desc).keepsFace) = true)
    (w5 : (Jvm.Cond.selects C0 xi y').before a0 Z = true) (w6 : (Jvm.Cond.instanceMethod y').before a0 Z = true) (w9 : (Jvm.Cond.publicMethod y').before a0 Z = true) (w10 : (Jvm.Cond.unhidden C0 xi.name xi.desc).before a0 Z = true) (w11 : (Jvm.Cond.castable C0 xi.cls).before a0 Z = true) (w3 : (Jvm.Cond.initialized y'.cls).before a0 Z = true) (w4 : (Jvm.Cond.code y' bytes' maxL' ret').before a0 Z = true)
    (hy : xi.cls ≠ "java/lang/invoke/MethodHandle" ∧ xi.cls ≠ "java/lang/invoke/VarHandle") (E : Exa Z h a C0) (C : Ct l Z n0 y' bytes' maxL' ret' [] rm (.ref a :: argsL).toArray h Q') (pd : parseMethodDescriptor xi.desc = some ⟨ps, rt⟩) (hlen : argsL.length = ps.length) (hst : st' = argsL.reverse ++ .ref a :: st) (hs : L.size = maxL)
    (hW : (st.map fun v => v.category).sum = W') (hf : rm.frames + 1 ≤ R.frames) (hl : W' + (maxL' + 11) + rm.locals ≤ R.locals) (hc : k + rm.cells ≤ R.cells) (hn : n + rm.slots ≤ R.slots)
    (g : ∀ v h', Q' v h' → Go κ Q h' (k + rm.cells) (n + rm.slots) pc' L (v.toList ++ st)) : Go κ Q h k n pc L st' := fun T locs X N e => by
  obtain ⟨dd, rfl⟩ := hd
  have C' : Ct κ.l Z n0 y' bytes' maxL' ret' [] rm (.ref a :: argsL).toArray h Q' := B.hl.symm ▸ C
  obtain ⟨cq, kq, qa, qb, qc⟩ := isOf B.warm e E
  obtain ⟨vv, _, ⟨T', L2, k2, n2⟩, -, X', ⟨Lc, hQ, l2, y2, z2⟩, sp⟩ := X.interfaceBack B.exec (xi := xi) (y := y') B.hown (mvT B.warm w1) (mvT B.warm w2) (mvT B.warm w8 w8m) (mvT B.warm w5) (mvT B.warm w6) (mvT B.warm w9) (mvT B.warm w10) (mvT B.warm w11) hy
    (backOf (Q := fun v h L => Q' v h ∧ Fr n0 L) (W := W') C' B.warm w4 w3 (by rw [B.room]; exact hf) (by rw [B.room]; exact hl)) qa qb qc (g := mkF κ.m pc L st') rfl (by rw [B.mxl]; exact hs) (Steps.refl _) (argsL := argsL) (rest := st) (lenOf pd hlen) hst (by show 2 * 0 + _ ≤ _; omega) (hb B.byt dd)
    (fun _ _ => ⟨rfl, e, by rw [B.room]; exact hc, by rw [B.room]; exact hn⟩)
  dsimp only [Pt.U, Pt.locs, Pt.cells, Pt.slots] at X' l2 y2 z2 sp hQ
  subst l2 y2 z2
  obtain ⟨t, o, h1, h2⟩ := g vv T'.heap hQ.1 T' _ X' (Fr.app N (B.hn.symm ▸ hQ.2)) rfl
  exact ⟨t, o, sp.trans h1, h2⟩
end Call
end W
end Jvm.OwnGo
namespace Jvm.OwnGo
open Sem ClassFile Op Lib Jvm.Stand Jvm.Free Jvm.LawKit Jvm.RoadKit
section D
variable {km : Nat} {κ : Cx} {l : Launch} {Z : State} {a0 : Array Value} {n0 : Nat} {R : Room} {own nm : String} {bytes : ByteArray} {maxL : Nat} {ret : Option FieldType} {Q : Option Value → Heap → Prop} {h : Heap} {k n pc pc' pc1 pc2 : Nat} {L L' : Array Slot} {st st' : List Value} {o : Int} {x y : Int32} {u w : Int64} {a : Addr} {v v' : Value} {d d' : UInt64}
theorem go_i2d (B : OkK km κ l Z a0 n0 R own nm bytes maxL ret) (hd : Dc bytes pc (.i2d) 1 pc') (g : Go κ Q h k n pc' L (.double (FP.i2d x) :: st)) : Go κ Q h k n pc L (.int x :: st) := by
  obtain ⟨dd, rfl⟩ := hd
  exact go_step (fun T locs X e t q => XS.i2dS X.here B.exec rfl (hb B.byt dd) rfl rfl q) g
theorem go_l2d (B : OkK km κ l Z a0 n0 R own nm bytes maxL ret) (hd : Dc bytes pc (.l2d) 1 pc') (g : Go κ Q h k n pc' L (.double (FP.l2d u) :: st)) : Go κ Q h k n pc L (.long u :: st) := by
  obtain ⟨dd, rfl⟩ := hd
  exact go_step (fun T locs X e t q => XS.l2dS X.here B.exec rfl (hb B.byt dd) rfl rfl q) g
theorem go_dneg (B : OkK km κ l Z a0 n0 R own nm bytes maxL ret) (hd : Dc bytes pc (.dneg) 1 pc') (g : Go κ Q h k n pc' L (.double (FP.dneg d) :: st)) : Go κ Q h k n pc L (.double d :: st) := by
  obtain ⟨dd, rfl⟩ := hd
  exact go_step (fun T locs X e t q => XS.dnegS X.here B.exec rfl (hb B.byt dd) rfl rfl q) g
theorem go_dcmp (B : OkK km κ l Z a0 n0 R own nm bytes maxL ret) {op : CmpOp} (hd : Dc bytes pc (.dcmp op) 1 pc') (hv : cmpValue (FP.dcmp d d') op = x) (g : Go κ Q h k n pc' L (.int x :: st)) : Go κ Q h k n pc L (.double d' :: .double d :: st) := by
  obtain ⟨dd, rfl⟩ := hd
  exact go_step (fun T locs X e t q => XS.dcmpS X.here B.exec rfl (hb B.byt dd) rfl hv q) g
theorem go_dload_n (B : OkK km κ l Z a0 n0 R own nm bytes maxL ret) {j : Fin 4} (hd : Dc bytes pc (.dload_n j) 1 pc') (hl : L[j.val]? = some (.val (.double d))) (g : Go κ Q h k n pc' L (.double d :: st)) : Go κ Q h k n pc L st := by
  obtain ⟨dd, rfl⟩ := hd
  exact go_step (fun T locs X e t q => XT.dloadN X.here B.exec rfl (hb B.byt dd) hl q) g
theorem go_dload (B : OkK km κ l Z a0 n0 R own nm bytes maxL ret) {j : Nat} (hd : Dc bytes pc (.dload j) 2 pc') (hl : L[j]? = some (.val (.double d))) (g : Go κ Q h k n pc' L (.double d :: st)) : Go κ Q h k n pc L st := by
  obtain ⟨dd, rfl⟩ := hd
  exact go_step (fun T locs X e t q => XT.dload X.here B.exec rfl (hb B.byt dd) hl q) g
theorem go_dstore_n (B : OkK km κ l Z a0 n0 R own nm bytes maxL ret) {j : Fin 4} (L' : Array Slot) (hd : Dc bytes pc (.dstore_n j) 1 pc') (hl : storeLocals L j.val (.double d) = some L') (g : Go κ Q h k n pc' L' st) : Go κ Q h k n pc L (.double d :: st) := by
  obtain ⟨dd, rfl⟩ := hd
  exact go_step (fun T locs X e t q => XS.dstoreN X.here B.exec rfl (hb B.byt dd) rfl hl q) g
theorem go_dstore (B : OkK km κ l Z a0 n0 R own nm bytes maxL ret) {j : Nat} (L' : Array Slot) (hd : Dc bytes pc (.dstore j) 2 pc') (hl : storeLocals L j (.double d) = some L') (g : Go κ Q h k n pc' L' st) : Go κ Q h k n pc L (.double d :: st) := by
  obtain ⟨dd, rfl⟩ := hd
  exact go_step (fun T locs X e t q => XS.dstore X.here B.exec rfl (hb B.byt dd) rfl hl q) g
theorem go_dreturn (B : OkK km κ l Z a0 n0 R own nm bytes maxL (some .double)) (hd : Dc bytes pc .dreturn 1 pc') (hk : k ≤ R.cells) (hn : n ≤ R.slots) (hq : Q (some (.double d)) h) (hkm : km ≤ h.size := by first | exact Nat.zero_le _ | assumption) : Go κ Q h k n pc L (.double d :: st) :=
  go_end B hk hn hq (fun q => by cases q) hkm (fun T locs fs X hr => retOut X B.exec (t := .double) (i := .dreturn) B.rets rfl (Or.inr (Or.inr (Or.inl ⟨rfl, rfl, d, rfl⟩))) (hb B.byt hd.1) hr)
theorem go_daload (B : OkK km κ l Z a0 n0 R own nm bytes maxL ret) {vs : List Value} {i : Nat} (hd : Dc bytes pc .daload 1 pc') (A : AV Z h a .double vs) (hi : x.toInt = (i : Int)) (hv : vs[i]? = some v) (g : Go κ Q h k n pc' L (v :: st)) : Go κ Q h k n pc L (.int x :: .ref a :: st) := by
  obtain ⟨dd, rfl⟩ := hd
  obtain ⟨c, A, r, s⟩ := A
  obtain ⟨q1, q2⟩ := nat_idx hi
  have hl : i < vs.length := (List.getElem?_eq_some_iff.mp hv).1
  exact go_step (fun T locs X e t q => X.daload B.exec (j := x) (v := v) (by rw [e]; exact A.1) (State.isArrayOf_alike B.warm.alike A.2.1) A.2.2 (by rw [r, q2]; simp; exact ⟨Int32.not_lt.mp q1, hl⟩) (by rw [r, q2]; simpa using hv) (g := mkF κ.m pc L (.int x :: .ref a :: st)) rfl rfl (hb B.byt dd) _ q) g
theorem go_dastore (B : OkK km κ l Z a0 n0 R own nm bytes maxL ret) {vs : List Value} {i : Nat} (hd : Dc bytes pc .dastore 1 pc') (A : AV Z h a .double vs) (hi : x.toInt = (i : Int)) (hl : i < vs.length) (ha : n0 ≤ a) (g : ∀ h', Wr h h' a i (.double d) → AV Z h' a .double (vs.set i (.double d)) → Go κ Q h' k n pc' L st) : Go κ Q h k n pc L (.double d :: .int x :: .ref a :: st) := fun T locs X N e => by
  obtain ⟨dd, rfl⟩ := hd
  have A0 := A
  obtain ⟨c, A, r, s⟩ := A
  obtain ⟨q1, q2⟩ := nat_idx hi
  have hj : ¬ (x < 0 ∨ c.slots.size ≤ x.toNatClampNeg) := by rw [r, q2]; simp; exact ⟨Int32.not_lt.mp q1, hl⟩
  obtain ⟨X', sp⟩ := X.dastore B.exec (x := d) (by rw [e]; exact A.1) (State.isArrayOf_alike B.warm.alike A.2.1) A.2.2 hj (g := mkF κ.m pc L (.double d :: .int x :: .ref a :: st)) rfl rfl (hb B.byt dd)
  have W0 : Wr h (h.setIfInBounds a (c.setSlot x.toNatClampNeg (.double d))) a x.toNatClampNeg (.double d) := ⟨c, A.1, A.plain, Nat.lt_of_not_le fun q => hj (Or.inr q), rfl⟩
  have W' : Wr h (h.setIfInBounds a (c.setSlot x.toNatClampNeg (.double d))) a i (.double d) := q2 ▸ W0
  obtain ⟨t, o, h1, h2⟩ := g _ W' (A0.same W') _ _ X' (Fr.snoc X' N (B.hn ▸ ha)) (by rw [← e]; rfl)
  exact ⟨t, o, sp _ h1, h2⟩
/-- a field through a nest-mate's entry -/
theorem go_getfieldN (B : OkK km κ l Z a0 n0 R own nm bytes maxL ret) {idx : Nat} {O fn d host : String} (hd : Dc bytes pc (.getfield idx) 3 pc') (wl : (Jvm.Cond.fieldLinkNest own idx O fn d host).before a0 Z = true) (F : Fld Z h a O fn d v) (g : Go κ Q h k n pc' L (v :: st)) : Go κ Q h k n pc L (.ref a :: st) := fun T locs X N e => by
  obtain ⟨dd, rfl⟩ := hd
  obtain ⟨T', X', e', sp⟩ := getF X B.exec B.warm B.hown (host := host) (Or.inr wl) Via.refl e F (g := mkF κ.m pc L (.ref a :: st)) rfl rfl (hb B.byt dd)
  obtain ⟨t, o, h1, h2⟩ := g T' locs X' N e'
  exact ⟨t, o, sp _ h1, h2⟩
theorem go_getstaticN (B : OkK km κ l Z a0 n0 R own nm bytes maxL ret) {idx : Nat} {O fn d host : String} (hd : Dc bytes pc (.getstatic idx) 3 pc') (wl : (Jvm.Cond.fieldLinkNest own idx O fn d host).before a0 Z = true) (F : Sta Z h O fn d v) (g : Go κ Q h k n pc' L (v :: st)) : Go κ Q h k n pc L st := fun T locs X N e => by
  obtain ⟨dd, rfl⟩ := hd
  obtain ⟨T', X', e', sp⟩ := getS2 (host := host) X B.exec B.warm B.hown (Or.inr wl) Via.refl e F (g := mkF κ.m pc L st) rfl (hb B.byt dd)
  obtain ⟨t, o, h1, h2⟩ := g T' locs X' N e'
  exact ⟨t, o, sp _ h1, h2⟩
theorem go_instanceofN (B : OkK km κ l Z a0 n0 R own nm bytes maxL ret) {K : String} {idx : Nat} (hd : Dc bytes pc (.instanceof idx) 3 pc') (wl : (Jvm.Cond.classLink own idx K).before a0 Z = true) {C : String} (E : Exa Z h a C) (F : ∃ c t, Z.vm.findClass C = some c ∧ Z.vm.findClass K = some t ∧ Z.vm.assignable c t = false) (g : Go κ Q h k n pc' L (.int 0 :: st)) : Go κ Q h k n pc L (.ref a :: st) := fun T locs X N e => by
  obtain ⟨dd, rfl⟩ := hd
  obtain ⟨T', X', e', sp⟩ := instNo X B.exec B.warm B.hown wl e E F (g := mkF κ.m pc L (.ref a :: st)) rfl rfl (hb B.byt dd)
  obtain ⟨t, o, h1, h2⟩ := g T' locs X' N e'
  exact ⟨t, o, sp _ h1, h2⟩
theorem ii_eq (x : Int32) (op : CmpOp) : cmpValue (FP.dcmp (FP.i2d x) (FP.i2d x)) op = 0 := by
  rw [show FP.dcmp (FP.i2d x) (FP.i2d x) = some .eq from by
    have q := FP.Core.dcmp_int (FP.Core.i2d_int x) (FP.Core.i2d_int x)
    rw [show compare x.toInt x.toInt = .eq from by simp [compare, compareOfLessAndEq]] at q; exact q]
  cases op <;> rfl
end D
end Jvm.OwnGo
namespace Jvm.OwnGo
open Sem ClassFile Op Lib Jvm.Stand Jvm.Free Jvm.LawKit Jvm.RoadKit
/-- instanceof whose answer is not known: one of the two -/
theorem go_instanceofA {km : Nat} {κ : Cx} {l : Launch} {Z : State} {a0 : Array Value} {n0 : Nat} {R : Room} {own nm : String} {bytes : ByteArray} {maxL : Nat} {ret : Option FieldType} {Q : Option Value → Heap → Prop} {h : Heap} {k n pc pc' : Nat} {L : Array Slot} {st : List Value} {a : Addr} (B : OkK km κ l Z a0 n0 R own nm bytes maxL ret) {K C : String} {idx : Nat} (hd : Dc bytes pc (.instanceof idx) 3 pc') (wl : (Jvm.Cond.classLink own idx K).before a0 Z = true) (hK : ∃ cT, Z.vm.findClass K = some cT) (E : Exa Z h a C) (g : ∀ z : Int32, Go κ Q h k n pc' L (.int z :: st)) : Go κ Q h k n pc L (.ref a :: st) := by
  obtain ⟨cT, hT⟩ := hK
  have E0 := E
  obtain ⟨cell, kk, e1, e2, e3, e4, -⟩ := E
  rcases hb : Z.vm.assignable cell.cls cT with _ | _
  · exact go_instanceofN B hd wl E0 ⟨_, _, e2, hT, hb⟩ (g 0)
  · exact go_instanceof B hd wl ⟨cell, cT, e1, hT, by rw [hb, e4]; rfl⟩ (g 1)
end Jvm.OwnGo
namespace Jvm.Pilot.@@N@@
open Jvm Jvm.ClassFile Sem Op Lib Jvm.Free Jvm.Stand Jvm.LawKit Jvm.RoadKit Bundle Jvm.Pilot.@@N@@.Jvm.D Jvm.OwnGo
def Wd (a0 : Array Value) (Z : State) : Prop := ∀ d ∈ tables_1, d.before a0 Z = true
theorem pn_java_lang_Number : plainName "java/lang/Number" = true := by first | (simp [plainName, overriddenIn]; done) | decide +kernel
theorem d6_0 : Dc jdk_18_method_1_code 0 (.aload_n 0) 1 1 := ⟨by decide +kernel, rfl⟩
theorem d6_1 : Dc jdk_18_method_1_code 1 (.invokespecial 1) 3 4 := ⟨by decide +kernel, rfl⟩
theorem w_36 {a0 : Array Value} {Z : State} (H : Wd a0 Z) : (Jvm.Cond.methodLink "java/lang/Number" (1 : Nat) ({ cls := "java/lang/Object", name := "<init>", desc := "()V" } : Jvm.MethodName)).before a0 Z = true := H _ (List.mem_of_getElem? (i := 36) rfl)
theorem w_37 {a0 : Array Value} {Z : State} (H : Wd a0 Z) : (Jvm.Cond.instanceMethod ({ cls := "java/lang/Object", name := "<init>", desc := "()V" } : Jvm.MethodName)).before a0 Z = true := H _ (List.mem_of_getElem? (i := 37) rfl)
theorem w_38 {a0 : Array Value} {Z : State} (H : Wd a0 Z) : (Jvm.Cond.code ({ cls := "java/lang/Object", name := "<init>", desc := "()V" } : Jvm.MethodName) object_method_1_code (1 : Nat) (Option.none : Option Jvm.ClassFile.FieldType)).before a0 Z = true := H _ (List.mem_of_getElem? (i := 38) rfl)
theorem d6_4 : Dc jdk_18_method_1_code 4 (.return_) 1 5 := ⟨by decide +kernel, rfl⟩
set_option maxRecDepth 65536 in
set_option maxHeartbeats 40000000 in
theorem rmNum {l : Launch} {Z : State} {a0 : Array Value} {n0 : Nat} (H : Wd a0 Z) (a : Addr) (h0 : Heap) (Z0 : n0 ≤ h0.size) :
    Ct l Z n0 (⟨"java/lang/Number", "<init>", "()V"⟩ : MethodName) jdk_18_method_1_code 1 none [] ({ frames := 1, cells := 0, slots := 0, locals := 12 } : Room) #[(.ref a)] h0 (fun v h => v = none ∧ h0 = h) := by
  refine Ct.of (a0 := a0) (L0 := #[.val (.ref a)]) (plainFor_of_name pn_java_lang_Number) (fun m => by first | (simp [entryFrame, mkF, argsToLocals, Value.category]; done) | rfl) ?_
  intro κ B0
  have B : Ok κ l Z a0 n0 ({ frames := 1, cells := 0, slots := 0, locals := 12 } : Room) "java/lang/Number" "<init>" jdk_18_method_1_code 1 none := B0
  refine go_aload_n B d6_0 rfl rfl ?_
  refine go_initO B (W := 0) d6_1 (w_36 H) (w_37 H) (w_38 H) rfl rfl (by decide) (by decide) ?_
  refine go_return B d6_4 (by decide) (by decide) ?_
  exact ⟨rfl, rfl⟩
theorem pn_java_lang_Record : plainName "java/lang/Record" = true := by first | (simp [plainName, overriddenIn]; done) | decide +kernel
theorem d15_0 : Dc jdk_30_method_1_code 0 (.aload_n 0) 1 1 := ⟨by decide +kernel, rfl⟩
theorem d15_1 : Dc jdk_30_method_1_code 1 (.invokespecial 1) 3 4 := ⟨by decide +kernel, rfl⟩
theorem w_86 {a0 : Array Value} {Z : State} (H : Wd a0 Z) : (Jvm.Cond.methodLink "java/lang/Record" (1 : Nat) ({ cls := "java/lang/Object", name := "<init>", desc := "()V" } : Jvm.MethodName)).before a0 Z = true := H _ (List.mem_of_getElem? (i := 86) rfl)
theorem d15_4 : Dc jdk_30_method_1_code 4 (.return_) 1 5 := ⟨by decide +kernel, rfl⟩
set_option maxRecDepth 65536 in
set_option maxHeartbeats 40000000 in
theorem rmRec {l : Launch} {Z : State} {a0 : Array Value} {n0 : Nat} (H : Wd a0 Z) (a : Addr) (h0 : Heap) (Z0 : n0 ≤ h0.size) :
    Ct l Z n0 (⟨"java/lang/Record", "<init>", "()V"⟩ : MethodName) jdk_30_method_1_code 1 none [] ({ frames := 1, cells := 0, slots := 0, locals := 12 } : Room) #[(.ref a)] h0 (fun v h => v = none ∧ h0 = h) := by
  refine Ct.of (a0 := a0) (L0 := #[.val (.ref a)]) (plainFor_of_name pn_java_lang_Record) (fun m => by first | (simp [entryFrame, mkF, argsToLocals, Value.category]; done) | rfl) ?_
  intro κ B0
  have B : Ok κ l Z a0 n0 ({ frames := 1, cells := 0, slots := 0, locals := 12 } : Room) "java/lang/Record" "<init>" jdk_30_method_1_code 1 none := B0
  refine go_aload_n B d15_0 rfl rfl ?_
  refine go_initO B (W := 0) d15_1 (w_86 H) (w_37 H) (w_38 H) rfl rfl (by decide) (by decide) ?_
  refine go_return B d15_4 (by decide) (by decide) ?_
  exact ⟨rfl, rfl⟩
theorem pn_java_util_AbstractCollection : plainName "java/util/AbstractCollection" = true := by first | (simp [plainName, overriddenIn]; done) | decide +kernel
theorem d12_0 : Dc jdk_22_method_1_code 0 (.aload_n 0) 1 1 := ⟨by decide +kernel, rfl⟩
theorem d12_1 : Dc jdk_22_method_1_code 1 (.invokespecial 1) 3 4 := ⟨by decide +kernel, rfl⟩
theorem w_69 {a0 : Array Value} {Z : State} (H : Wd a0 Z) : (Jvm.Cond.methodLink "java/util/AbstractCollection" (1 : Nat) ({ cls := "java/lang/Object", name := "<init>", desc := "()V" } : Jvm.MethodName)).before a0 Z = true := H _ (List.mem_of_getElem? (i := 69) rfl)
theorem d12_4 : Dc jdk_22_method_1_code 4 (.return_) 1 5 := ⟨by decide +kernel, rfl⟩
set_option maxRecDepth 65536 in
set_option maxHeartbeats 40000000 in
theorem rmAC {l : Launch} {Z : State} {a0 : Array Value} {n0 : Nat} (H : Wd a0 Z) (a : Addr) (h0 : Heap) (Z0 : n0 ≤ h0.size) :
    Ct l Z n0 (⟨"java/util/AbstractCollection", "<init>", "()V"⟩ : MethodName) jdk_22_method_1_code 1 none [] ({ frames := 1, cells := 0, slots := 0, locals := 12 } : Room) #[(.ref a)] h0 (fun v h => v = none ∧ h0 = h) := by
  refine Ct.of (a0 := a0) (L0 := #[.val (.ref a)]) (plainFor_of_name pn_java_util_AbstractCollection) (fun m => by first | (simp [entryFrame, mkF, argsToLocals, Value.category]; done) | rfl) ?_
  intro κ B0
  have B : Ok κ l Z a0 n0 ({ frames := 1, cells := 0, slots := 0, locals := 12 } : Room) "java/util/AbstractCollection" "<init>" jdk_22_method_1_code 1 none := B0
  refine go_aload_n B d12_0 rfl rfl ?_
  refine go_initO B (W := 0) d12_1 (w_69 H) (w_37 H) (w_38 H) rfl rfl (by decide) (by decide) ?_
  refine go_return B d12_4 (by decide) (by decide) ?_
  exact ⟨rfl, rfl⟩
theorem pn_java_util_ImmutableCollections_AbstractImmutableCollection : plainName "java/util/ImmutableCollections$AbstractImmutableCollection" = true := by first | (simp [plainName, overriddenIn]; done) | decide +kernel
theorem d11_0 : Dc jdk_47_method_1_code 0 (.aload_n 0) 1 1 := ⟨by decide +kernel, rfl⟩
theorem d11_1 : Dc jdk_47_method_1_code 1 (.invokespecial 1) 3 4 := ⟨by decide +kernel, rfl⟩
theorem w_68 {a0 : Array Value} {Z : State} (H : Wd a0 Z) : (Jvm.Cond.code ({ cls := "java/util/AbstractCollection", name := "<init>", desc := "()V" } : Jvm.MethodName) jdk_22_method_1_code (1 : Nat) (Option.none : Option Jvm.ClassFile.FieldType)).before a0 Z = true := H _ (List.mem_of_getElem? (i := 68) rfl)
theorem w_67 {a0 : Array Value} {Z : State} (H : Wd a0 Z) : (Jvm.Cond.initialized "java/util/AbstractCollection").before a0 Z = true := H _ (List.mem_of_getElem? (i := 67) rfl)
theorem pd_0 : parseMethodDescriptor "()V" = some ⟨[], none⟩ := by decide +kernel
theorem w_63 {a0 : Array Value} {Z : State} (H : Wd a0 Z) : (Jvm.Cond.methodLink "java/util/ImmutableCollections$AbstractImmutableCollection" (1 : Nat) ({ cls := "java/util/AbstractCollection", name := "<init>", desc := "()V" } : Jvm.MethodName)).before a0 Z = true := H _ (List.mem_of_getElem? (i := 63) rfl)
theorem w_64 {a0 : Array Value} {Z : State} (H : Wd a0 Z) : (Jvm.Cond.instanceMethod ({ cls := "java/util/AbstractCollection", name := "<init>", desc := "()V" } : Jvm.MethodName)).before a0 Z = true := H _ (List.mem_of_getElem? (i := 64) rfl)
theorem d11_4 : Dc jdk_47_method_1_code 4 (.return_) 1 5 := ⟨by decide +kernel, rfl⟩
set_option maxRecDepth 65536 in
set_option maxHeartbeats 40000000 in
theorem rmAIC {l : Launch} {Z : State} {a0 : Array Value} {n0 : Nat} (H : Wd a0 Z) (a : Addr) (h0 : Heap) (Z0 : n0 ≤ h0.size) :
    Ct l Z n0 (⟨"java/util/ImmutableCollections$AbstractImmutableCollection", "<init>", "()V"⟩ : MethodName) jdk_47_method_1_code 1 none [] ({ frames := 2, cells := 0, slots := 0, locals := 24 } : Room) #[(.ref a)] h0 (fun v h => v = none ∧ h0 = h) := by
  refine Ct.of (a0 := a0) (L0 := #[.val (.ref a)]) (plainFor_of_name pn_java_util_ImmutableCollections_AbstractImmutableCollection) (fun m => by first | (simp [entryFrame, mkF, argsToLocals, Value.category]; done) | rfl) ?_
  intro κ B0
  have B : Ok κ l Z a0 n0 ({ frames := 2, cells := 0, slots := 0, locals := 24 } : Room) "java/util/ImmutableCollections$AbstractImmutableCollection" "<init>" jdk_47_method_1_code 1 none := B0
  refine go_aload_n B d11_0 rfl rfl ?_
  refine go_special B (W := 0) (a := a) (argsL := []) (st := []) d11_1 rfl (w_63 H) (w_64 H) (w_67 H) (w_68 H) (by decide) (rmAC H a h0 Z0) pd_0 rfl rfl rfl rfl (by decide) (by decide) (by decide) (by decide) ?_
  rintro _ h1 ⟨rfl, rfl⟩
  show Go κ _ h0 _ _ 4 #[.val (.ref a)] []
  refine go_return B d11_4 (by decide) (by decide) ?_
  exact ⟨rfl, rfl⟩
theorem pn_java_util_ImmutableCollections_AbstractImmutableList : plainName "java/util/ImmutableCollections$AbstractImmutableList" = true := by first | (simp [plainName, overriddenIn]; done) | decide +kernel
theorem d10_0 : Dc jdk_46_method_1_code 0 (.aload_n 0) 1 1 := ⟨by decide +kernel, rfl⟩
theorem d10_1 : Dc jdk_46_method_1_code 1 (.invokespecial 1) 3 4 := ⟨by decide +kernel, rfl⟩
theorem w_62 {a0 : Array Value} {Z : State} (H : Wd a0 Z) : (Jvm.Cond.code ({ cls := "java/util/ImmutableCollections$AbstractImmutableCollection", name := "<init>", desc := "()V" } : Jvm.MethodName) jdk_47_method_1_code (1 : Nat) (Option.none : Option Jvm.ClassFile.FieldType)).before a0 Z = true := H _ (List.mem_of_getElem? (i := 62) rfl)
theorem w_61 {a0 : Array Value} {Z : State} (H : Wd a0 Z) : (Jvm.Cond.initialized "java/util/ImmutableCollections$AbstractImmutableCollection").before a0 Z = true := H _ (List.mem_of_getElem? (i := 61) rfl)
theorem w_57 {a0 : Array Value} {Z : State} (H : Wd a0 Z) : (Jvm.Cond.methodLink "java/util/ImmutableCollections$AbstractImmutableList" (1 : Nat) ({ cls := "java/util/ImmutableCollections$AbstractImmutableCollection", name := "<init>", desc := "()V" } : Jvm.MethodName)).before a0 Z = true := H _ (List.mem_of_getElem? (i := 57) rfl)
theorem w_58 {a0 : Array Value} {Z : State} (H : Wd a0 Z) : (Jvm.Cond.instanceMethod ({ cls := "java/util/ImmutableCollections$AbstractImmutableCollection", name := "<init>", desc := "()V" } : Jvm.MethodName)).before a0 Z = true := H _ (List.mem_of_getElem? (i := 58) rfl)
theorem d10_4 : Dc jdk_46_method_1_code 4 (.return_) 1 5 := ⟨by decide +kernel, rfl⟩
set_option maxRecDepth 65536 in
set_option maxHeartbeats 40000000 in
theorem rmAIL {l : Launch} {Z : State} {a0 : Array Value} {n0 : Nat} (H : Wd a0 Z) (a : Addr) (h0 : Heap) (Z0 : n0 ≤ h0.size) :
    Ct l Z n0 (⟨"java/util/ImmutableCollections$AbstractImmutableList", "<init>", "()V"⟩ : MethodName) jdk_46_method_1_code 1 none [] ({ frames := 3, cells := 0, slots := 0, locals := 36 } : Room) #[(.ref a)] h0 (fun v h => v = none ∧ h0 = h) := by
  refine Ct.of (a0 := a0) (L0 := #[.val (.ref a)]) (plainFor_of_name pn_java_util_ImmutableCollections_AbstractImmutableList) (fun m => by first | (simp [entryFrame, mkF, argsToLocals, Value.category]; done) | rfl) ?_
  intro κ B0
  have B : Ok κ l Z a0 n0 ({ frames := 3, cells := 0, slots := 0, locals := 36 } : Room) "java/util/ImmutableCollections$AbstractImmutableList" "<init>" jdk_46_method_1_code 1 none := B0
  refine go_aload_n B d10_0 rfl rfl ?_
  refine go_special B (W := 0) (a := a) (argsL := []) (st := []) d10_1 rfl (w_57 H) (w_58 H) (w_61 H) (w_62 H) (by decide) (rmAIC H a h0 Z0) pd_0 rfl rfl rfl rfl (by decide) (by decide) (by decide) (by decide) ?_
  rintro _ h2 ⟨rfl, rfl⟩
  show Go κ _ h0 _ _ 4 #[.val (.ref a)] []
  refine go_return B d10_4 (by decide) (by decide) ?_
  exact ⟨rfl, rfl⟩
theorem pn_java_util_Objects : plainName "java/util/Objects" = true := by first | (simp [plainName, overriddenIn]; done) | decide +kernel
theorem d13_0 : Dc jdk_31_method_10_code 0 (.aload_n 0) 1 1 := ⟨by decide +kernel, rfl⟩
theorem d13_1 : Db jdk_31_method_10_code 1 (.ifnonnull 11) 11 4 12 := ⟨by decide +kernel, rfl, rfl⟩
theorem d13_12 : Dc jdk_31_method_10_code 12 (.aload_n 0) 1 13 := ⟨by decide +kernel, rfl⟩
theorem d13_13 : Dc jdk_31_method_10_code 13 (.areturn) 1 14 := ⟨by decide +kernel, rfl⟩
set_option maxRecDepth 65536 in
set_option maxHeartbeats 40000000 in
theorem rmR1 {l : Launch} {Z : State} {a0 : Array Value} {n0 : Nat} (H : Wd a0 Z) (a : Addr) (h0 : Heap) (Z0 : n0 ≤ h0.size) :
    Ct l Z n0 (⟨"java/util/Objects", "requireNonNull", "(Ljava/lang/Object;)Ljava/lang/Object;"⟩ : MethodName) jdk_31_method_10_code 1 (some (.object "java/lang/Object")) [] ({ frames := 0, cells := 0, slots := 0, locals := 0 } : Room) #[(.ref a)] h0 (fun v h => v = some (.ref a) ∧ h0 = h) := by
  refine Ct.of (a0 := a0) (L0 := #[.val (.ref a)]) (plainFor_of_name pn_java_util_Objects) (fun m => by first | (simp [entryFrame, mkF, argsToLocals, Value.category]; done) | rfl) ?_
  intro κ B0
  have B : Ok κ l Z a0 n0 ({ frames := 0, cells := 0, slots := 0, locals := 0 } : Room) "java/util/Objects" "requireNonNull" jdk_31_method_10_code 1 (some (.object "java/lang/Object")) := B0
  refine go_aload_n B d13_0 rfl rfl ?_
  refine go_ifnonnull_t B d13_1 ?_
  refine go_aload_n B d13_12 rfl rfl ?_
  refine go_areturn B d13_13 rfl rfl rfl (by decide) (by decide) ?_
  exact ⟨rfl, rfl⟩
theorem d16_0 : Dc jdk_31_method_11_code 0 (.aload_n 0) 1 1 := ⟨by decide +kernel, rfl⟩
theorem d16_1 : Db jdk_31_method_11_code 1 (.ifnonnull 12) 12 4 13 := ⟨by decide +kernel, rfl, rfl⟩
theorem d16_13 : Dc jdk_31_method_11_code 13 (.aload_n 0) 1 14 := ⟨by decide +kernel, rfl⟩
theorem d16_14 : Dc jdk_31_method_11_code 14 (.areturn) 1 15 := ⟨by decide +kernel, rfl⟩
set_option maxRecDepth 65536 in
set_option maxHeartbeats 40000000 in
theorem rmR2 {l : Launch} {Z : State} {a0 : Array Value} {n0 : Nat} (H : Wd a0 Z) (a b : Addr) (h0 : Heap) (Z0 : n0 ≤ h0.size) :
    Ct l Z n0 (⟨"java/util/Objects", "requireNonNull", "(Ljava/lang/Object;Ljava/lang/String;)Ljava/lang/Object;"⟩ : MethodName) jdk_31_method_11_code 2 (some (.object "java/lang/Object")) [] ({ frames := 0, cells := 0, slots := 0, locals := 0 } : Room) #[(.ref a), (.ref b)] h0 (fun v h => v = some (.ref a) ∧ h0 = h) := by
  refine Ct.of (a0 := a0) (L0 := #[.val (.ref a), .val (.ref b)]) (plainFor_of_name pn_java_util_Objects) (fun m => by first | (simp [entryFrame, mkF, argsToLocals, Value.category]; done) | rfl) ?_
  intro κ B0
  have B : Ok κ l Z a0 n0 ({ frames := 0, cells := 0, slots := 0, locals := 0 } : Room) "java/util/Objects" "requireNonNull" jdk_31_method_11_code 2 (some (.object "java/lang/Object")) := B0
  refine go_aload_n B d16_0 rfl rfl ?_
  refine go_ifnonnull_t B d16_1 ?_
  refine go_aload_n B d16_13 rfl rfl ?_
  refine go_areturn B d16_14 rfl rfl rfl (by decide) (by decide) ?_
  exact ⟨rfl, rfl⟩
theorem pn_java_lang_Double : plainName "java/lang/Double" = true := by first | (simp [plainName, overriddenIn]; done) | decide +kernel
theorem d5_0 : Dc jdk_117_method_9_code 0 (.aload_n 0) 1 1 := ⟨by decide +kernel, rfl⟩
theorem d5_1 : Dc jdk_117_method_9_code 1 (.invokespecial 113) 3 4 := ⟨by decide +kernel, rfl⟩
theorem w_35 {a0 : Array Value} {Z : State} (H : Wd a0 Z) : (Jvm.Cond.code ({ cls := "java/lang/Number", name := "<init>", desc := "()V" } : Jvm.MethodName) jdk_18_method_1_code (1 : Nat) (Option.none : Option Jvm.ClassFile.FieldType)).before a0 Z = true := H _ (List.mem_of_getElem? (i := 35) rfl)
theorem w_34 {a0 : Array Value} {Z : State} (H : Wd a0 Z) : (Jvm.Cond.initialized "java/lang/Number").before a0 Z = true := H _ (List.mem_of_getElem? (i := 34) rfl)
theorem w_30 {a0 : Array Value} {Z : State} (H : Wd a0 Z) : (Jvm.Cond.methodLink "java/lang/Double" (113 : Nat) ({ cls := "java/lang/Number", name := "<init>", desc := "()V" } : Jvm.MethodName)).before a0 Z = true := H _ (List.mem_of_getElem? (i := 30) rfl)
theorem w_31 {a0 : Array Value} {Z : State} (H : Wd a0 Z) : (Jvm.Cond.instanceMethod ({ cls := "java/lang/Number", name := "<init>", desc := "()V" } : Jvm.MethodName)).before a0 Z = true := H _ (List.mem_of_getElem? (i := 31) rfl)
theorem d5_4 : Dc jdk_117_method_9_code 4 (.aload_n 0) 1 5 := ⟨by decide +kernel, rfl⟩
theorem d5_5 : Dc jdk_117_method_9_code 5 (.dload_n 1) 1 6 := ⟨by decide +kernel, rfl⟩
theorem d5_6 : Dc jdk_117_method_9_code 6 (.putfield 118) 3 9 := ⟨by decide +kernel, rfl⟩
theorem w_40 {a0 : Array Value} {Z : State} (H : Wd a0 Z) : (Jvm.Cond.laysFinal "java/lang/Double" "java/lang/Double" "value" "D").before a0 Z = true := H _ (List.mem_of_getElem? (i := 40) rfl)
theorem w_25 {a0 : Array Value} {Z : State} (H : Wd a0 Z) : (Jvm.Cond.instantiable "java/lang/Double" (1 : Nat)).before a0 Z = true := H _ (List.mem_of_getElem? (i := 25) rfl)
theorem w_39 {a0 : Array Value} {Z : State} (H : Wd a0 Z) : (Jvm.Cond.fieldLink "java/lang/Double" (118 : Nat) "java/lang/Double" "value" "D").before a0 Z = true := H _ (List.mem_of_getElem? (i := 39) rfl)
theorem d5_9 : Dc jdk_117_method_9_code 9 (.return_) 1 10 := ⟨by decide +kernel, rfl⟩
set_option maxRecDepth 65536 in
set_option maxHeartbeats 40000000 in
theorem rmDi {l : Launch} {Z : State} {a0 : Array Value} {n0 : Nat} (H : Wd a0 Z) (a : Addr) (d d0 : UInt64) (h0 : Heap) (Z0 : n0 ≤ h0.size) (ga : n0 ≤ a) (E_a : Exa Z h0 a "java/lang/Double") (F0_a : Fld Z h0 a "java/lang/Double" "value" "D" (.double d0)) :
    Ct l Z n0 (⟨"java/lang/Double", "<init>", "(D)V"⟩ : MethodName) jdk_117_method_9_code 3 none [] ({ frames := 2, cells := 0, slots := 0, locals := 24 } : Room) #[(.ref a), (.double d)] h0 (fun v h => v = none ∧ Keep h0 h [a] ∧ Exa Z h a "java/lang/Double" ∧ Fld Z h a "java/lang/Double" "value" "D" (.double d)) := by
  refine Ct.of (a0 := a0) (L0 := #[.val (.ref a), .val (.double d), .second]) (plainFor_of_name pn_java_lang_Double) (fun m => by first | (simp [entryFrame, mkF, argsToLocals, Value.category]; done) | rfl) ?_
  intro κ B0
  have B : Ok κ l Z a0 n0 ({ frames := 2, cells := 0, slots := 0, locals := 24 } : Room) "java/lang/Double" "<init>" jdk_117_method_9_code 3 none := B0
  refine go_aload_n B d5_0 rfl rfl ?_
  refine go_special B (W := 0) (a := a) (argsL := []) (st := []) d5_1 rfl (w_30 H) (w_31 H) (w_34 H) (w_35 H) (by decide) (rmNum H a h0 Z0) pd_0 rfl rfl rfl rfl (by decide) (by decide) (by decide) (by decide) ?_
  rintro _ h3 ⟨rfl, rfl⟩
  show Go κ _ h0 _ _ 4 #[.val (.ref a), .val (.double d), .second] []
  refine go_aload_n B d5_4 rfl rfl ?_
  refine go_dload_n B d5_5 rfl ?_
  refine go_putfield B (ty := .double) d5_6 (w_39 H) F0_a E_a (Or.inr ⟨(w_40 H), rfl, rfl⟩) (w_25 H) (by decide) rfl rfl ga ?_
  intro h4 W5
  have f6 : Fld Z h4 a "java/lang/Double" "value" "D" (.double d) := Fld.same W5 F0_a
  refine go_return B d5_9 (by decide) (by decide) ?_
  exact ⟨rfl, (Keep.wr (Keep.refl h0 _) W5 (Or.inl (by simp))), (Exa.wr W5 E_a), f6⟩
theorem d4_0 : Dc jdk_117_method_4_code 0 (.new 1) 3 3 := ⟨by decide +kernel, rfl⟩
theorem w_24 {a0 : Array Value} {Z : State} (H : Wd a0 Z) : (Jvm.Cond.classLink "java/lang/Double" (1 : Nat) "java/lang/Double").before a0 Z = true := H _ (List.mem_of_getElem? (i := 24) rfl)
theorem w_22 {a0 : Array Value} {Z : State} (H : Wd a0 Z) : (Jvm.Cond.initialized "java/lang/Double").before a0 Z = true := H _ (List.mem_of_getElem? (i := 22) rfl)
theorem d4_3 : Dc jdk_117_method_4_code 3 (.dup) 1 4 := ⟨by decide +kernel, rfl⟩
theorem d4_4 : Dc jdk_117_method_4_code 4 (.dload_n 0) 1 5 := ⟨by decide +kernel, rfl⟩
theorem d4_5 : Dc jdk_117_method_4_code 5 (.invokespecial 105) 3 8 := ⟨by decide +kernel, rfl⟩
theorem w_29 {a0 : Array Value} {Z : State} (H : Wd a0 Z) : (Jvm.Cond.code ({ cls := "java/lang/Double", name := "<init>", desc := "(D)V" } : Jvm.MethodName) jdk_117_method_9_code (3 : Nat) (Option.none : Option Jvm.ClassFile.FieldType)).before a0 Z = true := H _ (List.mem_of_getElem? (i := 29) rfl)
theorem pd_1 : parseMethodDescriptor "(D)V" = some ⟨[.double], none⟩ := by decide +kernel
theorem w_26 {a0 : Array Value} {Z : State} (H : Wd a0 Z) : (Jvm.Cond.methodLink "java/lang/Double" (105 : Nat) ({ cls := "java/lang/Double", name := "<init>", desc := "(D)V" } : Jvm.MethodName)).before a0 Z = true := H _ (List.mem_of_getElem? (i := 26) rfl)
theorem w_27 {a0 : Array Value} {Z : State} (H : Wd a0 Z) : (Jvm.Cond.instanceMethod ({ cls := "java/lang/Double", name := "<init>", desc := "(D)V" } : Jvm.MethodName)).before a0 Z = true := H _ (List.mem_of_getElem? (i := 27) rfl)
theorem d4_8 : Dc jdk_117_method_4_code 8 (.areturn) 1 9 := ⟨by decide +kernel, rfl⟩
set_option maxRecDepth 65536 in
set_option maxHeartbeats 40000000 in
theorem rmDv {l : Launch} {Z : State} {a0 : Array Value} {n0 : Nat} (H : Wd a0 Z) (d : UInt64) (h0 : Heap) (Z0 : n0 ≤ h0.size) :
    Ct l Z n0 (⟨"java/lang/Double", "valueOf", "(D)Ljava/lang/Double;"⟩ : MethodName) jdk_117_method_4_code 2 (some (.object "java/lang/Double")) [] ({ frames := 3, cells := 1, slots := 1, locals := 39 } : Room) #[(.double d)] h0 (fun v h => ∃ b, v = some (.ref b) ∧ Keep h0 h [] ∧ h0.size ≤ b ∧ Exa Z h b "java/lang/Double" ∧ Fld Z h b "java/lang/Double" "value" "D" (.double d)) := by
  refine Ct.of (a0 := a0) (L0 := #[.val (.double d), .second]) (plainFor_of_name pn_java_lang_Double) (fun m => by first | (simp [entryFrame, mkF, argsToLocals, Value.category]; done) | rfl) ?_
  intro κ B0
  have B : Ok κ l Z a0 n0 ({ frames := 3, cells := 1, slots := 1, locals := 39 } : Room) "java/lang/Double" "valueOf" jdk_117_method_4_code 2 (some (.object "java/lang/Double")) := B0
  refine go_new B d4_0 (w_24 H) (w_25 H) (w_22 H) (by decide) (by decide) ?_
  intro h7 a8 hba8 Ea8 Aa8 Da8
  have ge_a8 : n0 ≤ a8 := by have q1 := Z0; omega
  have fr_a8 : h0.size ≤ a8 := by have q1 := (show Keep h0 h0 [] from (Keep.refl h0 _)).1; omega
  refine go_dup B d4_3 rfl ?_
  refine go_dload_n B d4_4 rfl ?_
  refine go_special B (W := 1) (a := a8) (argsL := [(.double d)]) (st := [(.ref a8)]) d4_5 rfl (w_26 H) (w_27 H) (w_22 H) (w_29 H) (by decide) (rmDi H a8 d (0 : UInt64) h7 (Nat.le_trans Z0 Ea8.1) ge_a8 Aa8 (Da8 (Or.inr (w_40 H)) (ty := .double) (by decide))) pd_1 rfl rfl rfl rfl (by decide) (by decide) (by decide) (by decide) ?_
  rintro _ h12 ⟨rfl, K9, E10, f11⟩
  show Go κ _ h12 _ _ 8 #[.val (.double d), .second] [(.ref a8)]
  refine go_areturn B d4_8 rfl rfl rfl (by decide) (by decide) ?_
  have f13 : Keep h0 h12 [] := (Keep.trans (Keep.ext (Keep.refl h0 _) Ea8) K9 (allS (Or.inr fr_a8) all0))
  exact ⟨a8, rfl, f13, fr_a8, E10, f11⟩
theorem pn_java_util_ImmutableCollections_List12 : plainName "java/util/ImmutableCollections$List12" = true := by first | (simp [plainName, overriddenIn]; done) | decide +kernel
theorem d9_0 : Dc jdk_44_method_2_code 0 (.aload_n 0) 1 1 := ⟨by decide +kernel, rfl⟩
theorem d9_1 : Dc jdk_44_method_2_code 1 (.invokespecial 1) 3 4 := ⟨by decide +kernel, rfl⟩
theorem w_56 {a0 : Array Value} {Z : State} (H : Wd a0 Z) : (Jvm.Cond.code ({ cls := "java/util/ImmutableCollections$AbstractImmutableList", name := "<init>", desc := "()V" } : Jvm.MethodName) jdk_46_method_1_code (1 : Nat) (Option.none : Option Jvm.ClassFile.FieldType)).before a0 Z = true := H _ (List.mem_of_getElem? (i := 56) rfl)
theorem w_55 {a0 : Array Value} {Z : State} (H : Wd a0 Z) : (Jvm.Cond.initialized "java/util/ImmutableCollections$AbstractImmutableList").before a0 Z = true := H _ (List.mem_of_getElem? (i := 55) rfl)
theorem w_51 {a0 : Array Value} {Z : State} (H : Wd a0 Z) : (Jvm.Cond.methodLink "java/util/ImmutableCollections$List12" (1 : Nat) ({ cls := "java/util/ImmutableCollections$AbstractImmutableList", name := "<init>", desc := "()V" } : Jvm.MethodName)).before a0 Z = true := H _ (List.mem_of_getElem? (i := 51) rfl)
theorem w_52 {a0 : Array Value} {Z : State} (H : Wd a0 Z) : (Jvm.Cond.instanceMethod ({ cls := "java/util/ImmutableCollections$AbstractImmutableList", name := "<init>", desc := "()V" } : Jvm.MethodName)).before a0 Z = true := H _ (List.mem_of_getElem? (i := 52) rfl)
theorem d9_4 : Dc jdk_44_method_2_code 4 (.aload_n 0) 1 5 := ⟨by decide +kernel, rfl⟩
theorem d9_5 : Dc jdk_44_method_2_code 5 (.aload_n 1) 1 6 := ⟨by decide +kernel, rfl⟩
theorem d9_6 : Dc jdk_44_method_2_code 6 (.invokestatic 7) 3 9 := ⟨by decide +kernel, rfl⟩
theorem w_73 {a0 : Array Value} {Z : State} (H : Wd a0 Z) : (Jvm.Cond.code ({ cls := "java/util/Objects", name := "requireNonNull", desc := "(Ljava/lang/Object;)Ljava/lang/Object;" } : Jvm.MethodName) jdk_31_method_10_code (1 : Nat) (Option.some (Jvm.ClassFile.FieldType.object "java/lang/Object"))).before a0 Z = true := H _ (List.mem_of_getElem? (i := 73) rfl)
theorem w_72 {a0 : Array Value} {Z : State} (H : Wd a0 Z) : (Jvm.Cond.initialized "java/util/Objects").before a0 Z = true := H _ (List.mem_of_getElem? (i := 72) rfl)
theorem pd_2 : parseMethodDescriptor "(Ljava/lang/Object;)Ljava/lang/Object;" = some ⟨[(.object "java/lang/Object")], some (.object "java/lang/Object")⟩ := by decide +kernel
theorem w_70 {a0 : Array Value} {Z : State} (H : Wd a0 Z) : (Jvm.Cond.methodLink "java/util/ImmutableCollections$List12" (7 : Nat) ({ cls := "java/util/Objects", name := "requireNonNull", desc := "(Ljava/lang/Object;)Ljava/lang/Object;" } : Jvm.MethodName)).before a0 Z = true := H _ (List.mem_of_getElem? (i := 70) rfl)
theorem w_71 {a0 : Array Value} {Z : State} (H : Wd a0 Z) : (Jvm.Cond.static ({ cls := "java/util/Objects", name := "requireNonNull", desc := "(Ljava/lang/Object;)Ljava/lang/Object;" } : Jvm.MethodName)).before a0 Z = true := H _ (List.mem_of_getElem? (i := 71) rfl)
theorem d9_9 : Dc jdk_44_method_2_code 9 (.putfield 13) 3 12 := ⟨by decide +kernel, rfl⟩
theorem w_75 {a0 : Array Value} {Z : State} (H : Wd a0 Z) : (Jvm.Cond.laysFinal "java/util/ImmutableCollections$List12" "java/util/ImmutableCollections$List12" "e0" "Ljava/lang/Object;").before a0 Z = true := H _ (List.mem_of_getElem? (i := 75) rfl)
theorem w_45 {a0 : Array Value} {Z : State} (H : Wd a0 Z) : (Jvm.Cond.instantiable "java/util/ImmutableCollections$List12" (2 : Nat)).before a0 Z = true := H _ (List.mem_of_getElem? (i := 45) rfl)
theorem w_74 {a0 : Array Value} {Z : State} (H : Wd a0 Z) : (Jvm.Cond.fieldLink "java/util/ImmutableCollections$List12" (13 : Nat) "java/util/ImmutableCollections$List12" "e0" "Ljava/lang/Object;").before a0 Z = true := H _ (List.mem_of_getElem? (i := 74) rfl)
theorem d9_12 : Dc jdk_44_method_2_code 12 (.aload_n 0) 1 13 := ⟨by decide +kernel, rfl⟩
theorem d9_13 : Dc jdk_44_method_2_code 13 (.aload_n 2) 1 14 := ⟨by decide +kernel, rfl⟩
theorem d9_14 : Dc jdk_44_method_2_code 14 (.invokestatic 7) 3 17 := ⟨by decide +kernel, rfl⟩
theorem d9_17 : Dc jdk_44_method_2_code 17 (.putfield 24) 3 20 := ⟨by decide +kernel, rfl⟩
theorem w_77 {a0 : Array Value} {Z : State} (H : Wd a0 Z) : (Jvm.Cond.laysFinal "java/util/ImmutableCollections$List12" "java/util/ImmutableCollections$List12" "e1" "Ljava/lang/Object;").before a0 Z = true := H _ (List.mem_of_getElem? (i := 77) rfl)
theorem w_76 {a0 : Array Value} {Z : State} (H : Wd a0 Z) : (Jvm.Cond.fieldLink "java/util/ImmutableCollections$List12" (24 : Nat) "java/util/ImmutableCollections$List12" "e1" "Ljava/lang/Object;").before a0 Z = true := H _ (List.mem_of_getElem? (i := 76) rfl)
theorem d9_20 : Dc jdk_44_method_2_code 20 (.return_) 1 21 := ⟨by decide +kernel, rfl⟩
set_option maxRecDepth 65536 in
set_option maxHeartbeats 40000000 in
theorem rm12 {l : Launch} {Z : State} {a0 : Array Value} {n0 : Nat} (H : Wd a0 Z) (a b c : Addr) (h0 : Heap) (Z0 : n0 ≤ h0.size) (ga : n0 ≤ a) (E_a : Exa Z h0 a "java/util/ImmutableCollections$List12") (F0_a : Fld Z h0 a "java/util/ImmutableCollections$List12" "e0" "Ljava/lang/Object;" .null) (F1_a : Fld Z h0 a "java/util/ImmutableCollections$List12" "e1" "Ljava/lang/Object;" .null) :
    Ct l Z n0 (⟨"java/util/ImmutableCollections$List12", "<init>", "(Ljava/lang/Object;Ljava/lang/Object;)V"⟩ : MethodName) jdk_44_method_2_code 3 none [] ({ frames := 4, cells := 0, slots := 0, locals := 48 } : Room) #[(.ref a), (.ref b), (.ref c)] h0 (fun v h => v = none ∧ Keep h0 h [a] ∧ Exa Z h a "java/util/ImmutableCollections$List12" ∧ Fld Z h a "java/util/ImmutableCollections$List12" "e0" "Ljava/lang/Object;" (.ref b) ∧ Fld Z h a "java/util/ImmutableCollections$List12" "e1" "Ljava/lang/Object;" (.ref c)) := by
  refine Ct.of (a0 := a0) (L0 := #[.val (.ref a), .val (.ref b), .val (.ref c)]) (plainFor_of_name pn_java_util_ImmutableCollections_List12) (fun m => by first | (simp [entryFrame, mkF, argsToLocals, Value.category]; done) | rfl) ?_
  intro κ B0
  have B : Ok κ l Z a0 n0 ({ frames := 4, cells := 0, slots := 0, locals := 48 } : Room) "java/util/ImmutableCollections$List12" "<init>" jdk_44_method_2_code 3 none := B0
  refine go_aload_n B d9_0 rfl rfl ?_
  refine go_special B (W := 0) (a := a) (argsL := []) (st := []) d9_1 rfl (w_51 H) (w_52 H) (w_55 H) (w_56 H) (by decide) (rmAIL H a h0 Z0) pd_0 rfl rfl rfl rfl (by decide) (by decide) (by decide) (by decide) ?_
  rintro _ h14 ⟨rfl, rfl⟩
  show Go κ _ h0 _ _ 4 #[.val (.ref a), .val (.ref b), .val (.ref c)] []
  refine go_aload_n B d9_4 rfl rfl ?_
  refine go_aload_n B d9_5 rfl rfl ?_
  refine go_static B (W := 1) (argsL := [(.ref b)]) (st := [(.ref a)]) d9_6 (w_70 H) (w_71 H) (w_72 H) (w_73 H) (by decide) (rmR1 H b h0 Z0) pd_2 rfl rfl rfl rfl (by decide) (by decide) (by decide) (by decide) ?_
  rintro _ h15 ⟨rfl, rfl⟩
  show Go κ _ h0 _ _ 9 #[.val (.ref a), .val (.ref b), .val (.ref c)] [(.ref b), (.ref a)]
  refine go_putfield B (ty := (.object "java/lang/Object")) d9_9 (w_74 H) F0_a E_a (Or.inr ⟨(w_75 H), rfl, rfl⟩) (w_45 H) (by decide) rfl rfl ga ?_
  intro h16 W17
  have f18 : Fld Z h16 a "java/util/ImmutableCollections$List12" "e0" "Ljava/lang/Object;" (.ref b) := Fld.same W17 F0_a
  refine go_aload_n B d9_12 rfl rfl ?_
  refine go_aload_n B d9_13 rfl rfl ?_
  refine go_static B (W := 1) (argsL := [(.ref c)]) (st := [(.ref a)]) d9_14 (w_70 H) (w_71 H) (w_72 H) (w_73 H) (by decide) (rmR1 H c h16 (Nat.le_trans Z0 (Nat.le_of_eq (Wr.size W17).symm))) pd_2 rfl rfl rfl rfl (by decide) (by decide) (by decide) (by decide) ?_
  rintro _ h19 ⟨rfl, rfl⟩
  show Go κ _ h16 _ _ 17 #[.val (.ref a), .val (.ref b), .val (.ref c)] [(.ref c), (.ref a)]
  have f20 : Fld Z h16 a "java/util/ImmutableCollections$List12" "e1" "Ljava/lang/Object;" .null := (Fld.other W17 F1_a (Or.inr (slot_ne (t := (.object "java/lang/Object")) (t' := (.object "java/lang/Object")) (Or.inr (w_77 H)) (Or.inr (w_75 H)) (by decide) (by decide) (by decide))))
  refine go_putfield B (ty := (.object "java/lang/Object")) d9_17 (w_76 H) f20 (Exa.wr W17 E_a) (Or.inr ⟨(w_77 H), rfl, rfl⟩) (w_45 H) (by decide) rfl rfl ga ?_
  intro h21 W22
  have f23 : Fld Z h21 a "java/util/ImmutableCollections$List12" "e1" "Ljava/lang/Object;" (.ref c) := Fld.same W22 f20
  refine go_return B d9_20 (by decide) (by decide) ?_
  have f24 : Keep h0 h21 [a] := (Keep.wr (Keep.wr (Keep.refl h0 _) W17 (Or.inl (by simp))) W22 (Or.inl (by simp)))
  have f25 : Fld Z h21 a "java/util/ImmutableCollections$List12" "e0" "Ljava/lang/Object;" (.ref b) := (Fld.other W22 f18 (Or.inr (slot_ne (t := (.object "java/lang/Object")) (t' := (.object "java/lang/Object")) (Or.inr (w_75 H)) (Or.inr (w_77 H)) (by decide) (by decide) (by decide))))
  exact ⟨rfl, f24, (Exa.wr W22 (Exa.wr W17 E_a)), f25, f23⟩
theorem pn_java_util_List : plainName "java/util/List" = true := by first | (simp [plainName, overriddenIn]; done) | decide +kernel
theorem d8_0 : Dc jdk_40_method_38_code 0 (.new 96) 3 3 := ⟨by decide +kernel, rfl⟩
theorem w_44 {a0 : Array Value} {Z : State} (H : Wd a0 Z) : (Jvm.Cond.classLink "java/util/List" (96 : Nat) "java/util/ImmutableCollections$List12").before a0 Z = true := H _ (List.mem_of_getElem? (i := 44) rfl)
theorem w_46 {a0 : Array Value} {Z : State} (H : Wd a0 Z) : (Jvm.Cond.initialized "java/util/ImmutableCollections$List12").before a0 Z = true := H _ (List.mem_of_getElem? (i := 46) rfl)
theorem d8_3 : Dc jdk_40_method_38_code 3 (.dup) 1 4 := ⟨by decide +kernel, rfl⟩
theorem d8_4 : Dc jdk_40_method_38_code 4 (.aload_n 0) 1 5 := ⟨by decide +kernel, rfl⟩
theorem d8_5 : Dc jdk_40_method_38_code 5 (.aload_n 1) 1 6 := ⟨by decide +kernel, rfl⟩
theorem d8_6 : Dc jdk_40_method_38_code 6 (.invokespecial 100) 3 9 := ⟨by decide +kernel, rfl⟩
theorem w_50 {a0 : Array Value} {Z : State} (H : Wd a0 Z) : (Jvm.Cond.code ({ cls := "java/util/ImmutableCollections$List12", name := "<init>", desc := "(Ljava/lang/Object;Ljava/lang/Object;)V" } : Jvm.MethodName) jdk_44_method_2_code (3 : Nat) (Option.none : Option Jvm.ClassFile.FieldType)).before a0 Z = true := H _ (List.mem_of_getElem? (i := 50) rfl)
theorem pd_3 : parseMethodDescriptor "(Ljava/lang/Object;Ljava/lang/Object;)V" = some ⟨[(.object "java/lang/Object"), (.object "java/lang/Object")], none⟩ := by decide +kernel
theorem w_47 {a0 : Array Value} {Z : State} (H : Wd a0 Z) : (Jvm.Cond.methodLink "java/util/List" (100 : Nat) ({ cls := "java/util/ImmutableCollections$List12", name := "<init>", desc := "(Ljava/lang/Object;Ljava/lang/Object;)V" } : Jvm.MethodName)).before a0 Z = true := H _ (List.mem_of_getElem? (i := 47) rfl)
theorem w_48 {a0 : Array Value} {Z : State} (H : Wd a0 Z) : (Jvm.Cond.instanceMethod ({ cls := "java/util/ImmutableCollections$List12", name := "<init>", desc := "(Ljava/lang/Object;Ljava/lang/Object;)V" } : Jvm.MethodName)).before a0 Z = true := H _ (List.mem_of_getElem? (i := 48) rfl)
theorem d8_9 : Dc jdk_40_method_38_code 9 (.areturn) 1 10 := ⟨by decide +kernel, rfl⟩
set_option maxRecDepth 65536 in
set_option maxHeartbeats 40000000 in
theorem rmL2 {l : Launch} {Z : State} {a0 : Array Value} {n0 : Nat} (H : Wd a0 Z) (b c : Addr) (h0 : Heap) (Z0 : n0 ≤ h0.size) :
    Ct l Z n0 (⟨"java/util/List", "of", "(Ljava/lang/Object;Ljava/lang/Object;)Ljava/util/List;"⟩ : MethodName) jdk_40_method_38_code 2 (some (.object "java/util/List")) [] ({ frames := 5, cells := 1, slots := 2, locals := 63 } : Room) #[(.ref b), (.ref c)] h0 (fun v h => ∃ a, v = some (.ref a) ∧ Keep h0 h [] ∧ h0.size ≤ a ∧ Exa Z h a "java/util/ImmutableCollections$List12" ∧ Fld Z h a "java/util/ImmutableCollections$List12" "e0" "Ljava/lang/Object;" (.ref b) ∧ Fld Z h a "java/util/ImmutableCollections$List12" "e1" "Ljava/lang/Object;" (.ref c)) := by
  refine Ct.of (a0 := a0) (L0 := #[.val (.ref b), .val (.ref c)]) (plainFor_of_name pn_java_util_List) (fun m => by first | (simp [entryFrame, mkF, argsToLocals, Value.category]; done) | rfl) ?_
  intro κ B0
  have B : Ok κ l Z a0 n0 ({ frames := 5, cells := 1, slots := 2, locals := 63 } : Room) "java/util/List" "of" jdk_40_method_38_code 2 (some (.object "java/util/List")) := B0
  refine go_new B d8_0 (w_44 H) (w_45 H) (w_46 H) (by decide) (by decide) ?_
  intro h26 a27 hba27 Ea27 Aa27 Da27
  have ge_a27 : n0 ≤ a27 := by have q1 := Z0; omega
  have fr_a27 : h0.size ≤ a27 := by have q1 := (show Keep h0 h0 [] from (Keep.refl h0 _)).1; omega
  refine go_dup B d8_3 rfl ?_
  refine go_aload_n B d8_4 rfl rfl ?_
  refine go_aload_n B d8_5 rfl rfl ?_
  have f32 : Fld Z h26 a27 "java/util/ImmutableCollections$List12" "e0" "Ljava/lang/Object;" .null := (Da27 (Or.inr (w_75 H)) (ty := (.object "java/lang/Object")) (by decide))
  have f33 : Fld Z h26 a27 "java/util/ImmutableCollections$List12" "e1" "Ljava/lang/Object;" .null := (Da27 (Or.inr (w_77 H)) (ty := (.object "java/lang/Object")) (by decide))
  refine go_special B (W := 1) (a := a27) (argsL := [(.ref b), (.ref c)]) (st := [(.ref a27)]) d8_6 rfl (w_47 H) (w_48 H) (w_46 H) (w_50 H) (by decide) (rm12 H a27 b c h26 (Nat.le_trans Z0 Ea27.1) ge_a27 Aa27 f32 f33) pd_3 rfl rfl rfl rfl (by decide) (by decide) (by decide) (by decide) ?_
  rintro _ h34 ⟨rfl, K28, E29, f30, f31⟩
  show Go κ _ h34 _ _ 9 #[.val (.ref b), .val (.ref c)] [(.ref a27)]
  refine go_areturn B d8_9 rfl rfl rfl (by decide) (by decide) ?_
  have f35 : Keep h0 h34 [] := (Keep.trans (Keep.ext (Keep.refl h0 _) Ea27) K28 (allS (Or.inr fr_a27) all0))
  exact ⟨a27, rfl, f35, fr_a27, E29, f30, f31⟩
theorem d3_0 : Dc jdk_40_method_36_code 0 (.getstatic 90) 3 3 := ⟨by decide +kernel, rfl⟩
theorem w_18 {a0 : Array Value} {Z : State} (H : Wd a0 Z) : (Jvm.Cond.fieldLink "java/util/List" (90 : Nat) "java/util/ImmutableCollections" "EMPTY_LIST" "Ljava/util/ImmutableCollections$ListN;").before a0 Z = true := H _ (List.mem_of_getElem? (i := 18) rfl)
theorem d3_3 : Dc jdk_40_method_36_code 3 (.areturn) 1 4 := ⟨by decide +kernel, rfl⟩
set_option maxRecDepth 65536 in
set_option maxHeartbeats 40000000 in
theorem rmL0 {l : Launch} {Z : State} {a0 : Array Value} {n0 : Nat} (H : Wd a0 Z) (el : Addr) (h0 : Heap) (Z0 : n0 ≤ h0.size) (SL : Sta Z h0 "java/util/ImmutableCollections" "EMPTY_LIST" "Ljava/util/ImmutableCollections$ListN;" (.ref el)) :
    Ct l Z n0 (⟨"java/util/List", "of", "()Ljava/util/List;"⟩ : MethodName) jdk_40_method_36_code 0 (some (.object "java/util/List")) [] ({ frames := 0, cells := 0, slots := 0, locals := 0 } : Room) #[] h0 (fun v h => v = some (.ref el) ∧ h0 = h) := by
  refine Ct.of (a0 := a0) (L0 := #[]) (plainFor_of_name pn_java_util_List) (fun m => by first | (simp [entryFrame, mkF, argsToLocals, Value.category]; done) | rfl) ?_
  intro κ B0
  have B : Ok κ l Z a0 n0 ({ frames := 0, cells := 0, slots := 0, locals := 0 } : Room) "java/util/List" "of" jdk_40_method_36_code 0 (some (.object "java/util/List")) := B0
  refine go_getstatic B d3_0 (w_18 H) SL ?_
  refine go_areturn B d3_3 rfl rfl rfl (by decide) (by decide) ?_
  exact ⟨rfl, rfl⟩
theorem pn_java_util_ImmutableCollections : plainName "java/util/ImmutableCollections" = true := by first | (simp [plainName, overriddenIn]; done) | decide +kernel
theorem d18_0 : Dc jdk_56_method_3_code 0 (.aload_n 0) 1 1 := ⟨by decide +kernel, rfl⟩
theorem d18_1 : Dc jdk_56_method_3_code 1 (.instanceof 10) 3 4 := ⟨by decide +kernel, rfl⟩
theorem w_104 {a0 : Array Value} {Z : State} (H : Wd a0 Z) : (Jvm.Cond.classLink "java/util/ImmutableCollections" (10 : Nat) "java/util/ImmutableCollections$List12").before a0 Z = true := H _ (List.mem_of_getElem? (i := 104) rfl)
theorem d18_4 : Db jdk_56_method_3_code 4 (.ifCond .ne 22) 22 7 26 := ⟨by decide +kernel, rfl, rfl⟩
theorem d18_26 : Dc jdk_56_method_3_code 26 (.aload_n 0) 1 27 := ⟨by decide +kernel, rfl⟩
theorem d18_27 : Dc jdk_56_method_3_code 27 (.checkcast 18) 3 30 := ⟨by decide +kernel, rfl⟩
theorem w_114 {a0 : Array Value} {Z : State} (H : Wd a0 Z) : (Jvm.Cond.classLink "java/util/ImmutableCollections" (18 : Nat) "java/util/List").before a0 Z = true := H _ (List.mem_of_getElem? (i := 114) rfl)
theorem w_116 {a0 : Array Value} {Z : State} (H : Wd a0 Z) : (Jvm.Cond.castable "java/util/ImmutableCollections$List12" "java/util/List").before a0 Z = true := H _ (List.mem_of_getElem? (i := 116) rfl)
theorem d18_30 : Dc jdk_56_method_3_code 30 (.areturn) 1 31 := ⟨by decide +kernel, rfl⟩
set_option maxRecDepth 65536 in
set_option maxHeartbeats 40000000 in
theorem rmC12 {l : Launch} {Z : State} {a0 : Array Value} {n0 : Nat} (H : Wd a0 Z) (a : Addr) (h0 : Heap) (Z0 : n0 ≤ h0.size) (E_a : Exa Z h0 a "java/util/ImmutableCollections$List12") :
    Ct l Z n0 (⟨"java/util/ImmutableCollections", "listCopy", "(Ljava/util/Collection;)Ljava/util/List;"⟩ : MethodName) jdk_56_method_3_code 2 (some (.object "java/util/List")) [] ({ frames := 0, cells := 0, slots := 0, locals := 0 } : Room) #[(.ref a)] h0 (fun v h => v = some (.ref a) ∧ h0 = h) := by
  refine Ct.of (a0 := a0) (L0 := #[.val (.ref a), .unset]) (plainFor_of_name pn_java_util_ImmutableCollections) (fun m => by first | (simp [entryFrame, mkF, argsToLocals, Value.category]; done) | rfl) ?_
  intro κ B0
  have B : Ok κ l Z a0 n0 ({ frames := 0, cells := 0, slots := 0, locals := 0 } : Room) "java/util/ImmutableCollections" "listCopy" jdk_56_method_3_code 2 (some (.object "java/util/List")) := B0
  refine go_aload_n B d18_0 rfl rfl ?_
  refine go_instanceof B d18_1 (w_104 H) (Ins.self E_a) ?_
  refine go_ifne B d18_4 (fun c4 => ?_) (fun c4 => ?_)
  rotate_left
  · exact absurd c4 (by decide)
  refine go_aload_n B d18_26 rfl rfl ?_
  refine go_checkcast B d18_27 (w_114 H) (Ins.of_exa E_a (w_116 H)) ?_
  refine go_areturn B d18_30 rfl rfl rfl (by decide) (by decide) ?_
  exact ⟨rfl, rfl⟩
theorem w_49 {a0 : Array Value} {Z : State} (H : Wd a0 Z) : (Jvm.Cond.castable "java/util/ImmutableCollections$List12" "java/util/ImmutableCollections$List12").before a0 Z = true := H _ (List.mem_of_getElem? (i := 49) rfl)
theorem w_115 {a0 : Array Value} {Z : State} (H : Wd a0 Z) : (Jvm.Cond.castable "java/util/ImmutableCollections$ListN" "java/util/List").before a0 Z = true := H _ (List.mem_of_getElem? (i := 115) rfl)
theorem d18_7 : Dc jdk_56_method_3_code 7 (.aload_n 0) 1 8 := ⟨by decide +kernel, rfl⟩
theorem d18_8 : Dc jdk_56_method_3_code 8 (.instanceof 12) 3 11 := ⟨by decide +kernel, rfl⟩
theorem w_110 {a0 : Array Value} {Z : State} (H : Wd a0 Z) : (Jvm.Cond.classLink "java/util/ImmutableCollections" (12 : Nat) "java/util/ImmutableCollections$ListN").before a0 Z = true := H _ (List.mem_of_getElem? (i := 110) rfl)
theorem d18_11 : Db jdk_56_method_3_code 11 (.ifCond .eq 20) 20 14 31 := ⟨by decide +kernel, rfl, rfl⟩
theorem d18_14 : Dc jdk_56_method_3_code 14 (.aload_n 0) 1 15 := ⟨by decide +kernel, rfl⟩
theorem d18_15 : Dc jdk_56_method_3_code 15 (.checkcast 12) 3 18 := ⟨by decide +kernel, rfl⟩
theorem d18_18 : Dc jdk_56_method_3_code 18 (.astore_n 1) 1 19 := ⟨by decide +kernel, rfl⟩
theorem d18_19 : Dc jdk_56_method_3_code 19 (.aload_n 1) 1 20 := ⟨by decide +kernel, rfl⟩
theorem d18_20 : Dc jdk_56_method_3_code 20 (.getfield 14) 3 23 := ⟨by decide +kernel, rfl⟩
theorem w_112 {a0 : Array Value} {Z : State} (H : Wd a0 Z) : (Jvm.Cond.fieldLinkNest "java/util/ImmutableCollections" (14 : Nat) "java/util/ImmutableCollections$ListN" "allowNulls" "Z" "java/util/ImmutableCollections").before a0 Z = true := H _ (List.mem_of_getElem? (i := 112) rfl)
theorem d18_23 : Db jdk_56_method_3_code 23 (.ifCond .ne 8) 8 26 31 := ⟨by decide +kernel, rfl, rfl⟩
set_option maxRecDepth 65536 in
set_option maxHeartbeats 40000000 in
theorem rmCN {l : Launch} {Z : State} {a0 : Array Value} {n0 : Nat} (H : Wd a0 Z) (a : Addr) (h0 : Heap) (Z0 : n0 ≤ h0.size) (EN : Exa Z h0 a "java/util/ImmutableCollections$ListN") (FN : Fld Z h0 a "java/util/ImmutableCollections$ListN" "allowNulls" "Z" (.int 0)) :
    Ct l Z n0 (⟨"java/util/ImmutableCollections", "listCopy", "(Ljava/util/Collection;)Ljava/util/List;"⟩ : MethodName) jdk_56_method_3_code 2 (some (.object "java/util/List")) [] ({ frames := 0, cells := 0, slots := 0, locals := 0 } : Room) #[(.ref a)] h0 (fun v h => v = some (.ref a) ∧ h0 = h) := by
  refine Ct.of (a0 := a0) (L0 := #[.val (.ref a), .unset]) (plainFor_of_name pn_java_util_ImmutableCollections) (fun m => by first | (simp [entryFrame, mkF, argsToLocals, Value.category]; done) | rfl) ?_
  intro κ B0
  have B : Ok κ l Z a0 n0 ({ frames := 0, cells := 0, slots := 0, locals := 0 } : Room) "java/util/ImmutableCollections" "listCopy" jdk_56_method_3_code 2 (some (.object "java/util/List")) := B0
  refine go_aload_n B d18_0 rfl rfl ?_
  refine go_instanceofA B d18_1 (w_104 H) (by obtain ⟨c, _, q, -⟩ := Cond.castable_spec (w_49 H); exact ⟨c, q⟩) EN ?_
  intro z36
  refine go_ifne B d18_4 (fun c4 => ?_) (fun c4 => ?_)
  · skip
    refine go_aload_n B d18_26 rfl rfl ?_
    refine go_checkcast B d18_27 (w_114 H) (Ins.of_exa EN (w_115 H)) ?_
    refine go_areturn B d18_30 rfl rfl rfl (by decide) (by decide) ?_
    exact ⟨rfl, rfl⟩
  · skip
    refine go_aload_n B d18_7 rfl rfl ?_
    refine go_instanceof B d18_8 (w_110 H) (Ins.self EN) ?_
    refine go_ifeq B d18_11 (fun c11 => ?_) (fun c11 => ?_)
    · exact absurd c11 (by decide)
    refine go_aload_n B d18_14 rfl rfl ?_
    refine go_checkcast B d18_15 (w_110 H) (Ins.self EN) ?_
    refine go_astore_n B #[.val (.ref a), .val (.ref a)] d18_18 rfl rfl ?_
    refine go_aload_n B d18_19 rfl rfl ?_
    refine go_getfieldN B d18_20 (w_112 H) FN ?_
    refine go_ifne B d18_23 (fun c23 => ?_) (fun c23 => ?_)
    · exact absurd c23 (by decide)
    refine go_aload_n B d18_26 rfl rfl ?_
    refine go_checkcast B d18_27 (w_114 H) (Ins.of_exa EN (w_115 H)) ?_
    refine go_areturn B d18_30 rfl rfl rfl (by decide) (by decide) ?_
    exact ⟨rfl, rfl⟩
theorem d17_0 : Dc jdk_40_method_48_code 0 (.aload_n 0) 1 1 := ⟨by decide +kernel, rfl⟩
theorem d17_1 : Dc jdk_40_method_48_code 1 (.invokestatic 112) 3 4 := ⟨by decide +kernel, rfl⟩
theorem w_103 {a0 : Array Value} {Z : State} (H : Wd a0 Z) : (Jvm.Cond.code ({ cls := "java/util/ImmutableCollections", name := "listCopy", desc := "(Ljava/util/Collection;)Ljava/util/List;" } : Jvm.MethodName) jdk_56_method_3_code (2 : Nat) (Option.some (Jvm.ClassFile.FieldType.object "java/util/List"))).before a0 Z = true := H _ (List.mem_of_getElem? (i := 103) rfl)
theorem w_19 {a0 : Array Value} {Z : State} (H : Wd a0 Z) : (Jvm.Cond.initialized "java/util/ImmutableCollections").before a0 Z = true := H _ (List.mem_of_getElem? (i := 19) rfl)
theorem pd_4 : parseMethodDescriptor "(Ljava/util/Collection;)Ljava/util/List;" = some ⟨[(.object "java/util/Collection")], some (.object "java/util/List")⟩ := by decide +kernel
theorem w_101 {a0 : Array Value} {Z : State} (H : Wd a0 Z) : (Jvm.Cond.methodLink "java/util/List" (112 : Nat) ({ cls := "java/util/ImmutableCollections", name := "listCopy", desc := "(Ljava/util/Collection;)Ljava/util/List;" } : Jvm.MethodName)).before a0 Z = true := H _ (List.mem_of_getElem? (i := 101) rfl)
theorem w_102 {a0 : Array Value} {Z : State} (H : Wd a0 Z) : (Jvm.Cond.static ({ cls := "java/util/ImmutableCollections", name := "listCopy", desc := "(Ljava/util/Collection;)Ljava/util/List;" } : Jvm.MethodName)).before a0 Z = true := H _ (List.mem_of_getElem? (i := 102) rfl)
theorem d17_4 : Dc jdk_40_method_48_code 4 (.areturn) 1 5 := ⟨by decide +kernel, rfl⟩
set_option maxRecDepth 65536 in
set_option maxHeartbeats 40000000 in
theorem rmO12 {l : Launch} {Z : State} {a0 : Array Value} {n0 : Nat} (H : Wd a0 Z) (a : Addr) (h0 : Heap) (Z0 : n0 ≤ h0.size) (E_a : Exa Z h0 a "java/util/ImmutableCollections$List12") :
    Ct l Z n0 (⟨"java/util/List", "copyOf", "(Ljava/util/Collection;)Ljava/util/List;"⟩ : MethodName) jdk_40_method_48_code 1 (some (.object "java/util/List")) [] ({ frames := 1, cells := 0, slots := 0, locals := 13 } : Room) #[(.ref a)] h0 (fun v h => v = some (.ref a) ∧ h0 = h) := by
  refine Ct.of (a0 := a0) (L0 := #[.val (.ref a)]) (plainFor_of_name pn_java_util_List) (fun m => by first | (simp [entryFrame, mkF, argsToLocals, Value.category]; done) | rfl) ?_
  intro κ B0
  have B : Ok κ l Z a0 n0 ({ frames := 1, cells := 0, slots := 0, locals := 13 } : Room) "java/util/List" "copyOf" jdk_40_method_48_code 1 (some (.object "java/util/List")) := B0
  refine go_aload_n B d17_0 rfl rfl ?_
  refine go_static B (W := 0) (argsL := [(.ref a)]) (st := []) d17_1 (w_101 H) (w_102 H) (w_19 H) (w_103 H) (by decide) (rmC12 H a h0 Z0 E_a) pd_4 rfl rfl rfl rfl (by decide) (by decide) (by decide) (by decide) ?_
  rintro _ h37 ⟨rfl, rfl⟩
  show Go κ _ h0 _ _ 4 #[.val (.ref a)] [(.ref a)]
  refine go_areturn B d17_4 rfl rfl rfl (by decide) (by decide) ?_
  exact ⟨rfl, rfl⟩
set_option maxRecDepth 65536 in
set_option maxHeartbeats 40000000 in
theorem rmON {l : Launch} {Z : State} {a0 : Array Value} {n0 : Nat} (H : Wd a0 Z) (a : Addr) (h0 : Heap) (Z0 : n0 ≤ h0.size) (EN : Exa Z h0 a "java/util/ImmutableCollections$ListN") (FN : Fld Z h0 a "java/util/ImmutableCollections$ListN" "allowNulls" "Z" (.int 0)) :
    Ct l Z n0 (⟨"java/util/List", "copyOf", "(Ljava/util/Collection;)Ljava/util/List;"⟩ : MethodName) jdk_40_method_48_code 1 (some (.object "java/util/List")) [] ({ frames := 1, cells := 0, slots := 0, locals := 13 } : Room) #[(.ref a)] h0 (fun v h => v = some (.ref a) ∧ h0 = h) := by
  refine Ct.of (a0 := a0) (L0 := #[.val (.ref a)]) (plainFor_of_name pn_java_util_List) (fun m => by first | (simp [entryFrame, mkF, argsToLocals, Value.category]; done) | rfl) ?_
  intro κ B0
  have B : Ok κ l Z a0 n0 ({ frames := 1, cells := 0, slots := 0, locals := 13 } : Room) "java/util/List" "copyOf" jdk_40_method_48_code 1 (some (.object "java/util/List")) := B0
  refine go_aload_n B d17_0 rfl rfl ?_
  refine go_static B (W := 0) (argsL := [(.ref a)]) (st := []) d17_1 (w_101 H) (w_102 H) (w_19 H) (w_103 H) (by decide) (rmCN H a h0 Z0 EN FN) pd_4 rfl rfl rfl rfl (by decide) (by decide) (by decide) (by decide) ?_
  rintro _ h38 ⟨rfl, rfl⟩
  show Go κ _ h0 _ _ 4 #[.val (.ref a)] [(.ref a)]
  refine go_areturn B d17_4 rfl rfl rfl (by decide) (by decide) ?_
  exact ⟨rfl, rfl⟩
theorem pn_com_example_baseload_baseload_model_Violation : plainName "com/example/baseload/baseload/model/Violation" = true := by first | (simp [plainName, overriddenIn]; done) | decide +kernel
theorem d14_0 : Dc prog_22_method_1_code 0 (.aload_n 0) 1 1 := ⟨by decide +kernel, rfl⟩
theorem d14_1 : Dc prog_22_method_1_code 1 (.invokespecial 1) 3 4 := ⟨by decide +kernel, rfl⟩
theorem w_85 {a0 : Array Value} {Z : State} (H : Wd a0 Z) : (Jvm.Cond.code ({ cls := "java/lang/Record", name := "<init>", desc := "()V" } : Jvm.MethodName) jdk_30_method_1_code (1 : Nat) (Option.none : Option Jvm.ClassFile.FieldType)).before a0 Z = true := H _ (List.mem_of_getElem? (i := 85) rfl)
theorem w_84 {a0 : Array Value} {Z : State} (H : Wd a0 Z) : (Jvm.Cond.initialized "java/lang/Record").before a0 Z = true := H _ (List.mem_of_getElem? (i := 84) rfl)
theorem w_81 {a0 : Array Value} {Z : State} (H : Wd a0 Z) : (Jvm.Cond.methodLink "com/example/baseload/baseload/model/Violation" (1 : Nat) ({ cls := "java/lang/Record", name := "<init>", desc := "()V" } : Jvm.MethodName)).before a0 Z = true := H _ (List.mem_of_getElem? (i := 81) rfl)
theorem w_82 {a0 : Array Value} {Z : State} (H : Wd a0 Z) : (Jvm.Cond.instanceMethod ({ cls := "java/lang/Record", name := "<init>", desc := "()V" } : Jvm.MethodName)).before a0 Z = true := H _ (List.mem_of_getElem? (i := 82) rfl)
theorem d14_4 : Dc prog_22_method_1_code 4 (.aload_n 1) 1 5 := ⟨by decide +kernel, rfl⟩
theorem d14_5 : Dc prog_22_method_1_code 5 (.ldc 7) 2 7 := ⟨by decide +kernel, rfl⟩
theorem w_87 {a0 : Array Value} {Z : State} (H : Wd a0 Z) : (Jvm.Cond.stringLink "com/example/baseload/baseload/model/Violation" (7 : Nat) "kind").before a0 Z = true := H _ (List.mem_of_getElem? (i := 87) rfl)
theorem w_88 {a0 : Array Value} {Z : State} (H : Wd a0 Z) : (Jvm.Cond.initialized "java/lang/String").before a0 Z = true := H _ (List.mem_of_getElem? (i := 88) rfl)
theorem w_89 {a0 : Array Value} {Z : State} (H : Wd a0 Z) : (Jvm.Cond.instantiable "java/lang/String" (4 : Nat)).before a0 Z = true := H _ (List.mem_of_getElem? (i := 89) rfl)
theorem w_90 {a0 : Array Value} {Z : State} (H : Wd a0 Z) : (Jvm.Cond.arrayClass Jvm.ClassFile.FieldType.byte).before a0 Z = true := H _ (List.mem_of_getElem? (i := 90) rfl)
theorem w_91 {a0 : Array Value} {Z : State} (H : Wd a0 Z) : (Jvm.Cond.laysFinal "java/lang/String" "java/lang/String" "value" "[B").before a0 Z = true := H _ (List.mem_of_getElem? (i := 91) rfl)
theorem w_92 {a0 : Array Value} {Z : State} (H : Wd a0 Z) : (Jvm.Cond.laysFinal "java/lang/String" "java/lang/String" "coder" "B").before a0 Z = true := H _ (List.mem_of_getElem? (i := 92) rfl)
theorem w_93 {a0 : Array Value} {Z : State} (H : Wd a0 Z) : (Jvm.Cond.soleField "java/lang/String" "value").before a0 Z = true := H _ (List.mem_of_getElem? (i := 93) rfl)
theorem w_94 {a0 : Array Value} {Z : State} (H : Wd a0 Z) : (Jvm.Cond.soleField "java/lang/String" "coder").before a0 Z = true := H _ (List.mem_of_getElem? (i := 94) rfl)
theorem strings {a0 : Array Value} {Z : State} (H : Wd a0 Z) : ∀ a ∈ Bundle.stringAtoms, a.before a0 Z = true := by
  intro a ha
  simp only [Bundle.stringAtoms, List.mem_cons, List.not_mem_nil, or_false] at ha
  rcases ha with rfl | rfl | rfl | rfl | rfl | rfl | rfl
  · exact (w_88 H)
  · exact (w_89 H)
  · exact (w_90 H)
  · exact (w_91 H)
  · exact (w_92 H)
  · exact (w_93 H)
  · exact (w_94 H)
theorem d14_7 : Dc prog_22_method_1_code 7 (.invokestatic 9) 3 10 := ⟨by decide +kernel, rfl⟩
theorem w_97 {a0 : Array Value} {Z : State} (H : Wd a0 Z) : (Jvm.Cond.code ({ cls := "java/util/Objects", name := "requireNonNull", desc := "(Ljava/lang/Object;Ljava/lang/String;)Ljava/lang/Object;" } : Jvm.MethodName) jdk_31_method_11_code (2 : Nat) (Option.some (Jvm.ClassFile.FieldType.object "java/lang/Object"))).before a0 Z = true := H _ (List.mem_of_getElem? (i := 97) rfl)
theorem pd_5 : parseMethodDescriptor "(Ljava/lang/Object;Ljava/lang/String;)Ljava/lang/Object;" = some ⟨[(.object "java/lang/Object"), (.object "java/lang/String")], some (.object "java/lang/Object")⟩ := by decide +kernel
theorem w_95 {a0 : Array Value} {Z : State} (H : Wd a0 Z) : (Jvm.Cond.methodLink "com/example/baseload/baseload/model/Violation" (9 : Nat) ({ cls := "java/util/Objects", name := "requireNonNull", desc := "(Ljava/lang/Object;Ljava/lang/String;)Ljava/lang/Object;" } : Jvm.MethodName)).before a0 Z = true := H _ (List.mem_of_getElem? (i := 95) rfl)
theorem w_96 {a0 : Array Value} {Z : State} (H : Wd a0 Z) : (Jvm.Cond.static ({ cls := "java/util/Objects", name := "requireNonNull", desc := "(Ljava/lang/Object;Ljava/lang/String;)Ljava/lang/Object;" } : Jvm.MethodName)).before a0 Z = true := H _ (List.mem_of_getElem? (i := 96) rfl)
theorem d14_10 : Dc prog_22_method_1_code 10 (.pop) 1 11 := ⟨by decide +kernel, rfl⟩
theorem d14_11 : Dc prog_22_method_1_code 11 (.aload_n 2) 1 12 := ⟨by decide +kernel, rfl⟩
theorem d14_12 : Dc prog_22_method_1_code 12 (.invokestatic 15) 3 15 := ⟨by decide +kernel, rfl⟩
theorem w_100 {a0 : Array Value} {Z : State} (H : Wd a0 Z) : (Jvm.Cond.code ({ cls := "java/util/List", name := "copyOf", desc := "(Ljava/util/Collection;)Ljava/util/List;" } : Jvm.MethodName) jdk_40_method_48_code (1 : Nat) (Option.some (Jvm.ClassFile.FieldType.object "java/util/List"))).before a0 Z = true := H _ (List.mem_of_getElem? (i := 100) rfl)
theorem w_16 {a0 : Array Value} {Z : State} (H : Wd a0 Z) : (Jvm.Cond.initialized "java/util/List").before a0 Z = true := H _ (List.mem_of_getElem? (i := 16) rfl)
theorem w_98 {a0 : Array Value} {Z : State} (H : Wd a0 Z) : (Jvm.Cond.methodLink "com/example/baseload/baseload/model/Violation" (15 : Nat) ({ cls := "java/util/List", name := "copyOf", desc := "(Ljava/util/Collection;)Ljava/util/List;" } : Jvm.MethodName)).before a0 Z = true := H _ (List.mem_of_getElem? (i := 98) rfl)
theorem w_99 {a0 : Array Value} {Z : State} (H : Wd a0 Z) : (Jvm.Cond.static ({ cls := "java/util/List", name := "copyOf", desc := "(Ljava/util/Collection;)Ljava/util/List;" } : Jvm.MethodName)).before a0 Z = true := H _ (List.mem_of_getElem? (i := 99) rfl)
theorem d14_15 : Dc prog_22_method_1_code 15 (.astore_n 2) 1 16 := ⟨by decide +kernel, rfl⟩
theorem d14_16 : Dc prog_22_method_1_code 16 (.aload_n 3) 1 17 := ⟨by decide +kernel, rfl⟩
theorem d14_17 : Dc prog_22_method_1_code 17 (.invokestatic 15) 3 20 := ⟨by decide +kernel, rfl⟩
theorem d14_20 : Dc prog_22_method_1_code 20 (.astore_n 3) 1 21 := ⟨by decide +kernel, rfl⟩
theorem d14_21 : Dc prog_22_method_1_code 21 (.aload 4) 2 23 := ⟨by decide +kernel, rfl⟩
theorem d14_23 : Dc prog_22_method_1_code 23 (.invokestatic 15) 3 26 := ⟨by decide +kernel, rfl⟩
theorem d14_26 : Dc prog_22_method_1_code 26 (.astore 4) 2 28 := ⟨by decide +kernel, rfl⟩
theorem d14_28 : Dc prog_22_method_1_code 28 (.aload_n 0) 1 29 := ⟨by decide +kernel, rfl⟩
theorem d14_29 : Dc prog_22_method_1_code 29 (.aload_n 1) 1 30 := ⟨by decide +kernel, rfl⟩
theorem d14_30 : Dc prog_22_method_1_code 30 (.putfield 21) 3 33 := ⟨by decide +kernel, rfl⟩
theorem w_118 {a0 : Array Value} {Z : State} (H : Wd a0 Z) : (Jvm.Cond.laysFinal "com/example/baseload/baseload/model/Violation" "com/example/baseload/baseload/model/Violation" "kind" "Lcom/example/baseload/baseload/model/Violation$Kind;").before a0 Z = true := H _ (List.mem_of_getElem? (i := 118) rfl)
theorem w_13 {a0 : Array Value} {Z : State} (H : Wd a0 Z) : (Jvm.Cond.instantiable "com/example/baseload/baseload/model/Violation" (4 : Nat)).before a0 Z = true := H _ (List.mem_of_getElem? (i := 13) rfl)
theorem w_117 {a0 : Array Value} {Z : State} (H : Wd a0 Z) : (Jvm.Cond.fieldLink "com/example/baseload/baseload/model/Violation" (21 : Nat) "com/example/baseload/baseload/model/Violation" "kind" "Lcom/example/baseload/baseload/model/Violation$Kind;").before a0 Z = true := H _ (List.mem_of_getElem? (i := 117) rfl)
theorem d14_33 : Dc prog_22_method_1_code 33 (.aload_n 0) 1 34 := ⟨by decide +kernel, rfl⟩
theorem d14_34 : Dc prog_22_method_1_code 34 (.aload_n 2) 1 35 := ⟨by decide +kernel, rfl⟩
theorem d14_35 : Dc prog_22_method_1_code 35 (.putfield 26) 3 38 := ⟨by decide +kernel, rfl⟩
theorem w_120 {a0 : Array Value} {Z : State} (H : Wd a0 Z) : (Jvm.Cond.laysFinal "com/example/baseload/baseload/model/Violation" "com/example/baseload/baseload/model/Violation" "ids" "Ljava/util/List;").before a0 Z = true := H _ (List.mem_of_getElem? (i := 120) rfl)
theorem w_119 {a0 : Array Value} {Z : State} (H : Wd a0 Z) : (Jvm.Cond.fieldLink "com/example/baseload/baseload/model/Violation" (26 : Nat) "com/example/baseload/baseload/model/Violation" "ids" "Ljava/util/List;").before a0 Z = true := H _ (List.mem_of_getElem? (i := 119) rfl)
theorem d14_38 : Dc prog_22_method_1_code 38 (.aload_n 0) 1 39 := ⟨by decide +kernel, rfl⟩
theorem d14_39 : Dc prog_22_method_1_code 39 (.aload_n 3) 1 40 := ⟨by decide +kernel, rfl⟩
theorem d14_40 : Dc prog_22_method_1_code 40 (.putfield 30) 3 43 := ⟨by decide +kernel, rfl⟩
theorem w_122 {a0 : Array Value} {Z : State} (H : Wd a0 Z) : (Jvm.Cond.laysFinal "com/example/baseload/baseload/model/Violation" "com/example/baseload/baseload/model/Violation" "counts" "Ljava/util/List;").before a0 Z = true := H _ (List.mem_of_getElem? (i := 122) rfl)
theorem w_121 {a0 : Array Value} {Z : State} (H : Wd a0 Z) : (Jvm.Cond.fieldLink "com/example/baseload/baseload/model/Violation" (30 : Nat) "com/example/baseload/baseload/model/Violation" "counts" "Ljava/util/List;").before a0 Z = true := H _ (List.mem_of_getElem? (i := 121) rfl)
theorem d14_43 : Dc prog_22_method_1_code 43 (.aload_n 0) 1 44 := ⟨by decide +kernel, rfl⟩
theorem d14_44 : Dc prog_22_method_1_code 44 (.aload 4) 2 46 := ⟨by decide +kernel, rfl⟩
theorem d14_46 : Dc prog_22_method_1_code 46 (.putfield 33) 3 49 := ⟨by decide +kernel, rfl⟩
theorem w_124 {a0 : Array Value} {Z : State} (H : Wd a0 Z) : (Jvm.Cond.laysFinal "com/example/baseload/baseload/model/Violation" "com/example/baseload/baseload/model/Violation" "costs" "Ljava/util/List;").before a0 Z = true := H _ (List.mem_of_getElem? (i := 124) rfl)
theorem w_123 {a0 : Array Value} {Z : State} (H : Wd a0 Z) : (Jvm.Cond.fieldLink "com/example/baseload/baseload/model/Violation" (33 : Nat) "com/example/baseload/baseload/model/Violation" "costs" "Ljava/util/List;").before a0 Z = true := H _ (List.mem_of_getElem? (i := 123) rfl)
theorem d14_49 : Dc prog_22_method_1_code 49 (.return_) 1 50 := ⟨by decide +kernel, rfl⟩
set_option maxRecDepth 65536 in
set_option maxHeartbeats 40000000 in
theorem rmVi {l : Launch} {Z : State} {a0 : Array Value} {n0 : Nat} (H : Wd a0 Z) (a kd el l1 : Addr) (h0 : Heap) (Z0 : n0 ≤ h0.size) (ga : n0 ≤ a) (E_a : Exa Z h0 a "com/example/baseload/baseload/model/Violation") (F0_a : Fld Z h0 a "com/example/baseload/baseload/model/Violation" "kind" "Lcom/example/baseload/baseload/model/Violation$Kind;" .null) (F1_a : Fld Z h0 a "com/example/baseload/baseload/model/Violation" "ids" "Ljava/util/List;" .null) (F2_a : Fld Z h0 a "com/example/baseload/baseload/model/Violation" "counts" "Ljava/util/List;" .null) (F3_a : Fld Z h0 a "com/example/baseload/baseload/model/Violation" "costs" "Ljava/util/List;" .null) (EN : Exa Z h0 el "java/util/ImmutableCollections$ListN") (FN : Fld Z h0 el "java/util/ImmutableCollections$ListN" "allowNulls" "Z" (.int 0)) (E1 : Exa Z h0 l1 "java/util/ImmutableCollections$List12") :
    CtW l Z n0 (⟨"com/example/baseload/baseload/model/Violation", "<init>", "(Lcom/example/baseload/baseload/model/Violation$Kind;Ljava/util/List;Ljava/util/List;Ljava/util/List;)V"⟩ : MethodName) prog_22_method_1_code 5 none [] ({ frames := 2, cells := 2, slots := 20, locals := 25 } : Room) #[(.ref a), (.ref kd), (.ref el), (.ref el), (.ref l1)] h0 (fun v h => v = none ∧ Keep h0 h [a] ∧ Exa Z h a "com/example/baseload/baseload/model/Violation" ∧ Fld Z h a "com/example/baseload/baseload/model/Violation" "kind" "Lcom/example/baseload/baseload/model/Violation$Kind;" (.ref kd) ∧ Fld Z h a "com/example/baseload/baseload/model/Violation" "ids" "Ljava/util/List;" (.ref el) ∧ Fld Z h a "com/example/baseload/baseload/model/Violation" "counts" "Ljava/util/List;" (.ref el) ∧ Fld Z h a "com/example/baseload/baseload/model/Violation" "costs" "Ljava/util/List;" (.ref l1)) := by
  refine CtW.of (a0 := a0) (L0 := #[.val (.ref a), .val (.ref kd), .val (.ref el), .val (.ref el), .val (.ref l1)]) (plainFor_of_name pn_com_example_baseload_baseload_model_Violation) (fun m => by first | (simp [entryFrame, mkF, argsToLocals, Value.category]; done) | rfl) ?_
  intro κ Wk B0
  have B : Ok κ l Z a0 n0 ({ frames := 2, cells := 2, slots := 20, locals := 25 } : Room) "com/example/baseload/baseload/model/Violation" "<init>" prog_22_method_1_code 5 none := B0
  refine go_aload_n B d14_0 rfl rfl ?_
  refine go_special B (W := 0) (a := a) (argsL := []) (st := []) d14_1 rfl (w_81 H) (w_82 H) (w_84 H) (w_85 H) (by decide) (rmRec H a h0 Z0) pd_0 rfl rfl rfl rfl (by decide) (by decide) (by decide) (by decide) ?_
  rintro _ h39 ⟨rfl, rfl⟩
  show Go κ _ h0 _ _ 4 #[.val (.ref a), .val (.ref kd), .val (.ref el), .val (.ref el), .val (.ref l1)] []
  refine go_aload_n B d14_4 rfl rfl ?_
  refine go_ldcS B Wk (nn := 16) d14_5 (w_87 H) (strings H) (Nat.zero_le _) (by decide) (by decide) (by decide) (by decide) ?_
  intro κ km42 h40 a41 Wk B K43 E44
  show Go κ _ h40 _ _ 7 #[.val (.ref a), .val (.ref kd), .val (.ref el), .val (.ref el), .val (.ref l1)] [(.ref a41), (.ref kd)]
  refine go_static B (W := 0) (argsL := [(.ref kd), (.ref a41)]) (st := []) d14_7 (w_95 H) (w_96 H) (w_72 H) (w_97 H) (by decide) (rmR2 H kd a41 h40 (Nat.le_trans Z0 E44.1)) pd_5 rfl rfl rfl rfl (by decide) (by decide) (by decide) (by decide) ?_
  rintro _ h45 ⟨rfl, rfl⟩
  show Go κ _ h40 _ _ 10 #[.val (.ref a), .val (.ref kd), .val (.ref el), .val (.ref el), .val (.ref l1)] [(.ref kd)]
  refine go_pop B d14_10 rfl ?_
  refine go_aload_n B d14_11 rfl rfl ?_
  refine go_static B (W := 0) (argsL := [(.ref el)]) (st := []) d14_12 (w_98 H) (w_99 H) (w_16 H) (w_100 H) (by decide) (rmON H el h40 (Nat.le_trans Z0 E44.1) (Exa.ext E44 EN) (Fld.ext E44 FN)) pd_4 rfl rfl rfl rfl (by decide) (by decide) (by decide) (by decide) ?_
  rintro _ h46 ⟨rfl, rfl⟩
  show Go κ _ h40 _ _ 15 #[.val (.ref a), .val (.ref kd), .val (.ref el), .val (.ref el), .val (.ref l1)] [(.ref el)]
  refine go_astore_n B #[.val (.ref a), .val (.ref kd), .val (.ref el), .val (.ref el), .val (.ref l1)] d14_15 rfl rfl ?_
  refine go_aload_n B d14_16 rfl rfl ?_
  refine go_static B (W := 0) (argsL := [(.ref el)]) (st := []) d14_17 (w_98 H) (w_99 H) (w_16 H) (w_100 H) (by decide) (rmON H el h40 (Nat.le_trans Z0 E44.1) (Exa.ext E44 EN) (Fld.ext E44 FN)) pd_4 rfl rfl rfl rfl (by decide) (by decide) (by decide) (by decide) ?_
  rintro _ h47 ⟨rfl, rfl⟩
  show Go κ _ h40 _ _ 20 #[.val (.ref a), .val (.ref kd), .val (.ref el), .val (.ref el), .val (.ref l1)] [(.ref el)]
  refine go_astore_n B #[.val (.ref a), .val (.ref kd), .val (.ref el), .val (.ref el), .val (.ref l1)] d14_20 rfl rfl ?_
  refine go_aload B d14_21 rfl rfl ?_
  refine go_static B (W := 0) (argsL := [(.ref l1)]) (st := []) d14_23 (w_98 H) (w_99 H) (w_16 H) (w_100 H) (by decide) (rmO12 H l1 h40 (Nat.le_trans Z0 E44.1) (Exa.ext E44 E1)) pd_4 rfl rfl rfl rfl (by decide) (by decide) (by decide) (by decide) ?_
  rintro _ h48 ⟨rfl, rfl⟩
  show Go κ _ h40 _ _ 26 #[.val (.ref a), .val (.ref kd), .val (.ref el), .val (.ref el), .val (.ref l1)] [(.ref l1)]
  refine go_astore B #[.val (.ref a), .val (.ref kd), .val (.ref el), .val (.ref el), .val (.ref l1)] d14_26 rfl rfl ?_
  refine go_aload_n B d14_28 rfl rfl ?_
  refine go_aload_n B d14_29 rfl rfl ?_
  refine go_putfield B (ty := (.object "com/example/baseload/baseload/model/Violation$Kind")) d14_30 (w_117 H) (Fld.ext E44 F0_a) (Exa.ext E44 E_a) (Or.inr ⟨(w_118 H), rfl, rfl⟩) (w_13 H) (by decide) rfl rfl ga ?_
  intro h49 W50
  have f51 : Fld Z h49 a "com/example/baseload/baseload/model/Violation" "kind" "Lcom/example/baseload/baseload/model/Violation$Kind;" (.ref kd) := Fld.same W50 (Fld.ext E44 F0_a)
  refine go_aload_n B d14_33 rfl rfl ?_
  refine go_aload_n B d14_34 rfl rfl ?_
  have f52 : Fld Z h49 a "com/example/baseload/baseload/model/Violation" "ids" "Ljava/util/List;" .null := (Fld.other W50 (Fld.ext E44 F1_a) (Or.inr (slot_ne (t := (.object "java/util/List")) (t' := (.object "com/example/baseload/baseload/model/Violation$Kind")) (Or.inr (w_120 H)) (Or.inr (w_118 H)) (by decide) (by decide) (by decide))))
  refine go_putfield B (ty := (.object "java/util/List")) d14_35 (w_119 H) f52 (Exa.wr W50 (Exa.ext E44 E_a)) (Or.inr ⟨(w_120 H), rfl, rfl⟩) (w_13 H) (by decide) rfl rfl ga ?_
  intro h53 W54
  have f55 : Fld Z h53 a "com/example/baseload/baseload/model/Violation" "ids" "Ljava/util/List;" (.ref el) := Fld.same W54 f52
  refine go_aload_n B d14_38 rfl rfl ?_
  refine go_aload_n B d14_39 rfl rfl ?_
  have f56 : Fld Z h53 a "com/example/baseload/baseload/model/Violation" "counts" "Ljava/util/List;" .null := (Fld.other W54 (Fld.other W50 (Fld.ext E44 F2_a) (Or.inr (slot_ne (t := (.object "java/util/List")) (t' := (.object "com/example/baseload/baseload/model/Violation$Kind")) (Or.inr (w_122 H)) (Or.inr (w_118 H)) (by decide) (by decide) (by decide)))) (Or.inr (slot_ne (t := (.object "java/util/List")) (t' := (.object "java/util/List")) (Or.inr (w_122 H)) (Or.inr (w_120 H)) (by decide) (by decide) (by decide))))
  refine go_putfield B (ty := (.object "java/util/List")) d14_40 (w_121 H) f56 (Exa.wr W54 (Exa.wr W50 (Exa.ext E44 E_a))) (Or.inr ⟨(w_122 H), rfl, rfl⟩) (w_13 H) (by decide) rfl rfl ga ?_
  intro h57 W58
  have f59 : Fld Z h57 a "com/example/baseload/baseload/model/Violation" "counts" "Ljava/util/List;" (.ref el) := Fld.same W58 f56
  refine go_aload_n B d14_43 rfl rfl ?_
  refine go_aload B d14_44 rfl rfl ?_
  have f60 : Fld Z h57 a "com/example/baseload/baseload/model/Violation" "costs" "Ljava/util/List;" .null := (Fld.other W58 (Fld.other W54 (Fld.other W50 (Fld.ext E44 F3_a) (Or.inr (slot_ne (t := (.object "java/util/List")) (t' := (.object "com/example/baseload/baseload/model/Violation$Kind")) (Or.inr (w_124 H)) (Or.inr (w_118 H)) (by decide) (by decide) (by decide)))) (Or.inr (slot_ne (t := (.object "java/util/List")) (t' := (.object "java/util/List")) (Or.inr (w_124 H)) (Or.inr (w_120 H)) (by decide) (by decide) (by decide)))) (Or.inr (slot_ne (t := (.object "java/util/List")) (t' := (.object "java/util/List")) (Or.inr (w_124 H)) (Or.inr (w_122 H)) (by decide) (by decide) (by decide))))
  refine go_putfield B (ty := (.object "java/util/List")) d14_46 (w_123 H) f60 (Exa.wr W58 (Exa.wr W54 (Exa.wr W50 (Exa.ext E44 E_a)))) (Or.inr ⟨(w_124 H), rfl, rfl⟩) (w_13 H) (by decide) rfl rfl ga ?_
  intro h61 W62
  have f63 : Fld Z h61 a "com/example/baseload/baseload/model/Violation" "costs" "Ljava/util/List;" (.ref l1) := Fld.same W62 f60
  have f64 : km42 ≤ h61.size := (Nat.le_trans (Nat.le_trans (Nat.le_trans (Nat.le_trans K43 (Nat.le_of_eq (Wr.size W50).symm)) (Nat.le_of_eq (Wr.size W54).symm)) (Nat.le_of_eq (Wr.size W58).symm)) (Nat.le_of_eq (Wr.size W62).symm))
  refine go_return B d14_49 (by decide) (by decide) ?_ (hkm := f64)
  have f65 : Keep h0 h61 [a] := (Keep.wr (Keep.wr (Keep.wr (Keep.wr (Keep.ext (Keep.refl h0 _) E44) W50 (Or.inl (by simp))) W54 (Or.inl (by simp))) W58 (Or.inl (by simp))) W62 (Or.inl (by simp)))
  have f66 : Exa Z h61 a "com/example/baseload/baseload/model/Violation" := (Exa.wr W62 (Exa.wr W58 (Exa.wr W54 (Exa.wr W50 (Exa.ext E44 E_a)))))
  have f67 : Fld Z h61 a "com/example/baseload/baseload/model/Violation" "kind" "Lcom/example/baseload/baseload/model/Violation$Kind;" (.ref kd) := (Fld.other W62 (Fld.other W58 (Fld.other W54 f51 (Or.inr (slot_ne (t := (.object "com/example/baseload/baseload/model/Violation$Kind")) (t' := (.object "java/util/List")) (Or.inr (w_118 H)) (Or.inr (w_120 H)) (by decide) (by decide) (by decide)))) (Or.inr (slot_ne (t := (.object "com/example/baseload/baseload/model/Violation$Kind")) (t' := (.object "java/util/List")) (Or.inr (w_118 H)) (Or.inr (w_122 H)) (by decide) (by decide) (by decide)))) (Or.inr (slot_ne (t := (.object "com/example/baseload/baseload/model/Violation$Kind")) (t' := (.object "java/util/List")) (Or.inr (w_118 H)) (Or.inr (w_124 H)) (by decide) (by decide) (by decide))))
  have f68 : Fld Z h61 a "com/example/baseload/baseload/model/Violation" "ids" "Ljava/util/List;" (.ref el) := (Fld.other W62 (Fld.other W58 f55 (Or.inr (slot_ne (t := (.object "java/util/List")) (t' := (.object "java/util/List")) (Or.inr (w_120 H)) (Or.inr (w_122 H)) (by decide) (by decide) (by decide)))) (Or.inr (slot_ne (t := (.object "java/util/List")) (t' := (.object "java/util/List")) (Or.inr (w_120 H)) (Or.inr (w_124 H)) (by decide) (by decide) (by decide))))
  have f69 : Fld Z h61 a "com/example/baseload/baseload/model/Violation" "counts" "Ljava/util/List;" (.ref el) := (Fld.other W62 f59 (Or.inr (slot_ne (t := (.object "java/util/List")) (t' := (.object "java/util/List")) (Or.inr (w_122 H)) (Or.inr (w_124 H)) (by decide) (by decide) (by decide))))
  exact ⟨rfl, f65, f66, f67, f68, f69, f63⟩
theorem d2_0 : Dc prog_22_method_10_code 0 (.new 22) 3 3 := ⟨by decide +kernel, rfl⟩
theorem w_12 {a0 : Array Value} {Z : State} (H : Wd a0 Z) : (Jvm.Cond.classLink "com/example/baseload/baseload/model/Violation" (22 : Nat) "com/example/baseload/baseload/model/Violation").before a0 Z = true := H _ (List.mem_of_getElem? (i := 12) rfl)
theorem w_10 {a0 : Array Value} {Z : State} (H : Wd a0 Z) : (Jvm.Cond.initialized "com/example/baseload/baseload/model/Violation").before a0 Z = true := H _ (List.mem_of_getElem? (i := 10) rfl)
theorem d2_3 : Dc prog_22_method_10_code 3 (.dup) 1 4 := ⟨by decide +kernel, rfl⟩
theorem d2_4 : Dc prog_22_method_10_code 4 (.aload_n 0) 1 5 := ⟨by decide +kernel, rfl⟩
theorem d2_5 : Dc prog_22_method_10_code 5 (.invokestatic 45) 3 8 := ⟨by decide +kernel, rfl⟩
theorem w_17 {a0 : Array Value} {Z : State} (H : Wd a0 Z) : (Jvm.Cond.code ({ cls := "java/util/List", name := "of", desc := "()Ljava/util/List;" } : Jvm.MethodName) jdk_40_method_36_code (0 : Nat) (Option.some (Jvm.ClassFile.FieldType.object "java/util/List"))).before a0 Z = true := H _ (List.mem_of_getElem? (i := 17) rfl)
theorem pd_6 : parseMethodDescriptor "()Ljava/util/List;" = some ⟨[], some (.object "java/util/List")⟩ := by decide +kernel
theorem w_14 {a0 : Array Value} {Z : State} (H : Wd a0 Z) : (Jvm.Cond.methodLink "com/example/baseload/baseload/model/Violation" (45 : Nat) ({ cls := "java/util/List", name := "of", desc := "()Ljava/util/List;" } : Jvm.MethodName)).before a0 Z = true := H _ (List.mem_of_getElem? (i := 14) rfl)
theorem w_15 {a0 : Array Value} {Z : State} (H : Wd a0 Z) : (Jvm.Cond.static ({ cls := "java/util/List", name := "of", desc := "()Ljava/util/List;" } : Jvm.MethodName)).before a0 Z = true := H _ (List.mem_of_getElem? (i := 15) rfl)
theorem d2_8 : Dc prog_22_method_10_code 8 (.invokestatic 45) 3 11 := ⟨by decide +kernel, rfl⟩
theorem d2_11 : Dc prog_22_method_10_code 11 (.dload_n 1) 1 12 := ⟨by decide +kernel, rfl⟩
theorem d2_12 : Dc prog_22_method_10_code 12 (.invokestatic 81) 3 15 := ⟨by decide +kernel, rfl⟩
theorem w_23 {a0 : Array Value} {Z : State} (H : Wd a0 Z) : (Jvm.Cond.code ({ cls := "java/lang/Double", name := "valueOf", desc := "(D)Ljava/lang/Double;" } : Jvm.MethodName) jdk_117_method_4_code (2 : Nat) (Option.some (Jvm.ClassFile.FieldType.object "java/lang/Double"))).before a0 Z = true := H _ (List.mem_of_getElem? (i := 23) rfl)
theorem pd_7 : parseMethodDescriptor "(D)Ljava/lang/Double;" = some ⟨[.double], some (.object "java/lang/Double")⟩ := by decide +kernel
theorem w_20 {a0 : Array Value} {Z : State} (H : Wd a0 Z) : (Jvm.Cond.methodLink "com/example/baseload/baseload/model/Violation" (81 : Nat) ({ cls := "java/lang/Double", name := "valueOf", desc := "(D)Ljava/lang/Double;" } : Jvm.MethodName)).before a0 Z = true := H _ (List.mem_of_getElem? (i := 20) rfl)
theorem w_21 {a0 : Array Value} {Z : State} (H : Wd a0 Z) : (Jvm.Cond.static ({ cls := "java/lang/Double", name := "valueOf", desc := "(D)Ljava/lang/Double;" } : Jvm.MethodName)).before a0 Z = true := H _ (List.mem_of_getElem? (i := 21) rfl)
theorem d2_15 : Dc prog_22_method_10_code 15 (.dload_n 3) 1 16 := ⟨by decide +kernel, rfl⟩
theorem d2_16 : Dc prog_22_method_10_code 16 (.invokestatic 81) 3 19 := ⟨by decide +kernel, rfl⟩
theorem d2_19 : Dc prog_22_method_10_code 19 (.invokestatic 63) 3 22 := ⟨by decide +kernel, rfl⟩
theorem w_43 {a0 : Array Value} {Z : State} (H : Wd a0 Z) : (Jvm.Cond.code ({ cls := "java/util/List", name := "of", desc := "(Ljava/lang/Object;Ljava/lang/Object;)Ljava/util/List;" } : Jvm.MethodName) jdk_40_method_38_code (2 : Nat) (Option.some (Jvm.ClassFile.FieldType.object "java/util/List"))).before a0 Z = true := H _ (List.mem_of_getElem? (i := 43) rfl)
theorem pd_8 : parseMethodDescriptor "(Ljava/lang/Object;Ljava/lang/Object;)Ljava/util/List;" = some ⟨[(.object "java/lang/Object"), (.object "java/lang/Object")], some (.object "java/util/List")⟩ := by decide +kernel
theorem w_41 {a0 : Array Value} {Z : State} (H : Wd a0 Z) : (Jvm.Cond.methodLink "com/example/baseload/baseload/model/Violation" (63 : Nat) ({ cls := "java/util/List", name := "of", desc := "(Ljava/lang/Object;Ljava/lang/Object;)Ljava/util/List;" } : Jvm.MethodName)).before a0 Z = true := H _ (List.mem_of_getElem? (i := 41) rfl)
theorem w_42 {a0 : Array Value} {Z : State} (H : Wd a0 Z) : (Jvm.Cond.static ({ cls := "java/util/List", name := "of", desc := "(Ljava/lang/Object;Ljava/lang/Object;)Ljava/util/List;" } : Jvm.MethodName)).before a0 Z = true := H _ (List.mem_of_getElem? (i := 42) rfl)
theorem d2_22 : Dc prog_22_method_10_code 22 (.invokespecial 48) 3 25 := ⟨by decide +kernel, rfl⟩
theorem w_80 {a0 : Array Value} {Z : State} (H : Wd a0 Z) : (Jvm.Cond.code ({ cls := "com/example/baseload/baseload/model/Violation", name := "<init>", desc := "(Lcom/example/baseload/baseload/model/Violation$Kind;Ljava/util/List;Ljava/util/List;Ljava/util/List;)V" } : Jvm.MethodName) prog_22_method_1_code (5 : Nat) (Option.none : Option Jvm.ClassFile.FieldType)).before a0 Z = true := H _ (List.mem_of_getElem? (i := 80) rfl)
theorem pd_9 : parseMethodDescriptor "(Lcom/example/baseload/baseload/model/Violation$Kind;Ljava/util/List;Ljava/util/List;Ljava/util/List;)V" = some ⟨[(.object "com/example/baseload/baseload/model/Violation$Kind"), (.object "java/util/List"), (.object "java/util/List"), (.object "java/util/List")], none⟩ := by decide +kernel
theorem w_78 {a0 : Array Value} {Z : State} (H : Wd a0 Z) : (Jvm.Cond.methodLink "com/example/baseload/baseload/model/Violation" (48 : Nat) ({ cls := "com/example/baseload/baseload/model/Violation", name := "<init>", desc := "(Lcom/example/baseload/baseload/model/Violation$Kind;Ljava/util/List;Ljava/util/List;Ljava/util/List;)V" } : Jvm.MethodName)).before a0 Z = true := H _ (List.mem_of_getElem? (i := 78) rfl)
theorem w_79 {a0 : Array Value} {Z : State} (H : Wd a0 Z) : (Jvm.Cond.instanceMethod ({ cls := "com/example/baseload/baseload/model/Violation", name := "<init>", desc := "(Lcom/example/baseload/baseload/model/Violation$Kind;Ljava/util/List;Ljava/util/List;Ljava/util/List;)V" } : Jvm.MethodName)).before a0 Z = true := H _ (List.mem_of_getElem? (i := 79) rfl)
theorem d2_25 : Dc prog_22_method_10_code 25 (.areturn) 1 26 := ⟨by decide +kernel, rfl⟩
set_option maxRecDepth 65536 in
set_option maxHeartbeats 40000000 in
theorem rmVc {l : Launch} {Z : State} {a0 : Array Value} {n0 : Nat} (H : Wd a0 Z) (kd el : Addr) (x0 x1 : UInt64) (h0 : Heap) (Z0 : n0 ≤ h0.size) (SL : Sta Z h0 "java/util/ImmutableCollections" "EMPTY_LIST" "Ljava/util/ImmutableCollections$ListN;" (.ref el)) (EN : Exa Z h0 el "java/util/ImmutableCollections$ListN") (FN : Fld Z h0 el "java/util/ImmutableCollections$ListN" "allowNulls" "Z" (.int 0)) :
    CtW l Z n0 (⟨"com/example/baseload/baseload/model/Violation", "cost", "(Lcom/example/baseload/baseload/model/Violation$Kind;DD)Lcom/example/baseload/baseload/model/Violation;"⟩ : MethodName) prog_22_method_10_code 5 (some (.object "com/example/baseload/baseload/model/Violation")) [] ({ frames := 6, cells := 6, slots := 28, locals := 81 } : Room) #[(.ref kd), (.double x0), (.double x1)] h0 (fun v h => ∃ a l1 b0 b1, v = some (.ref a) ∧ Keep h0 h [] ∧ h0.size ≤ b1 ∧ Exa Z h a "com/example/baseload/baseload/model/Violation" ∧ Fld Z h a "com/example/baseload/baseload/model/Violation" "kind" "Lcom/example/baseload/baseload/model/Violation$Kind;" (.ref kd) ∧ Fld Z h a "com/example/baseload/baseload/model/Violation" "ids" "Ljava/util/List;" (.ref el) ∧ Fld Z h a "com/example/baseload/baseload/model/Violation" "counts" "Ljava/util/List;" (.ref el) ∧ Fld Z h a "com/example/baseload/baseload/model/Violation" "costs" "Ljava/util/List;" (.ref l1) ∧ Exa Z h l1 "java/util/ImmutableCollections$List12" ∧ Fld Z h l1 "java/util/ImmutableCollections$List12" "e0" "Ljava/lang/Object;" (.ref b0) ∧ Fld Z h l1 "java/util/ImmutableCollections$List12" "e1" "Ljava/lang/Object;" (.ref b1) ∧ Exa Z h b0 "java/lang/Double" ∧ Fld Z h b0 "java/lang/Double" "value" "D" (.double x0) ∧ Exa Z h b1 "java/lang/Double" ∧ Fld Z h b1 "java/lang/Double" "value" "D" (.double x1)) := by
  refine CtW.of (a0 := a0) (L0 := #[.val (.ref kd), .val (.double x0), .second, .val (.double x1), .second]) (plainFor_of_name pn_com_example_baseload_baseload_model_Violation) (fun m => by first | (simp [entryFrame, mkF, argsToLocals, Value.category]; done) | rfl) ?_
  intro κ Wk B0
  have B : Ok κ l Z a0 n0 ({ frames := 6, cells := 6, slots := 28, locals := 81 } : Room) "com/example/baseload/baseload/model/Violation" "cost" prog_22_method_10_code 5 (some (.object "com/example/baseload/baseload/model/Violation")) := B0
  refine go_new B d2_0 (w_12 H) (w_13 H) (w_10 H) (by decide) (by decide) ?_
  intro h70 a71 hba71 Ea71 Aa71 Da71
  have ne_a71_el : a71 ≠ el := Nat.ne_of_gt (Nat.lt_of_lt_of_le (EN).lt (by omega))
  have ge_a71 : n0 ≤ a71 := by have q1 := Z0; omega
  have fr_a71 : h0.size ≤ a71 := by have q1 := (show Keep h0 h0 [] from (Keep.refl h0 _)).1; omega
  refine go_dup B d2_3 rfl ?_
  refine go_aload_n B d2_4 rfl rfl ?_
  refine go_static B (W := 3) (argsL := []) (st := [(.ref kd), (.ref a71), (.ref a71)]) d2_5 (w_14 H) (w_15 H) (w_16 H) (w_17 H) (by decide) (rmL0 H el h70 (Nat.le_trans Z0 Ea71.1) (Sta.ext Ea71 SL)) pd_6 rfl rfl rfl rfl (by decide) (by decide) (by decide) (by decide) ?_
  rintro _ h72 ⟨rfl, rfl⟩
  show Go κ _ h70 _ _ 8 #[.val (.ref kd), .val (.double x0), .second, .val (.double x1), .second] [(.ref el), (.ref kd), (.ref a71), (.ref a71)]
  refine go_static B (W := 4) (argsL := []) (st := [(.ref el), (.ref kd), (.ref a71), (.ref a71)]) d2_8 (w_14 H) (w_15 H) (w_16 H) (w_17 H) (by decide) (rmL0 H el h70 (Nat.le_trans Z0 Ea71.1) (Sta.ext Ea71 SL)) pd_6 rfl rfl rfl rfl (by decide) (by decide) (by decide) (by decide) ?_
  rintro _ h73 ⟨rfl, rfl⟩
  show Go κ _ h70 _ _ 11 #[.val (.ref kd), .val (.double x0), .second, .val (.double x1), .second] [(.ref el), (.ref el), (.ref kd), (.ref a71), (.ref a71)]
  refine go_dload_n B d2_11 rfl ?_
  refine go_static B (W := 5) (argsL := [(.double x0)]) (st := [(.ref el), (.ref el), (.ref kd), (.ref a71), (.ref a71)]) d2_12 (w_20 H) (w_21 H) (w_22 H) (w_23 H) (by decide) (rmDv H x0 h70 (Nat.le_trans Z0 Ea71.1)) pd_7 rfl rfl rfl rfl (by decide) (by decide) (by decide) (by decide) ?_
  rintro _ h79 ⟨b74, rfl, K75, fr76, E77, f78⟩
  have ne_b74_el : b74 ≠ el := Nat.ne_of_gt (Nat.lt_of_lt_of_le ((Exa.ext Ea71 EN)).lt (by omega))
  have ne_b74_a71 : b74 ≠ a71 := Nat.ne_of_gt (Nat.lt_of_lt_of_le (Aa71).lt (by omega))
  have ge_b74 : n0 ≤ b74 := by have q1 := (Nat.le_trans Z0 Ea71.1); omega
  have fr_b74 : h0.size ≤ b74 := by have q1 := (show Keep h0 h70 [] from (Keep.ext (Keep.refl h0 _) Ea71)).1; omega
  show Go κ _ h79 _ _ 15 #[.val (.ref kd), .val (.double x0), .second, .val (.double x1), .second] [(.ref b74), (.ref el), (.ref el), (.ref kd), (.ref a71), (.ref a71)]
  refine go_dload_n B d2_15 rfl ?_
  refine go_static B (W := 6) (argsL := [(.double x1)]) (st := [(.ref b74), (.ref el), (.ref el), (.ref kd), (.ref a71), (.ref a71)]) d2_16 (w_20 H) (w_21 H) (w_22 H) (w_23 H) (by decide) (rmDv H x1 h79 (Nat.le_trans (Nat.le_trans Z0 Ea71.1) K75.1)) pd_7 rfl rfl rfl rfl (by decide) (by decide) (by decide) (by decide) ?_
  rintro _ h85 ⟨b80, rfl, K81, fr82, E83, f84⟩
  have ne_b80_el : b80 ≠ el := Nat.ne_of_gt (Nat.lt_of_lt_of_le ((Exa.keep (Exa.ext Ea71 EN) K75)).lt (by omega))
  have ne_b80_a71 : b80 ≠ a71 := Nat.ne_of_gt (Nat.lt_of_lt_of_le ((Exa.keep Aa71 K75)).lt (by omega))
  have ne_b80_b74 : b80 ≠ b74 := Nat.ne_of_gt (Nat.lt_of_lt_of_le (E77).lt (by omega))
  have ge_b80 : n0 ≤ b80 := by have q1 := (Nat.le_trans (Nat.le_trans Z0 Ea71.1) K75.1); omega
  have fr_b80 : h0.size ≤ b80 := by have q1 := (show Keep h0 h79 [] from (Keep.trans (Keep.ext (Keep.refl h0 _) Ea71) K75 all0)).1; omega
  show Go κ _ h85 _ _ 19 #[.val (.ref kd), .val (.double x0), .second, .val (.double x1), .second] [(.ref b80), (.ref b74), (.ref el), (.ref el), (.ref kd), (.ref a71), (.ref a71)]
  have f92 : n0 ≤ h85.size := (Nat.le_trans (Nat.le_trans (Nat.le_trans Z0 Ea71.1) K75.1) K81.1)
  refine go_static B (W := 5) (argsL := [(.ref b74), (.ref b80)]) (st := [(.ref el), (.ref el), (.ref kd), (.ref a71), (.ref a71)]) d2_19 (w_41 H) (w_42 H) (w_16 H) (w_43 H) (by decide) (rmL2 H b74 b80 h85 f92) pd_8 rfl rfl rfl rfl (by decide) (by decide) (by decide) (by decide) ?_
  rintro _ h93 ⟨b86, rfl, K87, fr88, E89, f90, f91⟩
  have ne_b86_el : b86 ≠ el := Nat.ne_of_gt (Nat.lt_of_lt_of_le ((Exa.keep (Exa.keep (Exa.ext Ea71 EN) K75) K81)).lt (by omega))
  have ne_b86_a71 : b86 ≠ a71 := Nat.ne_of_gt (Nat.lt_of_lt_of_le ((Exa.keep (Exa.keep Aa71 K75) K81)).lt (by omega))
  have ne_b86_b74 : b86 ≠ b74 := Nat.ne_of_gt (Nat.lt_of_lt_of_le ((Exa.keep E77 K81)).lt (by omega))
  have ne_b86_b80 : b86 ≠ b80 := Nat.ne_of_gt (Nat.lt_of_lt_of_le (E83).lt (by omega))
  have ge_b86 : n0 ≤ b86 := by have q1 := f92; omega
  have f94 : Keep h0 h85 [] := (Keep.trans (Keep.trans (Keep.ext (Keep.refl h0 _) Ea71) K75 all0) K81 all0)
  have fr_b86 : h0.size ≤ b86 := by have q1 := (show Keep h0 h85 [] from f94).1; omega
  show Go κ _ h93 _ _ 22 #[.val (.ref kd), .val (.double x0), .second, .val (.double x1), .second] [(.ref b86), (.ref el), (.ref el), (.ref kd), (.ref a71), (.ref a71)]
  have f101 : Fld Z h93 a71 "com/example/baseload/baseload/model/Violation" "kind" "Lcom/example/baseload/baseload/model/Violation$Kind;" .null := (Fld.keep (Fld.keep (Fld.keep (Da71 (Or.inr (w_118 H)) (ty := (.object "com/example/baseload/baseload/model/Violation$Kind")) (by decide)) K75 nin0) K81 nin0) K87 nin0)
  have f102 : Fld Z h93 a71 "com/example/baseload/baseload/model/Violation" "ids" "Ljava/util/List;" .null := (Fld.keep (Fld.keep (Fld.keep (Da71 (Or.inr (w_120 H)) (ty := (.object "java/util/List")) (by decide)) K75 nin0) K81 nin0) K87 nin0)
  have f103 : Fld Z h93 a71 "com/example/baseload/baseload/model/Violation" "counts" "Ljava/util/List;" .null := (Fld.keep (Fld.keep (Fld.keep (Da71 (Or.inr (w_122 H)) (ty := (.object "java/util/List")) (by decide)) K75 nin0) K81 nin0) K87 nin0)
  have f104 : Fld Z h93 a71 "com/example/baseload/baseload/model/Violation" "costs" "Ljava/util/List;" .null := (Fld.keep (Fld.keep (Fld.keep (Da71 (Or.inr (w_124 H)) (ty := (.object "java/util/List")) (by decide)) K75 nin0) K81 nin0) K87 nin0)
  have f105 : Exa Z h93 el "java/util/ImmutableCollections$ListN" := (Exa.keep (Exa.keep (Exa.keep (Exa.ext Ea71 EN) K75) K81) K87)
  have f106 : Fld Z h93 el "java/util/ImmutableCollections$ListN" "allowNulls" "Z" (.int (0 : Int32)) := (Fld.keep (Fld.keep (Fld.keep (Fld.ext Ea71 FN) K75 nin0) K81 nin0) K87 nin0)
  have f107 : 0 ≤ h93.size := (Nat.le_trans (Nat.le_trans (Nat.le_trans (Nat.le_trans (Nat.zero_le _) Ea71.1) K75.1) K81.1) K87.1)
  refine go_specialW B Wk f107 (W' := 1) (a := a71) (argsL := [(.ref kd), (.ref el), (.ref el), (.ref b86)]) (st := [(.ref a71)]) d2_22 rfl (w_78 H) (w_79 H) (w_10 H) (w_80 H) (by decide) (rmVi H a71 kd el b86 h93 (Nat.le_trans f92 K87.1) ge_a71 (Exa.keep (Exa.keep (Exa.keep Aa71 K75) K81) K87) f101 f102 f103 f104 f105 f106 E89) pd_9 rfl rfl rfl rfl (by decide) (by decide) (by decide) (by decide) ?_
  rintro κ km109 _ h108 Wk B K110 ⟨rfl, K95, E96, f97, f98, f99, f100⟩
  show Go κ _ h108 _ _ 25 #[.val (.ref kd), .val (.double x0), .second, .val (.double x1), .second] [(.ref a71)]
  refine go_areturn B d2_25 rfl rfl rfl (by decide) (by decide) ?_ (hkm := K110)
  have f111 : Keep h0 h108 [] := (Keep.trans (Keep.trans f94 K87 all0) K95 (allS (Or.inr fr_a71) all0))
  have f112 : Fld Z h108 b74 "java/lang/Double" "value" "D" (.double x0) := (Fld.keep (Fld.keep (Fld.keep f78 K81 nin0) K87 nin0) K95 (ninS ne_b74_a71 nin0))
  have f113 : Fld Z h108 b80 "java/lang/Double" "value" "D" (.double x1) := (Fld.keep (Fld.keep f84 K87 nin0) K95 (ninS ne_b80_a71 nin0))
  exact ⟨a71, b86, b74, b80, rfl, f111, fr_b80, E96, f97, f98, f99, f100, (Exa.keep E89 K95), (Fld.keep f90 K95 (ninS ne_b86_a71 nin0)), (Fld.keep f91 K95 (ninS ne_b86_a71 nin0)), (Exa.keep (Exa.keep (Exa.keep E77 K81) K87) K95), f112, (Exa.keep (Exa.keep E83 K87) K95), f113⟩
theorem d19_0 : Dc prog_22_method_14_code 0 (.aload_n 0) 1 1 := ⟨by decide +kernel, rfl⟩
theorem d19_1 : Dc prog_22_method_14_code 1 (.getfield 21) 3 4 := ⟨by decide +kernel, rfl⟩
theorem d19_4 : Dc prog_22_method_14_code 4 (.areturn) 1 5 := ⟨by decide +kernel, rfl⟩
set_option maxRecDepth 65536 in
set_option maxHeartbeats 40000000 in
theorem rm_kind {l : Launch} {Z : State} {a0 : Array Value} {n0 : Nat} (H : Wd a0 Z) (a b : Addr) (h0 : Heap) (Z0 : n0 ≤ h0.size) (F0 : Fld Z h0 a "com/example/baseload/baseload/model/Violation" "kind" "Lcom/example/baseload/baseload/model/Violation$Kind;" (.ref b)) :
    Ct l Z n0 (⟨"com/example/baseload/baseload/model/Violation", "kind", "()Lcom/example/baseload/baseload/model/Violation$Kind;"⟩ : MethodName) prog_22_method_14_code 1 (some (.object "com/example/baseload/baseload/model/Violation$Kind")) [] ({ frames := 0, cells := 0, slots := 0, locals := 0 } : Room) #[(.ref a)] h0 (fun v h => v = some (.ref b) ∧ h0 = h) := by
  refine Ct.of (a0 := a0) (L0 := #[.val (.ref a)]) (plainFor_of_name pn_com_example_baseload_baseload_model_Violation) (fun m => by first | (simp [entryFrame, mkF, argsToLocals, Value.category]; done) | rfl) ?_
  intro κ B0
  have B : Ok κ l Z a0 n0 ({ frames := 0, cells := 0, slots := 0, locals := 0 } : Room) "com/example/baseload/baseload/model/Violation" "kind" prog_22_method_14_code 1 (some (.object "com/example/baseload/baseload/model/Violation$Kind")) := B0
  refine go_aload_n B d19_0 rfl rfl ?_
  refine go_getfield B d19_1 (w_117 H) F0 ?_
  refine go_areturn B d19_4 rfl rfl rfl (by decide) (by decide) ?_
  exact ⟨rfl, rfl⟩
theorem d20_0 : Dc prog_22_method_15_code 0 (.aload_n 0) 1 1 := ⟨by decide +kernel, rfl⟩
theorem d20_1 : Dc prog_22_method_15_code 1 (.getfield 26) 3 4 := ⟨by decide +kernel, rfl⟩
theorem d20_4 : Dc prog_22_method_15_code 4 (.areturn) 1 5 := ⟨by decide +kernel, rfl⟩
set_option maxRecDepth 65536 in
set_option maxHeartbeats 40000000 in
theorem rm_ids {l : Launch} {Z : State} {a0 : Array Value} {n0 : Nat} (H : Wd a0 Z) (a b : Addr) (h0 : Heap) (Z0 : n0 ≤ h0.size) (F0 : Fld Z h0 a "com/example/baseload/baseload/model/Violation" "ids" "Ljava/util/List;" (.ref b)) :
    Ct l Z n0 (⟨"com/example/baseload/baseload/model/Violation", "ids", "()Ljava/util/List;"⟩ : MethodName) prog_22_method_15_code 1 (some (.object "java/util/List")) [] ({ frames := 0, cells := 0, slots := 0, locals := 0 } : Room) #[(.ref a)] h0 (fun v h => v = some (.ref b) ∧ h0 = h) := by
  refine Ct.of (a0 := a0) (L0 := #[.val (.ref a)]) (plainFor_of_name pn_com_example_baseload_baseload_model_Violation) (fun m => by first | (simp [entryFrame, mkF, argsToLocals, Value.category]; done) | rfl) ?_
  intro κ B0
  have B : Ok κ l Z a0 n0 ({ frames := 0, cells := 0, slots := 0, locals := 0 } : Room) "com/example/baseload/baseload/model/Violation" "ids" prog_22_method_15_code 1 (some (.object "java/util/List")) := B0
  refine go_aload_n B d20_0 rfl rfl ?_
  refine go_getfield B d20_1 (w_119 H) F0 ?_
  refine go_areturn B d20_4 rfl rfl rfl (by decide) (by decide) ?_
  exact ⟨rfl, rfl⟩
theorem d22_0 : Dc prog_22_method_16_code 0 (.aload_n 0) 1 1 := ⟨by decide +kernel, rfl⟩
theorem d22_1 : Dc prog_22_method_16_code 1 (.getfield 30) 3 4 := ⟨by decide +kernel, rfl⟩
theorem d22_4 : Dc prog_22_method_16_code 4 (.areturn) 1 5 := ⟨by decide +kernel, rfl⟩
set_option maxRecDepth 65536 in
set_option maxHeartbeats 40000000 in
theorem rm_counts {l : Launch} {Z : State} {a0 : Array Value} {n0 : Nat} (H : Wd a0 Z) (a b : Addr) (h0 : Heap) (Z0 : n0 ≤ h0.size) (F0 : Fld Z h0 a "com/example/baseload/baseload/model/Violation" "counts" "Ljava/util/List;" (.ref b)) :
    Ct l Z n0 (⟨"com/example/baseload/baseload/model/Violation", "counts", "()Ljava/util/List;"⟩ : MethodName) prog_22_method_16_code 1 (some (.object "java/util/List")) [] ({ frames := 0, cells := 0, slots := 0, locals := 0 } : Room) #[(.ref a)] h0 (fun v h => v = some (.ref b) ∧ h0 = h) := by
  refine Ct.of (a0 := a0) (L0 := #[.val (.ref a)]) (plainFor_of_name pn_com_example_baseload_baseload_model_Violation) (fun m => by first | (simp [entryFrame, mkF, argsToLocals, Value.category]; done) | rfl) ?_
  intro κ B0
  have B : Ok κ l Z a0 n0 ({ frames := 0, cells := 0, slots := 0, locals := 0 } : Room) "com/example/baseload/baseload/model/Violation" "counts" prog_22_method_16_code 1 (some (.object "java/util/List")) := B0
  refine go_aload_n B d22_0 rfl rfl ?_
  refine go_getfield B d22_1 (w_121 H) F0 ?_
  refine go_areturn B d22_4 rfl rfl rfl (by decide) (by decide) ?_
  exact ⟨rfl, rfl⟩
theorem d23_0 : Dc prog_22_method_17_code 0 (.aload_n 0) 1 1 := ⟨by decide +kernel, rfl⟩
theorem d23_1 : Dc prog_22_method_17_code 1 (.getfield 33) 3 4 := ⟨by decide +kernel, rfl⟩
theorem d23_4 : Dc prog_22_method_17_code 4 (.areturn) 1 5 := ⟨by decide +kernel, rfl⟩
set_option maxRecDepth 65536 in
set_option maxHeartbeats 40000000 in
theorem rm_costs {l : Launch} {Z : State} {a0 : Array Value} {n0 : Nat} (H : Wd a0 Z) (a b : Addr) (h0 : Heap) (Z0 : n0 ≤ h0.size) (F0 : Fld Z h0 a "com/example/baseload/baseload/model/Violation" "costs" "Ljava/util/List;" (.ref b)) :
    Ct l Z n0 (⟨"com/example/baseload/baseload/model/Violation", "costs", "()Ljava/util/List;"⟩ : MethodName) prog_22_method_17_code 1 (some (.object "java/util/List")) [] ({ frames := 0, cells := 0, slots := 0, locals := 0 } : Room) #[(.ref a)] h0 (fun v h => v = some (.ref b) ∧ h0 = h) := by
  refine Ct.of (a0 := a0) (L0 := #[.val (.ref a)]) (plainFor_of_name pn_com_example_baseload_baseload_model_Violation) (fun m => by first | (simp [entryFrame, mkF, argsToLocals, Value.category]; done) | rfl) ?_
  intro κ B0
  have B : Ok κ l Z a0 n0 ({ frames := 0, cells := 0, slots := 0, locals := 0 } : Room) "com/example/baseload/baseload/model/Violation" "costs" prog_22_method_17_code 1 (some (.object "java/util/List")) := B0
  refine go_aload_n B d23_0 rfl rfl ?_
  refine go_getfield B d23_1 (w_123 H) F0 ?_
  refine go_areturn B d23_4 rfl rfl rfl (by decide) (by decide) ?_
  exact ⟨rfl, rfl⟩
theorem d26_0 : Dc jdk_117_method_19_code 0 (.aload_n 0) 1 1 := ⟨by decide +kernel, rfl⟩
theorem d26_1 : Dc jdk_117_method_19_code 1 (.getfield 118) 3 4 := ⟨by decide +kernel, rfl⟩
theorem d26_4 : Dc jdk_117_method_19_code 4 (.dreturn) 1 5 := ⟨by decide +kernel, rfl⟩
set_option maxRecDepth 65536 in
set_option maxHeartbeats 40000000 in
theorem rmDo {l : Launch} {Z : State} {a0 : Array Value} {n0 : Nat} (H : Wd a0 Z) (a : Addr) (d : UInt64) (h0 : Heap) (Z0 : n0 ≤ h0.size) (F0 : Fld Z h0 a "java/lang/Double" "value" "D" (.double d)) :
    Ct l Z n0 (⟨"java/lang/Double", "doubleValue", "()D"⟩ : MethodName) jdk_117_method_19_code 1 (some .double) [] ({ frames := 0, cells := 0, slots := 0, locals := 0 } : Room) #[(.ref a)] h0 (fun v h => v = some (.double d) ∧ h0 = h) := by
  refine Ct.of (a0 := a0) (L0 := #[.val (.ref a)]) (plainFor_of_name pn_java_lang_Double) (fun m => by first | (simp [entryFrame, mkF, argsToLocals, Value.category]; done) | rfl) ?_
  intro κ B0
  have B : Ok κ l Z a0 n0 ({ frames := 0, cells := 0, slots := 0, locals := 0 } : Room) "java/lang/Double" "doubleValue" jdk_117_method_19_code 1 (some .double) := B0
  refine go_aload_n B d26_0 rfl rfl ?_
  refine go_getfield B d26_1 (w_39 H) F0 ?_
  refine go_dreturn B d26_4 (by decide) (by decide) ?_
  exact ⟨rfl, rfl⟩
theorem d24_0 : Dc jdk_44_method_3_code 0 (.aload_n 0) 1 1 := ⟨by decide +kernel, rfl⟩
theorem d24_1 : Dc jdk_44_method_3_code 1 (.getfield 24) 3 4 := ⟨by decide +kernel, rfl⟩
theorem d24_4 : Dc jdk_44_method_3_code 4 (.getstatic 19) 3 7 := ⟨by decide +kernel, rfl⟩
theorem w_164 {a0 : Array Value} {Z : State} (H : Wd a0 Z) : (Jvm.Cond.fieldLinkNest "java/util/ImmutableCollections$List12" (19 : Nat) "java/util/ImmutableCollections" "EMPTY" "Ljava/lang/Object;" "java/util/ImmutableCollections").before a0 Z = true := H _ (List.mem_of_getElem? (i := 164) rfl)
theorem d24_7 : Db jdk_44_method_3_code 7 (.if_acmp .eq 7) 7 10 14 := ⟨by decide +kernel, rfl, rfl⟩
theorem d24_10 : Dc jdk_44_method_3_code 10 (.iconst 2) 1 11 := ⟨by decide +kernel, rfl⟩
theorem d24_11 : Db jdk_44_method_3_code 11 (.goto 4) 4 14 15 := ⟨by decide +kernel, rfl, rfl⟩
theorem d24_15 : Dc jdk_44_method_3_code 15 (.ireturn) 1 16 := ⟨by decide +kernel, rfl⟩
set_option maxRecDepth 65536 in
set_option maxHeartbeats 40000000 in
theorem rmSz {l : Launch} {Z : State} {a0 : Array Value} {n0 : Nat} (H : Wd a0 Z) (a b c em : Addr) (h0 : Heap) (Z0 : n0 ≤ h0.size) (F0 : Fld Z h0 a "java/util/ImmutableCollections$List12" "e0" "Ljava/lang/Object;" (.ref b)) (F1 : Fld Z h0 a "java/util/ImmutableCollections$List12" "e1" "Ljava/lang/Object;" (.ref c)) (SM : Sta Z h0 "java/util/ImmutableCollections" "EMPTY" "Ljava/lang/Object;" (.ref em)) (n1 : c ≠ em) :
    Ct l Z n0 (⟨"java/util/ImmutableCollections$List12", "size", "()I"⟩ : MethodName) jdk_44_method_3_code 1 (some .int) [] ({ frames := 0, cells := 0, slots := 0, locals := 0 } : Room) #[(.ref a)] h0 (fun v h => v = some (.int 2) ∧ h0 = h) := by
  refine Ct.of (a0 := a0) (L0 := #[.val (.ref a)]) (plainFor_of_name pn_java_util_ImmutableCollections_List12) (fun m => by first | (simp [entryFrame, mkF, argsToLocals, Value.category]; done) | rfl) ?_
  intro κ B0
  have B : Ok κ l Z a0 n0 ({ frames := 0, cells := 0, slots := 0, locals := 0 } : Room) "java/util/ImmutableCollections$List12" "size" jdk_44_method_3_code 1 (some .int) := B0
  refine go_aload_n B d24_0 rfl rfl ?_
  refine go_getfield B d24_1 (w_76 H) F1 ?_
  refine go_getstaticN B d24_4 (w_164 H) SM ?_
  refine go_acmpeq B d24_7 rfl rfl (fun c7 => ?_) (fun c7 => ?_)
  · exact absurd (Value.ref.inj c7) n1
  refine go_iconst B (x := (2 : Int32)) d24_10 rfl ?_
  refine go_goto B d24_11 ?_
  refine go_ireturn B d24_15 (by decide) (by decide) ?_
  exact ⟨rfl, rfl⟩
theorem d25_0 : Dc jdk_44_method_5_code 0 (.iload_n 1) 1 1 := ⟨by decide +kernel, rfl⟩
theorem d25_1 : Db jdk_44_method_5_code 1 (.ifCond .ne 8) 8 4 9 := ⟨by decide +kernel, rfl, rfl⟩
theorem d25_4 : Dc jdk_44_method_5_code 4 (.aload_n 0) 1 5 := ⟨by decide +kernel, rfl⟩
theorem d25_5 : Dc jdk_44_method_5_code 5 (.getfield 13) 3 8 := ⟨by decide +kernel, rfl⟩
theorem d25_8 : Dc jdk_44_method_5_code 8 (.areturn) 1 9 := ⟨by decide +kernel, rfl⟩
set_option maxRecDepth 65536 in
set_option maxHeartbeats 40000000 in
theorem rmG0 {l : Launch} {Z : State} {a0 : Array Value} {n0 : Nat} (H : Wd a0 Z) (a b c em : Addr) (h0 : Heap) (Z0 : n0 ≤ h0.size) (F0 : Fld Z h0 a "java/util/ImmutableCollections$List12" "e0" "Ljava/lang/Object;" (.ref b)) (F1 : Fld Z h0 a "java/util/ImmutableCollections$List12" "e1" "Ljava/lang/Object;" (.ref c)) (SM : Sta Z h0 "java/util/ImmutableCollections" "EMPTY" "Ljava/lang/Object;" (.ref em)) (n1 : c ≠ em) :
    Ct l Z n0 (⟨"java/util/ImmutableCollections$List12", "get", "(I)Ljava/lang/Object;"⟩ : MethodName) jdk_44_method_5_code 2 (some (.object "java/lang/Object")) [] ({ frames := 0, cells := 0, slots := 0, locals := 0 } : Room) #[(.ref a), (.int (0 : Int32))] h0 (fun v h => v = some (.ref b) ∧ h0 = h) := by
  refine Ct.of (a0 := a0) (L0 := #[.val (.ref a), .val (.int (0 : Int32))]) (plainFor_of_name pn_java_util_ImmutableCollections_List12) (fun m => by first | (simp [entryFrame, mkF, argsToLocals, Value.category]; done) | rfl) ?_
  intro κ B0
  have B : Ok κ l Z a0 n0 ({ frames := 0, cells := 0, slots := 0, locals := 0 } : Room) "java/util/ImmutableCollections$List12" "get" jdk_44_method_5_code 2 (some (.object "java/lang/Object")) := B0
  refine go_iload_n B d25_0 rfl ?_
  refine go_ifne B d25_1 (fun c1 => ?_) (fun c1 => ?_)
  · exact absurd c1 (by decide)
  refine go_aload_n B d25_4 rfl rfl ?_
  refine go_getfield B d25_5 (w_74 H) F0 ?_
  refine go_areturn B d25_8 rfl rfl rfl (by decide) (by decide) ?_
  exact ⟨rfl, rfl⟩
theorem d25_9 : Dc jdk_44_method_5_code 9 (.iload_n 1) 1 10 := ⟨by decide +kernel, rfl⟩
theorem d25_10 : Dc jdk_44_method_5_code 10 (.iconst 1) 1 11 := ⟨by decide +kernel, rfl⟩
theorem d25_11 : Db jdk_44_method_5_code 11 (.if_icmp .ne 18) 18 14 29 := ⟨by decide +kernel, rfl, rfl⟩
theorem d25_14 : Dc jdk_44_method_5_code 14 (.aload_n 0) 1 15 := ⟨by decide +kernel, rfl⟩
theorem d25_15 : Dc jdk_44_method_5_code 15 (.getfield 24) 3 18 := ⟨by decide +kernel, rfl⟩
theorem d25_18 : Dc jdk_44_method_5_code 18 (.getstatic 19) 3 21 := ⟨by decide +kernel, rfl⟩
theorem d25_21 : Db jdk_44_method_5_code 21 (.if_acmp .eq 8) 8 24 29 := ⟨by decide +kernel, rfl, rfl⟩
theorem d25_24 : Dc jdk_44_method_5_code 24 (.aload_n 0) 1 25 := ⟨by decide +kernel, rfl⟩
theorem d25_25 : Dc jdk_44_method_5_code 25 (.getfield 24) 3 28 := ⟨by decide +kernel, rfl⟩
theorem d25_28 : Dc jdk_44_method_5_code 28 (.areturn) 1 29 := ⟨by decide +kernel, rfl⟩
set_option maxRecDepth 65536 in
set_option maxHeartbeats 40000000 in
theorem rmG1 {l : Launch} {Z : State} {a0 : Array Value} {n0 : Nat} (H : Wd a0 Z) (a b c em : Addr) (h0 : Heap) (Z0 : n0 ≤ h0.size) (F0 : Fld Z h0 a "java/util/ImmutableCollections$List12" "e0" "Ljava/lang/Object;" (.ref b)) (F1 : Fld Z h0 a "java/util/ImmutableCollections$List12" "e1" "Ljava/lang/Object;" (.ref c)) (SM : Sta Z h0 "java/util/ImmutableCollections" "EMPTY" "Ljava/lang/Object;" (.ref em)) (n1 : c ≠ em) :
    Ct l Z n0 (⟨"java/util/ImmutableCollections$List12", "get", "(I)Ljava/lang/Object;"⟩ : MethodName) jdk_44_method_5_code 2 (some (.object "java/lang/Object")) [] ({ frames := 0, cells := 0, slots := 0, locals := 0 } : Room) #[(.ref a), (.int (1 : Int32))] h0 (fun v h => v = some (.ref c) ∧ h0 = h) := by
  refine Ct.of (a0 := a0) (L0 := #[.val (.ref a), .val (.int (1 : Int32))]) (plainFor_of_name pn_java_util_ImmutableCollections_List12) (fun m => by first | (simp [entryFrame, mkF, argsToLocals, Value.category]; done) | rfl) ?_
  intro κ B0
  have B : Ok κ l Z a0 n0 ({ frames := 0, cells := 0, slots := 0, locals := 0 } : Room) "java/util/ImmutableCollections$List12" "get" jdk_44_method_5_code 2 (some (.object "java/lang/Object")) := B0
  refine go_iload_n B d25_0 rfl ?_
  refine go_ifne B d25_1 (fun c1 => ?_) (fun c1 => ?_)
  rotate_left
  · exact absurd c1 (by decide)
  refine go_iload_n B d25_9 rfl ?_
  refine go_iconst B (x := (1 : Int32)) d25_10 rfl ?_
  refine go_icmpne B d25_11 (fun c11 => ?_) (fun c11 => ?_)
  · exact absurd c11 (by decide)
  refine go_aload_n B d25_14 rfl rfl ?_
  refine go_getfield B d25_15 (w_76 H) F1 ?_
  refine go_getstaticN B d25_18 (w_164 H) SM ?_
  refine go_acmpeq B d25_21 rfl rfl (fun c21 => ?_) (fun c21 => ?_)
  · exact absurd (Value.ref.inj c21) n1
  refine go_aload_n B d25_24 rfl rfl ?_
  refine go_getfield B d25_25 (w_76 H) F1 ?_
  refine go_areturn B d25_28 rfl rfl rfl (by decide) (by decide) ?_
  exact ⟨rfl, rfl⟩
theorem pn_java_util_ImmutableCollections_ListN : plainName "java/util/ImmutableCollections$ListN" = true := by first | (simp [plainName, overriddenIn]; done) | decide +kernel
theorem d21_0 : Dc jdk_45_method_2_code 0 (.aload_n 0) 1 1 := ⟨by decide +kernel, rfl⟩
theorem d21_1 : Dc jdk_45_method_2_code 1 (.getfield 7) 3 4 := ⟨by decide +kernel, rfl⟩
theorem w_144 {a0 : Array Value} {Z : State} (H : Wd a0 Z) : (Jvm.Cond.fieldLink "java/util/ImmutableCollections$ListN" (7 : Nat) "java/util/ImmutableCollections$ListN" "elements" "[Ljava/lang/Object;").before a0 Z = true := H _ (List.mem_of_getElem? (i := 144) rfl)
theorem d21_4 : Dc jdk_45_method_2_code 4 (.arraylength) 1 5 := ⟨by decide +kernel, rfl⟩
theorem d21_5 : Db jdk_45_method_2_code 5 (.ifCond .ne 7) 7 8 12 := ⟨by decide +kernel, rfl, rfl⟩
theorem d21_8 : Dc jdk_45_method_2_code 8 (.iconst 1) 1 9 := ⟨by decide +kernel, rfl⟩
theorem d21_9 : Db jdk_45_method_2_code 9 (.goto 4) 4 12 13 := ⟨by decide +kernel, rfl, rfl⟩
theorem d21_13 : Dc jdk_45_method_2_code 13 (.ireturn) 1 14 := ⟨by decide +kernel, rfl⟩
set_option maxRecDepth 65536 in
set_option maxHeartbeats 40000000 in
theorem rmIe {l : Launch} {Z : State} {a0 : Array Value} {n0 : Nat} (H : Wd a0 Z) (a e : Addr) (h0 : Heap) (Z0 : n0 ≤ h0.size) (F0 : Fld Z h0 a "java/util/ImmutableCollections$ListN" "elements" "[Ljava/lang/Object;" (.ref e)) (A0 : AV Z h0 e (.object "java/lang/Object") []) :
    Ct l Z n0 (⟨"java/util/ImmutableCollections$ListN", "isEmpty", "()Z"⟩ : MethodName) jdk_45_method_2_code 1 (some .boolean) [] ({ frames := 0, cells := 0, slots := 0, locals := 0 } : Room) #[(.ref a)] h0 (fun v h => v = some (.int 1) ∧ h0 = h) := by
  refine Ct.of (a0 := a0) (L0 := #[.val (.ref a)]) (plainFor_of_name pn_java_util_ImmutableCollections_ListN) (fun m => by first | (simp [entryFrame, mkF, argsToLocals, Value.category]; done) | rfl) ?_
  intro κ B0
  have B : Ok κ l Z a0 n0 ({ frames := 0, cells := 0, slots := 0, locals := 0 } : Room) "java/util/ImmutableCollections$ListN" "isEmpty" jdk_45_method_2_code 1 (some .boolean) := B0
  refine go_aload_n B d21_0 rfl rfl ?_
  refine go_getfield B d21_1 (w_144 H) F0 ?_
  refine go_arraylength B (x := (0 : Int32)) d21_4 A0 rfl ?_
  refine go_ifne B d21_5 (fun c5 => ?_) (fun c5 => ?_)
  · exact absurd c5 (by decide)
  refine go_iconst B (x := (1 : Int32)) d21_8 rfl ?_
  refine go_goto B d21_9 ?_
  refine go_zreturn B (y := (1 : Int32)) d21_13 (by decide) (by decide) (by decide) ?_
  exact ⟨rfl, rfl⟩
theorem pn_com_example_baseload_baseload_model_ViolationCostPinLaw : plainName "com/example/baseload/baseload/model/ViolationCostPinLaw" = true := by first | (simp [plainName, overriddenIn]; done) | decide +kernel
theorem d1_0 : Dc method_2_code 0 (.iload_n 0) 1 1 := ⟨by decide +kernel, rfl⟩
theorem d1_1 : Dc method_2_code 1 (.ldc 7) 2 3 := ⟨by decide +kernel, rfl⟩
theorem w_4 {a0 : Array Value} {Z : State} (H : Wd a0 Z) : (Jvm.Cond.constant "com/example/baseload/baseload/model/ViolationCostPinLaw" (7 : Nat) (2147483647 : Int32)).before a0 Z = true := H _ (List.mem_of_getElem? (i := 4) rfl)
theorem d1_3 : Dc method_2_code 3 (.iand) 1 4 := ⟨by decide +kernel, rfl⟩
theorem d1_4 : Dc method_2_code 4 (.iconst 3) 1 5 := ⟨by decide +kernel, rfl⟩
theorem d1_5 : Dc method_2_code 5 (.irem) 1 6 := ⟨by decide +kernel, rfl⟩
theorem d1_6 : Dc method_2_code 6 (.istore_n 1) 1 7 := ⟨by decide +kernel, rfl⟩
theorem d1_7 : Dc method_2_code 7 (.iload_n 1) 1 8 := ⟨by decide +kernel, rfl⟩
theorem d1_8 : Db method_2_code 8 (.ifCond .ne 7) 7 11 15 := ⟨by decide +kernel, rfl, rfl⟩
theorem d1_15 : Dc method_2_code 15 (.iload_n 1) 1 16 := ⟨by decide +kernel, rfl⟩
theorem d1_16 : Dc method_2_code 16 (.iconst 1) 1 17 := ⟨by decide +kernel, rfl⟩
theorem d1_17 : Db method_2_code 17 (.if_icmp .ne 7) 7 20 24 := ⟨by decide +kernel, rfl, rfl⟩
theorem d1_24 : Dc method_2_code 24 (.getstatic 17) 3 27 := ⟨by decide +kernel, rfl⟩
theorem w_181 {a0 : Array Value} {Z : State} (H : Wd a0 Z) : (Jvm.Cond.fieldLink "com/example/baseload/baseload/model/ViolationCostPinLaw" (17 : Nat) "com/example/baseload/baseload/model/Violation$Kind" "CONNECTION" "Lcom/example/baseload/baseload/model/Violation$Kind;").before a0 Z = true := H _ (List.mem_of_getElem? (i := 181) rfl)
theorem d1_27 : Dc method_2_code 27 (.areturn) 1 28 := ⟨by decide +kernel, rfl⟩
theorem d1_20 : Dc method_2_code 20 (.getstatic 14) 3 23 := ⟨by decide +kernel, rfl⟩
theorem w_179 {a0 : Array Value} {Z : State} (H : Wd a0 Z) : (Jvm.Cond.fieldLink "com/example/baseload/baseload/model/ViolationCostPinLaw" (14 : Nat) "com/example/baseload/baseload/model/Violation$Kind" "OPENING" "Lcom/example/baseload/baseload/model/Violation$Kind;").before a0 Z = true := H _ (List.mem_of_getElem? (i := 179) rfl)
theorem d1_23 : Dc method_2_code 23 (.areturn) 1 24 := ⟨by decide +kernel, rfl⟩
theorem d1_11 : Dc method_2_code 11 (.getstatic 8) 3 14 := ⟨by decide +kernel, rfl⟩
theorem w_5 {a0 : Array Value} {Z : State} (H : Wd a0 Z) : (Jvm.Cond.fieldLink "com/example/baseload/baseload/model/ViolationCostPinLaw" (8 : Nat) "com/example/baseload/baseload/model/Violation$Kind" "COST" "Lcom/example/baseload/baseload/model/Violation$Kind;").before a0 Z = true := H _ (List.mem_of_getElem? (i := 5) rfl)
theorem d1_14 : Dc method_2_code 14 (.areturn) 1 15 := ⟨by decide +kernel, rfl⟩
set_option maxRecDepth 65536 in
set_option maxHeartbeats 40000000 in
theorem rmP {l : Launch} {Z : State} {a0 : Array Value} {n0 : Nat} (H : Wd a0 Z) (x : Int32) (k0 k1 k2 : Addr) (h0 : Heap) (Z0 : n0 ≤ h0.size) (S0 : Sta Z h0 "com/example/baseload/baseload/model/Violation$Kind" "COST" "Lcom/example/baseload/baseload/model/Violation$Kind;" (.ref k0)) (S1 : Sta Z h0 "com/example/baseload/baseload/model/Violation$Kind" "OPENING" "Lcom/example/baseload/baseload/model/Violation$Kind;" (.ref k1)) (S2 : Sta Z h0 "com/example/baseload/baseload/model/Violation$Kind" "CONNECTION" "Lcom/example/baseload/baseload/model/Violation$Kind;" (.ref k2)) :
    Ct l Z n0 (⟨"com/example/baseload/baseload/model/ViolationCostPinLaw", "pickKind", "(I)Lcom/example/baseload/baseload/model/Violation$Kind;"⟩ : MethodName) method_2_code 2 (some (.object "com/example/baseload/baseload/model/Violation$Kind")) [] ({ frames := 0, cells := 0, slots := 0, locals := 0 } : Room) #[(.int x)] h0 (fun v h => ∃ b, v = some (.ref b) ∧ h0 = h) := by
  refine Ct.of (a0 := a0) (L0 := #[.val (.int x), .unset]) (plainFor_of_name pn_com_example_baseload_baseload_model_ViolationCostPinLaw) (fun m => by first | (simp [entryFrame, mkF, argsToLocals, Value.category]; done) | rfl) ?_
  intro κ B0
  have B : Ok κ l Z a0 n0 ({ frames := 0, cells := 0, slots := 0, locals := 0 } : Room) "com/example/baseload/baseload/model/ViolationCostPinLaw" "pickKind" method_2_code 2 (some (.object "com/example/baseload/baseload/model/Violation$Kind")) := B0
  refine go_iload_n B d1_0 rfl ?_
  refine go_ldcI B d1_1 (w_4 H) ?_
  refine go_iand B d1_3 ?_
  refine go_iconst B (x := (3 : Int32)) d1_4 rfl ?_
  refine go_irem B d1_5 (by decide) ?_
  generalize hv114 : ((x &&& (2147483647 : Int32)) % (3 : Int32)) = v114
  refine go_istore_n B #[.val (.int x), .val (.int v114)] d1_6 rfl ?_
  refine go_iload_n B d1_7 rfl ?_
  refine go_ifne B d1_8 (fun c8 => ?_) (fun c8 => ?_)
  · skip
    refine go_iload_n B d1_15 rfl ?_
    refine go_iconst B (x := (1 : Int32)) d1_16 rfl ?_
    refine go_icmpne B d1_17 (fun c17 => ?_) (fun c17 => ?_)
    · skip
      refine go_getstatic B d1_24 (w_181 H) S2 ?_
      refine go_areturn B d1_27 rfl rfl rfl (by decide) (by decide) ?_
      exact ⟨k2, rfl, rfl⟩
    · skip
      refine go_getstatic B d1_20 (w_179 H) S1 ?_
      refine go_areturn B d1_23 rfl rfl rfl (by decide) (by decide) ?_
      exact ⟨k1, rfl, rfl⟩
  · skip
    refine go_getstatic B d1_11 (w_5 H) S0 ?_
    refine go_areturn B d1_14 rfl rfl rfl (by decide) (by decide) ?_
    exact ⟨k0, rfl, rfl⟩
theorem d0_0 : Dc code 0 (.iload_n 0) 1 1 := ⟨at_0, rfl⟩
theorem d0_1 : Dc code 1 (.invokestatic 20) 3 4 := ⟨at_1, rfl⟩
theorem w_3 {a0 : Array Value} {Z : State} (H : Wd a0 Z) : (Jvm.Cond.code ({ cls := "com/example/baseload/baseload/model/ViolationCostPinLaw", name := "pickKind", desc := "(I)Lcom/example/baseload/baseload/model/Violation$Kind;" } : Jvm.MethodName) method_2_code (2 : Nat) (Option.some (Jvm.ClassFile.FieldType.object "com/example/baseload/baseload/model/Violation$Kind"))).before a0 Z = true := H _ (List.mem_of_getElem? (i := 3) rfl)
theorem w_2 {a0 : Array Value} {Z : State} (H : Wd a0 Z) : (Jvm.Cond.initialized "com/example/baseload/baseload/model/ViolationCostPinLaw").before a0 Z = true := H _ (List.mem_of_getElem? (i := 2) rfl)
theorem pd_10 : parseMethodDescriptor "(I)Lcom/example/baseload/baseload/model/Violation$Kind;" = some ⟨[.int], some (.object "com/example/baseload/baseload/model/Violation$Kind")⟩ := by decide +kernel
theorem w_0 {a0 : Array Value} {Z : State} (H : Wd a0 Z) : (Jvm.Cond.methodLink "com/example/baseload/baseload/model/ViolationCostPinLaw" (20 : Nat) ({ cls := "com/example/baseload/baseload/model/ViolationCostPinLaw", name := "pickKind", desc := "(I)Lcom/example/baseload/baseload/model/Violation$Kind;" } : Jvm.MethodName)).before a0 Z = true := H _ (List.mem_of_getElem? (i := 0) rfl)
theorem w_1 {a0 : Array Value} {Z : State} (H : Wd a0 Z) : (Jvm.Cond.static ({ cls := "com/example/baseload/baseload/model/ViolationCostPinLaw", name := "pickKind", desc := "(I)Lcom/example/baseload/baseload/model/Violation$Kind;" } : Jvm.MethodName)).before a0 Z = true := H _ (List.mem_of_getElem? (i := 1) rfl)
theorem d0_4 : Dc code 4 (.astore_n 3) 1 5 := ⟨at_4, rfl⟩
theorem d0_5 : Dc code 5 (.iload_n 1) 1 6 := ⟨at_5, rfl⟩
theorem d0_6 : Dc code 6 (.i2d) 1 7 := ⟨at_6, rfl⟩
theorem d0_7 : Dc code 7 (.dstore 4) 2 9 := ⟨at_7, rfl⟩
theorem d0_9 : Dc code 9 (.iload_n 2) 1 10 := ⟨at_9, rfl⟩
theorem d0_10 : Dc code 10 (.i2d) 1 11 := ⟨at_10, rfl⟩
theorem d0_11 : Dc code 11 (.dstore 6) 2 13 := ⟨at_11, rfl⟩
theorem d0_13 : Dc code 13 (.aload_n 3) 1 14 := ⟨at_13, rfl⟩
theorem d0_14 : Dc code 14 (.dload 4) 2 16 := ⟨at_14, rfl⟩
theorem d0_16 : Dc code 16 (.dload 6) 2 18 := ⟨at_16, rfl⟩
theorem d0_18 : Dc code 18 (.invokestatic 26) 3 21 := ⟨at_18, rfl⟩
theorem w_11 {a0 : Array Value} {Z : State} (H : Wd a0 Z) : (Jvm.Cond.code ({ cls := "com/example/baseload/baseload/model/Violation", name := "cost", desc := "(Lcom/example/baseload/baseload/model/Violation$Kind;DD)Lcom/example/baseload/baseload/model/Violation;" } : Jvm.MethodName) prog_22_method_10_code (5 : Nat) (Option.some (Jvm.ClassFile.FieldType.object "com/example/baseload/baseload/model/Violation"))).before a0 Z = true := H _ (List.mem_of_getElem? (i := 11) rfl)
theorem pd_11 : parseMethodDescriptor "(Lcom/example/baseload/baseload/model/Violation$Kind;DD)Lcom/example/baseload/baseload/model/Violation;" = some ⟨[(.object "com/example/baseload/baseload/model/Violation$Kind"), .double, .double], some (.object "com/example/baseload/baseload/model/Violation")⟩ := by decide +kernel
theorem w_8 {a0 : Array Value} {Z : State} (H : Wd a0 Z) : (Jvm.Cond.methodLink "com/example/baseload/baseload/model/ViolationCostPinLaw" (26 : Nat) ({ cls := "com/example/baseload/baseload/model/Violation", name := "cost", desc := "(Lcom/example/baseload/baseload/model/Violation$Kind;DD)Lcom/example/baseload/baseload/model/Violation;" } : Jvm.MethodName)).before a0 Z = true := H _ (List.mem_of_getElem? (i := 8) rfl)
theorem w_9 {a0 : Array Value} {Z : State} (H : Wd a0 Z) : (Jvm.Cond.static ({ cls := "com/example/baseload/baseload/model/Violation", name := "cost", desc := "(Lcom/example/baseload/baseload/model/Violation$Kind;DD)Lcom/example/baseload/baseload/model/Violation;" } : Jvm.MethodName)).before a0 Z = true := H _ (List.mem_of_getElem? (i := 9) rfl)
theorem d0_21 : Dc code 21 (.astore 8) 2 23 := ⟨at_21, rfl⟩
theorem d0_23 : Dc code 23 (.aload 8) 2 25 := ⟨at_23, rfl⟩
theorem d0_25 : Dc code 25 (.invokevirtual 32) 3 28 := ⟨at_25, rfl⟩
theorem w_129 {a0 : Array Value} {Z : State} (H : Wd a0 Z) : (Jvm.Cond.code ({ cls := "com/example/baseload/baseload/model/Violation", name := "kind", desc := "()Lcom/example/baseload/baseload/model/Violation$Kind;" } : Jvm.MethodName) prog_22_method_14_code (1 : Nat) (Option.some (Jvm.ClassFile.FieldType.object "com/example/baseload/baseload/model/Violation$Kind"))).before a0 Z = true := H _ (List.mem_of_getElem? (i := 129) rfl)
theorem pd_12 : parseMethodDescriptor "()Lcom/example/baseload/baseload/model/Violation$Kind;" = some ⟨[], some (.object "com/example/baseload/baseload/model/Violation$Kind")⟩ := by decide +kernel
theorem w_125 {a0 : Array Value} {Z : State} (H : Wd a0 Z) : (Jvm.Cond.methodLink "com/example/baseload/baseload/model/ViolationCostPinLaw" (32 : Nat) ({ cls := "com/example/baseload/baseload/model/Violation", name := "kind", desc := "()Lcom/example/baseload/baseload/model/Violation$Kind;" } : Jvm.MethodName)).before a0 Z = true := H _ (List.mem_of_getElem? (i := 125) rfl)
theorem w_126 {a0 : Array Value} {Z : State} (H : Wd a0 Z) : (Jvm.Cond.declares ({ cls := "com/example/baseload/baseload/model/Violation", name := "kind", desc := "()Lcom/example/baseload/baseload/model/Violation$Kind;" } : Jvm.MethodName)).before a0 Z = true := H _ (List.mem_of_getElem? (i := 126) rfl)
theorem w_128 {a0 : Array Value} {Z : State} (H : Wd a0 Z) : (Jvm.Cond.selects "com/example/baseload/baseload/model/Violation" ({ cls := "com/example/baseload/baseload/model/Violation", name := "kind", desc := "()Lcom/example/baseload/baseload/model/Violation$Kind;" } : Jvm.MethodName) ({ cls := "com/example/baseload/baseload/model/Violation", name := "kind", desc := "()Lcom/example/baseload/baseload/model/Violation$Kind;" } : Jvm.MethodName)).before a0 Z = true := H _ (List.mem_of_getElem? (i := 128) rfl)
theorem w_127 {a0 : Array Value} {Z : State} (H : Wd a0 Z) : (Jvm.Cond.instanceMethod ({ cls := "com/example/baseload/baseload/model/Violation", name := "kind", desc := "()Lcom/example/baseload/baseload/model/Violation$Kind;" } : Jvm.MethodName)).before a0 Z = true := H _ (List.mem_of_getElem? (i := 127) rfl)
theorem d0_28 : Dc code 28 (.aload_n 3) 1 29 := ⟨at_28, rfl⟩
theorem d0_29 : Db code 29 (.if_acmp .eq 5) 5 32 34 := ⟨at_29, rfl, rfl⟩
theorem d0_34 : Dc code 34 (.aload 8) 2 36 := ⟨at_34, rfl⟩
theorem d0_36 : Dc code 36 (.invokevirtual 36) 3 39 := ⟨at_36, rfl⟩
theorem w_134 {a0 : Array Value} {Z : State} (H : Wd a0 Z) : (Jvm.Cond.code ({ cls := "com/example/baseload/baseload/model/Violation", name := "ids", desc := "()Ljava/util/List;" } : Jvm.MethodName) prog_22_method_15_code (1 : Nat) (Option.some (Jvm.ClassFile.FieldType.object "java/util/List"))).before a0 Z = true := H _ (List.mem_of_getElem? (i := 134) rfl)
theorem w_130 {a0 : Array Value} {Z : State} (H : Wd a0 Z) : (Jvm.Cond.methodLink "com/example/baseload/baseload/model/ViolationCostPinLaw" (36 : Nat) ({ cls := "com/example/baseload/baseload/model/Violation", name := "ids", desc := "()Ljava/util/List;" } : Jvm.MethodName)).before a0 Z = true := H _ (List.mem_of_getElem? (i := 130) rfl)
theorem w_131 {a0 : Array Value} {Z : State} (H : Wd a0 Z) : (Jvm.Cond.declares ({ cls := "com/example/baseload/baseload/model/Violation", name := "ids", desc := "()Ljava/util/List;" } : Jvm.MethodName)).before a0 Z = true := H _ (List.mem_of_getElem? (i := 131) rfl)
theorem w_133 {a0 : Array Value} {Z : State} (H : Wd a0 Z) : (Jvm.Cond.selects "com/example/baseload/baseload/model/Violation" ({ cls := "com/example/baseload/baseload/model/Violation", name := "ids", desc := "()Ljava/util/List;" } : Jvm.MethodName) ({ cls := "com/example/baseload/baseload/model/Violation", name := "ids", desc := "()Ljava/util/List;" } : Jvm.MethodName)).before a0 Z = true := H _ (List.mem_of_getElem? (i := 133) rfl)
theorem w_132 {a0 : Array Value} {Z : State} (H : Wd a0 Z) : (Jvm.Cond.instanceMethod ({ cls := "com/example/baseload/baseload/model/Violation", name := "ids", desc := "()Ljava/util/List;" } : Jvm.MethodName)).before a0 Z = true := H _ (List.mem_of_getElem? (i := 132) rfl)
theorem d0_39 : Dc code 39 (.invokeinterface 40 1) 5 44 := ⟨at_39, rfl⟩
theorem w_143 {a0 : Array Value} {Z : State} (H : Wd a0 Z) : (Jvm.Cond.code ({ cls := "java/util/ImmutableCollections$ListN", name := "isEmpty", desc := "()Z" } : Jvm.MethodName) jdk_45_method_2_code (1 : Nat) (Option.some Jvm.ClassFile.FieldType.boolean)).before a0 Z = true := H _ (List.mem_of_getElem? (i := 143) rfl)
theorem w_142 {a0 : Array Value} {Z : State} (H : Wd a0 Z) : (Jvm.Cond.initialized "java/util/ImmutableCollections$ListN").before a0 Z = true := H _ (List.mem_of_getElem? (i := 142) rfl)
theorem pd_13 : parseMethodDescriptor "()Z" = some ⟨[], some .boolean⟩ := by decide +kernel
theorem w_135 {a0 : Array Value} {Z : State} (H : Wd a0 Z) : (Jvm.Cond.methodLink "com/example/baseload/baseload/model/ViolationCostPinLaw" (40 : Nat) ({ cls := "java/util/List", name := "isEmpty", desc := "()Z" } : Jvm.MethodName)).before a0 Z = true := H _ (List.mem_of_getElem? (i := 135) rfl)
theorem w_136 {a0 : Array Value} {Z : State} (H : Wd a0 Z) : (Jvm.Cond.declares ({ cls := "java/util/List", name := "isEmpty", desc := "()Z" } : Jvm.MethodName)).before a0 Z = true := H _ (List.mem_of_getElem? (i := 136) rfl)
theorem w_137 {a0 : Array Value} {Z : State} (H : Wd a0 Z) : (Jvm.Cond.interfaceMethod "java/util/List" "java/util/List" "isEmpty" "()Z").before a0 Z = true := H _ (List.mem_of_getElem? (i := 137) rfl)
theorem w_138 {a0 : Array Value} {Z : State} (H : Wd a0 Z) : (Jvm.Cond.selects "java/util/ImmutableCollections$ListN" ({ cls := "java/util/List", name := "isEmpty", desc := "()Z" } : Jvm.MethodName) ({ cls := "java/util/ImmutableCollections$ListN", name := "isEmpty", desc := "()Z" } : Jvm.MethodName)).before a0 Z = true := H _ (List.mem_of_getElem? (i := 138) rfl)
theorem w_139 {a0 : Array Value} {Z : State} (H : Wd a0 Z) : (Jvm.Cond.instanceMethod ({ cls := "java/util/ImmutableCollections$ListN", name := "isEmpty", desc := "()Z" } : Jvm.MethodName)).before a0 Z = true := H _ (List.mem_of_getElem? (i := 139) rfl)
theorem w_140 {a0 : Array Value} {Z : State} (H : Wd a0 Z) : (Jvm.Cond.publicMethod ({ cls := "java/util/ImmutableCollections$ListN", name := "isEmpty", desc := "()Z" } : Jvm.MethodName)).before a0 Z = true := H _ (List.mem_of_getElem? (i := 140) rfl)
theorem w_141 {a0 : Array Value} {Z : State} (H : Wd a0 Z) : (Jvm.Cond.unhidden "java/util/ImmutableCollections$ListN" "isEmpty" "()Z").before a0 Z = true := H _ (List.mem_of_getElem? (i := 141) rfl)
theorem d0_44 : Db code 44 (.ifCond .ne 5) 5 47 49 := ⟨at_44, rfl, rfl⟩
theorem d0_49 : Dc code 49 (.aload 8) 2 51 := ⟨at_49, rfl⟩
theorem d0_51 : Dc code 51 (.invokevirtual 46) 3 54 := ⟨at_51, rfl⟩
theorem w_150 {a0 : Array Value} {Z : State} (H : Wd a0 Z) : (Jvm.Cond.code ({ cls := "com/example/baseload/baseload/model/Violation", name := "counts", desc := "()Ljava/util/List;" } : Jvm.MethodName) prog_22_method_16_code (1 : Nat) (Option.some (Jvm.ClassFile.FieldType.object "java/util/List"))).before a0 Z = true := H _ (List.mem_of_getElem? (i := 150) rfl)
theorem w_146 {a0 : Array Value} {Z : State} (H : Wd a0 Z) : (Jvm.Cond.methodLink "com/example/baseload/baseload/model/ViolationCostPinLaw" (46 : Nat) ({ cls := "com/example/baseload/baseload/model/Violation", name := "counts", desc := "()Ljava/util/List;" } : Jvm.MethodName)).before a0 Z = true := H _ (List.mem_of_getElem? (i := 146) rfl)
theorem w_147 {a0 : Array Value} {Z : State} (H : Wd a0 Z) : (Jvm.Cond.declares ({ cls := "com/example/baseload/baseload/model/Violation", name := "counts", desc := "()Ljava/util/List;" } : Jvm.MethodName)).before a0 Z = true := H _ (List.mem_of_getElem? (i := 147) rfl)
theorem w_149 {a0 : Array Value} {Z : State} (H : Wd a0 Z) : (Jvm.Cond.selects "com/example/baseload/baseload/model/Violation" ({ cls := "com/example/baseload/baseload/model/Violation", name := "counts", desc := "()Ljava/util/List;" } : Jvm.MethodName) ({ cls := "com/example/baseload/baseload/model/Violation", name := "counts", desc := "()Ljava/util/List;" } : Jvm.MethodName)).before a0 Z = true := H _ (List.mem_of_getElem? (i := 149) rfl)
theorem w_148 {a0 : Array Value} {Z : State} (H : Wd a0 Z) : (Jvm.Cond.instanceMethod ({ cls := "com/example/baseload/baseload/model/Violation", name := "counts", desc := "()Ljava/util/List;" } : Jvm.MethodName)).before a0 Z = true := H _ (List.mem_of_getElem? (i := 148) rfl)
theorem d0_54 : Dc code 54 (.invokeinterface 40 1) 5 59 := ⟨at_54, rfl⟩
theorem d0_59 : Db code 59 (.ifCond .ne 5) 5 62 64 := ⟨at_59, rfl, rfl⟩
theorem d0_64 : Dc code 64 (.aload 8) 2 66 := ⟨at_64, rfl⟩
theorem d0_66 : Dc code 66 (.invokevirtual 49) 3 69 := ⟨at_66, rfl⟩
theorem w_155 {a0 : Array Value} {Z : State} (H : Wd a0 Z) : (Jvm.Cond.code ({ cls := "com/example/baseload/baseload/model/Violation", name := "costs", desc := "()Ljava/util/List;" } : Jvm.MethodName) prog_22_method_17_code (1 : Nat) (Option.some (Jvm.ClassFile.FieldType.object "java/util/List"))).before a0 Z = true := H _ (List.mem_of_getElem? (i := 155) rfl)
theorem w_151 {a0 : Array Value} {Z : State} (H : Wd a0 Z) : (Jvm.Cond.methodLink "com/example/baseload/baseload/model/ViolationCostPinLaw" (49 : Nat) ({ cls := "com/example/baseload/baseload/model/Violation", name := "costs", desc := "()Ljava/util/List;" } : Jvm.MethodName)).before a0 Z = true := H _ (List.mem_of_getElem? (i := 151) rfl)
theorem w_152 {a0 : Array Value} {Z : State} (H : Wd a0 Z) : (Jvm.Cond.declares ({ cls := "com/example/baseload/baseload/model/Violation", name := "costs", desc := "()Ljava/util/List;" } : Jvm.MethodName)).before a0 Z = true := H _ (List.mem_of_getElem? (i := 152) rfl)
theorem w_154 {a0 : Array Value} {Z : State} (H : Wd a0 Z) : (Jvm.Cond.selects "com/example/baseload/baseload/model/Violation" ({ cls := "com/example/baseload/baseload/model/Violation", name := "costs", desc := "()Ljava/util/List;" } : Jvm.MethodName) ({ cls := "com/example/baseload/baseload/model/Violation", name := "costs", desc := "()Ljava/util/List;" } : Jvm.MethodName)).before a0 Z = true := H _ (List.mem_of_getElem? (i := 154) rfl)
theorem w_153 {a0 : Array Value} {Z : State} (H : Wd a0 Z) : (Jvm.Cond.instanceMethod ({ cls := "com/example/baseload/baseload/model/Violation", name := "costs", desc := "()Ljava/util/List;" } : Jvm.MethodName)).before a0 Z = true := H _ (List.mem_of_getElem? (i := 153) rfl)
theorem d0_69 : Dc code 69 (.astore 9) 2 71 := ⟨at_69, rfl⟩
theorem d0_71 : Dc code 71 (.aload 9) 2 73 := ⟨at_71, rfl⟩
theorem d0_73 : Dc code 73 (.invokeinterface 52 1) 5 78 := ⟨at_73, rfl⟩
theorem w_163 {a0 : Array Value} {Z : State} (H : Wd a0 Z) : (Jvm.Cond.code ({ cls := "java/util/ImmutableCollections$List12", name := "size", desc := "()I" } : Jvm.MethodName) jdk_44_method_3_code (1 : Nat) (Option.some Jvm.ClassFile.FieldType.int)).before a0 Z = true := H _ (List.mem_of_getElem? (i := 163) rfl)
theorem pd_14 : parseMethodDescriptor "()I" = some ⟨[], some .int⟩ := by decide +kernel
theorem w_156 {a0 : Array Value} {Z : State} (H : Wd a0 Z) : (Jvm.Cond.methodLink "com/example/baseload/baseload/model/ViolationCostPinLaw" (52 : Nat) ({ cls := "java/util/List", name := "size", desc := "()I" } : Jvm.MethodName)).before a0 Z = true := H _ (List.mem_of_getElem? (i := 156) rfl)
theorem w_157 {a0 : Array Value} {Z : State} (H : Wd a0 Z) : (Jvm.Cond.declares ({ cls := "java/util/List", name := "size", desc := "()I" } : Jvm.MethodName)).before a0 Z = true := H _ (List.mem_of_getElem? (i := 157) rfl)
theorem w_158 {a0 : Array Value} {Z : State} (H : Wd a0 Z) : (Jvm.Cond.interfaceMethod "java/util/List" "java/util/List" "size" "()I").before a0 Z = true := H _ (List.mem_of_getElem? (i := 158) rfl)
theorem w_159 {a0 : Array Value} {Z : State} (H : Wd a0 Z) : (Jvm.Cond.selects "java/util/ImmutableCollections$List12" ({ cls := "java/util/List", name := "size", desc := "()I" } : Jvm.MethodName) ({ cls := "java/util/ImmutableCollections$List12", name := "size", desc := "()I" } : Jvm.MethodName)).before a0 Z = true := H _ (List.mem_of_getElem? (i := 159) rfl)
theorem w_160 {a0 : Array Value} {Z : State} (H : Wd a0 Z) : (Jvm.Cond.instanceMethod ({ cls := "java/util/ImmutableCollections$List12", name := "size", desc := "()I" } : Jvm.MethodName)).before a0 Z = true := H _ (List.mem_of_getElem? (i := 160) rfl)
theorem w_161 {a0 : Array Value} {Z : State} (H : Wd a0 Z) : (Jvm.Cond.publicMethod ({ cls := "java/util/ImmutableCollections$List12", name := "size", desc := "()I" } : Jvm.MethodName)).before a0 Z = true := H _ (List.mem_of_getElem? (i := 161) rfl)
theorem w_162 {a0 : Array Value} {Z : State} (H : Wd a0 Z) : (Jvm.Cond.unhidden "java/util/ImmutableCollections$List12" "size" "()I").before a0 Z = true := H _ (List.mem_of_getElem? (i := 162) rfl)
theorem d0_78 : Dc code 78 (.iconst 2) 1 79 := ⟨at_78, rfl⟩
theorem d0_79 : Db code 79 (.if_icmp .eq 5) 5 82 84 := ⟨at_79, rfl, rfl⟩
theorem d0_84 : Dc code 84 (.aload 9) 2 86 := ⟨at_84, rfl⟩
theorem d0_86 : Dc code 86 (.iconst 0) 1 87 := ⟨at_86, rfl⟩
theorem d0_87 : Dc code 87 (.invokeinterface 56 2) 5 92 := ⟨at_87, rfl⟩
theorem w_172 {a0 : Array Value} {Z : State} (H : Wd a0 Z) : (Jvm.Cond.code ({ cls := "java/util/ImmutableCollections$List12", name := "get", desc := "(I)Ljava/lang/Object;" } : Jvm.MethodName) jdk_44_method_5_code (2 : Nat) (Option.some (Jvm.ClassFile.FieldType.object "java/lang/Object"))).before a0 Z = true := H _ (List.mem_of_getElem? (i := 172) rfl)
theorem pd_15 : parseMethodDescriptor "(I)Ljava/lang/Object;" = some ⟨[.int], some (.object "java/lang/Object")⟩ := by decide +kernel
theorem w_165 {a0 : Array Value} {Z : State} (H : Wd a0 Z) : (Jvm.Cond.methodLink "com/example/baseload/baseload/model/ViolationCostPinLaw" (56 : Nat) ({ cls := "java/util/List", name := "get", desc := "(I)Ljava/lang/Object;" } : Jvm.MethodName)).before a0 Z = true := H _ (List.mem_of_getElem? (i := 165) rfl)
theorem w_166 {a0 : Array Value} {Z : State} (H : Wd a0 Z) : (Jvm.Cond.declares ({ cls := "java/util/List", name := "get", desc := "(I)Ljava/lang/Object;" } : Jvm.MethodName)).before a0 Z = true := H _ (List.mem_of_getElem? (i := 166) rfl)
theorem w_167 {a0 : Array Value} {Z : State} (H : Wd a0 Z) : (Jvm.Cond.interfaceMethod "java/util/List" "java/util/List" "get" "(I)Ljava/lang/Object;").before a0 Z = true := H _ (List.mem_of_getElem? (i := 167) rfl)
theorem w_168 {a0 : Array Value} {Z : State} (H : Wd a0 Z) : (Jvm.Cond.selects "java/util/ImmutableCollections$List12" ({ cls := "java/util/List", name := "get", desc := "(I)Ljava/lang/Object;" } : Jvm.MethodName) ({ cls := "java/util/ImmutableCollections$List12", name := "get", desc := "(I)Ljava/lang/Object;" } : Jvm.MethodName)).before a0 Z = true := H _ (List.mem_of_getElem? (i := 168) rfl)
theorem w_169 {a0 : Array Value} {Z : State} (H : Wd a0 Z) : (Jvm.Cond.instanceMethod ({ cls := "java/util/ImmutableCollections$List12", name := "get", desc := "(I)Ljava/lang/Object;" } : Jvm.MethodName)).before a0 Z = true := H _ (List.mem_of_getElem? (i := 169) rfl)
theorem w_170 {a0 : Array Value} {Z : State} (H : Wd a0 Z) : (Jvm.Cond.publicMethod ({ cls := "java/util/ImmutableCollections$List12", name := "get", desc := "(I)Ljava/lang/Object;" } : Jvm.MethodName)).before a0 Z = true := H _ (List.mem_of_getElem? (i := 170) rfl)
theorem w_171 {a0 : Array Value} {Z : State} (H : Wd a0 Z) : (Jvm.Cond.unhidden "java/util/ImmutableCollections$List12" "get" "(I)Ljava/lang/Object;").before a0 Z = true := H _ (List.mem_of_getElem? (i := 171) rfl)
theorem d0_92 : Dc code 92 (.checkcast 60) 3 95 := ⟨at_92, rfl⟩
theorem w_173 {a0 : Array Value} {Z : State} (H : Wd a0 Z) : (Jvm.Cond.classLink "com/example/baseload/baseload/model/ViolationCostPinLaw" (60 : Nat) "java/lang/Double").before a0 Z = true := H _ (List.mem_of_getElem? (i := 173) rfl)
theorem d0_95 : Dc code 95 (.invokevirtual 62) 3 98 := ⟨at_95, rfl⟩
theorem w_178 {a0 : Array Value} {Z : State} (H : Wd a0 Z) : (Jvm.Cond.code ({ cls := "java/lang/Double", name := "doubleValue", desc := "()D" } : Jvm.MethodName) jdk_117_method_19_code (1 : Nat) (Option.some Jvm.ClassFile.FieldType.double)).before a0 Z = true := H _ (List.mem_of_getElem? (i := 178) rfl)
theorem pd_16 : parseMethodDescriptor "()D" = some ⟨[], some .double⟩ := by decide +kernel
theorem w_174 {a0 : Array Value} {Z : State} (H : Wd a0 Z) : (Jvm.Cond.methodLink "com/example/baseload/baseload/model/ViolationCostPinLaw" (62 : Nat) ({ cls := "java/lang/Double", name := "doubleValue", desc := "()D" } : Jvm.MethodName)).before a0 Z = true := H _ (List.mem_of_getElem? (i := 174) rfl)
theorem w_175 {a0 : Array Value} {Z : State} (H : Wd a0 Z) : (Jvm.Cond.declares ({ cls := "java/lang/Double", name := "doubleValue", desc := "()D" } : Jvm.MethodName)).before a0 Z = true := H _ (List.mem_of_getElem? (i := 175) rfl)
theorem w_177 {a0 : Array Value} {Z : State} (H : Wd a0 Z) : (Jvm.Cond.selects "java/lang/Double" ({ cls := "java/lang/Double", name := "doubleValue", desc := "()D" } : Jvm.MethodName) ({ cls := "java/lang/Double", name := "doubleValue", desc := "()D" } : Jvm.MethodName)).before a0 Z = true := H _ (List.mem_of_getElem? (i := 177) rfl)
theorem w_176 {a0 : Array Value} {Z : State} (H : Wd a0 Z) : (Jvm.Cond.instanceMethod ({ cls := "java/lang/Double", name := "doubleValue", desc := "()D" } : Jvm.MethodName)).before a0 Z = true := H _ (List.mem_of_getElem? (i := 176) rfl)
theorem d0_98 : Dc code 98 (.dload 4) 2 100 := ⟨at_98, rfl⟩
theorem d0_100 : Dc code 100 (.dcmp .l) 1 101 := ⟨at_100, rfl⟩
theorem d0_101 : Db code 101 (.ifCond .ne 27) 27 104 128 := ⟨at_101, rfl, rfl⟩
theorem d0_104 : Dc code 104 (.aload 9) 2 106 := ⟨at_104, rfl⟩
theorem d0_106 : Dc code 106 (.iconst 1) 1 107 := ⟨at_106, rfl⟩
theorem d0_107 : Dc code 107 (.invokeinterface 56 2) 5 112 := ⟨at_107, rfl⟩
theorem d0_112 : Dc code 112 (.checkcast 60) 3 115 := ⟨at_112, rfl⟩
theorem d0_115 : Dc code 115 (.invokevirtual 62) 3 118 := ⟨at_115, rfl⟩
theorem d0_118 : Dc code 118 (.dload 6) 2 120 := ⟨at_118, rfl⟩
theorem d0_120 : Dc code 120 (.dcmp .l) 1 121 := ⟨at_120, rfl⟩
theorem d0_121 : Db code 121 (.ifCond .ne 7) 7 124 128 := ⟨at_121, rfl, rfl⟩
theorem d0_124 : Dc code 124 (.iconst 1) 1 125 := ⟨at_124, rfl⟩
theorem d0_125 : Db code 125 (.goto 4) 4 128 129 := ⟨at_125, rfl, rfl⟩
theorem d0_129 : Dc code 129 (.ireturn) 1 130 := ⟨at_129, rfl⟩
set_option maxRecDepth 65536 in
set_option maxHeartbeats 40000000 in
theorem rm0 {l : Launch} {Z : State} {a0 : Array Value} {n0 : Nat} (H : Wd a0 Z) (p0 p1 p2 : Int32) (h0 : Heap) (Z0 : n0 ≤ h0.size) {k0 k1 k2 el em ee : Addr} (S0 : Sta Z h0 "com/example/baseload/baseload/model/Violation$Kind" "COST" "Lcom/example/baseload/baseload/model/Violation$Kind;" (.ref k0)) (S1 : Sta Z h0 "com/example/baseload/baseload/model/Violation$Kind" "OPENING" "Lcom/example/baseload/baseload/model/Violation$Kind;" (.ref k1)) (S2 : Sta Z h0 "com/example/baseload/baseload/model/Violation$Kind" "CONNECTION" "Lcom/example/baseload/baseload/model/Violation$Kind;" (.ref k2)) (SL : Sta Z h0 "java/util/ImmutableCollections" "EMPTY_LIST" "Ljava/util/ImmutableCollections$ListN;" (.ref el)) (EN : Exa Z h0 el "java/util/ImmutableCollections$ListN") (FN : Fld Z h0 el "java/util/ImmutableCollections$ListN" "allowNulls" "Z" (.int 0)) (SM : Sta Z h0 "java/util/ImmutableCollections" "EMPTY" "Ljava/lang/Object;" (.ref em)) (EM : Exa Z h0 em "java/lang/Object") (FE : Fld Z h0 el "java/util/ImmutableCollections$ListN" "elements" "[Ljava/lang/Object;" (.ref ee)) (AE : AV Z h0 ee (.object "java/lang/Object") []) :
    CtW l Z n0 x code maxLocals ret tables_1 room_1 #[(.int p0), (.int p1), (.int p2)] h0 (fun v h => v = some (.int 1)) := by
  refine CtW.of (a0 := a0) (L0 := #[.val (.int p0), .val (.int p1), .val (.int p2), .unset, .unset, .unset, .unset, .unset, .unset, .unset]) (plainFor_of_name pn_com_example_baseload_baseload_model_ViolationCostPinLaw) (fun m => by first | (simp [entryFrame, mkF, argsToLocals, Value.category, maxLocals]; done) | rfl) ?_
  intro κ Wk B0
  have B : Ok κ l Z a0 n0 room_1 "com/example/baseload/baseload/model/ViolationCostPinLaw" "law" code maxLocals ret := B0
  refine go_iload_n B d0_0 rfl ?_
  refine go_static B (W := 0) (argsL := [(.int p0)]) (st := []) d0_1 (w_0 H) (w_1 H) (w_2 H) (w_3 H) (by decide) (rmP H p0 k0 k1 k2 h0 Z0 S0 S1 S2) pd_10 rfl rfl rfl rfl (by decide) (by decide) (by decide) (by decide) ?_
  rintro _ h116 ⟨kd115, rfl, rfl⟩
  show Go κ _ h0 _ _ 4 #[.val (.int p0), .val (.int p1), .val (.int p2), .unset, .unset, .unset, .unset, .unset, .unset, .unset] [(.ref kd115)]
  refine go_astore_n B #[.val (.int p0), .val (.int p1), .val (.int p2), .val (.ref kd115), .unset, .unset, .unset, .unset, .unset, .unset] d0_4 rfl rfl ?_
  refine go_iload_n B d0_5 rfl ?_
  refine go_i2d B d0_6 ?_
  refine go_dstore B #[.val (.int p0), .val (.int p1), .val (.int p2), .val (.ref kd115), .val (.double (FP.i2d p1)), .second, .unset, .unset, .unset, .unset] d0_7 rfl ?_
  refine go_iload_n B d0_9 rfl ?_
  refine go_i2d B d0_10 ?_
  refine go_dstore B #[.val (.int p0), .val (.int p1), .val (.int p2), .val (.ref kd115), .val (.double (FP.i2d p1)), .second, .val (.double (FP.i2d p2)), .second, .unset, .unset] d0_11 rfl ?_
  refine go_aload_n B d0_13 rfl rfl ?_
  refine go_dload B d0_14 rfl ?_
  refine go_dload B d0_16 rfl ?_
  refine go_staticW B Wk (Nat.zero_le _) (W' := 0) (argsL := [(.ref kd115), (.double (FP.i2d p1)), (.double (FP.i2d p2))]) (st := []) d0_18 (w_8 H) (w_9 H) (w_10 H) (w_11 H) (by decide) (rmVc H kd115 el (FP.i2d p1) (FP.i2d p2) h0 Z0 SL EN FN) pd_11 rfl rfl rfl rfl (by decide) (by decide) (by decide) (by decide) ?_
  rintro κ km136 _ h135 Wk B K137 ⟨a117, l118, b119, b120, rfl, K121, fr122, E123, f124, f125, f126, f127, E128, f129, f130, E131, f132, E133, f134⟩
  have ne_b120 : b120 ≠ em := Nat.ne_of_gt (Nat.lt_of_lt_of_le (EM).lt fr122)
  show Go κ _ h135 _ _ 21 #[.val (.int p0), .val (.int p1), .val (.int p2), .val (.ref kd115), .val (.double (FP.i2d p1)), .second, .val (.double (FP.i2d p2)), .second, .unset, .unset] [(.ref a117)]
  refine go_astore B #[.val (.int p0), .val (.int p1), .val (.int p2), .val (.ref kd115), .val (.double (FP.i2d p1)), .second, .val (.double (FP.i2d p2)), .second, .val (.ref a117), .unset] d0_21 rfl rfl ?_
  refine go_aload B d0_23 rfl rfl ?_
  refine go_virtual B (W := 0) (a := a117) (argsL := []) (st := []) d0_25 (w_125 H) (w_126 H) (w_128 H) (w_127 H) (w_10 H) (w_129 H) (by decide) E123 (rm_kind H a117 kd115 h135 (Nat.le_trans Z0 K121.1) f124) pd_12 rfl rfl rfl rfl (by decide) (by decide) (by decide) (by decide) ?_
  rintro _ h138 ⟨rfl, rfl⟩
  show Go κ _ h135 _ _ 28 #[.val (.int p0), .val (.int p1), .val (.int p2), .val (.ref kd115), .val (.double (FP.i2d p1)), .second, .val (.double (FP.i2d p2)), .second, .val (.ref a117), .unset] [(.ref kd115)]
  refine go_aload_n B d0_28 rfl rfl ?_
  refine go_acmpeq B d0_29 rfl rfl (fun c29 => ?_) (fun c29 => ?_)
  rotate_left
  · exact absurd rfl c29
  refine go_aload B d0_34 rfl rfl ?_
  refine go_virtual B (W := 0) (a := a117) (argsL := []) (st := []) d0_36 (w_130 H) (w_131 H) (w_133 H) (w_132 H) (w_10 H) (w_134 H) (by decide) E123 (rm_ids H a117 el h135 (Nat.le_trans Z0 K121.1) f125) pd_6 rfl rfl rfl rfl (by decide) (by decide) (by decide) (by decide) ?_
  rintro _ h139 ⟨rfl, rfl⟩
  show Go κ _ h135 _ _ 39 #[.val (.int p0), .val (.int p1), .val (.int p2), .val (.ref kd115), .val (.double (FP.i2d p1)), .second, .val (.double (FP.i2d p2)), .second, .val (.ref a117), .unset] [(.ref el)]
  refine go_interface B (W' := 0) (a := el) (argsL := []) (st := []) d0_39 (w_135 H) (w_136 H) (w_137 H) (by decide) (w_138 H) (w_139 H) (w_140 H) (w_141 H) (w_115 H) (w_142 H) (w_143 H) (by decide) (Exa.keep EN K121) (rmIe H el ee h135 (Nat.le_trans Z0 K121.1) (Fld.keep FE K121 nin0) (AV.keep AE K121 nin0)) pd_13 rfl rfl rfl rfl (by decide) (by decide) (by decide) (by decide) ?_
  rintro _ h140 ⟨rfl, rfl⟩
  show Go κ _ h135 _ _ 44 #[.val (.int p0), .val (.int p1), .val (.int p2), .val (.ref kd115), .val (.double (FP.i2d p1)), .second, .val (.double (FP.i2d p2)), .second, .val (.ref a117), .unset] [(.int (1 : Int32))]
  refine go_ifne B d0_44 (fun c44 => ?_) (fun c44 => ?_)
  rotate_left
  · exact absurd c44 (by decide)
  refine go_aload B d0_49 rfl rfl ?_
  refine go_virtual B (W := 0) (a := a117) (argsL := []) (st := []) d0_51 (w_146 H) (w_147 H) (w_149 H) (w_148 H) (w_10 H) (w_150 H) (by decide) E123 (rm_counts H a117 el h135 (Nat.le_trans Z0 K121.1) f126) pd_6 rfl rfl rfl rfl (by decide) (by decide) (by decide) (by decide) ?_
  rintro _ h141 ⟨rfl, rfl⟩
  show Go κ _ h135 _ _ 54 #[.val (.int p0), .val (.int p1), .val (.int p2), .val (.ref kd115), .val (.double (FP.i2d p1)), .second, .val (.double (FP.i2d p2)), .second, .val (.ref a117), .unset] [(.ref el)]
  refine go_interface B (W' := 0) (a := el) (argsL := []) (st := []) d0_54 (w_135 H) (w_136 H) (w_137 H) (by decide) (w_138 H) (w_139 H) (w_140 H) (w_141 H) (w_115 H) (w_142 H) (w_143 H) (by decide) (Exa.keep EN K121) (rmIe H el ee h135 (Nat.le_trans Z0 K121.1) (Fld.keep FE K121 nin0) (AV.keep AE K121 nin0)) pd_13 rfl rfl rfl rfl (by decide) (by decide) (by decide) (by decide) ?_
  rintro _ h142 ⟨rfl, rfl⟩
  show Go κ _ h135 _ _ 59 #[.val (.int p0), .val (.int p1), .val (.int p2), .val (.ref kd115), .val (.double (FP.i2d p1)), .second, .val (.double (FP.i2d p2)), .second, .val (.ref a117), .unset] [(.int (1 : Int32))]
  refine go_ifne B d0_59 (fun c59 => ?_) (fun c59 => ?_)
  rotate_left
  · exact absurd c59 (by decide)
  refine go_aload B d0_64 rfl rfl ?_
  refine go_virtual B (W := 0) (a := a117) (argsL := []) (st := []) d0_66 (w_151 H) (w_152 H) (w_154 H) (w_153 H) (w_10 H) (w_155 H) (by decide) E123 (rm_costs H a117 l118 h135 (Nat.le_trans Z0 K121.1) f127) pd_6 rfl rfl rfl rfl (by decide) (by decide) (by decide) (by decide) ?_
  rintro _ h143 ⟨rfl, rfl⟩
  show Go κ _ h135 _ _ 69 #[.val (.int p0), .val (.int p1), .val (.int p2), .val (.ref kd115), .val (.double (FP.i2d p1)), .second, .val (.double (FP.i2d p2)), .second, .val (.ref a117), .unset] [(.ref l118)]
  refine go_astore B #[.val (.int p0), .val (.int p1), .val (.int p2), .val (.ref kd115), .val (.double (FP.i2d p1)), .second, .val (.double (FP.i2d p2)), .second, .val (.ref a117), .val (.ref l118)] d0_69 rfl rfl ?_
  refine go_aload B d0_71 rfl rfl ?_
  refine go_interface B (W' := 0) (a := l118) (argsL := []) (st := []) d0_73 (w_156 H) (w_157 H) (w_158 H) (by decide) (w_159 H) (w_160 H) (w_161 H) (w_162 H) (w_116 H) (w_46 H) (w_163 H) (by decide) E128 (rmSz H l118 b119 b120 em h135 (Nat.le_trans Z0 K121.1) f129 f130 (sta_keep SM K121 all0) ne_b120) pd_14 rfl rfl rfl rfl (by decide) (by decide) (by decide) (by decide) ?_
  rintro _ h144 ⟨rfl, rfl⟩
  show Go κ _ h135 _ _ 78 #[.val (.int p0), .val (.int p1), .val (.int p2), .val (.ref kd115), .val (.double (FP.i2d p1)), .second, .val (.double (FP.i2d p2)), .second, .val (.ref a117), .val (.ref l118)] [(.int (2 : Int32))]
  refine go_iconst B (x := (2 : Int32)) d0_78 rfl ?_
  refine go_icmpeq B d0_79 (fun c79 => ?_) (fun c79 => ?_)
  rotate_left
  · exact absurd c79 (by decide)
  refine go_aload B d0_84 rfl rfl ?_
  refine go_iconst B (x := (0 : Int32)) d0_86 rfl ?_
  refine go_interface B (W' := 0) (a := l118) (argsL := [(.int (0 : Int32))]) (st := []) d0_87 (w_165 H) (w_166 H) (w_167 H) (by decide) (w_168 H) (w_169 H) (w_170 H) (w_171 H) (w_116 H) (w_46 H) (w_172 H) (by decide) E128 (rmG0 H l118 b119 b120 em h135 (Nat.le_trans Z0 K121.1) f129 f130 (sta_keep SM K121 all0) ne_b120) pd_15 rfl rfl rfl rfl (by decide) (by decide) (by decide) (by decide) ?_
  rintro _ h145 ⟨rfl, rfl⟩
  show Go κ _ h135 _ _ 92 #[.val (.int p0), .val (.int p1), .val (.int p2), .val (.ref kd115), .val (.double (FP.i2d p1)), .second, .val (.double (FP.i2d p2)), .second, .val (.ref a117), .val (.ref l118)] [(.ref b119)]
  refine go_checkcast B d0_92 (w_173 H) (Ins.self E131) ?_
  refine go_virtual B (W := 0) (a := b119) (argsL := []) (st := []) d0_95 (w_174 H) (w_175 H) (w_177 H) (w_176 H) (w_22 H) (w_178 H) (by decide) E131 (rmDo H b119 (FP.i2d p1) h135 (Nat.le_trans Z0 K121.1) f132) pd_16 rfl rfl rfl rfl (by decide) (by decide) (by decide) (by decide) ?_
  rintro _ h146 ⟨rfl, rfl⟩
  show Go κ _ h135 _ _ 98 #[.val (.int p0), .val (.int p1), .val (.int p2), .val (.ref kd115), .val (.double (FP.i2d p1)), .second, .val (.double (FP.i2d p2)), .second, .val (.ref a117), .val (.ref l118)] [(.double (FP.i2d p1))]
  refine go_dload B d0_98 rfl ?_
  refine go_dcmp B (x := (0 : Int32)) d0_100 (ii_eq p1 .l) ?_
  refine go_ifne B d0_101 (fun c101 => ?_) (fun c101 => ?_)
  · exact absurd c101 (by decide)
  refine go_aload B d0_104 rfl rfl ?_
  refine go_iconst B (x := (1 : Int32)) d0_106 rfl ?_
  refine go_interface B (W' := 0) (a := l118) (argsL := [(.int (1 : Int32))]) (st := []) d0_107 (w_165 H) (w_166 H) (w_167 H) (by decide) (w_168 H) (w_169 H) (w_170 H) (w_171 H) (w_116 H) (w_46 H) (w_172 H) (by decide) E128 (rmG1 H l118 b119 b120 em h135 (Nat.le_trans Z0 K121.1) f129 f130 (sta_keep SM K121 all0) ne_b120) pd_15 rfl rfl rfl rfl (by decide) (by decide) (by decide) (by decide) ?_
  rintro _ h147 ⟨rfl, rfl⟩
  show Go κ _ h135 _ _ 112 #[.val (.int p0), .val (.int p1), .val (.int p2), .val (.ref kd115), .val (.double (FP.i2d p1)), .second, .val (.double (FP.i2d p2)), .second, .val (.ref a117), .val (.ref l118)] [(.ref b120)]
  refine go_checkcast B d0_112 (w_173 H) (Ins.self E133) ?_
  refine go_virtual B (W := 0) (a := b120) (argsL := []) (st := []) d0_115 (w_174 H) (w_175 H) (w_177 H) (w_176 H) (w_22 H) (w_178 H) (by decide) E133 (rmDo H b120 (FP.i2d p2) h135 (Nat.le_trans Z0 K121.1) f134) pd_16 rfl rfl rfl rfl (by decide) (by decide) (by decide) (by decide) ?_
  rintro _ h148 ⟨rfl, rfl⟩
  show Go κ _ h135 _ _ 118 #[.val (.int p0), .val (.int p1), .val (.int p2), .val (.ref kd115), .val (.double (FP.i2d p1)), .second, .val (.double (FP.i2d p2)), .second, .val (.ref a117), .val (.ref l118)] [(.double (FP.i2d p2))]
  refine go_dload B d0_118 rfl ?_
  refine go_dcmp B (x := (0 : Int32)) d0_120 (ii_eq p2 .l) ?_
  refine go_ifne B d0_121 (fun c121 => ?_) (fun c121 => ?_)
  · exact absurd c121 (by decide)
  refine go_iconst B (x := (1 : Int32)) d0_124 rfl ?_
  refine go_goto B d0_125 ?_
  refine go_zreturn B (y := (1 : Int32)) d0_129 (by decide) (by decide) (by decide) ?_ (hkm := K137)
  exact rfl
theorem w_6 {a0 : Array Value} {Z : State} (H : Wd a0 Z) : (Jvm.Cond.initialized "com/example/baseload/baseload/model/Violation$Kind").before a0 Z = true := H _ (List.mem_of_getElem? (i := 6) rfl)
theorem w_7 {a0 : Array Value} {Z : State} (H : Wd a0 Z) : (Jvm.Cond.laysStatic "com/example/baseload/baseload/model/Violation$Kind" "COST" "Lcom/example/baseload/baseload/model/Violation$Kind;").before a0 Z = true := H _ (List.mem_of_getElem? (i := 7) rfl)
theorem w_180 {a0 : Array Value} {Z : State} (H : Wd a0 Z) : (Jvm.Cond.laysStatic "com/example/baseload/baseload/model/Violation$Kind" "OPENING" "Lcom/example/baseload/baseload/model/Violation$Kind;").before a0 Z = true := H _ (List.mem_of_getElem? (i := 180) rfl)
theorem w_182 {a0 : Array Value} {Z : State} (H : Wd a0 Z) : (Jvm.Cond.laysStatic "com/example/baseload/baseload/model/Violation$Kind" "CONNECTION" "Lcom/example/baseload/baseload/model/Violation$Kind;").before a0 Z = true := H _ (List.mem_of_getElem? (i := 182) rfl)
set_option maxRecDepth 65536 in
set_option maxHeartbeats 40000000 in
theorem comes_1 {Post : Tables → Env → Array Value → State → Outcome → State → Prop} (hpost : ∀ tb e args s v u, (limb_1_1.after args s (.returned v) u = true ∧ limb_1_2.after args s (.returned v) u = true ∧ True) → FramedW s (.returned v) u (Jvm.fieldLocs frame_1_writes args s ++ Jvm.arrayLocs frame_1_arrays args s ++ Jvm.staticLocs frame_1_statics s) 24 1152 → Post tb e args s (.returned v) u) :
    ArmFor flags0 classFile x code maxLocals ret World_1 tables_1 room_1 Calls_1 rest_1 Pre_1 Post := by
  intro l hfl _ _ p e ha hc hk s m args below hf hA hF happ hP
  obtain ⟨hcalls, hrest, hpre⟩ := hP
  obtain ⟨-, -, -, hnamed, -, -, -, hat⟩ := (Spec.applies_iff hf).mp happ
  obtain ⟨hg, hn⟩ := and_e (Cond.before_iff.mp (show (Jvm.Cond.and given_1 narrow_1).before args s = true from hpre))
  obtain ⟨hg0, hg1⟩ := and_e hg
  obtain ⟨hk0, hg2⟩ := and_e hg1
  obtain ⟨hk1, hg3⟩ := and_e hg2
  have hk2 := hg3
  obtain ⟨w0, w1, w2, rfl⟩ : ∃ w0 w1 w2 : Value, args = #[w0, w1, w2] := by
    have hs : args.size = 3 := by simpa [Cond.value, given_1] using hg0
    obtain ⟨L⟩ := args
    match L, hs with
    | [w0, w1, w2], _ => exact ⟨w0, w1, w2, rfl⟩
  have hw : Wd _ s := fun d (hd : d ∈ tables_1) => atoms_spec (ws := Jvm.Cond.code x code maxLocals ret :: tables_1) hat d (List.mem_cons_of_mem _ hd)
  obtain ⟨m0, rk⟩ := and_e hn
  obtain ⟨m1, m2⟩ := and_e rk
  obtain ⟨k0, ev0⟩ := exa_v m0
  have S0 := Sta.start ev0 (Or.inr ⟨(w_6 hw), (w_7 hw)⟩)
  obtain ⟨k1, ev1⟩ := exa_v m1
  have S1 := Sta.start ev1 (Or.inr ⟨(w_6 hw), (w_180 hw)⟩)
  obtain ⟨k2, ev2⟩ := exa_v m2
  have S2 := Sta.start ev2 (Or.inr ⟨(w_6 hw), (w_182 hw)⟩)
  have hr0 := Cond.before_iff.mp (show rest_1_c.before _ s = true from hrest)
  obtain ⟨q0, hr1⟩ := and_e hr0
  obtain ⟨q1, hr2⟩ := and_e hr1
  obtain ⟨q2, hr3⟩ := and_e hr2
  obtain ⟨q3, hr4⟩ := and_e hr3
  obtain ⟨q4, hr5⟩ := and_e hr4
  obtain ⟨q5, hr6⟩ := and_e hr5
  obtain ⟨q6, hr7⟩ := and_e hr6
  obtain ⟨q7, hr8⟩ := and_e hr7
  obtain ⟨q8, hr9⟩ := and_e hr8
  obtain ⟨q9, hr10⟩ := and_e hr9
  obtain ⟨el, evl⟩ := exa_v q2
  have EN := Exa.start evl q2
  have SL := Sta.start evl (Or.inl (Cond.before_iff.mpr q1))
  obtain ⟨ee, eve⟩ := arr_v q3
  have FE := Fld.start ((fld_at evl).symm.trans eve)
  have AE : AV s s.heap ee (.object "java/lang/Object") [] := av_ints (xs := []) eve q3 q5 (fun i hi => absurd hi (Nat.not_lt_zero _))
  have FN := int_fld evl q6
  obtain ⟨em, evm⟩ := exa_v q9
  have EM := Exa.start evm q9
  have SM := Sta.start evm (Or.inl (Cond.before_iff.mpr q8))
  obtain ⟨i0, e0⟩ := is_v hk0
  obtain rfl : w0 = (.int i0) := Option.some.inj e0
  obtain ⟨i1, e1⟩ := is_v hk1
  obtain rfl : w1 = (.int i1) := Option.some.inj e1
  obtain ⟨i2, e2⟩ := is_v hk2
  obtain rfl : w2 = (.int i2) := Option.some.inj e2
  obtain ⟨n, o, h1, h2, h3, _, L, rfl, ⟨rfl, N⟩, hq⟩ := rm0 (l := l) hw i0 i1 i2 s.heap (Nat.le_refl _) S0 S1 S2 SL EN FN SM EM FE AE p e ha hc hk s m _ below hf ((Spec.applies_iff_loose hf).mp happ).1 ⟨rfl, State.Warmed39.refl s, rfl⟩ trivial
  refine ⟨n, _, h1, h2, h3, hpost _ _ _ _ _ _ ⟨Cond.after_iff.mpr rfl, Cond.after_iff.mpr (eq_i res_at (Term.int_eval (1)) rfl), trivial⟩ ⟨hq.1, hq.2.1, hq.2.2.1, (hq.2.2.2.sift fun y hy => Or.inr (N y hy)).mono (by decide) (by decide)⟩⟩
theorem main_1_1 : Claimed_1_1 := comes_1 fun _ _ _ _ _ _ h hF => ⟨h.1, hF⟩
theorem main_1_2 : Claimed_1_2 := comes_1 fun _ _ _ _ _ _ h hF => ⟨h.2.1, hF⟩
end Jvm.Pilot.@@N@@
namespace Jvm.Pilot.@@N@@
open Jvm Jvm.ClassFile Sem Op Lib Jvm.Free Jvm.Stand Jvm.Pilot.@@N@@.Jvm.D
/-! MADE BY PROGRAM (witnessworld.py) out of the Statement's table words and the real class files: 32 classes; the members and pool entries that the words name. The judged class is class 1, her method 2. -/
namespace start1
open Jvm.ClassFile
def u (s : String) : CpInfo := .utf8 (stringToUtf16 s)
/-- a pool by its gaps: so many unusable entries, then the entry; so many at the end -/
def gap : Nat → List CpInfo → List CpInfo
  | 0, r => r
  | n + 1, r => .unusable :: gap n r
def poolList (es : List (Nat × CpInfo)) (last : Nat) : List CpInfo := es.foldr (fun e r => gap e.1 (e.2 :: r)) (gap last [])
def pool (es : List (Nat × CpInfo)) (last : Nat) : Array CpInfo := ⟨poolList es last⟩
def fileOf (pool : Array CpInfo) (this : Nat) (attrs : Array Attribute := #[]) (ms : Array MethodInfo := #[]) (fl : Nat := 33) (sup : Nat := 0) (ifs : Array Nat := #[]) (fds : Array FieldInfo := #[]) : ClassFile where
  minorVersion := 0
  majorVersion := 65
  constantPool := pool
  accessFlags := fl
  thisClass := this
  superClass := sup
  interfaces := ifs
  fields := fds
  methods := ms
  attributes := attrs
def plain (name : String) (sup : Option ClassId) : Class where
  name := name
  kind := .ordinary
  loader := none
  accessFlags := 33
  super := sup
  interfaces := #[]
  cf := none
  fields := #[]
  methods := #[]
  instanceTypes := #[]
  staticTypes := #[]
  resolved := #[]
  callSites := []
  init := .initialized
  statics := none
  mirror := none

def pool0 : Array CpInfo := pool [(5, u "<init>"), (0, u "()V"), (1, .class_ 10), (1, u "java/lang/Object")] 113

def k0c0 : Code := { maxStack := 0, maxLocals := 1, code := object_method_1_code, exceptionTable := #[], attributes := #[] }
def k0m0 : Method := { name := "<init>", desc := "()V", sig := { parameters := [], returnType := none }, accessFlags := 1, code := some k0c0 }
/-- java/lang/Object -/
def k0 : Class := { plain "java/lang/Object" none with
  accessFlags := 33
  interfaces := #[]
  cf := some (fileOf pool0 8 #[] #[{ accessFlags := 1, nameIndex := 5, descriptorIndex := 6, attributes := #[] }] 33 0 #[] #[])
  fields := #[]
  methods := #[k0m0]
  instanceTypes := #[]
  staticTypes := #[]
  resolved := Array.replicate 124 none
  statics := none }

def pool1 : Array CpInfo := pool [(2, .class_ 4), (1, u "java/lang/Object"), (0, u "<init>"), (0, u "()V"), (0, .integer 2147483647), (0, .fieldref 9 10), (0, .class_ 11), (0, .nameAndType 12 13), (0, u "com/example/baseload/baseload/model/Violation$Kind"), (0, u "COST"), (0, u "Lcom/example/baseload/baseload/model/Violation$Kind;"), (0, .fieldref 9 15), (0, .nameAndType 16 13), (0, u "OPENING"), (0, .fieldref 9 18), (0, .nameAndType 19 13), (0, u "CONNECTION"), (0, .methodref 21 22), (0, .class_ 23), (0, .nameAndType 24 25), (0, u "com/example/baseload/baseload/model/ViolationCostPinLaw"), (0, u "pickKind"), (0, u "(I)Lcom/example/baseload/baseload/model/Violation$Kind;"), (0, .methodref 27 28), (0, .class_ 29), (0, .nameAndType 30 31), (0, u "com/example/baseload/baseload/model/Violation"), (0, u "cost"), (0, u "(Lcom/example/baseload/baseload/model/Violation$Kind;DD)Lcom/example/baseload/baseload/model/Violation;"), (0, .methodref 27 33), (0, .nameAndType 34 35), (0, u "kind"), (0, u "()Lcom/example/baseload/baseload/model/Violation$Kind;"), (0, .methodref 27 37), (0, .nameAndType 38 39), (0, u "ids"), (0, u "()Ljava/util/List;"), (0, .interfaceMethodref 41 42), (0, .class_ 43), (0, .nameAndType 44 45), (0, u "java/util/List"), (0, u "isEmpty"), (0, u "()Z"), (0, .methodref 27 47), (0, .nameAndType 48 39), (0, u "counts"), (0, .methodref 27 50), (0, .nameAndType 51 39), (0, u "costs"), (0, .interfaceMethodref 41 53), (0, .nameAndType 54 55), (0, u "size"), (0, u "()I"), (0, .interfaceMethodref 41 57), (0, .nameAndType 58 59), (0, u "get"), (0, u "(I)Ljava/lang/Object;"), (0, .class_ 61), (0, u "java/lang/Double"), (0, .methodref 60 63), (0, .nameAndType 64 65), (0, u "doubleValue"), (0, u "()D"), (3, u "law"), (0, u "(III)Z")] 4

def k1m0 : Method := { name := "<init>", desc := "()V", sig := { parameters := [], returnType := none }, accessFlags := 1, code := none }
def k1c1 : Code := { maxStack := 2, maxLocals := 2, code := method_2_code, exceptionTable := #[], attributes := #[] }
def k1m1 : Method := { name := "pickKind", desc := "(I)Lcom/example/baseload/baseload/model/Violation$Kind;", sig := { parameters := [.int], returnType := some (.object "com/example/baseload/baseload/model/Violation$Kind") }, accessFlags := 10, code := some k1c1 }
def k1c2 : Code := { maxStack := 5, maxLocals := 10, code := code, exceptionTable := #[], attributes := #[] }
def k1m2 : Method := { name := "law", desc := "(III)Z", sig := { parameters := [.int, .int, .int], returnType := some .boolean }, accessFlags := 9, code := some k1c2 }
/-- com/example/baseload/baseload/model/ViolationCostPinLaw -/
def k1 : Class := { plain "com/example/baseload/baseload/model/ViolationCostPinLaw" (some 0) with
  accessFlags := 49
  interfaces := #[]
  cf := some (fileOf pool1 21 #[] #[{ accessFlags := 1, nameIndex := 5, descriptorIndex := 6, attributes := #[] }, { accessFlags := 10, nameIndex := 24, descriptorIndex := 25, attributes := #[] }, { accessFlags := 9, nameIndex := 69, descriptorIndex := 70, attributes := #[] }] 49 2 #[] #[])
  fields := #[]
  methods := #[k1m0, k1m1, k1m2]
  instanceTypes := #[]
  staticTypes := #[]
  resolved := Array.replicate 75 none
  statics := none }

def pool2 : Array CpInfo := pool [(1, .class_ 2), (0, u "java/lang/constant/Constable"), (0, .class_ 4), (0, u "java/lang/Object")] 6

/-- java/lang/constant/Constable -/
def k2 : Class := { plain "java/lang/constant/Constable" (some 0) with
  accessFlags := 1537
  interfaces := #[]
  cf := some (fileOf pool2 1 #[] #[] 1537 3 #[] #[])
  fields := #[]
  methods := #[]
  instanceTypes := #[]
  staticTypes := #[]
  resolved := Array.replicate 11 none
  statics := none }

def pool3 : Array CpInfo := pool [(1, .class_ 2), (0, u "java/lang/Comparable"), (0, .class_ 4), (0, u "java/lang/Object")] 7

/-- java/lang/Comparable -/
def k3 : Class := { plain "java/lang/Comparable" (some 0) with
  accessFlags := 1537
  interfaces := #[]
  cf := some (fileOf pool3 1 #[] #[] 1537 3 #[] #[])
  fields := #[]
  methods := #[]
  instanceTypes := #[]
  staticTypes := #[]
  resolved := Array.replicate 12 none
  statics := none }

def pool4 : Array CpInfo := pool [(1, .class_ 2), (0, u "java/io/Serializable"), (0, .class_ 4), (0, u "java/lang/Object")] 2

/-- java/io/Serializable -/
def k4 : Class := { plain "java/io/Serializable" (some 0) with
  accessFlags := 1537
  interfaces := #[]
  cf := some (fileOf pool4 1 #[] #[] 1537 3 #[] #[])
  fields := #[]
  methods := #[]
  instanceTypes := #[]
  staticTypes := #[]
  resolved := Array.replicate 7 none
  statics := none }

def pool5 : Array CpInfo := pool [(2, .class_ 4), (1, u "java/lang/Enum"), (0, u "name"), (0, u "Ljava/lang/String;"), (2, u "ordinal"), (0, u "I"), (1, .class_ 14), (1, u "java/lang/Object"), (4, u "hash"), (86, .class_ 108), (1, u "java/lang/Enum$EnumDesc"), (2, .class_ 112), (0, u "java/lang/constant/Constable"), (0, .class_ 114), (0, u "java/lang/Comparable"), (0, .class_ 116), (0, u "java/io/Serializable")] 87

/-- java/lang/Enum -/
def k5 : Class := { plain "java/lang/Enum" (some 0) with
  accessFlags := 1057
  interfaces := #[2, 3, 4]
  cf := some (fileOf pool5 2 #[.nestMembers #[106]] #[] 1057 12 #[111, 113, 115] #[{ accessFlags := 18, nameIndex := 5, descriptorIndex := 6, attributes := #[] }, { accessFlags := 18, nameIndex := 9, descriptorIndex := 10, attributes := #[] }, { accessFlags := 2, nameIndex := 19, descriptorIndex := 10, attributes := #[] }])
  fields := #[{ name := "name", type := (.object "java/lang/String"), accessFlags := 18, slot := 0, constantValue := 0 }, { name := "ordinal", type := .int, accessFlags := 18, slot := 1, constantValue := 0 }, { name := "hash", type := .int, accessFlags := 2, slot := 2, constantValue := 0 }]
  methods := #[]
  instanceTypes := #[(.object "java/lang/String"), .int, .int]
  staticTypes := #[]
  resolved := Array.replicate 204 none
  statics := none }

def pool6 : Array CpInfo := pool [(1, .class_ 2), (0, u "com/example/baseload/baseload/model/Violation$Kind"), (2, u "UNKNOWN_FACILITY"), (0, u "Lcom/example/baseload/baseload/model/Violation$Kind;"), (2, u "UNKNOWN_CLIENT"), (2, u "UNASSIGNED"), (2, u "NOT_OPEN"), (2, u "LOAD"), (2, u "BELOW_BOUND"), (2, u "CAPACITY"), (2, u "OPEN"), (2, u "COST"), (2, u "OPENING"), (2, u "CONNECTION"), (2, u "$VALUES"), (0, u "[Lcom/example/baseload/baseload/model/Violation$Kind;"), (6, .class_ 49), (1, u "java/lang/Enum"), (34, .class_ 85), (0, u "com/example/baseload/baseload/model/Violation")] 2

/-- com/example/baseload/baseload/model/Violation$Kind -/
def k6 : Class := { plain "com/example/baseload/baseload/model/Violation$Kind" (some 5) with
  accessFlags := 16433
  interfaces := #[]
  cf := some (fileOf pool6 1 #[.nestHost 84] #[] 16433 47 #[] #[{ accessFlags := 16409, nameIndex := 5, descriptorIndex := 6, attributes := #[] }, { accessFlags := 16409, nameIndex := 9, descriptorIndex := 6, attributes := #[] }, { accessFlags := 16409, nameIndex := 12, descriptorIndex := 6, attributes := #[] }, { accessFlags := 16409, nameIndex := 15, descriptorIndex := 6, attributes := #[] }, { accessFlags := 16409, nameIndex := 18, descriptorIndex := 6, attributes := #[] }, { accessFlags := 16409, nameIndex := 21, descriptorIndex := 6, attributes := #[] }, { accessFlags := 16409, nameIndex := 24, descriptorIndex := 6, attributes := #[] }, { accessFlags := 16409, nameIndex := 27, descriptorIndex := 6, attributes := #[] }, { accessFlags := 16409, nameIndex := 30, descriptorIndex := 6, attributes := #[] }, { accessFlags := 16409, nameIndex := 33, descriptorIndex := 6, attributes := #[] }, { accessFlags := 16409, nameIndex := 36, descriptorIndex := 6, attributes := #[] }, { accessFlags := 4122, nameIndex := 39, descriptorIndex := 40, attributes := #[] }])
  fields := #[{ name := "UNKNOWN_FACILITY", type := (.object "com/example/baseload/baseload/model/Violation$Kind"), accessFlags := 16409, slot := 0, constantValue := 0 }, { name := "UNKNOWN_CLIENT", type := (.object "com/example/baseload/baseload/model/Violation$Kind"), accessFlags := 16409, slot := 1, constantValue := 0 }, { name := "UNASSIGNED", type := (.object "com/example/baseload/baseload/model/Violation$Kind"), accessFlags := 16409, slot := 2, constantValue := 0 }, { name := "NOT_OPEN", type := (.object "com/example/baseload/baseload/model/Violation$Kind"), accessFlags := 16409, slot := 3, constantValue := 0 }, { name := "LOAD", type := (.object "com/example/baseload/baseload/model/Violation$Kind"), accessFlags := 16409, slot := 4, constantValue := 0 }, { name := "BELOW_BOUND", type := (.object "com/example/baseload/baseload/model/Violation$Kind"), accessFlags := 16409, slot := 5, constantValue := 0 }, { name := "CAPACITY", type := (.object "com/example/baseload/baseload/model/Violation$Kind"), accessFlags := 16409, slot := 6, constantValue := 0 }, { name := "OPEN", type := (.object "com/example/baseload/baseload/model/Violation$Kind"), accessFlags := 16409, slot := 7, constantValue := 0 }, { name := "COST", type := (.object "com/example/baseload/baseload/model/Violation$Kind"), accessFlags := 16409, slot := 8, constantValue := 0 }, { name := "OPENING", type := (.object "com/example/baseload/baseload/model/Violation$Kind"), accessFlags := 16409, slot := 9, constantValue := 0 }, { name := "CONNECTION", type := (.object "com/example/baseload/baseload/model/Violation$Kind"), accessFlags := 16409, slot := 10, constantValue := 0 }, { name := "$VALUES", type := (.array (.object "com/example/baseload/baseload/model/Violation$Kind")), accessFlags := 4122, slot := 11, constantValue := 0 }]
  methods := #[]
  instanceTypes := #[(.object "java/lang/String"), .int, .int]
  staticTypes := #[(.object "com/example/baseload/baseload/model/Violation$Kind"), (.object "com/example/baseload/baseload/model/Violation$Kind"), (.object "com/example/baseload/baseload/model/Violation$Kind"), (.object "com/example/baseload/baseload/model/Violation$Kind"), (.object "com/example/baseload/baseload/model/Violation$Kind"), (.object "com/example/baseload/baseload/model/Violation$Kind"), (.object "com/example/baseload/baseload/model/Violation$Kind"), (.object "com/example/baseload/baseload/model/Violation$Kind"), (.object "com/example/baseload/baseload/model/Violation$Kind"), (.object "com/example/baseload/baseload/model/Violation$Kind"), (.object "com/example/baseload/baseload/model/Violation$Kind"), (.array (.object "com/example/baseload/baseload/model/Violation$Kind"))]
  resolved := Array.replicate 88 none
  statics := some 0 }

def pool7 : Array CpInfo := pool [(1, .methodref 2 3), (0, .class_ 4), (0, .nameAndType 5 6), (0, u "java/lang/Object"), (0, u "<init>"), (0, u "()V"), (0, .class_ 8), (0, u "java/lang/Record")] 13

def k7c0 : Code := { maxStack := 1, maxLocals := 1, code := jdk_30_method_1_code, exceptionTable := #[], attributes := #[] }
def k7m0 : Method := { name := "<init>", desc := "()V", sig := { parameters := [], returnType := none }, accessFlags := 4, code := some k7c0 }
/-- java/lang/Record -/
def k7 : Class := { plain "java/lang/Record" (some 0) with
  accessFlags := 1057
  interfaces := #[]
  cf := some (fileOf pool7 7 #[] #[{ accessFlags := 4, nameIndex := 5, descriptorIndex := 6, attributes := #[] }] 1057 2 #[] #[])
  fields := #[]
  methods := #[k7m0]
  instanceTypes := #[]
  staticTypes := #[]
  resolved := Array.replicate 22 none
  statics := none }

def pool8 : Array CpInfo := pool [(1, .methodref 2 3), (0, .class_ 4), (0, .nameAndType 5 6), (0, u "java/lang/Record"), (0, u "<init>"), (0, u "()V"), (0, .string 8), (0, u "kind"), (0, .methodref 10 11), (0, .class_ 12), (0, .nameAndType 13 14), (0, u "java/util/Objects"), (0, u "requireNonNull"), (0, u "(Ljava/lang/Object;Ljava/lang/String;)Ljava/lang/Object;"), (0, .interfaceMethodref 16 17), (0, .class_ 18), (0, .nameAndType 19 20), (0, u "java/util/List"), (0, u "copyOf"), (0, u "(Ljava/util/Collection;)Ljava/util/List;"), (0, .fieldref 22 23), (0, .class_ 24), (0, .nameAndType 8 25), (0, u "com/example/baseload/baseload/model/Violation"), (0, u "Lcom/example/baseload/baseload/model/Violation$Kind;"), (0, .fieldref 22 27), (0, .nameAndType 28 29), (0, u "ids"), (0, u "Ljava/util/List;"), (0, .fieldref 22 31), (0, .nameAndType 32 29), (0, u "counts"), (0, .fieldref 22 34), (0, .nameAndType 35 29), (0, u "costs"), (1, .class_ 39), (1, u "com/example/baseload/baseload/model/Violation$Kind"), (3, u "of"), (1, .interfaceMethodref 16 46), (0, .nameAndType 43 47), (0, u "()Ljava/util/List;"), (0, .methodref 22 49), (0, .nameAndType 5 50), (0, u "(Lcom/example/baseload/baseload/model/Violation$Kind;Ljava/util/List;Ljava/util/List;Ljava/util/List;)V"), (10, u "valueOf"), (1, .interfaceMethodref 16 64), (0, .nameAndType 43 65), (0, u "(Ljava/lang/Object;Ljava/lang/Object;)Ljava/util/List;"), (15, .methodref 82 83), (0, .class_ 84), (0, .nameAndType 61 85), (0, u "java/lang/Double"), (0, u "(D)Ljava/lang/Double;"), (32, u "cost"), (0, u "(Lcom/example/baseload/baseload/model/Violation$Kind;DD)Lcom/example/baseload/baseload/model/Violation;"), (3, u "()Lcom/example/baseload/baseload/model/Violation$Kind;")] 28

def k8c0 : Code := { maxStack := 2, maxLocals := 5, code := prog_22_method_1_code, exceptionTable := #[], attributes := #[] }
def k8m0 : Method := { name := "<init>", desc := "(Lcom/example/baseload/baseload/model/Violation$Kind;Ljava/util/List;Ljava/util/List;Ljava/util/List;)V", sig := { parameters := [(.object "com/example/baseload/baseload/model/Violation$Kind"), (.object "java/util/List"), (.object "java/util/List"), (.object "java/util/List")], returnType := none }, accessFlags := 1, code := some k8c0 }
def k8c1 : Code := { maxStack := 8, maxLocals := 5, code := prog_22_method_10_code, exceptionTable := #[], attributes := #[] }
def k8m1 : Method := { name := "cost", desc := "(Lcom/example/baseload/baseload/model/Violation$Kind;DD)Lcom/example/baseload/baseload/model/Violation;", sig := { parameters := [(.object "com/example/baseload/baseload/model/Violation$Kind"), .double, .double], returnType := some (.object "com/example/baseload/baseload/model/Violation") }, accessFlags := 8, code := some k8c1 }
def k8c2 : Code := { maxStack := 1, maxLocals := 1, code := prog_22_method_14_code, exceptionTable := #[], attributes := #[] }
def k8m2 : Method := { name := "kind", desc := "()Lcom/example/baseload/baseload/model/Violation$Kind;", sig := { parameters := [], returnType := some (.object "com/example/baseload/baseload/model/Violation$Kind") }, accessFlags := 1, code := some k8c2 }
def k8c3 : Code := { maxStack := 1, maxLocals := 1, code := prog_22_method_15_code, exceptionTable := #[], attributes := #[] }
def k8m3 : Method := { name := "ids", desc := "()Ljava/util/List;", sig := { parameters := [], returnType := some (.object "java/util/List") }, accessFlags := 1, code := some k8c3 }
def k8c4 : Code := { maxStack := 1, maxLocals := 1, code := prog_22_method_16_code, exceptionTable := #[], attributes := #[] }
def k8m4 : Method := { name := "counts", desc := "()Ljava/util/List;", sig := { parameters := [], returnType := some (.object "java/util/List") }, accessFlags := 1, code := some k8c4 }
def k8c5 : Code := { maxStack := 1, maxLocals := 1, code := prog_22_method_17_code, exceptionTable := #[], attributes := #[] }
def k8m5 : Method := { name := "costs", desc := "()Ljava/util/List;", sig := { parameters := [], returnType := some (.object "java/util/List") }, accessFlags := 1, code := some k8c5 }
/-- com/example/baseload/baseload/model/Violation -/
def k8 : Class := { plain "com/example/baseload/baseload/model/Violation" (some 7) with
  accessFlags := 49
  interfaces := #[]
  cf := some (fileOf pool8 22 #[.nestMembers #[37]] #[{ accessFlags := 1, nameIndex := 5, descriptorIndex := 50, attributes := #[] }, { accessFlags := 8, nameIndex := 118, descriptorIndex := 119, attributes := #[] }, { accessFlags := 1, nameIndex := 8, descriptorIndex := 123, attributes := #[] }, { accessFlags := 1, nameIndex := 28, descriptorIndex := 47, attributes := #[] }, { accessFlags := 1, nameIndex := 32, descriptorIndex := 47, attributes := #[] }, { accessFlags := 1, nameIndex := 35, descriptorIndex := 47, attributes := #[] }] 49 2 #[] #[{ accessFlags := 18, nameIndex := 8, descriptorIndex := 25, attributes := #[] }, { accessFlags := 18, nameIndex := 28, descriptorIndex := 29, attributes := #[] }, { accessFlags := 18, nameIndex := 32, descriptorIndex := 29, attributes := #[] }, { accessFlags := 18, nameIndex := 35, descriptorIndex := 29, attributes := #[] }])
  fields := #[{ name := "kind", type := (.object "com/example/baseload/baseload/model/Violation$Kind"), accessFlags := 18, slot := 0, constantValue := 0 }, { name := "ids", type := (.object "java/util/List"), accessFlags := 18, slot := 1, constantValue := 0 }, { name := "counts", type := (.object "java/util/List"), accessFlags := 18, slot := 2, constantValue := 0 }, { name := "costs", type := (.object "java/util/List"), accessFlags := 18, slot := 3, constantValue := 0 }]
  methods := #[k8m0, k8m1, k8m2, k8m3, k8m4, k8m5]
  instanceTypes := #[(.object "com/example/baseload/baseload/model/Violation$Kind"), (.object "java/util/List"), (.object "java/util/List"), (.object "java/util/List")]
  staticTypes := #[]
  resolved := Array.replicate 152 none
  statics := none }

def pool9 : Array CpInfo := pool [(8, .class_ 10), (1, u "java/lang/Iterable"), (24, .class_ 36), (0, u "java/lang/Object")] 25

/-- java/lang/Iterable -/
def k9 : Class := { plain "java/lang/Iterable" (some 0) with
  accessFlags := 1537
  interfaces := #[]
  cf := some (fileOf pool9 8 #[] #[] 1537 35 #[] #[])
  fields := #[]
  methods := #[]
  instanceTypes := #[]
  staticTypes := #[]
  resolved := Array.replicate 62 none
  statics := none }

def pool10 : Array CpInfo := pool [(10, .class_ 12), (1, u "java/util/Collection"), (47, .class_ 61), (0, u "java/lang/Object"), (0, .class_ 63), (0, u "java/lang/Iterable")] 51

/-- java/util/Collection -/
def k10 : Class := { plain "java/util/Collection" (some 0) with
  accessFlags := 1537
  interfaces := #[9]
  cf := some (fileOf pool10 10 #[] #[] 1537 60 #[62] #[])
  fields := #[]
  methods := #[]
  instanceTypes := #[]
  staticTypes := #[]
  resolved := Array.replicate 115 none
  statics := none }

def pool11 : Array CpInfo := pool [(8, .class_ 10), (1, u "java/util/SequencedCollection"), (15, .class_ 27), (0, u "java/lang/Object"), (0, .class_ 29), (0, u "java/util/Collection")] 27

/-- java/util/SequencedCollection -/
def k11 : Class := { plain "java/util/SequencedCollection" (some 0) with
  accessFlags := 1537
  interfaces := #[10]
  cf := some (fileOf pool11 8 #[] #[] 1537 26 #[28] #[])
  fields := #[]
  methods := #[]
  instanceTypes := #[]
  staticTypes := #[]
  resolved := Array.replicate 57 none
  statics := none }

def pool12 : Array CpInfo := pool [(8, .class_ 10), (1, u "java/util/List"), (7, u "()Z"), (29, u "<init>"), (18, u "isEmpty"), (7, u "get"), (0, u "(I)Ljava/lang/Object;"), (2, u "size"), (0, u "()I"), (7, u "of"), (1, .fieldref 91 92), (0, .class_ 93), (0, .nameAndType 94 95), (0, u "java/util/ImmutableCollections"), (0, u "EMPTY_LIST"), (0, u "Ljava/util/ImmutableCollections$ListN;"), (0, .class_ 97), (0, u "java/util/ImmutableCollections$List12"), (2, .methodref 96 101), (0, .nameAndType 48 102), (0, u "(Ljava/lang/Object;Ljava/lang/Object;)V"), (0, .class_ 104), (0, u "java/lang/Object"), (7, .methodref 91 113), (0, .nameAndType 114 115), (0, u "listCopy"), (0, u "(Ljava/util/Collection;)Ljava/util/List;"), (3, u "()Ljava/util/List;"), (0, .class_ 121), (0, u "java/util/SequencedCollection"), (79, u "(Ljava/lang/Object;Ljava/lang/Object;)Ljava/util/List;"), (32, u "copyOf")] 16

def k12m0 : Method := { name := "size", desc := "()I", sig := { parameters := [], returnType := some .int }, accessFlags := 1025, code := none }
def k12m1 : Method := { name := "isEmpty", desc := "()Z", sig := { parameters := [], returnType := some .boolean }, accessFlags := 1025, code := none }
def k12m2 : Method := { name := "get", desc := "(I)Ljava/lang/Object;", sig := { parameters := [.int], returnType := some (.object "java/lang/Object") }, accessFlags := 1025, code := none }
def k12c3 : Code := { maxStack := 1, maxLocals := 0, code := jdk_40_method_36_code, exceptionTable := #[], attributes := #[] }
def k12m3 : Method := { name := "of", desc := "()Ljava/util/List;", sig := { parameters := [], returnType := some (.object "java/util/List") }, accessFlags := 9, code := some k12c3 }
def k12c4 : Code := { maxStack := 4, maxLocals := 2, code := jdk_40_method_38_code, exceptionTable := #[], attributes := #[] }
def k12m4 : Method := { name := "of", desc := "(Ljava/lang/Object;Ljava/lang/Object;)Ljava/util/List;", sig := { parameters := [(.object "java/lang/Object"), (.object "java/lang/Object")], returnType := some (.object "java/util/List") }, accessFlags := 9, code := some k12c4 }
def k12c5 : Code := { maxStack := 1, maxLocals := 1, code := jdk_40_method_48_code, exceptionTable := #[], attributes := #[] }
def k12m5 : Method := { name := "copyOf", desc := "(Ljava/util/Collection;)Ljava/util/List;", sig := { parameters := [(.object "java/util/Collection")], returnType := some (.object "java/util/List") }, accessFlags := 9, code := some k12c5 }
/-- java/util/List -/
def k12 : Class := { plain "java/util/List" (some 0) with
  accessFlags := 1537
  interfaces := #[11]
  cf := some (fileOf pool12 8 #[] #[{ accessFlags := 1025, nameIndex := 79, descriptorIndex := 80, attributes := #[] }, { accessFlags := 1025, nameIndex := 67, descriptorIndex := 18, attributes := #[] }, { accessFlags := 1025, nameIndex := 75, descriptorIndex := 76, attributes := #[] }, { accessFlags := 9, nameIndex := 88, descriptorIndex := 119, attributes := #[] }, { accessFlags := 9, nameIndex := 88, descriptorIndex := 201, attributes := #[] }, { accessFlags := 9, nameIndex := 234, descriptorIndex := 115, attributes := #[] }] 1537 103 #[120] #[])
  fields := #[]
  methods := #[k12m0, k12m1, k12m2, k12m3, k12m4, k12m5]
  instanceTypes := #[]
  staticTypes := #[]
  resolved := Array.replicate 251 none
  statics := none }

def pool13 : Array CpInfo := pool [(2, .class_ 4), (1, u "java/lang/Object"), (0, u "<init>"), (0, u "()V"), (3, .class_ 11), (0, u "java/util/ImmutableCollections$List12"), (0, .class_ 13), (0, u "java/util/ImmutableCollections$ListN"), (0, .fieldref 12 15), (0, .nameAndType 16 17), (0, u "allowNulls"), (0, u "Z"), (0, .class_ 19), (0, u "java/util/List"), (27, .class_ 49), (1, u "java/util/ImmutableCollections"), (0, u "$assertionsDisabled"), (5, u "[Ljava/lang/Object;"), (5, u "EMPTY_LIST"), (0, u "Ljava/util/ImmutableCollections$ListN;"), (8, u "EMPTY_LIST_NULLS"), (22, u "SALT32L"), (0, u "J"), (2, u "REVERSE"), (6, u "archivedObjects"), (2, u "EMPTY"), (0, u "Ljava/lang/Object;"), (0, .class_ 112), (0, u "java/util/ImmutableCollections$SetN"), (5, u "EMPTY_SET"), (0, u "Ljava/util/ImmutableCollections$SetN;"), (0, .class_ 121), (0, u "java/util/ImmutableCollections$MapN"), (3, u "EMPTY_MAP"), (0, u "Ljava/util/ImmutableCollections$MapN;"), (4, u "EXPAND_FACTOR"), (0, u "I"), (9, u "listCopy"), (0, u "(Ljava/util/Collection;)Ljava/util/List;"), (25, .class_ 170), (0, u "java/util/ImmutableCollections$MapN$MapNIterator"), (0, .class_ 172), (0, u "java/util/ImmutableCollections$MapN$1"), (0, .class_ 174), (0, u "java/util/ImmutableCollections$Map1"), (0, .class_ 176), (0, u "java/util/ImmutableCollections$AbstractImmutableMap"), (0, .class_ 178), (0, u "java/util/ImmutableCollections$SetN$SetNIterator"), (0, .class_ 180), (0, u "java/util/ImmutableCollections$Set12"), (0, .class_ 182), (0, u "java/util/ImmutableCollections$Set12$1"), (0, .class_ 184), (0, u "java/util/ImmutableCollections$AbstractImmutableSet"), (0, .class_ 186), (0, u "java/util/ImmutableCollections$SubList"), (0, .class_ 188), (0, u "java/util/ImmutableCollections$ListItr"), (0, .class_ 190), (0, u "java/util/ImmutableCollections$AbstractImmutableList"), (0, .class_ 192), (0, u "java/util/ImmutableCollections$AbstractImmutableCollection"), (0, .class_ 194), (0, u "java/util/ImmutableCollections$Access"), (0, .class_ 196), (0, u "java/util/ImmutableCollections$Access$1")] 16

def k13m0 : Method := { name := "<init>", desc := "()V", sig := { parameters := [], returnType := none }, accessFlags := 2, code := none }
def k13c1 : Code := { maxStack := 1, maxLocals := 2, code := jdk_56_method_3_code, exceptionTable := #[], attributes := #[] }
def k13m1 : Method := { name := "listCopy", desc := "(Ljava/util/Collection;)Ljava/util/List;", sig := { parameters := [(.object "java/util/Collection")], returnType := some (.object "java/util/List") }, accessFlags := 8, code := some k13c1 }
/-- java/util/ImmutableCollections -/
def k13 : Class := { plain "java/util/ImmutableCollections" (some 0) with
  accessFlags := 32
  interfaces := #[]
  cf := some (fileOf pool13 47 #[.nestMembers #[120, 169, 171, 173, 175, 111, 177, 179, 181, 183, 12, 10, 185, 187, 189, 191, 193, 195]] #[{ accessFlags := 2, nameIndex := 5, descriptorIndex := 6, attributes := #[] }, { accessFlags := 8, nameIndex := 142, descriptorIndex := 143, attributes := #[] }] 32 2 #[] #[{ accessFlags := 26, nameIndex := 95, descriptorIndex := 96, attributes := #[] }, { accessFlags := 26, nameIndex := 99, descriptorIndex := 17, attributes := #[] }, { accessFlags := 10, nameIndex := 106, descriptorIndex := 56, attributes := #[] }, { accessFlags := 26, nameIndex := 109, descriptorIndex := 110, attributes := #[] }, { accessFlags := 24, nameIndex := 62, descriptorIndex := 63, attributes := #[] }, { accessFlags := 24, nameIndex := 72, descriptorIndex := 63, attributes := #[] }, { accessFlags := 24, nameIndex := 118, descriptorIndex := 119, attributes := #[] }, { accessFlags := 24, nameIndex := 125, descriptorIndex := 126, attributes := #[] }, { accessFlags := 24, nameIndex := 131, descriptorIndex := 132, attributes := #[] }, { accessFlags := 4120, nameIndex := 50, descriptorIndex := 17, attributes := #[] }])
  fields := #[{ name := "SALT32L", type := .long, accessFlags := 26, slot := 0, constantValue := 0 }, { name := "REVERSE", type := .boolean, accessFlags := 26, slot := 1, constantValue := 0 }, { name := "archivedObjects", type := (.array (.object "java/lang/Object")), accessFlags := 10, slot := 2, constantValue := 0 }, { name := "EMPTY", type := (.object "java/lang/Object"), accessFlags := 26, slot := 3, constantValue := 0 }, { name := "EMPTY_LIST", type := (.object "java/util/ImmutableCollections$ListN"), accessFlags := 24, slot := 4, constantValue := 0 }, { name := "EMPTY_LIST_NULLS", type := (.object "java/util/ImmutableCollections$ListN"), accessFlags := 24, slot := 5, constantValue := 0 }, { name := "EMPTY_SET", type := (.object "java/util/ImmutableCollections$SetN"), accessFlags := 24, slot := 6, constantValue := 0 }, { name := "EMPTY_MAP", type := (.object "java/util/ImmutableCollections$MapN"), accessFlags := 24, slot := 7, constantValue := 0 }, { name := "EXPAND_FACTOR", type := .int, accessFlags := 24, slot := 8, constantValue := 0 }, { name := "$assertionsDisabled", type := .boolean, accessFlags := 4120, slot := 9, constantValue := 0 }]
  methods := #[k13m0, k13m1]
  instanceTypes := #[]
  staticTypes := #[.long, .boolean, (.array (.object "java/lang/Object")), (.object "java/lang/Object"), (.object "java/util/ImmutableCollections$ListN"), (.object "java/util/ImmutableCollections$ListN"), (.object "java/util/ImmutableCollections$SetN"), (.object "java/util/ImmutableCollections$MapN"), .int, .boolean]
  resolved := Array.replicate 213 none
  statics := some 1 }

def pool14 : Array CpInfo := pool [(1, .methodref 2 3), (0, .class_ 4), (0, .nameAndType 5 6), (0, u "java/lang/Object"), (0, u "<init>"), (0, u "()V"), (1, .class_ 10), (1, u "java/lang/Number"), (2, .class_ 14), (0, u "java/io/Serializable"), (0, u "serialVersionUID"), (0, u "J")] 20

def k14c0 : Code := { maxStack := 1, maxLocals := 1, code := jdk_18_method_1_code, exceptionTable := #[], attributes := #[] }
def k14m0 : Method := { name := "<init>", desc := "()V", sig := { parameters := [], returnType := none }, accessFlags := 1, code := some k14c0 }
/-- java/lang/Number -/
def k14 : Class := { plain "java/lang/Number" (some 0) with
  accessFlags := 1057
  interfaces := #[4]
  cf := some (fileOf pool14 8 #[] #[{ accessFlags := 1, nameIndex := 5, descriptorIndex := 6, attributes := #[] }] 1057 2 #[13] #[{ accessFlags := 26, nameIndex := 15, descriptorIndex := 16, attributes := #[] }])
  fields := #[{ name := "serialVersionUID", type := .long, accessFlags := 26, slot := 0, constantValue := 0 }]
  methods := #[k14m0]
  instanceTypes := #[]
  staticTypes := #[.long]
  resolved := Array.replicate 37 none
  statics := none }

def pool15 : Array CpInfo := pool [(1, .class_ 2), (0, u "java/lang/constant/ConstantDesc"), (0, .class_ 4), (0, u "java/lang/Object")] 32

/-- java/lang/constant/ConstantDesc -/
def k15 : Class := { plain "java/lang/constant/ConstantDesc" (some 0) with
  accessFlags := 1537
  interfaces := #[]
  cf := some (fileOf pool15 1 #[] #[] 1537 3 #[] #[])
  fields := #[]
  methods := #[]
  instanceTypes := #[]
  staticTypes := #[]
  resolved := Array.replicate 37 none
  statics := none }

def pool16 : Array CpInfo := pool [(1, .class_ 2), (0, u "java/lang/Double"), (17, u "<init>"), (84, .methodref 1 106), (0, .nameAndType 20 107), (0, u "(D)V"), (5, .methodref 114 115), (0, .class_ 116), (0, .nameAndType 20 117), (0, u "java/lang/Number"), (0, u "()V"), (0, .fieldref 1 119), (0, .nameAndType 120 121), (0, u "value"), (0, u "D"), (51, u "TYPE"), (0, u "Ljava/lang/Class;"), (0, .class_ 176), (0, u "java/lang/Comparable"), (0, .class_ 178), (0, u "java/lang/constant/Constable"), (0, .class_ 180), (0, u "java/lang/constant/ConstantDesc"), (0, u "POSITIVE_INFINITY"), (3, u "NEGATIVE_INFINITY"), (2, u "NaN"), (2, u "MAX_VALUE"), (0, u "MIN_NORMAL"), (0, u "MIN_VALUE"), (2, u "SIZE"), (0, u "I"), (1, u "PRECISION"), (1, u "MAX_EXPONENT"), (1, u "MIN_EXPONENT"), (1, u "BYTES"), (3, u "serialVersionUID"), (0, u "J"), (14, u "valueOf"), (5, u "(D)Ljava/lang/Double;"), (23, u "doubleValue"), (0, u "()D")] 33

def k16c0 : Code := { maxStack := 4, maxLocals := 2, code := jdk_117_method_4_code, exceptionTable := #[], attributes := #[] }
def k16m0 : Method := { name := "valueOf", desc := "(D)Ljava/lang/Double;", sig := { parameters := [.double], returnType := some (.object "java/lang/Double") }, accessFlags := 9, code := some k16c0 }
def k16c1 : Code := { maxStack := 3, maxLocals := 3, code := jdk_117_method_9_code, exceptionTable := #[], attributes := #[] }
def k16m1 : Method := { name := "<init>", desc := "(D)V", sig := { parameters := [.double], returnType := none }, accessFlags := 1, code := some k16c1 }
def k16c2 : Code := { maxStack := 2, maxLocals := 1, code := jdk_117_method_19_code, exceptionTable := #[], attributes := #[] }
def k16m2 : Method := { name := "doubleValue", desc := "()D", sig := { parameters := [], returnType := some .double }, accessFlags := 1, code := some k16c2 }
/-- java/lang/Double -/
def k16 : Class := { plain "java/lang/Double" (some 14) with
  accessFlags := 49
  interfaces := #[3, 2, 15]
  cf := some (fileOf pool16 1 #[] #[{ accessFlags := 9, nameIndex := 225, descriptorIndex := 231, attributes := #[] }, { accessFlags := 1, nameIndex := 20, descriptorIndex := 107, attributes := #[] }, { accessFlags := 1, nameIndex := 255, descriptorIndex := 256, attributes := #[] }] 49 114 #[175, 177, 179] #[{ accessFlags := 25, nameIndex := 181, descriptorIndex := 121, attributes := #[] }, { accessFlags := 25, nameIndex := 185, descriptorIndex := 121, attributes := #[] }, { accessFlags := 25, nameIndex := 188, descriptorIndex := 121, attributes := #[] }, { accessFlags := 25, nameIndex := 191, descriptorIndex := 121, attributes := #[] }, { accessFlags := 25, nameIndex := 192, descriptorIndex := 121, attributes := #[] }, { accessFlags := 25, nameIndex := 193, descriptorIndex := 121, attributes := #[] }, { accessFlags := 25, nameIndex := 196, descriptorIndex := 197, attributes := #[] }, { accessFlags := 25, nameIndex := 199, descriptorIndex := 197, attributes := #[] }, { accessFlags := 25, nameIndex := 201, descriptorIndex := 197, attributes := #[] }, { accessFlags := 25, nameIndex := 203, descriptorIndex := 197, attributes := #[] }, { accessFlags := 25, nameIndex := 205, descriptorIndex := 197, attributes := #[] }, { accessFlags := 25, nameIndex := 173, descriptorIndex := 174, attributes := #[] }, { accessFlags := 18, nameIndex := 120, descriptorIndex := 121, attributes := #[] }, { accessFlags := 26, nameIndex := 209, descriptorIndex := 210, attributes := #[] }])
  fields := #[{ name := "POSITIVE_INFINITY", type := .double, accessFlags := 25, slot := 0, constantValue := 0 }, { name := "NEGATIVE_INFINITY", type := .double, accessFlags := 25, slot := 1, constantValue := 0 }, { name := "NaN", type := .double, accessFlags := 25, slot := 2, constantValue := 0 }, { name := "MAX_VALUE", type := .double, accessFlags := 25, slot := 3, constantValue := 0 }, { name := "MIN_NORMAL", type := .double, accessFlags := 25, slot := 4, constantValue := 0 }, { name := "MIN_VALUE", type := .double, accessFlags := 25, slot := 5, constantValue := 0 }, { name := "SIZE", type := .int, accessFlags := 25, slot := 6, constantValue := 0 }, { name := "PRECISION", type := .int, accessFlags := 25, slot := 7, constantValue := 0 }, { name := "MAX_EXPONENT", type := .int, accessFlags := 25, slot := 8, constantValue := 0 }, { name := "MIN_EXPONENT", type := .int, accessFlags := 25, slot := 9, constantValue := 0 }, { name := "BYTES", type := .int, accessFlags := 25, slot := 10, constantValue := 0 }, { name := "TYPE", type := (.object "java/lang/Class"), accessFlags := 25, slot := 11, constantValue := 0 }, { name := "value", type := .double, accessFlags := 18, slot := 0, constantValue := 0 }, { name := "serialVersionUID", type := .long, accessFlags := 26, slot := 12, constantValue := 0 }]
  methods := #[k16m0, k16m1, k16m2]
  instanceTypes := #[.double]
  staticTypes := #[.double, .double, .double, .double, .double, .double, .int, .int, .int, .int, .int, (.object "java/lang/Class"), .long]
  resolved := Array.replicate 290 none
  statics := none }

def pool17 : Array CpInfo := pool [(1, .methodref 2 3), (0, .class_ 4), (0, .nameAndType 5 6), (0, u "java/lang/Object"), (0, u "<init>"), (0, u "()V"), (1, .class_ 10), (1, u "java/util/AbstractCollection"), (66, .class_ 78), (0, u "java/util/Collection")] 81

def k17c0 : Code := { maxStack := 1, maxLocals := 1, code := jdk_22_method_1_code, exceptionTable := #[], attributes := #[] }
def k17m0 : Method := { name := "<init>", desc := "()V", sig := { parameters := [], returnType := none }, accessFlags := 4, code := some k17c0 }
/-- java/util/AbstractCollection -/
def k17 : Class := { plain "java/util/AbstractCollection" (some 0) with
  accessFlags := 1057
  interfaces := #[10]
  cf := some (fileOf pool17 8 #[] #[{ accessFlags := 4, nameIndex := 5, descriptorIndex := 6, attributes := #[] }] 1057 2 #[77] #[])
  fields := #[]
  methods := #[k17m0]
  instanceTypes := #[]
  staticTypes := #[]
  resolved := Array.replicate 160 none
  statics := none }

def pool18 : Array CpInfo := pool [(1, .methodref 2 3), (0, .class_ 4), (0, .nameAndType 5 6), (0, u "java/util/AbstractCollection"), (0, u "<init>"), (0, u "()V"), (1, .class_ 10), (1, u "java/util/ImmutableCollections"), (2, .class_ 14), (0, u "java/util/ImmutableCollections$AbstractImmutableCollection")] 41

def k18c0 : Code := { maxStack := 1, maxLocals := 1, code := jdk_47_method_1_code, exceptionTable := #[], attributes := #[] }
def k18m0 : Method := { name := "<init>", desc := "()V", sig := { parameters := [], returnType := none }, accessFlags := 0, code := some k18c0 }
/-- java/util/ImmutableCollections$AbstractImmutableCollection -/
def k18 : Class := { plain "java/util/ImmutableCollections$AbstractImmutableCollection" (some 17) with
  accessFlags := 1056
  interfaces := #[]
  cf := some (fileOf pool18 13 #[.nestHost 8] #[{ accessFlags := 0, nameIndex := 5, descriptorIndex := 6, attributes := #[] }] 1056 2 #[] #[])
  fields := #[]
  methods := #[k18m0]
  instanceTypes := #[]
  staticTypes := #[]
  resolved := Array.replicate 56 none
  statics := none }

def pool19 : Array CpInfo := pool [(1, .class_ 2), (0, u "java/util/RandomAccess"), (0, .class_ 4), (0, u "java/lang/Object")] 2

/-- java/util/RandomAccess -/
def k19 : Class := { plain "java/util/RandomAccess" (some 0) with
  accessFlags := 1537
  interfaces := #[]
  cf := some (fileOf pool19 1 #[] #[] 1537 3 #[] #[])
  fields := #[]
  methods := #[]
  instanceTypes := #[]
  staticTypes := #[]
  resolved := Array.replicate 7 none
  statics := none }

def pool20 : Array CpInfo := pool [(1, .methodref 2 3), (0, .class_ 4), (0, .nameAndType 5 6), (0, u "java/util/ImmutableCollections$AbstractImmutableCollection"), (0, u "<init>"), (0, u "()V"), (1, .class_ 10), (1, u "java/util/ImmutableCollections"), (3, .class_ 16), (1, u "java/util/ImmutableCollections$AbstractImmutableList"), (60, .class_ 78), (0, u "java/util/List"), (45, .class_ 125), (0, u "java/util/RandomAccess")] 70

def k20c0 : Code := { maxStack := 1, maxLocals := 1, code := jdk_46_method_1_code, exceptionTable := #[], attributes := #[] }
def k20m0 : Method := { name := "<init>", desc := "()V", sig := { parameters := [], returnType := none }, accessFlags := 0, code := some k20c0 }
/-- java/util/ImmutableCollections$AbstractImmutableList -/
def k20 : Class := { plain "java/util/ImmutableCollections$AbstractImmutableList" (some 18) with
  accessFlags := 1056
  interfaces := #[12, 19]
  cf := some (fileOf pool20 14 #[.nestHost 8] #[{ accessFlags := 0, nameIndex := 5, descriptorIndex := 6, attributes := #[] }] 1056 2 #[77, 124] #[])
  fields := #[]
  methods := #[k20m0]
  instanceTypes := #[]
  staticTypes := #[]
  resolved := Array.replicate 196 none
  statics := none }

def pool21 : Array CpInfo := pool [(1, .methodref 2 3), (0, .class_ 4), (0, .nameAndType 5 6), (0, u "java/util/ImmutableCollections$AbstractImmutableList"), (0, u "<init>"), (0, u "()V"), (0, .methodref 8 9), (0, .class_ 10), (0, .nameAndType 11 12), (0, u "java/util/Objects"), (0, u "requireNonNull"), (0, u "(Ljava/lang/Object;)Ljava/lang/Object;"), (0, .fieldref 14 15), (0, .class_ 16), (0, .nameAndType 17 18), (0, u "java/util/ImmutableCollections$List12"), (0, u "e0"), (0, u "Ljava/lang/Object;"), (0, .fieldref 20 21), (0, .class_ 22), (0, .nameAndType 23 18), (0, u "java/util/ImmutableCollections"), (0, u "EMPTY"), (0, .fieldref 14 25), (0, .nameAndType 26 18), (0, u "e1"), (24, u "size"), (0, u "()I"), (17, .class_ 71), (0, u "java/io/Serializable"), (13, u "(Ljava/lang/Object;Ljava/lang/Object;)V"), (4, u "get"), (0, u "(I)Ljava/lang/Object;")] 33

def k21c0 : Code := { maxStack := 2, maxLocals := 3, code := jdk_44_method_2_code, exceptionTable := #[], attributes := #[] }
def k21m0 : Method := { name := "<init>", desc := "(Ljava/lang/Object;Ljava/lang/Object;)V", sig := { parameters := [(.object "java/lang/Object"), (.object "java/lang/Object")], returnType := none }, accessFlags := 0, code := some k21c0 }
def k21c1 : Code := { maxStack := 2, maxLocals := 1, code := jdk_44_method_3_code, exceptionTable := #[], attributes := #[] }
def k21m1 : Method := { name := "size", desc := "()I", sig := { parameters := [], returnType := some .int }, accessFlags := 1, code := some k21c1 }
def k21c2 : Code := { maxStack := 2, maxLocals := 2, code := jdk_44_method_5_code, exceptionTable := #[], attributes := #[] }
def k21m2 : Method := { name := "get", desc := "(I)Ljava/lang/Object;", sig := { parameters := [.int], returnType := some (.object "java/lang/Object") }, accessFlags := 1, code := some k21c2 }
/-- java/util/ImmutableCollections$List12 -/
def k21 : Class := { plain "java/util/ImmutableCollections$List12" (some 20) with
  accessFlags := 48
  interfaces := #[4]
  cf := some (fileOf pool21 14 #[.nestHost 20] #[{ accessFlags := 0, nameIndex := 5, descriptorIndex := 85, attributes := #[] }, { accessFlags := 1, nameIndex := 51, descriptorIndex := 52, attributes := #[] }, { accessFlags := 1, nameIndex := 90, descriptorIndex := 91, attributes := #[] }] 48 2 #[70] #[{ accessFlags := 18, nameIndex := 17, descriptorIndex := 18, attributes := #[] }, { accessFlags := 18, nameIndex := 26, descriptorIndex := 18, attributes := #[] }])
  fields := #[{ name := "e0", type := (.object "java/lang/Object"), accessFlags := 18, slot := 0, constantValue := 0 }, { name := "e1", type := (.object "java/lang/Object"), accessFlags := 18, slot := 1, constantValue := 0 }]
  methods := #[k21m0, k21m1, k21m2]
  instanceTypes := #[(.object "java/lang/Object"), (.object "java/lang/Object")]
  staticTypes := #[]
  resolved := Array.replicate 125 none
  statics := none }

def pool22 : Array CpInfo := pool [(2, .class_ 4), (1, u "java/lang/Object"), (0, u "<init>"), (0, u "()V"), (35, .class_ 44), (1, u "java/util/Objects"), (0, u "requireNonNull"), (0, u "(Ljava/lang/Object;)Ljava/lang/Object;"), (47, u "(Ljava/lang/Object;Ljava/lang/String;)Ljava/lang/Object;")] 89

def k22m0 : Method := { name := "<init>", desc := "()V", sig := { parameters := [], returnType := none }, accessFlags := 2, code := none }
def k22c1 : Code := { maxStack := 2, maxLocals := 1, code := jdk_31_method_10_code, exceptionTable := #[], attributes := #[] }
def k22m1 : Method := { name := "requireNonNull", desc := "(Ljava/lang/Object;)Ljava/lang/Object;", sig := { parameters := [(.object "java/lang/Object")], returnType := some (.object "java/lang/Object") }, accessFlags := 9, code := some k22c1 }
def k22c2 : Code := { maxStack := 3, maxLocals := 2, code := jdk_31_method_11_code, exceptionTable := #[], attributes := #[] }
def k22m2 : Method := { name := "requireNonNull", desc := "(Ljava/lang/Object;Ljava/lang/String;)Ljava/lang/Object;", sig := { parameters := [(.object "java/lang/Object"), (.object "java/lang/String")], returnType := some (.object "java/lang/Object") }, accessFlags := 9, code := some k22c2 }
/-- java/util/Objects -/
def k22 : Class := { plain "java/util/Objects" (some 0) with
  accessFlags := 49
  interfaces := #[]
  cf := some (fileOf pool22 42 #[] #[{ accessFlags := 2, nameIndex := 5, descriptorIndex := 6, attributes := #[] }, { accessFlags := 9, nameIndex := 45, descriptorIndex := 46, attributes := #[] }, { accessFlags := 9, nameIndex := 45, descriptorIndex := 94, attributes := #[] }] 49 2 #[] #[])
  fields := #[]
  methods := #[k22m0, k22m1, k22m2]
  instanceTypes := #[]
  staticTypes := #[]
  resolved := Array.replicate 184 none
  statics := none }

def pool23 : Array CpInfo := pool [(2, .class_ 4), (1, u "java/lang/CharSequence"), (42, .class_ 48), (0, u "java/lang/CharSequence$1CodePointIterator"), (10, .class_ 60), (0, u "java/lang/CharSequence$1CharIterator"), (5, .class_ 67), (0, u "java/lang/Object")] 63

/-- java/lang/CharSequence -/
def k23 : Class := { plain "java/lang/CharSequence" (some 0) with
  accessFlags := 1537
  interfaces := #[]
  cf := some (fileOf pool23 2 #[.nestMembers #[47, 59]] #[] 1537 66 #[] #[])
  fields := #[]
  methods := #[]
  instanceTypes := #[]
  staticTypes := #[]
  resolved := Array.replicate 131 none
  statics := none }

def pool24 : Array CpInfo := pool [(2, .class_ 4), (1, u "java/lang/Object"), (0, u "<init>"), (0, u "()V"), (3, .class_ 12), (1, u "java/lang/String"), (0, u "value"), (0, u "[B"), (2, u "coder"), (0, u "B"), (2, u "hash"), (0, u "I"), (2, u "hashIsZero"), (0, u "Z"), (13, u "COMPACT_STRINGS"), (534, .class_ 576), (0, u "java/lang/CharSequence"), (22, u "CASE_INSENSITIVE_ORDER"), (0, u "Ljava/util/Comparator;"), (500, u "serialPersistentFields"), (0, u "[Ljava/io/ObjectStreamField;"), (0, .class_ 1104), (0, u "java/lang/String$CaseInsensitiveComparator"), (1, .class_ 1107), (0, u "java/io/Serializable"), (0, .class_ 1109), (0, u "java/lang/Comparable"), (0, .class_ 1111), (0, u "java/lang/constant/Constable"), (0, .class_ 1113), (0, u "java/lang/constant/ConstantDesc"), (2, u "serialVersionUID"), (0, u "J"), (3, u "REPL"), (0, u "C"), (2, u "LATIN1"), (1, u "UTF16")] 323

def k24m0 : Method := { name := "<init>", desc := "()V", sig := { parameters := [], returnType := none }, accessFlags := 1, code := none }
/-- java/lang/String -/
def k24 : Class := { plain "java/lang/String" (some 0) with
  accessFlags := 49
  interfaces := #[4, 3, 23, 2, 15]
  cf := some (fileOf pool24 10 #[.nestMembers #[1103]] #[{ accessFlags := 1, nameIndex := 5, descriptorIndex := 6, attributes := #[] }] 49 2 #[1106, 1108, 575, 1110, 1112] #[{ accessFlags := 18, nameIndex := 13, descriptorIndex := 14, attributes := #[] }, { accessFlags := 18, nameIndex := 17, descriptorIndex := 18, attributes := #[] }, { accessFlags := 2, nameIndex := 21, descriptorIndex := 22, attributes := #[] }, { accessFlags := 2, nameIndex := 25, descriptorIndex := 26, attributes := #[] }, { accessFlags := 26, nameIndex := 1116, descriptorIndex := 1117, attributes := #[] }, { accessFlags := 24, nameIndex := 40, descriptorIndex := 26, attributes := #[] }, { accessFlags := 26, nameIndex := 1101, descriptorIndex := 1102, attributes := #[] }, { accessFlags := 26, nameIndex := 1121, descriptorIndex := 1122, attributes := #[] }, { accessFlags := 25, nameIndex := 599, descriptorIndex := 600, attributes := #[] }, { accessFlags := 24, nameIndex := 1125, descriptorIndex := 18, attributes := #[] }, { accessFlags := 24, nameIndex := 1127, descriptorIndex := 18, attributes := #[] }])
  fields := #[{ name := "value", type := (.array .byte), accessFlags := 18, slot := 0, constantValue := 0 }, { name := "coder", type := .byte, accessFlags := 18, slot := 1, constantValue := 0 }, { name := "hash", type := .int, accessFlags := 2, slot := 2, constantValue := 0 }, { name := "hashIsZero", type := .boolean, accessFlags := 2, slot := 3, constantValue := 0 }, { name := "serialVersionUID", type := .long, accessFlags := 26, slot := 0, constantValue := 0 }, { name := "COMPACT_STRINGS", type := .boolean, accessFlags := 24, slot := 1, constantValue := 0 }, { name := "serialPersistentFields", type := (.array (.object "java/io/ObjectStreamField")), accessFlags := 26, slot := 2, constantValue := 0 }, { name := "REPL", type := .char, accessFlags := 26, slot := 3, constantValue := 0 }, { name := "CASE_INSENSITIVE_ORDER", type := (.object "java/util/Comparator"), accessFlags := 25, slot := 4, constantValue := 0 }, { name := "LATIN1", type := .byte, accessFlags := 24, slot := 5, constantValue := 0 }, { name := "UTF16", type := .byte, accessFlags := 24, slot := 6, constantValue := 0 }]
  methods := #[k24m0]
  instanceTypes := #[(.array .byte), .byte, .int, .boolean]
  staticTypes := #[.long, .boolean, (.array (.object "java/io/ObjectStreamField")), .char, (.object "java/util/Comparator"), .byte, .byte]
  resolved := Array.replicate 1451 none
  statics := none }

def pool25 : Array CpInfo := pool [(2, .class_ 4), (1, u "java/util/ImmutableCollections$AbstractImmutableList"), (2, .fieldref 8 9), (0, .class_ 10), (0, .nameAndType 11 12), (0, u "java/util/ImmutableCollections$ListN"), (0, u "elements"), (0, u "[Ljava/lang/Object;"), (2, u "allowNulls"), (0, u "Z"), (42, .class_ 60), (0, u "java/io/Serializable"), (13, u "isEmpty"), (0, u "()Z"), (38, .class_ 115), (0, u "java/util/ImmutableCollections")] 3

def k25c0 : Code := { maxStack := 1, maxLocals := 1, code := jdk_45_method_2_code, exceptionTable := #[], attributes := #[] }
def k25m0 : Method := { name := "isEmpty", desc := "()Z", sig := { parameters := [], returnType := some .boolean }, accessFlags := 1, code := some k25c0 }
/-- java/util/ImmutableCollections$ListN -/
def k25 : Class := { plain "java/util/ImmutableCollections$ListN" (some 20) with
  accessFlags := 48
  interfaces := #[4]
  cf := some (fileOf pool25 8 #[.nestHost 114] #[{ accessFlags := 1, nameIndex := 74, descriptorIndex := 75, attributes := #[] }] 48 2 #[59] #[{ accessFlags := 18, nameIndex := 11, descriptorIndex := 12, attributes := #[] }, { accessFlags := 18, nameIndex := 15, descriptorIndex := 16, attributes := #[] }])
  fields := #[{ name := "elements", type := (.array (.object "java/lang/Object")), accessFlags := 18, slot := 0, constantValue := 0 }, { name := "allowNulls", type := .boolean, accessFlags := 18, slot := 1, constantValue := 0 }]
  methods := #[k25m0]
  instanceTypes := #[(.array (.object "java/lang/Object")), .boolean]
  staticTypes := #[]
  resolved := Array.replicate 119 none
  statics := none }

def pool26 : Array CpInfo := pool [(1, u "java/lang/Cloneable"), (0, .class_ 1), (0, u "java/lang/Object"), (0, .class_ 3)] 3

/-- java/lang/Cloneable -/
def k26 : Class := { plain "java/lang/Cloneable" (some 0) with
  accessFlags := 1537
  interfaces := #[]
  cf := some (fileOf pool26 2 #[] #[] 1537 4 #[] #[])
  fields := #[]
  methods := #[]
  instanceTypes := #[]
  staticTypes := #[]
  resolved := Array.replicate 8 none
  statics := none }

/-- the primitive byte -/
def k27 : Class := { plain "byte" none with kind := .primitive 'B', accessFlags := 0x411 }
/-- [B -/
def k28 : Class := { plain "[B" (some 0) with kind := .array 27 .byte, interfaces := #[26, 4], accessFlags := 1041 }

/-- the primitive int -/
def k29 : Class := { plain "int" none with kind := .primitive 'I', accessFlags := 0x411 }
/-- [I -/
def k30 : Class := { plain "[I" (some 0) with kind := .array 29 .int, interfaces := #[26, 4], accessFlags := 1041 }

/-- [Ljava/lang/Object; -/
def k31 : Class := { plain "[Ljava/lang/Object;" (some 0) with kind := .array 0 (.object "java/lang/Object"), interfaces := #[26, 4], accessFlags := 1041 }

def heap : Heap := #[{ cls := 6, slots := #[.null, .null, .null, .null, .null, .null, .null, .null, .ref 3, .ref 4, .ref 5, .null], vm := .statics 6 },
  { cls := 13, slots := #[.long 0, .int 0, .null, .ref 7, .ref 6, .null, .null, .null, .int 0, .int 1], vm := .statics 13 },
  { cls := 31, slots := #[], vm := .none },
  { cls := 6, slots := #[.null, .int 0, .int 0], vm := .none },
  { cls := 6, slots := #[.null, .int 1, .int 0], vm := .none },
  { cls := 6, slots := #[.null, .int 2, .int 0], vm := .none },
  { cls := 25, slots := #[.ref 2, .int 0], vm := .none },
  { cls := 0, slots := #[], vm := .none }]
def classes : Array Class := #[k0, k1, k2, k3, k4, k5, k6, k7, k8, k9, k10, k11, k12, k13, k14, k15, k16, k17, k18, k19, k20, k21, k22, k23, k24, k25, k26, k27, k28, k29, k30, k31]
def interned : List (Array UInt16 × Addr) := []
def slotsUsed : Nat := 33
def theMethod : MethodId := ⟨1, 2⟩
def args0 : Array Value := #[.int 1, .int 2, .int 3]
def aboutOver (below : List Frame) : State where
  vm := { classes := classes, interned := interned.toArray }
  heap := heap
  slotsUsed := slotsUsed
  threads := #[{ frames := .invoking theMethod args0 :: below }]
def below0 : List Frame := [.native { method := ⟨0, 0⟩, args := #[] }]
def about1 : State := aboutOver below0
def p0 : Program := .bare "" "" ""
def e0 : Env := launch0.env 0 0 0
theorem w_frames : about1.frames = Frame.invoking theMethod args0 :: below0 := rfl
set_option maxRecDepth 65536 in
theorem w_args : argsFit about1.vm theMethod args0 = true := by decide +kernel
set_option maxRecDepth 65536 in
theorem w_heap : heapFits about1 = true := by decide +kernel
set_option maxRecDepth 65536 in
theorem w_runnable : about1.curStatus? = some .runnable := by decide +kernel
set_option maxRecDepth 65536 in
theorem w_alone : about1.alone = true := by decide +kernel
set_option maxRecDepth 65536 in
theorem w_named : about1.methodNamed? x = some theMethod := by decide +kernel
set_option maxRecDepth 65536 in
theorem w_hears : about1.hears theMethod below0 = true := by decide +kernel
set_option maxRecDepth 65536 in
theorem w_ripe : about1.ripe theMethod args0 below0 = true := by decide +kernel
theorem w_running : about1.status = .running := rfl
set_option maxRecDepth 65536 in
theorem w_room : about1.hasRoom e0.platform room_1 = true :=
  launch0.hasRoom_least _ room_1 (by decide +kernel) (by decide +kernel) (by decide +kernel) (by decide +kernel) (by decide +kernel) (by decide +kernel)
theorem allAtoms_all (ts : List Jvm.Cond) (a : Array Jvm.Value) (st : Jvm.State) : (allAtoms ts).before a st = ts.all (fun c => c.before a st) := by
  induction ts with
  | nil => rfl
  | cons c t ih =>
    show (Jvm.Cond.and c (allAtoms t)).before a st = _
    rw [Jvm.Cond.before_and, ih, List.all_cons]
def words1 : List Jvm.Cond := Jvm.Cond.code x code maxLocals ret :: tables_1
/-- a 'code' word, met by the world's own term for the bytes: nothing is compared byte by byte -/
theorem code_word {y : MethodName} {bytes : ByteArray} {mx : Nat} {rt : Option FieldType} {a : Array Value} {s : State} {m : MethodId} {meth : Method} {c : Code} (h1 : s.methodNamed? y = some m) (h2 : s.vm.method? m = some meth) (h3 : meth.code = some c) (h4 : c.code = bytes)
    (h5 : (c.maxLocals == mx && c.exceptionTable.isEmpty && decide (c.maxStack ≤ mostOperands) && decide (meth.sig.returnType = rt) && !meth.locks && decide (parseMethodDescriptor y.desc = some meth.sig)) = true) : (Jvm.Cond.code y bytes mx rt).before a s = true := by
  simp only [Bool.and_eq_true, beq_iff_eq, Bool.not_eq_true', decide_eq_true_eq] at h5
  obtain ⟨⟨⟨⟨⟨g1, g2⟩, g3⟩, g4⟩, g5⟩, g6⟩ := h5
  simp [Cond.before, Cond.holds, Cond.value, h1, h2, h3, h4, g1, g2, g3, g4, g5, g6]
def isCode : Jvm.Cond → Bool
  | .code _ _ _ _ => true
  | _ => false
theorem all_split {L : List Jvm.Cond} {P : Jvm.Cond → Bool} (h1 : L.all (fun c => isCode c || P c) = true) (h2 : ∀ c ∈ L.filter isCode, P c = true) : L.all P = true := by
  refine List.all_eq_true.mpr fun c hc => ?_
  have h := List.all_eq_true.mp h1 c hc
  rcases Bool.eq_false_or_eq_true (isCode c) with hi | hi
  · exact h2 c (List.mem_filter.mpr ⟨hc, hi⟩)
  · simpa [hi] using h
set_option maxRecDepth 65536 in
theorem w_c0 : (Jvm.Cond.code x code maxLocals ret).before args0 about1 = true := code_word (m := ⟨1, 2⟩) (meth := k1m2) (c := k1c2) (by decide +kernel) rfl rfl rfl (by decide +kernel)
set_option maxRecDepth 65536 in
theorem w_c1 : (Jvm.Cond.code ({ cls := "com/example/baseload/baseload/model/ViolationCostPinLaw", name := "pickKind", desc := "(I)Lcom/example/baseload/baseload/model/Violation$Kind;" } : Jvm.MethodName) method_2_code (2 : Nat) (Option.some (Jvm.ClassFile.FieldType.object "com/example/baseload/baseload/model/Violation$Kind"))).before args0 about1 = true := code_word (m := ⟨1, 1⟩) (meth := k1m1) (c := k1c1) (by decide +kernel) rfl rfl rfl (by decide +kernel)
set_option maxRecDepth 65536 in
theorem w_c2 : (Jvm.Cond.code ({ cls := "com/example/baseload/baseload/model/Violation", name := "cost", desc := "(Lcom/example/baseload/baseload/model/Violation$Kind;DD)Lcom/example/baseload/baseload/model/Violation;" } : Jvm.MethodName) prog_22_method_10_code (5 : Nat) (Option.some (Jvm.ClassFile.FieldType.object "com/example/baseload/baseload/model/Violation"))).before args0 about1 = true := code_word (m := ⟨8, 1⟩) (meth := k8m1) (c := k8c1) (by decide +kernel) rfl rfl rfl (by decide +kernel)
set_option maxRecDepth 65536 in
theorem w_c3 : (Jvm.Cond.code ({ cls := "java/util/List", name := "of", desc := "()Ljava/util/List;" } : Jvm.MethodName) jdk_40_method_36_code (0 : Nat) (Option.some (Jvm.ClassFile.FieldType.object "java/util/List"))).before args0 about1 = true := code_word (m := ⟨12, 3⟩) (meth := k12m3) (c := k12c3) (by decide +kernel) rfl rfl rfl (by decide +kernel)
set_option maxRecDepth 65536 in
theorem w_c4 : (Jvm.Cond.code ({ cls := "java/lang/Double", name := "valueOf", desc := "(D)Ljava/lang/Double;" } : Jvm.MethodName) jdk_117_method_4_code (2 : Nat) (Option.some (Jvm.ClassFile.FieldType.object "java/lang/Double"))).before args0 about1 = true := code_word (m := ⟨16, 0⟩) (meth := k16m0) (c := k16c0) (by decide +kernel) rfl rfl rfl (by decide +kernel)
set_option maxRecDepth 65536 in
theorem w_c5 : (Jvm.Cond.code ({ cls := "java/lang/Double", name := "<init>", desc := "(D)V" } : Jvm.MethodName) jdk_117_method_9_code (3 : Nat) (Option.none : Option Jvm.ClassFile.FieldType)).before args0 about1 = true := code_word (m := ⟨16, 1⟩) (meth := k16m1) (c := k16c1) (by decide +kernel) rfl rfl rfl (by decide +kernel)
set_option maxRecDepth 65536 in
theorem w_c6 : (Jvm.Cond.code ({ cls := "java/lang/Number", name := "<init>", desc := "()V" } : Jvm.MethodName) jdk_18_method_1_code (1 : Nat) (Option.none : Option Jvm.ClassFile.FieldType)).before args0 about1 = true := code_word (m := ⟨14, 0⟩) (meth := k14m0) (c := k14c0) (by decide +kernel) rfl rfl rfl (by decide +kernel)
set_option maxRecDepth 65536 in
theorem w_c7 : (Jvm.Cond.code ({ cls := "java/lang/Object", name := "<init>", desc := "()V" } : Jvm.MethodName) object_method_1_code (1 : Nat) (Option.none : Option Jvm.ClassFile.FieldType)).before args0 about1 = true := code_word (m := ⟨0, 0⟩) (meth := k0m0) (c := k0c0) (by decide +kernel) rfl rfl rfl (by decide +kernel)
set_option maxRecDepth 65536 in
theorem w_c8 : (Jvm.Cond.code ({ cls := "java/util/List", name := "of", desc := "(Ljava/lang/Object;Ljava/lang/Object;)Ljava/util/List;" } : Jvm.MethodName) jdk_40_method_38_code (2 : Nat) (Option.some (Jvm.ClassFile.FieldType.object "java/util/List"))).before args0 about1 = true := code_word (m := ⟨12, 4⟩) (meth := k12m4) (c := k12c4) (by decide +kernel) rfl rfl rfl (by decide +kernel)
set_option maxRecDepth 65536 in
theorem w_c9 : (Jvm.Cond.code ({ cls := "java/util/ImmutableCollections$List12", name := "<init>", desc := "(Ljava/lang/Object;Ljava/lang/Object;)V" } : Jvm.MethodName) jdk_44_method_2_code (3 : Nat) (Option.none : Option Jvm.ClassFile.FieldType)).before args0 about1 = true := code_word (m := ⟨21, 0⟩) (meth := k21m0) (c := k21c0) (by decide +kernel) rfl rfl rfl (by decide +kernel)
set_option maxRecDepth 65536 in
theorem w_c10 : (Jvm.Cond.code ({ cls := "java/util/ImmutableCollections$AbstractImmutableList", name := "<init>", desc := "()V" } : Jvm.MethodName) jdk_46_method_1_code (1 : Nat) (Option.none : Option Jvm.ClassFile.FieldType)).before args0 about1 = true := code_word (m := ⟨20, 0⟩) (meth := k20m0) (c := k20c0) (by decide +kernel) rfl rfl rfl (by decide +kernel)
set_option maxRecDepth 65536 in
theorem w_c11 : (Jvm.Cond.code ({ cls := "java/util/ImmutableCollections$AbstractImmutableCollection", name := "<init>", desc := "()V" } : Jvm.MethodName) jdk_47_method_1_code (1 : Nat) (Option.none : Option Jvm.ClassFile.FieldType)).before args0 about1 = true := code_word (m := ⟨18, 0⟩) (meth := k18m0) (c := k18c0) (by decide +kernel) rfl rfl rfl (by decide +kernel)
set_option maxRecDepth 65536 in
theorem w_c12 : (Jvm.Cond.code ({ cls := "java/util/AbstractCollection", name := "<init>", desc := "()V" } : Jvm.MethodName) jdk_22_method_1_code (1 : Nat) (Option.none : Option Jvm.ClassFile.FieldType)).before args0 about1 = true := code_word (m := ⟨17, 0⟩) (meth := k17m0) (c := k17c0) (by decide +kernel) rfl rfl rfl (by decide +kernel)
set_option maxRecDepth 65536 in
theorem w_c13 : (Jvm.Cond.code ({ cls := "java/util/Objects", name := "requireNonNull", desc := "(Ljava/lang/Object;)Ljava/lang/Object;" } : Jvm.MethodName) jdk_31_method_10_code (1 : Nat) (Option.some (Jvm.ClassFile.FieldType.object "java/lang/Object"))).before args0 about1 = true := code_word (m := ⟨22, 1⟩) (meth := k22m1) (c := k22c1) (by decide +kernel) rfl rfl rfl (by decide +kernel)
set_option maxRecDepth 65536 in
theorem w_c14 : (Jvm.Cond.code ({ cls := "com/example/baseload/baseload/model/Violation", name := "<init>", desc := "(Lcom/example/baseload/baseload/model/Violation$Kind;Ljava/util/List;Ljava/util/List;Ljava/util/List;)V" } : Jvm.MethodName) prog_22_method_1_code (5 : Nat) (Option.none : Option Jvm.ClassFile.FieldType)).before args0 about1 = true := code_word (m := ⟨8, 0⟩) (meth := k8m0) (c := k8c0) (by decide +kernel) rfl rfl rfl (by decide +kernel)
set_option maxRecDepth 65536 in
theorem w_c15 : (Jvm.Cond.code ({ cls := "java/lang/Record", name := "<init>", desc := "()V" } : Jvm.MethodName) jdk_30_method_1_code (1 : Nat) (Option.none : Option Jvm.ClassFile.FieldType)).before args0 about1 = true := code_word (m := ⟨7, 0⟩) (meth := k7m0) (c := k7c0) (by decide +kernel) rfl rfl rfl (by decide +kernel)
set_option maxRecDepth 65536 in
theorem w_c16 : (Jvm.Cond.code ({ cls := "java/util/Objects", name := "requireNonNull", desc := "(Ljava/lang/Object;Ljava/lang/String;)Ljava/lang/Object;" } : Jvm.MethodName) jdk_31_method_11_code (2 : Nat) (Option.some (Jvm.ClassFile.FieldType.object "java/lang/Object"))).before args0 about1 = true := code_word (m := ⟨22, 2⟩) (meth := k22m2) (c := k22c2) (by decide +kernel) rfl rfl rfl (by decide +kernel)
set_option maxRecDepth 65536 in
theorem w_c17 : (Jvm.Cond.code ({ cls := "java/util/List", name := "copyOf", desc := "(Ljava/util/Collection;)Ljava/util/List;" } : Jvm.MethodName) jdk_40_method_48_code (1 : Nat) (Option.some (Jvm.ClassFile.FieldType.object "java/util/List"))).before args0 about1 = true := code_word (m := ⟨12, 5⟩) (meth := k12m5) (c := k12c5) (by decide +kernel) rfl rfl rfl (by decide +kernel)
set_option maxRecDepth 65536 in
theorem w_c18 : (Jvm.Cond.code ({ cls := "java/util/ImmutableCollections", name := "listCopy", desc := "(Ljava/util/Collection;)Ljava/util/List;" } : Jvm.MethodName) jdk_56_method_3_code (2 : Nat) (Option.some (Jvm.ClassFile.FieldType.object "java/util/List"))).before args0 about1 = true := code_word (m := ⟨13, 1⟩) (meth := k13m1) (c := k13c1) (by decide +kernel) rfl rfl rfl (by decide +kernel)
set_option maxRecDepth 65536 in
theorem w_c19 : (Jvm.Cond.code ({ cls := "com/example/baseload/baseload/model/Violation", name := "kind", desc := "()Lcom/example/baseload/baseload/model/Violation$Kind;" } : Jvm.MethodName) prog_22_method_14_code (1 : Nat) (Option.some (Jvm.ClassFile.FieldType.object "com/example/baseload/baseload/model/Violation$Kind"))).before args0 about1 = true := code_word (m := ⟨8, 2⟩) (meth := k8m2) (c := k8c2) (by decide +kernel) rfl rfl rfl (by decide +kernel)
set_option maxRecDepth 65536 in
theorem w_c20 : (Jvm.Cond.code ({ cls := "com/example/baseload/baseload/model/Violation", name := "ids", desc := "()Ljava/util/List;" } : Jvm.MethodName) prog_22_method_15_code (1 : Nat) (Option.some (Jvm.ClassFile.FieldType.object "java/util/List"))).before args0 about1 = true := code_word (m := ⟨8, 3⟩) (meth := k8m3) (c := k8c3) (by decide +kernel) rfl rfl rfl (by decide +kernel)
set_option maxRecDepth 65536 in
theorem w_c21 : (Jvm.Cond.code ({ cls := "java/util/ImmutableCollections$ListN", name := "isEmpty", desc := "()Z" } : Jvm.MethodName) jdk_45_method_2_code (1 : Nat) (Option.some Jvm.ClassFile.FieldType.boolean)).before args0 about1 = true := code_word (m := ⟨25, 0⟩) (meth := k25m0) (c := k25c0) (by decide +kernel) rfl rfl rfl (by decide +kernel)
set_option maxRecDepth 65536 in
theorem w_c22 : (Jvm.Cond.code ({ cls := "com/example/baseload/baseload/model/Violation", name := "counts", desc := "()Ljava/util/List;" } : Jvm.MethodName) prog_22_method_16_code (1 : Nat) (Option.some (Jvm.ClassFile.FieldType.object "java/util/List"))).before args0 about1 = true := code_word (m := ⟨8, 4⟩) (meth := k8m4) (c := k8c4) (by decide +kernel) rfl rfl rfl (by decide +kernel)
set_option maxRecDepth 65536 in
theorem w_c23 : (Jvm.Cond.code ({ cls := "com/example/baseload/baseload/model/Violation", name := "costs", desc := "()Ljava/util/List;" } : Jvm.MethodName) prog_22_method_17_code (1 : Nat) (Option.some (Jvm.ClassFile.FieldType.object "java/util/List"))).before args0 about1 = true := code_word (m := ⟨8, 5⟩) (meth := k8m5) (c := k8c5) (by decide +kernel) rfl rfl rfl (by decide +kernel)
set_option maxRecDepth 65536 in
theorem w_c24 : (Jvm.Cond.code ({ cls := "java/util/ImmutableCollections$List12", name := "size", desc := "()I" } : Jvm.MethodName) jdk_44_method_3_code (1 : Nat) (Option.some Jvm.ClassFile.FieldType.int)).before args0 about1 = true := code_word (m := ⟨21, 1⟩) (meth := k21m1) (c := k21c1) (by decide +kernel) rfl rfl rfl (by decide +kernel)
set_option maxRecDepth 65536 in
theorem w_c25 : (Jvm.Cond.code ({ cls := "java/util/ImmutableCollections$List12", name := "get", desc := "(I)Ljava/lang/Object;" } : Jvm.MethodName) jdk_44_method_5_code (2 : Nat) (Option.some (Jvm.ClassFile.FieldType.object "java/lang/Object"))).before args0 about1 = true := code_word (m := ⟨21, 2⟩) (meth := k21m2) (c := k21c2) (by decide +kernel) rfl rfl rfl (by decide +kernel)
set_option maxRecDepth 65536 in
theorem w_c26 : (Jvm.Cond.code ({ cls := "java/lang/Double", name := "doubleValue", desc := "()D" } : Jvm.MethodName) jdk_117_method_19_code (1 : Nat) (Option.some Jvm.ClassFile.FieldType.double)).before args0 about1 = true := code_word (m := ⟨16, 2⟩) (meth := k16m2) (c := k16c2) (by decide +kernel) rfl rfl rfl (by decide +kernel)
def codes1 : List Jvm.Cond := [Jvm.Cond.code x code maxLocals ret, Jvm.Cond.code ({ cls := "com/example/baseload/baseload/model/ViolationCostPinLaw", name := "pickKind", desc := "(I)Lcom/example/baseload/baseload/model/Violation$Kind;" } : Jvm.MethodName) method_2_code (2 : Nat) (Option.some (Jvm.ClassFile.FieldType.object "com/example/baseload/baseload/model/Violation$Kind")), Jvm.Cond.code ({ cls := "com/example/baseload/baseload/model/Violation", name := "cost", desc := "(Lcom/example/baseload/baseload/model/Violation$Kind;DD)Lcom/example/baseload/baseload/model/Violation;" } : Jvm.MethodName) prog_22_method_10_code (5 : Nat) (Option.some (Jvm.ClassFile.FieldType.object "com/example/baseload/baseload/model/Violation")), Jvm.Cond.code ({ cls := "java/util/List", name := "of", desc := "()Ljava/util/List;" } : Jvm.MethodName) jdk_40_method_36_code (0 : Nat) (Option.some (Jvm.ClassFile.FieldType.object "java/util/List")), Jvm.Cond.code ({ cls := "java/lang/Double", name := "valueOf", desc := "(D)Ljava/lang/Double;" } : Jvm.MethodName) jdk_117_method_4_code (2 : Nat) (Option.some (Jvm.ClassFile.FieldType.object "java/lang/Double")), Jvm.Cond.code ({ cls := "java/lang/Double", name := "<init>", desc := "(D)V" } : Jvm.MethodName) jdk_117_method_9_code (3 : Nat) (Option.none : Option Jvm.ClassFile.FieldType), Jvm.Cond.code ({ cls := "java/lang/Number", name := "<init>", desc := "()V" } : Jvm.MethodName) jdk_18_method_1_code (1 : Nat) (Option.none : Option Jvm.ClassFile.FieldType), Jvm.Cond.code ({ cls := "java/lang/Object", name := "<init>", desc := "()V" } : Jvm.MethodName) object_method_1_code (1 : Nat) (Option.none : Option Jvm.ClassFile.FieldType), Jvm.Cond.code ({ cls := "java/util/List", name := "of", desc := "(Ljava/lang/Object;Ljava/lang/Object;)Ljava/util/List;" } : Jvm.MethodName) jdk_40_method_38_code (2 : Nat) (Option.some (Jvm.ClassFile.FieldType.object "java/util/List")), Jvm.Cond.code ({ cls := "java/util/ImmutableCollections$List12", name := "<init>", desc := "(Ljava/lang/Object;Ljava/lang/Object;)V" } : Jvm.MethodName) jdk_44_method_2_code (3 : Nat) (Option.none : Option Jvm.ClassFile.FieldType), Jvm.Cond.code ({ cls := "java/util/ImmutableCollections$AbstractImmutableList", name := "<init>", desc := "()V" } : Jvm.MethodName) jdk_46_method_1_code (1 : Nat) (Option.none : Option Jvm.ClassFile.FieldType), Jvm.Cond.code ({ cls := "java/util/ImmutableCollections$AbstractImmutableCollection", name := "<init>", desc := "()V" } : Jvm.MethodName) jdk_47_method_1_code (1 : Nat) (Option.none : Option Jvm.ClassFile.FieldType), Jvm.Cond.code ({ cls := "java/util/AbstractCollection", name := "<init>", desc := "()V" } : Jvm.MethodName) jdk_22_method_1_code (1 : Nat) (Option.none : Option Jvm.ClassFile.FieldType), Jvm.Cond.code ({ cls := "java/util/Objects", name := "requireNonNull", desc := "(Ljava/lang/Object;)Ljava/lang/Object;" } : Jvm.MethodName) jdk_31_method_10_code (1 : Nat) (Option.some (Jvm.ClassFile.FieldType.object "java/lang/Object")), Jvm.Cond.code ({ cls := "com/example/baseload/baseload/model/Violation", name := "<init>", desc := "(Lcom/example/baseload/baseload/model/Violation$Kind;Ljava/util/List;Ljava/util/List;Ljava/util/List;)V" } : Jvm.MethodName) prog_22_method_1_code (5 : Nat) (Option.none : Option Jvm.ClassFile.FieldType), Jvm.Cond.code ({ cls := "java/lang/Record", name := "<init>", desc := "()V" } : Jvm.MethodName) jdk_30_method_1_code (1 : Nat) (Option.none : Option Jvm.ClassFile.FieldType), Jvm.Cond.code ({ cls := "java/util/Objects", name := "requireNonNull", desc := "(Ljava/lang/Object;Ljava/lang/String;)Ljava/lang/Object;" } : Jvm.MethodName) jdk_31_method_11_code (2 : Nat) (Option.some (Jvm.ClassFile.FieldType.object "java/lang/Object")), Jvm.Cond.code ({ cls := "java/util/List", name := "copyOf", desc := "(Ljava/util/Collection;)Ljava/util/List;" } : Jvm.MethodName) jdk_40_method_48_code (1 : Nat) (Option.some (Jvm.ClassFile.FieldType.object "java/util/List")), Jvm.Cond.code ({ cls := "java/util/ImmutableCollections", name := "listCopy", desc := "(Ljava/util/Collection;)Ljava/util/List;" } : Jvm.MethodName) jdk_56_method_3_code (2 : Nat) (Option.some (Jvm.ClassFile.FieldType.object "java/util/List")), Jvm.Cond.code ({ cls := "com/example/baseload/baseload/model/Violation", name := "kind", desc := "()Lcom/example/baseload/baseload/model/Violation$Kind;" } : Jvm.MethodName) prog_22_method_14_code (1 : Nat) (Option.some (Jvm.ClassFile.FieldType.object "com/example/baseload/baseload/model/Violation$Kind")), Jvm.Cond.code ({ cls := "com/example/baseload/baseload/model/Violation", name := "ids", desc := "()Ljava/util/List;" } : Jvm.MethodName) prog_22_method_15_code (1 : Nat) (Option.some (Jvm.ClassFile.FieldType.object "java/util/List")), Jvm.Cond.code ({ cls := "java/util/ImmutableCollections$ListN", name := "isEmpty", desc := "()Z" } : Jvm.MethodName) jdk_45_method_2_code (1 : Nat) (Option.some Jvm.ClassFile.FieldType.boolean), Jvm.Cond.code ({ cls := "com/example/baseload/baseload/model/Violation", name := "counts", desc := "()Ljava/util/List;" } : Jvm.MethodName) prog_22_method_16_code (1 : Nat) (Option.some (Jvm.ClassFile.FieldType.object "java/util/List")), Jvm.Cond.code ({ cls := "com/example/baseload/baseload/model/Violation", name := "costs", desc := "()Ljava/util/List;" } : Jvm.MethodName) prog_22_method_17_code (1 : Nat) (Option.some (Jvm.ClassFile.FieldType.object "java/util/List")), Jvm.Cond.code ({ cls := "java/util/ImmutableCollections$List12", name := "size", desc := "()I" } : Jvm.MethodName) jdk_44_method_3_code (1 : Nat) (Option.some Jvm.ClassFile.FieldType.int), Jvm.Cond.code ({ cls := "java/util/ImmutableCollections$List12", name := "get", desc := "(I)Ljava/lang/Object;" } : Jvm.MethodName) jdk_44_method_5_code (2 : Nat) (Option.some (Jvm.ClassFile.FieldType.object "java/lang/Object")), Jvm.Cond.code ({ cls := "java/lang/Double", name := "doubleValue", desc := "()D" } : Jvm.MethodName) jdk_117_method_19_code (1 : Nat) (Option.some Jvm.ClassFile.FieldType.double)]
set_option maxRecDepth 65536 in
theorem codes_eq : words1.filter isCode = codes1 := rfl
theorem w_codes : ∀ c ∈ words1.filter isCode, c.before args0 about1 = true := by
  rw [codes_eq]
  intro c hc
  simp only [codes1, List.mem_cons, List.not_mem_nil, or_false] at hc
  rcases hc with rfl | rfl | rfl | rfl | rfl | rfl | rfl | rfl | rfl | rfl | rfl | rfl | rfl | rfl | rfl | rfl | rfl | rfl | rfl | rfl | rfl | rfl | rfl | rfl | rfl | rfl | rfl
  · exact w_c0
  · exact w_c1
  · exact w_c2
  · exact w_c3
  · exact w_c4
  · exact w_c5
  · exact w_c6
  · exact w_c7
  · exact w_c8
  · exact w_c9
  · exact w_c10
  · exact w_c11
  · exact w_c12
  · exact w_c13
  · exact w_c14
  · exact w_c15
  · exact w_c16
  · exact w_c17
  · exact w_c18
  · exact w_c19
  · exact w_c20
  · exact w_c21
  · exact w_c22
  · exact w_c23
  · exact w_c24
  · exact w_c25
  · exact w_c26
set_option maxRecDepth 65536 in
theorem w_t1 : (words1.take 24).all (fun c => isCode c || c.before args0 about1) = true := by decide +kernel
set_option maxRecDepth 65536 in
theorem w_t2 : ((words1.drop 24).take 24).all (fun c => isCode c || c.before args0 about1) = true := by decide +kernel
set_option maxRecDepth 65536 in
theorem w_t3 : (((words1.drop 24).drop 24).take 24).all (fun c => isCode c || c.before args0 about1) = true := by decide +kernel
set_option maxRecDepth 65536 in
theorem w_t4 : ((((words1.drop 24).drop 24).drop 24).take 24).all (fun c => isCode c || c.before args0 about1) = true := by decide +kernel
set_option maxRecDepth 65536 in
theorem w_t5 : (((((words1.drop 24).drop 24).drop 24).drop 24).take 24).all (fun c => isCode c || c.before args0 about1) = true := by decide +kernel
set_option maxRecDepth 65536 in
theorem w_t6 : ((((((words1.drop 24).drop 24).drop 24).drop 24).drop 24).take 24).all (fun c => isCode c || c.before args0 about1) = true := by decide +kernel
set_option maxRecDepth 65536 in
theorem w_t7 : (((((((words1.drop 24).drop 24).drop 24).drop 24).drop 24).drop 24).take 24).all (fun c => isCode c || c.before args0 about1) = true := by decide +kernel
set_option maxRecDepth 65536 in
theorem w_t8 : (((((((words1.drop 24).drop 24).drop 24).drop 24).drop 24).drop 24).drop 24).all (fun c => isCode c || c.before args0 about1) = true := by decide +kernel
theorem w_tables : (allAtoms (Jvm.Cond.code x code maxLocals ret :: tables_1)).before args0 about1 = true := by
  rw [allAtoms_all]
  show words1.all (fun c => c.before args0 about1) = true
  refine all_split ?_ w_codes
  rw [← List.take_append_drop 24 words1, List.all_append, w_t1, ← List.take_append_drop 24 (words1.drop 24), List.all_append, w_t2, ← List.take_append_drop 24 ((words1.drop 24).drop 24), List.all_append, w_t3, ← List.take_append_drop 24 (((words1.drop 24).drop 24).drop 24), List.all_append, w_t4, ← List.take_append_drop 24 ((((words1.drop 24).drop 24).drop 24).drop 24), List.all_append, w_t5, ← List.take_append_drop 24 (((((words1.drop 24).drop 24).drop 24).drop 24).drop 24), List.all_append, w_t6, ← List.take_append_drop 24 ((((((words1.drop 24).drop 24).drop 24).drop 24).drop 24).drop 24), List.all_append, w_t7, w_t8]
  rfl
set_option maxRecDepth 65536 in
theorem w_rest : rest_1_c.before args0 about1 = true := by decide +kernel
set_option maxRecDepth 65536 in
theorem w_case : (Jvm.Cond.and given_1 narrow_1).before args0 about1 = true := by decide +kernel
theorem w_applies : (headSpec (Jvm.Cond.code x code maxLocals ret :: tables_1) room_1).applies x e0.platform about1 = true :=
  (Spec.applies_iff w_frames).mpr ⟨w_running, w_runnable, w_alone, w_named, w_hears, w_ripe, w_room, w_tables⟩
theorem atStart : AtStart classFile x code maxLocals ret World_1 tables_1 room_1 Calls_1 rest_1 Pre_1 launch0 p0 e0 about1 theMethod args0 below0 :=
  ⟨lists_1, trivial, launch0.admits_env _ _ _, launch0.least_env, fairChoices_fair.cas, fairChoices_fair.clock, w_frames, w_args, w_heap, w_applies, trivial, w_rest, w_case⟩
end start1
theorem witness_1 : WitnessClaimed_1 := ⟨start1.p0, start1.e0, start1.about1, start1.theMethod, start1.args0, start1.below0, start1.atStart⟩
end Jvm.Pilot.@@N@@
