import JvmDerived
import JvmDerived.Pilot.@@N@@Statement
import JvmDerived.Pilot.@@N@@Code
set_option linter.unusedVariables false
set_option linter.unusedSimpArgs false
namespace Jvm.OwnGo
open Sem ClassFile Op Lib Jvm.Stand Jvm.Free Jvm.LawKit Jvm.RoadKit
/-- the context of one walk: program, launch, environment, room, start, method, arguments, frames below, the method's record, its code, the tables' state, the words' arguments, the first new address -/
abbrev Cx : Type := Program × Launch × Env × Room × State × MethodId × Array Value × List Frame × Method × Code × State × Array Value × Nat × (Outcome → State → List Loc → Prop) × Nat × State
abbrev Cx.p (κ : Cx) : Program := κ.1
abbrev Cx.l (κ : Cx) : Launch := κ.2.1
abbrev Cx.e (κ : Cx) : Env := κ.2.2.1
abbrev Cx.R (κ : Cx) : Room := κ.2.2.2.1
abbrev Cx.s (κ : Cx) : State := κ.2.2.2.2.1
abbrev Cx.m (κ : Cx) : MethodId := κ.2.2.2.2.2.1
abbrev Cx.args (κ : Cx) : Array Value := κ.2.2.2.2.2.2.1
abbrev Cx.below (κ : Cx) : List Frame := κ.2.2.2.2.2.2.2.1
abbrev Cx.meth (κ : Cx) : Method := κ.2.2.2.2.2.2.2.2.1
abbrev Cx.c (κ : Cx) : Code := κ.2.2.2.2.2.2.2.2.2.1
abbrev Cx.Z (κ : Cx) : State := κ.2.2.2.2.2.2.2.2.2.2.1
abbrev Cx.a0 (κ : Cx) : Array Value := κ.2.2.2.2.2.2.2.2.2.2.2.1
abbrev Cx.n0 (κ : Cx) : Nat := κ.2.2.2.2.2.2.2.2.2.2.2.2.1
abbrev Cx.E (κ : Cx) : Outcome → State → List Loc → Prop := κ.2.2.2.2.2.2.2.2.2.2.2.2.2.1
abbrev Cx.kmin (κ : Cx) : Nat := κ.2.2.2.2.2.2.2.2.2.2.2.2.2.2.1
abbrev Cx.s0 (κ : Cx) : State := κ.2.2.2.2.2.2.2.2.2.2.2.2.2.2.2
/-- what is known of the context throughout the walk of a body -/
def OkK (km : Nat) (κ : Cx) (l : Launch) (Z : State) (a0 : Array Value) (n0 : Nat) (R : Room) (own nm : String) (bytes : ByteArray) (maxL : Nat) (ret : Option FieldType) : Prop :=
  κ.p.tables.exec = Jvm.exec ∧ κ.c.code = bytes ∧ κ.c.maxLocals = maxL ∧ κ.Z.Warmed39 κ.s.vm ∧ κ.s.vm.findClass own = some κ.m.cls ∧ κ.meth.sig.returnType = ret ∧ κ.meth.locks = false ∧ κ.meth.name = nm ∧ κ.l = l ∧ κ.Z = Z ∧ κ.a0 = a0 ∧ κ.n0 = n0 ∧ κ.R = R ∧ κ.kmin = km ∧ (∀ o t L, FrameEnd κ.s o t L κ.R.cells κ.R.slots → κ.kmin ≤ t.heap.size → κ.E o t L)
abbrev Ok (κ : Cx) (l : Launch) (Z : State) (a0 : Array Value) (n0 : Nat) (R : Room) (own nm : String) (bytes : ByteArray) (maxL : Nat) (ret : Option FieldType) : Prop := OkK 0 κ l Z a0 n0 R own nm bytes maxL ret
section B
variable {km : Nat} {κ : Cx} {l : Launch} {Z : State} {a0 : Array Value} {n0 : Nat} {R : Room} {own nm : String} {bytes : ByteArray} {maxL : Nat} {ret : Option FieldType}
theorem OkK.exec (B : OkK km κ l Z a0 n0 R own nm bytes maxL ret) : κ.p.tables.exec = Jvm.exec := B.1
theorem OkK.byt (B : OkK km κ l Z a0 n0 R own nm bytes maxL ret) : κ.c.code = bytes := B.2.1
theorem OkK.mxl (B : OkK km κ l Z a0 n0 R own nm bytes maxL ret) : κ.c.maxLocals = maxL := B.2.2.1
theorem OkK.warm (B : OkK km κ l Z a0 n0 R own nm bytes maxL ret) : Z.Warmed39 κ.s.vm := B.2.2.2.2.2.2.2.2.2.1 ▸ B.2.2.2.1
theorem OkK.hown (B : OkK km κ l Z a0 n0 R own nm bytes maxL ret) : κ.s.vm.findClass own = some κ.m.cls := B.2.2.2.2.1
theorem OkK.rets (B : OkK km κ l Z a0 n0 R own nm bytes maxL ret) : κ.meth.sig.returnType = ret := B.2.2.2.2.2.1
theorem OkK.nolock (B : OkK km κ l Z a0 n0 R own nm bytes maxL ret) : κ.meth.locks = false := B.2.2.2.2.2.2.1
theorem OkK.name (B : OkK km κ l Z a0 n0 R own nm bytes maxL ret) : κ.meth.name = nm := B.2.2.2.2.2.2.2.1
theorem OkK.hl (B : OkK km κ l Z a0 n0 R own nm bytes maxL ret) : κ.l = l := B.2.2.2.2.2.2.2.2.1
theorem OkK.hn (B : OkK km κ l Z a0 n0 R own nm bytes maxL ret) : κ.n0 = n0 := B.2.2.2.2.2.2.2.2.2.2.2.1
theorem OkK.room (B : OkK km κ l Z a0 n0 R own nm bytes maxL ret) : κ.R = R := B.2.2.2.2.2.2.2.2.2.2.2.2.1
theorem OkK.hkm (B : OkK km κ l Z a0 n0 R own nm bytes maxL ret) : κ.kmin = km := B.2.2.2.2.2.2.2.2.2.2.2.2.2.1
theorem OkK.hE (B : OkK km κ l Z a0 n0 R own nm bytes maxL ret) : ∀ o t L, FrameEnd κ.s o t L κ.R.cells κ.R.slots → κ.kmin ≤ t.heap.size → κ.E o t L := B.2.2.2.2.2.2.2.2.2.2.2.2.2.2
end B
/-- FROM HERE THE RUN ENDS AS Q SAYS: heap h, k cells and n slots made so far, the frame at pc with locals L and operands st -/
def Go (κ : Cx) (Q : Option Value → Heap → Prop) (h : Heap) (k n pc : Nat) (L : Array Slot) (st : List Value) : Prop :=
  ∀ (T : State) (locs : List Loc), Stand κ.p κ.l κ.e κ.R κ.s κ.m κ.args κ.below κ.meth κ.c T locs k n → Fr κ.n0 locs → T.heap = h →
    ∃ t o, Steps κ.p.tables κ.e κ.below (T.setTop (mkF κ.m pc L st)) t ∧ t.status = .running ∧ Ended t κ.below o ∧ ∃ v L', o = .returned v ∧ (Q v t.heap ∧ Fr κ.n0 L') ∧ κ.E o t L'
/-- a decode fact with the next pc -/
def Dc (bytes : ByteArray) (pc : Nat) (i : Instr) (len pc' : Nat) : Prop := decode bytes pc = .ok (i, len) ∧ pc + len = pc'
/-- a branch's decode fact: the pc behind it, the pc that it goes to -/
def Db (bytes : ByteArray) (pc : Nat) (i : Instr) (o : Int) (pc1 pc2 : Nat) : Prop := decode bytes pc = .ok (i, 3) ∧ pc + 3 = pc1 ∧ (pc : Int) + o = (pc2 : Int)
/-- a body's contract: with these arguments at this heap it ends as Q says -/
def Ct (l : Launch) (Z : State) (n0 : Nat) (y : MethodName) (bytes : ByteArray) (maxL : Nat) (ret : Option FieldType) (ws : List Jvm.Cond) (rm : Room) (as' : Array Value) (h0 : Heap) (Q : Option Value → Heap → Prop) : Prop :=
  MetFree l y (head1 (Jvm.Cond.code y bytes maxL ret :: ws) rm) (fun a U => a = as' ∧ Z.Warmed39 U.vm ∧ U.heap = h0) (fun _ _ _ _ _ => True) (fun _ U o U' => ∃ v L, o = .returned v ∧ (Q v U'.heap ∧ Fr n0 L) ∧ FrameEnd U o U' L rm.cells rm.slots)
theorem Ct.of {l : Launch} {Z : State} {a0 : Array Value} {n0 : Nat} {y : MethodName} {bytes : ByteArray} {maxL : Nat} {ret : Option FieldType} {ws : List Jvm.Cond} {rm : Room} {as' : Array Value} {h0 : Heap} {Q : Option Value → Heap → Prop} {L0 : Array Slot}
    (hp : plainFor y = true) (hf : ∀ m : MethodId, entryFrame m as' maxL = mkF m 0 L0 [])
    (body : ∀ κ : Cx, Ok κ l Z a0 n0 rm y.cls y.name bytes maxL ret → Go κ Q h0 0 0 0 L0 []) : Ct l Z n0 y bytes maxL ret ws rm as' h0 Q := by
  refine MetFree.of_bodySF hp hisR ?_
  intro p e s m args below meth c s₁ Bd hml0 hP hK
  obtain ⟨rfl, hZ, hh⟩ := hP
  have hown : s.vm.findClass y.cls = some m.cls := findClass_of_methodNamed Bd.named
  have hnm := (name_of_methodNamed Bd.named Bd.method).1
  have X0 : Stand p l e rm s m args below meth c s₁ [] 0 0 := Stand.of_body Bd
  have e0 : s₁.heap = h0 := by rw [← hh, Bd.state]; rfl
  have q := body (p, l, e, rm, s, m, args, below, meth, c, Z, a0, n0, fun o t L => FrameEnd s o t L rm.cells rm.slots, 0, s) ⟨Bd.exec, Bd.bytes, hml0, hZ, hown, Bd.returns, Bd.notSynchronized, hnm, rfl, rfl, rfl, rfl, rfl, rfl, fun _ _ _ q _ => q⟩ s₁ [] X0 (Fr.nil n0) e0
  obtain ⟨t, o, h1, h2, h3, h4⟩ := q
  exact ⟨t, o, castTop (hf m) h1, h2, h3, h4⟩
section G
variable {km : Nat} {κ : Cx} {l : Launch} {Z : State} {a0 : Array Value} {n0 : Nat} {R : Room} {own nm : String} {bytes : ByteArray} {maxL : Nat} {ret : Option FieldType} {Q : Option Value → Heap → Prop} {h : Heap} {k n pc pc' pc1 pc2 : Nat} {L L' : Array Slot} {st st' : List Value} {o : Int} {x y : Int32} {u w : Int64} {a : Addr} {v v' : Value}
theorem go_step (hs : ∀ (T : State) (locs : List Loc), Stand κ.p κ.l κ.e κ.R κ.s κ.m κ.args κ.below κ.meth κ.c T locs k n → T.heap = h → ∀ target, Steps κ.p.tables κ.e κ.below (T.setTop (mkF κ.m pc' L' st')) target → Steps κ.p.tables κ.e κ.below (T.setTop (mkF κ.m pc L st)) target)
    (g : Go κ Q h k n pc' L' st') : Go κ Q h k n pc L st := fun T locs X N e => by
  obtain ⟨t, o, h1, h2⟩ := g T locs X N e
  exact ⟨t, o, hs T locs X e t h1, h2⟩
theorem go_cast {h' : Heap} {k' n' : Nat} (g : Go κ Q h' k' n' pc' L' st') (e1 : h' = h) (e2 : k' = k) (e3 : n' = n) (e4 : pc' = pc) (e5 : L' = L) (e6 : st' = st) : Go κ Q h k n pc L st := by
  subst e1 e2 e3 e4 e5 e6; exact g
theorem go_mono {Q' : Option Value → Heap → Prop} (g : Go κ Q h k n pc L st) (q : ∀ v h', Q v h' → Q' v h') : Go κ Q' h k n pc L st := fun T locs X N e => by
  obtain ⟨t, o, h1, h2, h3, v, L', h4, ⟨h5, h6⟩, h7⟩ := g T locs X N e
  exact ⟨t, o, h1, h2, h3, v, L', h4, ⟨q _ _ h5, h6⟩, h7⟩
theorem go_iadd (B : OkK km κ l Z a0 n0 R own nm bytes maxL ret) (hd : Dc bytes pc (.iadd) 1 pc') (g : Go κ Q h k n pc' L (.int (x + y) :: st)) : Go κ Q h k n pc L (.int y :: .int x :: st) := by
  obtain ⟨d, rfl⟩ := hd
  exact go_step (fun T locs X e t q => XS.iadd X.here B.exec rfl (hb B.byt d) rfl q) g
theorem go_isub (B : OkK km κ l Z a0 n0 R own nm bytes maxL ret) (hd : Dc bytes pc (.isub) 1 pc') (g : Go κ Q h k n pc' L (.int (x - y) :: st)) : Go κ Q h k n pc L (.int y :: .int x :: st) := by
  obtain ⟨d, rfl⟩ := hd
  exact go_step (fun T locs X e t q => XS.isub X.here B.exec rfl (hb B.byt d) rfl q) g
theorem go_iand (B : OkK km κ l Z a0 n0 R own nm bytes maxL ret) (hd : Dc bytes pc (.iand) 1 pc') (g : Go κ Q h k n pc' L (.int (x &&& y) :: st)) : Go κ Q h k n pc L (.int y :: .int x :: st) := by
  obtain ⟨d, rfl⟩ := hd
  exact go_step (fun T locs X e t q => XS.iand X.here B.exec rfl (hb B.byt d) rfl q) g
theorem go_imul (B : OkK km κ l Z a0 n0 R own nm bytes maxL ret) (hd : Dc bytes pc (.imul) 1 pc') (g : Go κ Q h k n pc' L (.int (x * y) :: st)) : Go κ Q h k n pc L (.int y :: .int x :: st) := by
  obtain ⟨d, rfl⟩ := hd
  exact go_step (fun T locs X e t q => XS.imul X.here B.exec rfl (hb B.byt d) rfl q) g
theorem go_ixor (B : OkK km κ l Z a0 n0 R own nm bytes maxL ret) (hd : Dc bytes pc (.ixor) 1 pc') (g : Go κ Q h k n pc' L (.int (x ^^^ y) :: st)) : Go κ Q h k n pc L (.int y :: .int x :: st) := by
  obtain ⟨d, rfl⟩ := hd
  exact go_step (fun T locs X e t q => XT.ixor X.here B.exec rfl (hb B.byt d) rfl q) g
theorem go_ior (B : OkK km κ l Z a0 n0 R own nm bytes maxL ret) (hd : Dc bytes pc (.ior) 1 pc') (g : Go κ Q h k n pc' L (.int (x ||| y) :: st)) : Go κ Q h k n pc L (.int y :: .int x :: st) := by
  obtain ⟨d, rfl⟩ := hd
  exact go_step (fun T locs X e t q => XT.ior X.here B.exec rfl (hb B.byt d) rfl q) g
theorem go_ishl (B : OkK km κ l Z a0 n0 R own nm bytes maxL ret) (hd : Dc bytes pc (.ishl) 1 pc') (g : Go κ Q h k n pc' L (.int (x <<< (y &&& 31)) :: st)) : Go κ Q h k n pc L (.int y :: .int x :: st) := by
  obtain ⟨d, rfl⟩ := hd
  exact go_step (fun T locs X e t q => XT.ishl X.here B.exec rfl (hb B.byt d) rfl q) g
theorem go_ishr (B : OkK km κ l Z a0 n0 R own nm bytes maxL ret) (hd : Dc bytes pc (.ishr) 1 pc') (g : Go κ Q h k n pc' L (.int (x >>> (y &&& 31)) :: st)) : Go κ Q h k n pc L (.int y :: .int x :: st) := by
  obtain ⟨d, rfl⟩ := hd
  exact go_step (fun T locs X e t q => XT.ishr X.here B.exec rfl (hb B.byt d) rfl q) g
theorem go_iushr (B : OkK km κ l Z a0 n0 R own nm bytes maxL ret) (hd : Dc bytes pc (.iushr) 1 pc') (g : Go κ Q h k n pc' L (.int (XT.ushr x y) :: st)) : Go κ Q h k n pc L (.int y :: .int x :: st) := by
  obtain ⟨d, rfl⟩ := hd
  exact go_step (fun T locs X e t q => XT.iushr X.here B.exec rfl (hb B.byt d) rfl q) g
theorem go_idiv (B : OkK km κ l Z a0 n0 R own nm bytes maxL ret) (hd : Dc bytes pc (.idiv) 1 pc') (hy : y ≠ 0) (g : Go κ Q h k n pc' L (.int (x / y) :: st)) : Go κ Q h k n pc L (.int y :: .int x :: st) := by
  obtain ⟨d, rfl⟩ := hd
  exact go_step (fun T locs X e t q => XS.idiv X.here B.exec rfl (hb B.byt d) rfl hy q) g
theorem go_irem (B : OkK km κ l Z a0 n0 R own nm bytes maxL ret) (hd : Dc bytes pc (.irem) 1 pc') (hy : y ≠ 0) (g : Go κ Q h k n pc' L (.int (x % y) :: st)) : Go κ Q h k n pc L (.int y :: .int x :: st) := by
  obtain ⟨d, rfl⟩ := hd
  exact go_step (fun T locs X e t q => iremM X B.exec rfl (hb B.byt d) rfl hy q) g
theorem go_ineg (B : OkK km κ l Z a0 n0 R own nm bytes maxL ret) (hd : Dc bytes pc (.ineg) 1 pc') (g : Go κ Q h k n pc' L (.int (-x) :: st)) : Go κ Q h k n pc L (.int x :: st) := by
  obtain ⟨d, rfl⟩ := hd
  exact go_step (fun T locs X e t q => XS.ineg X.here B.exec rfl (hb B.byt d) rfl q) g
theorem go_ladd (B : OkK km κ l Z a0 n0 R own nm bytes maxL ret) (hd : Dc bytes pc (.ladd) 1 pc') (g : Go κ Q h k n pc' L (.long (u + w) :: st)) : Go κ Q h k n pc L (.long w :: .long u :: st) := by
  obtain ⟨d, rfl⟩ := hd
  exact go_step (fun T locs X e t q => XT.ladd X.here B.exec rfl (hb B.byt d) rfl q) g
theorem go_lsub (B : OkK km κ l Z a0 n0 R own nm bytes maxL ret) (hd : Dc bytes pc (.lsub) 1 pc') (g : Go κ Q h k n pc' L (.long (u - w) :: st)) : Go κ Q h k n pc L (.long w :: .long u :: st) := by
  obtain ⟨d, rfl⟩ := hd
  exact go_step (fun T locs X e t q => XT.lsub X.here B.exec rfl (hb B.byt d) rfl q) g
theorem go_lmul (B : OkK km κ l Z a0 n0 R own nm bytes maxL ret) (hd : Dc bytes pc (.lmul) 1 pc') (g : Go κ Q h k n pc' L (.long (u * w) :: st)) : Go κ Q h k n pc L (.long w :: .long u :: st) := by
  obtain ⟨d, rfl⟩ := hd
  exact go_step (fun T locs X e t q => XT.lmul X.here B.exec rfl (hb B.byt d) rfl q) g
theorem go_land (B : OkK km κ l Z a0 n0 R own nm bytes maxL ret) (hd : Dc bytes pc (.land) 1 pc') (g : Go κ Q h k n pc' L (.long (u &&& w) :: st)) : Go κ Q h k n pc L (.long w :: .long u :: st) := by
  obtain ⟨d, rfl⟩ := hd
  exact go_step (fun T locs X e t q => XT.land X.here B.exec rfl (hb B.byt d) rfl q) g
theorem go_lor (B : OkK km κ l Z a0 n0 R own nm bytes maxL ret) (hd : Dc bytes pc (.lor) 1 pc') (g : Go κ Q h k n pc' L (.long (u ||| w) :: st)) : Go κ Q h k n pc L (.long w :: .long u :: st) := by
  obtain ⟨d, rfl⟩ := hd
  exact go_step (fun T locs X e t q => XT.lor X.here B.exec rfl (hb B.byt d) rfl q) g
theorem go_lxor (B : OkK km κ l Z a0 n0 R own nm bytes maxL ret) (hd : Dc bytes pc (.lxor) 1 pc') (g : Go κ Q h k n pc' L (.long (u ^^^ w) :: st)) : Go κ Q h k n pc L (.long w :: .long u :: st) := by
  obtain ⟨d, rfl⟩ := hd
  exact go_step (fun T locs X e t q => XT.lxor X.here B.exec rfl (hb B.byt d) rfl q) g
theorem go_ldiv (B : OkK km κ l Z a0 n0 R own nm bytes maxL ret) (hd : Dc bytes pc (.ldiv) 1 pc') (hy : w ≠ 0) (g : Go κ Q h k n pc' L (.long (u / w) :: st)) : Go κ Q h k n pc L (.long w :: .long u :: st) := by
  obtain ⟨d, rfl⟩ := hd
  exact go_step (fun T locs X e t q => XT.ldiv X.here B.exec rfl (hb B.byt d) rfl hy q) g
theorem go_lrem (B : OkK km κ l Z a0 n0 R own nm bytes maxL ret) (hd : Dc bytes pc (.lrem) 1 pc') (hy : w ≠ 0) (g : Go κ Q h k n pc' L (.long (u - (u / w) * w) :: st)) : Go κ Q h k n pc L (.long w :: .long u :: st) := by
  obtain ⟨d, rfl⟩ := hd
  exact go_step (fun T locs X e t q => XT.lrem X.here B.exec rfl (hb B.byt d) rfl hy q) g
theorem go_lshl (B : OkK km κ l Z a0 n0 R own nm bytes maxL ret) (hd : Dc bytes pc (.lshl) 1 pc') (g : Go κ Q h k n pc' L (.long (u <<< (y.toInt64 &&& 63)) :: st)) : Go κ Q h k n pc L (.int y :: .long u :: st) := by
  obtain ⟨d, rfl⟩ := hd
  exact go_step (fun T locs X e t q => XT.lshl X.here B.exec rfl (hb B.byt d) rfl q) g
theorem go_lshr (B : OkK km κ l Z a0 n0 R own nm bytes maxL ret) (hd : Dc bytes pc (.lshr) 1 pc') (g : Go κ Q h k n pc' L (.long (u >>> (y.toInt64 &&& 63)) :: st)) : Go κ Q h k n pc L (.int y :: .long u :: st) := by
  obtain ⟨d, rfl⟩ := hd
  exact go_step (fun T locs X e t q => XT.lshr X.here B.exec rfl (hb B.byt d) rfl q) g
theorem go_lushr (B : OkK km κ l Z a0 n0 R own nm bytes maxL ret) (hd : Dc bytes pc (.lushr) 1 pc') (g : Go κ Q h k n pc' L (.long (XT.ushrL u y) :: st)) : Go κ Q h k n pc L (.int y :: .long u :: st) := by
  obtain ⟨d, rfl⟩ := hd
  exact go_step (fun T locs X e t q => XT.lushr X.here B.exec rfl (hb B.byt d) rfl q) g
theorem go_lneg (B : OkK km κ l Z a0 n0 R own nm bytes maxL ret) (hd : Dc bytes pc (.lneg) 1 pc') (g : Go κ Q h k n pc' L (.long (-u) :: st)) : Go κ Q h k n pc L (.long u :: st) := by
  obtain ⟨d, rfl⟩ := hd
  exact go_step (fun T locs X e t q => XT.lneg X.here B.exec rfl (hb B.byt d) rfl q) g
theorem go_i2l (B : OkK km κ l Z a0 n0 R own nm bytes maxL ret) (hd : Dc bytes pc (.i2l) 1 pc') (g : Go κ Q h k n pc' L (.long x.toInt64 :: st)) : Go κ Q h k n pc L (.int x :: st) := by
  obtain ⟨d, rfl⟩ := hd
  exact go_step (fun T locs X e t q => XT.i2l X.here B.exec rfl (hb B.byt d) rfl q) g
theorem go_l2i (B : OkK km κ l Z a0 n0 R own nm bytes maxL ret) (hd : Dc bytes pc (.l2i) 1 pc') (g : Go κ Q h k n pc' L (.int u.toInt32 :: st)) : Go κ Q h k n pc L (.long u :: st) := by
  obtain ⟨d, rfl⟩ := hd
  exact go_step (fun T locs X e t q => XT.l2i X.here B.exec rfl (hb B.byt d) rfl q) g
theorem go_i2b (B : OkK km κ l Z a0 n0 R own nm bytes maxL ret) (hd : Dc bytes pc (.i2b) 1 pc') (g : Go κ Q h k n pc' L (.int x.toInt8.toInt32 :: st)) : Go κ Q h k n pc L (.int x :: st) := by
  obtain ⟨d, rfl⟩ := hd
  exact go_step (fun T locs X e t q => XT.i2b X.here B.exec rfl (hb B.byt d) rfl q) g
theorem go_i2c (B : OkK km κ l Z a0 n0 R own nm bytes maxL ret) (hd : Dc bytes pc (.i2c) 1 pc') (g : Go κ Q h k n pc' L (.int x.toUInt32.toUInt16.toUInt32.toInt32 :: st)) : Go κ Q h k n pc L (.int x :: st) := by
  obtain ⟨d, rfl⟩ := hd
  exact go_step (fun T locs X e t q => XT.i2c X.here B.exec rfl (hb B.byt d) rfl q) g
theorem go_lcmp (B : OkK km κ l Z a0 n0 R own nm bytes maxL ret) (hd : Dc bytes pc (.lcmp) 1 pc') (g : Go κ Q h k n pc' L (.int (XT.cmpL u w) :: st)) : Go κ Q h k n pc L (.long w :: .long u :: st) := by
  obtain ⟨d, rfl⟩ := hd
  exact go_step (fun T locs X e t q => XT.lcmp X.here B.exec rfl (hb B.byt d) rfl q) g
theorem go_pop (B : OkK km κ l Z a0 n0 R own nm bytes maxL ret) (hd : Dc bytes pc (.pop) 1 pc') (hc : v.category = 1) (g : Go κ Q h k n pc' L (st)) : Go κ Q h k n pc L (v :: st) := by
  obtain ⟨d, rfl⟩ := hd
  exact go_step (fun T locs X e t q => XT.pop X.here B.exec rfl (hb B.byt d) rfl hc q) g
theorem go_dup (B : OkK km κ l Z a0 n0 R own nm bytes maxL ret) (hd : Dc bytes pc (.dup) 1 pc') (hc : v.category = 1) (g : Go κ Q h k n pc' L (v :: v :: st)) : Go κ Q h k n pc L (v :: st) := by
  obtain ⟨d, rfl⟩ := hd
  exact go_step (fun T locs X e t q => XS.dup X.here B.exec rfl (hb B.byt d) rfl hc q) g
theorem go_dup_x1 (B : OkK km κ l Z a0 n0 R own nm bytes maxL ret) (hd : Dc bytes pc (.dup_x1) 1 pc') (hc : v.category = 1) (hc' : v'.category = 1) (g : Go κ Q h k n pc' L (v :: v' :: v :: st)) : Go κ Q h k n pc L (v :: v' :: st) := by
  obtain ⟨d, rfl⟩ := hd
  exact go_step (fun T locs X e t q => XT.dupX1 X.here B.exec rfl (hb B.byt d) rfl hc hc' q) g
theorem go_dup2 (B : OkK km κ l Z a0 n0 R own nm bytes maxL ret) (hd : Dc bytes pc (.dup2) 1 pc') (hc : v.category = 1) (hc' : v'.category = 1) (g : Go κ Q h k n pc' L (v :: v' :: v :: v' :: st)) : Go κ Q h k n pc L (v :: v' :: st) := by
  obtain ⟨d, rfl⟩ := hd
  exact go_step (fun T locs X e t q => XT.dup2 X.here B.exec rfl (hb B.byt d) rfl hc hc' q) g
theorem go_dup2l (B : OkK km κ l Z a0 n0 R own nm bytes maxL ret) (hd : Dc bytes pc (.dup2) 1 pc') (g : Go κ Q h k n pc' L (.long u :: .long u :: st)) : Go κ Q h k n pc L (.long u :: st) := by
  obtain ⟨d, rfl⟩ := hd
  exact go_step (fun T locs X e t q => XT.dup2L X.here B.exec rfl (hb B.byt d) rfl q) g
theorem go_iconst (B : OkK km κ l Z a0 n0 R own nm bytes maxL ret) (hd : Dc bytes pc (.iconst o) 1 pc') (hv : Int32.ofInt o = x) (g : Go κ Q h k n pc' L (.int x :: st)) : Go κ Q h k n pc L (st) := by
  obtain ⟨d, rfl⟩ := hd
  exact go_step (fun T locs X e t q => XT.iconstV X.here B.exec rfl x (hb B.byt d) hv q) g
theorem go_bipush (B : OkK km κ l Z a0 n0 R own nm bytes maxL ret) (hd : Dc bytes pc (.bipush o) 2 pc') (hv : (Int8.ofInt o).toInt32 = x) (g : Go κ Q h k n pc' L (.int x :: st)) : Go κ Q h k n pc L (st) := by
  obtain ⟨d, rfl⟩ := hd
  exact go_step (fun T locs X e t q => XT.bipushV X.here B.exec rfl x (hb B.byt d) hv q) g
theorem go_sipush (B : OkK km κ l Z a0 n0 R own nm bytes maxL ret) (hd : Dc bytes pc (.sipush o) 3 pc') (hv : (Int16.ofInt o).toInt32 = x) (g : Go κ Q h k n pc' L (.int x :: st)) : Go κ Q h k n pc L (st) := by
  obtain ⟨d, rfl⟩ := hd
  exact go_step (fun T locs X e t q => XT.sipushV X.here B.exec rfl x (hb B.byt d) hv q) g
theorem go_lconst (B : OkK km κ l Z a0 n0 R own nm bytes maxL ret) {j : Fin 2} (hd : Dc bytes pc (.lconst j) 1 pc') (hv : Int64.ofNat j = u) (g : Go κ Q h k n pc' L (.long u :: st)) : Go κ Q h k n pc L (st) := by
  obtain ⟨d, rfl⟩ := hd
  exact go_step (fun T locs X e t q => XT.lconstV X.here B.exec rfl u (hb B.byt d) hv q) g
theorem go_aconst_null (B : OkK km κ l Z a0 n0 R own nm bytes maxL ret) (hd : Dc bytes pc (.aconst_null) 1 pc') (g : Go κ Q h k n pc' L (.null :: st)) : Go κ Q h k n pc L (st) := by
  obtain ⟨d, rfl⟩ := hd
  exact go_step (fun T locs X e t q => XS.aconstNull X.here B.exec rfl (hb B.byt d) q) g
theorem go_iload_n (B : OkK km κ l Z a0 n0 R own nm bytes maxL ret) {j : Fin 4} (hd : Dc bytes pc (.iload_n j) 1 pc') (hl : L[j.val]? = some (.val (.int x))) (g : Go κ Q h k n pc' L (.int x :: st)) : Go κ Q h k n pc L (st) := by
  obtain ⟨d, rfl⟩ := hd
  exact go_step (fun T locs X e t q => XS.iloadN X.here B.exec rfl (hb B.byt d) hl q) g
theorem go_iload (B : OkK km κ l Z a0 n0 R own nm bytes maxL ret) {j : Nat} (hd : Dc bytes pc (.iload j) 2 pc') (hl : L[j]? = some (.val (.int x))) (g : Go κ Q h k n pc' L (.int x :: st)) : Go κ Q h k n pc L (st) := by
  obtain ⟨d, rfl⟩ := hd
  exact go_step (fun T locs X e t q => XS.iload X.here B.exec rfl (hb B.byt d) hl q) g
theorem go_istore_n (B : OkK km κ l Z a0 n0 R own nm bytes maxL ret) {j : Fin 4} (L' : Array Slot) (hd : Dc bytes pc (.istore_n j) 1 pc') (hl : storeLocals L j.val (.int x) = some L') (g : Go κ Q h k n pc' L' st) : Go κ Q h k n pc L (.int x :: st) := by
  obtain ⟨d, rfl⟩ := hd
  exact go_step (fun T locs X e t q => XS.istoreN X.here B.exec rfl (hb B.byt d) rfl hl q) g
theorem go_istore (B : OkK km κ l Z a0 n0 R own nm bytes maxL ret) {j : Nat} (L' : Array Slot) (hd : Dc bytes pc (.istore j) 2 pc') (hl : storeLocals L j (.int x) = some L') (g : Go κ Q h k n pc' L' st) : Go κ Q h k n pc L (.int x :: st) := by
  obtain ⟨d, rfl⟩ := hd
  exact go_step (fun T locs X e t q => XS.istore X.here B.exec rfl (hb B.byt d) rfl hl q) g
theorem go_lload_n (B : OkK km κ l Z a0 n0 R own nm bytes maxL ret) {j : Fin 4} (hd : Dc bytes pc (.lload_n j) 1 pc') (hl : L[j.val]? = some (.val (.long u))) (g : Go κ Q h k n pc' L (.long u :: st)) : Go κ Q h k n pc L (st) := by
  obtain ⟨d, rfl⟩ := hd
  exact go_step (fun T locs X e t q => XT.lloadN X.here B.exec rfl (hb B.byt d) hl q) g
theorem go_lload (B : OkK km κ l Z a0 n0 R own nm bytes maxL ret) {j : Nat} (hd : Dc bytes pc (.lload j) 2 pc') (hl : L[j]? = some (.val (.long u))) (g : Go κ Q h k n pc' L (.long u :: st)) : Go κ Q h k n pc L (st) := by
  obtain ⟨d, rfl⟩ := hd
  exact go_step (fun T locs X e t q => XT.lload X.here B.exec rfl (hb B.byt d) hl q) g
theorem go_lstore_n (B : OkK km κ l Z a0 n0 R own nm bytes maxL ret) {j : Fin 4} (L' : Array Slot) (hd : Dc bytes pc (.lstore_n j) 1 pc') (hl : storeLocals L j.val (.long u) = some L') (g : Go κ Q h k n pc' L' st) : Go κ Q h k n pc L (.long u :: st) := by
  obtain ⟨d, rfl⟩ := hd
  exact go_step (fun T locs X e t q => XT.lstoreN X.here B.exec rfl (hb B.byt d) rfl hl q) g
theorem go_lstore (B : OkK km κ l Z a0 n0 R own nm bytes maxL ret) {j : Nat} (L' : Array Slot) (hd : Dc bytes pc (.lstore j) 2 pc') (hl : storeLocals L j (.long u) = some L') (g : Go κ Q h k n pc' L' st) : Go κ Q h k n pc L (.long u :: st) := by
  obtain ⟨d, rfl⟩ := hd
  exact go_step (fun T locs X e t q => XT.lstore X.here B.exec rfl (hb B.byt d) rfl hl q) g
theorem go_aload_n (B : OkK km κ l Z a0 n0 R own nm bytes maxL ret) {j : Fin 4} (hd : Dc bytes pc (.aload_n j) 1 pc') (hl : L[j.val]? = some (.val (v))) (hv : v.isRef = true) (g : Go κ Q h k n pc' L (v :: st)) : Go κ Q h k n pc L (st) := by
  obtain ⟨d, rfl⟩ := hd
  exact go_step (fun T locs X e t q => XS.aloadN X.here B.exec rfl (hb B.byt d) hl hv q) g
theorem go_aload (B : OkK km κ l Z a0 n0 R own nm bytes maxL ret) {j : Nat} (hd : Dc bytes pc (.aload j) 2 pc') (hl : L[j]? = some (.val (v))) (hv : v.isRef = true) (g : Go κ Q h k n pc' L (v :: st)) : Go κ Q h k n pc L (st) := by
  obtain ⟨d, rfl⟩ := hd
  exact go_step (fun T locs X e t q => XS.aload X.here B.exec rfl (hb B.byt d) hl hv q) g
theorem go_astore_n (B : OkK km κ l Z a0 n0 R own nm bytes maxL ret) {j : Fin 4} (L' : Array Slot) (hd : Dc bytes pc (.astore_n j) 1 pc') (hv : v.isRef = true) (hl : storeLocals L j.val (v) = some L') (g : Go κ Q h k n pc' L' st) : Go κ Q h k n pc L (v :: st) := by
  obtain ⟨d, rfl⟩ := hd
  exact go_step (fun T locs X e t q => XS.astoreN X.here B.exec rfl (hb B.byt d) rfl hv hl q) g
theorem go_astore (B : OkK km κ l Z a0 n0 R own nm bytes maxL ret) {j : Nat} (L' : Array Slot) (hd : Dc bytes pc (.astore j) 2 pc') (hv : v.isRef = true) (hl : storeLocals L j (v) = some L') (g : Go κ Q h k n pc' L' st) : Go κ Q h k n pc L (v :: st) := by
  obtain ⟨d, rfl⟩ := hd
  exact go_step (fun T locs X e t q => XS.astore X.here B.exec rfl (hb B.byt d) rfl hv hl q) g
theorem go_iinc (B : OkK km κ l Z a0 n0 R own nm bytes maxL ret) {j : Nat} {z : Int32} (L' : Array Slot) (hd : Dc bytes pc (.iinc j o) 3 pc') (hz : Int32.ofInt o = z) (hl : L[j]? = some (.val (.int x))) (hl' : storeLocals L j (.int (x + z)) = some L') (g : Go κ Q h k n pc' L' st) : Go κ Q h k n pc L st := by
  obtain ⟨d, rfl⟩ := hd
  subst hz
  exact go_step (fun T locs X e t q => XS.iinc X.here B.exec rfl (hb B.byt d) hl hl' q) g
theorem go_goto (B : OkK km κ l Z a0 n0 R own nm bytes maxL ret) (hd : Db bytes pc (.goto o) o pc1 pc2) (g : Go κ Q h k n pc2 L st) : Go κ Q h k n pc L st := by
  obtain ⟨d, -, e2⟩ := hd
  exact go_step (fun T locs X e t q => XS.goto X.here B.exec rfl (pc0 := pc) rfl (hb B.byt d) (by omega) (by omega) q) g
theorem go_icmpeq (B : OkK km κ l Z a0 n0 R own nm bytes maxL ret) (hd : Db bytes pc (.if_icmp .eq o) o pc1 pc2) (gt : x = y → Go κ Q h k n pc2 L st) (gf : ¬ x = y → Go κ Q h k n pc1 L st) : Go κ Q h k n pc L (.int y :: .int x :: st) := by
  obtain ⟨d, rfl, e2⟩ := hd
  rcases Classical.em (x = y) with q0 | q0
  · exact go_step (fun T locs X e t q => XS.icmpYes X.here B.exec rfl (pc0 := pc) rfl (hb B.byt d) rfl (XT.ii_eq_t q0) (by omega) (by omega) q) (gt q0)
  · exact go_step (fun T locs X e t q => XS.icmpNo X.here B.exec rfl (hb B.byt d) rfl (XT.ii_eq_f q0) q) (gf q0)
theorem go_icmpne (B : OkK km κ l Z a0 n0 R own nm bytes maxL ret) (hd : Db bytes pc (.if_icmp .ne o) o pc1 pc2) (gt : ¬ x = y → Go κ Q h k n pc2 L st) (gf : x = y → Go κ Q h k n pc1 L st) : Go κ Q h k n pc L (.int y :: .int x :: st) := by
  obtain ⟨d, rfl, e2⟩ := hd
  rcases Classical.em (¬ x = y) with q0 | q0
  · exact go_step (fun T locs X e t q => XS.icmpYes X.here B.exec rfl (pc0 := pc) rfl (hb B.byt d) rfl (XT.ii_ne_t q0) (by omega) (by omega) q) (gt q0)
  · exact go_step (fun T locs X e t q => XS.icmpNo X.here B.exec rfl (hb B.byt d) rfl (XT.ii_ne_f (Classical.not_not.mp q0)) q) (gf (Classical.not_not.mp q0))
theorem go_icmplt (B : OkK km κ l Z a0 n0 R own nm bytes maxL ret) (hd : Db bytes pc (.if_icmp .lt o) o pc1 pc2) (gt : x < y → Go κ Q h k n pc2 L st) (gf : ¬ x < y → Go κ Q h k n pc1 L st) : Go κ Q h k n pc L (.int y :: .int x :: st) := by
  obtain ⟨d, rfl, e2⟩ := hd
  rcases Classical.em (x < y) with q0 | q0
  · exact go_step (fun T locs X e t q => XS.icmpYes X.here B.exec rfl (pc0 := pc) rfl (hb B.byt d) rfl (XT.ii_lt_t q0) (by omega) (by omega) q) (gt q0)
  · exact go_step (fun T locs X e t q => XS.icmpNo X.here B.exec rfl (hb B.byt d) rfl (XT.ii_lt_f q0) q) (gf q0)
theorem go_icmpge (B : OkK km κ l Z a0 n0 R own nm bytes maxL ret) (hd : Db bytes pc (.if_icmp .ge o) o pc1 pc2) (gt : ¬ x < y → Go κ Q h k n pc2 L st) (gf : x < y → Go κ Q h k n pc1 L st) : Go κ Q h k n pc L (.int y :: .int x :: st) := by
  obtain ⟨d, rfl, e2⟩ := hd
  rcases Classical.em (¬ x < y) with q0 | q0
  · exact go_step (fun T locs X e t q => XS.icmpYes X.here B.exec rfl (pc0 := pc) rfl (hb B.byt d) rfl (XT.ii_ge_t q0) (by omega) (by omega) q) (gt q0)
  · exact go_step (fun T locs X e t q => XS.icmpNo X.here B.exec rfl (hb B.byt d) rfl (XT.ii_ge_f (Classical.not_not.mp q0)) q) (gf (Classical.not_not.mp q0))
theorem go_icmpgt (B : OkK km κ l Z a0 n0 R own nm bytes maxL ret) (hd : Db bytes pc (.if_icmp .gt o) o pc1 pc2) (gt : y < x → Go κ Q h k n pc2 L st) (gf : ¬ y < x → Go κ Q h k n pc1 L st) : Go κ Q h k n pc L (.int y :: .int x :: st) := by
  obtain ⟨d, rfl, e2⟩ := hd
  rcases Classical.em (y < x) with q0 | q0
  · exact go_step (fun T locs X e t q => XS.icmpYes X.here B.exec rfl (pc0 := pc) rfl (hb B.byt d) rfl (XT.ii_gt_t q0) (by omega) (by omega) q) (gt q0)
  · exact go_step (fun T locs X e t q => XS.icmpNo X.here B.exec rfl (hb B.byt d) rfl (XT.ii_gt_f q0) q) (gf q0)
theorem go_icmple (B : OkK km κ l Z a0 n0 R own nm bytes maxL ret) (hd : Db bytes pc (.if_icmp .le o) o pc1 pc2) (gt : ¬ y < x → Go κ Q h k n pc2 L st) (gf : y < x → Go κ Q h k n pc1 L st) : Go κ Q h k n pc L (.int y :: .int x :: st) := by
  obtain ⟨d, rfl, e2⟩ := hd
  rcases Classical.em (¬ y < x) with q0 | q0
  · exact go_step (fun T locs X e t q => XS.icmpYes X.here B.exec rfl (pc0 := pc) rfl (hb B.byt d) rfl (XT.ii_le_t q0) (by omega) (by omega) q) (gt q0)
  · exact go_step (fun T locs X e t q => XS.icmpNo X.here B.exec rfl (hb B.byt d) rfl (XT.ii_le_f (Classical.not_not.mp q0)) q) (gf (Classical.not_not.mp q0))
theorem go_ifeq (B : OkK km κ l Z a0 n0 R own nm bytes maxL ret) (hd : Db bytes pc (.ifCond .eq o) o pc1 pc2) (gt : x = 0 → Go κ Q h k n pc2 L st) (gf : ¬ x = 0 → Go κ Q h k n pc1 L st) : Go κ Q h k n pc L (.int x :: st) := by
  obtain ⟨d, rfl, e2⟩ := hd
  rcases Classical.em (x = 0) with q0 | q0
  · exact go_step (fun T locs X e t q => XS.ifYes X.here B.exec rfl (pc0 := pc) rfl (hb B.byt d) rfl (XT.i0_eq_t q0) (by omega) (by omega) q) (gt q0)
  · exact go_step (fun T locs X e t q => XS.ifNo X.here B.exec rfl (hb B.byt d) rfl (XT.i0_eq_f q0) q) (gf q0)
theorem go_ifne (B : OkK km κ l Z a0 n0 R own nm bytes maxL ret) (hd : Db bytes pc (.ifCond .ne o) o pc1 pc2) (gt : ¬ x = 0 → Go κ Q h k n pc2 L st) (gf : x = 0 → Go κ Q h k n pc1 L st) : Go κ Q h k n pc L (.int x :: st) := by
  obtain ⟨d, rfl, e2⟩ := hd
  rcases Classical.em (¬ x = 0) with q0 | q0
  · exact go_step (fun T locs X e t q => XS.ifYes X.here B.exec rfl (pc0 := pc) rfl (hb B.byt d) rfl (XT.i0_ne_t q0) (by omega) (by omega) q) (gt q0)
  · exact go_step (fun T locs X e t q => XS.ifNo X.here B.exec rfl (hb B.byt d) rfl (XT.i0_ne_f (Classical.not_not.mp q0)) q) (gf (Classical.not_not.mp q0))
theorem go_iflt (B : OkK km κ l Z a0 n0 R own nm bytes maxL ret) (hd : Db bytes pc (.ifCond .lt o) o pc1 pc2) (gt : x < 0 → Go κ Q h k n pc2 L st) (gf : ¬ x < 0 → Go κ Q h k n pc1 L st) : Go κ Q h k n pc L (.int x :: st) := by
  obtain ⟨d, rfl, e2⟩ := hd
  rcases Classical.em (x < 0) with q0 | q0
  · exact go_step (fun T locs X e t q => XS.ifYes X.here B.exec rfl (pc0 := pc) rfl (hb B.byt d) rfl (XT.i0_lt_t q0) (by omega) (by omega) q) (gt q0)
  · exact go_step (fun T locs X e t q => XS.ifNo X.here B.exec rfl (hb B.byt d) rfl (XT.i0_lt_f q0) q) (gf q0)
theorem go_ifge (B : OkK km κ l Z a0 n0 R own nm bytes maxL ret) (hd : Db bytes pc (.ifCond .ge o) o pc1 pc2) (gt : ¬ x < 0 → Go κ Q h k n pc2 L st) (gf : x < 0 → Go κ Q h k n pc1 L st) : Go κ Q h k n pc L (.int x :: st) := by
  obtain ⟨d, rfl, e2⟩ := hd
  rcases Classical.em (¬ x < 0) with q0 | q0
  · exact go_step (fun T locs X e t q => XS.ifYes X.here B.exec rfl (pc0 := pc) rfl (hb B.byt d) rfl (XT.i0_ge_t q0) (by omega) (by omega) q) (gt q0)
  · exact go_step (fun T locs X e t q => XS.ifNo X.here B.exec rfl (hb B.byt d) rfl (XT.i0_ge_f (Classical.not_not.mp q0)) q) (gf (Classical.not_not.mp q0))
theorem go_ifgt (B : OkK km κ l Z a0 n0 R own nm bytes maxL ret) (hd : Db bytes pc (.ifCond .gt o) o pc1 pc2) (gt : 0 < x → Go κ Q h k n pc2 L st) (gf : ¬ 0 < x → Go κ Q h k n pc1 L st) : Go κ Q h k n pc L (.int x :: st) := by
  obtain ⟨d, rfl, e2⟩ := hd
  rcases Classical.em (0 < x) with q0 | q0
  · exact go_step (fun T locs X e t q => XS.ifYes X.here B.exec rfl (pc0 := pc) rfl (hb B.byt d) rfl (XT.i0_gt_t q0) (by omega) (by omega) q) (gt q0)
  · exact go_step (fun T locs X e t q => XS.ifNo X.here B.exec rfl (hb B.byt d) rfl (XT.i0_gt_f q0) q) (gf q0)
theorem go_ifle (B : OkK km κ l Z a0 n0 R own nm bytes maxL ret) (hd : Db bytes pc (.ifCond .le o) o pc1 pc2) (gt : ¬ 0 < x → Go κ Q h k n pc2 L st) (gf : 0 < x → Go κ Q h k n pc1 L st) : Go κ Q h k n pc L (.int x :: st) := by
  obtain ⟨d, rfl, e2⟩ := hd
  rcases Classical.em (¬ 0 < x) with q0 | q0
  · exact go_step (fun T locs X e t q => XS.ifYes X.here B.exec rfl (pc0 := pc) rfl (hb B.byt d) rfl (XT.i0_le_t q0) (by omega) (by omega) q) (gt q0)
  · exact go_step (fun T locs X e t q => XS.ifNo X.here B.exec rfl (hb B.byt d) rfl (XT.i0_le_f (Classical.not_not.mp q0)) q) (gf (Classical.not_not.mp q0))
theorem go_lifeq (B : OkK km κ l Z a0 n0 R own nm bytes maxL ret) (hd : Db bytes pc (.ifCond .eq o) o pc1 pc2) (gt : u = w → Go κ Q h k n pc2 L st) (gf : ¬ u = w → Go κ Q h k n pc1 L st) : Go κ Q h k n pc L (.int (XT.cmpL u w) :: st) := by
  obtain ⟨d, rfl, e2⟩ := hd
  rcases Classical.em (u = w) with q0 | q0
  · exact go_step (fun T locs X e t q => XS.ifYes X.here B.exec rfl (pc0 := pc) rfl (hb B.byt d) rfl (XT.ll_eq_t q0) (by omega) (by omega) q) (gt q0)
  · exact go_step (fun T locs X e t q => XS.ifNo X.here B.exec rfl (hb B.byt d) rfl (XT.ll_eq_f q0) q) (gf q0)
theorem go_lifne (B : OkK km κ l Z a0 n0 R own nm bytes maxL ret) (hd : Db bytes pc (.ifCond .ne o) o pc1 pc2) (gt : ¬ u = w → Go κ Q h k n pc2 L st) (gf : u = w → Go κ Q h k n pc1 L st) : Go κ Q h k n pc L (.int (XT.cmpL u w) :: st) := by
  obtain ⟨d, rfl, e2⟩ := hd
  rcases Classical.em (¬ u = w) with q0 | q0
  · exact go_step (fun T locs X e t q => XS.ifYes X.here B.exec rfl (pc0 := pc) rfl (hb B.byt d) rfl (XT.ll_ne_t q0) (by omega) (by omega) q) (gt q0)
  · exact go_step (fun T locs X e t q => XS.ifNo X.here B.exec rfl (hb B.byt d) rfl (XT.ll_ne_f (Classical.not_not.mp q0)) q) (gf (Classical.not_not.mp q0))
theorem go_liflt (B : OkK km κ l Z a0 n0 R own nm bytes maxL ret) (hd : Db bytes pc (.ifCond .lt o) o pc1 pc2) (gt : u < w → Go κ Q h k n pc2 L st) (gf : ¬ u < w → Go κ Q h k n pc1 L st) : Go κ Q h k n pc L (.int (XT.cmpL u w) :: st) := by
  obtain ⟨d, rfl, e2⟩ := hd
  rcases Classical.em (u < w) with q0 | q0
  · exact go_step (fun T locs X e t q => XS.ifYes X.here B.exec rfl (pc0 := pc) rfl (hb B.byt d) rfl (XT.ll_lt_t q0) (by omega) (by omega) q) (gt q0)
  · exact go_step (fun T locs X e t q => XS.ifNo X.here B.exec rfl (hb B.byt d) rfl (XT.ll_lt_f q0) q) (gf q0)
theorem go_lifge (B : OkK km κ l Z a0 n0 R own nm bytes maxL ret) (hd : Db bytes pc (.ifCond .ge o) o pc1 pc2) (gt : ¬ u < w → Go κ Q h k n pc2 L st) (gf : u < w → Go κ Q h k n pc1 L st) : Go κ Q h k n pc L (.int (XT.cmpL u w) :: st) := by
  obtain ⟨d, rfl, e2⟩ := hd
  rcases Classical.em (¬ u < w) with q0 | q0
  · exact go_step (fun T locs X e t q => XS.ifYes X.here B.exec rfl (pc0 := pc) rfl (hb B.byt d) rfl (XT.ll_ge_t q0) (by omega) (by omega) q) (gt q0)
  · exact go_step (fun T locs X e t q => XS.ifNo X.here B.exec rfl (hb B.byt d) rfl (XT.ll_ge_f (Classical.not_not.mp q0)) q) (gf (Classical.not_not.mp q0))
theorem go_lifgt (B : OkK km κ l Z a0 n0 R own nm bytes maxL ret) (hd : Db bytes pc (.ifCond .gt o) o pc1 pc2) (gt : w < u → Go κ Q h k n pc2 L st) (gf : ¬ w < u → Go κ Q h k n pc1 L st) : Go κ Q h k n pc L (.int (XT.cmpL u w) :: st) := by
  obtain ⟨d, rfl, e2⟩ := hd
  rcases Classical.em (w < u) with q0 | q0
  · exact go_step (fun T locs X e t q => XS.ifYes X.here B.exec rfl (pc0 := pc) rfl (hb B.byt d) rfl (XT.ll_gt_t q0) (by omega) (by omega) q) (gt q0)
  · exact go_step (fun T locs X e t q => XS.ifNo X.here B.exec rfl (hb B.byt d) rfl (XT.ll_gt_f q0) q) (gf q0)
theorem go_lifle (B : OkK km κ l Z a0 n0 R own nm bytes maxL ret) (hd : Db bytes pc (.ifCond .le o) o pc1 pc2) (gt : ¬ w < u → Go κ Q h k n pc2 L st) (gf : w < u → Go κ Q h k n pc1 L st) : Go κ Q h k n pc L (.int (XT.cmpL u w) :: st) := by
  obtain ⟨d, rfl, e2⟩ := hd
  rcases Classical.em (¬ w < u) with q0 | q0
  · exact go_step (fun T locs X e t q => XS.ifYes X.here B.exec rfl (pc0 := pc) rfl (hb B.byt d) rfl (XT.ll_le_t q0) (by omega) (by omega) q) (gt q0)
  · exact go_step (fun T locs X e t q => XS.ifNo X.here B.exec rfl (hb B.byt d) rfl (XT.ll_le_f (Classical.not_not.mp q0)) q) (gf (Classical.not_not.mp q0))
theorem go_acmpeq (B : OkK km κ l Z a0 n0 R own nm bytes maxL ret) (hd : Db bytes pc (.if_acmp .eq o) o pc1 pc2) (hv : v.isRef = true) (hv' : v'.isRef = true) (gt : v' = v → Go κ Q h k n pc2 L st) (gf : ¬ v' = v → Go κ Q h k n pc1 L st) : Go κ Q h k n pc L (v :: v' :: st) := by
  obtain ⟨d, rfl, e2⟩ := hd
  rcases Classical.em (v' = v) with q0 | q0
  · exact go_step (fun T locs X e t q => XT.acmpYes X.here B.exec rfl (pc0 := pc) rfl (hb B.byt d) rfl hv' hv (XT.aa_eq_t q0) (by omega) (by omega) q) (gt q0)
  · exact go_step (fun T locs X e t q => XT.acmpNo X.here B.exec rfl (hb B.byt d) rfl hv' hv (XT.aa_eq_f q0) q) (gf q0)
theorem go_acmpne (B : OkK km κ l Z a0 n0 R own nm bytes maxL ret) (hd : Db bytes pc (.if_acmp .ne o) o pc1 pc2) (hv : v.isRef = true) (hv' : v'.isRef = true) (gt : ¬ v' = v → Go κ Q h k n pc2 L st) (gf : v' = v → Go κ Q h k n pc1 L st) : Go κ Q h k n pc L (v :: v' :: st) := by
  obtain ⟨d, rfl, e2⟩ := hd
  rcases Classical.em (¬ v' = v) with q0 | q0
  · exact go_step (fun T locs X e t q => XT.acmpYes X.here B.exec rfl (pc0 := pc) rfl (hb B.byt d) rfl hv' hv (XT.aa_ne_t q0) (by omega) (by omega) q) (gt q0)
  · exact go_step (fun T locs X e t q => XT.acmpNo X.here B.exec rfl (hb B.byt d) rfl hv' hv (XT.aa_ne_f (Classical.not_not.mp q0)) q) (gf (Classical.not_not.mp q0))
theorem go_ifnull_t (B : OkK km κ l Z a0 n0 R own nm bytes maxL ret) (hd : Db bytes pc (.ifnull o) o pc1 pc2) (g : Go κ Q h k n pc2 L st) : Go κ Q h k n pc L (.null :: st) := by
  obtain ⟨d, rfl, e2⟩ := hd
  exact go_step (fun T locs X e t q => XS.ifnullYes X.here B.exec rfl (pc0 := pc) rfl (hb B.byt d) rfl (by omega) (by omega) q) g
theorem go_ifnull_f (B : OkK km κ l Z a0 n0 R own nm bytes maxL ret) (hd : Db bytes pc (.ifnull o) o pc1 pc2) (g : Go κ Q h k n pc1 L st) : Go κ Q h k n pc L (.ref a :: st) := by
  obtain ⟨d, rfl, e2⟩ := hd
  exact go_step (fun T locs X e t q => XS.ifnullNo X.here B.exec rfl (hb B.byt d) rfl q) g
theorem go_ifnonnull_t (B : OkK km κ l Z a0 n0 R own nm bytes maxL ret) (hd : Db bytes pc (.ifnonnull o) o pc1 pc2) (g : Go κ Q h k n pc2 L st) : Go κ Q h k n pc L (.ref a :: st) := by
  obtain ⟨d, rfl, e2⟩ := hd
  exact go_step (fun T locs X e t q => XT.ifnonnullYes X.here B.exec rfl (pc0 := pc) rfl (hb B.byt d) rfl (by omega) (by omega) q) g
theorem go_ifnonnull_f (B : OkK km κ l Z a0 n0 R own nm bytes maxL ret) (hd : Db bytes pc (.ifnonnull o) o pc1 pc2) (g : Go κ Q h k n pc1 L st) : Go κ Q h k n pc L (.null :: st) := by
  obtain ⟨d, rfl, e2⟩ := hd
  exact go_step (fun T locs X e t q => XT.ifnonnullNo X.here B.exec rfl (hb B.byt d) rfl q) g
/-! fields, objects, arrays, calls, returns -/
theorem go_getfield (B : OkK km κ l Z a0 n0 R own nm bytes maxL ret) {idx : Nat} {O fn d : String} (hd : Dc bytes pc (.getfield idx) 3 pc') (wl : (Jvm.Cond.fieldLink own idx O fn d).before a0 Z = true) (F : Fld Z h a O fn d v) (g : Go κ Q h k n pc' L (v :: st)) : Go κ Q h k n pc L (.ref a :: st) := fun T locs X N e => by
  obtain ⟨dd, rfl⟩ := hd
  obtain ⟨T', X', e', sp⟩ := getF X B.exec B.warm B.hown (host := "") (Or.inl wl) Via.refl e F (g := mkF κ.m pc L (.ref a :: st)) rfl rfl (hb B.byt dd)
  obtain ⟨t, o, h1, h2⟩ := g T' locs X' N e'
  exact ⟨t, o, sp _ h1, h2⟩
theorem go_getstatic (B : OkK km κ l Z a0 n0 R own nm bytes maxL ret) {idx : Nat} {O fn d : String} (hd : Dc bytes pc (.getstatic idx) 3 pc') (wl : (Jvm.Cond.fieldLink own idx O fn d).before a0 Z = true) (F : Sta Z h O fn d v) (g : Go κ Q h k n pc' L (v :: st)) : Go κ Q h k n pc L st := fun T locs X N e => by
  obtain ⟨dd, rfl⟩ := hd
  obtain ⟨T', X', e', sp⟩ := getS (host := "") X B.exec B.warm B.hown wl Via.refl e F (g := mkF κ.m pc L st) rfl (hb B.byt dd)
  obtain ⟨t, o, h1, h2⟩ := g T' locs X' N e'
  exact ⟨t, o, sp _ h1, h2⟩
theorem go_putfield (B : OkK km κ l Z a0 n0 R own nm bytes maxL ret) {idx kk : Nat} {O fn d C : String} {ty : FieldType} {old : Value} (hd : Dc bytes pc (.putfield idx) 3 pc') (wl : (Jvm.Cond.fieldLink own idx O fn d).before a0 Z = true) (F : Fld Z h a O fn d old) (E : Exa Z h a C)
    (wy : (Jvm.Cond.lays C O fn d).before a0 Z = true ∨ ((Jvm.Cond.laysFinal C O fn d).before a0 Z = true ∧ own = O ∧ nm = "<init>")) (wi : (Jvm.Cond.instantiable C kk).before a0 Z = true) (hty : parseFieldDescriptor d = some ty) (hn : narrow ty v = v) (hf : fits ty v = true) (ha : n0 ≤ a)
    (g : ∀ h', Wr h h' a (Jvm.RoadKit.slotOf Z O fn d) v → Go κ Q h' k n pc' L st) : Go κ Q h k n pc L (v :: .ref a :: st) := fun T locs X N e => by
  obtain ⟨dd, rfl⟩ := hd
  obtain ⟨T', h', X', e', W, sp⟩ := putF X B.exec B.warm B.hown (host := "") (Or.inl wl) Via.refl e F E (wy.imp id fun q => ⟨q.1, q.2.1, B.name.trans q.2.2⟩) wi hty hn hf (g := mkF κ.m pc L (v :: .ref a :: st)) rfl rfl (hb B.byt dd)
  obtain ⟨t, o, h1, h2⟩ := g h' W T' _ X' (Fr.snoc X' N (B.hn ▸ ha)) e'
  exact ⟨t, o, sp _ h1, h2⟩
theorem go_new (B : OkK km κ l Z a0 n0 R own nm bytes maxL ret) {idx nf : Nat} {C : String} (hd : Dc bytes pc (.new idx) 3 pc') (wl : (Jvm.Cond.classLink own idx C).before a0 Z = true) (wi : (Jvm.Cond.instantiable C nf).before a0 Z = true) (wz : (Jvm.Cond.initialized C).before a0 Z = true) (hc : k + 1 ≤ R.cells) (hl : n + nf ≤ R.slots)
    (g : ∀ h' b, b = h.size → Ext h h' → Exa Z h' b C → (∀ {O fn d : String} {ty : FieldType}, Laid Z a0 C O fn d → parseFieldDescriptor d = some ty → Fld Z h' b O fn d (defaultValue ty)) → Go κ Q h' (k + 1) (n + nf) pc' L (.ref b :: st)) : Go κ Q h k n pc L st := fun T locs X N e => by
  obtain ⟨dd, rfl⟩ := hd
  obtain ⟨T', h', X', e', E, A, D, -, sp⟩ := newO X B.exec B.warm B.hown wl wi wz e (g := mkF κ.m pc L st) rfl (hb B.byt dd) (by rw [B.room]; exact hc) (by rw [B.room]; exact hl)
  obtain ⟨t, o, h1, h2⟩ := g h' _ rfl E A D T' locs X' N e'
  exact ⟨t, o, sp _ h1, h2⟩
/-- an array whose places hold just these values -/
def AV (Z : State) (h : Heap) (a : Addr) (ty : FieldType) (vs : List Value) : Prop := ∃ c : Cell, Arr Z h a c ty ∧ c.slots = vs.toArray ∧ vs.length < 2 ^ 31
theorem AV.ext {ty : FieldType} {vs : List Value} {h' : Heap} (F : AV Z h a ty vs) (E : Ext h h') : AV Z h' a ty vs := by obtain ⟨c, A, r⟩ := F; exact ⟨c, A.ext E, r⟩
theorem AV.other {ty : FieldType} {vs : List Value} {h' : Heap} {b : Addr} {sl : Nat} (F : AV Z h b ty vs) (W : Wr h h' a sl v) (q : b ≠ a) : AV Z h' b ty vs := by obtain ⟨c, A, r⟩ := F; exact ⟨c, A.other W q, r⟩
theorem AV.keep {ty : FieldType} {vs : List Value} {h' : Heap} {ws : List Addr} (F : AV Z h a ty vs) (K : Keep h h' ws) (q : a ∉ ws) : AV Z h' a ty vs := by obtain ⟨c, A, r⟩ := F; exact ⟨c, ⟨K.2.1 a c A.1 q, A.2⟩, r⟩
theorem AV.same {ty : FieldType} {vs : List Value} {h' : Heap} {i : Nat} (F : AV Z h a ty vs) (W : Wr h h' a i v) : AV Z h' a ty (vs.set i v) := by
  obtain ⟨c, A, r, s⟩ := F
  exact ⟨_, A.same W, by simp [Cell.setSlot, r], by simpa using s⟩
theorem AV.lt {ty : FieldType} {vs : List Value} (F : AV Z h a ty vs) : a < h.size := by obtain ⟨c, A, -⟩ := F; exact A.lt
theorem AV.len {ty : FieldType} {vs : List Value} (F : AV Z h a ty vs) : vs.length < 2 ^ 31 := by obtain ⟨c, A, -, q⟩ := F; exact q
theorem nat_idx {i : Nat} (hj : x.toInt = (i : Int)) : ¬ x < 0 ∧ x.toNatClampNeg = i := by
  refine ⟨fun q => ?_, ?_⟩
  · have := (Int32.lt_iff_toInt_lt).mp q
    have z : (0 : Int32).toInt = 0 := rfl
    omega
  · show x.toInt.toNat = i
    omega
theorem go_arraylength (B : OkK km κ l Z a0 n0 R own nm bytes maxL ret) {ty : FieldType} {vs : List Value} (hd : Dc bytes pc .arraylength 1 pc') (A : AV Z h a ty vs) (hx : Int32.ofNat vs.length = x) (g : Go κ Q h k n pc' L (.int x :: st)) : Go κ Q h k n pc L (.ref a :: st) := by
  obtain ⟨dd, rfl⟩ := hd
  obtain ⟨c, A, r, s⟩ := A
  have e1 : (Int32.ofNat c.slots.size) = x := by rw [← hx, r]; simp
  subst e1
  exact go_step (fun T locs X e t q => X.arraylength B.exec (by rw [e]; exact A.1) (State.isArrayOf_alike B.warm.alike A.2.1) (g := mkF κ.m pc L (.ref a :: st)) rfl rfl (hb B.byt dd) _ q) g
theorem go_iaload (B : OkK km κ l Z a0 n0 R own nm bytes maxL ret) {vs : List Value} {i : Nat} (hd : Dc bytes pc .iaload 1 pc') (A : AV Z h a .int vs) (hi : x.toInt = (i : Int)) (hv : vs[i]? = some v) (g : Go κ Q h k n pc' L (v :: st)) : Go κ Q h k n pc L (.int x :: .ref a :: st) := by
  obtain ⟨dd, rfl⟩ := hd
  obtain ⟨c, A, r, s⟩ := A
  obtain ⟨q1, q2⟩ := nat_idx hi
  have hl : i < vs.length := (List.getElem?_eq_some_iff.mp hv).1
  exact go_step (fun T locs X e t q => X.iaload B.exec (j := x) (v := v) (by rw [e]; exact A.1) (State.isArrayOf_alike B.warm.alike A.2.1) A.2.2 (by rw [r, q2]; simp; exact ⟨Int32.not_lt.mp q1, hl⟩) (by rw [r, q2]; simpa using hv) (g := mkF κ.m pc L (.int x :: .ref a :: st)) rfl rfl (hb B.byt dd) _ q) g
theorem go_laload (B : OkK km κ l Z a0 n0 R own nm bytes maxL ret) {vs : List Value} {i : Nat} (hd : Dc bytes pc .laload 1 pc') (A : AV Z h a .long vs) (hi : x.toInt = (i : Int)) (hv : vs[i]? = some v) (g : Go κ Q h k n pc' L (v :: st)) : Go κ Q h k n pc L (.int x :: .ref a :: st) := by
  obtain ⟨dd, rfl⟩ := hd
  obtain ⟨c, A, r, s⟩ := A
  obtain ⟨q1, q2⟩ := nat_idx hi
  have hl : i < vs.length := (List.getElem?_eq_some_iff.mp hv).1
  exact go_step (fun T locs X e t q => X.laload B.exec (j := x) (v := v) (by rw [e]; exact A.1) (State.isArrayOf_alike B.warm.alike A.2.1) A.2.2 (by rw [r, q2]; simp; exact ⟨Int32.not_lt.mp q1, hl⟩) (by rw [r, q2]; simpa using hv) (g := mkF κ.m pc L (.int x :: .ref a :: st)) rfl rfl (hb B.byt dd) _ q) g
theorem go_caload (B : OkK km κ l Z a0 n0 R own nm bytes maxL ret) {vs : List Value} {i : Nat} (hd : Dc bytes pc .caload 1 pc') (A : AV Z h a .char vs) (hi : x.toInt = (i : Int)) (hv : vs[i]? = some v) (g : Go κ Q h k n pc' L (v :: st)) : Go κ Q h k n pc L (.int x :: .ref a :: st) := by
  obtain ⟨dd, rfl⟩ := hd
  obtain ⟨c, A, r, s⟩ := A
  obtain ⟨q1, q2⟩ := nat_idx hi
  have hl : i < vs.length := (List.getElem?_eq_some_iff.mp hv).1
  exact go_step (fun T locs X e t q => X.caload B.exec (j := x) (v := v) (by rw [e]; exact A.1) (State.isArrayOf_alike B.warm.alike A.2.1) A.2.2 (by rw [r, q2]; simp; exact ⟨Int32.not_lt.mp q1, hl⟩) (by rw [r, q2]; simpa using hv) (g := mkF κ.m pc L (.int x :: .ref a :: st)) rfl rfl (hb B.byt dd) _ q) g
theorem go_baload (B : OkK km κ l Z a0 n0 R own nm bytes maxL ret) {vs : List Value} {i : Nat} (hd : Dc bytes pc .baload 1 pc') (A : AV Z h a .byte vs) (hi : x.toInt = (i : Int)) (hv : vs[i]? = some v) (g : Go κ Q h k n pc' L (v :: st)) : Go κ Q h k n pc L (.int x :: .ref a :: st) := by
  obtain ⟨dd, rfl⟩ := hd
  obtain ⟨c, A, r, s⟩ := A
  obtain ⟨q1, q2⟩ := nat_idx hi
  have hl : i < vs.length := (List.getElem?_eq_some_iff.mp hv).1
  exact go_step (fun T locs X e t q => X.baloadBytes B.exec (j := x) (v := v) (by rw [e]; exact A.1) (State.isArrayOf_alike B.warm.alike A.2.1) A.2.2 (by rw [r, q2]; simp; exact ⟨Int32.not_lt.mp q1, hl⟩) (by rw [r, q2]; simpa using hv) (g := mkF κ.m pc L (.int x :: .ref a :: st)) rfl rfl (hb B.byt dd) _ q) g
theorem go_zaload (B : OkK km κ l Z a0 n0 R own nm bytes maxL ret) {vs : List Value} {i : Nat} (hd : Dc bytes pc .baload 1 pc') (A : AV Z h a .boolean vs) (hi : x.toInt = (i : Int)) (hv : vs[i]? = some v) (g : Go κ Q h k n pc' L (v :: st)) : Go κ Q h k n pc L (.int x :: .ref a :: st) := by
  obtain ⟨dd, rfl⟩ := hd
  obtain ⟨c, A, r, s⟩ := A
  obtain ⟨q1, q2⟩ := nat_idx hi
  have hl : i < vs.length := (List.getElem?_eq_some_iff.mp hv).1
  exact go_step (fun T locs X e t q => X.baloadBooleans B.exec (j := x) (v := v) (by rw [e]; exact A.1) (State.isArrayOf_alike B.warm.alike A.2.1) A.2.2 (by rw [r, q2]; simp; exact ⟨Int32.not_lt.mp q1, hl⟩) (by rw [r, q2]; simpa using hv) (g := mkF κ.m pc L (.int x :: .ref a :: st)) rfl rfl (hb B.byt dd) _ q) g
theorem go_aaload (B : OkK km κ l Z a0 n0 R own nm bytes maxL ret) {ty : FieldType} {vs : List Value} {i : Nat} (hd : Dc bytes pc .aaload 1 pc') (A : AV Z h a ty vs) (hty : ty.isReference = true) (hi : x.toInt = (i : Int)) (hv : vs[i]? = some v) (g : Go κ Q h k n pc' L (v :: st)) : Go κ Q h k n pc L (.int x :: .ref a :: st) := by
  obtain ⟨dd, rfl⟩ := hd
  obtain ⟨c, A, r, s⟩ := A
  obtain ⟨q1, q2⟩ := nat_idx hi
  have hl : i < vs.length := (List.getElem?_eq_some_iff.mp hv).1
  exact go_step (fun T locs X e t q => X.aaload B.exec (j := x) (v := v) (by rw [e]; exact A.1) (State.isArrayOf_alike B.warm.alike A.2.1) hty A.2.2 (by rw [r, q2]; simp; exact ⟨Int32.not_lt.mp q1, hl⟩) (by rw [r, q2]; simpa using hv) (g := mkF κ.m pc L (.int x :: .ref a :: st)) rfl rfl (hb B.byt dd) _ q) g
theorem go_iastore (B : OkK km κ l Z a0 n0 R own nm bytes maxL ret) {vs : List Value} {i : Nat} (hd : Dc bytes pc .iastore 1 pc') (A : AV Z h a .int vs) (hi : x.toInt = (i : Int)) (hl : i < vs.length) (ha : n0 ≤ a) (g : ∀ h', Wr h h' a i (.int y) → AV Z h' a .int (vs.set i (.int y)) → Go κ Q h' k n pc' L st) : Go κ Q h k n pc L (.int y :: .int x :: .ref a :: st) := fun T locs X N e => by
  obtain ⟨dd, rfl⟩ := hd
  have A0 := A
  obtain ⟨c, A, r, s⟩ := A
  obtain ⟨q1, q2⟩ := nat_idx hi
  obtain ⟨T', h', X', e', W, sp⟩ := stI X B.exec B.warm e A (j := x) (by rw [r, q2]; simp; exact ⟨Int32.not_lt.mp q1, hl⟩) (g := mkF κ.m pc L (.int y :: .int x :: .ref a :: st)) rfl rfl (hb B.byt dd)
  have W' : Wr h h' a i (.int y) := q2 ▸ W
  obtain ⟨t, o, h1, h2⟩ := g h' W' (A0.same W') T' _ X' (Fr.snoc X' N (B.hn ▸ ha)) e'
  exact ⟨t, o, sp _ h1, h2⟩
theorem go_lastore (B : OkK km κ l Z a0 n0 R own nm bytes maxL ret) {vs : List Value} {i : Nat} (hd : Dc bytes pc .lastore 1 pc') (A : AV Z h a .long vs) (hi : x.toInt = (i : Int)) (hl : i < vs.length) (ha : n0 ≤ a) (g : ∀ h', Wr h h' a i (.long u) → AV Z h' a .long (vs.set i (.long u)) → Go κ Q h' k n pc' L st) : Go κ Q h k n pc L (.long u :: .int x :: .ref a :: st) := fun T locs X N e => by
  obtain ⟨dd, rfl⟩ := hd
  have A0 := A
  obtain ⟨c, A, r, s⟩ := A
  obtain ⟨q1, q2⟩ := nat_idx hi
  obtain ⟨T', h', X', e', W, sp⟩ := stJ X B.exec B.warm e A (j := x) (by rw [r, q2]; simp; exact ⟨Int32.not_lt.mp q1, hl⟩) (g := mkF κ.m pc L (.long u :: .int x :: .ref a :: st)) rfl rfl (hb B.byt dd)
  have W' : Wr h h' a i (.long u) := q2 ▸ W
  obtain ⟨t, o, h1, h2⟩ := g h' W' (A0.same W') T' _ X' (Fr.snoc X' N (B.hn ▸ ha)) e'
  exact ⟨t, o, sp _ h1, h2⟩
theorem go_castore (B : OkK km κ l Z a0 n0 R own nm bytes maxL ret) {vs : List Value} {i : Nat} (hd : Dc bytes pc .castore 1 pc') (A : AV Z h a .char vs) (hi : x.toInt = (i : Int)) (hl : i < vs.length) (ha : n0 ≤ a) (g : ∀ h', Wr h h' a i (.int (nar .char y)) → AV Z h' a .char (vs.set i (.int (nar .char y))) → Go κ Q h' k n pc' L st) : Go κ Q h k n pc L (.int y :: .int x :: .ref a :: st) := fun T locs X N e => by
  obtain ⟨dd, rfl⟩ := hd
  have A0 := A
  obtain ⟨c, A, r, s⟩ := A
  obtain ⟨q1, q2⟩ := nat_idx hi
  obtain ⟨T', h', X', e', W, sp⟩ := stC X B.exec B.warm e A (j := x) (by rw [r, q2]; simp; exact ⟨Int32.not_lt.mp q1, hl⟩) (g := mkF κ.m pc L (.int y :: .int x :: .ref a :: st)) rfl rfl (hb B.byt dd)
  have W' : Wr h h' a i (.int (nar .char y)) := q2 ▸ W
  obtain ⟨t, o, h1, h2⟩ := g h' W' (A0.same W') T' _ X' (Fr.snoc X' N (B.hn ▸ ha)) e'
  exact ⟨t, o, sp _ h1, h2⟩
theorem go_bastore (B : OkK km κ l Z a0 n0 R own nm bytes maxL ret) {vs : List Value} {i : Nat} (hd : Dc bytes pc .bastore 1 pc') (A : AV Z h a .byte vs) (hi : x.toInt = (i : Int)) (hl : i < vs.length) (ha : n0 ≤ a) (g : ∀ h', Wr h h' a i (.int (nar .byte y)) → AV Z h' a .byte (vs.set i (.int (nar .byte y))) → Go κ Q h' k n pc' L st) : Go κ Q h k n pc L (.int y :: .int x :: .ref a :: st) := fun T locs X N e => by
  obtain ⟨dd, rfl⟩ := hd
  have A0 := A
  obtain ⟨c, A, r, s⟩ := A
  obtain ⟨q1, q2⟩ := nat_idx hi
  obtain ⟨T', h', X', e', W, sp⟩ := stB X B.exec B.warm e A (j := x) (by rw [r, q2]; simp; exact ⟨Int32.not_lt.mp q1, hl⟩) (g := mkF κ.m pc L (.int y :: .int x :: .ref a :: st)) rfl rfl (hb B.byt dd)
  have W' : Wr h h' a i (.int (nar .byte y)) := q2 ▸ W
  obtain ⟨t, o, h1, h2⟩ := g h' W' (A0.same W') T' _ X' (Fr.snoc X' N (B.hn ▸ ha)) e'
  exact ⟨t, o, sp _ h1, h2⟩
theorem go_zastore (B : OkK km κ l Z a0 n0 R own nm bytes maxL ret) {vs : List Value} {i : Nat} (hd : Dc bytes pc .bastore 1 pc') (A : AV Z h a .boolean vs) (hi : x.toInt = (i : Int)) (hl : i < vs.length) (ha : n0 ≤ a) (g : ∀ h', Wr h h' a i (.int (nar .boolean y)) → AV Z h' a .boolean (vs.set i (.int (nar .boolean y))) → Go κ Q h' k n pc' L st) : Go κ Q h k n pc L (.int y :: .int x :: .ref a :: st) := fun T locs X N e => by
  obtain ⟨dd, rfl⟩ := hd
  have A0 := A
  obtain ⟨c, A, r, s⟩ := A
  obtain ⟨q1, q2⟩ := nat_idx hi
  obtain ⟨T', h', X', e', W, sp⟩ := stZ X B.exec B.warm e A (j := x) (by rw [r, q2]; simp; exact ⟨Int32.not_lt.mp q1, hl⟩) (g := mkF κ.m pc L (.int y :: .int x :: .ref a :: st)) rfl rfl (hb B.byt dd)
  have W' : Wr h h' a i (.int (nar .boolean y)) := q2 ▸ W
  obtain ⟨t, o, h1, h2⟩ := g h' W' (A0.same W') T' _ X' (Fr.snoc X' N (B.hn ▸ ha)) e'
  exact ⟨t, o, sp _ h1, h2⟩
theorem go_newarray (B : OkK km κ l Z a0 n0 R own nm bytes maxL ret) {aty : ArrayType} {i cap : Nat} (hd : Dc bytes pc (.newarray aty) 2 pc') (wa : (Jvm.Cond.arrayClass (newarray.typeOf aty)).before a0 Z = true) (hi : x.toInt = (i : Int)) (hcap : i ≤ cap) (hbig : cap * 8 ≤ 536870912) (hc : k + 1 ≤ R.cells) (hl : n + cap ≤ R.slots)
    (g : ∀ h' b, b = h.size → Ext h h' → AV Z h' b (newarray.typeOf aty) (List.replicate i (defaultValue (newarray.typeOf aty))) → Exa Z h' b ("[" ++ (newarray.typeOf aty).toString) → Go κ Q h' (k + 1) (n + cap) pc' L (.ref b :: st)) : Go κ Q h k n pc L (.int x :: st) := fun T locs X N e => by
  obtain ⟨dd, rfl⟩ := hd
  obtain ⟨q1, q2⟩ := nat_idx hi
  have hcb : componentBytes (newarray.typeOf aty) ≤ 8 := by cases aty <;> decide
  have hbig' : x.toNatClampNeg * componentBytes (newarray.typeOf aty) ≤ 536870912 := Nat.le_trans (Nat.mul_le_mul (q2 ▸ hcap) hcb) hbig
  obtain ⟨cA, kA, comp, f1, f2, f3, X', sp⟩ := X.newarrayPrim B.exec (mvA B.warm wa) (g := mkF κ.m pc L (.int x :: st)) rfl (hb B.byt dd) rfl q1 hbig' (by rw [B.room]; exact hc) (by rw [B.room, q2]; omega)
  subst e
  have f1' : Z.vm.findClass ("[" ++ (newarray.typeOf aty).toString) = some cA := by rw [← B.warm.alike.findClass]; exact f1
  obtain ⟨kZ, z1, -⟩ := Vm.findClass_spec f1'
  obtain ⟨k', z2, z3⟩ := B.warm.alike.2.2 _ _ z1
  cases f2.symm.trans z2
  have f4 : kZ.kind = .array comp (newarray.typeOf aty) := by rw [← f3, z3]
  have hat : (T.heap.push { cls := cA, slots := Array.replicate x.toNatClampNeg (defaultValue (newarray.typeOf aty)), vm := .none : Cell })[T.heap.size]? = some { cls := cA, slots := Array.replicate x.toNatClampNeg (defaultValue (newarray.typeOf aty)), vm := .none } := by simp
  have hE : Ext T.heap (T.heap.push { cls := cA, slots := Array.replicate x.toNatClampNeg (defaultValue (newarray.typeOf aty)), vm := .none : Cell }) := ext_of fun a ha => by rw [Array.getElem?_push_lt ha]; exact (Array.getElem?_eq_getElem _).symm
  obtain ⟨t, o, h1, h2⟩ := g _ _ rfl hE ⟨_, ⟨hat, ⟨by simp, kZ, z1, comp, f4⟩, by simp⟩, by simp [q2], by simp; have := x.toInt_lt; omega⟩
    ⟨_, kZ, hat, f1', z1, rfl, fun q => by rw [f4] at q; cases q⟩ _ locs (X'.more (Nat.le_refl _) (by rw [q2]; omega)) N rfl
  exact ⟨t, o, sp _ h1, h2⟩
theorem go_ldcI (B : OkK km κ l Z a0 n0 R own nm bytes maxL ret) {idx : Nat} (hd : Dc bytes pc (.ldc idx) 2 pc') (wl : (Jvm.Cond.constant own idx x).before a0 Z = true) (g : Go κ Q h k n pc' L (.int x :: st)) : Go κ Q h k n pc L st := by
  obtain ⟨dd, rfl⟩ := hd
  exact go_step (fun T locs X e t q => X.ldcInt B.exec B.hown (mvT B.warm wl) (g := mkF κ.m pc L st) rfl (hb B.byt dd) _ q) g
theorem go_ldcWI (B : OkK km κ l Z a0 n0 R own nm bytes maxL ret) {idx : Nat} (hd : Dc bytes pc (.ldc_w idx) 3 pc') (wl : (Jvm.Cond.constant own idx x).before a0 Z = true) (g : Go κ Q h k n pc' L (.int x :: st)) : Go κ Q h k n pc L st := by
  obtain ⟨dd, rfl⟩ := hd
  exact go_step (fun T locs X e t q => X.ldcwInt B.exec B.hown (mvT B.warm wl) (g := mkF κ.m pc L st) rfl (hb B.byt dd) _ q) g
theorem go_ldc2J (B : OkK km κ l Z a0 n0 R own nm bytes maxL ret) {idx : Nat} (hd : Dc bytes pc (.ldc2_w idx) 3 pc') (wl : (Jvm.Cond.constantLong own idx u).before a0 Z = true) (g : Go κ Q h k n pc' L (.long u :: st)) : Go κ Q h k n pc L st := by
  obtain ⟨dd, rfl⟩ := hd
  exact go_step (fun T locs X e t q => X.ldc2Long B.exec B.hown (mvT B.warm wl) (g := mkF κ.m pc L st) rfl (hb B.byt dd) _ q) g
theorem go_initO (B : OkK km κ l Z a0 n0 R own nm bytes maxL ret) {idx W : Nat} (hd : Dc bytes pc (.invokespecial idx) 3 pc') (w1 : (Jvm.Cond.methodLink own idx Lib.objectInit).before a0 Z = true) (w2 : (Jvm.Cond.instanceMethod Lib.objectInit).before a0 Z = true) (w3 : (Jvm.Cond.code Lib.objectInit ⟨#[0xb1]⟩ 1 none).before a0 Z = true)
    (hs : L.size = maxL) (hW : (st.map fun v => v.category).sum = W) (hf : 1 ≤ R.frames) (hl : W + 12 ≤ R.locals) (g : Go κ Q h k n pc' L st) : Go κ Q h k n pc L (.ref a :: st) := fun T locs X N e => by
  obtain ⟨dd, rfl⟩ := hd
  obtain ⟨T', X', e', sp⟩ := initO X B.exec B.warm B.hown w1 w2 w3 e (g := mkF κ.m pc L (.ref a :: st)) rfl (by rw [B.mxl]; exact hs) rfl (hb B.byt dd) (by rw [B.room]; exact hf) (W := W) (by show 2 * 0 + _ ≤ _; omega) (by rw [B.room]; exact hl)
  obtain ⟨t, o, h1, h2⟩ := g T' locs X' N e'
  exact ⟨t, o, sp _ h1, h2⟩
section Call
variable {y' : MethodName} {idx W : Nat} {bytes' : ByteArray} {maxL' : Nat} {ret' : Option FieldType} {rm : Room} {as' : Array Value} {argsL : List Value} {Q' : Option Value → Heap → Prop} {ps : List FieldType} {rt : Option FieldType}
theorem go_static (B : OkK km κ l Z a0 n0 R own nm bytes maxL ret) (hd : Dc bytes pc (.invokestatic idx) 3 pc') (w1 : (Jvm.Cond.methodLink own idx y').before a0 Z = true) (w2 : (Jvm.Cond.static y').before a0 Z = true) (w3 : (Jvm.Cond.initialized y'.cls).before a0 Z = true) (w4 : (Jvm.Cond.code y' bytes' maxL' ret').before a0 Z = true)
    (hy : y'.cls ≠ "java/lang/invoke/MethodHandle" ∧ y'.cls ≠ "java/lang/invoke/VarHandle") (C : Ct l Z n0 y' bytes' maxL' ret' [] rm argsL.toArray h Q') (pd : parseMethodDescriptor y'.desc = some ⟨ps, rt⟩) (hlen : argsL.length = ps.length) (hst : st' = argsL.reverse ++ st) (hs : L.size = maxL)
    (hW : (st.map fun v => v.category).sum = W) (hf : rm.frames + 1 ≤ R.frames) (hl : W + (maxL' + 11) + rm.locals ≤ R.locals) (hc : k + rm.cells ≤ R.cells) (hn : n + rm.slots ≤ R.slots)
    (g : ∀ v h', Q' v h' → Go κ Q h' (k + rm.cells) (n + rm.slots) pc' L (v.toList ++ st)) : Go κ Q h k n pc L st' := fun T locs X N e => by
  obtain ⟨dd, rfl⟩ := hd
  have C' : Ct κ.l Z n0 y' bytes' maxL' ret' [] rm argsL.toArray h Q' := B.hl.symm ▸ C
  obtain ⟨vv, _, ⟨T', L2, k2, n2⟩, -, X', ⟨Lc, hQ, l2, y2, z2⟩, sp⟩ := Jvm.LawKit.callS X B.exec (y := y') B.hown (mvT B.warm w1) (mvT B.warm w2) (mvT B.warm w3) (mvT B.warm w4) hy
    (backOf (Q := fun v h L => Q' v h ∧ Fr n0 L) (W := W) C' B.warm w4 w3 (by rw [B.room]; exact hf) (by rw [B.room]; exact hl)) (g := mkF κ.m pc L st') rfl (by rw [B.mxl]; exact hs) (argsL := argsL) (rest := st) (lenOf pd hlen) hst (by show 2 * 0 + _ ≤ _; omega) (hb B.byt dd)
    (fun _ _ => ⟨rfl, e, by rw [B.room]; exact hc, by rw [B.room]; exact hn⟩)
  dsimp only [Pt.U, Pt.locs, Pt.cells, Pt.slots] at X' l2 y2 z2 sp hQ
  subst l2 y2 z2
  obtain ⟨t, o, h1, h2⟩ := g vv T'.heap hQ.1 T' _ X' (Fr.app N (B.hn.symm ▸ hQ.2)) rfl
  exact ⟨t, o, sp _ h1, h2⟩
theorem go_special (B : OkK km κ l Z a0 n0 R own nm bytes maxL ret) (hd : Dc bytes pc (.invokespecial idx) 3 pc') (hi : y'.name = "<init>") (w1 : (Jvm.Cond.methodLink own idx y').before a0 Z = true) (w2 : (Jvm.Cond.instanceMethod y').before a0 Z = true) (w3 : (Jvm.Cond.initialized y'.cls).before a0 Z = true) (w4 : (Jvm.Cond.code y' bytes' maxL' none).before a0 Z = true)
    (hy : y'.cls ≠ "java/lang/invoke/MethodHandle" ∧ y'.cls ≠ "java/lang/invoke/VarHandle") (C : Ct l Z n0 y' bytes' maxL' none [] rm (.ref a :: argsL).toArray h Q') (pd : parseMethodDescriptor y'.desc = some ⟨ps, rt⟩) (hlen : argsL.length = ps.length) (hst : st' = argsL.reverse ++ .ref a :: st) (hs : L.size = maxL)
    (hW : (st.map fun v => v.category).sum = W) (hf : rm.frames + 1 ≤ R.frames) (hl : W + (maxL' + 11) + rm.locals ≤ R.locals) (hc : k + rm.cells ≤ R.cells) (hn : n + rm.slots ≤ R.slots)
    (g : ∀ v h', Q' v h' → Go κ Q h' (k + rm.cells) (n + rm.slots) pc' L (v.toList ++ st)) : Go κ Q h k n pc L st' := fun T locs X N e => by
  obtain ⟨dd, rfl⟩ := hd
  have C' : Ct κ.l Z n0 y' bytes' maxL' none [] rm (.ref a :: argsL).toArray h Q' := B.hl.symm ▸ C
  obtain ⟨vv, _, ⟨T', L2, k2, n2⟩, -, X', ⟨Lc, hQ, l2, y2, z2⟩, sp⟩ := X.specialBack B.exec (y := y') hi B.hown (mvT B.warm w1) (mvT B.warm w2) (mvT B.warm w4) hy
    (backOf (Q := fun v h L => Q' v h ∧ Fr n0 L) (W := W) C' B.warm w4 w3 (by rw [B.room]; exact hf) (by rw [B.room]; exact hl)) (g := mkF κ.m pc L st') rfl (by rw [B.mxl]; exact hs) (Steps.refl _) (a := a) (argsL := argsL) (rest := st) (lenOf pd hlen) hst (by show 2 * 0 + _ ≤ _; omega) (hb B.byt dd)
    (fun _ _ => ⟨rfl, e, by rw [B.room]; exact hc, by rw [B.room]; exact hn⟩)
  dsimp only [Pt.U, Pt.locs, Pt.cells, Pt.slots] at X' l2 y2 z2 sp hQ
  subst l2 y2 z2
  obtain ⟨t, o, h1, h2⟩ := g vv T'.heap hQ.1 T' _ X' (Fr.app N (B.hn.symm ▸ hQ.2)) rfl
  exact ⟨t, o, sp.trans h1, h2⟩
theorem go_virtual (B : OkK km κ l Z a0 n0 R own nm bytes maxL ret) {C0 : String} (hd : Dc bytes pc (.invokevirtual idx) 3 pc') (w1 : (Jvm.Cond.methodLink own idx y').before a0 Z = true) (w2 : (Jvm.Cond.declares y').before a0 Z = true) (w5 : (Jvm.Cond.selects C0 y' y').before a0 Z = true) (w6 : (Jvm.Cond.instanceMethod y').before a0 Z = true) (w3 : (Jvm.Cond.initialized y'.cls).before a0 Z = true) (w4 : (Jvm.Cond.code y' bytes' maxL' ret').before a0 Z = true)
    (hy : y'.cls ≠ "java/lang/invoke/MethodHandle" ∧ y'.cls ≠ "java/lang/invoke/VarHandle") (E : Exa Z h a C0) (C : Ct l Z n0 y' bytes' maxL' ret' [] rm (.ref a :: argsL).toArray h Q') (pd : parseMethodDescriptor y'.desc = some ⟨ps, rt⟩) (hlen : argsL.length = ps.length) (hst : st' = argsL.reverse ++ .ref a :: st) (hs : L.size = maxL)
    (hW : (st.map fun v => v.category).sum = W) (hf : rm.frames + 1 ≤ R.frames) (hl : W + (maxL' + 11) + rm.locals ≤ R.locals) (hc : k + rm.cells ≤ R.cells) (hn : n + rm.slots ≤ R.slots)
    (g : ∀ v h', Q' v h' → Go κ Q h' (k + rm.cells) (n + rm.slots) pc' L (v.toList ++ st)) : Go κ Q h k n pc L st' := fun T locs X N e => by
  obtain ⟨dd, rfl⟩ := hd
  have C' : Ct κ.l Z n0 y' bytes' maxL' ret' [] rm (.ref a :: argsL).toArray h Q' := B.hl.symm ▸ C
  obtain ⟨cq, kq, qa, qb, qc⟩ := isOf B.warm e E
  obtain ⟨vv, _, ⟨T', L2, k2, n2⟩, -, X', ⟨Lc, hQ, l2, y2, z2⟩, sp⟩ := X.virtualBack B.exec (y := y') (z := y') B.hown (mvT B.warm w1) (mvT B.warm w2) (notFace_of_selects (args := #[]) (mvT B.warm w5)) (mvT B.warm w5) (mvT B.warm w6) hy
    (backOf (Q := fun v h L => Q' v h ∧ Fr n0 L) (W := W) C' B.warm w4 w3 (by rw [B.room]; exact hf) (by rw [B.room]; exact hl)) qa qc (g := mkF κ.m pc L st') rfl (by rw [B.mxl]; exact hs) (Steps.refl _) (argsL := argsL) (rest := st) (lenOf pd hlen) hst (by show 2 * 0 + _ ≤ _; omega) (hb B.byt dd)
    (fun _ _ => ⟨rfl, e, by rw [B.room]; exact hc, by rw [B.room]; exact hn⟩)
  dsimp only [Pt.U, Pt.locs, Pt.cells, Pt.slots] at X' l2 y2 z2 sp hQ
  subst l2 y2 z2
  obtain ⟨t, o, h1, h2⟩ := g vv T'.heap hQ.1 T' _ X' (Fr.app N (B.hn.symm ▸ hQ.2)) rfl
  exact ⟨t, o, sp.trans h1, h2⟩
end Call
theorem go_end (B : OkK km κ l Z a0 n0 R own nm bytes maxL ret) {vv : Option Value} (hk : k ≤ R.cells) (hn : n ≤ R.slots) (hq : Q vv h) (hv : ret = none → vv = none) (hkm : km ≤ h.size)
    (hs : ∀ (T : State) (locs : List Loc) (fs : List Frame), Stand κ.p κ.l κ.e κ.R κ.s κ.m κ.args κ.below κ.meth κ.c T locs k n → (∀ (f : JFrame) (acts : List Action), f.method = κ.m → f.locked = none → f.entered = [] → (doReturn κ.e (T.setTop f) acts vv).1 = T.setFrames fs) → Steps κ.p.tables κ.e κ.below (T.setTop (mkF κ.m pc L st)) (T.setFrames fs)) : Go κ Q h k n pc L st := fun T locs X N e => by
  obtain ⟨fs, hr, hrun, hended, hW, hsame⟩ := X.leave (v := vv) (fun q => hv (B.rets.symm.trans q)) B.nolock
  exact ⟨_, _, hs T locs fs X hr, hrun, hended, _, _, rfl, ⟨by show Q vv T.heap; rw [e]; exact hq, N⟩, B.hE _ _ _ ⟨⟨_, rfl⟩, hW, hsame.mono (by rw [B.room]; exact hk) (by rw [B.room]; exact hn)⟩ (by show κ.kmin ≤ T.heap.size; rw [e, B.hkm]; exact hkm)⟩
theorem go_ireturn (B : OkK km κ l Z a0 n0 R own nm bytes maxL (some .int)) (hd : Dc bytes pc .ireturn 1 pc') (hk : k ≤ R.cells) (hn : n ≤ R.slots) (hq : Q (some (.int x)) h) (hkm : km ≤ h.size := by first | exact Nat.zero_le _ | assumption) : Go κ Q h k n pc L (.int x :: st) :=
  go_end B hk hn hq (fun q => by cases q) hkm (fun T locs fs X hr => retOut X B.exec (t := .int) (i := .ireturn) B.rets rfl (Or.inl ⟨rfl, Or.inl rfl, x, rfl⟩) (hb B.byt hd.1) hr)
theorem go_zreturn (B : OkK km κ l Z a0 n0 R own nm bytes maxL (some .boolean)) (hd : Dc bytes pc .ireturn 1 pc') (hk : k ≤ R.cells) (hn : n ≤ R.slots) (hz : x &&& 1 = y) (hq : Q (some (.int y)) h) (hkm : km ≤ h.size := by first | exact Nat.zero_le _ | assumption) : Go κ Q h k n pc L (.int x :: st) := by
  subst hz
  exact go_end B hk hn hq (fun q => by cases q) hkm (fun T locs fs X hr => retN X B.exec (t := .boolean) B.rets (by simp) (hb B.byt hd.1) hr)
theorem go_breturn (B : OkK km κ l Z a0 n0 R own nm bytes maxL (some .byte)) (hd : Dc bytes pc .ireturn 1 pc') (hk : k ≤ R.cells) (hn : n ≤ R.slots) (hz : x.toInt8.toInt32 = y) (hq : Q (some (.int y)) h) (hkm : km ≤ h.size := by first | exact Nat.zero_le _ | assumption) : Go κ Q h k n pc L (.int x :: st) := by
  subst hz
  exact go_end B hk hn hq (fun q => by cases q) hkm (fun T locs fs X hr => retN X B.exec (t := .byte) B.rets (by simp) (hb B.byt hd.1) hr)
theorem go_lreturn (B : OkK km κ l Z a0 n0 R own nm bytes maxL (some .long)) (hd : Dc bytes pc .lreturn 1 pc') (hk : k ≤ R.cells) (hn : n ≤ R.slots) (hq : Q (some (.long u)) h) (hkm : km ≤ h.size := by first | exact Nat.zero_le _ | assumption) : Go κ Q h k n pc L (.long u :: st) :=
  go_end B hk hn hq (fun q => by cases q) hkm (fun T locs fs X hr => retOut X B.exec (t := .long) (i := .lreturn) B.rets rfl (Or.inr (Or.inl ⟨rfl, rfl, u, rfl⟩)) (hb B.byt hd.1) hr)
theorem go_areturn {ty : FieldType} (B : OkK km κ l Z a0 n0 R own nm bytes maxL (some ty)) (hd : Dc bytes pc .areturn 1 pc') (hty : ty.isReference = true) (hnr : narrow ty v = v) (hv : v.isRef = true) (hk : k ≤ R.cells) (hn : n ≤ R.slots) (hq : Q (some v) h) (hkm : km ≤ h.size := by first | exact Nat.zero_le _ | assumption) : Go κ Q h k n pc L (v :: st) :=
  go_end B hk hn hq (fun q => by cases q) hkm (fun T locs fs X hr => retOut X B.exec (t := ty) (i := .areturn) B.rets hnr (Or.inr (Or.inr (Or.inr (Or.inr ⟨rfl, hty, hv⟩)))) (hb B.byt hd.1) hr)
theorem go_return (B : OkK km κ l Z a0 n0 R own nm bytes maxL none) (hd : Dc bytes pc .return_ 1 pc') (hk : k ≤ R.cells) (hn : n ≤ R.slots) (hq : Q none h) (hkm : km ≤ h.size := by first | exact Nat.zero_le _ | assumption) : Go κ Q h k n pc L [] :=
  go_end B hk hn hq (fun _ => rfl) hkm (fun T locs fs X hr => X.returnOut B.exec B.rets (hb B.byt hd.1) hr)
end G
end Jvm.OwnGo
namespace Jvm.OwnGo
open Sem ClassFile Op Lib Jvm.Stand Jvm.Free Jvm.LawKit Jvm.RoadKit
theorem i_lt {x y : Int32} {i j : Int} (hx : x.toInt = i) (hy : y.toInt = j) (h : i < j) : x < y := Int32.lt_iff_toInt_lt.mpr (by omega)
theorem i_nlt {x y : Int32} {i j : Int} (hx : x.toInt = i) (hy : y.toInt = j) (h : j ≤ i) : ¬ x < y := fun q => by have := Int32.lt_iff_toInt_lt.mp q; omega
theorem i_of_lt {x y : Int32} {i j : Int} (hx : x.toInt = i) (hy : y.toInt = j) (h : x < y) : i < j := by have := Int32.lt_iff_toInt_lt.mp h; omega
theorem i_of_nlt {x y : Int32} {i j : Int} (hx : x.toInt = i) (hy : y.toInt = j) (h : ¬ x < y) : j ≤ i := by
  have := Int32.le_iff_toInt_le.mp (Int32.not_lt.mp h)
  omega
theorem i_eq {x y : Int32} {i : Int} (hx : x.toInt = i) (hy : y.toInt = i) : x = y := Int32.toInt_inj.mp (hx.trans hy.symm)
theorem i_ne {x y : Int32} {i j : Int} (hx : x.toInt = i) (hy : y.toInt = j) (h : i ≠ j) : ¬ x = y := fun q => h (by rw [← hx, ← hy, q])
theorem i_of_ne {x y : Int32} {i j : Int} (hx : x.toInt = i) (hy : y.toInt = j) (h : ¬ x = y) : i ≠ j := fun q => h (i_eq hx (hy.trans q.symm))
theorem i_add {x y : Int32} {i j : Int} (hx : x.toInt = i) (hy : y.toInt = j) (h1 : -2147483648 ≤ i + j) (h2 : i + j < 2147483648) : (x + y).toInt = i + j := by
  rw [Int32.toInt_add, hx, hy]; exact Int.bmod_eq_of_le (by omega) (by omega)
theorem i_sub {x y : Int32} {i j : Int} (hx : x.toInt = i) (hy : y.toInt = j) (h1 : -2147483648 ≤ i - j) (h2 : i - j < 2147483648) : (x - y).toInt = i - j := by
  rw [Int32.toInt_sub, hx, hy]; exact Int.bmod_eq_of_le (by omega) (by omega)
theorem i_mul {x y : Int32} {i j : Int} (hx : x.toInt = i) (hy : y.toInt = j) (h1 : -2147483648 ≤ i * j) (h2 : i * j < 2147483648) : (x * y).toInt = i * j := by
  rw [Int32.toInt_mul, hx, hy]; exact Int.bmod_eq_of_le (by omega) (by omega)
/-- x & m for a mask m that isn't negative -/
theorem i_and (x m : Int32) (hm : 0 ≤ m.toInt) : 0 ≤ (x &&& m).toInt ∧ (x &&& m).toInt ≤ m.toInt := by
  have h1 : ¬ (x &&& m) < 0 := by
    rw [XT.and_neg32]
    exact fun q => by have := (XT.negI32 _).mp q.2; omega
  have h2 : 0 ≤ (x &&& m).toInt := by
    have := mt (XT.negI32 _).mpr h1
    omega
  refine ⟨h2, ?_⟩
  have e1 : (x &&& m).toInt = ((x &&& m).toBitVec.toNat : Int) := by
    show (x &&& m).toBitVec.toInt = _
    rw [BitVec.toInt_eq_toNat_cond]
    split
    · rfl
    · rename_i q
      have h3 : (x &&& m).toBitVec.toInt = _ := BitVec.toInt_eq_toNat_cond _
      rw [if_neg q] at h3
      have h4 : 0 ≤ (x &&& m).toBitVec.toInt := h2
      have := (x &&& m).toBitVec.isLt
      omega
  have e2 : m.toInt = (m.toBitVec.toNat : Int) := by
    show m.toBitVec.toInt = _
    rw [BitVec.toInt_eq_toNat_cond]
    split
    · rfl
    · rename_i q
      have h3 : m.toBitVec.toInt = _ := BitVec.toInt_eq_toNat_cond _
      rw [if_neg q] at h3
      have h4 : 0 ≤ m.toBitVec.toInt := hm
      have := m.toBitVec.isLt
      omega
  rw [e1, e2, Int32.toBitVec_and, BitVec.toNat_and]
  exact Int.ofNat_le.mpr Nat.and_le_right
theorem i_mod {x y : Int32} {i j : Int} (hx : x.toInt = i) (hy : y.toInt = j) (hi : 0 ≤ i) (hj : 0 < j) : (x % y).toInt = i % j := by
  rw [Int32.toInt_mod, hx, hy, Int.tmod_eq_emod_of_nonneg hi]
theorem i_nat {x : Int32} (h : 0 ≤ x.toInt) : ∃ n : Nat, x.toInt = (n : Int) ∧ n < 2147483648 := ⟨x.toInt.toNat, by omega, by have := x.toInt_lt; omega⟩
theorem i_ofNat {n : Nat} (h : n < 2147483648) : (Int32.ofNat n).toInt = (n : Int) := Int32.toInt_ofNat_of_lt h
end Jvm.OwnGo
namespace Jvm.OwnGo
open Sem ClassFile Op Lib Jvm.Stand Jvm.Free Jvm.LawKit Jvm.RoadKit
section G
variable {km : Nat} {κ : Cx} {l : Launch} {Z : State} {a0 : Array Value} {n0 : Nat} {R : Room} {own nm : String} {bytes : ByteArray} {maxL : Nat} {ret : Option FieldType} {Q : Option Value → Heap → Prop} {h : Heap} {k n pc pc' pc1 pc2 : Nat} {L L' : Array Slot} {st st' : List Value} {o : Int} {x y : Int32} {u w : Int64} {a b : Addr} {v v' : Value}
theorem fitC_of {c : Cell} {ty : FieldType} (A : Arr Z h a c ty) (hv : ∀ v ∈ c.slots.toList, fits ty v = true) : FitC Z c := fun i v q => by
  obtain ⟨-, kk, hk, comp, hkind⟩ := A.2.1
  have m : v ∈ c.slots.toList := by
    obtain ⟨hi, rfl⟩ := Array.getElem?_eq_some_iff.mp q
    exact Array.mem_toList_iff.mpr (Array.getElem_mem hi)
  simp [State.fitsSlot, State.slotType?, hk, hkind, hv v m]
/-- array.clone() -/
theorem go_clone (B : OkK km κ l Z a0 n0 R own nm bytes maxL ret) {ad : String} {idx W cap : Nat} {ty : FieldType} {vs : List Value} (hd : Dc bytes pc (.invokevirtual idx) 3 pc')
    (w1 : (Jvm.Cond.methodLink own idx ⟨ad, "clone", "()Ljava/lang/Object;"⟩).before a0 Z = true) (w2 : (Jvm.Cond.sameMethod ad "java/lang/Object" "clone" "()Ljava/lang/Object;").before a0 Z = true) (w3 : (Jvm.Cond.native ⟨"java/lang/Object", "clone", "()Ljava/lang/Object;"⟩).before a0 Z = true)
    (w4 : (Jvm.Cond.instanceMethod ⟨"java/lang/Object", "clone", "()Ljava/lang/Object;"⟩).before a0 Z = true) (w5 : (Jvm.Cond.selects ad ⟨ad, "clone", "()Ljava/lang/Object;"⟩ ⟨"java/lang/Object", "clone", "()Ljava/lang/Object;"⟩).before a0 Z = true) (w6 : (Jvm.Cond.castable ad "java/lang/Cloneable").before a0 Z = true)
    (A : AV Z h a ty vs) (E : Exa Z h a ad) (hv : ∀ v ∈ vs, fits ty v = true) (hs : L.size = maxL) (hW : (st.map fun v => v.category).sum = W) (hf : 1 ≤ R.frames) (hl : W + 14 ≤ R.locals) (hcap : vs.length ≤ cap) (hc : k + 1 ≤ R.cells) (hsl : n + cap ≤ R.slots)
    (g : ∀ h' b, b = h.size → Ext h h' → AV Z h' b ty vs → Exa Z h' b ad → Go κ Q h' (k + 1) (n + cap) pc' L (.ref b :: st)) : Go κ Q h k n pc L (.ref a :: st) := fun T locs X N e => by
  obtain ⟨dd, rfl⟩ := hd
  obtain ⟨c, A, r, s⟩ := A
  obtain ⟨T', h', X', e', E', A', C', sp⟩ := cloneA X B.exec B.warm B.hown w1 w2 w3 w4 w5 w6 e A E (fitC_of A (by rw [r]; simpa using hv)) (g := mkF κ.m pc L (.ref a :: st)) rfl (by rw [B.mxl]; exact hs) rfl (hb B.byt dd) (by rw [B.room]; exact hf) (W := W) (cap := cap) (by show 2 * 0 + _ ≤ _; omega) (by rw [B.room]; exact hl) (by rw [r]; simpa using hcap) (by rw [B.room]; exact hc) (by rw [B.room]; exact hsl)
  obtain ⟨t, o, h1, h2⟩ := g h' _ rfl E' ⟨_, A', r, s⟩ C' T' locs X' N e'
  exact ⟨t, o, sp _ h1, h2⟩
theorem go_checkcast (B : OkK km κ l Z a0 n0 R own nm bytes maxL ret) {K : String} {idx : Nat} (hd : Dc bytes pc (.checkcast idx) 3 pc') (wl : (Jvm.Cond.classLink own idx K).before a0 Z = true) (F : Ins Z h a K true) (g : Go κ Q h k n pc' L (.ref a :: st)) : Go κ Q h k n pc L (.ref a :: st) := fun T locs X N e => by
  obtain ⟨dd, rfl⟩ := hd
  obtain ⟨T', X', e', sp⟩ := castY X B.exec B.warm B.hown wl e F (g := mkF κ.m pc L (.ref a :: st)) rfl rfl (hb B.byt dd)
  obtain ⟨t, o, h1, h2⟩ := g T' locs X' N e'
  exact ⟨t, o, sp _ h1, h2⟩
theorem AV.arv {ty : FieldType} {vs : List Value} {d : Value} (A : AV Z h a ty vs) (hv : ∀ v ∈ vs, fits ty v = true) : ∃ kk, Arv Z h a kk ty (Int32.ofNat vs.length) vs d := by
  obtain ⟨c, A, r, s⟩ := A
  have e1 : (Int32.ofNat vs.length).toInt = (vs.length : Int) := Int32.toInt_ofNat_of_lt s
  obtain ⟨q1, q2⟩ := nat_idx e1
  refine ⟨_, c, A, rfl, by rw [r, q2]; simp, q1, fun i hi => ?_, fun i hi => ?_⟩
  · rw [r] at hi ⊢
    have hi' : i < vs.length := by simpa using hi
    simp [List.getD, hi']
  · rw [r] at hi
    have hi' : i < vs.length := by simpa using hi
    have e : vs.getD i d = vs[i] := by simp [List.getD, hi']
    rw [e]
    exact hv _ (List.getElem_mem hi')
theorem AV.of_arv {ty : FieldType} {vs : List Value} {d : Value} {kk : ClassId} {z : Int32} (F : Arv Z h a kk ty z vs d) (e : vs.length = z.toNatClampNeg) : AV Z h a ty vs := by
  obtain ⟨c, A, -, S, N, H, -⟩ := F
  refine ⟨c, A, ?_, by rw [e]; exact (back32 N).2⟩
  apply Array.ext_getElem?
  intro i
  rcases Nat.lt_or_ge i vs.length with q | q
  · rw [H i (by omega)]; simp [List.getD, q]
  · rw [Array.getElem?_eq_none (by omega)]; simp [q]
/-- System.arraycopy between two arrays of one primitive kind: from place sp on, dc places, to place dp on -/
theorem go_arraycopy (B : OkK km κ l Z a0 n0 R own nm bytes maxL ret) {idx W si di ni : Nat} {ty : FieldType} {vs ws : List Value} {sp dp cn : Int32} (hd : Dc bytes pc (.invokestatic idx) 3 pc')
    (w1 : (Jvm.Cond.methodLink own idx Jvm.Stand.acN).before a0 Z = true) (w2 : (Jvm.Cond.native Jvm.Stand.acN).before a0 Z = true) (w3 : (Jvm.Cond.static Jvm.Stand.acN).before a0 Z = true) (w4 : (Jvm.Cond.initialized "java/lang/System").before a0 Z = true)
    (A : AV Z h a ty vs) (A2 : AV Z h b ty ws) (hp : refKind ty = false) (hv : ∀ v ∈ vs, fits ty v = true) (hw : ∀ v ∈ ws, fits ty v = true) (hsp : sp.toInt = (si : Int)) (hdp : dp.toInt = (di : Int)) (hcn : cn.toInt = (ni : Int)) (h4 : si + ni ≤ vs.length) (h5 : di + ni ≤ ws.length) (ge : n0 ≤ b)
    (hs : L.size = maxL) (hW : (st.map fun v => v.category).sum = W) (hf : 1 ≤ R.frames) (hl : W + 18 ≤ R.locals)
    (g : ∀ h', Keep h h' [b] → AV Z h' b ty (ws.take di ++ (vs.drop si).take ni ++ ws.drop (di + ni)) → Go κ Q h' k n pc' L st) : Go κ Q h k n pc L (.int cn :: .int dp :: .ref b :: .int sp :: .ref a :: st) := fun T locs X N e => by
  obtain ⟨dd, rfl⟩ := hd
  obtain ⟨k1, F1⟩ := A.arv (d := .null) hv
  obtain ⟨k2, F2⟩ := A2.arv (d := .null) hw
  obtain ⟨p1, p2⟩ := nat_idx hsp
  obtain ⟨d1, d2⟩ := nat_idx hdp
  obtain ⟨m1, m2⟩ := nat_idx hcn
  have eA : (Int32.ofNat vs.length).toNatClampNeg = vs.length := (nat_idx (Int32.toInt_ofNat_of_lt A.len)).2
  have eB : (Int32.ofNat ws.length).toNatClampNeg = ws.length := (nat_idx (Int32.toInt_ofNat_of_lt A2.len)).2
  have hus : (vs.drop si).take ni = (List.range cn.toNatClampNeg).map fun i => vs.getD (sp.toNatClampNeg + i) .null := by
    rw [m2, p2]
    apply List.ext_getElem?
    intro i
    rcases Nat.lt_or_ge i ni with q | q
    · rw [List.getElem?_take_of_lt q, List.getElem?_drop]
      simp only [List.getElem?_map, List.getElem?_range q, Option.map_some, List.getD]
      rw [List.getElem?_eq_getElem (by omega)]; rfl
    · rw [List.getElem?_eq_none (by simp; omega), List.getElem?_eq_none (by simp; omega)]
  obtain ⟨T', h', L2, X', e', N', K, F3, sp'⟩ := cpA X B.exec B.warm B.hown w1 w2 w3 w4 e F1 F2 (Or.inl ⟨rfl, hp⟩) p1 d1 m1 (by rw [p2, m2, eA]; exact h4) (by rw [d2, m2, eB]; exact h5) hus (by rw [d2, m2]; exact h5) N (B.hn ▸ ge) (g := mkF κ.m pc L (.int cn :: .int dp :: .ref b :: .int sp :: .ref a :: st)) rfl (by rw [B.mxl]; exact hs) rfl (hb B.byt dd) (by rw [B.room]; exact hf) (W := W) (by show 2 * 0 + _ ≤ _; omega) (by rw [B.room]; exact hl)
  rw [d2, m2] at F3
  have F4 := AV.of_arv F3 (by rw [eB]; simp; omega)
  obtain ⟨t, o, h1, h2⟩ := g h' K F4 T' _ X' N' e'
  exact ⟨t, o, sp' _ h1, h2⟩
end G
end Jvm.OwnGo
namespace Jvm.OwnGo
open Sem ClassFile Op Lib Jvm.Stand Jvm.Free Jvm.LawKit Jvm.RoadKit
theorem go_instanceof {km : Nat} {κ : Cx} {l : Launch} {Z : State} {a0 : Array Value} {n0 : Nat} {R : Room} {own nm : String} {bytes : ByteArray} {maxL : Nat} {ret : Option FieldType} {Q : Option Value → Heap → Prop} {h : Heap} {k n pc pc' : Nat} {L : Array Slot} {st : List Value} {a : Addr} (B : OkK km κ l Z a0 n0 R own nm bytes maxL ret) {K : String} {idx : Nat} (hd : Dc bytes pc (.instanceof idx) 3 pc') (wl : (Jvm.Cond.classLink own idx K).before a0 Z = true) (F : Ins Z h a K true) (g : Go κ Q h k n pc' L (.int 1 :: st)) : Go κ Q h k n pc L (.ref a :: st) := fun T locs X N e => by
  obtain ⟨dd, rfl⟩ := hd
  obtain ⟨T', X', e', sp⟩ := instY X B.exec B.warm B.hown wl e F (g := mkF κ.m pc L (.ref a :: st)) rfl rfl (hb B.byt dd)
  obtain ⟨t, o, h1, h2⟩ := g T' locs X' N e'
  exact ⟨t, o, sp _ h1, h2⟩
end Jvm.OwnGo
namespace Jvm.OwnGo
open Sem ClassFile Op Lib Jvm.Stand Jvm.Free Jvm.LawKit Jvm.RoadKit
/-- a cell that is no class's statics -/
def Nst (h : Heap) (x : Addr) : Prop := ∃ c : Cell, h[x]? = some c ∧ c.vm.isStatics = false
theorem nst_exa {Z : State} {h : Heap} {a : Addr} {C : String} (E : Exa Z h a C) : Nst h a := by obtain ⟨c, k, h1, -, -, h4, -⟩ := E; exact ⟨c, h1, h4⟩
theorem sta_keep {Z : State} {h h' : Heap} {C n d : String} {v : Value} {ws : List Addr} (F : Sta Z h C n d v) (K : Keep h h' ws) (q : ∀ x ∈ ws, Nst h x) : Sta Z h' C n d v := by
  obtain ⟨cf, i, k, f, st, cell, h1, h2, h3, h4, h5, h6, h7⟩ := F
  refine ⟨cf, i, k, f, st, cell, h1, h2, h3, h4, K.2.1 st cell h5 fun m => ?_, h6, h7⟩
  obtain ⟨c, e1, e2⟩ := q st m
  cases h5.symm.trans e1
  rw [h6] at e2
  cases e2
end Jvm.OwnGo
namespace Jvm.Pilot.@@N@@
open Jvm Jvm.ClassFile Sem Op Lib Jvm.Free Jvm.Stand Jvm.LawKit Jvm.RoadKit Bundle Jvm.Pilot.@@N@@.Jvm.D Jvm.OwnGo
def Wd (a0 : Array Value) (Z : State) : Prop := ∀ d ∈ tables_1, d.before a0 Z = true
def own_copy (vs : List Value) (m : Nat) : List Value := vs.take m ++ List.replicate (m - vs.length) (.int 0)
theorem own_copy_eq (vs : List Value) (m : Nat) : (List.replicate m (Value.int 0)).take 0 ++ (vs.drop 0).take (min vs.length m) ++ (List.replicate m (Value.int 0)).drop (0 + min vs.length m) = own_copy vs m := by
  unfold own_copy
  rcases Nat.le_total vs.length m with q | q
  · rw [Nat.min_eq_left q, List.take_of_length_le q]; simp
  · rw [Nat.min_eq_right q]; simp [q]
theorem own_copy_self (vs : List Value) : own_copy vs vs.length = vs := by simp [own_copy]
theorem own_copy_len (vs : List Value) (m : Nat) : (own_copy vs m).length = m := by simp [own_copy]; omega
def own_min (x y : Int32) : Int32 := if y < x then y else x
theorem own_min_toInt {x y : Int32} {i j : Nat} (hx : x.toInt = (i : Int)) (hy : y.toInt = (j : Int)) : (own_min x y).toInt = ((min i j : Nat) : Int) := by
  unfold own_min
  split
  · rename_i q; have := i_of_lt hy hx q; rw [hy, Nat.min_eq_right (by omega)]
  · rename_i q; have := i_of_nlt hy hx q; rw [hx, Nat.min_eq_left (by omega)]
theorem own_fits_rep (m : Nat) : ∀ v ∈ List.replicate m (Value.int 0), fits .int v = true := fun v q => by rw [List.eq_of_mem_replicate q]; rfl
theorem d5_0 : Dc jdk_29_method_69_code 0 (.iload_n 0) 1 1 := ⟨by decide +kernel, rfl⟩
theorem d5_1 : Dc jdk_29_method_69_code 1 (.iload_n 1) 1 2 := ⟨by decide +kernel, rfl⟩
theorem d5_2 : Db jdk_29_method_69_code 2 (.if_icmp .gt 7) 7 5 9 := ⟨by decide +kernel, rfl, rfl⟩
theorem d5_9 : Dc jdk_29_method_69_code 9 (.iload_n 1) 1 10 := ⟨by decide +kernel, rfl⟩
theorem d5_10 : Dc jdk_29_method_69_code 10 (.ireturn) 1 11 := ⟨by decide +kernel, rfl⟩
theorem d5_5 : Dc jdk_29_method_69_code 5 (.iload_n 0) 1 6 := ⟨by decide +kernel, rfl⟩
theorem d5_6 : Db jdk_29_method_69_code 6 (.goto 4) 4 9 10 := ⟨by decide +kernel, rfl, rfl⟩
set_option maxRecDepth 65536 in
set_option maxHeartbeats 40000000 in
theorem rmMin {l : Launch} {Z : State} {a0 : Array Value} {n0 : Nat} (H : Wd a0 Z) (x y : Int32) (h0 : Heap) (Z0 : n0 ≤ h0.size) :
    Ct l Z n0 (⟨"java/lang/Math", "min", "(II)I"⟩ : MethodName) jdk_29_method_69_code 2 (some .int) [] ({ frames := 0, cells := 0, slots := 0, locals := 0 } : Room) #[(.int x), (.int y)] h0 (fun v h => v = some (.int (own_min x y)) ∧ h0 = h) := by
  refine Ct.of (a0 := a0) (L0 := #[.val (.int x), .val (.int y)]) (by decide +kernel) (fun m => by first | (simp [entryFrame, mkF, argsToLocals, Value.category]; done) | rfl) ?_
  intro κ B0
  have B : Ok κ l Z a0 n0 ({ frames := 0, cells := 0, slots := 0, locals := 0 } : Room) "java/lang/Math" "min" jdk_29_method_69_code 2 (some .int) := B0
  refine go_iload_n B d5_0 rfl ?_
  refine go_iload_n B d5_1 rfl ?_
  refine go_icmpgt B d5_2 (fun c2 => ?_) (fun c2 => ?_)
  · skip
    refine go_iload_n B d5_9 rfl ?_
    refine go_ireturn B d5_10 (by decide) (by decide) ?_
    exact ⟨congrArg (fun z => some (Value.int z)) (by simp [own_min, c2]), rfl⟩
  · skip
    refine go_iload_n B d5_5 rfl ?_
    refine go_goto B d5_6 ?_
    refine go_ireturn B d5_10 (by decide) (by decide) ?_
    exact ⟨congrArg (fun z => some (Value.int z)) (by simp [own_min, c2]), rfl⟩
theorem pn_java_util_Arrays : plainName "java/util/Arrays" = true := by first | (simp [plainName, overriddenIn]; done) | decide +kernel
theorem d4_0 : Dc jdk_65_method_123_code 0 (.iload_n 1) 1 1 := ⟨by decide +kernel, rfl⟩
theorem d4_1 : Dc jdk_65_method_123_code 1 (.aload_n 0) 1 2 := ⟨by decide +kernel, rfl⟩
theorem d4_2 : Dc jdk_65_method_123_code 2 (.arraylength) 1 3 := ⟨by decide +kernel, rfl⟩
theorem d4_3 : Db jdk_65_method_123_code 3 (.if_icmp .ne 11) 11 6 14 := ⟨by decide +kernel, rfl, rfl⟩
theorem d4_14 : Dc jdk_65_method_123_code 14 (.iload_n 1) 1 15 := ⟨by decide +kernel, rfl⟩
theorem d4_15 : Dc jdk_65_method_123_code 15 (.newarray .int) 2 17 := ⟨by decide +kernel, rfl⟩
theorem w_10 {a0 : Array Value} {Z : State} (H : Wd a0 Z) : (Jvm.Cond.arrayClass Jvm.ClassFile.FieldType.int).before a0 Z = true := H _ (List.mem_of_getElem? (i := 10) rfl)
theorem d4_17 : Dc jdk_65_method_123_code 17 (.astore_n 2) 1 18 := ⟨by decide +kernel, rfl⟩
theorem d4_18 : Dc jdk_65_method_123_code 18 (.aload_n 0) 1 19 := ⟨by decide +kernel, rfl⟩
theorem d4_19 : Dc jdk_65_method_123_code 19 (.iconst 0) 1 20 := ⟨by decide +kernel, rfl⟩
theorem d4_20 : Dc jdk_65_method_123_code 20 (.aload_n 2) 1 21 := ⟨by decide +kernel, rfl⟩
theorem d4_21 : Dc jdk_65_method_123_code 21 (.iconst 0) 1 22 := ⟨by decide +kernel, rfl⟩
theorem d4_22 : Dc jdk_65_method_123_code 22 (.aload_n 0) 1 23 := ⟨by decide +kernel, rfl⟩
theorem d4_23 : Dc jdk_65_method_123_code 23 (.arraylength) 1 24 := ⟨by decide +kernel, rfl⟩
theorem d4_24 : Dc jdk_65_method_123_code 24 (.iload_n 1) 1 25 := ⟨by decide +kernel, rfl⟩
theorem d4_25 : Dc jdk_65_method_123_code 25 (.invokestatic 304) 3 28 := ⟨by decide +kernel, rfl⟩
theorem w_27 {a0 : Array Value} {Z : State} (H : Wd a0 Z) : (Jvm.Cond.code ({ cls := "java/lang/Math", name := "min", desc := "(II)I" } : Jvm.MethodName) jdk_29_method_69_code (2 : Nat) (Option.some Jvm.ClassFile.FieldType.int)).before a0 Z = true := H _ (List.mem_of_getElem? (i := 27) rfl)
theorem w_26 {a0 : Array Value} {Z : State} (H : Wd a0 Z) : (Jvm.Cond.initialized "java/lang/Math").before a0 Z = true := H _ (List.mem_of_getElem? (i := 26) rfl)
theorem pd_0 : parseMethodDescriptor "(II)I" = some ⟨[.int, .int], some .int⟩ := by decide +kernel
theorem w_24 {a0 : Array Value} {Z : State} (H : Wd a0 Z) : (Jvm.Cond.methodLink "java/util/Arrays" (304 : Nat) ({ cls := "java/lang/Math", name := "min", desc := "(II)I" } : Jvm.MethodName)).before a0 Z = true := H _ (List.mem_of_getElem? (i := 24) rfl)
theorem w_25 {a0 : Array Value} {Z : State} (H : Wd a0 Z) : (Jvm.Cond.static ({ cls := "java/lang/Math", name := "min", desc := "(II)I" } : Jvm.MethodName)).before a0 Z = true := H _ (List.mem_of_getElem? (i := 25) rfl)
theorem d4_28 : Dc jdk_65_method_123_code 28 (.invokestatic 150) 3 31 := ⟨by decide +kernel, rfl⟩
theorem w_28 {a0 : Array Value} {Z : State} (H : Wd a0 Z) : (Jvm.Cond.methodLink "java/util/Arrays" (150 : Nat) ({ cls := "java/lang/System", name := "arraycopy", desc := "(Ljava/lang/Object;ILjava/lang/Object;II)V" } : Jvm.MethodName)).before a0 Z = true := H _ (List.mem_of_getElem? (i := 28) rfl)
theorem w_31 {a0 : Array Value} {Z : State} (H : Wd a0 Z) : (Jvm.Cond.native ({ cls := "java/lang/System", name := "arraycopy", desc := "(Ljava/lang/Object;ILjava/lang/Object;II)V" } : Jvm.MethodName)).before a0 Z = true := H _ (List.mem_of_getElem? (i := 31) rfl)
theorem w_29 {a0 : Array Value} {Z : State} (H : Wd a0 Z) : (Jvm.Cond.static ({ cls := "java/lang/System", name := "arraycopy", desc := "(Ljava/lang/Object;ILjava/lang/Object;II)V" } : Jvm.MethodName)).before a0 Z = true := H _ (List.mem_of_getElem? (i := 29) rfl)
theorem w_30 {a0 : Array Value} {Z : State} (H : Wd a0 Z) : (Jvm.Cond.initialized "java/lang/System").before a0 Z = true := H _ (List.mem_of_getElem? (i := 30) rfl)
theorem d4_31 : Dc jdk_65_method_123_code 31 (.aload_n 2) 1 32 := ⟨by decide +kernel, rfl⟩
theorem d4_32 : Dc jdk_65_method_123_code 32 (.areturn) 1 33 := ⟨by decide +kernel, rfl⟩
theorem d4_6 : Dc jdk_65_method_123_code 6 (.aload_n 0) 1 7 := ⟨by decide +kernel, rfl⟩
theorem d4_7 : Dc jdk_65_method_123_code 7 (.invokevirtual 316) 3 10 := ⟨by decide +kernel, rfl⟩
theorem w_41 {a0 : Array Value} {Z : State} (H : Wd a0 Z) : (Jvm.Cond.methodLink "java/util/Arrays" (316 : Nat) ({ cls := "[I", name := "clone", desc := "()Ljava/lang/Object;" } : Jvm.MethodName)).before a0 Z = true := H _ (List.mem_of_getElem? (i := 41) rfl)
theorem w_42 {a0 : Array Value} {Z : State} (H : Wd a0 Z) : (Jvm.Cond.sameMethod "[I" "java/lang/Object" "clone" "()Ljava/lang/Object;").before a0 Z = true := H _ (List.mem_of_getElem? (i := 42) rfl)
theorem w_46 {a0 : Array Value} {Z : State} (H : Wd a0 Z) : (Jvm.Cond.native ({ cls := "java/lang/Object", name := "clone", desc := "()Ljava/lang/Object;" } : Jvm.MethodName)).before a0 Z = true := H _ (List.mem_of_getElem? (i := 46) rfl)
theorem w_44 {a0 : Array Value} {Z : State} (H : Wd a0 Z) : (Jvm.Cond.instanceMethod ({ cls := "java/lang/Object", name := "clone", desc := "()Ljava/lang/Object;" } : Jvm.MethodName)).before a0 Z = true := H _ (List.mem_of_getElem? (i := 44) rfl)
theorem w_45 {a0 : Array Value} {Z : State} (H : Wd a0 Z) : (Jvm.Cond.selects "[I" ({ cls := "[I", name := "clone", desc := "()Ljava/lang/Object;" } : Jvm.MethodName) ({ cls := "java/lang/Object", name := "clone", desc := "()Ljava/lang/Object;" } : Jvm.MethodName)).before a0 Z = true := H _ (List.mem_of_getElem? (i := 45) rfl)
theorem w_47 {a0 : Array Value} {Z : State} (H : Wd a0 Z) : (Jvm.Cond.castable "[I" "java/lang/Cloneable").before a0 Z = true := H _ (List.mem_of_getElem? (i := 47) rfl)
theorem d4_10 : Dc jdk_65_method_123_code 10 (.checkcast 317) 3 13 := ⟨by decide +kernel, rfl⟩
theorem w_48 {a0 : Array Value} {Z : State} (H : Wd a0 Z) : (Jvm.Cond.classLink "java/util/Arrays" (317 : Nat) "[I").before a0 Z = true := H _ (List.mem_of_getElem? (i := 48) rfl)
theorem d4_13 : Dc jdk_65_method_123_code 13 (.areturn) 1 14 := ⟨by decide +kernel, rfl⟩
set_option maxRecDepth 65536 in
set_option maxHeartbeats 40000000 in
theorem rmCopy {l : Launch} {Z : State} {a0 : Array Value} {n0 : Nat} (H : Wd a0 Z) (a1 : Addr) (vs : List Value) (x : Int32) (m : Nat) (h0 : Heap) (Z0 : n0 ≤ h0.size) (A : AV Z h0 a1 .int vs) (E : Exa Z h0 a1 "[I") (hv : ∀ v ∈ vs, fits .int v = true) (hx : x.toInt = (m : Int)) (hm : m ≤ 8) (hl : vs.length ≤ 8) :
    Ct l Z n0 (⟨"java/util/Arrays", "copyOf", "([II)[I"⟩ : MethodName) jdk_65_method_123_code 3 (some (.array .int)) [] ({ frames := 1, cells := 1, slots := 8, locals := 18 } : Room) #[(.ref a1), (.int x)] h0 (fun v h => ∃ b, v = some (.ref b) ∧ h0.size ≤ b ∧ Ext h0 h ∧ AV Z h b .int (own_copy vs m) ∧ Exa Z h b "[I") := by
  refine Ct.of (a0 := a0) (L0 := #[.val (.ref a1), .val (.int x), .unset]) (plainFor_of_name pn_java_util_Arrays) (fun m => by first | (simp [entryFrame, mkF, argsToLocals, Value.category]; done) | rfl) ?_
  intro κ B0
  have B : Ok κ l Z a0 n0 ({ frames := 1, cells := 1, slots := 8, locals := 18 } : Room) "java/util/Arrays" "copyOf" jdk_65_method_123_code 3 (some (.array .int)) := B0
  refine go_iload_n B d4_0 rfl ?_
  refine go_aload_n B d4_1 rfl rfl ?_
  refine go_arraylength B (x := (Int32.ofNat vs.length)) d4_2 A rfl ?_
  refine go_icmpne B d4_3 (fun c3 => ?_) (fun c3 => ?_)
  · skip
    refine go_iload_n B d4_14 rfl ?_
    refine go_newarray B (i := m) (cap := 8) d4_15 (w_10 H) hx hm (by decide) (by decide) (by decide) ?_
    intro h1 a2 hba2 Ea2 Aa2 Ca2
    have ne_a2_a1 : a2 ≠ a1 := Nat.ne_of_gt (Nat.lt_of_lt_of_le (A).lt (by omega))
    have ge_a2 : n0 ≤ a2 := by have q1 := Z0; omega
    refine go_astore_n B #[.val (.ref a1), .val (.int x), .val (.ref a2)] d4_17 rfl rfl ?_
    refine go_aload_n B d4_18 rfl rfl ?_
    refine go_iconst B (x := (0 : Int32)) d4_19 rfl ?_
    refine go_aload_n B d4_20 rfl rfl ?_
    refine go_iconst B (x := (0 : Int32)) d4_21 rfl ?_
    refine go_aload_n B d4_22 rfl rfl ?_
    refine go_arraylength B (x := (Int32.ofNat vs.length)) d4_23 (AV.ext A Ea2) rfl ?_
    refine go_iload_n B d4_24 rfl ?_
    refine go_static B (W := 4) (argsL := [(.int (Int32.ofNat vs.length)), (.int x)]) (st := [(.int (0 : Int32)), (.ref a2), (.int (0 : Int32)), (.ref a1)]) d4_25 (w_24 H) (w_25 H) (w_26 H) (w_27 H) (by decide) (rmMin H (Int32.ofNat vs.length) x h1 (Nat.le_trans Z0 Ea2.1)) pd_0 rfl rfl rfl rfl (by decide) (by decide) (by decide) (by decide) ?_
    rintro _ h3 ⟨rfl, rfl⟩
    show Go κ _ h1 _ _ 28 #[.val (.ref a1), .val (.int x), .val (.ref a2)] [(.int (own_min (Int32.ofNat vs.length) x)), (.int (0 : Int32)), (.ref a2), (.int (0 : Int32)), (.ref a1)]
    refine go_arraycopy B (W := 0) (si := 0) (di := 0) (ni := (min vs.length m)) d4_28 (w_28 H) (w_31 H) (w_29 H) (w_30 H) (AV.ext A Ea2) Aa2 rfl hv (own_fits_rep m) rfl rfl (own_min_toInt (i_ofNat (by omega)) hx) (by omega) (by rw [List.length_replicate]; omega) ge_a2 rfl rfl (by decide) (by decide) ?_
    intro h4 K5 A6
    have A7 : AV Z h4 a2 .int (own_copy vs m) := (own_copy_eq vs m ▸ A6)
    refine go_aload_n B d4_31 rfl rfl ?_
    refine go_areturn B d4_32 rfl rfl rfl (by decide) (by decide) ?_
    exact ⟨a2, rfl, by omega, ⟨Nat.le_trans Ea2.1 K5.1, fun x cc q => K5.2.1 x cc (Ea2.2 x cc q) (ninS (Nat.ne_of_lt (by have := (Array.getElem?_eq_some_iff.mp q).1; omega)) nin0)⟩, A7, (Exa.keep Ca2 K5)⟩
  · skip
    refine go_aload_n B d4_6 rfl rfl ?_
    refine go_clone B (ad := "[I") (W := 0) (cap := 8) d4_7 (w_41 H) (w_42 H) (w_46 H) (w_44 H) (w_45 H) (w_47 H) A E hv rfl rfl (by decide) (by decide) hl (by decide) (by decide) ?_
    intro h8 a9 hba9 Ea9 Aa9 Ca9
    have ne_a9_a1 : a9 ≠ a1 := Nat.ne_of_gt (Nat.lt_of_lt_of_le (A).lt (by omega))
    have ge_a9 : n0 ≤ a9 := by have q1 := Z0; omega
    refine go_checkcast B d4_10 (w_48 H) (Ins.self Ca9) ?_
    refine go_areturn B d4_13 rfl rfl rfl (by decide) (by decide) ?_
    have em : m = vs.length := by have := c3 ▸ i_ofNat (n := vs.length) (by omega); omega
    exact ⟨a9, rfl, by omega, Ea9, by rw [em, own_copy_self]; exact Aa9, Ca9⟩
theorem pn_com_example_hone_search_honesearch_IntList : plainName "com/example/hone_search/honesearch/IntList" = true := by first | (simp [plainName, overriddenIn]; done) | decide +kernel
theorem d1_0 : Dc prog_31_method_1_code 0 (.aload_n 0) 1 1 := ⟨by decide +kernel, rfl⟩
theorem d1_1 : Dc prog_31_method_1_code 1 (.invokespecial 1) 3 4 := ⟨by decide +kernel, rfl⟩
theorem w_7 {a0 : Array Value} {Z : State} (H : Wd a0 Z) : (Jvm.Cond.methodLink "com/example/hone_search/honesearch/IntList" (1 : Nat) ({ cls := "java/lang/Object", name := "<init>", desc := "()V" } : Jvm.MethodName)).before a0 Z = true := H _ (List.mem_of_getElem? (i := 7) rfl)
theorem w_8 {a0 : Array Value} {Z : State} (H : Wd a0 Z) : (Jvm.Cond.instanceMethod ({ cls := "java/lang/Object", name := "<init>", desc := "()V" } : Jvm.MethodName)).before a0 Z = true := H _ (List.mem_of_getElem? (i := 8) rfl)
theorem w_9 {a0 : Array Value} {Z : State} (H : Wd a0 Z) : (Jvm.Cond.code ({ cls := "java/lang/Object", name := "<init>", desc := "()V" } : Jvm.MethodName) object_method_1_code (1 : Nat) (Option.none : Option Jvm.ClassFile.FieldType)).before a0 Z = true := H _ (List.mem_of_getElem? (i := 9) rfl)
theorem d1_4 : Dc prog_31_method_1_code 4 (.aload_n 0) 1 5 := ⟨by decide +kernel, rfl⟩
theorem d1_5 : Dc prog_31_method_1_code 5 (.iconst 4) 1 6 := ⟨by decide +kernel, rfl⟩
theorem d1_6 : Dc prog_31_method_1_code 6 (.newarray .int) 2 8 := ⟨by decide +kernel, rfl⟩
theorem d1_8 : Dc prog_31_method_1_code 8 (.putfield 7) 3 11 := ⟨by decide +kernel, rfl⟩
theorem w_12 {a0 : Array Value} {Z : State} (H : Wd a0 Z) : (Jvm.Cond.lays "com/example/hone_search/honesearch/IntList" "com/example/hone_search/honesearch/IntList" "values" "[I").before a0 Z = true := H _ (List.mem_of_getElem? (i := 12) rfl)
theorem w_2 {a0 : Array Value} {Z : State} (H : Wd a0 Z) : (Jvm.Cond.instantiable "com/example/hone_search/honesearch/IntList" (2 : Nat)).before a0 Z = true := H _ (List.mem_of_getElem? (i := 2) rfl)
theorem w_11 {a0 : Array Value} {Z : State} (H : Wd a0 Z) : (Jvm.Cond.fieldLink "com/example/hone_search/honesearch/IntList" (7 : Nat) "com/example/hone_search/honesearch/IntList" "values" "[I").before a0 Z = true := H _ (List.mem_of_getElem? (i := 11) rfl)
theorem d1_11 : Dc prog_31_method_1_code 11 (.return_) 1 12 := ⟨by decide +kernel, rfl⟩
theorem w_19 {a0 : Array Value} {Z : State} (H : Wd a0 Z) : (Jvm.Cond.lays "com/example/hone_search/honesearch/IntList" "com/example/hone_search/honesearch/IntList" "size" "I").before a0 Z = true := H _ (List.mem_of_getElem? (i := 19) rfl)
set_option maxRecDepth 65536 in
set_option maxHeartbeats 40000000 in
theorem rmI {l : Launch} {Z : State} {a0 : Array Value} {n0 : Nat} (H : Wd a0 Z) (a1 : Addr) (h0 : Heap) (Z0 : n0 ≤ h0.size) (E_a1 : Exa Z h0 a1 "com/example/hone_search/honesearch/IntList") (F0_a1 : Fld Z h0 a1 "com/example/hone_search/honesearch/IntList" "values" "[I" .null) (F1_a1 : Fld Z h0 a1 "com/example/hone_search/honesearch/IntList" "size" "I" (.int (0 : Int32))) (g1 : n0 ≤ a1) :
    Ct l Z n0 (⟨"com/example/hone_search/honesearch/IntList", "<init>", "()V"⟩ : MethodName) prog_31_method_1_code 1 none [] ({ frames := 1, cells := 1, slots := 4, locals := 12 } : Room) #[(.ref a1)] h0 (fun v h => ∃ b, v = none ∧ h0.size ≤ b ∧ Keep h0 h [a1] ∧ Exa Z h a1 "com/example/hone_search/honesearch/IntList" ∧ Fld Z h a1 "com/example/hone_search/honesearch/IntList" "values" "[I" (.ref b) ∧ Fld Z h a1 "com/example/hone_search/honesearch/IntList" "size" "I" (.int (0 : Int32)) ∧ AV Z h b .int [(.int (0 : Int32)), (.int (0 : Int32)), (.int (0 : Int32)), (.int (0 : Int32))] ∧ Exa Z h b "[I") := by
  refine Ct.of (a0 := a0) (L0 := #[.val (.ref a1)]) (plainFor_of_name pn_com_example_hone_search_honesearch_IntList) (fun m => by first | (simp [entryFrame, mkF, argsToLocals, Value.category]; done) | rfl) ?_
  intro κ B0
  have B : Ok κ l Z a0 n0 ({ frames := 1, cells := 1, slots := 4, locals := 12 } : Room) "com/example/hone_search/honesearch/IntList" "<init>" prog_31_method_1_code 1 none := B0
  refine go_aload_n B d1_0 rfl rfl ?_
  refine go_initO B (W := 0) d1_1 (w_7 H) (w_8 H) (w_9 H) rfl rfl (by decide) (by decide) ?_
  refine go_aload_n B d1_4 rfl rfl ?_
  refine go_iconst B (x := (4 : Int32)) d1_5 rfl ?_
  refine go_newarray B (i := 4) (cap := 4) d1_6 (w_10 H) rfl (Nat.le_refl _) (by decide) (by decide) (by decide) ?_
  intro h10 a11 hba11 Ea11 Aa11 Ca11
  have ne_a11_a1 : a11 ≠ a1 := Nat.ne_of_gt (Nat.lt_of_lt_of_le (E_a1).lt (by omega))
  have ge_a11 : n0 ≤ a11 := by have q1 := Z0; omega
  have fr_a11 : h0.size ≤ a11 := by have q1 := (show Keep h0 h0 [a1] from (Keep.refl _ _)).1; omega
  have Ba11 : AV Z h10 a11 .int [(.int (0 : Int32)), (.int (0 : Int32)), (.int (0 : Int32)), (.int (0 : Int32))] := Aa11
  refine go_putfield B (ty := (.array .int)) d1_8 (w_11 H) (Fld.ext Ea11 F0_a1) (Exa.ext Ea11 E_a1) (Or.inl (w_12 H)) (w_2 H) (by decide) rfl rfl g1 ?_
  intro h12 W13
  have f14 : Fld Z h12 a1 "com/example/hone_search/honesearch/IntList" "values" "[I" (.ref a11) := Fld.same W13 (Fld.ext Ea11 F0_a1)
  refine go_return B d1_11 (by decide) (by decide) ?_
  have f15 : Keep h0 h12 [a1] := (Keep.wr (Keep.ext (Keep.refl _ _) Ea11) W13 (Or.inl (by simp)))
  have f16 : Fld Z h12 a1 "com/example/hone_search/honesearch/IntList" "size" "I" (.int (0 : Int32)) := (Fld.other W13 (Fld.ext Ea11 F1_a1) (Or.inr (slot_ne (t := .int) (t' := (.array .int)) (Or.inl (w_19 H)) (Or.inl (w_12 H)) (by decide) (by decide) (by decide))))
  exact ⟨a11, rfl, by omega, f15, (Exa.wr W13 (Exa.ext Ea11 E_a1)), f14, f16, (AV.other Ba11 W13 ne_a11_a1), (Exa.wr W13 Ca11)⟩
theorem d7_0 : Dc prog_31_method_2_code 0 (.aload_n 0) 1 1 := ⟨by decide +kernel, rfl⟩
theorem d7_1 : Dc prog_31_method_2_code 1 (.getfield 13) 3 4 := ⟨by decide +kernel, rfl⟩
theorem w_18 {a0 : Array Value} {Z : State} (H : Wd a0 Z) : (Jvm.Cond.fieldLink "com/example/hone_search/honesearch/IntList" (13 : Nat) "com/example/hone_search/honesearch/IntList" "size" "I").before a0 Z = true := H _ (List.mem_of_getElem? (i := 18) rfl)
theorem d7_4 : Dc prog_31_method_2_code 4 (.aload_n 0) 1 5 := ⟨by decide +kernel, rfl⟩
theorem d7_5 : Dc prog_31_method_2_code 5 (.getfield 7) 3 8 := ⟨by decide +kernel, rfl⟩
theorem d7_8 : Dc prog_31_method_2_code 8 (.arraylength) 1 9 := ⟨by decide +kernel, rfl⟩
theorem d7_9 : Db prog_31_method_2_code 9 (.if_icmp .ne 20) 20 12 29 := ⟨by decide +kernel, rfl, rfl⟩
theorem d7_29 : Dc prog_31_method_2_code 29 (.aload_n 0) 1 30 := ⟨by decide +kernel, rfl⟩
theorem d7_30 : Dc prog_31_method_2_code 30 (.getfield 7) 3 33 := ⟨by decide +kernel, rfl⟩
theorem d7_33 : Dc prog_31_method_2_code 33 (.aload_n 0) 1 34 := ⟨by decide +kernel, rfl⟩
theorem d7_34 : Dc prog_31_method_2_code 34 (.dup) 1 35 := ⟨by decide +kernel, rfl⟩
theorem d7_35 : Dc prog_31_method_2_code 35 (.getfield 13) 3 38 := ⟨by decide +kernel, rfl⟩
theorem d7_38 : Dc prog_31_method_2_code 38 (.dup_x1) 1 39 := ⟨by decide +kernel, rfl⟩
theorem d7_39 : Dc prog_31_method_2_code 39 (.iconst 1) 1 40 := ⟨by decide +kernel, rfl⟩
theorem d7_40 : Dc prog_31_method_2_code 40 (.iadd) 1 41 := ⟨by decide +kernel, rfl⟩
theorem d7_41 : Dc prog_31_method_2_code 41 (.putfield 13) 3 44 := ⟨by decide +kernel, rfl⟩
theorem d7_44 : Dc prog_31_method_2_code 44 (.iload_n 1) 1 45 := ⟨by decide +kernel, rfl⟩
theorem d7_45 : Dc prog_31_method_2_code 45 (.iastore) 1 46 := ⟨by decide +kernel, rfl⟩
theorem d7_46 : Dc prog_31_method_2_code 46 (.return_) 1 47 := ⟨by decide +kernel, rfl⟩
set_option maxRecDepth 65536 in
set_option maxHeartbeats 40000000 in
theorem rmA1 {l : Launch} {Z : State} {a0 : Array Value} {n0 : Nat} (H : Wd a0 Z) (a1 a2 : Addr) (vs : List Value) (sz sz' x : Int32) (i : Nat) (h0 : Heap) (Z0 : n0 ≤ h0.size) (E_a1 : Exa Z h0 a1 "com/example/hone_search/honesearch/IntList") (F0_a1 : Fld Z h0 a1 "com/example/hone_search/honesearch/IntList" "values" "[I" (.ref a2)) (F1_a1 : Fld Z h0 a1 "com/example/hone_search/honesearch/IntList" "size" "I" (.int sz)) (A : AV Z h0 a2 .int vs) (E2 : Exa Z h0 a2 "[I") (hv : ∀ v ∈ vs, fits .int v = true) (hl : vs.length ≤ 8) (hi : sz.toInt = (i : Int)) (hi2 : i < vs.length) (hz : sz + (1 : Int32) = sz') (g1 : n0 ≤ a1) (g2 : n0 ≤ a2) (n21 : a2 ≠ a1) :
    Ct l Z n0 (⟨"com/example/hone_search/honesearch/IntList", "add", "(I)V"⟩ : MethodName) prog_31_method_2_code 2 none [] ({ frames := 0, cells := 0, slots := 0, locals := 0 } : Room) #[(.ref a1), (.int x)] h0 (fun v h => v = none ∧ Keep h0 h [a1, a2] ∧ Exa Z h a1 "com/example/hone_search/honesearch/IntList" ∧ Fld Z h a1 "com/example/hone_search/honesearch/IntList" "values" "[I" (.ref a2) ∧ Fld Z h a1 "com/example/hone_search/honesearch/IntList" "size" "I" (.int sz') ∧ AV Z h a2 .int (vs.set i (.int x))) := by
  refine Ct.of (a0 := a0) (L0 := #[.val (.ref a1), .val (.int x)]) (plainFor_of_name pn_com_example_hone_search_honesearch_IntList) (fun m => by first | (simp [entryFrame, mkF, argsToLocals, Value.category]; done) | rfl) ?_
  intro κ B0
  have B : Ok κ l Z a0 n0 ({ frames := 0, cells := 0, slots := 0, locals := 0 } : Room) "com/example/hone_search/honesearch/IntList" "add" prog_31_method_2_code 2 none := B0
  refine go_aload_n B d7_0 rfl rfl ?_
  refine go_getfield B d7_1 (w_18 H) F1_a1 ?_
  refine go_aload_n B d7_4 rfl rfl ?_
  refine go_getfield B d7_5 (w_11 H) F0_a1 ?_
  refine go_arraylength B (x := (Int32.ofNat vs.length)) d7_8 A rfl ?_
  refine go_icmpne B d7_9 (fun c9 => ?_) (fun c9 => ?_)
  rotate_left
  · exact absurd c9 (i_ne hi (i_ofNat (by omega)) (by omega))
  refine go_aload_n B d7_29 rfl rfl ?_
  refine go_getfield B d7_30 (w_11 H) F0_a1 ?_
  refine go_aload_n B d7_33 rfl rfl ?_
  refine go_dup B d7_34 rfl ?_
  refine go_getfield B d7_35 (w_18 H) F1_a1 ?_
  refine go_dup_x1 B d7_38 rfl rfl ?_
  refine go_iconst B (x := (1 : Int32)) d7_39 rfl ?_
  refine go_iadd B d7_40 ?_
  rw [show (sz + (1 : Int32)) = sz' from hz]
  refine go_putfield B (ty := .int) d7_41 (w_18 H) F1_a1 E_a1 (Or.inl (w_19 H)) (w_2 H) (by decide) rfl rfl g1 ?_
  intro h17 W18
  have f19 : Fld Z h17 a1 "com/example/hone_search/honesearch/IntList" "size" "I" (.int sz') := Fld.same W18 F1_a1
  refine go_iload_n B d7_44 rfl ?_
  refine go_iastore B (i := i) d7_45 (AV.other A W18 n21) hi hi2 g2 ?_
  intro h20 W21 A22
  have A23 : AV Z h20 a2 .int (vs.set i (.int x)) := A22
  refine go_return B d7_46 (by decide) (by decide) ?_
  have f24 : Keep h0 h20 [a1, a2] := (Keep.wr (Keep.wr (Keep.refl _ _) W18 (Or.inl (by simp))) W21 (Or.inl (by simp)))
  have f25 : Fld Z h20 a1 "com/example/hone_search/honesearch/IntList" "values" "[I" (.ref a2) := (Fld.other W21 (Fld.other W18 F0_a1 (Or.inr (slot_ne (t := (.array .int)) (t' := .int) (Or.inl (w_12 H)) (Or.inl (w_19 H)) (by decide) (by decide) (by decide)))) (Or.inl (Ne.symm n21)))
  exact ⟨rfl, f24, (Exa.wr W21 (Exa.wr W18 E_a1)), f25, (Fld.other W21 f19 (Or.inl (Ne.symm n21))), A23⟩
theorem d7_12 : Dc prog_31_method_2_code 12 (.aload_n 0) 1 13 := ⟨by decide +kernel, rfl⟩
theorem d7_13 : Dc prog_31_method_2_code 13 (.aload_n 0) 1 14 := ⟨by decide +kernel, rfl⟩
theorem d7_14 : Dc prog_31_method_2_code 14 (.getfield 7) 3 17 := ⟨by decide +kernel, rfl⟩
theorem d7_17 : Dc prog_31_method_2_code 17 (.aload_n 0) 1 18 := ⟨by decide +kernel, rfl⟩
theorem d7_18 : Dc prog_31_method_2_code 18 (.getfield 13) 3 21 := ⟨by decide +kernel, rfl⟩
theorem d7_21 : Dc prog_31_method_2_code 21 (.iconst 2) 1 22 := ⟨by decide +kernel, rfl⟩
theorem d7_22 : Dc prog_31_method_2_code 22 (.imul) 1 23 := ⟨by decide +kernel, rfl⟩
theorem d7_23 : Dc prog_31_method_2_code 23 (.invokestatic 17) 3 26 := ⟨by decide +kernel, rfl⟩
theorem w_23 {a0 : Array Value} {Z : State} (H : Wd a0 Z) : (Jvm.Cond.code ({ cls := "java/util/Arrays", name := "copyOf", desc := "([II)[I" } : Jvm.MethodName) jdk_65_method_123_code (3 : Nat) (Option.some (Jvm.ClassFile.FieldType.array Jvm.ClassFile.FieldType.int))).before a0 Z = true := H _ (List.mem_of_getElem? (i := 23) rfl)
theorem w_22 {a0 : Array Value} {Z : State} (H : Wd a0 Z) : (Jvm.Cond.initialized "java/util/Arrays").before a0 Z = true := H _ (List.mem_of_getElem? (i := 22) rfl)
theorem pd_1 : parseMethodDescriptor "([II)[I" = some ⟨[(.array .int), .int], some (.array .int)⟩ := by decide +kernel
theorem w_20 {a0 : Array Value} {Z : State} (H : Wd a0 Z) : (Jvm.Cond.methodLink "com/example/hone_search/honesearch/IntList" (17 : Nat) ({ cls := "java/util/Arrays", name := "copyOf", desc := "([II)[I" } : Jvm.MethodName)).before a0 Z = true := H _ (List.mem_of_getElem? (i := 20) rfl)
theorem w_21 {a0 : Array Value} {Z : State} (H : Wd a0 Z) : (Jvm.Cond.static ({ cls := "java/util/Arrays", name := "copyOf", desc := "([II)[I" } : Jvm.MethodName)).before a0 Z = true := H _ (List.mem_of_getElem? (i := 21) rfl)
theorem d7_26 : Dc prog_31_method_2_code 26 (.putfield 7) 3 29 := ⟨by decide +kernel, rfl⟩
set_option maxRecDepth 65536 in
set_option maxHeartbeats 40000000 in
theorem rmA2 {l : Launch} {Z : State} {a0 : Array Value} {n0 : Nat} (H : Wd a0 Z) (a1 a2 : Addr) (vs : List Value) (sz sz' x : Int32) (i : Nat) (h0 : Heap) (Z0 : n0 ≤ h0.size) (E_a1 : Exa Z h0 a1 "com/example/hone_search/honesearch/IntList") (F0_a1 : Fld Z h0 a1 "com/example/hone_search/honesearch/IntList" "values" "[I" (.ref a2)) (F1_a1 : Fld Z h0 a1 "com/example/hone_search/honesearch/IntList" "size" "I" (.int sz)) (A : AV Z h0 a2 .int vs) (E2 : Exa Z h0 a2 "[I") (hv : ∀ v ∈ vs, fits .int v = true) (hl : vs.length ≤ 8) (hi : sz.toInt = (i : Int)) (hi2 : i = vs.length) (hi4 : i = 4) (hz : sz + (1 : Int32) = sz') (g1 : n0 ≤ a1) (n21 : a2 ≠ a1) :
    Ct l Z n0 (⟨"com/example/hone_search/honesearch/IntList", "add", "(I)V"⟩ : MethodName) prog_31_method_2_code 2 none [] ({ frames := 2, cells := 1, slots := 8, locals := 33 } : Room) #[(.ref a1), (.int x)] h0 (fun v h => ∃ b, v = none ∧ h0.size ≤ b ∧ Keep h0 h [a1] ∧ Exa Z h a1 "com/example/hone_search/honesearch/IntList" ∧ Fld Z h a1 "com/example/hone_search/honesearch/IntList" "values" "[I" (.ref b) ∧ Fld Z h a1 "com/example/hone_search/honesearch/IntList" "size" "I" (.int sz') ∧ AV Z h b .int ((own_copy vs (i * 2)).set i (.int x)) ∧ Exa Z h b "[I") := by
  refine Ct.of (a0 := a0) (L0 := #[.val (.ref a1), .val (.int x)]) (plainFor_of_name pn_com_example_hone_search_honesearch_IntList) (fun m => by first | (simp [entryFrame, mkF, argsToLocals, Value.category]; done) | rfl) ?_
  intro κ B0
  have B : Ok κ l Z a0 n0 ({ frames := 2, cells := 1, slots := 8, locals := 33 } : Room) "com/example/hone_search/honesearch/IntList" "add" prog_31_method_2_code 2 none := B0
  refine go_aload_n B d7_0 rfl rfl ?_
  refine go_getfield B d7_1 (w_18 H) F1_a1 ?_
  refine go_aload_n B d7_4 rfl rfl ?_
  refine go_getfield B d7_5 (w_11 H) F0_a1 ?_
  refine go_arraylength B (x := (Int32.ofNat vs.length)) d7_8 A rfl ?_
  refine go_icmpne B d7_9 (fun c9 => ?_) (fun c9 => ?_)
  · exact absurd (i_eq hi (by rw [i_ofNat (by omega)]; omega)) c9
  refine go_aload_n B d7_12 rfl rfl ?_
  refine go_aload_n B d7_13 rfl rfl ?_
  refine go_getfield B d7_14 (w_11 H) F0_a1 ?_
  refine go_aload_n B d7_17 rfl rfl ?_
  refine go_getfield B d7_18 (w_18 H) F1_a1 ?_
  refine go_iconst B (x := (2 : Int32)) d7_21 rfl ?_
  refine go_imul B d7_22 ?_
  refine go_static B (W := 1) (argsL := [(.ref a2), (.int (sz * (2 : Int32)))]) (st := [(.ref a1)]) d7_23 (w_20 H) (w_21 H) (w_22 H) (w_23 H) (by decide) (rmCopy H a2 vs (sz * (2 : Int32)) (i * 2) h0 Z0 A E2 hv (i_mul hi (show (2 : Int32).toInt = 2 from rfl) (by omega) (by omega)) (by omega) hl) pd_1 rfl rfl rfl rfl (by decide) (by decide) (by decide) (by decide) ?_
  rintro _ h31 ⟨b26, rfl, g27, E28, A29, C30⟩
  have ne_b26_a1 : b26 ≠ a1 := Nat.ne_of_gt (Nat.lt_of_lt_of_le (E_a1).lt (by omega))
  have ne_b26_a2 : b26 ≠ a2 := Nat.ne_of_gt (Nat.lt_of_lt_of_le (A).lt (by omega))
  have ge_b26 : n0 ≤ b26 := by have q1 := Z0; omega
  have fr_b26 : h0.size ≤ b26 := by have q1 := (show Keep h0 h0 [a1] from (Keep.refl _ _)).1; omega
  show Go κ _ h31 _ _ 26 #[.val (.ref a1), .val (.int x)] [(.ref b26), (.ref a1)]
  refine go_putfield B (ty := (.array .int)) d7_26 (w_11 H) (Fld.ext E28 F0_a1) (Exa.ext E28 E_a1) (Or.inl (w_12 H)) (w_2 H) (by decide) rfl rfl g1 ?_
  intro h32 W33
  have f34 : Fld Z h32 a1 "com/example/hone_search/honesearch/IntList" "values" "[I" (.ref b26) := Fld.same W33 (Fld.ext E28 F0_a1)
  refine go_aload_n B d7_29 rfl rfl ?_
  refine go_getfield B d7_30 (w_11 H) f34 ?_
  refine go_aload_n B d7_33 rfl rfl ?_
  refine go_dup B d7_34 rfl ?_
  have f35 : Fld Z h32 a1 "com/example/hone_search/honesearch/IntList" "size" "I" (.int sz) := (Fld.other W33 (Fld.ext E28 F1_a1) (Or.inr (slot_ne (t := .int) (t' := (.array .int)) (Or.inl (w_19 H)) (Or.inl (w_12 H)) (by decide) (by decide) (by decide))))
  refine go_getfield B d7_35 (w_18 H) f35 ?_
  refine go_dup_x1 B d7_38 rfl rfl ?_
  refine go_iconst B (x := (1 : Int32)) d7_39 rfl ?_
  refine go_iadd B d7_40 ?_
  rw [show (sz + (1 : Int32)) = sz' from hz]
  refine go_putfield B (ty := .int) d7_41 (w_18 H) f35 (Exa.wr W33 (Exa.ext E28 E_a1)) (Or.inl (w_19 H)) (w_2 H) (by decide) rfl rfl g1 ?_
  intro h36 W37
  have f38 : Fld Z h36 a1 "com/example/hone_search/honesearch/IntList" "size" "I" (.int sz') := Fld.same W37 f35
  refine go_iload_n B d7_44 rfl ?_
  refine go_iastore B (i := i) d7_45 (AV.other (AV.other A29 W33 ne_b26_a1) W37 ne_b26_a1) hi (by rw [own_copy_len]; omega) ge_b26 ?_
  intro h39 W40 A41
  have A42 : AV Z h39 b26 .int ((own_copy vs (i * 2)).set i (.int x)) := A41
  refine go_return B d7_46 (by decide) (by decide) ?_
  have f43 : Keep h0 h39 [a1] := (Keep.wr (Keep.wr (Keep.wr (Keep.ext (Keep.refl _ _) E28) W33 (Or.inl (by simp))) W37 (Or.inl (by simp))) W40 (Or.inr fr_b26))
  have f44 : Fld Z h39 a1 "com/example/hone_search/honesearch/IntList" "values" "[I" (.ref b26) := (Fld.other W40 (Fld.other W37 f34 (Or.inr (slot_ne (t := (.array .int)) (t' := .int) (Or.inl (w_12 H)) (Or.inl (w_19 H)) (by decide) (by decide) (by decide)))) (Or.inl (Ne.symm ne_b26_a1)))
  exact ⟨b26, rfl, by assumption, f43, (Exa.wr W40 (Exa.wr W37 (Exa.wr W33 (Exa.ext E28 E_a1)))), f44, (Fld.other W40 f38 (Or.inl (Ne.symm ne_b26_a1))), A42, (Exa.wr W40 (Exa.wr W37 (Exa.wr W33 C30)))⟩
theorem d3_0 : Dc prog_31_method_5_code 0 (.aload_n 0) 1 1 := ⟨by decide +kernel, rfl⟩
theorem d3_1 : Dc prog_31_method_5_code 1 (.getfield 7) 3 4 := ⟨by decide +kernel, rfl⟩
theorem d3_4 : Dc prog_31_method_5_code 4 (.aload_n 0) 1 5 := ⟨by decide +kernel, rfl⟩
theorem d3_5 : Dc prog_31_method_5_code 5 (.getfield 13) 3 8 := ⟨by decide +kernel, rfl⟩
theorem d3_8 : Dc prog_31_method_5_code 8 (.invokestatic 17) 3 11 := ⟨by decide +kernel, rfl⟩
theorem d3_11 : Dc prog_31_method_5_code 11 (.areturn) 1 12 := ⟨by decide +kernel, rfl⟩
set_option maxRecDepth 65536 in
set_option maxHeartbeats 40000000 in
theorem rmT {l : Launch} {Z : State} {a0 : Array Value} {n0 : Nat} (H : Wd a0 Z) (a1 a2 : Addr) (vs : List Value) (sz : Int32) (i : Nat) (h0 : Heap) (Z0 : n0 ≤ h0.size) (E_a1 : Exa Z h0 a1 "com/example/hone_search/honesearch/IntList") (F0_a1 : Fld Z h0 a1 "com/example/hone_search/honesearch/IntList" "values" "[I" (.ref a2)) (F1_a1 : Fld Z h0 a1 "com/example/hone_search/honesearch/IntList" "size" "I" (.int sz)) (A : AV Z h0 a2 .int vs) (E2 : Exa Z h0 a2 "[I") (hv : ∀ v ∈ vs, fits .int v = true) (hl : vs.length ≤ 8) (hi : sz.toInt = (i : Int)) (hm : i ≤ 8) :
    Ct l Z n0 (⟨"com/example/hone_search/honesearch/IntList", "toArray", "()[I"⟩ : MethodName) prog_31_method_5_code 1 (some (.array .int)) [] ({ frames := 2, cells := 1, slots := 8, locals := 32 } : Room) #[(.ref a1)] h0 (fun v h => ∃ b, v = some (.ref b) ∧ h0.size ≤ b ∧ Ext h0 h ∧ AV Z h b .int (own_copy vs i) ∧ Exa Z h b "[I") := by
  refine Ct.of (a0 := a0) (L0 := #[.val (.ref a1)]) (plainFor_of_name pn_com_example_hone_search_honesearch_IntList) (fun m => by first | (simp [entryFrame, mkF, argsToLocals, Value.category]; done) | rfl) ?_
  intro κ B0
  have B : Ok κ l Z a0 n0 ({ frames := 2, cells := 1, slots := 8, locals := 32 } : Room) "com/example/hone_search/honesearch/IntList" "toArray" prog_31_method_5_code 1 (some (.array .int)) := B0
  refine go_aload_n B d3_0 rfl rfl ?_
  refine go_getfield B d3_1 (w_11 H) F0_a1 ?_
  refine go_aload_n B d3_4 rfl rfl ?_
  refine go_getfield B d3_5 (w_18 H) F1_a1 ?_
  refine go_static B (W := 0) (argsL := [(.ref a2), (.int sz)]) (st := []) d3_8 (w_20 H) (w_21 H) (w_22 H) (w_23 H) (by decide) (rmCopy H a2 vs sz i h0 Z0 A E2 hv hi hm hl) pd_1 rfl rfl rfl rfl (by decide) (by decide) (by decide) (by decide) ?_
  rintro _ h50 ⟨b45, rfl, g46, E47, A48, C49⟩
  have ne_b45_a1 : b45 ≠ a1 := Nat.ne_of_gt (Nat.lt_of_lt_of_le (E_a1).lt (by omega))
  have ne_b45_a2 : b45 ≠ a2 := Nat.ne_of_gt (Nat.lt_of_lt_of_le (A).lt (by omega))
  have ge_b45 : n0 ≤ b45 := by have q1 := Z0; omega
  show Go κ _ h50 _ _ 11 #[.val (.ref a1)] [(.ref b45)]
  refine go_areturn B d3_11 rfl rfl rfl (by decide) (by decide) ?_
  exact ⟨b45, rfl, by assumption, E47, A48, C49⟩
theorem d8_0 : Dc prog_31_method_3_code 0 (.aload_n 0) 1 1 := ⟨by decide +kernel, rfl⟩
theorem d8_1 : Dc prog_31_method_3_code 1 (.getfield 7) 3 4 := ⟨by decide +kernel, rfl⟩
theorem d8_4 : Dc prog_31_method_3_code 4 (.iload_n 1) 1 5 := ⟨by decide +kernel, rfl⟩
theorem d8_5 : Dc prog_31_method_3_code 5 (.iaload) 1 6 := ⟨by decide +kernel, rfl⟩
theorem d8_6 : Dc prog_31_method_3_code 6 (.ireturn) 1 7 := ⟨by decide +kernel, rfl⟩
set_option maxRecDepth 65536 in
set_option maxHeartbeats 40000000 in
theorem rmG {l : Launch} {Z : State} {a0 : Array Value} {n0 : Nat} (H : Wd a0 Z) (a1 a2 : Addr) (vs : List Value) (sz j r : Int32) (i : Nat) (h0 : Heap) (Z0 : n0 ≤ h0.size) (E_a1 : Exa Z h0 a1 "com/example/hone_search/honesearch/IntList") (F0_a1 : Fld Z h0 a1 "com/example/hone_search/honesearch/IntList" "values" "[I" (.ref a2)) (F1_a1 : Fld Z h0 a1 "com/example/hone_search/honesearch/IntList" "size" "I" (.int sz)) (A : AV Z h0 a2 .int vs) (E2 : Exa Z h0 a2 "[I") (hv : ∀ v ∈ vs, fits .int v = true) (hl : vs.length ≤ 8) (hj : j.toInt = (i : Int)) (hr : vs[i]? = some (.int r)) :
    Ct l Z n0 (⟨"com/example/hone_search/honesearch/IntList", "get", "(I)I"⟩ : MethodName) prog_31_method_3_code 2 (some .int) [] ({ frames := 0, cells := 0, slots := 0, locals := 0 } : Room) #[(.ref a1), (.int j)] h0 (fun v h => v = some (.int r) ∧ h0 = h) := by
  refine Ct.of (a0 := a0) (L0 := #[.val (.ref a1), .val (.int j)]) (plainFor_of_name pn_com_example_hone_search_honesearch_IntList) (fun m => by first | (simp [entryFrame, mkF, argsToLocals, Value.category]; done) | rfl) ?_
  intro κ B0
  have B : Ok κ l Z a0 n0 ({ frames := 0, cells := 0, slots := 0, locals := 0 } : Room) "com/example/hone_search/honesearch/IntList" "get" prog_31_method_3_code 2 (some .int) := B0
  refine go_aload_n B d8_0 rfl rfl ?_
  refine go_getfield B d8_1 (w_11 H) F0_a1 ?_
  refine go_iload_n B d8_4 rfl ?_
  refine go_iaload B (i := i) (v := (.int r)) d8_5 A hj hr ?_
  refine go_ireturn B d8_6 (by decide) (by decide) ?_
  exact ⟨rfl, rfl⟩
theorem pn_com_example_hone_search_honesearch_IntListToArrayPinLaw : plainName "com/example/hone_search/honesearch/IntListToArrayPinLaw" = true := by first | (simp [plainName, overriddenIn]; done) | decide +kernel
theorem d6_0 : Dc method_2_code 0 (.aload_n 0) 1 1 := ⟨by decide +kernel, rfl⟩
theorem d6_1 : Db method_2_code 1 (.ifnull 9) 9 4 10 := ⟨by decide +kernel, rfl, rfl⟩
theorem d6_4 : Dc method_2_code 4 (.aload_n 0) 1 5 := ⟨by decide +kernel, rfl⟩
theorem d6_5 : Dc method_2_code 5 (.arraylength) 1 6 := ⟨by decide +kernel, rfl⟩
theorem d6_6 : Dc method_2_code 6 (.iload_n 1) 1 7 := ⟨by decide +kernel, rfl⟩
theorem d6_7 : Db method_2_code 7 (.if_icmp .eq 5) 5 10 12 := ⟨by decide +kernel, rfl, rfl⟩
theorem d6_12 : Dc method_2_code 12 (.iload_n 1) 1 13 := ⟨by decide +kernel, rfl⟩
theorem d6_13 : Db method_2_code 13 (.ifCond .le 12) 12 16 25 := ⟨by decide +kernel, rfl, rfl⟩
theorem d6_25 : Dc method_2_code 25 (.iload_n 1) 1 26 := ⟨by decide +kernel, rfl⟩
theorem d6_26 : Dc method_2_code 26 (.iconst 1) 1 27 := ⟨by decide +kernel, rfl⟩
theorem d6_27 : Db method_2_code 27 (.if_icmp .le 12) 12 30 39 := ⟨by decide +kernel, rfl, rfl⟩
theorem d6_39 : Dc method_2_code 39 (.iload_n 1) 1 40 := ⟨by decide +kernel, rfl⟩
theorem d6_40 : Dc method_2_code 40 (.iconst 2) 1 41 := ⟨by decide +kernel, rfl⟩
theorem d6_41 : Db method_2_code 41 (.if_icmp .le 13) 13 44 54 := ⟨by decide +kernel, rfl, rfl⟩
theorem d6_54 : Dc method_2_code 54 (.iload_n 1) 1 55 := ⟨by decide +kernel, rfl⟩
theorem d6_55 : Dc method_2_code 55 (.iconst 3) 1 56 := ⟨by decide +kernel, rfl⟩
theorem d6_56 : Db method_2_code 56 (.if_icmp .le 13) 13 59 69 := ⟨by decide +kernel, rfl, rfl⟩
theorem d6_69 : Dc method_2_code 69 (.iload_n 1) 1 70 := ⟨by decide +kernel, rfl⟩
theorem d6_70 : Dc method_2_code 70 (.iconst 4) 1 71 := ⟨by decide +kernel, rfl⟩
theorem d6_71 : Db method_2_code 71 (.if_icmp .le 13) 13 74 84 := ⟨by decide +kernel, rfl, rfl⟩
theorem d6_84 : Dc method_2_code 84 (.iconst 1) 1 85 := ⟨by decide +kernel, rfl⟩
theorem d6_85 : Dc method_2_code 85 (.ireturn) 1 86 := ⟨by decide +kernel, rfl⟩
set_option maxRecDepth 65536 in
set_option maxHeartbeats 40000000 in
theorem rmH0 {l : Launch} {Z : State} {a0 : Array Value} {n0 : Nat} (H : Wd a0 Z) (r : Addr) (x0 x1 x2 x3 x4 : Int32) (h0 : Heap) (Z0 : n0 ≤ h0.size) (A : AV Z h0 r .int []) :
    Ct l Z n0 (⟨"com/example/hone_search/honesearch/IntListToArrayPinLaw", "holds", "([IIIIIII)Z"⟩ : MethodName) method_2_code 7 (some .boolean) [] ({ frames := 0, cells := 0, slots := 0, locals := 0 } : Room) #[(.ref r), (.int (0 : Int32)), (.int x0), (.int x1), (.int x2), (.int x3), (.int x4)] h0 (fun v h => v = some (.int 1) ∧ h0 = h) := by
  refine Ct.of (a0 := a0) (L0 := #[.val (.ref r), .val (.int (0 : Int32)), .val (.int x0), .val (.int x1), .val (.int x2), .val (.int x3), .val (.int x4)]) (plainFor_of_name pn_com_example_hone_search_honesearch_IntListToArrayPinLaw) (fun m => by first | (simp [entryFrame, mkF, argsToLocals, Value.category]; done) | rfl) ?_
  intro κ B0
  have B : Ok κ l Z a0 n0 ({ frames := 0, cells := 0, slots := 0, locals := 0 } : Room) "com/example/hone_search/honesearch/IntListToArrayPinLaw" "holds" method_2_code 7 (some .boolean) := B0
  refine go_aload_n B d6_0 rfl rfl ?_
  refine go_ifnull_f B d6_1 ?_
  refine go_aload_n B d6_4 rfl rfl ?_
  refine go_arraylength B (x := (0 : Int32)) d6_5 A rfl ?_
  refine go_iload_n B d6_6 rfl ?_
  refine go_icmpeq B d6_7 (fun c7 => ?_) (fun c7 => ?_)
  rotate_left
  · exact absurd c7 (by decide)
  refine go_iload_n B d6_12 rfl ?_
  refine go_ifle B d6_13 (fun c13 => ?_) (fun c13 => ?_)
  rotate_left
  · exact absurd c13 (by decide)
  refine go_iload_n B d6_25 rfl ?_
  refine go_iconst B (x := (1 : Int32)) d6_26 rfl ?_
  refine go_icmple B d6_27 (fun c27 => ?_) (fun c27 => ?_)
  rotate_left
  · exact absurd c27 (by decide)
  refine go_iload_n B d6_39 rfl ?_
  refine go_iconst B (x := (2 : Int32)) d6_40 rfl ?_
  refine go_icmple B d6_41 (fun c41 => ?_) (fun c41 => ?_)
  rotate_left
  · exact absurd c41 (by decide)
  refine go_iload_n B d6_54 rfl ?_
  refine go_iconst B (x := (3 : Int32)) d6_55 rfl ?_
  refine go_icmple B d6_56 (fun c56 => ?_) (fun c56 => ?_)
  rotate_left
  · exact absurd c56 (by decide)
  refine go_iload_n B d6_69 rfl ?_
  refine go_iconst B (x := (4 : Int32)) d6_70 rfl ?_
  refine go_icmple B d6_71 (fun c71 => ?_) (fun c71 => ?_)
  rotate_left
  · exact absurd c71 (by decide)
  refine go_iconst B (x := (1 : Int32)) d6_84 rfl ?_
  refine go_zreturn B (y := (1 : Int32)) d6_85 (by decide) (by decide) (by decide) ?_
  exact ⟨rfl, rfl⟩
theorem d6_16 : Dc method_2_code 16 (.aload_n 0) 1 17 := ⟨by decide +kernel, rfl⟩
theorem d6_17 : Dc method_2_code 17 (.iconst 0) 1 18 := ⟨by decide +kernel, rfl⟩
theorem d6_18 : Dc method_2_code 18 (.iaload) 1 19 := ⟨by decide +kernel, rfl⟩
theorem d6_19 : Dc method_2_code 19 (.iload_n 2) 1 20 := ⟨by decide +kernel, rfl⟩
theorem d6_20 : Db method_2_code 20 (.if_icmp .eq 5) 5 23 25 := ⟨by decide +kernel, rfl, rfl⟩
set_option maxRecDepth 65536 in
set_option maxHeartbeats 40000000 in
theorem rmH1 {l : Launch} {Z : State} {a0 : Array Value} {n0 : Nat} (H : Wd a0 Z) (r : Addr) (x0 x1 x2 x3 x4 : Int32) (h0 : Heap) (Z0 : n0 ≤ h0.size) (A : AV Z h0 r .int [(.int x0)]) :
    Ct l Z n0 (⟨"com/example/hone_search/honesearch/IntListToArrayPinLaw", "holds", "([IIIIIII)Z"⟩ : MethodName) method_2_code 7 (some .boolean) [] ({ frames := 0, cells := 0, slots := 0, locals := 0 } : Room) #[(.ref r), (.int (1 : Int32)), (.int x0), (.int x1), (.int x2), (.int x3), (.int x4)] h0 (fun v h => v = some (.int 1) ∧ h0 = h) := by
  refine Ct.of (a0 := a0) (L0 := #[.val (.ref r), .val (.int (1 : Int32)), .val (.int x0), .val (.int x1), .val (.int x2), .val (.int x3), .val (.int x4)]) (plainFor_of_name pn_com_example_hone_search_honesearch_IntListToArrayPinLaw) (fun m => by first | (simp [entryFrame, mkF, argsToLocals, Value.category]; done) | rfl) ?_
  intro κ B0
  have B : Ok κ l Z a0 n0 ({ frames := 0, cells := 0, slots := 0, locals := 0 } : Room) "com/example/hone_search/honesearch/IntListToArrayPinLaw" "holds" method_2_code 7 (some .boolean) := B0
  refine go_aload_n B d6_0 rfl rfl ?_
  refine go_ifnull_f B d6_1 ?_
  refine go_aload_n B d6_4 rfl rfl ?_
  refine go_arraylength B (x := (1 : Int32)) d6_5 A rfl ?_
  refine go_iload_n B d6_6 rfl ?_
  refine go_icmpeq B d6_7 (fun c7 => ?_) (fun c7 => ?_)
  rotate_left
  · exact absurd c7 (by decide)
  refine go_iload_n B d6_12 rfl ?_
  refine go_ifle B d6_13 (fun c13 => ?_) (fun c13 => ?_)
  · exact absurd c13 (by decide)
  refine go_aload_n B d6_16 rfl rfl ?_
  refine go_iconst B (x := (0 : Int32)) d6_17 rfl ?_
  refine go_iaload B (i := 0) (v := (.int x0)) d6_18 A rfl rfl ?_
  refine go_iload_n B d6_19 rfl ?_
  refine go_icmpeq B d6_20 (fun c20 => ?_) (fun c20 => ?_)
  rotate_left
  · exact absurd rfl c20
  refine go_iload_n B d6_25 rfl ?_
  refine go_iconst B (x := (1 : Int32)) d6_26 rfl ?_
  refine go_icmple B d6_27 (fun c27 => ?_) (fun c27 => ?_)
  rotate_left
  · exact absurd c27 (by decide)
  refine go_iload_n B d6_39 rfl ?_
  refine go_iconst B (x := (2 : Int32)) d6_40 rfl ?_
  refine go_icmple B d6_41 (fun c41 => ?_) (fun c41 => ?_)
  rotate_left
  · exact absurd c41 (by decide)
  refine go_iload_n B d6_54 rfl ?_
  refine go_iconst B (x := (3 : Int32)) d6_55 rfl ?_
  refine go_icmple B d6_56 (fun c56 => ?_) (fun c56 => ?_)
  rotate_left
  · exact absurd c56 (by decide)
  refine go_iload_n B d6_69 rfl ?_
  refine go_iconst B (x := (4 : Int32)) d6_70 rfl ?_
  refine go_icmple B d6_71 (fun c71 => ?_) (fun c71 => ?_)
  rotate_left
  · exact absurd c71 (by decide)
  refine go_iconst B (x := (1 : Int32)) d6_84 rfl ?_
  refine go_zreturn B (y := (1 : Int32)) d6_85 (by decide) (by decide) (by decide) ?_
  exact ⟨rfl, rfl⟩
theorem d6_30 : Dc method_2_code 30 (.aload_n 0) 1 31 := ⟨by decide +kernel, rfl⟩
theorem d6_31 : Dc method_2_code 31 (.iconst 1) 1 32 := ⟨by decide +kernel, rfl⟩
theorem d6_32 : Dc method_2_code 32 (.iaload) 1 33 := ⟨by decide +kernel, rfl⟩
theorem d6_33 : Dc method_2_code 33 (.iload_n 3) 1 34 := ⟨by decide +kernel, rfl⟩
theorem d6_34 : Db method_2_code 34 (.if_icmp .eq 5) 5 37 39 := ⟨by decide +kernel, rfl, rfl⟩
set_option maxRecDepth 65536 in
set_option maxHeartbeats 40000000 in
theorem rmH2 {l : Launch} {Z : State} {a0 : Array Value} {n0 : Nat} (H : Wd a0 Z) (r : Addr) (x0 x1 x2 x3 x4 : Int32) (h0 : Heap) (Z0 : n0 ≤ h0.size) (A : AV Z h0 r .int [(.int x0), (.int x1)]) :
    Ct l Z n0 (⟨"com/example/hone_search/honesearch/IntListToArrayPinLaw", "holds", "([IIIIIII)Z"⟩ : MethodName) method_2_code 7 (some .boolean) [] ({ frames := 0, cells := 0, slots := 0, locals := 0 } : Room) #[(.ref r), (.int (2 : Int32)), (.int x0), (.int x1), (.int x2), (.int x3), (.int x4)] h0 (fun v h => v = some (.int 1) ∧ h0 = h) := by
  refine Ct.of (a0 := a0) (L0 := #[.val (.ref r), .val (.int (2 : Int32)), .val (.int x0), .val (.int x1), .val (.int x2), .val (.int x3), .val (.int x4)]) (plainFor_of_name pn_com_example_hone_search_honesearch_IntListToArrayPinLaw) (fun m => by first | (simp [entryFrame, mkF, argsToLocals, Value.category]; done) | rfl) ?_
  intro κ B0
  have B : Ok κ l Z a0 n0 ({ frames := 0, cells := 0, slots := 0, locals := 0 } : Room) "com/example/hone_search/honesearch/IntListToArrayPinLaw" "holds" method_2_code 7 (some .boolean) := B0
  refine go_aload_n B d6_0 rfl rfl ?_
  refine go_ifnull_f B d6_1 ?_
  refine go_aload_n B d6_4 rfl rfl ?_
  refine go_arraylength B (x := (2 : Int32)) d6_5 A rfl ?_
  refine go_iload_n B d6_6 rfl ?_
  refine go_icmpeq B d6_7 (fun c7 => ?_) (fun c7 => ?_)
  rotate_left
  · exact absurd c7 (by decide)
  refine go_iload_n B d6_12 rfl ?_
  refine go_ifle B d6_13 (fun c13 => ?_) (fun c13 => ?_)
  · exact absurd c13 (by decide)
  refine go_aload_n B d6_16 rfl rfl ?_
  refine go_iconst B (x := (0 : Int32)) d6_17 rfl ?_
  refine go_iaload B (i := 0) (v := (.int x0)) d6_18 A rfl rfl ?_
  refine go_iload_n B d6_19 rfl ?_
  refine go_icmpeq B d6_20 (fun c20 => ?_) (fun c20 => ?_)
  rotate_left
  · exact absurd rfl c20
  refine go_iload_n B d6_25 rfl ?_
  refine go_iconst B (x := (1 : Int32)) d6_26 rfl ?_
  refine go_icmple B d6_27 (fun c27 => ?_) (fun c27 => ?_)
  · exact absurd c27 (by decide)
  refine go_aload_n B d6_30 rfl rfl ?_
  refine go_iconst B (x := (1 : Int32)) d6_31 rfl ?_
  refine go_iaload B (i := 1) (v := (.int x1)) d6_32 A rfl rfl ?_
  refine go_iload_n B d6_33 rfl ?_
  refine go_icmpeq B d6_34 (fun c34 => ?_) (fun c34 => ?_)
  rotate_left
  · exact absurd rfl c34
  refine go_iload_n B d6_39 rfl ?_
  refine go_iconst B (x := (2 : Int32)) d6_40 rfl ?_
  refine go_icmple B d6_41 (fun c41 => ?_) (fun c41 => ?_)
  rotate_left
  · exact absurd c41 (by decide)
  refine go_iload_n B d6_54 rfl ?_
  refine go_iconst B (x := (3 : Int32)) d6_55 rfl ?_
  refine go_icmple B d6_56 (fun c56 => ?_) (fun c56 => ?_)
  rotate_left
  · exact absurd c56 (by decide)
  refine go_iload_n B d6_69 rfl ?_
  refine go_iconst B (x := (4 : Int32)) d6_70 rfl ?_
  refine go_icmple B d6_71 (fun c71 => ?_) (fun c71 => ?_)
  rotate_left
  · exact absurd c71 (by decide)
  refine go_iconst B (x := (1 : Int32)) d6_84 rfl ?_
  refine go_zreturn B (y := (1 : Int32)) d6_85 (by decide) (by decide) (by decide) ?_
  exact ⟨rfl, rfl⟩
theorem d6_44 : Dc method_2_code 44 (.aload_n 0) 1 45 := ⟨by decide +kernel, rfl⟩
theorem d6_45 : Dc method_2_code 45 (.iconst 2) 1 46 := ⟨by decide +kernel, rfl⟩
theorem d6_46 : Dc method_2_code 46 (.iaload) 1 47 := ⟨by decide +kernel, rfl⟩
theorem d6_47 : Dc method_2_code 47 (.iload 4) 2 49 := ⟨by decide +kernel, rfl⟩
theorem d6_49 : Db method_2_code 49 (.if_icmp .eq 5) 5 52 54 := ⟨by decide +kernel, rfl, rfl⟩
set_option maxRecDepth 65536 in
set_option maxHeartbeats 40000000 in
theorem rmH3 {l : Launch} {Z : State} {a0 : Array Value} {n0 : Nat} (H : Wd a0 Z) (r : Addr) (x0 x1 x2 x3 x4 : Int32) (h0 : Heap) (Z0 : n0 ≤ h0.size) (A : AV Z h0 r .int [(.int x0), (.int x1), (.int x2)]) :
    Ct l Z n0 (⟨"com/example/hone_search/honesearch/IntListToArrayPinLaw", "holds", "([IIIIIII)Z"⟩ : MethodName) method_2_code 7 (some .boolean) [] ({ frames := 0, cells := 0, slots := 0, locals := 0 } : Room) #[(.ref r), (.int (3 : Int32)), (.int x0), (.int x1), (.int x2), (.int x3), (.int x4)] h0 (fun v h => v = some (.int 1) ∧ h0 = h) := by
  refine Ct.of (a0 := a0) (L0 := #[.val (.ref r), .val (.int (3 : Int32)), .val (.int x0), .val (.int x1), .val (.int x2), .val (.int x3), .val (.int x4)]) (plainFor_of_name pn_com_example_hone_search_honesearch_IntListToArrayPinLaw) (fun m => by first | (simp [entryFrame, mkF, argsToLocals, Value.category]; done) | rfl) ?_
  intro κ B0
  have B : Ok κ l Z a0 n0 ({ frames := 0, cells := 0, slots := 0, locals := 0 } : Room) "com/example/hone_search/honesearch/IntListToArrayPinLaw" "holds" method_2_code 7 (some .boolean) := B0
  refine go_aload_n B d6_0 rfl rfl ?_
  refine go_ifnull_f B d6_1 ?_
  refine go_aload_n B d6_4 rfl rfl ?_
  refine go_arraylength B (x := (3 : Int32)) d6_5 A rfl ?_
  refine go_iload_n B d6_6 rfl ?_
  refine go_icmpeq B d6_7 (fun c7 => ?_) (fun c7 => ?_)
  rotate_left
  · exact absurd c7 (by decide)
  refine go_iload_n B d6_12 rfl ?_
  refine go_ifle B d6_13 (fun c13 => ?_) (fun c13 => ?_)
  · exact absurd c13 (by decide)
  refine go_aload_n B d6_16 rfl rfl ?_
  refine go_iconst B (x := (0 : Int32)) d6_17 rfl ?_
  refine go_iaload B (i := 0) (v := (.int x0)) d6_18 A rfl rfl ?_
  refine go_iload_n B d6_19 rfl ?_
  refine go_icmpeq B d6_20 (fun c20 => ?_) (fun c20 => ?_)
  rotate_left
  · exact absurd rfl c20
  refine go_iload_n B d6_25 rfl ?_
  refine go_iconst B (x := (1 : Int32)) d6_26 rfl ?_
  refine go_icmple B d6_27 (fun c27 => ?_) (fun c27 => ?_)
  · exact absurd c27 (by decide)
  refine go_aload_n B d6_30 rfl rfl ?_
  refine go_iconst B (x := (1 : Int32)) d6_31 rfl ?_
  refine go_iaload B (i := 1) (v := (.int x1)) d6_32 A rfl rfl ?_
  refine go_iload_n B d6_33 rfl ?_
  refine go_icmpeq B d6_34 (fun c34 => ?_) (fun c34 => ?_)
  rotate_left
  · exact absurd rfl c34
  refine go_iload_n B d6_39 rfl ?_
  refine go_iconst B (x := (2 : Int32)) d6_40 rfl ?_
  refine go_icmple B d6_41 (fun c41 => ?_) (fun c41 => ?_)
  · exact absurd c41 (by decide)
  refine go_aload_n B d6_44 rfl rfl ?_
  refine go_iconst B (x := (2 : Int32)) d6_45 rfl ?_
  refine go_iaload B (i := 2) (v := (.int x2)) d6_46 A rfl rfl ?_
  refine go_iload B d6_47 rfl ?_
  refine go_icmpeq B d6_49 (fun c49 => ?_) (fun c49 => ?_)
  rotate_left
  · exact absurd rfl c49
  refine go_iload_n B d6_54 rfl ?_
  refine go_iconst B (x := (3 : Int32)) d6_55 rfl ?_
  refine go_icmple B d6_56 (fun c56 => ?_) (fun c56 => ?_)
  rotate_left
  · exact absurd c56 (by decide)
  refine go_iload_n B d6_69 rfl ?_
  refine go_iconst B (x := (4 : Int32)) d6_70 rfl ?_
  refine go_icmple B d6_71 (fun c71 => ?_) (fun c71 => ?_)
  rotate_left
  · exact absurd c71 (by decide)
  refine go_iconst B (x := (1 : Int32)) d6_84 rfl ?_
  refine go_zreturn B (y := (1 : Int32)) d6_85 (by decide) (by decide) (by decide) ?_
  exact ⟨rfl, rfl⟩
theorem d6_59 : Dc method_2_code 59 (.aload_n 0) 1 60 := ⟨by decide +kernel, rfl⟩
theorem d6_60 : Dc method_2_code 60 (.iconst 3) 1 61 := ⟨by decide +kernel, rfl⟩
theorem d6_61 : Dc method_2_code 61 (.iaload) 1 62 := ⟨by decide +kernel, rfl⟩
theorem d6_62 : Dc method_2_code 62 (.iload 5) 2 64 := ⟨by decide +kernel, rfl⟩
theorem d6_64 : Db method_2_code 64 (.if_icmp .eq 5) 5 67 69 := ⟨by decide +kernel, rfl, rfl⟩
set_option maxRecDepth 65536 in
set_option maxHeartbeats 40000000 in
theorem rmH4 {l : Launch} {Z : State} {a0 : Array Value} {n0 : Nat} (H : Wd a0 Z) (r : Addr) (x0 x1 x2 x3 x4 : Int32) (h0 : Heap) (Z0 : n0 ≤ h0.size) (A : AV Z h0 r .int [(.int x0), (.int x1), (.int x2), (.int x3)]) :
    Ct l Z n0 (⟨"com/example/hone_search/honesearch/IntListToArrayPinLaw", "holds", "([IIIIIII)Z"⟩ : MethodName) method_2_code 7 (some .boolean) [] ({ frames := 0, cells := 0, slots := 0, locals := 0 } : Room) #[(.ref r), (.int (4 : Int32)), (.int x0), (.int x1), (.int x2), (.int x3), (.int x4)] h0 (fun v h => v = some (.int 1) ∧ h0 = h) := by
  refine Ct.of (a0 := a0) (L0 := #[.val (.ref r), .val (.int (4 : Int32)), .val (.int x0), .val (.int x1), .val (.int x2), .val (.int x3), .val (.int x4)]) (plainFor_of_name pn_com_example_hone_search_honesearch_IntListToArrayPinLaw) (fun m => by first | (simp [entryFrame, mkF, argsToLocals, Value.category]; done) | rfl) ?_
  intro κ B0
  have B : Ok κ l Z a0 n0 ({ frames := 0, cells := 0, slots := 0, locals := 0 } : Room) "com/example/hone_search/honesearch/IntListToArrayPinLaw" "holds" method_2_code 7 (some .boolean) := B0
  refine go_aload_n B d6_0 rfl rfl ?_
  refine go_ifnull_f B d6_1 ?_
  refine go_aload_n B d6_4 rfl rfl ?_
  refine go_arraylength B (x := (4 : Int32)) d6_5 A rfl ?_
  refine go_iload_n B d6_6 rfl ?_
  refine go_icmpeq B d6_7 (fun c7 => ?_) (fun c7 => ?_)
  rotate_left
  · exact absurd c7 (by decide)
  refine go_iload_n B d6_12 rfl ?_
  refine go_ifle B d6_13 (fun c13 => ?_) (fun c13 => ?_)
  · exact absurd c13 (by decide)
  refine go_aload_n B d6_16 rfl rfl ?_
  refine go_iconst B (x := (0 : Int32)) d6_17 rfl ?_
  refine go_iaload B (i := 0) (v := (.int x0)) d6_18 A rfl rfl ?_
  refine go_iload_n B d6_19 rfl ?_
  refine go_icmpeq B d6_20 (fun c20 => ?_) (fun c20 => ?_)
  rotate_left
  · exact absurd rfl c20
  refine go_iload_n B d6_25 rfl ?_
  refine go_iconst B (x := (1 : Int32)) d6_26 rfl ?_
  refine go_icmple B d6_27 (fun c27 => ?_) (fun c27 => ?_)
  · exact absurd c27 (by decide)
  refine go_aload_n B d6_30 rfl rfl ?_
  refine go_iconst B (x := (1 : Int32)) d6_31 rfl ?_
  refine go_iaload B (i := 1) (v := (.int x1)) d6_32 A rfl rfl ?_
  refine go_iload_n B d6_33 rfl ?_
  refine go_icmpeq B d6_34 (fun c34 => ?_) (fun c34 => ?_)
  rotate_left
  · exact absurd rfl c34
  refine go_iload_n B d6_39 rfl ?_
  refine go_iconst B (x := (2 : Int32)) d6_40 rfl ?_
  refine go_icmple B d6_41 (fun c41 => ?_) (fun c41 => ?_)
  · exact absurd c41 (by decide)
  refine go_aload_n B d6_44 rfl rfl ?_
  refine go_iconst B (x := (2 : Int32)) d6_45 rfl ?_
  refine go_iaload B (i := 2) (v := (.int x2)) d6_46 A rfl rfl ?_
  refine go_iload B d6_47 rfl ?_
  refine go_icmpeq B d6_49 (fun c49 => ?_) (fun c49 => ?_)
  rotate_left
  · exact absurd rfl c49
  refine go_iload_n B d6_54 rfl ?_
  refine go_iconst B (x := (3 : Int32)) d6_55 rfl ?_
  refine go_icmple B d6_56 (fun c56 => ?_) (fun c56 => ?_)
  · exact absurd c56 (by decide)
  refine go_aload_n B d6_59 rfl rfl ?_
  refine go_iconst B (x := (3 : Int32)) d6_60 rfl ?_
  refine go_iaload B (i := 3) (v := (.int x3)) d6_61 A rfl rfl ?_
  refine go_iload B d6_62 rfl ?_
  refine go_icmpeq B d6_64 (fun c64 => ?_) (fun c64 => ?_)
  rotate_left
  · exact absurd rfl c64
  refine go_iload_n B d6_69 rfl ?_
  refine go_iconst B (x := (4 : Int32)) d6_70 rfl ?_
  refine go_icmple B d6_71 (fun c71 => ?_) (fun c71 => ?_)
  rotate_left
  · exact absurd c71 (by decide)
  refine go_iconst B (x := (1 : Int32)) d6_84 rfl ?_
  refine go_zreturn B (y := (1 : Int32)) d6_85 (by decide) (by decide) (by decide) ?_
  exact ⟨rfl, rfl⟩
theorem d6_74 : Dc method_2_code 74 (.aload_n 0) 1 75 := ⟨by decide +kernel, rfl⟩
theorem d6_75 : Dc method_2_code 75 (.iconst 4) 1 76 := ⟨by decide +kernel, rfl⟩
theorem d6_76 : Dc method_2_code 76 (.iaload) 1 77 := ⟨by decide +kernel, rfl⟩
theorem d6_77 : Dc method_2_code 77 (.iload 6) 2 79 := ⟨by decide +kernel, rfl⟩
theorem d6_79 : Db method_2_code 79 (.if_icmp .eq 5) 5 82 84 := ⟨by decide +kernel, rfl, rfl⟩
set_option maxRecDepth 65536 in
set_option maxHeartbeats 40000000 in
theorem rmH5 {l : Launch} {Z : State} {a0 : Array Value} {n0 : Nat} (H : Wd a0 Z) (r : Addr) (x0 x1 x2 x3 x4 : Int32) (h0 : Heap) (Z0 : n0 ≤ h0.size) (A : AV Z h0 r .int [(.int x0), (.int x1), (.int x2), (.int x3), (.int x4)]) :
    Ct l Z n0 (⟨"com/example/hone_search/honesearch/IntListToArrayPinLaw", "holds", "([IIIIIII)Z"⟩ : MethodName) method_2_code 7 (some .boolean) [] ({ frames := 0, cells := 0, slots := 0, locals := 0 } : Room) #[(.ref r), (.int (5 : Int32)), (.int x0), (.int x1), (.int x2), (.int x3), (.int x4)] h0 (fun v h => v = some (.int 1) ∧ h0 = h) := by
  refine Ct.of (a0 := a0) (L0 := #[.val (.ref r), .val (.int (5 : Int32)), .val (.int x0), .val (.int x1), .val (.int x2), .val (.int x3), .val (.int x4)]) (plainFor_of_name pn_com_example_hone_search_honesearch_IntListToArrayPinLaw) (fun m => by first | (simp [entryFrame, mkF, argsToLocals, Value.category]; done) | rfl) ?_
  intro κ B0
  have B : Ok κ l Z a0 n0 ({ frames := 0, cells := 0, slots := 0, locals := 0 } : Room) "com/example/hone_search/honesearch/IntListToArrayPinLaw" "holds" method_2_code 7 (some .boolean) := B0
  refine go_aload_n B d6_0 rfl rfl ?_
  refine go_ifnull_f B d6_1 ?_
  refine go_aload_n B d6_4 rfl rfl ?_
  refine go_arraylength B (x := (5 : Int32)) d6_5 A rfl ?_
  refine go_iload_n B d6_6 rfl ?_
  refine go_icmpeq B d6_7 (fun c7 => ?_) (fun c7 => ?_)
  rotate_left
  · exact absurd c7 (by decide)
  refine go_iload_n B d6_12 rfl ?_
  refine go_ifle B d6_13 (fun c13 => ?_) (fun c13 => ?_)
  · exact absurd c13 (by decide)
  refine go_aload_n B d6_16 rfl rfl ?_
  refine go_iconst B (x := (0 : Int32)) d6_17 rfl ?_
  refine go_iaload B (i := 0) (v := (.int x0)) d6_18 A rfl rfl ?_
  refine go_iload_n B d6_19 rfl ?_
  refine go_icmpeq B d6_20 (fun c20 => ?_) (fun c20 => ?_)
  rotate_left
  · exact absurd rfl c20
  refine go_iload_n B d6_25 rfl ?_
  refine go_iconst B (x := (1 : Int32)) d6_26 rfl ?_
  refine go_icmple B d6_27 (fun c27 => ?_) (fun c27 => ?_)
  · exact absurd c27 (by decide)
  refine go_aload_n B d6_30 rfl rfl ?_
  refine go_iconst B (x := (1 : Int32)) d6_31 rfl ?_
  refine go_iaload B (i := 1) (v := (.int x1)) d6_32 A rfl rfl ?_
  refine go_iload_n B d6_33 rfl ?_
  refine go_icmpeq B d6_34 (fun c34 => ?_) (fun c34 => ?_)
  rotate_left
  · exact absurd rfl c34
  refine go_iload_n B d6_39 rfl ?_
  refine go_iconst B (x := (2 : Int32)) d6_40 rfl ?_
  refine go_icmple B d6_41 (fun c41 => ?_) (fun c41 => ?_)
  · exact absurd c41 (by decide)
  refine go_aload_n B d6_44 rfl rfl ?_
  refine go_iconst B (x := (2 : Int32)) d6_45 rfl ?_
  refine go_iaload B (i := 2) (v := (.int x2)) d6_46 A rfl rfl ?_
  refine go_iload B d6_47 rfl ?_
  refine go_icmpeq B d6_49 (fun c49 => ?_) (fun c49 => ?_)
  rotate_left
  · exact absurd rfl c49
  refine go_iload_n B d6_54 rfl ?_
  refine go_iconst B (x := (3 : Int32)) d6_55 rfl ?_
  refine go_icmple B d6_56 (fun c56 => ?_) (fun c56 => ?_)
  · exact absurd c56 (by decide)
  refine go_aload_n B d6_59 rfl rfl ?_
  refine go_iconst B (x := (3 : Int32)) d6_60 rfl ?_
  refine go_iaload B (i := 3) (v := (.int x3)) d6_61 A rfl rfl ?_
  refine go_iload B d6_62 rfl ?_
  refine go_icmpeq B d6_64 (fun c64 => ?_) (fun c64 => ?_)
  rotate_left
  · exact absurd rfl c64
  refine go_iload_n B d6_69 rfl ?_
  refine go_iconst B (x := (4 : Int32)) d6_70 rfl ?_
  refine go_icmple B d6_71 (fun c71 => ?_) (fun c71 => ?_)
  · exact absurd c71 (by decide)
  refine go_aload_n B d6_74 rfl rfl ?_
  refine go_iconst B (x := (4 : Int32)) d6_75 rfl ?_
  refine go_iaload B (i := 4) (v := (.int x4)) d6_76 A rfl rfl ?_
  refine go_iload B d6_77 rfl ?_
  refine go_icmpeq B d6_79 (fun c79 => ?_) (fun c79 => ?_)
  rotate_left
  · exact absurd rfl c79
  refine go_iconst B (x := (1 : Int32)) d6_84 rfl ?_
  refine go_zreturn B (y := (1 : Int32)) d6_85 (by decide) (by decide) (by decide) ?_
  exact ⟨rfl, rfl⟩
theorem d0_0 : Dc code 0 (.iload_n 0) 1 1 := ⟨at_0, rfl⟩
theorem d0_1 : Dc code 1 (.ldc 7) 2 3 := ⟨at_1, rfl⟩
theorem w_0 {a0 : Array Value} {Z : State} (H : Wd a0 Z) : (Jvm.Cond.constant "com/example/hone_search/honesearch/IntListToArrayPinLaw" (7 : Nat) (2147483647 : Int32)).before a0 Z = true := H _ (List.mem_of_getElem? (i := 0) rfl)
theorem d0_3 : Dc code 3 (.iand) 1 4 := ⟨at_3, rfl⟩
theorem d0_4 : Dc code 4 (.bipush 6) 2 6 := ⟨at_4, rfl⟩
theorem d0_6 : Dc code 6 (.irem) 1 7 := ⟨at_6, rfl⟩
theorem d0_7 : Dc code 7 (.istore 6) 2 9 := ⟨at_7, rfl⟩
theorem d0_9 : Dc code 9 (.new 8) 3 12 := ⟨at_9, rfl⟩
theorem w_1 {a0 : Array Value} {Z : State} (H : Wd a0 Z) : (Jvm.Cond.classLink "com/example/hone_search/honesearch/IntListToArrayPinLaw" (8 : Nat) "com/example/hone_search/honesearch/IntList").before a0 Z = true := H _ (List.mem_of_getElem? (i := 1) rfl)
theorem w_3 {a0 : Array Value} {Z : State} (H : Wd a0 Z) : (Jvm.Cond.initialized "com/example/hone_search/honesearch/IntList").before a0 Z = true := H _ (List.mem_of_getElem? (i := 3) rfl)
theorem d0_12 : Dc code 12 (.dup) 1 13 := ⟨at_12, rfl⟩
theorem d0_13 : Dc code 13 (.invokespecial 10) 3 16 := ⟨at_13, rfl⟩
theorem w_6 {a0 : Array Value} {Z : State} (H : Wd a0 Z) : (Jvm.Cond.code ({ cls := "com/example/hone_search/honesearch/IntList", name := "<init>", desc := "()V" } : Jvm.MethodName) prog_31_method_1_code (1 : Nat) (Option.none : Option Jvm.ClassFile.FieldType)).before a0 Z = true := H _ (List.mem_of_getElem? (i := 6) rfl)
theorem pd_2 : parseMethodDescriptor "()V" = some ⟨[], none⟩ := by decide +kernel
theorem w_4 {a0 : Array Value} {Z : State} (H : Wd a0 Z) : (Jvm.Cond.methodLink "com/example/hone_search/honesearch/IntListToArrayPinLaw" (10 : Nat) ({ cls := "com/example/hone_search/honesearch/IntList", name := "<init>", desc := "()V" } : Jvm.MethodName)).before a0 Z = true := H _ (List.mem_of_getElem? (i := 4) rfl)
theorem w_5 {a0 : Array Value} {Z : State} (H : Wd a0 Z) : (Jvm.Cond.instanceMethod ({ cls := "com/example/hone_search/honesearch/IntList", name := "<init>", desc := "()V" } : Jvm.MethodName)).before a0 Z = true := H _ (List.mem_of_getElem? (i := 5) rfl)
theorem d0_16 : Dc code 16 (.astore 7) 2 18 := ⟨at_16, rfl⟩
theorem d0_18 : Dc code 18 (.iload 6) 2 20 := ⟨at_18, rfl⟩
theorem d0_20 : Db code 20 (.ifCond .le 9) 9 23 29 := ⟨at_20, rfl, rfl⟩
theorem d0_29 : Dc code 29 (.iload 6) 2 31 := ⟨at_29, rfl⟩
theorem d0_31 : Dc code 31 (.iconst 1) 1 32 := ⟨at_31, rfl⟩
theorem d0_32 : Db code 32 (.if_icmp .le 9) 9 35 41 := ⟨at_32, rfl, rfl⟩
theorem d0_41 : Dc code 41 (.iload 6) 2 43 := ⟨at_41, rfl⟩
theorem d0_43 : Dc code 43 (.iconst 2) 1 44 := ⟨at_43, rfl⟩
theorem d0_44 : Db code 44 (.if_icmp .le 9) 9 47 53 := ⟨at_44, rfl, rfl⟩
theorem d0_53 : Dc code 53 (.iload 6) 2 55 := ⟨at_53, rfl⟩
theorem d0_55 : Dc code 55 (.iconst 3) 1 56 := ⟨at_55, rfl⟩
theorem d0_56 : Db code 56 (.if_icmp .le 10) 10 59 66 := ⟨at_56, rfl, rfl⟩
theorem d0_66 : Dc code 66 (.iload 6) 2 68 := ⟨at_66, rfl⟩
theorem d0_68 : Dc code 68 (.iconst 4) 1 69 := ⟨at_68, rfl⟩
theorem d0_69 : Db code 69 (.if_icmp .le 10) 10 72 79 := ⟨at_69, rfl, rfl⟩
theorem d0_79 : Dc code 79 (.aload 7) 2 81 := ⟨at_79, rfl⟩
theorem d0_81 : Dc code 81 (.invokevirtual 15) 3 84 := ⟨at_81, rfl⟩
theorem w_17 {a0 : Array Value} {Z : State} (H : Wd a0 Z) : (Jvm.Cond.code ({ cls := "com/example/hone_search/honesearch/IntList", name := "toArray", desc := "()[I" } : Jvm.MethodName) prog_31_method_5_code (1 : Nat) (Option.some (Jvm.ClassFile.FieldType.array Jvm.ClassFile.FieldType.int))).before a0 Z = true := H _ (List.mem_of_getElem? (i := 17) rfl)
theorem pd_3 : parseMethodDescriptor "()[I" = some ⟨[], some (.array .int)⟩ := by decide +kernel
theorem w_13 {a0 : Array Value} {Z : State} (H : Wd a0 Z) : (Jvm.Cond.methodLink "com/example/hone_search/honesearch/IntListToArrayPinLaw" (15 : Nat) ({ cls := "com/example/hone_search/honesearch/IntList", name := "toArray", desc := "()[I" } : Jvm.MethodName)).before a0 Z = true := H _ (List.mem_of_getElem? (i := 13) rfl)
theorem w_14 {a0 : Array Value} {Z : State} (H : Wd a0 Z) : (Jvm.Cond.declares ({ cls := "com/example/hone_search/honesearch/IntList", name := "toArray", desc := "()[I" } : Jvm.MethodName)).before a0 Z = true := H _ (List.mem_of_getElem? (i := 14) rfl)
theorem w_16 {a0 : Array Value} {Z : State} (H : Wd a0 Z) : (Jvm.Cond.selects "com/example/hone_search/honesearch/IntList" ({ cls := "com/example/hone_search/honesearch/IntList", name := "toArray", desc := "()[I" } : Jvm.MethodName) ({ cls := "com/example/hone_search/honesearch/IntList", name := "toArray", desc := "()[I" } : Jvm.MethodName)).before a0 Z = true := H _ (List.mem_of_getElem? (i := 16) rfl)
theorem w_15 {a0 : Array Value} {Z : State} (H : Wd a0 Z) : (Jvm.Cond.instanceMethod ({ cls := "com/example/hone_search/honesearch/IntList", name := "toArray", desc := "()[I" } : Jvm.MethodName)).before a0 Z = true := H _ (List.mem_of_getElem? (i := 15) rfl)
theorem d0_84 : Dc code 84 (.astore 8) 2 86 := ⟨at_84, rfl⟩
theorem d0_86 : Dc code 86 (.aload 8) 2 88 := ⟨at_86, rfl⟩
theorem d0_88 : Dc code 88 (.iload 6) 2 90 := ⟨at_88, rfl⟩
theorem d0_90 : Dc code 90 (.iload_n 1) 1 91 := ⟨at_90, rfl⟩
theorem d0_91 : Dc code 91 (.iload_n 2) 1 92 := ⟨at_91, rfl⟩
theorem d0_92 : Dc code 92 (.iload_n 3) 1 93 := ⟨at_92, rfl⟩
theorem d0_93 : Dc code 93 (.iload 4) 2 95 := ⟨at_93, rfl⟩
theorem d0_95 : Dc code 95 (.iload 5) 2 97 := ⟨at_95, rfl⟩
theorem d0_97 : Dc code 97 (.invokestatic 19) 3 100 := ⟨at_97, rfl⟩
theorem w_35 {a0 : Array Value} {Z : State} (H : Wd a0 Z) : (Jvm.Cond.code ({ cls := "com/example/hone_search/honesearch/IntListToArrayPinLaw", name := "holds", desc := "([IIIIIII)Z" } : Jvm.MethodName) method_2_code (7 : Nat) (Option.some Jvm.ClassFile.FieldType.boolean)).before a0 Z = true := H _ (List.mem_of_getElem? (i := 35) rfl)
theorem w_34 {a0 : Array Value} {Z : State} (H : Wd a0 Z) : (Jvm.Cond.initialized "com/example/hone_search/honesearch/IntListToArrayPinLaw").before a0 Z = true := H _ (List.mem_of_getElem? (i := 34) rfl)
theorem pd_4 : parseMethodDescriptor "([IIIIIII)Z" = some ⟨[(.array .int), .int, .int, .int, .int, .int, .int], some .boolean⟩ := by decide +kernel
theorem w_32 {a0 : Array Value} {Z : State} (H : Wd a0 Z) : (Jvm.Cond.methodLink "com/example/hone_search/honesearch/IntListToArrayPinLaw" (19 : Nat) ({ cls := "com/example/hone_search/honesearch/IntListToArrayPinLaw", name := "holds", desc := "([IIIIIII)Z" } : Jvm.MethodName)).before a0 Z = true := H _ (List.mem_of_getElem? (i := 32) rfl)
theorem w_33 {a0 : Array Value} {Z : State} (H : Wd a0 Z) : (Jvm.Cond.static ({ cls := "com/example/hone_search/honesearch/IntListToArrayPinLaw", name := "holds", desc := "([IIIIIII)Z" } : Jvm.MethodName)).before a0 Z = true := H _ (List.mem_of_getElem? (i := 33) rfl)
theorem d0_100 : Dc code 100 (.istore 9) 2 102 := ⟨at_100, rfl⟩
theorem d0_102 : Dc code 102 (.iload 9) 2 104 := ⟨at_102, rfl⟩
theorem d0_104 : Db code 104 (.ifCond .ne 5) 5 107 109 := ⟨at_104, rfl, rfl⟩
theorem d0_109 : Dc code 109 (.iload 6) 2 111 := ⟨at_109, rfl⟩
theorem d0_111 : Db code 111 (.ifCond .le 26) 26 114 137 := ⟨at_111, rfl, rfl⟩
theorem d0_137 : Dc code 137 (.aload 7) 2 139 := ⟨at_137, rfl⟩
theorem d0_139 : Dc code 139 (.invokevirtual 15) 3 142 := ⟨at_139, rfl⟩
theorem d0_142 : Dc code 142 (.astore 10) 2 144 := ⟨at_142, rfl⟩
theorem d0_144 : Dc code 144 (.aload 10) 2 146 := ⟨at_144, rfl⟩
theorem d0_146 : Dc code 146 (.aload 8) 2 148 := ⟨at_146, rfl⟩
theorem d0_148 : Db code 148 (.if_acmp .ne 5) 5 151 153 := ⟨at_148, rfl, rfl⟩
theorem d0_153 : Dc code 153 (.aload 10) 2 155 := ⟨at_153, rfl⟩
theorem d0_155 : Dc code 155 (.iload 6) 2 157 := ⟨at_155, rfl⟩
theorem d0_157 : Dc code 157 (.iload_n 1) 1 158 := ⟨at_157, rfl⟩
theorem d0_158 : Dc code 158 (.iload_n 2) 1 159 := ⟨at_158, rfl⟩
theorem d0_159 : Dc code 159 (.iload_n 3) 1 160 := ⟨at_159, rfl⟩
theorem d0_160 : Dc code 160 (.iload 4) 2 162 := ⟨at_160, rfl⟩
theorem d0_162 : Dc code 162 (.iload 5) 2 164 := ⟨at_162, rfl⟩
theorem d0_164 : Dc code 164 (.invokestatic 19) 3 167 := ⟨at_164, rfl⟩
theorem d0_167 : Db code 167 (.ifCond .ne 5) 5 170 172 := ⟨at_167, rfl, rfl⟩
theorem d0_172 : Dc code 172 (.iload 6) 2 174 := ⟨at_172, rfl⟩
theorem d0_174 : Db code 174 (.ifCond .le 15) 15 177 189 := ⟨at_174, rfl, rfl⟩
theorem d0_189 : Dc code 189 (.iconst 1) 1 190 := ⟨at_189, rfl⟩
theorem d0_190 : Dc code 190 (.ireturn) 1 191 := ⟨at_190, rfl⟩
theorem d0_23 : Dc code 23 (.aload 7) 2 25 := ⟨at_23, rfl⟩
theorem d0_25 : Dc code 25 (.iload_n 1) 1 26 := ⟨at_25, rfl⟩
theorem d0_26 : Dc code 26 (.invokevirtual 11) 3 29 := ⟨at_26, rfl⟩
theorem w_40 {a0 : Array Value} {Z : State} (H : Wd a0 Z) : (Jvm.Cond.code ({ cls := "com/example/hone_search/honesearch/IntList", name := "add", desc := "(I)V" } : Jvm.MethodName) prog_31_method_2_code (2 : Nat) (Option.none : Option Jvm.ClassFile.FieldType)).before a0 Z = true := H _ (List.mem_of_getElem? (i := 40) rfl)
theorem pd_5 : parseMethodDescriptor "(I)V" = some ⟨[.int], none⟩ := by decide +kernel
theorem w_36 {a0 : Array Value} {Z : State} (H : Wd a0 Z) : (Jvm.Cond.methodLink "com/example/hone_search/honesearch/IntListToArrayPinLaw" (11 : Nat) ({ cls := "com/example/hone_search/honesearch/IntList", name := "add", desc := "(I)V" } : Jvm.MethodName)).before a0 Z = true := H _ (List.mem_of_getElem? (i := 36) rfl)
theorem w_37 {a0 : Array Value} {Z : State} (H : Wd a0 Z) : (Jvm.Cond.declares ({ cls := "com/example/hone_search/honesearch/IntList", name := "add", desc := "(I)V" } : Jvm.MethodName)).before a0 Z = true := H _ (List.mem_of_getElem? (i := 37) rfl)
theorem w_39 {a0 : Array Value} {Z : State} (H : Wd a0 Z) : (Jvm.Cond.selects "com/example/hone_search/honesearch/IntList" ({ cls := "com/example/hone_search/honesearch/IntList", name := "add", desc := "(I)V" } : Jvm.MethodName) ({ cls := "com/example/hone_search/honesearch/IntList", name := "add", desc := "(I)V" } : Jvm.MethodName)).before a0 Z = true := H _ (List.mem_of_getElem? (i := 39) rfl)
theorem w_38 {a0 : Array Value} {Z : State} (H : Wd a0 Z) : (Jvm.Cond.instanceMethod ({ cls := "com/example/hone_search/honesearch/IntList", name := "add", desc := "(I)V" } : Jvm.MethodName)).before a0 Z = true := H _ (List.mem_of_getElem? (i := 38) rfl)
theorem d0_114 : Dc code 114 (.aload 8) 2 116 := ⟨at_114, rfl⟩
theorem d0_116 : Dc code 116 (.iconst 0) 1 117 := ⟨at_116, rfl⟩
theorem d0_117 : Dc code 117 (.iload_n 1) 1 118 := ⟨at_117, rfl⟩
theorem d0_118 : Dc code 118 (.iconst (-1)) 1 119 := ⟨at_118, rfl⟩
theorem d0_119 : Dc code 119 (.ixor) 1 120 := ⟨at_119, rfl⟩
theorem d0_120 : Dc code 120 (.iastore) 1 121 := ⟨at_120, rfl⟩
theorem d0_121 : Dc code 121 (.aload 8) 2 123 := ⟨at_121, rfl⟩
theorem d0_123 : Dc code 123 (.iload 6) 2 125 := ⟨at_123, rfl⟩
theorem d0_125 : Dc code 125 (.iconst 1) 1 126 := ⟨at_125, rfl⟩
theorem d0_126 : Dc code 126 (.isub) 1 127 := ⟨at_126, rfl⟩
theorem d0_127 : Dc code 127 (.aload 8) 2 129 := ⟨at_127, rfl⟩
theorem d0_129 : Dc code 129 (.iload 6) 2 131 := ⟨at_129, rfl⟩
theorem d0_131 : Dc code 131 (.iconst 1) 1 132 := ⟨at_131, rfl⟩
theorem d0_132 : Dc code 132 (.isub) 1 133 := ⟨at_132, rfl⟩
theorem d0_133 : Dc code 133 (.iaload) 1 134 := ⟨at_133, rfl⟩
theorem d0_134 : Dc code 134 (.iconst (-1)) 1 135 := ⟨at_134, rfl⟩
theorem d0_135 : Dc code 135 (.ixor) 1 136 := ⟨at_135, rfl⟩
theorem d0_136 : Dc code 136 (.iastore) 1 137 := ⟨at_136, rfl⟩
theorem d0_177 : Dc code 177 (.aload 7) 2 179 := ⟨at_177, rfl⟩
theorem d0_179 : Dc code 179 (.iconst 0) 1 180 := ⟨at_179, rfl⟩
theorem d0_180 : Dc code 180 (.invokevirtual 25) 3 183 := ⟨at_180, rfl⟩
theorem w_54 {a0 : Array Value} {Z : State} (H : Wd a0 Z) : (Jvm.Cond.code ({ cls := "com/example/hone_search/honesearch/IntList", name := "get", desc := "(I)I" } : Jvm.MethodName) prog_31_method_3_code (2 : Nat) (Option.some Jvm.ClassFile.FieldType.int)).before a0 Z = true := H _ (List.mem_of_getElem? (i := 54) rfl)
theorem pd_6 : parseMethodDescriptor "(I)I" = some ⟨[.int], some .int⟩ := by decide +kernel
theorem w_50 {a0 : Array Value} {Z : State} (H : Wd a0 Z) : (Jvm.Cond.methodLink "com/example/hone_search/honesearch/IntListToArrayPinLaw" (25 : Nat) ({ cls := "com/example/hone_search/honesearch/IntList", name := "get", desc := "(I)I" } : Jvm.MethodName)).before a0 Z = true := H _ (List.mem_of_getElem? (i := 50) rfl)
theorem w_51 {a0 : Array Value} {Z : State} (H : Wd a0 Z) : (Jvm.Cond.declares ({ cls := "com/example/hone_search/honesearch/IntList", name := "get", desc := "(I)I" } : Jvm.MethodName)).before a0 Z = true := H _ (List.mem_of_getElem? (i := 51) rfl)
theorem w_53 {a0 : Array Value} {Z : State} (H : Wd a0 Z) : (Jvm.Cond.selects "com/example/hone_search/honesearch/IntList" ({ cls := "com/example/hone_search/honesearch/IntList", name := "get", desc := "(I)I" } : Jvm.MethodName) ({ cls := "com/example/hone_search/honesearch/IntList", name := "get", desc := "(I)I" } : Jvm.MethodName)).before a0 Z = true := H _ (List.mem_of_getElem? (i := 53) rfl)
theorem w_52 {a0 : Array Value} {Z : State} (H : Wd a0 Z) : (Jvm.Cond.instanceMethod ({ cls := "com/example/hone_search/honesearch/IntList", name := "get", desc := "(I)I" } : Jvm.MethodName)).before a0 Z = true := H _ (List.mem_of_getElem? (i := 52) rfl)
theorem d0_183 : Dc code 183 (.iload_n 1) 1 184 := ⟨at_183, rfl⟩
theorem d0_184 : Db code 184 (.if_icmp .eq 5) 5 187 189 := ⟨at_184, rfl, rfl⟩
theorem d0_35 : Dc code 35 (.aload 7) 2 37 := ⟨at_35, rfl⟩
theorem d0_37 : Dc code 37 (.iload_n 2) 1 38 := ⟨at_37, rfl⟩
theorem d0_38 : Dc code 38 (.invokevirtual 11) 3 41 := ⟨at_38, rfl⟩
theorem d0_47 : Dc code 47 (.aload 7) 2 49 := ⟨at_47, rfl⟩
theorem d0_49 : Dc code 49 (.iload_n 3) 1 50 := ⟨at_49, rfl⟩
theorem d0_50 : Dc code 50 (.invokevirtual 11) 3 53 := ⟨at_50, rfl⟩
theorem d0_59 : Dc code 59 (.aload 7) 2 61 := ⟨at_59, rfl⟩
theorem d0_61 : Dc code 61 (.iload 4) 2 63 := ⟨at_61, rfl⟩
theorem d0_63 : Dc code 63 (.invokevirtual 11) 3 66 := ⟨at_63, rfl⟩
theorem d0_72 : Dc code 72 (.aload 7) 2 74 := ⟨at_72, rfl⟩
theorem d0_74 : Dc code 74 (.iload 5) 2 76 := ⟨at_74, rfl⟩
theorem d0_76 : Dc code 76 (.invokevirtual 11) 3 79 := ⟨at_76, rfl⟩
set_option maxRecDepth 65536 in
set_option maxHeartbeats 40000000 in
theorem rm0 {l : Launch} {Z : State} {a0 : Array Value} {n0 : Nat} (H : Wd a0 Z) (p0 p1 p2 p3 p4 p5 : Int32) (h0 : Heap) (Z0 : n0 ≤ h0.size) :
    Ct l Z n0 x code maxLocals ret tables_1 room_1 #[(.int p0), (.int p1), (.int p2), (.int p3), (.int p4), (.int p5)] h0 (fun v h => v = some (.int 1)) := by
  refine Ct.of (a0 := a0) (L0 := #[.val (.int p0), .val (.int p1), .val (.int p2), .val (.int p3), .val (.int p4), .val (.int p5), .unset, .unset, .unset, .unset, .unset]) (plainFor_of_name pn_com_example_hone_search_honesearch_IntListToArrayPinLaw) (fun m => by first | (simp [entryFrame, mkF, argsToLocals, Value.category, maxLocals]; done) | rfl) ?_
  intro κ B0
  have B : Ok κ l Z a0 n0 room_1 "com/example/hone_search/honesearch/IntListToArrayPinLaw" "law" code maxLocals ret := B0
  obtain ⟨k, hk⟩ : ∃ z, z = (p0 &&& (2147483647 : Int32)) % (6 : Int32) := ⟨_, rfl⟩
  have hk0 : 0 ≤ k.toInt ∧ k.toInt ≤ 5 := by
    have hm := i_mod (rfl : (p0 &&& (2147483647 : Int32)).toInt = _) (show (6 : Int32).toInt = 6 from rfl) (i_and p0 2147483647 (by decide)).1 (by decide)
    rw [← hk] at hm
    omega
  refine go_iload_n B d0_0 rfl ?_
  refine go_ldcI B d0_1 (w_0 H) ?_
  refine go_iand B d0_3 ?_
  refine go_bipush B (x := (6 : Int32)) d0_4 (by decide) ?_
  refine go_irem B d0_6 (by decide) ?_
  rw [show ((p0 &&& (2147483647 : Int32)) % (6 : Int32)) = k from hk.symm]
  refine go_istore B #[.val (.int p0), .val (.int p1), .val (.int p2), .val (.int p3), .val (.int p4), .val (.int p5), .val (.int k), .unset, .unset, .unset, .unset] d0_7 rfl ?_
  refine go_new B d0_9 (w_1 H) (w_2 H) (w_3 H) (by decide) (by decide) ?_
  intro h51 a52 hba52 Ea52 Aa52 Da52
  have ge_a52 : n0 ≤ a52 := by have q1 := Z0; omega
  refine go_dup B d0_12 rfl ?_
  refine go_special B (W := 1) (a := a52) (argsL := []) (st := [(.ref a52)]) d0_13 rfl (w_4 H) (w_5 H) (w_3 H) (w_6 H) (by decide) (rmI H a52 h51 (Nat.le_trans Z0 Ea52.1) Aa52 (Da52 (Or.inl (w_12 H)) (ty := (.array .int)) (by decide)) (Da52 (Or.inl (w_19 H)) (ty := .int) (by decide)) ge_a52) pd_2 rfl rfl rfl rfl (by decide) (by decide) (by decide) (by decide) ?_
  rintro _ h61 ⟨b53, rfl, g54, K55, E58, f59, f60, A56, C57⟩
  have ne_b53_a52 : b53 ≠ a52 := Nat.ne_of_gt (Nat.lt_of_lt_of_le (Aa52).lt (by omega))
  have ge_b53 : n0 ≤ b53 := by have q1 := (Nat.le_trans Z0 Ea52.1); omega
  show Go κ _ h61 _ _ 16 #[.val (.int p0), .val (.int p1), .val (.int p2), .val (.int p3), .val (.int p4), .val (.int p5), .val (.int k), .unset, .unset, .unset, .unset] [(.ref a52)]
  refine go_astore B #[.val (.int p0), .val (.int p1), .val (.int p2), .val (.int p3), .val (.int p4), .val (.int p5), .val (.int k), .val (.ref a52), .unset, .unset, .unset] d0_16 rfl rfl ?_
  refine go_iload B d0_18 rfl ?_
  refine go_ifle B d0_20 (fun c20 => ?_) (fun c20 => ?_)
  · skip
    obtain rfl : k = (0 : Int32) := i_eq (i := 0) (by have q1 := i_of_nlt rfl rfl c20; have z0 : (0 : Int32).toInt = 0 := rfl; have z1 : (1 : Int32).toInt = 1 := rfl; have z2 : (2 : Int32).toInt = 2 := rfl; have z3 : (3 : Int32).toInt = 3 := rfl; have z4 : (4 : Int32).toInt = 4 := rfl; have z5 : (5 : Int32).toInt = 5 := rfl; omega) rfl
    refine go_iload B d0_29 rfl ?_
    refine go_iconst B (x := (1 : Int32)) d0_31 rfl ?_
    refine go_icmple B d0_32 (fun c32 => ?_) (fun c32 => ?_)
    rotate_left
    · exact absurd c32 (by decide)
    refine go_iload B d0_41 rfl ?_
    refine go_iconst B (x := (2 : Int32)) d0_43 rfl ?_
    refine go_icmple B d0_44 (fun c44 => ?_) (fun c44 => ?_)
    rotate_left
    · exact absurd c44 (by decide)
    refine go_iload B d0_53 rfl ?_
    refine go_iconst B (x := (3 : Int32)) d0_55 rfl ?_
    refine go_icmple B d0_56 (fun c56 => ?_) (fun c56 => ?_)
    rotate_left
    · exact absurd c56 (by decide)
    refine go_iload B d0_66 rfl ?_
    refine go_iconst B (x := (4 : Int32)) d0_68 rfl ?_
    refine go_icmple B d0_69 (fun c69 => ?_) (fun c69 => ?_)
    rotate_left
    · exact absurd c69 (by decide)
    refine go_aload B d0_79 rfl rfl ?_
    refine go_virtual B (W := 0) (a := a52) (argsL := []) (st := []) d0_81 (w_13 H) (w_14 H) (w_16 H) (w_15 H) (w_3 H) (w_17 H) (by decide) E58 (rmT H a52 b53 [(.int (0 : Int32)), (.int (0 : Int32)), (.int (0 : Int32)), (.int (0 : Int32))] (0 : Int32) 0 h61 (Nat.le_trans (Nat.le_trans Z0 Ea52.1) K55.1) E58 f59 f60 A56 C57 (List.forall_mem_cons.mpr ⟨rfl, (List.forall_mem_cons.mpr ⟨rfl, (List.forall_mem_cons.mpr ⟨rfl, (List.forall_mem_cons.mpr ⟨rfl, (fun _ q => nomatch q)⟩)⟩)⟩)⟩) (show 4 ≤ 8 from by decide) rfl (by decide)) pd_3 rfl rfl rfl rfl (by decide) (by decide) (by decide) (by decide) ?_
    rintro _ h68 ⟨b62, rfl, g63, E64, A65, C66⟩
    have ne_b62_a52 : b62 ≠ a52 := Nat.ne_of_gt (Nat.lt_of_lt_of_le (E58).lt (by omega))
    have ne_b62_b53 : b62 ≠ b53 := Nat.ne_of_gt (Nat.lt_of_lt_of_le (A56).lt (by omega))
    have ge_b62 : n0 ≤ b62 := by have q1 := (Nat.le_trans (Nat.le_trans Z0 Ea52.1) K55.1); omega
    have A67 : AV Z h68 b62 .int [] := A65
    show Go κ _ h68 _ _ 84 #[.val (.int p0), .val (.int p1), .val (.int p2), .val (.int p3), .val (.int p4), .val (.int p5), .val (.int (0 : Int32)), .val (.ref a52), .unset, .unset, .unset] [(.ref b62)]
    refine go_astore B #[.val (.int p0), .val (.int p1), .val (.int p2), .val (.int p3), .val (.int p4), .val (.int p5), .val (.int (0 : Int32)), .val (.ref a52), .val (.ref b62), .unset, .unset] d0_84 rfl rfl ?_
    refine go_aload B d0_86 rfl rfl ?_
    refine go_iload B d0_88 rfl ?_
    refine go_iload_n B d0_90 rfl ?_
    refine go_iload_n B d0_91 rfl ?_
    refine go_iload_n B d0_92 rfl ?_
    refine go_iload B d0_93 rfl ?_
    refine go_iload B d0_95 rfl ?_
    have f69 : n0 ≤ h68.size := (Nat.le_trans (Nat.le_trans (Nat.le_trans Z0 Ea52.1) K55.1) E64.1)
    refine go_static B (W := 0) (argsL := [(.ref b62), (.int (0 : Int32)), (.int p1), (.int p2), (.int p3), (.int p4), (.int p5)]) (st := []) d0_97 (w_32 H) (w_33 H) (w_34 H) (w_35 H) (by decide) (rmH0 H b62 p1 p2 p3 p4 p5 h68 f69 A67) pd_4 rfl rfl rfl rfl (by decide) (by decide) (by decide) (by decide) ?_
    rintro _ h70 ⟨rfl, rfl⟩
    show Go κ _ h68 _ _ 100 #[.val (.int p0), .val (.int p1), .val (.int p2), .val (.int p3), .val (.int p4), .val (.int p5), .val (.int (0 : Int32)), .val (.ref a52), .val (.ref b62), .unset, .unset] [(.int (1 : Int32))]
    refine go_istore B #[.val (.int p0), .val (.int p1), .val (.int p2), .val (.int p3), .val (.int p4), .val (.int p5), .val (.int (0 : Int32)), .val (.ref a52), .val (.ref b62), .val (.int (1 : Int32)), .unset] d0_100 rfl ?_
    refine go_iload B d0_102 rfl ?_
    refine go_ifne B d0_104 (fun c104 => ?_) (fun c104 => ?_)
    rotate_left
    · exact absurd c104 (by decide)
    refine go_iload B d0_109 rfl ?_
    refine go_ifle B d0_111 (fun c111 => ?_) (fun c111 => ?_)
    rotate_left
    · exact absurd c111 (by decide)
    refine go_aload B d0_137 rfl rfl ?_
    refine go_virtual B (W := 0) (a := a52) (argsL := []) (st := []) d0_139 (w_13 H) (w_14 H) (w_16 H) (w_15 H) (w_3 H) (w_17 H) (by decide) (Exa.ext E64 E58) (rmT H a52 b53 [(.int (0 : Int32)), (.int (0 : Int32)), (.int (0 : Int32)), (.int (0 : Int32))] (0 : Int32) 0 h68 f69 (Exa.ext E64 E58) (Fld.ext E64 f59) (Fld.ext E64 f60) (AV.ext A56 E64) (Exa.ext E64 C57) (List.forall_mem_cons.mpr ⟨rfl, (List.forall_mem_cons.mpr ⟨rfl, (List.forall_mem_cons.mpr ⟨rfl, (List.forall_mem_cons.mpr ⟨rfl, (fun _ q => nomatch q)⟩)⟩)⟩)⟩) (show 4 ≤ 8 from by decide) rfl (by decide)) pd_3 rfl rfl rfl rfl (by decide) (by decide) (by decide) (by decide) ?_
    rintro _ h77 ⟨b71, rfl, g72, E73, A74, C75⟩
    have ne_b71_a52 : b71 ≠ a52 := Nat.ne_of_gt (Nat.lt_of_lt_of_le ((Exa.ext E64 E58)).lt (by omega))
    have ne_b71_b53 : b71 ≠ b53 := Nat.ne_of_gt (Nat.lt_of_lt_of_le ((AV.ext A56 E64)).lt (by omega))
    have ne_b71_b62 : b71 ≠ b62 := Nat.ne_of_gt (Nat.lt_of_lt_of_le (A67).lt (by omega))
    have ge_b71 : n0 ≤ b71 := by have q1 := f69; omega
    have A76 : AV Z h77 b71 .int [] := A74
    show Go κ _ h77 _ _ 142 #[.val (.int p0), .val (.int p1), .val (.int p2), .val (.int p3), .val (.int p4), .val (.int p5), .val (.int (0 : Int32)), .val (.ref a52), .val (.ref b62), .val (.int (1 : Int32)), .unset] [(.ref b71)]
    refine go_astore B #[.val (.int p0), .val (.int p1), .val (.int p2), .val (.int p3), .val (.int p4), .val (.int p5), .val (.int (0 : Int32)), .val (.ref a52), .val (.ref b62), .val (.int (1 : Int32)), .val (.ref b71)] d0_142 rfl rfl ?_
    refine go_aload B d0_144 rfl rfl ?_
    refine go_aload B d0_146 rfl rfl ?_
    refine go_acmpne B d0_148 rfl rfl (fun c148 => ?_) (fun c148 => ?_)
    rotate_left
    · exact absurd (Value.ref.inj c148) ne_b71_b62
    refine go_aload B d0_153 rfl rfl ?_
    refine go_iload B d0_155 rfl ?_
    refine go_iload_n B d0_157 rfl ?_
    refine go_iload_n B d0_158 rfl ?_
    refine go_iload_n B d0_159 rfl ?_
    refine go_iload B d0_160 rfl ?_
    refine go_iload B d0_162 rfl ?_
    refine go_static B (W := 0) (argsL := [(.ref b71), (.int (0 : Int32)), (.int p1), (.int p2), (.int p3), (.int p4), (.int p5)]) (st := []) d0_164 (w_32 H) (w_33 H) (w_34 H) (w_35 H) (by decide) (rmH0 H b71 p1 p2 p3 p4 p5 h77 (Nat.le_trans f69 E73.1) A76) pd_4 rfl rfl rfl rfl (by decide) (by decide) (by decide) (by decide) ?_
    rintro _ h78 ⟨rfl, rfl⟩
    show Go κ _ h77 _ _ 167 #[.val (.int p0), .val (.int p1), .val (.int p2), .val (.int p3), .val (.int p4), .val (.int p5), .val (.int (0 : Int32)), .val (.ref a52), .val (.ref b62), .val (.int (1 : Int32)), .val (.ref b71)] [(.int (1 : Int32))]
    refine go_ifne B d0_167 (fun c167 => ?_) (fun c167 => ?_)
    rotate_left
    · exact absurd c167 (by decide)
    refine go_iload B d0_172 rfl ?_
    refine go_ifle B d0_174 (fun c174 => ?_) (fun c174 => ?_)
    rotate_left
    · exact absurd c174 (by decide)
    refine go_iconst B (x := (1 : Int32)) d0_189 rfl ?_
    refine go_zreturn B (y := (1 : Int32)) d0_190 (by decide) (by decide) (by decide) ?_
    exact rfl
  · skip
    refine go_aload B d0_23 rfl rfl ?_
    refine go_iload_n B d0_25 rfl ?_
    refine go_virtual B (W := 0) (a := a52) (argsL := [(.int p1)]) (st := []) d0_26 (w_36 H) (w_37 H) (w_39 H) (w_38 H) (w_3 H) (w_40 H) (by decide) E58 (rmA1 H a52 b53 [(.int (0 : Int32)), (.int (0 : Int32)), (.int (0 : Int32)), (.int (0 : Int32))] (0 : Int32) (1 : Int32) p1 0 h61 (Nat.le_trans (Nat.le_trans Z0 Ea52.1) K55.1) E58 f59 f60 A56 C57 (List.forall_mem_cons.mpr ⟨rfl, (List.forall_mem_cons.mpr ⟨rfl, (List.forall_mem_cons.mpr ⟨rfl, (List.forall_mem_cons.mpr ⟨rfl, (fun _ q => nomatch q)⟩)⟩)⟩)⟩) (show 4 ≤ 8 from by decide) rfl (show 0 < 4 from by decide) (by decide) ge_a52 ge_b53 ne_b53_a52) pd_5 rfl rfl rfl rfl (by decide) (by decide) (by decide) (by decide) ?_
    rintro _ h85 ⟨rfl, K82, E79, f80, f81, A83⟩
    have A84 : AV Z h85 b53 .int [(.int p1), (.int (0 : Int32)), (.int (0 : Int32)), (.int (0 : Int32))] := A83
    show Go κ _ h85 _ _ 29 #[.val (.int p0), .val (.int p1), .val (.int p2), .val (.int p3), .val (.int p4), .val (.int p5), .val (.int k), .val (.ref a52), .unset, .unset, .unset] []
    refine go_iload B d0_29 rfl ?_
    refine go_iconst B (x := (1 : Int32)) d0_31 rfl ?_
    refine go_icmple B d0_32 (fun c32 => ?_) (fun c32 => ?_)
    · skip
      obtain rfl : k = (1 : Int32) := i_eq (i := 1) (by have q1 := i_of_nlt rfl rfl c32; have q2 := i_of_lt rfl rfl c20; have z0 : (0 : Int32).toInt = 0 := rfl; have z1 : (1 : Int32).toInt = 1 := rfl; have z2 : (2 : Int32).toInt = 2 := rfl; have z3 : (3 : Int32).toInt = 3 := rfl; have z4 : (4 : Int32).toInt = 4 := rfl; have z5 : (5 : Int32).toInt = 5 := rfl; omega) rfl
      refine go_iload B d0_41 rfl ?_
      refine go_iconst B (x := (2 : Int32)) d0_43 rfl ?_
      refine go_icmple B d0_44 (fun c44 => ?_) (fun c44 => ?_)
      rotate_left
      · exact absurd c44 (by decide)
      refine go_iload B d0_53 rfl ?_
      refine go_iconst B (x := (3 : Int32)) d0_55 rfl ?_
      refine go_icmple B d0_56 (fun c56 => ?_) (fun c56 => ?_)
      rotate_left
      · exact absurd c56 (by decide)
      refine go_iload B d0_66 rfl ?_
      refine go_iconst B (x := (4 : Int32)) d0_68 rfl ?_
      refine go_icmple B d0_69 (fun c69 => ?_) (fun c69 => ?_)
      rotate_left
      · exact absurd c69 (by decide)
      refine go_aload B d0_79 rfl rfl ?_
      have f86 : n0 ≤ h85.size := (Nat.le_trans (Nat.le_trans (Nat.le_trans Z0 Ea52.1) K55.1) K82.1)
      refine go_virtual B (W := 0) (a := a52) (argsL := []) (st := []) d0_81 (w_13 H) (w_14 H) (w_16 H) (w_15 H) (w_3 H) (w_17 H) (by decide) E79 (rmT H a52 b53 [(.int p1), (.int (0 : Int32)), (.int (0 : Int32)), (.int (0 : Int32))] (1 : Int32) 1 h85 f86 E79 f80 f81 A84 (Exa.keep C57 K82) (List.forall_mem_cons.mpr ⟨rfl, (List.forall_mem_cons.mpr ⟨rfl, (List.forall_mem_cons.mpr ⟨rfl, (List.forall_mem_cons.mpr ⟨rfl, (fun _ q => nomatch q)⟩)⟩)⟩)⟩) (show 4 ≤ 8 from by decide) rfl (by decide)) pd_3 rfl rfl rfl rfl (by decide) (by decide) (by decide) (by decide) ?_
      rintro _ h93 ⟨b87, rfl, g88, E89, A90, C91⟩
      have ne_b87_a52 : b87 ≠ a52 := Nat.ne_of_gt (Nat.lt_of_lt_of_le (E79).lt (by omega))
      have ne_b87_b53 : b87 ≠ b53 := Nat.ne_of_gt (Nat.lt_of_lt_of_le (A84).lt (by omega))
      have ge_b87 : n0 ≤ b87 := by have q1 := f86; omega
      have A92 : AV Z h93 b87 .int [(.int p1)] := A90
      show Go κ _ h93 _ _ 84 #[.val (.int p0), .val (.int p1), .val (.int p2), .val (.int p3), .val (.int p4), .val (.int p5), .val (.int (1 : Int32)), .val (.ref a52), .unset, .unset, .unset] [(.ref b87)]
      refine go_astore B #[.val (.int p0), .val (.int p1), .val (.int p2), .val (.int p3), .val (.int p4), .val (.int p5), .val (.int (1 : Int32)), .val (.ref a52), .val (.ref b87), .unset, .unset] d0_84 rfl rfl ?_
      refine go_aload B d0_86 rfl rfl ?_
      refine go_iload B d0_88 rfl ?_
      refine go_iload_n B d0_90 rfl ?_
      refine go_iload_n B d0_91 rfl ?_
      refine go_iload_n B d0_92 rfl ?_
      refine go_iload B d0_93 rfl ?_
      refine go_iload B d0_95 rfl ?_
      refine go_static B (W := 0) (argsL := [(.ref b87), (.int (1 : Int32)), (.int p1), (.int p2), (.int p3), (.int p4), (.int p5)]) (st := []) d0_97 (w_32 H) (w_33 H) (w_34 H) (w_35 H) (by decide) (rmH1 H b87 p1 p2 p3 p4 p5 h93 (Nat.le_trans f86 E89.1) A92) pd_4 rfl rfl rfl rfl (by decide) (by decide) (by decide) (by decide) ?_
      rintro _ h94 ⟨rfl, rfl⟩
      show Go κ _ h93 _ _ 100 #[.val (.int p0), .val (.int p1), .val (.int p2), .val (.int p3), .val (.int p4), .val (.int p5), .val (.int (1 : Int32)), .val (.ref a52), .val (.ref b87), .unset, .unset] [(.int (1 : Int32))]
      refine go_istore B #[.val (.int p0), .val (.int p1), .val (.int p2), .val (.int p3), .val (.int p4), .val (.int p5), .val (.int (1 : Int32)), .val (.ref a52), .val (.ref b87), .val (.int (1 : Int32)), .unset] d0_100 rfl ?_
      refine go_iload B d0_102 rfl ?_
      refine go_ifne B d0_104 (fun c104 => ?_) (fun c104 => ?_)
      rotate_left
      · exact absurd c104 (by decide)
      refine go_iload B d0_109 rfl ?_
      refine go_ifle B d0_111 (fun c111 => ?_) (fun c111 => ?_)
      · exact absurd c111 (by decide)
      refine go_aload B d0_114 rfl rfl ?_
      refine go_iconst B (x := (0 : Int32)) d0_116 rfl ?_
      refine go_iload_n B d0_117 rfl ?_
      refine go_iconst B (x := (-1 : Int32)) d0_118 rfl ?_
      refine go_ixor B d0_119 ?_
      refine go_iastore B (i := 0) d0_120 A92 rfl (show 0 < 1 from by decide) ge_b87 ?_
      intro h95 W96 A97
      have A98 : AV Z h95 b87 .int [(.int (p1 ^^^ (-1 : Int32)))] := A97
      refine go_aload B d0_121 rfl rfl ?_
      refine go_iload B d0_123 rfl ?_
      refine go_iconst B (x := (1 : Int32)) d0_125 rfl ?_
      refine go_isub B d0_126 ?_
      rw [show ((1 : Int32) - (1 : Int32)) = (0 : Int32) from by decide]
      refine go_aload B d0_127 rfl rfl ?_
      refine go_iload B d0_129 rfl ?_
      refine go_iconst B (x := (1 : Int32)) d0_131 rfl ?_
      refine go_isub B d0_132 ?_
      rw [show ((1 : Int32) - (1 : Int32)) = (0 : Int32) from by decide]
      refine go_iaload B (i := 0) (v := (.int (p1 ^^^ (-1 : Int32)))) d0_133 A98 rfl rfl ?_
      refine go_iconst B (x := (-1 : Int32)) d0_134 rfl ?_
      refine go_ixor B d0_135 ?_
      refine go_iastore B (i := 0) d0_136 A98 rfl (show 0 < 1 from by decide) ge_b87 ?_
      intro h99 W100 A101
      have A102 : AV Z h99 b87 .int [(.int ((p1 ^^^ (-1 : Int32)) ^^^ (-1 : Int32)))] := A101
      refine go_aload B d0_137 rfl rfl ?_
      have f103 : Fld Z h99 a52 "com/example/hone_search/honesearch/IntList" "values" "[I" (.ref b53) := (Fld.other W100 (Fld.other W96 (Fld.ext E89 f80) (Or.inl (Ne.symm ne_b87_a52))) (Or.inl (Ne.symm ne_b87_a52)))
      have f104 : Fld Z h99 a52 "com/example/hone_search/honesearch/IntList" "size" "I" (.int (1 : Int32)) := (Fld.other W100 (Fld.other W96 (Fld.ext E89 f81) (Or.inl (Ne.symm ne_b87_a52))) (Or.inl (Ne.symm ne_b87_a52)))
      have f105 : n0 ≤ h99.size := (Nat.le_trans (Nat.le_trans (Nat.le_trans f86 E89.1) (Nat.le_of_eq (Wr.size W96).symm)) (Nat.le_of_eq (Wr.size W100).symm))
      have f106 : AV Z h99 b53 .int [(.int p1), (.int (0 : Int32)), (.int (0 : Int32)), (.int (0 : Int32))] := (AV.other (AV.other (AV.ext A84 E89) W96 (Ne.symm ne_b87_b53)) W100 (Ne.symm ne_b87_b53))
      refine go_virtual B (W := 0) (a := a52) (argsL := []) (st := []) d0_139 (w_13 H) (w_14 H) (w_16 H) (w_15 H) (w_3 H) (w_17 H) (by decide) (Exa.wr W100 (Exa.wr W96 (Exa.ext E89 E79))) (rmT H a52 b53 [(.int p1), (.int (0 : Int32)), (.int (0 : Int32)), (.int (0 : Int32))] (1 : Int32) 1 h99 f105 (Exa.wr W100 (Exa.wr W96 (Exa.ext E89 E79))) f103 f104 f106 (Exa.wr W100 (Exa.wr W96 (Exa.ext E89 (Exa.keep C57 K82)))) (List.forall_mem_cons.mpr ⟨rfl, (List.forall_mem_cons.mpr ⟨rfl, (List.forall_mem_cons.mpr ⟨rfl, (List.forall_mem_cons.mpr ⟨rfl, (fun _ q => nomatch q)⟩)⟩)⟩)⟩) (show 4 ≤ 8 from by decide) rfl (by decide)) pd_3 rfl rfl rfl rfl (by decide) (by decide) (by decide) (by decide) ?_
      rintro _ h113 ⟨b107, rfl, g108, E109, A110, C111⟩
      have ne_b107_a52 : b107 ≠ a52 := Nat.ne_of_gt (Nat.lt_of_lt_of_le ((Exa.wr W100 (Exa.wr W96 (Exa.ext E89 E79)))).lt (by omega))
      have ne_b107_b53 : b107 ≠ b53 := Nat.ne_of_gt (Nat.lt_of_lt_of_le (f106).lt (by omega))
      have ne_b107_b87 : b107 ≠ b87 := Nat.ne_of_gt (Nat.lt_of_lt_of_le (A102).lt (by omega))
      have ge_b107 : n0 ≤ b107 := by have q1 := f105; omega
      have A112 : AV Z h113 b107 .int [(.int p1)] := A110
      show Go κ _ h113 _ _ 142 #[.val (.int p0), .val (.int p1), .val (.int p2), .val (.int p3), .val (.int p4), .val (.int p5), .val (.int (1 : Int32)), .val (.ref a52), .val (.ref b87), .val (.int (1 : Int32)), .unset] [(.ref b107)]
      refine go_astore B #[.val (.int p0), .val (.int p1), .val (.int p2), .val (.int p3), .val (.int p4), .val (.int p5), .val (.int (1 : Int32)), .val (.ref a52), .val (.ref b87), .val (.int (1 : Int32)), .val (.ref b107)] d0_142 rfl rfl ?_
      refine go_aload B d0_144 rfl rfl ?_
      refine go_aload B d0_146 rfl rfl ?_
      refine go_acmpne B d0_148 rfl rfl (fun c148 => ?_) (fun c148 => ?_)
      rotate_left
      · exact absurd (Value.ref.inj c148) ne_b107_b87
      refine go_aload B d0_153 rfl rfl ?_
      refine go_iload B d0_155 rfl ?_
      refine go_iload_n B d0_157 rfl ?_
      refine go_iload_n B d0_158 rfl ?_
      refine go_iload_n B d0_159 rfl ?_
      refine go_iload B d0_160 rfl ?_
      refine go_iload B d0_162 rfl ?_
      refine go_static B (W := 0) (argsL := [(.ref b107), (.int (1 : Int32)), (.int p1), (.int p2), (.int p3), (.int p4), (.int p5)]) (st := []) d0_164 (w_32 H) (w_33 H) (w_34 H) (w_35 H) (by decide) (rmH1 H b107 p1 p2 p3 p4 p5 h113 (Nat.le_trans f105 E109.1) A112) pd_4 rfl rfl rfl rfl (by decide) (by decide) (by decide) (by decide) ?_
      rintro _ h114 ⟨rfl, rfl⟩
      show Go κ _ h113 _ _ 167 #[.val (.int p0), .val (.int p1), .val (.int p2), .val (.int p3), .val (.int p4), .val (.int p5), .val (.int (1 : Int32)), .val (.ref a52), .val (.ref b87), .val (.int (1 : Int32)), .val (.ref b107)] [(.int (1 : Int32))]
      refine go_ifne B d0_167 (fun c167 => ?_) (fun c167 => ?_)
      rotate_left
      · exact absurd c167 (by decide)
      refine go_iload B d0_172 rfl ?_
      refine go_ifle B d0_174 (fun c174 => ?_) (fun c174 => ?_)
      · exact absurd c174 (by decide)
      refine go_aload B d0_177 rfl rfl ?_
      refine go_iconst B (x := (0 : Int32)) d0_179 rfl ?_
      have f115 : Exa Z h113 b53 "[I" := (Exa.ext E109 (Exa.wr W100 (Exa.wr W96 (Exa.ext E89 (Exa.keep C57 K82)))))
      refine go_virtual B (W := 0) (a := a52) (argsL := [(.int (0 : Int32))]) (st := []) d0_180 (w_50 H) (w_51 H) (w_53 H) (w_52 H) (w_3 H) (w_54 H) (by decide) (Exa.ext E109 (Exa.wr W100 (Exa.wr W96 (Exa.ext E89 E79)))) (rmG H a52 b53 [(.int p1), (.int (0 : Int32)), (.int (0 : Int32)), (.int (0 : Int32))] (1 : Int32) (0 : Int32) p1 0 h113 (Nat.le_trans f105 E109.1) (Exa.ext E109 (Exa.wr W100 (Exa.wr W96 (Exa.ext E89 E79)))) (Fld.ext E109 f103) (Fld.ext E109 f104) (AV.ext f106 E109) f115 (List.forall_mem_cons.mpr ⟨rfl, (List.forall_mem_cons.mpr ⟨rfl, (List.forall_mem_cons.mpr ⟨rfl, (List.forall_mem_cons.mpr ⟨rfl, (fun _ q => nomatch q)⟩)⟩)⟩)⟩) (show 4 ≤ 8 from by decide) rfl rfl) pd_6 rfl rfl rfl rfl (by decide) (by decide) (by decide) (by decide) ?_
      rintro _ h116 ⟨rfl, rfl⟩
      show Go κ _ h113 _ _ 183 #[.val (.int p0), .val (.int p1), .val (.int p2), .val (.int p3), .val (.int p4), .val (.int p5), .val (.int (1 : Int32)), .val (.ref a52), .val (.ref b87), .val (.int (1 : Int32)), .val (.ref b107)] [(.int p1)]
      refine go_iload_n B d0_183 rfl ?_
      refine go_icmpeq B d0_184 (fun c184 => ?_) (fun c184 => ?_)
      rotate_left
      · exact absurd rfl c184
      refine go_iconst B (x := (1 : Int32)) d0_189 rfl ?_
      refine go_zreturn B (y := (1 : Int32)) d0_190 (by decide) (by decide) (by decide) ?_
      exact rfl
    · skip
      refine go_aload B d0_35 rfl rfl ?_
      refine go_iload_n B d0_37 rfl ?_
      have f117 : n0 ≤ h85.size := (Nat.le_trans (Nat.le_trans (Nat.le_trans Z0 Ea52.1) K55.1) K82.1)
      refine go_virtual B (W := 0) (a := a52) (argsL := [(.int p2)]) (st := []) d0_38 (w_36 H) (w_37 H) (w_39 H) (w_38 H) (w_3 H) (w_40 H) (by decide) E79 (rmA1 H a52 b53 [(.int p1), (.int (0 : Int32)), (.int (0 : Int32)), (.int (0 : Int32))] (1 : Int32) (2 : Int32) p2 1 h85 f117 E79 f80 f81 A84 (Exa.keep C57 K82) (List.forall_mem_cons.mpr ⟨rfl, (List.forall_mem_cons.mpr ⟨rfl, (List.forall_mem_cons.mpr ⟨rfl, (List.forall_mem_cons.mpr ⟨rfl, (fun _ q => nomatch q)⟩)⟩)⟩)⟩) (show 4 ≤ 8 from by decide) rfl (show 1 < 4 from by decide) (by decide) ge_a52 ge_b53 ne_b53_a52) pd_5 rfl rfl rfl rfl (by decide) (by decide) (by decide) (by decide) ?_
      rintro _ h124 ⟨rfl, K121, E118, f119, f120, A122⟩
      have A123 : AV Z h124 b53 .int [(.int p1), (.int p2), (.int (0 : Int32)), (.int (0 : Int32))] := A122
      show Go κ _ h124 _ _ 41 #[.val (.int p0), .val (.int p1), .val (.int p2), .val (.int p3), .val (.int p4), .val (.int p5), .val (.int k), .val (.ref a52), .unset, .unset, .unset] []
      refine go_iload B d0_41 rfl ?_
      refine go_iconst B (x := (2 : Int32)) d0_43 rfl ?_
      refine go_icmple B d0_44 (fun c44 => ?_) (fun c44 => ?_)
      · skip
        obtain rfl : k = (2 : Int32) := i_eq (i := 2) (by have q1 := i_of_nlt rfl rfl c44; have q2 := i_of_lt rfl rfl c32; have z0 : (0 : Int32).toInt = 0 := rfl; have z1 : (1 : Int32).toInt = 1 := rfl; have z2 : (2 : Int32).toInt = 2 := rfl; have z3 : (3 : Int32).toInt = 3 := rfl; have z4 : (4 : Int32).toInt = 4 := rfl; have z5 : (5 : Int32).toInt = 5 := rfl; omega) rfl
        refine go_iload B d0_53 rfl ?_
        refine go_iconst B (x := (3 : Int32)) d0_55 rfl ?_
        refine go_icmple B d0_56 (fun c56 => ?_) (fun c56 => ?_)
        rotate_left
        · exact absurd c56 (by decide)
        refine go_iload B d0_66 rfl ?_
        refine go_iconst B (x := (4 : Int32)) d0_68 rfl ?_
        refine go_icmple B d0_69 (fun c69 => ?_) (fun c69 => ?_)
        rotate_left
        · exact absurd c69 (by decide)
        refine go_aload B d0_79 rfl rfl ?_
        refine go_virtual B (W := 0) (a := a52) (argsL := []) (st := []) d0_81 (w_13 H) (w_14 H) (w_16 H) (w_15 H) (w_3 H) (w_17 H) (by decide) E118 (rmT H a52 b53 [(.int p1), (.int p2), (.int (0 : Int32)), (.int (0 : Int32))] (2 : Int32) 2 h124 (Nat.le_trans f117 K121.1) E118 f119 f120 A123 (Exa.keep (Exa.keep C57 K82) K121) (List.forall_mem_cons.mpr ⟨rfl, (List.forall_mem_cons.mpr ⟨rfl, (List.forall_mem_cons.mpr ⟨rfl, (List.forall_mem_cons.mpr ⟨rfl, (fun _ q => nomatch q)⟩)⟩)⟩)⟩) (show 4 ≤ 8 from by decide) rfl (by decide)) pd_3 rfl rfl rfl rfl (by decide) (by decide) (by decide) (by decide) ?_
        rintro _ h131 ⟨b125, rfl, g126, E127, A128, C129⟩
        have ne_b125_a52 : b125 ≠ a52 := Nat.ne_of_gt (Nat.lt_of_lt_of_le (E118).lt (by omega))
        have ne_b125_b53 : b125 ≠ b53 := Nat.ne_of_gt (Nat.lt_of_lt_of_le (A123).lt (by omega))
        have ge_b125 : n0 ≤ b125 := by have q1 := (Nat.le_trans f117 K121.1); omega
        have A130 : AV Z h131 b125 .int [(.int p1), (.int p2)] := A128
        show Go κ _ h131 _ _ 84 #[.val (.int p0), .val (.int p1), .val (.int p2), .val (.int p3), .val (.int p4), .val (.int p5), .val (.int (2 : Int32)), .val (.ref a52), .unset, .unset, .unset] [(.ref b125)]
        refine go_astore B #[.val (.int p0), .val (.int p1), .val (.int p2), .val (.int p3), .val (.int p4), .val (.int p5), .val (.int (2 : Int32)), .val (.ref a52), .val (.ref b125), .unset, .unset] d0_84 rfl rfl ?_
        refine go_aload B d0_86 rfl rfl ?_
        refine go_iload B d0_88 rfl ?_
        refine go_iload_n B d0_90 rfl ?_
        refine go_iload_n B d0_91 rfl ?_
        refine go_iload_n B d0_92 rfl ?_
        refine go_iload B d0_93 rfl ?_
        refine go_iload B d0_95 rfl ?_
        refine go_static B (W := 0) (argsL := [(.ref b125), (.int (2 : Int32)), (.int p1), (.int p2), (.int p3), (.int p4), (.int p5)]) (st := []) d0_97 (w_32 H) (w_33 H) (w_34 H) (w_35 H) (by decide) (rmH2 H b125 p1 p2 p3 p4 p5 h131 (Nat.le_trans (Nat.le_trans f117 K121.1) E127.1) A130) pd_4 rfl rfl rfl rfl (by decide) (by decide) (by decide) (by decide) ?_
        rintro _ h132 ⟨rfl, rfl⟩
        show Go κ _ h131 _ _ 100 #[.val (.int p0), .val (.int p1), .val (.int p2), .val (.int p3), .val (.int p4), .val (.int p5), .val (.int (2 : Int32)), .val (.ref a52), .val (.ref b125), .unset, .unset] [(.int (1 : Int32))]
        refine go_istore B #[.val (.int p0), .val (.int p1), .val (.int p2), .val (.int p3), .val (.int p4), .val (.int p5), .val (.int (2 : Int32)), .val (.ref a52), .val (.ref b125), .val (.int (1 : Int32)), .unset] d0_100 rfl ?_
        refine go_iload B d0_102 rfl ?_
        refine go_ifne B d0_104 (fun c104 => ?_) (fun c104 => ?_)
        rotate_left
        · exact absurd c104 (by decide)
        refine go_iload B d0_109 rfl ?_
        refine go_ifle B d0_111 (fun c111 => ?_) (fun c111 => ?_)
        · exact absurd c111 (by decide)
        refine go_aload B d0_114 rfl rfl ?_
        refine go_iconst B (x := (0 : Int32)) d0_116 rfl ?_
        refine go_iload_n B d0_117 rfl ?_
        refine go_iconst B (x := (-1 : Int32)) d0_118 rfl ?_
        refine go_ixor B d0_119 ?_
        refine go_iastore B (i := 0) d0_120 A130 rfl (show 0 < 2 from by decide) ge_b125 ?_
        intro h133 W134 A135
        have A136 : AV Z h133 b125 .int [(.int (p1 ^^^ (-1 : Int32))), (.int p2)] := A135
        refine go_aload B d0_121 rfl rfl ?_
        refine go_iload B d0_123 rfl ?_
        refine go_iconst B (x := (1 : Int32)) d0_125 rfl ?_
        refine go_isub B d0_126 ?_
        rw [show ((2 : Int32) - (1 : Int32)) = (1 : Int32) from by decide]
        refine go_aload B d0_127 rfl rfl ?_
        refine go_iload B d0_129 rfl ?_
        refine go_iconst B (x := (1 : Int32)) d0_131 rfl ?_
        refine go_isub B d0_132 ?_
        rw [show ((2 : Int32) - (1 : Int32)) = (1 : Int32) from by decide]
        refine go_iaload B (i := 1) (v := (.int p2)) d0_133 A136 rfl rfl ?_
        refine go_iconst B (x := (-1 : Int32)) d0_134 rfl ?_
        refine go_ixor B d0_135 ?_
        refine go_iastore B (i := 1) d0_136 A136 rfl (show 1 < 2 from by decide) ge_b125 ?_
        intro h137 W138 A139
        have A140 : AV Z h137 b125 .int [(.int (p1 ^^^ (-1 : Int32))), (.int (p2 ^^^ (-1 : Int32)))] := A139
        refine go_aload B d0_137 rfl rfl ?_
        have f141 : Fld Z h137 a52 "com/example/hone_search/honesearch/IntList" "values" "[I" (.ref b53) := (Fld.other W138 (Fld.other W134 (Fld.ext E127 f119) (Or.inl (Ne.symm ne_b125_a52))) (Or.inl (Ne.symm ne_b125_a52)))
        have f142 : Fld Z h137 a52 "com/example/hone_search/honesearch/IntList" "size" "I" (.int (2 : Int32)) := (Fld.other W138 (Fld.other W134 (Fld.ext E127 f120) (Or.inl (Ne.symm ne_b125_a52))) (Or.inl (Ne.symm ne_b125_a52)))
        have f143 : n0 ≤ h137.size := (Nat.le_trans (Nat.le_trans (Nat.le_trans (Nat.le_trans f117 K121.1) E127.1) (Nat.le_of_eq (Wr.size W134).symm)) (Nat.le_of_eq (Wr.size W138).symm))
        have f144 : AV Z h137 b53 .int [(.int p1), (.int p2), (.int (0 : Int32)), (.int (0 : Int32))] := (AV.other (AV.other (AV.ext A123 E127) W134 (Ne.symm ne_b125_b53)) W138 (Ne.symm ne_b125_b53))
        have f145 : Exa Z h137 b53 "[I" := (Exa.wr W138 (Exa.wr W134 (Exa.ext E127 (Exa.keep (Exa.keep C57 K82) K121))))
        refine go_virtual B (W := 0) (a := a52) (argsL := []) (st := []) d0_139 (w_13 H) (w_14 H) (w_16 H) (w_15 H) (w_3 H) (w_17 H) (by decide) (Exa.wr W138 (Exa.wr W134 (Exa.ext E127 E118))) (rmT H a52 b53 [(.int p1), (.int p2), (.int (0 : Int32)), (.int (0 : Int32))] (2 : Int32) 2 h137 f143 (Exa.wr W138 (Exa.wr W134 (Exa.ext E127 E118))) f141 f142 f144 f145 (List.forall_mem_cons.mpr ⟨rfl, (List.forall_mem_cons.mpr ⟨rfl, (List.forall_mem_cons.mpr ⟨rfl, (List.forall_mem_cons.mpr ⟨rfl, (fun _ q => nomatch q)⟩)⟩)⟩)⟩) (show 4 ≤ 8 from by decide) rfl (by decide)) pd_3 rfl rfl rfl rfl (by decide) (by decide) (by decide) (by decide) ?_
        rintro _ h152 ⟨b146, rfl, g147, E148, A149, C150⟩
        have ne_b146_a52 : b146 ≠ a52 := Nat.ne_of_gt (Nat.lt_of_lt_of_le ((Exa.wr W138 (Exa.wr W134 (Exa.ext E127 E118)))).lt (by omega))
        have ne_b146_b53 : b146 ≠ b53 := Nat.ne_of_gt (Nat.lt_of_lt_of_le (f144).lt (by omega))
        have ne_b146_b125 : b146 ≠ b125 := Nat.ne_of_gt (Nat.lt_of_lt_of_le (A140).lt (by omega))
        have ge_b146 : n0 ≤ b146 := by have q1 := f143; omega
        have A151 : AV Z h152 b146 .int [(.int p1), (.int p2)] := A149
        show Go κ _ h152 _ _ 142 #[.val (.int p0), .val (.int p1), .val (.int p2), .val (.int p3), .val (.int p4), .val (.int p5), .val (.int (2 : Int32)), .val (.ref a52), .val (.ref b125), .val (.int (1 : Int32)), .unset] [(.ref b146)]
        refine go_astore B #[.val (.int p0), .val (.int p1), .val (.int p2), .val (.int p3), .val (.int p4), .val (.int p5), .val (.int (2 : Int32)), .val (.ref a52), .val (.ref b125), .val (.int (1 : Int32)), .val (.ref b146)] d0_142 rfl rfl ?_
        refine go_aload B d0_144 rfl rfl ?_
        refine go_aload B d0_146 rfl rfl ?_
        refine go_acmpne B d0_148 rfl rfl (fun c148 => ?_) (fun c148 => ?_)
        rotate_left
        · exact absurd (Value.ref.inj c148) ne_b146_b125
        refine go_aload B d0_153 rfl rfl ?_
        refine go_iload B d0_155 rfl ?_
        refine go_iload_n B d0_157 rfl ?_
        refine go_iload_n B d0_158 rfl ?_
        refine go_iload_n B d0_159 rfl ?_
        refine go_iload B d0_160 rfl ?_
        refine go_iload B d0_162 rfl ?_
        refine go_static B (W := 0) (argsL := [(.ref b146), (.int (2 : Int32)), (.int p1), (.int p2), (.int p3), (.int p4), (.int p5)]) (st := []) d0_164 (w_32 H) (w_33 H) (w_34 H) (w_35 H) (by decide) (rmH2 H b146 p1 p2 p3 p4 p5 h152 (Nat.le_trans f143 E148.1) A151) pd_4 rfl rfl rfl rfl (by decide) (by decide) (by decide) (by decide) ?_
        rintro _ h153 ⟨rfl, rfl⟩
        show Go κ _ h152 _ _ 167 #[.val (.int p0), .val (.int p1), .val (.int p2), .val (.int p3), .val (.int p4), .val (.int p5), .val (.int (2 : Int32)), .val (.ref a52), .val (.ref b125), .val (.int (1 : Int32)), .val (.ref b146)] [(.int (1 : Int32))]
        refine go_ifne B d0_167 (fun c167 => ?_) (fun c167 => ?_)
        rotate_left
        · exact absurd c167 (by decide)
        refine go_iload B d0_172 rfl ?_
        refine go_ifle B d0_174 (fun c174 => ?_) (fun c174 => ?_)
        · exact absurd c174 (by decide)
        refine go_aload B d0_177 rfl rfl ?_
        refine go_iconst B (x := (0 : Int32)) d0_179 rfl ?_
        have f154 : Exa Z h152 a52 "com/example/hone_search/honesearch/IntList" := (Exa.ext E148 (Exa.wr W138 (Exa.wr W134 (Exa.ext E127 E118))))
        refine go_virtual B (W := 0) (a := a52) (argsL := [(.int (0 : Int32))]) (st := []) d0_180 (w_50 H) (w_51 H) (w_53 H) (w_52 H) (w_3 H) (w_54 H) (by decide) f154 (rmG H a52 b53 [(.int p1), (.int p2), (.int (0 : Int32)), (.int (0 : Int32))] (2 : Int32) (0 : Int32) p1 0 h152 (Nat.le_trans f143 E148.1) f154 (Fld.ext E148 f141) (Fld.ext E148 f142) (AV.ext f144 E148) (Exa.ext E148 f145) (List.forall_mem_cons.mpr ⟨rfl, (List.forall_mem_cons.mpr ⟨rfl, (List.forall_mem_cons.mpr ⟨rfl, (List.forall_mem_cons.mpr ⟨rfl, (fun _ q => nomatch q)⟩)⟩)⟩)⟩) (show 4 ≤ 8 from by decide) rfl rfl) pd_6 rfl rfl rfl rfl (by decide) (by decide) (by decide) (by decide) ?_
        rintro _ h155 ⟨rfl, rfl⟩
        show Go κ _ h152 _ _ 183 #[.val (.int p0), .val (.int p1), .val (.int p2), .val (.int p3), .val (.int p4), .val (.int p5), .val (.int (2 : Int32)), .val (.ref a52), .val (.ref b125), .val (.int (1 : Int32)), .val (.ref b146)] [(.int p1)]
        refine go_iload_n B d0_183 rfl ?_
        refine go_icmpeq B d0_184 (fun c184 => ?_) (fun c184 => ?_)
        rotate_left
        · exact absurd rfl c184
        refine go_iconst B (x := (1 : Int32)) d0_189 rfl ?_
        refine go_zreturn B (y := (1 : Int32)) d0_190 (by decide) (by decide) (by decide) ?_
        exact rfl
      · skip
        refine go_aload B d0_47 rfl rfl ?_
        refine go_iload_n B d0_49 rfl ?_
        refine go_virtual B (W := 0) (a := a52) (argsL := [(.int p3)]) (st := []) d0_50 (w_36 H) (w_37 H) (w_39 H) (w_38 H) (w_3 H) (w_40 H) (by decide) E118 (rmA1 H a52 b53 [(.int p1), (.int p2), (.int (0 : Int32)), (.int (0 : Int32))] (2 : Int32) (3 : Int32) p3 2 h124 (Nat.le_trans f117 K121.1) E118 f119 f120 A123 (Exa.keep (Exa.keep C57 K82) K121) (List.forall_mem_cons.mpr ⟨rfl, (List.forall_mem_cons.mpr ⟨rfl, (List.forall_mem_cons.mpr ⟨rfl, (List.forall_mem_cons.mpr ⟨rfl, (fun _ q => nomatch q)⟩)⟩)⟩)⟩) (show 4 ≤ 8 from by decide) rfl (show 2 < 4 from by decide) (by decide) ge_a52 ge_b53 ne_b53_a52) pd_5 rfl rfl rfl rfl (by decide) (by decide) (by decide) (by decide) ?_
        rintro _ h162 ⟨rfl, K159, E156, f157, f158, A160⟩
        have A161 : AV Z h162 b53 .int [(.int p1), (.int p2), (.int p3), (.int (0 : Int32))] := A160
        show Go κ _ h162 _ _ 53 #[.val (.int p0), .val (.int p1), .val (.int p2), .val (.int p3), .val (.int p4), .val (.int p5), .val (.int k), .val (.ref a52), .unset, .unset, .unset] []
        refine go_iload B d0_53 rfl ?_
        refine go_iconst B (x := (3 : Int32)) d0_55 rfl ?_
        refine go_icmple B d0_56 (fun c56 => ?_) (fun c56 => ?_)
        · skip
          obtain rfl : k = (3 : Int32) := i_eq (i := 3) (by have q1 := i_of_nlt rfl rfl c56; have q2 := i_of_lt rfl rfl c44; have z0 : (0 : Int32).toInt = 0 := rfl; have z1 : (1 : Int32).toInt = 1 := rfl; have z2 : (2 : Int32).toInt = 2 := rfl; have z3 : (3 : Int32).toInt = 3 := rfl; have z4 : (4 : Int32).toInt = 4 := rfl; have z5 : (5 : Int32).toInt = 5 := rfl; omega) rfl
          refine go_iload B d0_66 rfl ?_
          refine go_iconst B (x := (4 : Int32)) d0_68 rfl ?_
          refine go_icmple B d0_69 (fun c69 => ?_) (fun c69 => ?_)
          rotate_left
          · exact absurd c69 (by decide)
          refine go_aload B d0_79 rfl rfl ?_
          refine go_virtual B (W := 0) (a := a52) (argsL := []) (st := []) d0_81 (w_13 H) (w_14 H) (w_16 H) (w_15 H) (w_3 H) (w_17 H) (by decide) E156 (rmT H a52 b53 [(.int p1), (.int p2), (.int p3), (.int (0 : Int32))] (3 : Int32) 3 h162 (Nat.le_trans (Nat.le_trans f117 K121.1) K159.1) E156 f157 f158 A161 (Exa.keep (Exa.keep (Exa.keep C57 K82) K121) K159) (List.forall_mem_cons.mpr ⟨rfl, (List.forall_mem_cons.mpr ⟨rfl, (List.forall_mem_cons.mpr ⟨rfl, (List.forall_mem_cons.mpr ⟨rfl, (fun _ q => nomatch q)⟩)⟩)⟩)⟩) (show 4 ≤ 8 from by decide) rfl (by decide)) pd_3 rfl rfl rfl rfl (by decide) (by decide) (by decide) (by decide) ?_
          rintro _ h169 ⟨b163, rfl, g164, E165, A166, C167⟩
          have ne_b163_a52 : b163 ≠ a52 := Nat.ne_of_gt (Nat.lt_of_lt_of_le (E156).lt (by omega))
          have ne_b163_b53 : b163 ≠ b53 := Nat.ne_of_gt (Nat.lt_of_lt_of_le (A161).lt (by omega))
          have ge_b163 : n0 ≤ b163 := by have q1 := (Nat.le_trans (Nat.le_trans f117 K121.1) K159.1); omega
          have A168 : AV Z h169 b163 .int [(.int p1), (.int p2), (.int p3)] := A166
          show Go κ _ h169 _ _ 84 #[.val (.int p0), .val (.int p1), .val (.int p2), .val (.int p3), .val (.int p4), .val (.int p5), .val (.int (3 : Int32)), .val (.ref a52), .unset, .unset, .unset] [(.ref b163)]
          refine go_astore B #[.val (.int p0), .val (.int p1), .val (.int p2), .val (.int p3), .val (.int p4), .val (.int p5), .val (.int (3 : Int32)), .val (.ref a52), .val (.ref b163), .unset, .unset] d0_84 rfl rfl ?_
          refine go_aload B d0_86 rfl rfl ?_
          refine go_iload B d0_88 rfl ?_
          refine go_iload_n B d0_90 rfl ?_
          refine go_iload_n B d0_91 rfl ?_
          refine go_iload_n B d0_92 rfl ?_
          refine go_iload B d0_93 rfl ?_
          refine go_iload B d0_95 rfl ?_
          have f170 : n0 ≤ h169.size := (Nat.le_trans (Nat.le_trans (Nat.le_trans f117 K121.1) K159.1) E165.1)
          refine go_static B (W := 0) (argsL := [(.ref b163), (.int (3 : Int32)), (.int p1), (.int p2), (.int p3), (.int p4), (.int p5)]) (st := []) d0_97 (w_32 H) (w_33 H) (w_34 H) (w_35 H) (by decide) (rmH3 H b163 p1 p2 p3 p4 p5 h169 f170 A168) pd_4 rfl rfl rfl rfl (by decide) (by decide) (by decide) (by decide) ?_
          rintro _ h171 ⟨rfl, rfl⟩
          show Go κ _ h169 _ _ 100 #[.val (.int p0), .val (.int p1), .val (.int p2), .val (.int p3), .val (.int p4), .val (.int p5), .val (.int (3 : Int32)), .val (.ref a52), .val (.ref b163), .unset, .unset] [(.int (1 : Int32))]
          refine go_istore B #[.val (.int p0), .val (.int p1), .val (.int p2), .val (.int p3), .val (.int p4), .val (.int p5), .val (.int (3 : Int32)), .val (.ref a52), .val (.ref b163), .val (.int (1 : Int32)), .unset] d0_100 rfl ?_
          refine go_iload B d0_102 rfl ?_
          refine go_ifne B d0_104 (fun c104 => ?_) (fun c104 => ?_)
          rotate_left
          · exact absurd c104 (by decide)
          refine go_iload B d0_109 rfl ?_
          refine go_ifle B d0_111 (fun c111 => ?_) (fun c111 => ?_)
          · exact absurd c111 (by decide)
          refine go_aload B d0_114 rfl rfl ?_
          refine go_iconst B (x := (0 : Int32)) d0_116 rfl ?_
          refine go_iload_n B d0_117 rfl ?_
          refine go_iconst B (x := (-1 : Int32)) d0_118 rfl ?_
          refine go_ixor B d0_119 ?_
          refine go_iastore B (i := 0) d0_120 A168 rfl (show 0 < 3 from by decide) ge_b163 ?_
          intro h172 W173 A174
          have A175 : AV Z h172 b163 .int [(.int (p1 ^^^ (-1 : Int32))), (.int p2), (.int p3)] := A174
          refine go_aload B d0_121 rfl rfl ?_
          refine go_iload B d0_123 rfl ?_
          refine go_iconst B (x := (1 : Int32)) d0_125 rfl ?_
          refine go_isub B d0_126 ?_
          rw [show ((3 : Int32) - (1 : Int32)) = (2 : Int32) from by decide]
          refine go_aload B d0_127 rfl rfl ?_
          refine go_iload B d0_129 rfl ?_
          refine go_iconst B (x := (1 : Int32)) d0_131 rfl ?_
          refine go_isub B d0_132 ?_
          rw [show ((3 : Int32) - (1 : Int32)) = (2 : Int32) from by decide]
          refine go_iaload B (i := 2) (v := (.int p3)) d0_133 A175 rfl rfl ?_
          refine go_iconst B (x := (-1 : Int32)) d0_134 rfl ?_
          refine go_ixor B d0_135 ?_
          refine go_iastore B (i := 2) d0_136 A175 rfl (show 2 < 3 from by decide) ge_b163 ?_
          intro h176 W177 A178
          have A179 : AV Z h176 b163 .int [(.int (p1 ^^^ (-1 : Int32))), (.int p2), (.int (p3 ^^^ (-1 : Int32)))] := A178
          refine go_aload B d0_137 rfl rfl ?_
          have f180 : Fld Z h176 a52 "com/example/hone_search/honesearch/IntList" "values" "[I" (.ref b53) := (Fld.other W177 (Fld.other W173 (Fld.ext E165 f157) (Or.inl (Ne.symm ne_b163_a52))) (Or.inl (Ne.symm ne_b163_a52)))
          have f181 : Fld Z h176 a52 "com/example/hone_search/honesearch/IntList" "size" "I" (.int (3 : Int32)) := (Fld.other W177 (Fld.other W173 (Fld.ext E165 f158) (Or.inl (Ne.symm ne_b163_a52))) (Or.inl (Ne.symm ne_b163_a52)))
          have f182 : n0 ≤ h176.size := (Nat.le_trans (Nat.le_trans f170 (Nat.le_of_eq (Wr.size W173).symm)) (Nat.le_of_eq (Wr.size W177).symm))
          have f183 : AV Z h176 b53 .int [(.int p1), (.int p2), (.int p3), (.int (0 : Int32))] := (AV.other (AV.other (AV.ext A161 E165) W173 (Ne.symm ne_b163_b53)) W177 (Ne.symm ne_b163_b53))
          have f184 : Exa Z h176 b53 "[I" := (Exa.wr W177 (Exa.wr W173 (Exa.ext E165 (Exa.keep (Exa.keep (Exa.keep C57 K82) K121) K159))))
          refine go_virtual B (W := 0) (a := a52) (argsL := []) (st := []) d0_139 (w_13 H) (w_14 H) (w_16 H) (w_15 H) (w_3 H) (w_17 H) (by decide) (Exa.wr W177 (Exa.wr W173 (Exa.ext E165 E156))) (rmT H a52 b53 [(.int p1), (.int p2), (.int p3), (.int (0 : Int32))] (3 : Int32) 3 h176 f182 (Exa.wr W177 (Exa.wr W173 (Exa.ext E165 E156))) f180 f181 f183 f184 (List.forall_mem_cons.mpr ⟨rfl, (List.forall_mem_cons.mpr ⟨rfl, (List.forall_mem_cons.mpr ⟨rfl, (List.forall_mem_cons.mpr ⟨rfl, (fun _ q => nomatch q)⟩)⟩)⟩)⟩) (show 4 ≤ 8 from by decide) rfl (by decide)) pd_3 rfl rfl rfl rfl (by decide) (by decide) (by decide) (by decide) ?_
          rintro _ h191 ⟨b185, rfl, g186, E187, A188, C189⟩
          have ne_b185_a52 : b185 ≠ a52 := Nat.ne_of_gt (Nat.lt_of_lt_of_le ((Exa.wr W177 (Exa.wr W173 (Exa.ext E165 E156)))).lt (by omega))
          have ne_b185_b53 : b185 ≠ b53 := Nat.ne_of_gt (Nat.lt_of_lt_of_le (f183).lt (by omega))
          have ne_b185_b163 : b185 ≠ b163 := Nat.ne_of_gt (Nat.lt_of_lt_of_le (A179).lt (by omega))
          have ge_b185 : n0 ≤ b185 := by have q1 := f182; omega
          have A190 : AV Z h191 b185 .int [(.int p1), (.int p2), (.int p3)] := A188
          show Go κ _ h191 _ _ 142 #[.val (.int p0), .val (.int p1), .val (.int p2), .val (.int p3), .val (.int p4), .val (.int p5), .val (.int (3 : Int32)), .val (.ref a52), .val (.ref b163), .val (.int (1 : Int32)), .unset] [(.ref b185)]
          refine go_astore B #[.val (.int p0), .val (.int p1), .val (.int p2), .val (.int p3), .val (.int p4), .val (.int p5), .val (.int (3 : Int32)), .val (.ref a52), .val (.ref b163), .val (.int (1 : Int32)), .val (.ref b185)] d0_142 rfl rfl ?_
          refine go_aload B d0_144 rfl rfl ?_
          refine go_aload B d0_146 rfl rfl ?_
          refine go_acmpne B d0_148 rfl rfl (fun c148 => ?_) (fun c148 => ?_)
          rotate_left
          · exact absurd (Value.ref.inj c148) ne_b185_b163
          refine go_aload B d0_153 rfl rfl ?_
          refine go_iload B d0_155 rfl ?_
          refine go_iload_n B d0_157 rfl ?_
          refine go_iload_n B d0_158 rfl ?_
          refine go_iload_n B d0_159 rfl ?_
          refine go_iload B d0_160 rfl ?_
          refine go_iload B d0_162 rfl ?_
          refine go_static B (W := 0) (argsL := [(.ref b185), (.int (3 : Int32)), (.int p1), (.int p2), (.int p3), (.int p4), (.int p5)]) (st := []) d0_164 (w_32 H) (w_33 H) (w_34 H) (w_35 H) (by decide) (rmH3 H b185 p1 p2 p3 p4 p5 h191 (Nat.le_trans f182 E187.1) A190) pd_4 rfl rfl rfl rfl (by decide) (by decide) (by decide) (by decide) ?_
          rintro _ h192 ⟨rfl, rfl⟩
          show Go κ _ h191 _ _ 167 #[.val (.int p0), .val (.int p1), .val (.int p2), .val (.int p3), .val (.int p4), .val (.int p5), .val (.int (3 : Int32)), .val (.ref a52), .val (.ref b163), .val (.int (1 : Int32)), .val (.ref b185)] [(.int (1 : Int32))]
          refine go_ifne B d0_167 (fun c167 => ?_) (fun c167 => ?_)
          rotate_left
          · exact absurd c167 (by decide)
          refine go_iload B d0_172 rfl ?_
          refine go_ifle B d0_174 (fun c174 => ?_) (fun c174 => ?_)
          · exact absurd c174 (by decide)
          refine go_aload B d0_177 rfl rfl ?_
          refine go_iconst B (x := (0 : Int32)) d0_179 rfl ?_
          have f193 : Exa Z h191 a52 "com/example/hone_search/honesearch/IntList" := (Exa.ext E187 (Exa.wr W177 (Exa.wr W173 (Exa.ext E165 E156))))
          refine go_virtual B (W := 0) (a := a52) (argsL := [(.int (0 : Int32))]) (st := []) d0_180 (w_50 H) (w_51 H) (w_53 H) (w_52 H) (w_3 H) (w_54 H) (by decide) f193 (rmG H a52 b53 [(.int p1), (.int p2), (.int p3), (.int (0 : Int32))] (3 : Int32) (0 : Int32) p1 0 h191 (Nat.le_trans f182 E187.1) f193 (Fld.ext E187 f180) (Fld.ext E187 f181) (AV.ext f183 E187) (Exa.ext E187 f184) (List.forall_mem_cons.mpr ⟨rfl, (List.forall_mem_cons.mpr ⟨rfl, (List.forall_mem_cons.mpr ⟨rfl, (List.forall_mem_cons.mpr ⟨rfl, (fun _ q => nomatch q)⟩)⟩)⟩)⟩) (show 4 ≤ 8 from by decide) rfl rfl) pd_6 rfl rfl rfl rfl (by decide) (by decide) (by decide) (by decide) ?_
          rintro _ h194 ⟨rfl, rfl⟩
          show Go κ _ h191 _ _ 183 #[.val (.int p0), .val (.int p1), .val (.int p2), .val (.int p3), .val (.int p4), .val (.int p5), .val (.int (3 : Int32)), .val (.ref a52), .val (.ref b163), .val (.int (1 : Int32)), .val (.ref b185)] [(.int p1)]
          refine go_iload_n B d0_183 rfl ?_
          refine go_icmpeq B d0_184 (fun c184 => ?_) (fun c184 => ?_)
          rotate_left
          · exact absurd rfl c184
          refine go_iconst B (x := (1 : Int32)) d0_189 rfl ?_
          refine go_zreturn B (y := (1 : Int32)) d0_190 (by decide) (by decide) (by decide) ?_
          exact rfl
        · skip
          refine go_aload B d0_59 rfl rfl ?_
          refine go_iload B d0_61 rfl ?_
          refine go_virtual B (W := 0) (a := a52) (argsL := [(.int p4)]) (st := []) d0_63 (w_36 H) (w_37 H) (w_39 H) (w_38 H) (w_3 H) (w_40 H) (by decide) E156 (rmA1 H a52 b53 [(.int p1), (.int p2), (.int p3), (.int (0 : Int32))] (3 : Int32) (4 : Int32) p4 3 h162 (Nat.le_trans (Nat.le_trans f117 K121.1) K159.1) E156 f157 f158 A161 (Exa.keep (Exa.keep (Exa.keep C57 K82) K121) K159) (List.forall_mem_cons.mpr ⟨rfl, (List.forall_mem_cons.mpr ⟨rfl, (List.forall_mem_cons.mpr ⟨rfl, (List.forall_mem_cons.mpr ⟨rfl, (fun _ q => nomatch q)⟩)⟩)⟩)⟩) (show 4 ≤ 8 from by decide) rfl (show 3 < 4 from by decide) (by decide) ge_a52 ge_b53 ne_b53_a52) pd_5 rfl rfl rfl rfl (by decide) (by decide) (by decide) (by decide) ?_
          rintro _ h201 ⟨rfl, K198, E195, f196, f197, A199⟩
          have A200 : AV Z h201 b53 .int [(.int p1), (.int p2), (.int p3), (.int p4)] := A199
          show Go κ _ h201 _ _ 66 #[.val (.int p0), .val (.int p1), .val (.int p2), .val (.int p3), .val (.int p4), .val (.int p5), .val (.int k), .val (.ref a52), .unset, .unset, .unset] []
          refine go_iload B d0_66 rfl ?_
          refine go_iconst B (x := (4 : Int32)) d0_68 rfl ?_
          refine go_icmple B d0_69 (fun c69 => ?_) (fun c69 => ?_)
          · skip
            obtain rfl : k = (4 : Int32) := i_eq (i := 4) (by have q1 := i_of_nlt rfl rfl c69; have q2 := i_of_lt rfl rfl c56; have z0 : (0 : Int32).toInt = 0 := rfl; have z1 : (1 : Int32).toInt = 1 := rfl; have z2 : (2 : Int32).toInt = 2 := rfl; have z3 : (3 : Int32).toInt = 3 := rfl; have z4 : (4 : Int32).toInt = 4 := rfl; have z5 : (5 : Int32).toInt = 5 := rfl; omega) rfl
            refine go_aload B d0_79 rfl rfl ?_
            have f202 : n0 ≤ h201.size := (Nat.le_trans (Nat.le_trans (Nat.le_trans f117 K121.1) K159.1) K198.1)
            have f203 : Exa Z h201 b53 "[I" := (Exa.keep (Exa.keep (Exa.keep (Exa.keep C57 K82) K121) K159) K198)
            refine go_virtual B (W := 0) (a := a52) (argsL := []) (st := []) d0_81 (w_13 H) (w_14 H) (w_16 H) (w_15 H) (w_3 H) (w_17 H) (by decide) E195 (rmT H a52 b53 [(.int p1), (.int p2), (.int p3), (.int p4)] (4 : Int32) 4 h201 f202 E195 f196 f197 A200 f203 (List.forall_mem_cons.mpr ⟨rfl, (List.forall_mem_cons.mpr ⟨rfl, (List.forall_mem_cons.mpr ⟨rfl, (List.forall_mem_cons.mpr ⟨rfl, (fun _ q => nomatch q)⟩)⟩)⟩)⟩) (show 4 ≤ 8 from by decide) rfl (by decide)) pd_3 rfl rfl rfl rfl (by decide) (by decide) (by decide) (by decide) ?_
            rintro _ h210 ⟨b204, rfl, g205, E206, A207, C208⟩
            have ne_b204_a52 : b204 ≠ a52 := Nat.ne_of_gt (Nat.lt_of_lt_of_le (E195).lt (by omega))
            have ne_b204_b53 : b204 ≠ b53 := Nat.ne_of_gt (Nat.lt_of_lt_of_le (A200).lt (by omega))
            have ge_b204 : n0 ≤ b204 := by have q1 := f202; omega
            have A209 : AV Z h210 b204 .int [(.int p1), (.int p2), (.int p3), (.int p4)] := A207
            show Go κ _ h210 _ _ 84 #[.val (.int p0), .val (.int p1), .val (.int p2), .val (.int p3), .val (.int p4), .val (.int p5), .val (.int (4 : Int32)), .val (.ref a52), .unset, .unset, .unset] [(.ref b204)]
            refine go_astore B #[.val (.int p0), .val (.int p1), .val (.int p2), .val (.int p3), .val (.int p4), .val (.int p5), .val (.int (4 : Int32)), .val (.ref a52), .val (.ref b204), .unset, .unset] d0_84 rfl rfl ?_
            refine go_aload B d0_86 rfl rfl ?_
            refine go_iload B d0_88 rfl ?_
            refine go_iload_n B d0_90 rfl ?_
            refine go_iload_n B d0_91 rfl ?_
            refine go_iload_n B d0_92 rfl ?_
            refine go_iload B d0_93 rfl ?_
            refine go_iload B d0_95 rfl ?_
            refine go_static B (W := 0) (argsL := [(.ref b204), (.int (4 : Int32)), (.int p1), (.int p2), (.int p3), (.int p4), (.int p5)]) (st := []) d0_97 (w_32 H) (w_33 H) (w_34 H) (w_35 H) (by decide) (rmH4 H b204 p1 p2 p3 p4 p5 h210 (Nat.le_trans f202 E206.1) A209) pd_4 rfl rfl rfl rfl (by decide) (by decide) (by decide) (by decide) ?_
            rintro _ h211 ⟨rfl, rfl⟩
            show Go κ _ h210 _ _ 100 #[.val (.int p0), .val (.int p1), .val (.int p2), .val (.int p3), .val (.int p4), .val (.int p5), .val (.int (4 : Int32)), .val (.ref a52), .val (.ref b204), .unset, .unset] [(.int (1 : Int32))]
            refine go_istore B #[.val (.int p0), .val (.int p1), .val (.int p2), .val (.int p3), .val (.int p4), .val (.int p5), .val (.int (4 : Int32)), .val (.ref a52), .val (.ref b204), .val (.int (1 : Int32)), .unset] d0_100 rfl ?_
            refine go_iload B d0_102 rfl ?_
            refine go_ifne B d0_104 (fun c104 => ?_) (fun c104 => ?_)
            rotate_left
            · exact absurd c104 (by decide)
            refine go_iload B d0_109 rfl ?_
            refine go_ifle B d0_111 (fun c111 => ?_) (fun c111 => ?_)
            · exact absurd c111 (by decide)
            refine go_aload B d0_114 rfl rfl ?_
            refine go_iconst B (x := (0 : Int32)) d0_116 rfl ?_
            refine go_iload_n B d0_117 rfl ?_
            refine go_iconst B (x := (-1 : Int32)) d0_118 rfl ?_
            refine go_ixor B d0_119 ?_
            refine go_iastore B (i := 0) d0_120 A209 rfl (show 0 < 4 from by decide) ge_b204 ?_
            intro h212 W213 A214
            have A215 : AV Z h212 b204 .int [(.int (p1 ^^^ (-1 : Int32))), (.int p2), (.int p3), (.int p4)] := A214
            refine go_aload B d0_121 rfl rfl ?_
            refine go_iload B d0_123 rfl ?_
            refine go_iconst B (x := (1 : Int32)) d0_125 rfl ?_
            refine go_isub B d0_126 ?_
            rw [show ((4 : Int32) - (1 : Int32)) = (3 : Int32) from by decide]
            refine go_aload B d0_127 rfl rfl ?_
            refine go_iload B d0_129 rfl ?_
            refine go_iconst B (x := (1 : Int32)) d0_131 rfl ?_
            refine go_isub B d0_132 ?_
            rw [show ((4 : Int32) - (1 : Int32)) = (3 : Int32) from by decide]
            refine go_iaload B (i := 3) (v := (.int p4)) d0_133 A215 rfl rfl ?_
            refine go_iconst B (x := (-1 : Int32)) d0_134 rfl ?_
            refine go_ixor B d0_135 ?_
            refine go_iastore B (i := 3) d0_136 A215 rfl (show 3 < 4 from by decide) ge_b204 ?_
            intro h216 W217 A218
            have A219 : AV Z h216 b204 .int [(.int (p1 ^^^ (-1 : Int32))), (.int p2), (.int p3), (.int (p4 ^^^ (-1 : Int32)))] := A218
            refine go_aload B d0_137 rfl rfl ?_
            have f220 : Fld Z h216 a52 "com/example/hone_search/honesearch/IntList" "values" "[I" (.ref b53) := (Fld.other W217 (Fld.other W213 (Fld.ext E206 f196) (Or.inl (Ne.symm ne_b204_a52))) (Or.inl (Ne.symm ne_b204_a52)))
            have f221 : Fld Z h216 a52 "com/example/hone_search/honesearch/IntList" "size" "I" (.int (4 : Int32)) := (Fld.other W217 (Fld.other W213 (Fld.ext E206 f197) (Or.inl (Ne.symm ne_b204_a52))) (Or.inl (Ne.symm ne_b204_a52)))
            have f222 : n0 ≤ h216.size := (Nat.le_trans (Nat.le_trans (Nat.le_trans f202 E206.1) (Nat.le_of_eq (Wr.size W213).symm)) (Nat.le_of_eq (Wr.size W217).symm))
            have f223 : AV Z h216 b53 .int [(.int p1), (.int p2), (.int p3), (.int p4)] := (AV.other (AV.other (AV.ext A200 E206) W213 (Ne.symm ne_b204_b53)) W217 (Ne.symm ne_b204_b53))
            refine go_virtual B (W := 0) (a := a52) (argsL := []) (st := []) d0_139 (w_13 H) (w_14 H) (w_16 H) (w_15 H) (w_3 H) (w_17 H) (by decide) (Exa.wr W217 (Exa.wr W213 (Exa.ext E206 E195))) (rmT H a52 b53 [(.int p1), (.int p2), (.int p3), (.int p4)] (4 : Int32) 4 h216 f222 (Exa.wr W217 (Exa.wr W213 (Exa.ext E206 E195))) f220 f221 f223 (Exa.wr W217 (Exa.wr W213 (Exa.ext E206 f203))) (List.forall_mem_cons.mpr ⟨rfl, (List.forall_mem_cons.mpr ⟨rfl, (List.forall_mem_cons.mpr ⟨rfl, (List.forall_mem_cons.mpr ⟨rfl, (fun _ q => nomatch q)⟩)⟩)⟩)⟩) (show 4 ≤ 8 from by decide) rfl (by decide)) pd_3 rfl rfl rfl rfl (by decide) (by decide) (by decide) (by decide) ?_
            rintro _ h230 ⟨b224, rfl, g225, E226, A227, C228⟩
            have ne_b224_a52 : b224 ≠ a52 := Nat.ne_of_gt (Nat.lt_of_lt_of_le ((Exa.wr W217 (Exa.wr W213 (Exa.ext E206 E195)))).lt (by omega))
            have ne_b224_b53 : b224 ≠ b53 := Nat.ne_of_gt (Nat.lt_of_lt_of_le (f223).lt (by omega))
            have ne_b224_b204 : b224 ≠ b204 := Nat.ne_of_gt (Nat.lt_of_lt_of_le (A219).lt (by omega))
            have ge_b224 : n0 ≤ b224 := by have q1 := f222; omega
            have A229 : AV Z h230 b224 .int [(.int p1), (.int p2), (.int p3), (.int p4)] := A227
            show Go κ _ h230 _ _ 142 #[.val (.int p0), .val (.int p1), .val (.int p2), .val (.int p3), .val (.int p4), .val (.int p5), .val (.int (4 : Int32)), .val (.ref a52), .val (.ref b204), .val (.int (1 : Int32)), .unset] [(.ref b224)]
            refine go_astore B #[.val (.int p0), .val (.int p1), .val (.int p2), .val (.int p3), .val (.int p4), .val (.int p5), .val (.int (4 : Int32)), .val (.ref a52), .val (.ref b204), .val (.int (1 : Int32)), .val (.ref b224)] d0_142 rfl rfl ?_
            refine go_aload B d0_144 rfl rfl ?_
            refine go_aload B d0_146 rfl rfl ?_
            refine go_acmpne B d0_148 rfl rfl (fun c148 => ?_) (fun c148 => ?_)
            rotate_left
            · exact absurd (Value.ref.inj c148) ne_b224_b204
            refine go_aload B d0_153 rfl rfl ?_
            refine go_iload B d0_155 rfl ?_
            refine go_iload_n B d0_157 rfl ?_
            refine go_iload_n B d0_158 rfl ?_
            refine go_iload_n B d0_159 rfl ?_
            refine go_iload B d0_160 rfl ?_
            refine go_iload B d0_162 rfl ?_
            refine go_static B (W := 0) (argsL := [(.ref b224), (.int (4 : Int32)), (.int p1), (.int p2), (.int p3), (.int p4), (.int p5)]) (st := []) d0_164 (w_32 H) (w_33 H) (w_34 H) (w_35 H) (by decide) (rmH4 H b224 p1 p2 p3 p4 p5 h230 (Nat.le_trans f222 E226.1) A229) pd_4 rfl rfl rfl rfl (by decide) (by decide) (by decide) (by decide) ?_
            rintro _ h231 ⟨rfl, rfl⟩
            show Go κ _ h230 _ _ 167 #[.val (.int p0), .val (.int p1), .val (.int p2), .val (.int p3), .val (.int p4), .val (.int p5), .val (.int (4 : Int32)), .val (.ref a52), .val (.ref b204), .val (.int (1 : Int32)), .val (.ref b224)] [(.int (1 : Int32))]
            refine go_ifne B d0_167 (fun c167 => ?_) (fun c167 => ?_)
            rotate_left
            · exact absurd c167 (by decide)
            refine go_iload B d0_172 rfl ?_
            refine go_ifle B d0_174 (fun c174 => ?_) (fun c174 => ?_)
            · exact absurd c174 (by decide)
            refine go_aload B d0_177 rfl rfl ?_
            refine go_iconst B (x := (0 : Int32)) d0_179 rfl ?_
            have f232 : Exa Z h230 a52 "com/example/hone_search/honesearch/IntList" := (Exa.ext E226 (Exa.wr W217 (Exa.wr W213 (Exa.ext E206 E195))))
            have f233 : Exa Z h230 b53 "[I" := (Exa.ext E226 (Exa.wr W217 (Exa.wr W213 (Exa.ext E206 f203))))
            refine go_virtual B (W := 0) (a := a52) (argsL := [(.int (0 : Int32))]) (st := []) d0_180 (w_50 H) (w_51 H) (w_53 H) (w_52 H) (w_3 H) (w_54 H) (by decide) f232 (rmG H a52 b53 [(.int p1), (.int p2), (.int p3), (.int p4)] (4 : Int32) (0 : Int32) p1 0 h230 (Nat.le_trans f222 E226.1) f232 (Fld.ext E226 f220) (Fld.ext E226 f221) (AV.ext f223 E226) f233 (List.forall_mem_cons.mpr ⟨rfl, (List.forall_mem_cons.mpr ⟨rfl, (List.forall_mem_cons.mpr ⟨rfl, (List.forall_mem_cons.mpr ⟨rfl, (fun _ q => nomatch q)⟩)⟩)⟩)⟩) (show 4 ≤ 8 from by decide) rfl rfl) pd_6 rfl rfl rfl rfl (by decide) (by decide) (by decide) (by decide) ?_
            rintro _ h234 ⟨rfl, rfl⟩
            show Go κ _ h230 _ _ 183 #[.val (.int p0), .val (.int p1), .val (.int p2), .val (.int p3), .val (.int p4), .val (.int p5), .val (.int (4 : Int32)), .val (.ref a52), .val (.ref b204), .val (.int (1 : Int32)), .val (.ref b224)] [(.int p1)]
            refine go_iload_n B d0_183 rfl ?_
            refine go_icmpeq B d0_184 (fun c184 => ?_) (fun c184 => ?_)
            rotate_left
            · exact absurd rfl c184
            refine go_iconst B (x := (1 : Int32)) d0_189 rfl ?_
            refine go_zreturn B (y := (1 : Int32)) d0_190 (by decide) (by decide) (by decide) ?_
            exact rfl
          · skip
            obtain rfl : k = (5 : Int32) := i_eq (i := 5) (by have q1 := i_of_lt rfl rfl c69; have z0 : (0 : Int32).toInt = 0 := rfl; have z1 : (1 : Int32).toInt = 1 := rfl; have z2 : (2 : Int32).toInt = 2 := rfl; have z3 : (3 : Int32).toInt = 3 := rfl; have z4 : (4 : Int32).toInt = 4 := rfl; have z5 : (5 : Int32).toInt = 5 := rfl; omega) rfl
            refine go_aload B d0_72 rfl rfl ?_
            refine go_iload B d0_74 rfl ?_
            have f235 : Exa Z h201 b53 "[I" := (Exa.keep (Exa.keep (Exa.keep (Exa.keep C57 K82) K121) K159) K198)
            have f236 : n0 ≤ h201.size := (Nat.le_trans (Nat.le_trans (Nat.le_trans f117 K121.1) K159.1) K198.1)
            refine go_virtual B (W := 0) (a := a52) (argsL := [(.int p5)]) (st := []) d0_76 (w_36 H) (w_37 H) (w_39 H) (w_38 H) (w_3 H) (w_40 H) (by decide) E195 (rmA2 H a52 b53 [(.int p1), (.int p2), (.int p3), (.int p4)] (4 : Int32) (5 : Int32) p5 4 h201 f236 E195 f196 f197 A200 f235 (List.forall_mem_cons.mpr ⟨rfl, (List.forall_mem_cons.mpr ⟨rfl, (List.forall_mem_cons.mpr ⟨rfl, (List.forall_mem_cons.mpr ⟨rfl, (fun _ q => nomatch q)⟩)⟩)⟩)⟩) (show 4 ≤ 8 from by decide) rfl rfl rfl (by decide) ge_a52 ne_b53_a52) pd_5 rfl rfl rfl rfl (by decide) (by decide) (by decide) (by decide) ?_
            rintro _ h246 ⟨b243, rfl, g244, K240, E237, f238, f239, A241, C245⟩
            have ne_b243_a52 : b243 ≠ a52 := Nat.ne_of_gt (Nat.lt_of_lt_of_le (E195).lt (by omega))
            have ne_b243_b53 : b243 ≠ b53 := Nat.ne_of_gt (Nat.lt_of_lt_of_le (A200).lt (by omega))
            have ge_b243 : n0 ≤ b243 := by have q1 := f236; omega
            have A242 : AV Z h246 b243 .int [(.int p1), (.int p2), (.int p3), (.int p4), (.int p5), (.int (0 : Int32)), (.int (0 : Int32)), (.int (0 : Int32))] := A241
            show Go κ _ h246 _ _ 79 #[.val (.int p0), .val (.int p1), .val (.int p2), .val (.int p3), .val (.int p4), .val (.int p5), .val (.int (5 : Int32)), .val (.ref a52), .unset, .unset, .unset] []
            refine go_aload B d0_79 rfl rfl ?_
            refine go_virtual B (W := 0) (a := a52) (argsL := []) (st := []) d0_81 (w_13 H) (w_14 H) (w_16 H) (w_15 H) (w_3 H) (w_17 H) (by decide) E237 (rmT H a52 b243 [(.int p1), (.int p2), (.int p3), (.int p4), (.int p5), (.int (0 : Int32)), (.int (0 : Int32)), (.int (0 : Int32))] (5 : Int32) 5 h246 (Nat.le_trans f236 K240.1) E237 f238 f239 A242 C245 (List.forall_mem_cons.mpr ⟨rfl, (List.forall_mem_cons.mpr ⟨rfl, (List.forall_mem_cons.mpr ⟨rfl, (List.forall_mem_cons.mpr ⟨rfl, (List.forall_mem_cons.mpr ⟨rfl, (List.forall_mem_cons.mpr ⟨rfl, (List.forall_mem_cons.mpr ⟨rfl, (List.forall_mem_cons.mpr ⟨rfl, (fun _ q => nomatch q)⟩)⟩)⟩)⟩)⟩)⟩)⟩)⟩) (show 8 ≤ 8 from by decide) rfl (by decide)) pd_3 rfl rfl rfl rfl (by decide) (by decide) (by decide) (by decide) ?_
            rintro _ h253 ⟨b247, rfl, g248, E249, A250, C251⟩
            have ne_b247_a52 : b247 ≠ a52 := Nat.ne_of_gt (Nat.lt_of_lt_of_le (E237).lt (by omega))
            have ne_b247_b53 : b247 ≠ b53 := Nat.ne_of_gt (Nat.lt_of_lt_of_le ((AV.keep A200 K240 (ninS ne_b53_a52 nin0))).lt (by omega))
            have ne_b247_b243 : b247 ≠ b243 := Nat.ne_of_gt (Nat.lt_of_lt_of_le (A242).lt (by omega))
            have ge_b247 : n0 ≤ b247 := by have q1 := (Nat.le_trans f236 K240.1); omega
            have A252 : AV Z h253 b247 .int [(.int p1), (.int p2), (.int p3), (.int p4), (.int p5)] := A250
            show Go κ _ h253 _ _ 84 #[.val (.int p0), .val (.int p1), .val (.int p2), .val (.int p3), .val (.int p4), .val (.int p5), .val (.int (5 : Int32)), .val (.ref a52), .unset, .unset, .unset] [(.ref b247)]
            refine go_astore B #[.val (.int p0), .val (.int p1), .val (.int p2), .val (.int p3), .val (.int p4), .val (.int p5), .val (.int (5 : Int32)), .val (.ref a52), .val (.ref b247), .unset, .unset] d0_84 rfl rfl ?_
            refine go_aload B d0_86 rfl rfl ?_
            refine go_iload B d0_88 rfl ?_
            refine go_iload_n B d0_90 rfl ?_
            refine go_iload_n B d0_91 rfl ?_
            refine go_iload_n B d0_92 rfl ?_
            refine go_iload B d0_93 rfl ?_
            refine go_iload B d0_95 rfl ?_
            refine go_static B (W := 0) (argsL := [(.ref b247), (.int (5 : Int32)), (.int p1), (.int p2), (.int p3), (.int p4), (.int p5)]) (st := []) d0_97 (w_32 H) (w_33 H) (w_34 H) (w_35 H) (by decide) (rmH5 H b247 p1 p2 p3 p4 p5 h253 (Nat.le_trans (Nat.le_trans f236 K240.1) E249.1) A252) pd_4 rfl rfl rfl rfl (by decide) (by decide) (by decide) (by decide) ?_
            rintro _ h254 ⟨rfl, rfl⟩
            show Go κ _ h253 _ _ 100 #[.val (.int p0), .val (.int p1), .val (.int p2), .val (.int p3), .val (.int p4), .val (.int p5), .val (.int (5 : Int32)), .val (.ref a52), .val (.ref b247), .unset, .unset] [(.int (1 : Int32))]
            refine go_istore B #[.val (.int p0), .val (.int p1), .val (.int p2), .val (.int p3), .val (.int p4), .val (.int p5), .val (.int (5 : Int32)), .val (.ref a52), .val (.ref b247), .val (.int (1 : Int32)), .unset] d0_100 rfl ?_
            refine go_iload B d0_102 rfl ?_
            refine go_ifne B d0_104 (fun c104 => ?_) (fun c104 => ?_)
            rotate_left
            · exact absurd c104 (by decide)
            refine go_iload B d0_109 rfl ?_
            refine go_ifle B d0_111 (fun c111 => ?_) (fun c111 => ?_)
            · exact absurd c111 (by decide)
            refine go_aload B d0_114 rfl rfl ?_
            refine go_iconst B (x := (0 : Int32)) d0_116 rfl ?_
            refine go_iload_n B d0_117 rfl ?_
            refine go_iconst B (x := (-1 : Int32)) d0_118 rfl ?_
            refine go_ixor B d0_119 ?_
            refine go_iastore B (i := 0) d0_120 A252 rfl (show 0 < 5 from by decide) ge_b247 ?_
            intro h255 W256 A257
            have A258 : AV Z h255 b247 .int [(.int (p1 ^^^ (-1 : Int32))), (.int p2), (.int p3), (.int p4), (.int p5)] := A257
            refine go_aload B d0_121 rfl rfl ?_
            refine go_iload B d0_123 rfl ?_
            refine go_iconst B (x := (1 : Int32)) d0_125 rfl ?_
            refine go_isub B d0_126 ?_
            rw [show ((5 : Int32) - (1 : Int32)) = (4 : Int32) from by decide]
            refine go_aload B d0_127 rfl rfl ?_
            refine go_iload B d0_129 rfl ?_
            refine go_iconst B (x := (1 : Int32)) d0_131 rfl ?_
            refine go_isub B d0_132 ?_
            rw [show ((5 : Int32) - (1 : Int32)) = (4 : Int32) from by decide]
            refine go_iaload B (i := 4) (v := (.int p5)) d0_133 A258 rfl rfl ?_
            refine go_iconst B (x := (-1 : Int32)) d0_134 rfl ?_
            refine go_ixor B d0_135 ?_
            refine go_iastore B (i := 4) d0_136 A258 rfl (show 4 < 5 from by decide) ge_b247 ?_
            intro h259 W260 A261
            have A262 : AV Z h259 b247 .int [(.int (p1 ^^^ (-1 : Int32))), (.int p2), (.int p3), (.int p4), (.int (p5 ^^^ (-1 : Int32)))] := A261
            refine go_aload B d0_137 rfl rfl ?_
            have f263 : Fld Z h259 a52 "com/example/hone_search/honesearch/IntList" "values" "[I" (.ref b243) := (Fld.other W260 (Fld.other W256 (Fld.ext E249 f238) (Or.inl (Ne.symm ne_b247_a52))) (Or.inl (Ne.symm ne_b247_a52)))
            have f264 : Fld Z h259 a52 "com/example/hone_search/honesearch/IntList" "size" "I" (.int (5 : Int32)) := (Fld.other W260 (Fld.other W256 (Fld.ext E249 f239) (Or.inl (Ne.symm ne_b247_a52))) (Or.inl (Ne.symm ne_b247_a52)))
            have f265 : n0 ≤ h259.size := (Nat.le_trans (Nat.le_trans (Nat.le_trans (Nat.le_trans f236 K240.1) E249.1) (Nat.le_of_eq (Wr.size W256).symm)) (Nat.le_of_eq (Wr.size W260).symm))
            have f266 : AV Z h259 b243 .int [(.int p1), (.int p2), (.int p3), (.int p4), (.int p5), (.int (0 : Int32)), (.int (0 : Int32)), (.int (0 : Int32))] := (AV.other (AV.other (AV.ext A242 E249) W256 (Ne.symm ne_b247_b243)) W260 (Ne.symm ne_b247_b243))
            refine go_virtual B (W := 0) (a := a52) (argsL := []) (st := []) d0_139 (w_13 H) (w_14 H) (w_16 H) (w_15 H) (w_3 H) (w_17 H) (by decide) (Exa.wr W260 (Exa.wr W256 (Exa.ext E249 E237))) (rmT H a52 b243 [(.int p1), (.int p2), (.int p3), (.int p4), (.int p5), (.int (0 : Int32)), (.int (0 : Int32)), (.int (0 : Int32))] (5 : Int32) 5 h259 f265 (Exa.wr W260 (Exa.wr W256 (Exa.ext E249 E237))) f263 f264 f266 (Exa.wr W260 (Exa.wr W256 (Exa.ext E249 C245))) (List.forall_mem_cons.mpr ⟨rfl, (List.forall_mem_cons.mpr ⟨rfl, (List.forall_mem_cons.mpr ⟨rfl, (List.forall_mem_cons.mpr ⟨rfl, (List.forall_mem_cons.mpr ⟨rfl, (List.forall_mem_cons.mpr ⟨rfl, (List.forall_mem_cons.mpr ⟨rfl, (List.forall_mem_cons.mpr ⟨rfl, (fun _ q => nomatch q)⟩)⟩)⟩)⟩)⟩)⟩)⟩)⟩) (show 8 ≤ 8 from by decide) rfl (by decide)) pd_3 rfl rfl rfl rfl (by decide) (by decide) (by decide) (by decide) ?_
            rintro _ h273 ⟨b267, rfl, g268, E269, A270, C271⟩
            have ne_b267_a52 : b267 ≠ a52 := Nat.ne_of_gt (Nat.lt_of_lt_of_le ((Exa.wr W260 (Exa.wr W256 (Exa.ext E249 E237)))).lt (by omega))
            have f274 : AV Z h259 b53 .int [(.int p1), (.int p2), (.int p3), (.int p4)] := (AV.other (AV.other (AV.ext (AV.keep A200 K240 (ninS ne_b53_a52 nin0)) E249) W256 (Ne.symm ne_b247_b53)) W260 (Ne.symm ne_b247_b53))
            have ne_b267_b53 : b267 ≠ b53 := Nat.ne_of_gt (Nat.lt_of_lt_of_le (f274).lt (by omega))
            have ne_b267_b243 : b267 ≠ b243 := Nat.ne_of_gt (Nat.lt_of_lt_of_le (f266).lt (by omega))
            have ne_b267_b247 : b267 ≠ b247 := Nat.ne_of_gt (Nat.lt_of_lt_of_le (A262).lt (by omega))
            have ge_b267 : n0 ≤ b267 := by have q1 := f265; omega
            have A272 : AV Z h273 b267 .int [(.int p1), (.int p2), (.int p3), (.int p4), (.int p5)] := A270
            show Go κ _ h273 _ _ 142 #[.val (.int p0), .val (.int p1), .val (.int p2), .val (.int p3), .val (.int p4), .val (.int p5), .val (.int (5 : Int32)), .val (.ref a52), .val (.ref b247), .val (.int (1 : Int32)), .unset] [(.ref b267)]
            refine go_astore B #[.val (.int p0), .val (.int p1), .val (.int p2), .val (.int p3), .val (.int p4), .val (.int p5), .val (.int (5 : Int32)), .val (.ref a52), .val (.ref b247), .val (.int (1 : Int32)), .val (.ref b267)] d0_142 rfl rfl ?_
            refine go_aload B d0_144 rfl rfl ?_
            refine go_aload B d0_146 rfl rfl ?_
            refine go_acmpne B d0_148 rfl rfl (fun c148 => ?_) (fun c148 => ?_)
            rotate_left
            · exact absurd (Value.ref.inj c148) ne_b267_b247
            refine go_aload B d0_153 rfl rfl ?_
            refine go_iload B d0_155 rfl ?_
            refine go_iload_n B d0_157 rfl ?_
            refine go_iload_n B d0_158 rfl ?_
            refine go_iload_n B d0_159 rfl ?_
            refine go_iload B d0_160 rfl ?_
            refine go_iload B d0_162 rfl ?_
            refine go_static B (W := 0) (argsL := [(.ref b267), (.int (5 : Int32)), (.int p1), (.int p2), (.int p3), (.int p4), (.int p5)]) (st := []) d0_164 (w_32 H) (w_33 H) (w_34 H) (w_35 H) (by decide) (rmH5 H b267 p1 p2 p3 p4 p5 h273 (Nat.le_trans f265 E269.1) A272) pd_4 rfl rfl rfl rfl (by decide) (by decide) (by decide) (by decide) ?_
            rintro _ h275 ⟨rfl, rfl⟩
            show Go κ _ h273 _ _ 167 #[.val (.int p0), .val (.int p1), .val (.int p2), .val (.int p3), .val (.int p4), .val (.int p5), .val (.int (5 : Int32)), .val (.ref a52), .val (.ref b247), .val (.int (1 : Int32)), .val (.ref b267)] [(.int (1 : Int32))]
            refine go_ifne B d0_167 (fun c167 => ?_) (fun c167 => ?_)
            rotate_left
            · exact absurd c167 (by decide)
            refine go_iload B d0_172 rfl ?_
            refine go_ifle B d0_174 (fun c174 => ?_) (fun c174 => ?_)
            · exact absurd c174 (by decide)
            refine go_aload B d0_177 rfl rfl ?_
            refine go_iconst B (x := (0 : Int32)) d0_179 rfl ?_
            have f276 : Exa Z h273 a52 "com/example/hone_search/honesearch/IntList" := (Exa.ext E269 (Exa.wr W260 (Exa.wr W256 (Exa.ext E249 E237))))
            have f277 : Exa Z h273 b243 "[I" := (Exa.ext E269 (Exa.wr W260 (Exa.wr W256 (Exa.ext E249 C245))))
            refine go_virtual B (W := 0) (a := a52) (argsL := [(.int (0 : Int32))]) (st := []) d0_180 (w_50 H) (w_51 H) (w_53 H) (w_52 H) (w_3 H) (w_54 H) (by decide) f276 (rmG H a52 b243 [(.int p1), (.int p2), (.int p3), (.int p4), (.int p5), (.int (0 : Int32)), (.int (0 : Int32)), (.int (0 : Int32))] (5 : Int32) (0 : Int32) p1 0 h273 (Nat.le_trans f265 E269.1) f276 (Fld.ext E269 f263) (Fld.ext E269 f264) (AV.ext f266 E269) f277 (List.forall_mem_cons.mpr ⟨rfl, (List.forall_mem_cons.mpr ⟨rfl, (List.forall_mem_cons.mpr ⟨rfl, (List.forall_mem_cons.mpr ⟨rfl, (List.forall_mem_cons.mpr ⟨rfl, (List.forall_mem_cons.mpr ⟨rfl, (List.forall_mem_cons.mpr ⟨rfl, (List.forall_mem_cons.mpr ⟨rfl, (fun _ q => nomatch q)⟩)⟩)⟩)⟩)⟩)⟩)⟩)⟩) (show 8 ≤ 8 from by decide) rfl rfl) pd_6 rfl rfl rfl rfl (by decide) (by decide) (by decide) (by decide) ?_
            rintro _ h278 ⟨rfl, rfl⟩
            show Go κ _ h273 _ _ 183 #[.val (.int p0), .val (.int p1), .val (.int p2), .val (.int p3), .val (.int p4), .val (.int p5), .val (.int (5 : Int32)), .val (.ref a52), .val (.ref b247), .val (.int (1 : Int32)), .val (.ref b267)] [(.int p1)]
            refine go_iload_n B d0_183 rfl ?_
            refine go_icmpeq B d0_184 (fun c184 => ?_) (fun c184 => ?_)
            rotate_left
            · exact absurd rfl c184
            refine go_iconst B (x := (1 : Int32)) d0_189 rfl ?_
            refine go_zreturn B (y := (1 : Int32)) d0_190 (by decide) (by decide) (by decide) ?_
            exact rfl
set_option maxRecDepth 65536 in
set_option maxHeartbeats 40000000 in
theorem comes_1 {Post : Tables → Env → Array Value → State → Outcome → State → Prop} (hpost : ∀ tb e args s v u, (limb_1_1.after args s (.returned v) u = true ∧ limb_1_2.after args s (.returned v) u = true ∧ True) → FrameEnd s (.returned v) u (Jvm.fieldLocs frame_1_writes args s ++ Jvm.arrayLocs frame_1_arrays args s ++ Jvm.staticLocs frame_1_statics s) 24 128 → Post tb e args s (.returned v) u) :
    ArmFor flags0 classFile x code maxLocals ret World_1 tables_1 room_1 Calls_1 rest_1 Pre_1 Post := by
  intro l hfl _ _ p e ha hc hk s m args below hf hA hF happ hP
  obtain ⟨hcalls, hrest, hpre⟩ := hP
  obtain ⟨-, -, -, hnamed, -, -, -, hat⟩ := (Spec.applies_iff hf).mp happ
  obtain ⟨hg, hn⟩ := and_e (Cond.before_iff.mp (show (Jvm.Cond.and given_1 narrow_1).before args s = true from hpre))
  obtain ⟨hg0, hg1⟩ := and_e hg
  obtain ⟨hk0, hg2⟩ := and_e hg1
  obtain ⟨hk1, hg3⟩ := and_e hg2
  obtain ⟨hk2, hg4⟩ := and_e hg3
  obtain ⟨hk3, hg5⟩ := and_e hg4
  obtain ⟨hk4, hg6⟩ := and_e hg5
  have hk5 := hg6
  obtain ⟨w0, w1, w2, w3, w4, w5, rfl⟩ : ∃ w0 w1 w2 w3 w4 w5 : Value, args = #[w0, w1, w2, w3, w4, w5] := by
    have hs : args.size = 6 := by simpa [Cond.value, given_1] using hg0
    obtain ⟨L⟩ := args
    match L, hs with
    | [w0, w1, w2, w3, w4, w5], _ => exact ⟨w0, w1, w2, w3, w4, w5, rfl⟩
  have hw : Wd _ s := fun d (hd : d ∈ tables_1) => atoms_spec (ws := Jvm.Cond.code x code maxLocals ret :: tables_1) hat d (List.mem_cons_of_mem _ hd)
  obtain ⟨i0, e0⟩ := is_v hk0
  obtain rfl : w0 = (.int i0) := Option.some.inj e0
  obtain ⟨i1, e1⟩ := is_v hk1
  obtain rfl : w1 = (.int i1) := Option.some.inj e1
  obtain ⟨i2, e2⟩ := is_v hk2
  obtain rfl : w2 = (.int i2) := Option.some.inj e2
  obtain ⟨i3, e3⟩ := is_v hk3
  obtain rfl : w3 = (.int i3) := Option.some.inj e3
  obtain ⟨i4, e4⟩ := is_v hk4
  obtain rfl : w4 = (.int i4) := Option.some.inj e4
  obtain ⟨i5, e5⟩ := is_v hk5
  obtain rfl : w5 = (.int i5) := Option.some.inj e5
  obtain ⟨n, o, h1, h2, h3, _, L, rfl, ⟨rfl, N⟩, hq⟩ := rm0 (l := l) hw i0 i1 i2 i3 i4 i5 s.heap (Nat.le_refl _)  p e ha hc hk s m _ below hf ((Spec.applies_iff_loose hf).mp happ).1 ⟨rfl, State.Warmed39.refl s, rfl⟩ trivial
  refine ⟨n, _, h1, h2, h3, hpost _ _ _ _ _ _ ⟨Cond.after_iff.mpr rfl, Cond.after_iff.mpr (eq_i res_at (Term.int_eval (1)) rfl), trivial⟩ ⟨hq.1, hq.2.1, (hq.2.2.sift fun y hy => Or.inr (N y hy)).mono (by decide) (by decide)⟩⟩
theorem main_1_1 : Claimed_1_1 := comes_1 fun _ _ _ _ _ _ h hF => ⟨h.1, hF⟩
theorem main_1_2 : Claimed_1_2 := comes_1 fun _ _ _ _ _ _ h hF => ⟨h.2.1, hF⟩
end Jvm.Pilot.@@N@@
namespace Jvm.Pilot.@@N@@
open Jvm Jvm.ClassFile Sem Op Lib Jvm.Free Jvm.Stand Jvm.Pilot.@@N@@.Jvm.D
/-! MADE BY PROGRAM (witnessworld.py) out of the Statement's table words and the real class files: 12 classes; the members and pool entries that the words name. The judged class is class 1, her method 2. -/
namespace start1
open Jvm.ClassFile
def u (s : String) : CpInfo := .utf8 (stringToUtf16 s)
/-- a pool by its gaps: so many unusable entries, then the entry; so many at the end -/
def gap : Nat → List CpInfo → List CpInfo
  | 0, r => r
  | n + 1, r => .unusable :: gap n r
def poolList (es : List (Nat × CpInfo)) (last : Nat) : List CpInfo := es.foldr (fun e r => gap e.1 (e.2 :: r)) (gap last [])
def pool (es : List (Nat × CpInfo)) (last : Nat) : Array CpInfo := ⟨poolList es last⟩
def fileOf (pool : Array CpInfo) (this : Nat) (attrs : Array Attribute := #[]) (ms : Array MethodInfo := #[]) (fl : Nat := 33) (sup : Nat := 0) (ifs : Array Nat := #[]) (fds : Array FieldInfo := #[]) : ClassFile where
  minorVersion := 0
  majorVersion := 65
  constantPool := pool
  accessFlags := fl
  thisClass := this
  superClass := sup
  interfaces := ifs
  fields := fds
  methods := ms
  attributes := attrs
def plain (name : String) (sup : Option ClassId) : Class where
  name := name
  kind := .ordinary
  loader := none
  accessFlags := 33
  super := sup
  interfaces := #[]
  cf := none
  fields := #[]
  methods := #[]
  instanceTypes := #[]
  staticTypes := #[]
  resolved := #[]
  callSites := []
  init := .initialized
  statics := none
  mirror := none

def pool0 : Array CpInfo := pool [(5, u "<init>"), (0, u "()V"), (1, .class_ 10), (1, u "java/lang/Object"), (85, u "clone"), (0, u "()Ljava/lang/Object;")] 26

def k0c0 : Code := { maxStack := 0, maxLocals := 1, code := object_method_1_code, exceptionTable := #[], attributes := #[] }
def k0m0 : Method := { name := "<init>", desc := "()V", sig := { parameters := [], returnType := none }, accessFlags := 1, code := some k0c0 }
def k0m1 : Method := { name := "clone", desc := "()Ljava/lang/Object;", sig := { parameters := [], returnType := some (.object "java/lang/Object") }, accessFlags := 260, code := none }
/-- java/lang/Object -/
def k0 : Class := { plain "java/lang/Object" none with
  accessFlags := 33
  interfaces := #[]
  cf := some (fileOf pool0 8 #[] #[{ accessFlags := 1, nameIndex := 5, descriptorIndex := 6, attributes := #[] }, { accessFlags := 260, nameIndex := 96, descriptorIndex := 97, attributes := #[] }] 33 0 #[] #[])
  fields := #[]
  methods := #[k0m0, k0m1]
  instanceTypes := #[]
  staticTypes := #[]
  resolved := Array.replicate 124 none
  statics := none }

def pool1 : Array CpInfo := pool [(2, .class_ 4), (0, .nameAndType 5 6), (0, u "java/lang/Object"), (0, u "<init>"), (0, u "()V"), (0, .integer 2147483647), (0, .class_ 9), (0, u "com/example/hone_search/honesearch/IntList"), (0, .methodref 8 3), (0, .methodref 8 12), (0, .nameAndType 13 14), (0, u "add"), (0, u "(I)V"), (0, .methodref 8 16), (0, .nameAndType 17 18), (0, u "toArray"), (0, u "()[I"), (0, .methodref 20 21), (0, .class_ 22), (0, .nameAndType 23 24), (0, u "com/example/hone_search/honesearch/IntListToArrayPinLaw"), (0, u "holds"), (0, u "([IIIIIII)Z"), (0, .methodref 8 26), (0, .nameAndType 27 28), (0, u "get"), (0, u "(I)I"), (3, u "law"), (0, u "(IIIIII)Z")] 4

def k1m0 : Method := { name := "<init>", desc := "()V", sig := { parameters := [], returnType := none }, accessFlags := 2, code := none }
def k1c1 : Code := { maxStack := 2, maxLocals := 7, code := method_2_code, exceptionTable := #[], attributes := #[] }
def k1m1 : Method := { name := "holds", desc := "([IIIIIII)Z", sig := { parameters := [(.array .int), .int, .int, .int, .int, .int, .int], returnType := some .boolean }, accessFlags := 10, code := some k1c1 }
def k1c2 : Code := { maxStack := 7, maxLocals := 11, code := code, exceptionTable := #[], attributes := #[] }
def k1m2 : Method := { name := "law", desc := "(IIIIII)Z", sig := { parameters := [.int, .int, .int, .int, .int, .int], returnType := some .boolean }, accessFlags := 9, code := some k1c2 }
/-- com/example/hone_search/honesearch/IntListToArrayPinLaw -/
def k1 : Class := { plain "com/example/hone_search/honesearch/IntListToArrayPinLaw" (some 0) with
  accessFlags := 49
  interfaces := #[]
  cf := some (fileOf pool1 20 #[] #[{ accessFlags := 2, nameIndex := 5, descriptorIndex := 6, attributes := #[] }, { accessFlags := 10, nameIndex := 23, descriptorIndex := 24, attributes := #[] }, { accessFlags := 9, nameIndex := 32, descriptorIndex := 33, attributes := #[] }] 49 2 #[] #[])
  fields := #[]
  methods := #[k1m0, k1m1, k1m2]
  instanceTypes := #[]
  staticTypes := #[]
  resolved := Array.replicate 38 none
  statics := none }

def pool2 : Array CpInfo := pool [(1, .methodref 2 3), (0, .class_ 4), (0, .nameAndType 5 6), (0, u "java/lang/Object"), (0, u "<init>"), (0, u "()V"), (0, .fieldref 8 9), (0, .class_ 10), (0, .nameAndType 11 12), (0, u "com/example/hone_search/honesearch/IntList"), (0, u "values"), (0, u "[I"), (0, .fieldref 8 14), (0, .nameAndType 15 16), (0, u "size"), (0, u "I"), (0, .methodref 18 19), (0, .class_ 20), (0, .nameAndType 21 22), (0, u "java/util/Arrays"), (0, u "copyOf"), (0, u "([II)[I"), (2, u "add"), (0, u "(I)V"), (1, u "get"), (0, u "(I)I"), (1, u "toArray"), (0, u "()[I")] 2

def k2c0 : Code := { maxStack := 2, maxLocals := 1, code := prog_31_method_1_code, exceptionTable := #[], attributes := #[] }
def k2m0 : Method := { name := "<init>", desc := "()V", sig := { parameters := [], returnType := none }, accessFlags := 0, code := some k2c0 }
def k2c1 : Code := { maxStack := 5, maxLocals := 2, code := prog_31_method_2_code, exceptionTable := #[], attributes := #[] }
def k2m1 : Method := { name := "add", desc := "(I)V", sig := { parameters := [.int], returnType := none }, accessFlags := 0, code := some k2c1 }
def k2c2 : Code := { maxStack := 2, maxLocals := 2, code := prog_31_method_3_code, exceptionTable := #[], attributes := #[] }
def k2m2 : Method := { name := "get", desc := "(I)I", sig := { parameters := [.int], returnType := some .int }, accessFlags := 0, code := some k2c2 }
def k2c3 : Code := { maxStack := 2, maxLocals := 1, code := prog_31_method_5_code, exceptionTable := #[], attributes := #[] }
def k2m3 : Method := { name := "toArray", desc := "()[I", sig := { parameters := [], returnType := some (.array .int) }, accessFlags := 0, code := some k2c3 }
/-- com/example/hone_search/honesearch/IntList -/
def k2 : Class := { plain "com/example/hone_search/honesearch/IntList" (some 0) with
  accessFlags := 48
  interfaces := #[]
  cf := some (fileOf pool2 8 #[] #[{ accessFlags := 0, nameIndex := 5, descriptorIndex := 6, attributes := #[] }, { accessFlags := 0, nameIndex := 25, descriptorIndex := 26, attributes := #[] }, { accessFlags := 0, nameIndex := 28, descriptorIndex := 29, attributes := #[] }, { accessFlags := 0, nameIndex := 31, descriptorIndex := 32, attributes := #[] }] 48 2 #[] #[{ accessFlags := 2, nameIndex := 11, descriptorIndex := 12, attributes := #[] }, { accessFlags := 2, nameIndex := 15, descriptorIndex := 16, attributes := #[] }])
  fields := #[{ name := "values", type := (.array .int), accessFlags := 2, slot := 0, constantValue := 0 }, { name := "size", type := .int, accessFlags := 2, slot := 1, constantValue := 0 }]
  methods := #[k2m0, k2m1, k2m2, k2m3]
  instanceTypes := #[(.array .int), .int]
  staticTypes := #[]
  resolved := Array.replicate 35 none
  statics := none }

def pool3 : Array CpInfo := pool [(2, .class_ 4), (1, u "java/lang/Object"), (0, u "<init>"), (0, u "()V"), (7, .class_ 16), (1, u "java/util/Arrays"), (57, .class_ 76), (1, u "java/util/Arrays$NaturalOrder"), (32, u "()Ljava/lang/Object;"), (3, .class_ 115), (1, u "java/util/Arrays$LegacyMergeSort"), (1, u "Z"), (10, .nameAndType 129 109), (0, u "clone"), (20, .methodref 151 152), (0, .class_ 153), (0, .nameAndType 154 155), (0, u "java/lang/System"), (0, u "arraycopy"), (0, u "(Ljava/lang/Object;ILjava/lang/Object;II)V"), (146, u "copyOf"), (1, .methodref 305 306), (0, .class_ 307), (0, .nameAndType 308 309), (0, u "java/lang/Math"), (0, u "min"), (0, u "(II)I"), (6, .methodref 317 128), (0, .class_ 318), (0, u "[I"), (56, .class_ 376), (0, u "java/util/Arrays$ArrayList"), (68, u "$assertionsDisabled"), (269, u "MIN_ARRAY_SORT_GRAN"), (0, u "I"), (2, u "INSERTIONSORT_THRESHOLD"), (151, u "([II)[I"), (103, .class_ 976), (0, u "java/util/Arrays$ArrayItr")] 52

def k3m0 : Method := { name := "<init>", desc := "()V", sig := { parameters := [], returnType := none }, accessFlags := 2, code := none }
def k3c1 : Code := { maxStack := 6, maxLocals := 3, code := jdk_65_method_123_code, exceptionTable := #[], attributes := #[] }
def k3m1 : Method := { name := "copyOf", desc := "([II)[I", sig := { parameters := [(.array .int), .int], returnType := some (.array .int) }, accessFlags := 9, code := some k3c1 }
/-- java/util/Arrays -/
def k3 : Class := { plain "java/util/Arrays" (some 0) with
  accessFlags := 49
  interfaces := #[]
  cf := some (fileOf pool3 14 #[.nestMembers #[975, 375, 113, 74]] #[{ accessFlags := 2, nameIndex := 5, descriptorIndex := 6, attributes := #[] }, { accessFlags := 9, nameIndex := 302, descriptorIndex := 871, attributes := #[] }] 49 2 #[] #[{ accessFlags := 26, nameIndex := 715, descriptorIndex := 716, attributes := #[] }, { accessFlags := 26, nameIndex := 719, descriptorIndex := 716, attributes := #[] }, { accessFlags := 4120, nameIndex := 445, descriptorIndex := 117, attributes := #[] }])
  fields := #[{ name := "MIN_ARRAY_SORT_GRAN", type := .int, accessFlags := 26, slot := 0, constantValue := 0 }, { name := "INSERTIONSORT_THRESHOLD", type := .int, accessFlags := 26, slot := 1, constantValue := 0 }, { name := "$assertionsDisabled", type := .boolean, accessFlags := 4120, slot := 2, constantValue := 0 }]
  methods := #[k3m0, k3m1]
  instanceTypes := #[]
  staticTypes := #[.int, .int, .boolean]
  resolved := Array.replicate 1029 none
  statics := none }

def pool4 : Array CpInfo := pool [(1, .class_ 2), (0, u "java/lang/Math"), (1, .class_ 6), (1, u "java/lang/Object"), (0, u "<init>"), (0, u "()V"), (89, .class_ 100), (1, u "java/lang/Math$RandomNumberGeneratorHolder"), (71, u "negativeZeroFloatBits"), (0, u "J"), (2, u "negativeZeroDoubleBits"), (24, u "min"), (43, u "$assertionsDisabled"), (0, u "Z"), (88, u "(II)I"), (2, u "twoToTheDoubleScaleDown"), (0, u "D"), (4, u "twoToTheDoubleScaleUp"), (9, u "E"), (3, u "PI"), (2, u "TAU"), (2, u "DEGREES_TO_RADIANS"), (0, u "RADIANS_TO_DEGREES")] 94

def k4m0 : Method := { name := "<init>", desc := "()V", sig := { parameters := [], returnType := none }, accessFlags := 2, code := none }
def k4c1 : Code := { maxStack := 2, maxLocals := 2, code := jdk_29_method_69_code, exceptionTable := #[], attributes := #[] }
def k4m1 : Method := { name := "min", desc := "(II)I", sig := { parameters := [.int, .int], returnType := some .int }, accessFlags := 9, code := some k4c1 }
/-- java/lang/Math -/
def k4 : Class := { plain "java/lang/Math" (some 0) with
  accessFlags := 49
  interfaces := #[]
  cf := some (fileOf pool4 1 #[.nestMembers #[98]] #[{ accessFlags := 2, nameIndex := 7, descriptorIndex := 8, attributes := #[] }, { accessFlags := 9, nameIndex := 201, descriptorIndex := 335, attributes := #[] }] 49 4 #[] #[{ accessFlags := 25, nameIndex := 354, descriptorIndex := 339, attributes := #[] }, { accessFlags := 25, nameIndex := 358, descriptorIndex := 339, attributes := #[] }, { accessFlags := 25, nameIndex := 361, descriptorIndex := 339, attributes := #[] }, { accessFlags := 26, nameIndex := 364, descriptorIndex := 339, attributes := #[] }, { accessFlags := 26, nameIndex := 365, descriptorIndex := 339, attributes := #[] }, { accessFlags := 26, nameIndex := 172, descriptorIndex := 173, attributes := #[] }, { accessFlags := 26, nameIndex := 176, descriptorIndex := 173, attributes := #[] }, { accessFlags := 8, nameIndex := 344, descriptorIndex := 339, attributes := #[] }, { accessFlags := 8, nameIndex := 338, descriptorIndex := 339, attributes := #[] }, { accessFlags := 4120, nameIndex := 245, descriptorIndex := 246, attributes := #[] }])
  fields := #[{ name := "E", type := .double, accessFlags := 25, slot := 0, constantValue := 0 }, { name := "PI", type := .double, accessFlags := 25, slot := 1, constantValue := 0 }, { name := "TAU", type := .double, accessFlags := 25, slot := 2, constantValue := 0 }, { name := "DEGREES_TO_RADIANS", type := .double, accessFlags := 26, slot := 3, constantValue := 0 }, { name := "RADIANS_TO_DEGREES", type := .double, accessFlags := 26, slot := 4, constantValue := 0 }, { name := "negativeZeroFloatBits", type := .long, accessFlags := 26, slot := 5, constantValue := 0 }, { name := "negativeZeroDoubleBits", type := .long, accessFlags := 26, slot := 6, constantValue := 0 }, { name := "twoToTheDoubleScaleUp", type := .double, accessFlags := 8, slot := 7, constantValue := 0 }, { name := "twoToTheDoubleScaleDown", type := .double, accessFlags := 8, slot := 8, constantValue := 0 }, { name := "$assertionsDisabled", type := .boolean, accessFlags := 4120, slot := 9, constantValue := 0 }]
  methods := #[k4m0, k4m1]
  instanceTypes := #[]
  staticTypes := #[.double, .double, .double, .double, .double, .long, .long, .double, .double, .boolean]
  resolved := Array.replicate 460 none
  statics := none }

def pool5 : Array CpInfo := pool [(2, .class_ 4), (1, u "java/lang/Object"), (0, u "<init>"), (0, u "()V"), (1, .class_ 10), (1, u "java/lang/System"), (0, u "allowSecurityManager"), (0, u "I"), (16, u "cons"), (0, u "Ljava/io/Console;"), (77, .class_ 110), (1, u "java/lang/System$CallersHolder"), (43, u "initialErrStream"), (0, u "Ljava/io/PrintStream;"), (19, u "security"), (0, u "Ljava/lang/SecurityManager;"), (31, .class_ 209), (0, u "java/lang/System$1"), (7, u "props"), (0, u "Ljava/util/Properties;"), (2, u "lineSeparator"), (0, u "Ljava/lang/String;"), (96, .class_ 321), (1, u "java/lang/System$LoggerFinder"), (5, .class_ 328), (0, u "java/lang/System$Logger"), (67, u "err"), (2, u "out"), (91, u "notSupportedJnuEncoding"), (15, u "in"), (17, u "initialIn"), (0, u "Ljava/io/InputStream;"), (35, u "bootLayer"), (0, u "Ljava/lang/ModuleLayer;"), (99, .class_ 664), (0, u "java/lang/System$2"), (9, u "NEVER"), (2, u "MAYBE"), (49, u "arraycopy"), (0, u "(Ljava/lang/Object;ILjava/lang/Object;II)V"), (72, .class_ 802), (0, u "java/lang/System$Logger$Level")] 31

def k5m0 : Method := { name := "<init>", desc := "()V", sig := { parameters := [], returnType := none }, accessFlags := 2, code := none }
def k5m1 : Method := { name := "arraycopy", desc := "(Ljava/lang/Object;ILjava/lang/Object;II)V", sig := { parameters := [(.object "java/lang/Object"), .int, (.object "java/lang/Object"), .int, .int], returnType := none }, accessFlags := 265, code := none }
/-- java/lang/System -/
def k5 : Class := { plain "java/lang/System" (some 0) with
  accessFlags := 49
  interfaces := #[]
  cf := some (fileOf pool5 8 #[.nestMembers #[319, 327, 801, 108, 663, 208]] #[{ accessFlags := 2, nameIndex := 5, descriptorIndex := 6, attributes := #[] }, { accessFlags := 265, nameIndex := 727, descriptorIndex := 728, attributes := #[] }] 49 2 #[] #[{ accessFlags := 25, nameIndex := 507, descriptorIndex := 526, attributes := #[] }, { accessFlags := 25, nameIndex := 399, descriptorIndex := 155, attributes := #[] }, { accessFlags := 25, nameIndex := 396, descriptorIndex := 155, attributes := #[] }, { accessFlags := 10, nameIndex := 525, descriptorIndex := 526, attributes := #[] }, { accessFlags := 26, nameIndex := 674, descriptorIndex := 12, attributes := #[] }, { accessFlags := 26, nameIndex := 677, descriptorIndex := 12, attributes := #[] }, { accessFlags := 10, nameIndex := 11, descriptorIndex := 12, attributes := #[] }, { accessFlags := 74, nameIndex := 175, descriptorIndex := 176, attributes := #[] }, { accessFlags := 10, nameIndex := 491, descriptorIndex := 222, attributes := #[] }, { accessFlags := 74, nameIndex := 29, descriptorIndex := 30, attributes := #[] }, { accessFlags := 74, nameIndex := 154, descriptorIndex := 155, attributes := #[] }, { accessFlags := 10, nameIndex := 217, descriptorIndex := 218, attributes := #[] }, { accessFlags := 10, nameIndex := 221, descriptorIndex := 222, attributes := #[] }, { accessFlags := 8, nameIndex := 562, descriptorIndex := 563, attributes := #[] }])
  fields := #[{ name := "in", type := (.object "java/io/InputStream"), accessFlags := 25, slot := 0, constantValue := 0 }, { name := "out", type := (.object "java/io/PrintStream"), accessFlags := 25, slot := 1, constantValue := 0 }, { name := "err", type := (.object "java/io/PrintStream"), accessFlags := 25, slot := 2, constantValue := 0 }, { name := "initialIn", type := (.object "java/io/InputStream"), accessFlags := 10, slot := 3, constantValue := 0 }, { name := "NEVER", type := .int, accessFlags := 26, slot := 4, constantValue := 0 }, { name := "MAYBE", type := .int, accessFlags := 26, slot := 5, constantValue := 0 }, { name := "allowSecurityManager", type := .int, accessFlags := 10, slot := 6, constantValue := 0 }, { name := "security", type := (.object "java/lang/SecurityManager"), accessFlags := 74, slot := 7, constantValue := 0 }, { name := "notSupportedJnuEncoding", type := (.object "java/lang/String"), accessFlags := 10, slot := 8, constantValue := 0 }, { name := "cons", type := (.object "java/io/Console"), accessFlags := 74, slot := 9, constantValue := 0 }, { name := "initialErrStream", type := (.object "java/io/PrintStream"), accessFlags := 74, slot := 10, constantValue := 0 }, { name := "props", type := (.object "java/util/Properties"), accessFlags := 10, slot := 11, constantValue := 0 }, { name := "lineSeparator", type := (.object "java/lang/String"), accessFlags := 10, slot := 12, constantValue := 0 }, { name := "bootLayer", type := (.object "java/lang/ModuleLayer"), accessFlags := 8, slot := 13, constantValue := 0 }]
  methods := #[k5m0, k5m1]
  instanceTypes := #[]
  staticTypes := #[(.object "java/io/InputStream"), (.object "java/io/PrintStream"), (.object "java/io/PrintStream"), (.object "java/io/InputStream"), .int, .int, .int, (.object "java/lang/SecurityManager"), (.object "java/lang/String"), (.object "java/io/Console"), (.object "java/io/PrintStream"), (.object "java/util/Properties"), (.object "java/lang/String"), (.object "java/lang/ModuleLayer")]
  resolved := Array.replicate 834 none
  statics := none }

def pool6 : Array CpInfo := pool [(1, .class_ 2), (0, u "java/lang/Cloneable"), (0, .class_ 4), (0, u "java/lang/Object")] 2

/-- java/lang/Cloneable -/
def k6 : Class := { plain "java/lang/Cloneable" (some 0) with
  accessFlags := 1537
  interfaces := #[]
  cf := some (fileOf pool6 1 #[] #[] 1537 3 #[] #[])
  fields := #[]
  methods := #[]
  instanceTypes := #[]
  staticTypes := #[]
  resolved := Array.replicate 7 none
  statics := none }

def pool7 : Array CpInfo := pool [(1, u "java/io/Serializable"), (0, .class_ 1), (0, u "java/lang/Object"), (0, .class_ 3)] 3

/-- java/io/Serializable -/
def k7 : Class := { plain "java/io/Serializable" (some 0) with
  accessFlags := 1537
  interfaces := #[]
  cf := some (fileOf pool7 2 #[] #[] 1537 4 #[] #[])
  fields := #[]
  methods := #[]
  instanceTypes := #[]
  staticTypes := #[]
  resolved := Array.replicate 8 none
  statics := none }

/-- the primitive byte -/
def k8 : Class := { plain "byte" none with kind := .primitive 'B', accessFlags := 0x411 }
/-- [B -/
def k9 : Class := { plain "[B" (some 0) with kind := .array 8 .byte, interfaces := #[6, 7], accessFlags := 1041 }

/-- the primitive int -/
def k10 : Class := { plain "int" none with kind := .primitive 'I', accessFlags := 0x411 }
/-- [I -/
def k11 : Class := { plain "[I" (some 0) with kind := .array 10 .int, interfaces := #[6, 7], accessFlags := 1041 }

def heap : Heap := #[]
def classes : Array Class := #[k0, k1, k2, k3, k4, k5, k6, k7, k8, k9, k10, k11]
def interned : List (Array UInt16 × Addr) := []
def slotsUsed : Nat := 0
def theMethod : MethodId := ⟨1, 2⟩
def args0 : Array Value := #[.int 5, .int 6, .int 7, .int 8, .int 9, .int 10]
def aboutOver (below : List Frame) : State where
  vm := { classes := classes, interned := interned.toArray }
  heap := heap
  slotsUsed := slotsUsed
  threads := #[{ frames := .invoking theMethod args0 :: below }]
def below0 : List Frame := [.native { method := ⟨0, 0⟩, args := #[] }]
def about1 : State := aboutOver below0
def p0 : Program := .bare "" "" ""
def e0 : Env := launch0.env 0 0 0
theorem w_frames : about1.frames = Frame.invoking theMethod args0 :: below0 := rfl
set_option maxRecDepth 65536 in
theorem w_args : argsFit about1.vm theMethod args0 = true := by decide +kernel
set_option maxRecDepth 65536 in
theorem w_heap : heapFits about1 = true := by decide +kernel
set_option maxRecDepth 65536 in
theorem w_runnable : about1.curStatus? = some .runnable := by decide +kernel
set_option maxRecDepth 65536 in
theorem w_alone : about1.alone = true := by decide +kernel
set_option maxRecDepth 65536 in
theorem w_named : about1.methodNamed? x = some theMethod := by decide +kernel
set_option maxRecDepth 65536 in
theorem w_hears : about1.hears theMethod below0 = true := by decide +kernel
set_option maxRecDepth 65536 in
theorem w_ripe : about1.ripe theMethod args0 below0 = true := by decide +kernel
theorem w_running : about1.status = .running := rfl
set_option maxRecDepth 65536 in
theorem w_room : about1.hasRoom e0.platform room_1 = true :=
  launch0.hasRoom_least _ room_1 (by decide +kernel) (by decide +kernel) (by decide +kernel) (by decide +kernel) (by decide +kernel) (by decide +kernel)
theorem allAtoms_all (ts : List Jvm.Cond) (a : Array Jvm.Value) (st : Jvm.State) : (allAtoms ts).before a st = ts.all (fun c => c.before a st) := by
  induction ts with
  | nil => rfl
  | cons c t ih =>
    show (Jvm.Cond.and c (allAtoms t)).before a st = _
    rw [Jvm.Cond.before_and, ih, List.all_cons]
def words1 : List Jvm.Cond := Jvm.Cond.code x code maxLocals ret :: tables_1
/-- a 'code' word, met by the world's own term for the bytes: nothing is compared byte by byte -/
theorem code_word {y : MethodName} {bytes : ByteArray} {mx : Nat} {rt : Option FieldType} {a : Array Value} {s : State} {m : MethodId} {meth : Method} {c : Code} (h1 : s.methodNamed? y = some m) (h2 : s.vm.method? m = some meth) (h3 : meth.code = some c) (h4 : c.code = bytes)
    (h5 : (c.maxLocals == mx && c.exceptionTable.isEmpty && decide (c.maxStack ≤ mostOperands) && decide (meth.sig.returnType = rt) && !meth.locks && decide (parseMethodDescriptor y.desc = some meth.sig)) = true) : (Jvm.Cond.code y bytes mx rt).before a s = true := by
  simp only [Bool.and_eq_true, beq_iff_eq, Bool.not_eq_true', decide_eq_true_eq] at h5
  obtain ⟨⟨⟨⟨⟨g1, g2⟩, g3⟩, g4⟩, g5⟩, g6⟩ := h5
  simp [Cond.before, Cond.holds, Cond.value, h1, h2, h3, h4, g1, g2, g3, g4, g5, g6]
def isCode : Jvm.Cond → Bool
  | .code _ _ _ _ => true
  | _ => false
theorem all_split {L : List Jvm.Cond} {P : Jvm.Cond → Bool} (h1 : L.all (fun c => isCode c || P c) = true) (h2 : ∀ c ∈ L.filter isCode, P c = true) : L.all P = true := by
  refine List.all_eq_true.mpr fun c hc => ?_
  have h := List.all_eq_true.mp h1 c hc
  rcases Bool.eq_false_or_eq_true (isCode c) with hi | hi
  · exact h2 c (List.mem_filter.mpr ⟨hc, hi⟩)
  · simpa [hi] using h
set_option maxRecDepth 65536 in
theorem w_c0 : (Jvm.Cond.code x code maxLocals ret).before args0 about1 = true := code_word (m := ⟨1, 2⟩) (meth := k1m2) (c := k1c2) (by decide +kernel) rfl rfl rfl (by decide +kernel)
set_option maxRecDepth 65536 in
theorem w_c1 : (Jvm.Cond.code ({ cls := "com/example/hone_search/honesearch/IntList", name := "<init>", desc := "()V" } : Jvm.MethodName) prog_31_method_1_code (1 : Nat) (Option.none : Option Jvm.ClassFile.FieldType)).before args0 about1 = true := code_word (m := ⟨2, 0⟩) (meth := k2m0) (c := k2c0) (by decide +kernel) rfl rfl rfl (by decide +kernel)
set_option maxRecDepth 65536 in
theorem w_c2 : (Jvm.Cond.code ({ cls := "java/lang/Object", name := "<init>", desc := "()V" } : Jvm.MethodName) object_method_1_code (1 : Nat) (Option.none : Option Jvm.ClassFile.FieldType)).before args0 about1 = true := code_word (m := ⟨0, 0⟩) (meth := k0m0) (c := k0c0) (by decide +kernel) rfl rfl rfl (by decide +kernel)
set_option maxRecDepth 65536 in
theorem w_c3 : (Jvm.Cond.code ({ cls := "com/example/hone_search/honesearch/IntList", name := "toArray", desc := "()[I" } : Jvm.MethodName) prog_31_method_5_code (1 : Nat) (Option.some (Jvm.ClassFile.FieldType.array Jvm.ClassFile.FieldType.int))).before args0 about1 = true := code_word (m := ⟨2, 3⟩) (meth := k2m3) (c := k2c3) (by decide +kernel) rfl rfl rfl (by decide +kernel)
set_option maxRecDepth 65536 in
theorem w_c4 : (Jvm.Cond.code ({ cls := "java/util/Arrays", name := "copyOf", desc := "([II)[I" } : Jvm.MethodName) jdk_65_method_123_code (3 : Nat) (Option.some (Jvm.ClassFile.FieldType.array Jvm.ClassFile.FieldType.int))).before args0 about1 = true := code_word (m := ⟨3, 1⟩) (meth := k3m1) (c := k3c1) (by decide +kernel) rfl rfl rfl (by decide +kernel)
set_option maxRecDepth 65536 in
theorem w_c5 : (Jvm.Cond.code ({ cls := "java/lang/Math", name := "min", desc := "(II)I" } : Jvm.MethodName) jdk_29_method_69_code (2 : Nat) (Option.some Jvm.ClassFile.FieldType.int)).before args0 about1 = true := code_word (m := ⟨4, 1⟩) (meth := k4m1) (c := k4c1) (by decide +kernel) rfl rfl rfl (by decide +kernel)
set_option maxRecDepth 65536 in
theorem w_c6 : (Jvm.Cond.code ({ cls := "com/example/hone_search/honesearch/IntListToArrayPinLaw", name := "holds", desc := "([IIIIIII)Z" } : Jvm.MethodName) method_2_code (7 : Nat) (Option.some Jvm.ClassFile.FieldType.boolean)).before args0 about1 = true := code_word (m := ⟨1, 1⟩) (meth := k1m1) (c := k1c1) (by decide +kernel) rfl rfl rfl (by decide +kernel)
set_option maxRecDepth 65536 in
theorem w_c7 : (Jvm.Cond.code ({ cls := "com/example/hone_search/honesearch/IntList", name := "add", desc := "(I)V" } : Jvm.MethodName) prog_31_method_2_code (2 : Nat) (Option.none : Option Jvm.ClassFile.FieldType)).before args0 about1 = true := code_word (m := ⟨2, 1⟩) (meth := k2m1) (c := k2c1) (by decide +kernel) rfl rfl rfl (by decide +kernel)
set_option maxRecDepth 65536 in
theorem w_c8 : (Jvm.Cond.code ({ cls := "com/example/hone_search/honesearch/IntList", name := "get", desc := "(I)I" } : Jvm.MethodName) prog_31_method_3_code (2 : Nat) (Option.some Jvm.ClassFile.FieldType.int)).before args0 about1 = true := code_word (m := ⟨2, 2⟩) (meth := k2m2) (c := k2c2) (by decide +kernel) rfl rfl rfl (by decide +kernel)
def codes1 : List Jvm.Cond := [Jvm.Cond.code x code maxLocals ret, Jvm.Cond.code ({ cls := "com/example/hone_search/honesearch/IntList", name := "<init>", desc := "()V" } : Jvm.MethodName) prog_31_method_1_code (1 : Nat) (Option.none : Option Jvm.ClassFile.FieldType), Jvm.Cond.code ({ cls := "java/lang/Object", name := "<init>", desc := "()V" } : Jvm.MethodName) object_method_1_code (1 : Nat) (Option.none : Option Jvm.ClassFile.FieldType), Jvm.Cond.code ({ cls := "com/example/hone_search/honesearch/IntList", name := "toArray", desc := "()[I" } : Jvm.MethodName) prog_31_method_5_code (1 : Nat) (Option.some (Jvm.ClassFile.FieldType.array Jvm.ClassFile.FieldType.int)), Jvm.Cond.code ({ cls := "java/util/Arrays", name := "copyOf", desc := "([II)[I" } : Jvm.MethodName) jdk_65_method_123_code (3 : Nat) (Option.some (Jvm.ClassFile.FieldType.array Jvm.ClassFile.FieldType.int)), Jvm.Cond.code ({ cls := "java/lang/Math", name := "min", desc := "(II)I" } : Jvm.MethodName) jdk_29_method_69_code (2 : Nat) (Option.some Jvm.ClassFile.FieldType.int), Jvm.Cond.code ({ cls := "com/example/hone_search/honesearch/IntListToArrayPinLaw", name := "holds", desc := "([IIIIIII)Z" } : Jvm.MethodName) method_2_code (7 : Nat) (Option.some Jvm.ClassFile.FieldType.boolean), Jvm.Cond.code ({ cls := "com/example/hone_search/honesearch/IntList", name := "add", desc := "(I)V" } : Jvm.MethodName) prog_31_method_2_code (2 : Nat) (Option.none : Option Jvm.ClassFile.FieldType), Jvm.Cond.code ({ cls := "com/example/hone_search/honesearch/IntList", name := "get", desc := "(I)I" } : Jvm.MethodName) prog_31_method_3_code (2 : Nat) (Option.some Jvm.ClassFile.FieldType.int)]
set_option maxRecDepth 65536 in
theorem codes_eq : words1.filter isCode = codes1 := rfl
theorem w_codes : ∀ c ∈ words1.filter isCode, c.before args0 about1 = true := by
  rw [codes_eq]
  intro c hc
  simp only [codes1, List.mem_cons, List.not_mem_nil, or_false] at hc
  rcases hc with rfl | rfl | rfl | rfl | rfl | rfl | rfl | rfl | rfl
  · exact w_c0
  · exact w_c1
  · exact w_c2
  · exact w_c3
  · exact w_c4
  · exact w_c5
  · exact w_c6
  · exact w_c7
  · exact w_c8
set_option maxRecDepth 65536 in
theorem w_t1 : (words1.take 24).all (fun c => isCode c || c.before args0 about1) = true := by decide +kernel
set_option maxRecDepth 65536 in
theorem w_t2 : ((words1.drop 24).take 24).all (fun c => isCode c || c.before args0 about1) = true := by decide +kernel
set_option maxRecDepth 65536 in
theorem w_t3 : ((words1.drop 24).drop 24).all (fun c => isCode c || c.before args0 about1) = true := by decide +kernel
theorem w_tables : (allAtoms (Jvm.Cond.code x code maxLocals ret :: tables_1)).before args0 about1 = true := by
  rw [allAtoms_all]
  show words1.all (fun c => c.before args0 about1) = true
  refine all_split ?_ w_codes
  rw [← List.take_append_drop 24 words1, List.all_append, w_t1, ← List.take_append_drop 24 (words1.drop 24), List.all_append, w_t2, w_t3]
  rfl
set_option maxRecDepth 65536 in
theorem w_case : (Jvm.Cond.and given_1 narrow_1).before args0 about1 = true := by decide +kernel
theorem w_applies : (headSpec (Jvm.Cond.code x code maxLocals ret :: tables_1) room_1).applies x e0.platform about1 = true :=
  (Spec.applies_iff w_frames).mpr ⟨w_running, w_runnable, w_alone, w_named, w_hears, w_ripe, w_room, w_tables⟩
theorem atStart : AtStart classFile x code maxLocals ret World_1 tables_1 room_1 Calls_1 rest_1 Pre_1 launch0 p0 e0 about1 theMethod args0 below0 :=
  ⟨lists_1, trivial, launch0.admits_env _ _ _, launch0.least_env, fairChoices_fair.cas, fairChoices_fair.clock, w_frames, w_args, w_heap, w_applies, trivial, trivial, w_case⟩
end start1
theorem witness_1 : WitnessClaimed_1 := ⟨start1.p0, start1.e0, start1.about1, start1.theMethod, start1.args0, start1.below0, start1.atStart⟩
end Jvm.Pilot.@@N@@
