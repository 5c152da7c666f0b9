import JvmDerived
import JvmDerived.Pilot.@@N@@Statement
import JvmDerived.Pilot.@@N@@Code
set_option linter.unusedVariables false
set_option linter.unusedSimpArgs false
namespace Jvm.OwnGo
open Sem ClassFile Op Lib Jvm.Stand Jvm.Free Jvm.LawKit Jvm.RoadKit
/-- the context of one walk: program, launch, environment, room, start, method, arguments, frames below, the method's record, its code, the tables' state, the words' arguments, the first new address -/
abbrev Cx : Type := Program × Launch × Env × Room × State × MethodId × Array Value × List Frame × Method × Code × State × Array Value × Nat × (Outcome → State → List Loc → Prop) × Nat × State
abbrev Cx.p (κ : Cx) : Program := κ.1
abbrev Cx.l (κ : Cx) : Launch := κ.2.1
abbrev Cx.e (κ : Cx) : Env := κ.2.2.1
abbrev Cx.R (κ : Cx) : Room := κ.2.2.2.1
abbrev Cx.s (κ : Cx) : State := κ.2.2.2.2.1
abbrev Cx.m (κ : Cx) : MethodId := κ.2.2.2.2.2.1
abbrev Cx.args (κ : Cx) : Array Value := κ.2.2.2.2.2.2.1
abbrev Cx.below (κ : Cx) : List Frame := κ.2.2.2.2.2.2.2.1
abbrev Cx.meth (κ : Cx) : Method := κ.2.2.2.2.2.2.2.2.1
abbrev Cx.c (κ : Cx) : Code := κ.2.2.2.2.2.2.2.2.2.1
abbrev Cx.Z (κ : Cx) : State := κ.2.2.2.2.2.2.2.2.2.2.1
abbrev Cx.a0 (κ : Cx) : Array Value := κ.2.2.2.2.2.2.2.2.2.2.2.1
abbrev Cx.n0 (κ : Cx) : Nat := κ.2.2.2.2.2.2.2.2.2.2.2.2.1
abbrev Cx.E (κ : Cx) : Outcome → State → List Loc → Prop := κ.2.2.2.2.2.2.2.2.2.2.2.2.2.1
abbrev Cx.kmin (κ : Cx) : Nat := κ.2.2.2.2.2.2.2.2.2.2.2.2.2.2.1
abbrev Cx.s0 (κ : Cx) : State := κ.2.2.2.2.2.2.2.2.2.2.2.2.2.2.2
/-- what is known of the context throughout the walk of a body -/
def OkK (km : Nat) (κ : Cx) (l : Launch) (Z : State) (a0 : Array Value) (n0 : Nat) (R : Room) (own nm : String) (bytes : ByteArray) (maxL : Nat) (ret : Option FieldType) : Prop :=
  κ.p.tables.exec = Jvm.exec ∧ κ.c.code = bytes ∧ κ.c.maxLocals = maxL ∧ κ.Z.Warmed39 κ.s.vm ∧ κ.s.vm.findClass own = some κ.m.cls ∧ κ.meth.sig.returnType = ret ∧ κ.meth.locks = false ∧ κ.meth.name = nm ∧ κ.l = l ∧ κ.Z = Z ∧ κ.a0 = a0 ∧ κ.n0 = n0 ∧ κ.R = R ∧ κ.kmin = km ∧ (∀ o t L, FrameEnd κ.s o t L κ.R.cells κ.R.slots → κ.kmin ≤ t.heap.size → κ.E o t L)
abbrev Ok (κ : Cx) (l : Launch) (Z : State) (a0 : Array Value) (n0 : Nat) (R : Room) (own nm : String) (bytes : ByteArray) (maxL : Nat) (ret : Option FieldType) : Prop := OkK 0 κ l Z a0 n0 R own nm bytes maxL ret
section B
variable {km : Nat} {κ : Cx} {l : Launch} {Z : State} {a0 : Array Value} {n0 : Nat} {R : Room} {own nm : String} {bytes : ByteArray} {maxL : Nat} {ret : Option FieldType}
theorem OkK.exec (B : OkK km κ l Z a0 n0 R own nm bytes maxL ret) : κ.p.tables.exec = Jvm.exec := B.1
theorem OkK.byt (B : OkK km κ l Z a0 n0 R own nm bytes maxL ret) : κ.c.code = bytes := B.2.1
theorem OkK.mxl (B : OkK km κ l Z a0 n0 R own nm bytes maxL ret) : κ.c.maxLocals = maxL := B.2.2.1
theorem OkK.warm (B : OkK km κ l Z a0 n0 R own nm bytes maxL ret) : Z.Warmed39 κ.s.vm := B.2.2.2.2.2.2.2.2.2.1 ▸ B.2.2.2.1
theorem OkK.hown (B : OkK km κ l Z a0 n0 R own nm bytes maxL ret) : κ.s.vm.findClass own = some κ.m.cls := B.2.2.2.2.1
theorem OkK.rets (B : OkK km κ l Z a0 n0 R own nm bytes maxL ret) : κ.meth.sig.returnType = ret := B.2.2.2.2.2.1
theorem OkK.nolock (B : OkK km κ l Z a0 n0 R own nm bytes maxL ret) : κ.meth.locks = false := B.2.2.2.2.2.2.1
theorem OkK.name (B : OkK km κ l Z a0 n0 R own nm bytes maxL ret) : κ.meth.name = nm := B.2.2.2.2.2.2.2.1
theorem OkK.hl (B : OkK km κ l Z a0 n0 R own nm bytes maxL ret) : κ.l = l := B.2.2.2.2.2.2.2.2.1
theorem OkK.hn (B : OkK km κ l Z a0 n0 R own nm bytes maxL ret) : κ.n0 = n0 := B.2.2.2.2.2.2.2.2.2.2.2.1
theorem OkK.room (B : OkK km κ l Z a0 n0 R own nm bytes maxL ret) : κ.R = R := B.2.2.2.2.2.2.2.2.2.2.2.2.1
theorem OkK.hkm (B : OkK km κ l Z a0 n0 R own nm bytes maxL ret) : κ.kmin = km := B.2.2.2.2.2.2.2.2.2.2.2.2.2.1
theorem OkK.hE (B : OkK km κ l Z a0 n0 R own nm bytes maxL ret) : ∀ o t L, FrameEnd κ.s o t L κ.R.cells κ.R.slots → κ.kmin ≤ t.heap.size → κ.E o t L := B.2.2.2.2.2.2.2.2.2.2.2.2.2.2
end B
/-- FROM HERE THE RUN ENDS AS Q SAYS: heap h, k cells and n slots made so far, the frame at pc with locals L and operands st -/
def Go (κ : Cx) (Q : Option Value → Heap → Prop) (h : Heap) (k n pc : Nat) (L : Array Slot) (st : List Value) : Prop :=
  ∀ (T : State) (locs : List Loc), Stand κ.p κ.l κ.e κ.R κ.s κ.m κ.args κ.below κ.meth κ.c T locs k n → Fr κ.n0 locs → T.heap = h →
    ∃ t o, Steps κ.p.tables κ.e κ.below (T.setTop (mkF κ.m pc L st)) t ∧ t.status = .running ∧ Ended t κ.below o ∧ ∃ v L', o = .returned v ∧ (Q v t.heap ∧ Fr κ.n0 L') ∧ κ.E o t L'
/-- a decode fact with the next pc -/
def Dc (bytes : ByteArray) (pc : Nat) (i : Instr) (len pc' : Nat) : Prop := decode bytes pc = .ok (i, len) ∧ pc + len = pc'
/-- a branch's decode fact: the pc behind it, the pc that it goes to -/
def Db (bytes : ByteArray) (pc : Nat) (i : Instr) (o : Int) (pc1 pc2 : Nat) : Prop := decode bytes pc = .ok (i, 3) ∧ pc + 3 = pc1 ∧ (pc : Int) + o = (pc2 : Int)
/-- a body's contract: with these arguments at this heap it ends as Q says -/
def Ct (l : Launch) (Z : State) (n0 : Nat) (y : MethodName) (bytes : ByteArray) (maxL : Nat) (ret : Option FieldType) (ws : List Jvm.Cond) (rm : Room) (as' : Array Value) (h0 : Heap) (Q : Option Value → Heap → Prop) : Prop :=
  MetFree l y (head1 (Jvm.Cond.code y bytes maxL ret :: ws) rm) (fun a U => a = as' ∧ Z.Warmed39 U.vm ∧ U.heap = h0) (fun _ _ _ _ _ => True) (fun _ U o U' => ∃ v L, o = .returned v ∧ (Q v U'.heap ∧ Fr n0 L) ∧ FrameEnd U o U' L rm.cells rm.slots)
theorem Ct.of {l : Launch} {Z : State} {a0 : Array Value} {n0 : Nat} {y : MethodName} {bytes : ByteArray} {maxL : Nat} {ret : Option FieldType} {ws : List Jvm.Cond} {rm : Room} {as' : Array Value} {h0 : Heap} {Q : Option Value → Heap → Prop} {L0 : Array Slot}
    (hp : plainFor y = true) (hf : ∀ m : MethodId, entryFrame m as' maxL = mkF m 0 L0 [])
    (body : ∀ κ : Cx, Ok κ l Z a0 n0 rm y.cls y.name bytes maxL ret → Go κ Q h0 0 0 0 L0 []) : Ct l Z n0 y bytes maxL ret ws rm as' h0 Q := by
  refine MetFree.of_bodySF hp hisR ?_
  intro p e s m args below meth c s₁ Bd hml0 hP hK
  obtain ⟨rfl, hZ, hh⟩ := hP
  have hown : s.vm.findClass y.cls = some m.cls := findClass_of_methodNamed Bd.named
  have hnm := (name_of_methodNamed Bd.named Bd.method).1
  have X0 : Stand p l e rm s m args below meth c s₁ [] 0 0 := Stand.of_body Bd
  have e0 : s₁.heap = h0 := by rw [← hh, Bd.state]; rfl
  have q := body (p, l, e, rm, s, m, args, below, meth, c, Z, a0, n0, fun o t L => FrameEnd s o t L rm.cells rm.slots, 0, s) ⟨Bd.exec, Bd.bytes, hml0, hZ, hown, Bd.returns, Bd.notSynchronized, hnm, rfl, rfl, rfl, rfl, rfl, rfl, fun _ _ _ q _ => q⟩ s₁ [] X0 (Fr.nil n0) e0
  obtain ⟨t, o, h1, h2, h3, h4⟩ := q
  exact ⟨t, o, castTop (hf m) h1, h2, h3, h4⟩
section G
variable {km : Nat} {κ : Cx} {l : Launch} {Z : State} {a0 : Array Value} {n0 : Nat} {R : Room} {own nm : String} {bytes : ByteArray} {maxL : Nat} {ret : Option FieldType} {Q : Option Value → Heap → Prop} {h : Heap} {k n pc pc' pc1 pc2 : Nat} {L L' : Array Slot} {st st' : List Value} {o : Int} {x y : Int32} {u w : Int64} {a : Addr} {v v' : Value}
theorem go_step (hs : ∀ (T : State) (locs : List Loc), Stand κ.p κ.l κ.e κ.R κ.s κ.m κ.args κ.below κ.meth κ.c T locs k n → T.heap = h → ∀ target, Steps κ.p.tables κ.e κ.below (T.setTop (mkF κ.m pc' L' st')) target → Steps κ.p.tables κ.e κ.below (T.setTop (mkF κ.m pc L st)) target)
    (g : Go κ Q h k n pc' L' st') : Go κ Q h k n pc L st := fun T locs X N e => by
  obtain ⟨t, o, h1, h2⟩ := g T locs X N e
  exact ⟨t, o, hs T locs X e t h1, h2⟩
theorem go_cast {h' : Heap} {k' n' : Nat} (g : Go κ Q h' k' n' pc' L' st') (e1 : h' = h) (e2 : k' = k) (e3 : n' = n) (e4 : pc' = pc) (e5 : L' = L) (e6 : st' = st) : Go κ Q h k n pc L st := by
  subst e1 e2 e3 e4 e5 e6; exact g
theorem go_mono {Q' : Option Value → Heap → Prop} (g : Go κ Q h k n pc L st) (q : ∀ v h', Q v h' → Q' v h') : Go κ Q' h k n pc L st := fun T locs X N e => by
  obtain ⟨t, o, h1, h2, h3, v, L', h4, ⟨h5, h6⟩, h7⟩ := g T locs X N e
  exact ⟨t, o, h1, h2, h3, v, L', h4, ⟨q _ _ h5, h6⟩, h7⟩
theorem go_iadd (B : OkK km κ l Z a0 n0 R own nm bytes maxL ret) (hd : Dc bytes pc (.iadd) 1 pc') (g : Go κ Q h k n pc' L (.int (x + y) :: st)) : Go κ Q h k n pc L (.int y :: .int x :: st) := by
  obtain ⟨d, rfl⟩ := hd
  exact go_step (fun T locs X e t q => XS.iadd X.here B.exec rfl (hb B.byt d) rfl q) g
theorem go_isub (B : OkK km κ l Z a0 n0 R own nm bytes maxL ret) (hd : Dc bytes pc (.isub) 1 pc') (g : Go κ Q h k n pc' L (.int (x - y) :: st)) : Go κ Q h k n pc L (.int y :: .int x :: st) := by
  obtain ⟨d, rfl⟩ := hd
  exact go_step (fun T locs X e t q => XS.isub X.here B.exec rfl (hb B.byt d) rfl q) g
theorem go_iand (B : OkK km κ l Z a0 n0 R own nm bytes maxL ret) (hd : Dc bytes pc (.iand) 1 pc') (g : Go κ Q h k n pc' L (.int (x &&& y) :: st)) : Go κ Q h k n pc L (.int y :: .int x :: st) := by
  obtain ⟨d, rfl⟩ := hd
  exact go_step (fun T locs X e t q => XS.iand X.here B.exec rfl (hb B.byt d) rfl q) g
theorem go_imul (B : OkK km κ l Z a0 n0 R own nm bytes maxL ret) (hd : Dc bytes pc (.imul) 1 pc') (g : Go κ Q h k n pc' L (.int (x * y) :: st)) : Go κ Q h k n pc L (.int y :: .int x :: st) := by
  obtain ⟨d, rfl⟩ := hd
  exact go_step (fun T locs X e t q => XS.imul X.here B.exec rfl (hb B.byt d) rfl q) g
theorem go_ixor (B : OkK km κ l Z a0 n0 R own nm bytes maxL ret) (hd : Dc bytes pc (.ixor) 1 pc') (g : Go κ Q h k n pc' L (.int (x ^^^ y) :: st)) : Go κ Q h k n pc L (.int y :: .int x :: st) := by
  obtain ⟨d, rfl⟩ := hd
  exact go_step (fun T locs X e t q => XT.ixor X.here B.exec rfl (hb B.byt d) rfl q) g
theorem go_ior (B : OkK km κ l Z a0 n0 R own nm bytes maxL ret) (hd : Dc bytes pc (.ior) 1 pc') (g : Go κ Q h k n pc' L (.int (x ||| y) :: st)) : Go κ Q h k n pc L (.int y :: .int x :: st) := by
  obtain ⟨d, rfl⟩ := hd
  exact go_step (fun T locs X e t q => XT.ior X.here B.exec rfl (hb B.byt d) rfl q) g
theorem go_ishl (B : OkK km κ l Z a0 n0 R own nm bytes maxL ret) (hd : Dc bytes pc (.ishl) 1 pc') (g : Go κ Q h k n pc' L (.int (x <<< (y &&& 31)) :: st)) : Go κ Q h k n pc L (.int y :: .int x :: st) := by
  obtain ⟨d, rfl⟩ := hd
  exact go_step (fun T locs X e t q => XT.ishl X.here B.exec rfl (hb B.byt d) rfl q) g
theorem go_ishr (B : OkK km κ l Z a0 n0 R own nm bytes maxL ret) (hd : Dc bytes pc (.ishr) 1 pc') (g : Go κ Q h k n pc' L (.int (x >>> (y &&& 31)) :: st)) : Go κ Q h k n pc L (.int y :: .int x :: st) := by
  obtain ⟨d, rfl⟩ := hd
  exact go_step (fun T locs X e t q => XT.ishr X.here B.exec rfl (hb B.byt d) rfl q) g
theorem go_iushr (B : OkK km κ l Z a0 n0 R own nm bytes maxL ret) (hd : Dc bytes pc (.iushr) 1 pc') (g : Go κ Q h k n pc' L (.int (XT.ushr x y) :: st)) : Go κ Q h k n pc L (.int y :: .int x :: st) := by
  obtain ⟨d, rfl⟩ := hd
  exact go_step (fun T locs X e t q => XT.iushr X.here B.exec rfl (hb B.byt d) rfl q) g
theorem go_idiv (B : OkK km κ l Z a0 n0 R own nm bytes maxL ret) (hd : Dc bytes pc (.idiv) 1 pc') (hy : y ≠ 0) (g : Go κ Q h k n pc' L (.int (x / y) :: st)) : Go κ Q h k n pc L (.int y :: .int x :: st) := by
  obtain ⟨d, rfl⟩ := hd
  exact go_step (fun T locs X e t q => XS.idiv X.here B.exec rfl (hb B.byt d) rfl hy q) g
theorem go_irem (B : OkK km κ l Z a0 n0 R own nm bytes maxL ret) (hd : Dc bytes pc (.irem) 1 pc') (hy : y ≠ 0) (g : Go κ Q h k n pc' L (.int (x % y) :: st)) : Go κ Q h k n pc L (.int y :: .int x :: st) := by
  obtain ⟨d, rfl⟩ := hd
  exact go_step (fun T locs X e t q => iremM X B.exec rfl (hb B.byt d) rfl hy q) g
theorem go_ineg (B : OkK km κ l Z a0 n0 R own nm bytes maxL ret) (hd : Dc bytes pc (.ineg) 1 pc') (g : Go κ Q h k n pc' L (.int (-x) :: st)) : Go κ Q h k n pc L (.int x :: st) := by
  obtain ⟨d, rfl⟩ := hd
  exact go_step (fun T locs X e t q => XS.ineg X.here B.exec rfl (hb B.byt d) rfl q) g
theorem go_ladd (B : OkK km κ l Z a0 n0 R own nm bytes maxL ret) (hd : Dc bytes pc (.ladd) 1 pc') (g : Go κ Q h k n pc' L (.long (u + w) :: st)) : Go κ Q h k n pc L (.long w :: .long u :: st) := by
  obtain ⟨d, rfl⟩ := hd
  exact go_step (fun T locs X e t q => XT.ladd X.here B.exec rfl (hb B.byt d) rfl q) g
theorem go_lsub (B : OkK km κ l Z a0 n0 R own nm bytes maxL ret) (hd : Dc bytes pc (.lsub) 1 pc') (g : Go κ Q h k n pc' L (.long (u - w) :: st)) : Go κ Q h k n pc L (.long w :: .long u :: st) := by
  obtain ⟨d, rfl⟩ := hd
  exact go_step (fun T locs X e t q => XT.lsub X.here B.exec rfl (hb B.byt d) rfl q) g
theorem go_lmul (B : OkK km κ l Z a0 n0 R own nm bytes maxL ret) (hd : Dc bytes pc (.lmul) 1 pc') (g : Go κ Q h k n pc' L (.long (u * w) :: st)) : Go κ Q h k n pc L (.long w :: .long u :: st) := by
  obtain ⟨d, rfl⟩ := hd
  exact go_step (fun T locs X e t q => XT.lmul X.here B.exec rfl (hb B.byt d) rfl q) g
theorem go_land (B : OkK km κ l Z a0 n0 R own nm bytes maxL ret) (hd : Dc bytes pc (.land) 1 pc') (g : Go κ Q h k n pc' L (.long (u &&& w) :: st)) : Go κ Q h k n pc L (.long w :: .long u :: st) := by
  obtain ⟨d, rfl⟩ := hd
  exact go_step (fun T locs X e t q => XT.land X.here B.exec rfl (hb B.byt d) rfl q) g
theorem go_lor (B : OkK km κ l Z a0 n0 R own nm bytes maxL ret) (hd : Dc bytes pc (.lor) 1 pc') (g : Go κ Q h k n pc' L (.long (u ||| w) :: st)) : Go κ Q h k n pc L (.long w :: .long u :: st) := by
  obtain ⟨d, rfl⟩ := hd
  exact go_step (fun T locs X e t q => XT.lor X.here B.exec rfl (hb B.byt d) rfl q) g
theorem go_lxor (B : OkK km κ l Z a0 n0 R own nm bytes maxL ret) (hd : Dc bytes pc (.lxor) 1 pc') (g : Go κ Q h k n pc' L (.long (u ^^^ w) :: st)) : Go κ Q h k n pc L (.long w :: .long u :: st) := by
  obtain ⟨d, rfl⟩ := hd
  exact go_step (fun T locs X e t q => XT.lxor X.here B.exec rfl (hb B.byt d) rfl q) g
theorem go_ldiv (B : OkK km κ l Z a0 n0 R own nm bytes maxL ret) (hd : Dc bytes pc (.ldiv) 1 pc') (hy : w ≠ 0) (g : Go κ Q h k n pc' L (.long (u / w) :: st)) : Go κ Q h k n pc L (.long w :: .long u :: st) := by
  obtain ⟨d, rfl⟩ := hd
  exact go_step (fun T locs X e t q => XT.ldiv X.here B.exec rfl (hb B.byt d) rfl hy q) g
theorem go_lrem (B : OkK km κ l Z a0 n0 R own nm bytes maxL ret) (hd : Dc bytes pc (.lrem) 1 pc') (hy : w ≠ 0) (g : Go κ Q h k n pc' L (.long (u - (u / w) * w) :: st)) : Go κ Q h k n pc L (.long w :: .long u :: st) := by
  obtain ⟨d, rfl⟩ := hd
  exact go_step (fun T locs X e t q => XT.lrem X.here B.exec rfl (hb B.byt d) rfl hy q) g
theorem go_lshl (B : OkK km κ l Z a0 n0 R own nm bytes maxL ret) (hd : Dc bytes pc (.lshl) 1 pc') (g : Go κ Q h k n pc' L (.long (u <<< (y.toInt64 &&& 63)) :: st)) : Go κ Q h k n pc L (.int y :: .long u :: st) := by
  obtain ⟨d, rfl⟩ := hd
  exact go_step (fun T locs X e t q => XT.lshl X.here B.exec rfl (hb B.byt d) rfl q) g
theorem go_lshr (B : OkK km κ l Z a0 n0 R own nm bytes maxL ret) (hd : Dc bytes pc (.lshr) 1 pc') (g : Go κ Q h k n pc' L (.long (u >>> (y.toInt64 &&& 63)) :: st)) : Go κ Q h k n pc L (.int y :: .long u :: st) := by
  obtain ⟨d, rfl⟩ := hd
  exact go_step (fun T locs X e t q => XT.lshr X.here B.exec rfl (hb B.byt d) rfl q) g
theorem go_lushr (B : OkK km κ l Z a0 n0 R own nm bytes maxL ret) (hd : Dc bytes pc (.lushr) 1 pc') (g : Go κ Q h k n pc' L (.long (XT.ushrL u y) :: st)) : Go κ Q h k n pc L (.int y :: .long u :: st) := by
  obtain ⟨d, rfl⟩ := hd
  exact go_step (fun T locs X e t q => XT.lushr X.here B.exec rfl (hb B.byt d) rfl q) g
theorem go_lneg (B : OkK km κ l Z a0 n0 R own nm bytes maxL ret) (hd : Dc bytes pc (.lneg) 1 pc') (g : Go κ Q h k n pc' L (.long (-u) :: st)) : Go κ Q h k n pc L (.long u :: st) := by
  obtain ⟨d, rfl⟩ := hd
  exact go_step (fun T locs X e t q => XT.lneg X.here B.exec rfl (hb B.byt d) rfl q) g
theorem go_i2l (B : OkK km κ l Z a0 n0 R own nm bytes maxL ret) (hd : Dc bytes pc (.i2l) 1 pc') (g : Go κ Q h k n pc' L (.long x.toInt64 :: st)) : Go κ Q h k n pc L (.int x :: st) := by
  obtain ⟨d, rfl⟩ := hd
  exact go_step (fun T locs X e t q => XT.i2l X.here B.exec rfl (hb B.byt d) rfl q) g
theorem go_l2i (B : OkK km κ l Z a0 n0 R own nm bytes maxL ret) (hd : Dc bytes pc (.l2i) 1 pc') (g : Go κ Q h k n pc' L (.int u.toInt32 :: st)) : Go κ Q h k n pc L (.long u :: st) := by
  obtain ⟨d, rfl⟩ := hd
  exact go_step (fun T locs X e t q => XT.l2i X.here B.exec rfl (hb B.byt d) rfl q) g
theorem go_i2b (B : OkK km κ l Z a0 n0 R own nm bytes maxL ret) (hd : Dc bytes pc (.i2b) 1 pc') (g : Go κ Q h k n pc' L (.int x.toInt8.toInt32 :: st)) : Go κ Q h k n pc L (.int x :: st) := by
  obtain ⟨d, rfl⟩ := hd
  exact go_step (fun T locs X e t q => XT.i2b X.here B.exec rfl (hb B.byt d) rfl q) g
theorem go_i2c (B : OkK km κ l Z a0 n0 R own nm bytes maxL ret) (hd : Dc bytes pc (.i2c) 1 pc') (g : Go κ Q h k n pc' L (.int x.toUInt32.toUInt16.toUInt32.toInt32 :: st)) : Go κ Q h k n pc L (.int x :: st) := by
  obtain ⟨d, rfl⟩ := hd
  exact go_step (fun T locs X e t q => XT.i2c X.here B.exec rfl (hb B.byt d) rfl q) g
theorem go_lcmp (B : OkK km κ l Z a0 n0 R own nm bytes maxL ret) (hd : Dc bytes pc (.lcmp) 1 pc') (g : Go κ Q h k n pc' L (.int (XT.cmpL u w) :: st)) : Go κ Q h k n pc L (.long w :: .long u :: st) := by
  obtain ⟨d, rfl⟩ := hd
  exact go_step (fun T locs X e t q => XT.lcmp X.here B.exec rfl (hb B.byt d) rfl q) g
theorem go_pop (B : OkK km κ l Z a0 n0 R own nm bytes maxL ret) (hd : Dc bytes pc (.pop) 1 pc') (hc : v.category = 1) (g : Go κ Q h k n pc' L (st)) : Go κ Q h k n pc L (v :: st) := by
  obtain ⟨d, rfl⟩ := hd
  exact go_step (fun T locs X e t q => XT.pop X.here B.exec rfl (hb B.byt d) rfl hc q) g
theorem go_dup (B : OkK km κ l Z a0 n0 R own nm bytes maxL ret) (hd : Dc bytes pc (.dup) 1 pc') (hc : v.category = 1) (g : Go κ Q h k n pc' L (v :: v :: st)) : Go κ Q h k n pc L (v :: st) := by
  obtain ⟨d, rfl⟩ := hd
  exact go_step (fun T locs X e t q => XS.dup X.here B.exec rfl (hb B.byt d) rfl hc q) g
theorem go_dup_x1 (B : OkK km κ l Z a0 n0 R own nm bytes maxL ret) (hd : Dc bytes pc (.dup_x1) 1 pc') (hc : v.category = 1) (hc' : v'.category = 1) (g : Go κ Q h k n pc' L (v :: v' :: v :: st)) : Go κ Q h k n pc L (v :: v' :: st) := by
  obtain ⟨d, rfl⟩ := hd
  exact go_step (fun T locs X e t q => XT.dupX1 X.here B.exec rfl (hb B.byt d) rfl hc hc' q) g
theorem go_dup2 (B : OkK km κ l Z a0 n0 R own nm bytes maxL ret) (hd : Dc bytes pc (.dup2) 1 pc') (hc : v.category = 1) (hc' : v'.category = 1) (g : Go κ Q h k n pc' L (v :: v' :: v :: v' :: st)) : Go κ Q h k n pc L (v :: v' :: st) := by
  obtain ⟨d, rfl⟩ := hd
  exact go_step (fun T locs X e t q => XT.dup2 X.here B.exec rfl (hb B.byt d) rfl hc hc' q) g
theorem go_dup2l (B : OkK km κ l Z a0 n0 R own nm bytes maxL ret) (hd : Dc bytes pc (.dup2) 1 pc') (g : Go κ Q h k n pc' L (.long u :: .long u :: st)) : Go κ Q h k n pc L (.long u :: st) := by
  obtain ⟨d, rfl⟩ := hd
  exact go_step (fun T locs X e t q => XT.dup2L X.here B.exec rfl (hb B.byt d) rfl q) g
theorem go_iconst (B : OkK km κ l Z a0 n0 R own nm bytes maxL ret) (hd : Dc bytes pc (.iconst o) 1 pc') (hv : Int32.ofInt o = x) (g : Go κ Q h k n pc' L (.int x :: st)) : Go κ Q h k n pc L (st) := by
  obtain ⟨d, rfl⟩ := hd
  exact go_step (fun T locs X e t q => XT.iconstV X.here B.exec rfl x (hb B.byt d) hv q) g
theorem go_bipush (B : OkK km κ l Z a0 n0 R own nm bytes maxL ret) (hd : Dc bytes pc (.bipush o) 2 pc') (hv : (Int8.ofInt o).toInt32 = x) (g : Go κ Q h k n pc' L (.int x :: st)) : Go κ Q h k n pc L (st) := by
  obtain ⟨d, rfl⟩ := hd
  exact go_step (fun T locs X e t q => XT.bipushV X.here B.exec rfl x (hb B.byt d) hv q) g
theorem go_sipush (B : OkK km κ l Z a0 n0 R own nm bytes maxL ret) (hd : Dc bytes pc (.sipush o) 3 pc') (hv : (Int16.ofInt o).toInt32 = x) (g : Go κ Q h k n pc' L (.int x :: st)) : Go κ Q h k n pc L (st) := by
  obtain ⟨d, rfl⟩ := hd
  exact go_step (fun T locs X e t q => XT.sipushV X.here B.exec rfl x (hb B.byt d) hv q) g
theorem go_lconst (B : OkK km κ l Z a0 n0 R own nm bytes maxL ret) {j : Fin 2} (hd : Dc bytes pc (.lconst j) 1 pc') (hv : Int64.ofNat j = u) (g : Go κ Q h k n pc' L (.long u :: st)) : Go κ Q h k n pc L (st) := by
  obtain ⟨d, rfl⟩ := hd
  exact go_step (fun T locs X e t q => XT.lconstV X.here B.exec rfl u (hb B.byt d) hv q) g
theorem go_aconst_null (B : OkK km κ l Z a0 n0 R own nm bytes maxL ret) (hd : Dc bytes pc (.aconst_null) 1 pc') (g : Go κ Q h k n pc' L (.null :: st)) : Go κ Q h k n pc L (st) := by
  obtain ⟨d, rfl⟩ := hd
  exact go_step (fun T locs X e t q => XS.aconstNull X.here B.exec rfl (hb B.byt d) q) g
theorem go_iload_n (B : OkK km κ l Z a0 n0 R own nm bytes maxL ret) {j : Fin 4} (hd : Dc bytes pc (.iload_n j) 1 pc') (hl : L[j.val]? = some (.val (.int x))) (g : Go κ Q h k n pc' L (.int x :: st)) : Go κ Q h k n pc L (st) := by
  obtain ⟨d, rfl⟩ := hd
  exact go_step (fun T locs X e t q => XS.iloadN X.here B.exec rfl (hb B.byt d) hl q) g
theorem go_iload (B : OkK km κ l Z a0 n0 R own nm bytes maxL ret) {j : Nat} (hd : Dc bytes pc (.iload j) 2 pc') (hl : L[j]? = some (.val (.int x))) (g : Go κ Q h k n pc' L (.int x :: st)) : Go κ Q h k n pc L (st) := by
  obtain ⟨d, rfl⟩ := hd
  exact go_step (fun T locs X e t q => XS.iload X.here B.exec rfl (hb B.byt d) hl q) g
theorem go_istore_n (B : OkK km κ l Z a0 n0 R own nm bytes maxL ret) {j : Fin 4} (L' : Array Slot) (hd : Dc bytes pc (.istore_n j) 1 pc') (hl : storeLocals L j.val (.int x) = some L') (g : Go κ Q h k n pc' L' st) : Go κ Q h k n pc L (.int x :: st) := by
  obtain ⟨d, rfl⟩ := hd
  exact go_step (fun T locs X e t q => XS.istoreN X.here B.exec rfl (hb B.byt d) rfl hl q) g
theorem go_istore (B : OkK km κ l Z a0 n0 R own nm bytes maxL ret) {j : Nat} (L' : Array Slot) (hd : Dc bytes pc (.istore j) 2 pc') (hl : storeLocals L j (.int x) = some L') (g : Go κ Q h k n pc' L' st) : Go κ Q h k n pc L (.int x :: st) := by
  obtain ⟨d, rfl⟩ := hd
  exact go_step (fun T locs X e t q => XS.istore X.here B.exec rfl (hb B.byt d) rfl hl q) g
theorem go_lload_n (B : OkK km κ l Z a0 n0 R own nm bytes maxL ret) {j : Fin 4} (hd : Dc bytes pc (.lload_n j) 1 pc') (hl : L[j.val]? = some (.val (.long u))) (g : Go κ Q h k n pc' L (.long u :: st)) : Go κ Q h k n pc L (st) := by
  obtain ⟨d, rfl⟩ := hd
  exact go_step (fun T locs X e t q => XT.lloadN X.here B.exec rfl (hb B.byt d) hl q) g
theorem go_lload (B : OkK km κ l Z a0 n0 R own nm bytes maxL ret) {j : Nat} (hd : Dc bytes pc (.lload j) 2 pc') (hl : L[j]? = some (.val (.long u))) (g : Go κ Q h k n pc' L (.long u :: st)) : Go κ Q h k n pc L (st) := by
  obtain ⟨d, rfl⟩ := hd
  exact go_step (fun T locs X e t q => XT.lload X.here B.exec rfl (hb B.byt d) hl q) g
theorem go_lstore_n (B : OkK km κ l Z a0 n0 R own nm bytes maxL ret) {j : Fin 4} (L' : Array Slot) (hd : Dc bytes pc (.lstore_n j) 1 pc') (hl : storeLocals L j.val (.long u) = some L') (g : Go κ Q h k n pc' L' st) : Go κ Q h k n pc L (.long u :: st) := by
  obtain ⟨d, rfl⟩ := hd
  exact go_step (fun T locs X e t q => XT.lstoreN X.here B.exec rfl (hb B.byt d) rfl hl q) g
theorem go_lstore (B : OkK km κ l Z a0 n0 R own nm bytes maxL ret) {j : Nat} (L' : Array Slot) (hd : Dc bytes pc (.lstore j) 2 pc') (hl : storeLocals L j (.long u) = some L') (g : Go κ Q h k n pc' L' st) : Go κ Q h k n pc L (.long u :: st) := by
  obtain ⟨d, rfl⟩ := hd
  exact go_step (fun T locs X e t q => XT.lstore X.here B.exec rfl (hb B.byt d) rfl hl q) g
theorem go_aload_n (B : OkK km κ l Z a0 n0 R own nm bytes maxL ret) {j : Fin 4} (hd : Dc bytes pc (.aload_n j) 1 pc') (hl : L[j.val]? = some (.val (v))) (hv : v.isRef = true) (g : Go κ Q h k n pc' L (v :: st)) : Go κ Q h k n pc L (st) := by
  obtain ⟨d, rfl⟩ := hd
  exact go_step (fun T locs X e t q => XS.aloadN X.here B.exec rfl (hb B.byt d) hl hv q) g
theorem go_aload (B : OkK km κ l Z a0 n0 R own nm bytes maxL ret) {j : Nat} (hd : Dc bytes pc (.aload j) 2 pc') (hl : L[j]? = some (.val (v))) (hv : v.isRef = true) (g : Go κ Q h k n pc' L (v :: st)) : Go κ Q h k n pc L (st) := by
  obtain ⟨d, rfl⟩ := hd
  exact go_step (fun T locs X e t q => XS.aload X.here B.exec rfl (hb B.byt d) hl hv q) g
theorem go_astore_n (B : OkK km κ l Z a0 n0 R own nm bytes maxL ret) {j : Fin 4} (L' : Array Slot) (hd : Dc bytes pc (.astore_n j) 1 pc') (hv : v.isRef = true) (hl : storeLocals L j.val (v) = some L') (g : Go κ Q h k n pc' L' st) : Go κ Q h k n pc L (v :: st) := by
  obtain ⟨d, rfl⟩ := hd
  exact go_step (fun T locs X e t q => XS.astoreN X.here B.exec rfl (hb B.byt d) rfl hv hl q) g
theorem go_astore (B : OkK km κ l Z a0 n0 R own nm bytes maxL ret) {j : Nat} (L' : Array Slot) (hd : Dc bytes pc (.astore j) 2 pc') (hv : v.isRef = true) (hl : storeLocals L j (v) = some L') (g : Go κ Q h k n pc' L' st) : Go κ Q h k n pc L (v :: st) := by
  obtain ⟨d, rfl⟩ := hd
  exact go_step (fun T locs X e t q => XS.astore X.here B.exec rfl (hb B.byt d) rfl hv hl q) g
theorem go_iinc (B : OkK km κ l Z a0 n0 R own nm bytes maxL ret) {j : Nat} {z : Int32} (L' : Array Slot) (hd : Dc bytes pc (.iinc j o) 3 pc') (hz : Int32.ofInt o = z) (hl : L[j]? = some (.val (.int x))) (hl' : storeLocals L j (.int (x + z)) = some L') (g : Go κ Q h k n pc' L' st) : Go κ Q h k n pc L st := by
  obtain ⟨d, rfl⟩ := hd
  subst hz
  exact go_step (fun T locs X e t q => XS.iinc X.here B.exec rfl (hb B.byt d) hl hl' q) g
theorem go_goto (B : OkK km κ l Z a0 n0 R own nm bytes maxL ret) (hd : Db bytes pc (.goto o) o pc1 pc2) (g : Go κ Q h k n pc2 L st) : Go κ Q h k n pc L st := by
  obtain ⟨d, -, e2⟩ := hd
  exact go_step (fun T locs X e t q => XS.goto X.here B.exec rfl (pc0 := pc) rfl (hb B.byt d) (by omega) (by omega) q) g
theorem go_icmpeq (B : OkK km κ l Z a0 n0 R own nm bytes maxL ret) (hd : Db bytes pc (.if_icmp .eq o) o pc1 pc2) (gt : x = y → Go κ Q h k n pc2 L st) (gf : ¬ x = y → Go κ Q h k n pc1 L st) : Go κ Q h k n pc L (.int y :: .int x :: st) := by
  obtain ⟨d, rfl, e2⟩ := hd
  rcases Classical.em (x = y) with q0 | q0
  · exact go_step (fun T locs X e t q => XS.icmpYes X.here B.exec rfl (pc0 := pc) rfl (hb B.byt d) rfl (XT.ii_eq_t q0) (by omega) (by omega) q) (gt q0)
  · exact go_step (fun T locs X e t q => XS.icmpNo X.here B.exec rfl (hb B.byt d) rfl (XT.ii_eq_f q0) q) (gf q0)
theorem go_icmpne (B : OkK km κ l Z a0 n0 R own nm bytes maxL ret) (hd : Db bytes pc (.if_icmp .ne o) o pc1 pc2) (gt : ¬ x = y → Go κ Q h k n pc2 L st) (gf : x = y → Go κ Q h k n pc1 L st) : Go κ Q h k n pc L (.int y :: .int x :: st) := by
  obtain ⟨d, rfl, e2⟩ := hd
  rcases Classical.em (¬ x = y) with q0 | q0
  · exact go_step (fun T locs X e t q => XS.icmpYes X.here B.exec rfl (pc0 := pc) rfl (hb B.byt d) rfl (XT.ii_ne_t q0) (by omega) (by omega) q) (gt q0)
  · exact go_step (fun T locs X e t q => XS.icmpNo X.here B.exec rfl (hb B.byt d) rfl (XT.ii_ne_f (Classical.not_not.mp q0)) q) (gf (Classical.not_not.mp q0))
theorem go_icmplt (B : OkK km κ l Z a0 n0 R own nm bytes maxL ret) (hd : Db bytes pc (.if_icmp .lt o) o pc1 pc2) (gt : x < y → Go κ Q h k n pc2 L st) (gf : ¬ x < y → Go κ Q h k n pc1 L st) : Go κ Q h k n pc L (.int y :: .int x :: st) := by
  obtain ⟨d, rfl, e2⟩ := hd
  rcases Classical.em (x < y) with q0 | q0
  · exact go_step (fun T locs X e t q => XS.icmpYes X.here B.exec rfl (pc0 := pc) rfl (hb B.byt d) rfl (XT.ii_lt_t q0) (by omega) (by omega) q) (gt q0)
  · exact go_step (fun T locs X e t q => XS.icmpNo X.here B.exec rfl (hb B.byt d) rfl (XT.ii_lt_f q0) q) (gf q0)
theorem go_icmpge (B : OkK km κ l Z a0 n0 R own nm bytes maxL ret) (hd : Db bytes pc (.if_icmp .ge o) o pc1 pc2) (gt : ¬ x < y → Go κ Q h k n pc2 L st) (gf : x < y → Go κ Q h k n pc1 L st) : Go κ Q h k n pc L (.int y :: .int x :: st) := by
  obtain ⟨d, rfl, e2⟩ := hd
  rcases Classical.em (¬ x < y) with q0 | q0
  · exact go_step (fun T locs X e t q => XS.icmpYes X.here B.exec rfl (pc0 := pc) rfl (hb B.byt d) rfl (XT.ii_ge_t q0) (by omega) (by omega) q) (gt q0)
  · exact go_step (fun T locs X e t q => XS.icmpNo X.here B.exec rfl (hb B.byt d) rfl (XT.ii_ge_f (Classical.not_not.mp q0)) q) (gf (Classical.not_not.mp q0))
theorem go_icmpgt (B : OkK km κ l Z a0 n0 R own nm bytes maxL ret) (hd : Db bytes pc (.if_icmp .gt o) o pc1 pc2) (gt : y < x → Go κ Q h k n pc2 L st) (gf : ¬ y < x → Go κ Q h k n pc1 L st) : Go κ Q h k n pc L (.int y :: .int x :: st) := by
  obtain ⟨d, rfl, e2⟩ := hd
  rcases Classical.em (y < x) with q0 | q0
  · exact go_step (fun T locs X e t q => XS.icmpYes X.here B.exec rfl (pc0 := pc) rfl (hb B.byt d) rfl (XT.ii_gt_t q0) (by omega) (by omega) q) (gt q0)
  · exact go_step (fun T locs X e t q => XS.icmpNo X.here B.exec rfl (hb B.byt d) rfl (XT.ii_gt_f q0) q) (gf q0)
theorem go_icmple (B : OkK km κ l Z a0 n0 R own nm bytes maxL ret) (hd : Db bytes pc (.if_icmp .le o) o pc1 pc2) (gt : ¬ y < x → Go κ Q h k n pc2 L st) (gf : y < x → Go κ Q h k n pc1 L st) : Go κ Q h k n pc L (.int y :: .int x :: st) := by
  obtain ⟨d, rfl, e2⟩ := hd
  rcases Classical.em (¬ y < x) with q0 | q0
  · exact go_step (fun T locs X e t q => XS.icmpYes X.here B.exec rfl (pc0 := pc) rfl (hb B.byt d) rfl (XT.ii_le_t q0) (by omega) (by omega) q) (gt q0)
  · exact go_step (fun T locs X e t q => XS.icmpNo X.here B.exec rfl (hb B.byt d) rfl (XT.ii_le_f (Classical.not_not.mp q0)) q) (gf (Classical.not_not.mp q0))
theorem go_ifeq (B : OkK km κ l Z a0 n0 R own nm bytes maxL ret) (hd : Db bytes pc (.ifCond .eq o) o pc1 pc2) (gt : x = 0 → Go κ Q h k n pc2 L st) (gf : ¬ x = 0 → Go κ Q h k n pc1 L st) : Go κ Q h k n pc L (.int x :: st) := by
  obtain ⟨d, rfl, e2⟩ := hd
  rcases Classical.em (x = 0) with q0 | q0
  · exact go_step (fun T locs X e t q => XS.ifYes X.here B.exec rfl (pc0 := pc) rfl (hb B.byt d) rfl (XT.i0_eq_t q0) (by omega) (by omega) q) (gt q0)
  · exact go_step (fun T locs X e t q => XS.ifNo X.here B.exec rfl (hb B.byt d) rfl (XT.i0_eq_f q0) q) (gf q0)
theorem go_ifne (B : OkK km κ l Z a0 n0 R own nm bytes maxL ret) (hd : Db bytes pc (.ifCond .ne o) o pc1 pc2) (gt : ¬ x = 0 → Go κ Q h k n pc2 L st) (gf : x = 0 → Go κ Q h k n pc1 L st) : Go κ Q h k n pc L (.int x :: st) := by
  obtain ⟨d, rfl, e2⟩ := hd
  rcases Classical.em (¬ x = 0) with q0 | q0
  · exact go_step (fun T locs X e t q => XS.ifYes X.here B.exec rfl (pc0 := pc) rfl (hb B.byt d) rfl (XT.i0_ne_t q0) (by omega) (by omega) q) (gt q0)
  · exact go_step (fun T locs X e t q => XS.ifNo X.here B.exec rfl (hb B.byt d) rfl (XT.i0_ne_f (Classical.not_not.mp q0)) q) (gf (Classical.not_not.mp q0))
theorem go_iflt (B : OkK km κ l Z a0 n0 R own nm bytes maxL ret) (hd : Db bytes pc (.ifCond .lt o) o pc1 pc2) (gt : x < 0 → Go κ Q h k n pc2 L st) (gf : ¬ x < 0 → Go κ Q h k n pc1 L st) : Go κ Q h k n pc L (.int x :: st) := by
  obtain ⟨d, rfl, e2⟩ := hd
  rcases Classical.em (x < 0) with q0 | q0
  · exact go_step (fun T locs X e t q => XS.ifYes X.here B.exec rfl (pc0 := pc) rfl (hb B.byt d) rfl (XT.i0_lt_t q0) (by omega) (by omega) q) (gt q0)
  · exact go_step (fun T locs X e t q => XS.ifNo X.here B.exec rfl (hb B.byt d) rfl (XT.i0_lt_f q0) q) (gf q0)
theorem go_ifge (B : OkK km κ l Z a0 n0 R own nm bytes maxL ret) (hd : Db bytes pc (.ifCond .ge o) o pc1 pc2) (gt : ¬ x < 0 → Go κ Q h k n pc2 L st) (gf : x < 0 → Go κ Q h k n pc1 L st) : Go κ Q h k n pc L (.int x :: st) := by
  obtain ⟨d, rfl, e2⟩ := hd
  rcases Classical.em (¬ x < 0) with q0 | q0
  · exact go_step (fun T locs X e t q => XS.ifYes X.here B.exec rfl (pc0 := pc) rfl (hb B.byt d) rfl (XT.i0_ge_t q0) (by omega) (by omega) q) (gt q0)
  · exact go_step (fun T locs X e t q => XS.ifNo X.here B.exec rfl (hb B.byt d) rfl (XT.i0_ge_f (Classical.not_not.mp q0)) q) (gf (Classical.not_not.mp q0))
theorem go_ifgt (B : OkK km κ l Z a0 n0 R own nm bytes maxL ret) (hd : Db bytes pc (.ifCond .gt o) o pc1 pc2) (gt : 0 < x → Go κ Q h k n pc2 L st) (gf : ¬ 0 < x → Go κ Q h k n pc1 L st) : Go κ Q h k n pc L (.int x :: st) := by
  obtain ⟨d, rfl, e2⟩ := hd
  rcases Classical.em (0 < x) with q0 | q0
  · exact go_step (fun T locs X e t q => XS.ifYes X.here B.exec rfl (pc0 := pc) rfl (hb B.byt d) rfl (XT.i0_gt_t q0) (by omega) (by omega) q) (gt q0)
  · exact go_step (fun T locs X e t q => XS.ifNo X.here B.exec rfl (hb B.byt d) rfl (XT.i0_gt_f q0) q) (gf q0)
theorem go_ifle (B : OkK km κ l Z a0 n0 R own nm bytes maxL ret) (hd : Db bytes pc (.ifCond .le o) o pc1 pc2) (gt : ¬ 0 < x → Go κ Q h k n pc2 L st) (gf : 0 < x → Go κ Q h k n pc1 L st) : Go κ Q h k n pc L (.int x :: st) := by
  obtain ⟨d, rfl, e2⟩ := hd
  rcases Classical.em (¬ 0 < x) with q0 | q0
  · exact go_step (fun T locs X e t q => XS.ifYes X.here B.exec rfl (pc0 := pc) rfl (hb B.byt d) rfl (XT.i0_le_t q0) (by omega) (by omega) q) (gt q0)
  · exact go_step (fun T locs X e t q => XS.ifNo X.here B.exec rfl (hb B.byt d) rfl (XT.i0_le_f (Classical.not_not.mp q0)) q) (gf (Classical.not_not.mp q0))
theorem go_lifeq (B : OkK km κ l Z a0 n0 R own nm bytes maxL ret) (hd : Db bytes pc (.ifCond .eq o) o pc1 pc2) (gt : u = w → Go κ Q h k n pc2 L st) (gf : ¬ u = w → Go κ Q h k n pc1 L st) : Go κ Q h k n pc L (.int (XT.cmpL u w) :: st) := by
  obtain ⟨d, rfl, e2⟩ := hd
  rcases Classical.em (u = w) with q0 | q0
  · exact go_step (fun T locs X e t q => XS.ifYes X.here B.exec rfl (pc0 := pc) rfl (hb B.byt d) rfl (XT.ll_eq_t q0) (by omega) (by omega) q) (gt q0)
  · exact go_step (fun T locs X e t q => XS.ifNo X.here B.exec rfl (hb B.byt d) rfl (XT.ll_eq_f q0) q) (gf q0)
theorem go_lifne (B : OkK km κ l Z a0 n0 R own nm bytes maxL ret) (hd : Db bytes pc (.ifCond .ne o) o pc1 pc2) (gt : ¬ u = w → Go κ Q h k n pc2 L st) (gf : u = w → Go κ Q h k n pc1 L st) : Go κ Q h k n pc L (.int (XT.cmpL u w) :: st) := by
  obtain ⟨d, rfl, e2⟩ := hd
  rcases Classical.em (¬ u = w) with q0 | q0
  · exact go_step (fun T locs X e t q => XS.ifYes X.here B.exec rfl (pc0 := pc) rfl (hb B.byt d) rfl (XT.ll_ne_t q0) (by omega) (by omega) q) (gt q0)
  · exact go_step (fun T locs X e t q => XS.ifNo X.here B.exec rfl (hb B.byt d) rfl (XT.ll_ne_f (Classical.not_not.mp q0)) q) (gf (Classical.not_not.mp q0))
theorem go_liflt (B : OkK km κ l Z a0 n0 R own nm bytes maxL ret) (hd : Db bytes pc (.ifCond .lt o) o pc1 pc2) (gt : u < w → Go κ Q h k n pc2 L st) (gf : ¬ u < w → Go κ Q h k n pc1 L st) : Go κ Q h k n pc L (.int (XT.cmpL u w) :: st) := by
  obtain ⟨d, rfl, e2⟩ := hd
  rcases Classical.em (u < w) with q0 | q0
  · exact go_step (fun T locs X e t q => XS.ifYes X.here B.exec rfl (pc0 := pc) rfl (hb B.byt d) rfl (XT.ll_lt_t q0) (by omega) (by omega) q) (gt q0)
  · exact go_step (fun T locs X e t q => XS.ifNo X.here B.exec rfl (hb B.byt d) rfl (XT.ll_lt_f q0) q) (gf q0)
theorem go_lifge (B : OkK km κ l Z a0 n0 R own nm bytes maxL ret) (hd : Db bytes pc (.ifCond .ge o) o pc1 pc2) (gt : ¬ u < w → Go κ Q h k n pc2 L st) (gf : u < w → Go κ Q h k n pc1 L st) : Go κ Q h k n pc L (.int (XT.cmpL u w) :: st) := by
  obtain ⟨d, rfl, e2⟩ := hd
  rcases Classical.em (¬ u < w) with q0 | q0
  · exact go_step (fun T locs X e t q => XS.ifYes X.here B.exec rfl (pc0 := pc) rfl (hb B.byt d) rfl (XT.ll_ge_t q0) (by omega) (by omega) q) (gt q0)
  · exact go_step (fun T locs X e t q => XS.ifNo X.here B.exec rfl (hb B.byt d) rfl (XT.ll_ge_f (Classical.not_not.mp q0)) q) (gf (Classical.not_not.mp q0))
theorem go_lifgt (B : OkK km κ l Z a0 n0 R own nm bytes maxL ret) (hd : Db bytes pc (.ifCond .gt o) o pc1 pc2) (gt : w < u → Go κ Q h k n pc2 L st) (gf : ¬ w < u → Go κ Q h k n pc1 L st) : Go κ Q h k n pc L (.int (XT.cmpL u w) :: st) := by
  obtain ⟨d, rfl, e2⟩ := hd
  rcases Classical.em (w < u) with q0 | q0
  · exact go_step (fun T locs X e t q => XS.ifYes X.here B.exec rfl (pc0 := pc) rfl (hb B.byt d) rfl (XT.ll_gt_t q0) (by omega) (by omega) q) (gt q0)
  · exact go_step (fun T locs X e t q => XS.ifNo X.here B.exec rfl (hb B.byt d) rfl (XT.ll_gt_f q0) q) (gf q0)
theorem go_lifle (B : OkK km κ l Z a0 n0 R own nm bytes maxL ret) (hd : Db bytes pc (.ifCond .le o) o pc1 pc2) (gt : ¬ w < u → Go κ Q h k n pc2 L st) (gf : w < u → Go κ Q h k n pc1 L st) : Go κ Q h k n pc L (.int (XT.cmpL u w) :: st) := by
  obtain ⟨d, rfl, e2⟩ := hd
  rcases Classical.em (¬ w < u) with q0 | q0
  · exact go_step (fun T locs X e t q => XS.ifYes X.here B.exec rfl (pc0 := pc) rfl (hb B.byt d) rfl (XT.ll_le_t q0) (by omega) (by omega) q) (gt q0)
  · exact go_step (fun T locs X e t q => XS.ifNo X.here B.exec rfl (hb B.byt d) rfl (XT.ll_le_f (Classical.not_not.mp q0)) q) (gf (Classical.not_not.mp q0))
theorem go_acmpeq (B : OkK km κ l Z a0 n0 R own nm bytes maxL ret) (hd : Db bytes pc (.if_acmp .eq o) o pc1 pc2) (hv : v.isRef = true) (hv' : v'.isRef = true) (gt : v' = v → Go κ Q h k n pc2 L st) (gf : ¬ v' = v → Go κ Q h k n pc1 L st) : Go κ Q h k n pc L (v :: v' :: st) := by
  obtain ⟨d, rfl, e2⟩ := hd
  rcases Classical.em (v' = v) with q0 | q0
  · exact go_step (fun T locs X e t q => XT.acmpYes X.here B.exec rfl (pc0 := pc) rfl (hb B.byt d) rfl hv' hv (XT.aa_eq_t q0) (by omega) (by omega) q) (gt q0)
  · exact go_step (fun T locs X e t q => XT.acmpNo X.here B.exec rfl (hb B.byt d) rfl hv' hv (XT.aa_eq_f q0) q) (gf q0)
theorem go_acmpne (B : OkK km κ l Z a0 n0 R own nm bytes maxL ret) (hd : Db bytes pc (.if_acmp .ne o) o pc1 pc2) (hv : v.isRef = true) (hv' : v'.isRef = true) (gt : ¬ v' = v → Go κ Q h k n pc2 L st) (gf : v' = v → Go κ Q h k n pc1 L st) : Go κ Q h k n pc L (v :: v' :: st) := by
  obtain ⟨d, rfl, e2⟩ := hd
  rcases Classical.em (¬ v' = v) with q0 | q0
  · exact go_step (fun T locs X e t q => XT.acmpYes X.here B.exec rfl (pc0 := pc) rfl (hb B.byt d) rfl hv' hv (XT.aa_ne_t q0) (by omega) (by omega) q) (gt q0)
  · exact go_step (fun T locs X e t q => XT.acmpNo X.here B.exec rfl (hb B.byt d) rfl hv' hv (XT.aa_ne_f (Classical.not_not.mp q0)) q) (gf (Classical.not_not.mp q0))
theorem go_ifnull_t (B : OkK km κ l Z a0 n0 R own nm bytes maxL ret) (hd : Db bytes pc (.ifnull o) o pc1 pc2) (g : Go κ Q h k n pc2 L st) : Go κ Q h k n pc L (.null :: st) := by
  obtain ⟨d, rfl, e2⟩ := hd
  exact go_step (fun T locs X e t q => XS.ifnullYes X.here B.exec rfl (pc0 := pc) rfl (hb B.byt d) rfl (by omega) (by omega) q) g
theorem go_ifnull_f (B : OkK km κ l Z a0 n0 R own nm bytes maxL ret) (hd : Db bytes pc (.ifnull o) o pc1 pc2) (g : Go κ Q h k n pc1 L st) : Go κ Q h k n pc L (.ref a :: st) := by
  obtain ⟨d, rfl, e2⟩ := hd
  exact go_step (fun T locs X e t q => XS.ifnullNo X.here B.exec rfl (hb B.byt d) rfl q) g
theorem go_ifnonnull_t (B : OkK km κ l Z a0 n0 R own nm bytes maxL ret) (hd : Db bytes pc (.ifnonnull o) o pc1 pc2) (g : Go κ Q h k n pc2 L st) : Go κ Q h k n pc L (.ref a :: st) := by
  obtain ⟨d, rfl, e2⟩ := hd
  exact go_step (fun T locs X e t q => XT.ifnonnullYes X.here B.exec rfl (pc0 := pc) rfl (hb B.byt d) rfl (by omega) (by omega) q) g
theorem go_ifnonnull_f (B : OkK km κ l Z a0 n0 R own nm bytes maxL ret) (hd : Db bytes pc (.ifnonnull o) o pc1 pc2) (g : Go κ Q h k n pc1 L st) : Go κ Q h k n pc L (.null :: st) := by
  obtain ⟨d, rfl, e2⟩ := hd
  exact go_step (fun T locs X e t q => XT.ifnonnullNo X.here B.exec rfl (hb B.byt d) rfl q) g
/-! fields, objects, arrays, calls, returns -/
theorem go_getfield (B : OkK km κ l Z a0 n0 R own nm bytes maxL ret) {idx : Nat} {O fn d : String} (hd : Dc bytes pc (.getfield idx) 3 pc') (wl : (Jvm.Cond.fieldLink own idx O fn d).before a0 Z = true) (F : Fld Z h a O fn d v) (g : Go κ Q h k n pc' L (v :: st)) : Go κ Q h k n pc L (.ref a :: st) := fun T locs X N e => by
  obtain ⟨dd, rfl⟩ := hd
  obtain ⟨T', X', e', sp⟩ := getF X B.exec B.warm B.hown (host := "") (Or.inl wl) Via.refl e F (g := mkF κ.m pc L (.ref a :: st)) rfl rfl (hb B.byt dd)
  obtain ⟨t, o, h1, h2⟩ := g T' locs X' N e'
  exact ⟨t, o, sp _ h1, h2⟩
theorem go_getstatic (B : OkK km κ l Z a0 n0 R own nm bytes maxL ret) {idx : Nat} {O fn d : String} (hd : Dc bytes pc (.getstatic idx) 3 pc') (wl : (Jvm.Cond.fieldLink own idx O fn d).before a0 Z = true) (F : Sta Z h O fn d v) (g : Go κ Q h k n pc' L (v :: st)) : Go κ Q h k n pc L st := fun T locs X N e => by
  obtain ⟨dd, rfl⟩ := hd
  obtain ⟨T', X', e', sp⟩ := getS (host := "") X B.exec B.warm B.hown wl Via.refl e F (g := mkF κ.m pc L st) rfl (hb B.byt dd)
  obtain ⟨t, o, h1, h2⟩ := g T' locs X' N e'
  exact ⟨t, o, sp _ h1, h2⟩
theorem go_putfield (B : OkK km κ l Z a0 n0 R own nm bytes maxL ret) {idx kk : Nat} {O fn d C : String} {ty : FieldType} {old : Value} (hd : Dc bytes pc (.putfield idx) 3 pc') (wl : (Jvm.Cond.fieldLink own idx O fn d).before a0 Z = true) (F : Fld Z h a O fn d old) (E : Exa Z h a C)
    (wy : (Jvm.Cond.lays C O fn d).before a0 Z = true ∨ ((Jvm.Cond.laysFinal C O fn d).before a0 Z = true ∧ own = O ∧ nm = "<init>")) (wi : (Jvm.Cond.instantiable C kk).before a0 Z = true) (hty : parseFieldDescriptor d = some ty) (hn : narrow ty v = v) (hf : fits ty v = true) (ha : n0 ≤ a)
    (g : ∀ h', Wr h h' a (Jvm.RoadKit.slotOf Z O fn d) v → Go κ Q h' k n pc' L st) : Go κ Q h k n pc L (v :: .ref a :: st) := fun T locs X N e => by
  obtain ⟨dd, rfl⟩ := hd
  obtain ⟨T', h', X', e', W, sp⟩ := putF X B.exec B.warm B.hown (host := "") (Or.inl wl) Via.refl e F E (wy.imp id fun q => ⟨q.1, q.2.1, B.name.trans q.2.2⟩) wi hty hn hf (g := mkF κ.m pc L (v :: .ref a :: st)) rfl rfl (hb B.byt dd)
  obtain ⟨t, o, h1, h2⟩ := g h' W T' _ X' (Fr.snoc X' N (B.hn ▸ ha)) e'
  exact ⟨t, o, sp _ h1, h2⟩
theorem go_new (B : OkK km κ l Z a0 n0 R own nm bytes maxL ret) {idx nf : Nat} {C : String} (hd : Dc bytes pc (.new idx) 3 pc') (wl : (Jvm.Cond.classLink own idx C).before a0 Z = true) (wi : (Jvm.Cond.instantiable C nf).before a0 Z = true) (wz : (Jvm.Cond.initialized C).before a0 Z = true) (hc : k + 1 ≤ R.cells) (hl : n + nf ≤ R.slots)
    (g : ∀ h' b, b = h.size → Ext h h' → Exa Z h' b C → (∀ {O fn d : String} {ty : FieldType}, Laid Z a0 C O fn d → parseFieldDescriptor d = some ty → Fld Z h' b O fn d (defaultValue ty)) → Go κ Q h' (k + 1) (n + nf) pc' L (.ref b :: st)) : Go κ Q h k n pc L st := fun T locs X N e => by
  obtain ⟨dd, rfl⟩ := hd
  obtain ⟨T', h', X', e', E, A, D, -, sp⟩ := newO X B.exec B.warm B.hown wl wi wz e (g := mkF κ.m pc L st) rfl (hb B.byt dd) (by rw [B.room]; exact hc) (by rw [B.room]; exact hl)
  obtain ⟨t, o, h1, h2⟩ := g h' _ rfl E A D T' locs X' N e'
  exact ⟨t, o, sp _ h1, h2⟩
/-- an array whose places hold just these values -/
def AV (Z : State) (h : Heap) (a : Addr) (ty : FieldType) (vs : List Value) : Prop := ∃ c : Cell, Arr Z h a c ty ∧ c.slots = vs.toArray ∧ vs.length < 2 ^ 31
theorem AV.ext {ty : FieldType} {vs : List Value} {h' : Heap} (F : AV Z h a ty vs) (E : Ext h h') : AV Z h' a ty vs := by obtain ⟨c, A, r⟩ := F; exact ⟨c, A.ext E, r⟩
theorem AV.other {ty : FieldType} {vs : List Value} {h' : Heap} {b : Addr} {sl : Nat} (F : AV Z h b ty vs) (W : Wr h h' a sl v) (q : b ≠ a) : AV Z h' b ty vs := by obtain ⟨c, A, r⟩ := F; exact ⟨c, A.other W q, r⟩
theorem AV.keep {ty : FieldType} {vs : List Value} {h' : Heap} {ws : List Addr} (F : AV Z h a ty vs) (K : Keep h h' ws) (q : a ∉ ws) : AV Z h' a ty vs := by obtain ⟨c, A, r⟩ := F; exact ⟨c, ⟨K.2.1 a c A.1 q, A.2⟩, r⟩
theorem AV.same {ty : FieldType} {vs : List Value} {h' : Heap} {i : Nat} (F : AV Z h a ty vs) (W : Wr h h' a i v) : AV Z h' a ty (vs.set i v) := by
  obtain ⟨c, A, r, s⟩ := F
  exact ⟨_, A.same W, by simp [Cell.setSlot, r], by simpa using s⟩
theorem AV.lt {ty : FieldType} {vs : List Value} (F : AV Z h a ty vs) : a < h.size := by obtain ⟨c, A, -⟩ := F; exact A.lt
theorem AV.len {ty : FieldType} {vs : List Value} (F : AV Z h a ty vs) : vs.length < 2 ^ 31 := by obtain ⟨c, A, -, q⟩ := F; exact q
theorem nat_idx {i : Nat} (hj : x.toInt = (i : Int)) : ¬ x < 0 ∧ x.toNatClampNeg = i := by
  refine ⟨fun q => ?_, ?_⟩
  · have := (Int32.lt_iff_toInt_lt).mp q
    have z : (0 : Int32).toInt = 0 := rfl
    omega
  · show x.toInt.toNat = i
    omega
theorem go_arraylength (B : OkK km κ l Z a0 n0 R own nm bytes maxL ret) {ty : FieldType} {vs : List Value} (hd : Dc bytes pc .arraylength 1 pc') (A : AV Z h a ty vs) (hx : Int32.ofNat vs.length = x) (g : Go κ Q h k n pc' L (.int x :: st)) : Go κ Q h k n pc L (.ref a :: st) := by
  obtain ⟨dd, rfl⟩ := hd
  obtain ⟨c, A, r, s⟩ := A
  have e1 : (Int32.ofNat c.slots.size) = x := by rw [← hx, r]; simp
  subst e1
  exact go_step (fun T locs X e t q => X.arraylength B.exec (by rw [e]; exact A.1) (State.isArrayOf_alike B.warm.alike A.2.1) (g := mkF κ.m pc L (.ref a :: st)) rfl rfl (hb B.byt dd) _ q) g
theorem go_iaload (B : OkK km κ l Z a0 n0 R own nm bytes maxL ret) {vs : List Value} {i : Nat} (hd : Dc bytes pc .iaload 1 pc') (A : AV Z h a .int vs) (hi : x.toInt = (i : Int)) (hv : vs[i]? = some v) (g : Go κ Q h k n pc' L (v :: st)) : Go κ Q h k n pc L (.int x :: .ref a :: st) := by
  obtain ⟨dd, rfl⟩ := hd
  obtain ⟨c, A, r, s⟩ := A
  obtain ⟨q1, q2⟩ := nat_idx hi
  have hl : i < vs.length := (List.getElem?_eq_some_iff.mp hv).1
  exact go_step (fun T locs X e t q => X.iaload B.exec (j := x) (v := v) (by rw [e]; exact A.1) (State.isArrayOf_alike B.warm.alike A.2.1) A.2.2 (by rw [r, q2]; simp; exact ⟨Int32.not_lt.mp q1, hl⟩) (by rw [r, q2]; simpa using hv) (g := mkF κ.m pc L (.int x :: .ref a :: st)) rfl rfl (hb B.byt dd) _ q) g
theorem go_laload (B : OkK km κ l Z a0 n0 R own nm bytes maxL ret) {vs : List Value} {i : Nat} (hd : Dc bytes pc .laload 1 pc') (A : AV Z h a .long vs) (hi : x.toInt = (i : Int)) (hv : vs[i]? = some v) (g : Go κ Q h k n pc' L (v :: st)) : Go κ Q h k n pc L (.int x :: .ref a :: st) := by
  obtain ⟨dd, rfl⟩ := hd
  obtain ⟨c, A, r, s⟩ := A
  obtain ⟨q1, q2⟩ := nat_idx hi
  have hl : i < vs.length := (List.getElem?_eq_some_iff.mp hv).1
  exact go_step (fun T locs X e t q => X.laload B.exec (j := x) (v := v) (by rw [e]; exact A.1) (State.isArrayOf_alike B.warm.alike A.2.1) A.2.2 (by rw [r, q2]; simp; exact ⟨Int32.not_lt.mp q1, hl⟩) (by rw [r, q2]; simpa using hv) (g := mkF κ.m pc L (.int x :: .ref a :: st)) rfl rfl (hb B.byt dd) _ q) g
theorem go_caload (B : OkK km κ l Z a0 n0 R own nm bytes maxL ret) {vs : List Value} {i : Nat} (hd : Dc bytes pc .caload 1 pc') (A : AV Z h a .char vs) (hi : x.toInt = (i : Int)) (hv : vs[i]? = some v) (g : Go κ Q h k n pc' L (v :: st)) : Go κ Q h k n pc L (.int x :: .ref a :: st) := by
  obtain ⟨dd, rfl⟩ := hd
  obtain ⟨c, A, r, s⟩ := A
  obtain ⟨q1, q2⟩ := nat_idx hi
  have hl : i < vs.length := (List.getElem?_eq_some_iff.mp hv).1
  exact go_step (fun T locs X e t q => X.caload B.exec (j := x) (v := v) (by rw [e]; exact A.1) (State.isArrayOf_alike B.warm.alike A.2.1) A.2.2 (by rw [r, q2]; simp; exact ⟨Int32.not_lt.mp q1, hl⟩) (by rw [r, q2]; simpa using hv) (g := mkF κ.m pc L (.int x :: .ref a :: st)) rfl rfl (hb B.byt dd) _ q) g
theorem go_baload (B : OkK km κ l Z a0 n0 R own nm bytes maxL ret) {vs : List Value} {i : Nat} (hd : Dc bytes pc .baload 1 pc') (A : AV Z h a .byte vs) (hi : x.toInt = (i : Int)) (hv : vs[i]? = some v) (g : Go κ Q h k n pc' L (v :: st)) : Go κ Q h k n pc L (.int x :: .ref a :: st) := by
  obtain ⟨dd, rfl⟩ := hd
  obtain ⟨c, A, r, s⟩ := A
  obtain ⟨q1, q2⟩ := nat_idx hi
  have hl : i < vs.length := (List.getElem?_eq_some_iff.mp hv).1
  exact go_step (fun T locs X e t q => X.baloadBytes B.exec (j := x) (v := v) (by rw [e]; exact A.1) (State.isArrayOf_alike B.warm.alike A.2.1) A.2.2 (by rw [r, q2]; simp; exact ⟨Int32.not_lt.mp q1, hl⟩) (by rw [r, q2]; simpa using hv) (g := mkF κ.m pc L (.int x :: .ref a :: st)) rfl rfl (hb B.byt dd) _ q) g
theorem go_zaload (B : OkK km κ l Z a0 n0 R own nm bytes maxL ret) {vs : List Value} {i : Nat} (hd : Dc bytes pc .baload 1 pc') (A : AV Z h a .boolean vs) (hi : x.toInt = (i : Int)) (hv : vs[i]? = some v) (g : Go κ Q h k n pc' L (v :: st)) : Go κ Q h k n pc L (.int x :: .ref a :: st) := by
  obtain ⟨dd, rfl⟩ := hd
  obtain ⟨c, A, r, s⟩ := A
  obtain ⟨q1, q2⟩ := nat_idx hi
  have hl : i < vs.length := (List.getElem?_eq_some_iff.mp hv).1
  exact go_step (fun T locs X e t q => X.baloadBooleans B.exec (j := x) (v := v) (by rw [e]; exact A.1) (State.isArrayOf_alike B.warm.alike A.2.1) A.2.2 (by rw [r, q2]; simp; exact ⟨Int32.not_lt.mp q1, hl⟩) (by rw [r, q2]; simpa using hv) (g := mkF κ.m pc L (.int x :: .ref a :: st)) rfl rfl (hb B.byt dd) _ q) g
theorem go_aaload (B : OkK km κ l Z a0 n0 R own nm bytes maxL ret) {ty : FieldType} {vs : List Value} {i : Nat} (hd : Dc bytes pc .aaload 1 pc') (A : AV Z h a ty vs) (hty : ty.isReference = true) (hi : x.toInt = (i : Int)) (hv : vs[i]? = some v) (g : Go κ Q h k n pc' L (v :: st)) : Go κ Q h k n pc L (.int x :: .ref a :: st) := by
  obtain ⟨dd, rfl⟩ := hd
  obtain ⟨c, A, r, s⟩ := A
  obtain ⟨q1, q2⟩ := nat_idx hi
  have hl : i < vs.length := (List.getElem?_eq_some_iff.mp hv).1
  exact go_step (fun T locs X e t q => X.aaload B.exec (j := x) (v := v) (by rw [e]; exact A.1) (State.isArrayOf_alike B.warm.alike A.2.1) hty A.2.2 (by rw [r, q2]; simp; exact ⟨Int32.not_lt.mp q1, hl⟩) (by rw [r, q2]; simpa using hv) (g := mkF κ.m pc L (.int x :: .ref a :: st)) rfl rfl (hb B.byt dd) _ q) g
theorem go_iastore (B : OkK km κ l Z a0 n0 R own nm bytes maxL ret) {vs : List Value} {i : Nat} (hd : Dc bytes pc .iastore 1 pc') (A : AV Z h a .int vs) (hi : x.toInt = (i : Int)) (hl : i < vs.length) (ha : n0 ≤ a) (g : ∀ h', Wr h h' a i (.int y) → AV Z h' a .int (vs.set i (.int y)) → Go κ Q h' k n pc' L st) : Go κ Q h k n pc L (.int y :: .int x :: .ref a :: st) := fun T locs X N e => by
  obtain ⟨dd, rfl⟩ := hd
  have A0 := A
  obtain ⟨c, A, r, s⟩ := A
  obtain ⟨q1, q2⟩ := nat_idx hi
  obtain ⟨T', h', X', e', W, sp⟩ := stI X B.exec B.warm e A (j := x) (by rw [r, q2]; simp; exact ⟨Int32.not_lt.mp q1, hl⟩) (g := mkF κ.m pc L (.int y :: .int x :: .ref a :: st)) rfl rfl (hb B.byt dd)
  have W' : Wr h h' a i (.int y) := q2 ▸ W
  obtain ⟨t, o, h1, h2⟩ := g h' W' (A0.same W') T' _ X' (Fr.snoc X' N (B.hn ▸ ha)) e'
  exact ⟨t, o, sp _ h1, h2⟩
theorem go_lastore (B : OkK km κ l Z a0 n0 R own nm bytes maxL ret) {vs : List Value} {i : Nat} (hd : Dc bytes pc .lastore 1 pc') (A : AV Z h a .long vs) (hi : x.toInt = (i : Int)) (hl : i < vs.length) (ha : n0 ≤ a) (g : ∀ h', Wr h h' a i (.long u) → AV Z h' a .long (vs.set i (.long u)) → Go κ Q h' k n pc' L st) : Go κ Q h k n pc L (.long u :: .int x :: .ref a :: st) := fun T locs X N e => by
  obtain ⟨dd, rfl⟩ := hd
  have A0 := A
  obtain ⟨c, A, r, s⟩ := A
  obtain ⟨q1, q2⟩ := nat_idx hi
  obtain ⟨T', h', X', e', W, sp⟩ := stJ X B.exec B.warm e A (j := x) (by rw [r, q2]; simp; exact ⟨Int32.not_lt.mp q1, hl⟩) (g := mkF κ.m pc L (.long u :: .int x :: .ref a :: st)) rfl rfl (hb B.byt dd)
  have W' : Wr h h' a i (.long u) := q2 ▸ W
  obtain ⟨t, o, h1, h2⟩ := g h' W' (A0.same W') T' _ X' (Fr.snoc X' N (B.hn ▸ ha)) e'
  exact ⟨t, o, sp _ h1, h2⟩
theorem go_castore (B : OkK km κ l Z a0 n0 R own nm bytes maxL ret) {vs : List Value} {i : Nat} (hd : Dc bytes pc .castore 1 pc') (A : AV Z h a .char vs) (hi : x.toInt = (i : Int)) (hl : i < vs.length) (ha : n0 ≤ a) (g : ∀ h', Wr h h' a i (.int (nar .char y)) → AV Z h' a .char (vs.set i (.int (nar .char y))) → Go κ Q h' k n pc' L st) : Go κ Q h k n pc L (.int y :: .int x :: .ref a :: st) := fun T locs X N e => by
  obtain ⟨dd, rfl⟩ := hd
  have A0 := A
  obtain ⟨c, A, r, s⟩ := A
  obtain ⟨q1, q2⟩ := nat_idx hi
  obtain ⟨T', h', X', e', W, sp⟩ := stC X B.exec B.warm e A (j := x) (by rw [r, q2]; simp; exact ⟨Int32.not_lt.mp q1, hl⟩) (g := mkF κ.m pc L (.int y :: .int x :: .ref a :: st)) rfl rfl (hb B.byt dd)
  have W' : Wr h h' a i (.int (nar .char y)) := q2 ▸ W
  obtain ⟨t, o, h1, h2⟩ := g h' W' (A0.same W') T' _ X' (Fr.snoc X' N (B.hn ▸ ha)) e'
  exact ⟨t, o, sp _ h1, h2⟩
theorem go_bastore (B : OkK km κ l Z a0 n0 R own nm bytes maxL ret) {vs : List Value} {i : Nat} (hd : Dc bytes pc .bastore 1 pc') (A : AV Z h a .byte vs) (hi : x.toInt = (i : Int)) (hl : i < vs.length) (ha : n0 ≤ a) (g : ∀ h', Wr h h' a i (.int (nar .byte y)) → AV Z h' a .byte (vs.set i (.int (nar .byte y))) → Go κ Q h' k n pc' L st) : Go κ Q h k n pc L (.int y :: .int x :: .ref a :: st) := fun T locs X N e => by
  obtain ⟨dd, rfl⟩ := hd
  have A0 := A
  obtain ⟨c, A, r, s⟩ := A
  obtain ⟨q1, q2⟩ := nat_idx hi
  obtain ⟨T', h', X', e', W, sp⟩ := stB X B.exec B.warm e A (j := x) (by rw [r, q2]; simp; exact ⟨Int32.not_lt.mp q1, hl⟩) (g := mkF κ.m pc L (.int y :: .int x :: .ref a :: st)) rfl rfl (hb B.byt dd)
  have W' : Wr h h' a i (.int (nar .byte y)) := q2 ▸ W
  obtain ⟨t, o, h1, h2⟩ := g h' W' (A0.same W') T' _ X' (Fr.snoc X' N (B.hn ▸ ha)) e'
  exact ⟨t, o, sp _ h1, h2⟩
theorem go_zastore (B : OkK km κ l Z a0 n0 R own nm bytes maxL ret) {vs : List Value} {i : Nat} (hd : Dc bytes pc .bastore 1 pc') (A : AV Z h a .boolean vs) (hi : x.toInt = (i : Int)) (hl : i < vs.length) (ha : n0 ≤ a) (g : ∀ h', Wr h h' a i (.int (nar .boolean y)) → AV Z h' a .boolean (vs.set i (.int (nar .boolean y))) → Go κ Q h' k n pc' L st) : Go κ Q h k n pc L (.int y :: .int x :: .ref a :: st) := fun T locs X N e => by
  obtain ⟨dd, rfl⟩ := hd
  have A0 := A
  obtain ⟨c, A, r, s⟩ := A
  obtain ⟨q1, q2⟩ := nat_idx hi
  obtain ⟨T', h', X', e', W, sp⟩ := stZ X B.exec B.warm e A (j := x) (by rw [r, q2]; simp; exact ⟨Int32.not_lt.mp q1, hl⟩) (g := mkF κ.m pc L (.int y :: .int x :: .ref a :: st)) rfl rfl (hb B.byt dd)
  have W' : Wr h h' a i (.int (nar .boolean y)) := q2 ▸ W
  obtain ⟨t, o, h1, h2⟩ := g h' W' (A0.same W') T' _ X' (Fr.snoc X' N (B.hn ▸ ha)) e'
  exact ⟨t, o, sp _ h1, h2⟩
theorem go_newarray (B : OkK km κ l Z a0 n0 R own nm bytes maxL ret) {aty : ArrayType} {i cap : Nat} (hd : Dc bytes pc (.newarray aty) 2 pc') (wa : (Jvm.Cond.arrayClass (newarray.typeOf aty)).before a0 Z = true) (hi : x.toInt = (i : Int)) (hcap : i ≤ cap) (hbig : cap * 8 ≤ 536870912) (hc : k + 1 ≤ R.cells) (hl : n + cap ≤ R.slots)
    (g : ∀ h' b, b = h.size → Ext h h' → AV Z h' b (newarray.typeOf aty) (List.replicate i (defaultValue (newarray.typeOf aty))) → Exa Z h' b ("[" ++ (newarray.typeOf aty).toString) → Go κ Q h' (k + 1) (n + cap) pc' L (.ref b :: st)) : Go κ Q h k n pc L (.int x :: st) := fun T locs X N e => by
  obtain ⟨dd, rfl⟩ := hd
  obtain ⟨q1, q2⟩ := nat_idx hi
  have hcb : componentBytes (newarray.typeOf aty) ≤ 8 := by cases aty <;> decide
  have hbig' : x.toNatClampNeg * componentBytes (newarray.typeOf aty) ≤ 536870912 := Nat.le_trans (Nat.mul_le_mul (q2 ▸ hcap) hcb) hbig
  obtain ⟨cA, kA, comp, f1, f2, f3, X', sp⟩ := X.newarrayPrim B.exec (mvA B.warm wa) (g := mkF κ.m pc L (.int x :: st)) rfl (hb B.byt dd) rfl q1 hbig' (by rw [B.room]; exact hc) (by rw [B.room, q2]; omega)
  subst e
  have f1' : Z.vm.findClass ("[" ++ (newarray.typeOf aty).toString) = some cA := by rw [← B.warm.alike.findClass]; exact f1
  obtain ⟨kZ, z1, -⟩ := Vm.findClass_spec f1'
  obtain ⟨k', z2, z3⟩ := B.warm.alike.2.2 _ _ z1
  cases f2.symm.trans z2
  have f4 : kZ.kind = .array comp (newarray.typeOf aty) := by rw [← f3, z3]
  have hat : (T.heap.push { cls := cA, slots := Array.replicate x.toNatClampNeg (defaultValue (newarray.typeOf aty)), vm := .none : Cell })[T.heap.size]? = some { cls := cA, slots := Array.replicate x.toNatClampNeg (defaultValue (newarray.typeOf aty)), vm := .none } := by simp
  have hE : Ext T.heap (T.heap.push { cls := cA, slots := Array.replicate x.toNatClampNeg (defaultValue (newarray.typeOf aty)), vm := .none : Cell }) := ext_of fun a ha => by rw [Array.getElem?_push_lt ha]; exact (Array.getElem?_eq_getElem _).symm
  obtain ⟨t, o, h1, h2⟩ := g _ _ rfl hE ⟨_, ⟨hat, ⟨by simp, kZ, z1, comp, f4⟩, by simp⟩, by simp [q2], by simp; have := x.toInt_lt; omega⟩
    ⟨_, kZ, hat, f1', z1, rfl, fun q => by rw [f4] at q; cases q⟩ _ locs (X'.more (Nat.le_refl _) (by rw [q2]; omega)) N rfl
  exact ⟨t, o, sp _ h1, h2⟩
theorem go_ldcI (B : OkK km κ l Z a0 n0 R own nm bytes maxL ret) {idx : Nat} (hd : Dc bytes pc (.ldc idx) 2 pc') (wl : (Jvm.Cond.constant own idx x).before a0 Z = true) (g : Go κ Q h k n pc' L (.int x :: st)) : Go κ Q h k n pc L st := by
  obtain ⟨dd, rfl⟩ := hd
  exact go_step (fun T locs X e t q => X.ldcInt B.exec B.hown (mvT B.warm wl) (g := mkF κ.m pc L st) rfl (hb B.byt dd) _ q) g
theorem go_ldcWI (B : OkK km κ l Z a0 n0 R own nm bytes maxL ret) {idx : Nat} (hd : Dc bytes pc (.ldc_w idx) 3 pc') (wl : (Jvm.Cond.constant own idx x).before a0 Z = true) (g : Go κ Q h k n pc' L (.int x :: st)) : Go κ Q h k n pc L st := by
  obtain ⟨dd, rfl⟩ := hd
  exact go_step (fun T locs X e t q => X.ldcwInt B.exec B.hown (mvT B.warm wl) (g := mkF κ.m pc L st) rfl (hb B.byt dd) _ q) g
theorem go_ldc2J (B : OkK km κ l Z a0 n0 R own nm bytes maxL ret) {idx : Nat} (hd : Dc bytes pc (.ldc2_w idx) 3 pc') (wl : (Jvm.Cond.constantLong own idx u).before a0 Z = true) (g : Go κ Q h k n pc' L (.long u :: st)) : Go κ Q h k n pc L st := by
  obtain ⟨dd, rfl⟩ := hd
  exact go_step (fun T locs X e t q => X.ldc2Long B.exec B.hown (mvT B.warm wl) (g := mkF κ.m pc L st) rfl (hb B.byt dd) _ q) g
theorem go_initO (B : OkK km κ l Z a0 n0 R own nm bytes maxL ret) {idx W : Nat} (hd : Dc bytes pc (.invokespecial idx) 3 pc') (w1 : (Jvm.Cond.methodLink own idx Lib.objectInit).before a0 Z = true) (w2 : (Jvm.Cond.instanceMethod Lib.objectInit).before a0 Z = true) (w3 : (Jvm.Cond.code Lib.objectInit ⟨#[0xb1]⟩ 1 none).before a0 Z = true)
    (hs : L.size = maxL) (hW : (st.map fun v => v.category).sum = W) (hf : 1 ≤ R.frames) (hl : W + 12 ≤ R.locals) (g : Go κ Q h k n pc' L st) : Go κ Q h k n pc L (.ref a :: st) := fun T locs X N e => by
  obtain ⟨dd, rfl⟩ := hd
  obtain ⟨T', X', e', sp⟩ := initO X B.exec B.warm B.hown w1 w2 w3 e (g := mkF κ.m pc L (.ref a :: st)) rfl (by rw [B.mxl]; exact hs) rfl (hb B.byt dd) (by rw [B.room]; exact hf) (W := W) (by show 2 * 0 + _ ≤ _; omega) (by rw [B.room]; exact hl)
  obtain ⟨t, o, h1, h2⟩ := g T' locs X' N e'
  exact ⟨t, o, sp _ h1, h2⟩
section Call
variable {y' : MethodName} {idx W : Nat} {bytes' : ByteArray} {maxL' : Nat} {ret' : Option FieldType} {rm : Room} {as' : Array Value} {argsL : List Value} {Q' : Option Value → Heap → Prop} {ps : List FieldType} {rt : Option FieldType}
theorem go_static (B : OkK km κ l Z a0 n0 R own nm bytes maxL ret) (hd : Dc bytes pc (.invokestatic idx) 3 pc') (w1 : (Jvm.Cond.methodLink own idx y').before a0 Z = true) (w2 : (Jvm.Cond.static y').before a0 Z = true) (w3 : (Jvm.Cond.initialized y'.cls).before a0 Z = true) (w4 : (Jvm.Cond.code y' bytes' maxL' ret').before a0 Z = true)
    (hy : y'.cls ≠ "java/lang/invoke/MethodHandle" ∧ y'.cls ≠ "java/lang/invoke/VarHandle") (C : Ct l Z n0 y' bytes' maxL' ret' [] rm argsL.toArray h Q') (pd : parseMethodDescriptor y'.desc = some ⟨ps, rt⟩) (hlen : argsL.length = ps.length) (hst : st' = argsL.reverse ++ st) (hs : L.size = maxL)
    (hW : (st.map fun v => v.category).sum = W) (hf : rm.frames + 1 ≤ R.frames) (hl : W + (maxL' + 11) + rm.locals ≤ R.locals) (hc : k + rm.cells ≤ R.cells) (hn : n + rm.slots ≤ R.slots)
    (g : ∀ v h', Q' v h' → Go κ Q h' (k + rm.cells) (n + rm.slots) pc' L (v.toList ++ st)) : Go κ Q h k n pc L st' := fun T locs X N e => by
  obtain ⟨dd, rfl⟩ := hd
  have C' : Ct κ.l Z n0 y' bytes' maxL' ret' [] rm argsL.toArray h Q' := B.hl.symm ▸ C
  obtain ⟨vv, _, ⟨T', L2, k2, n2⟩, -, X', ⟨Lc, hQ, l2, y2, z2⟩, sp⟩ := Jvm.LawKit.callS X B.exec (y := y') B.hown (mvT B.warm w1) (mvT B.warm w2) (mvT B.warm w3) (mvT B.warm w4) hy
    (backOf (Q := fun v h L => Q' v h ∧ Fr n0 L) (W := W) C' B.warm w4 w3 (by rw [B.room]; exact hf) (by rw [B.room]; exact hl)) (g := mkF κ.m pc L st') rfl (by rw [B.mxl]; exact hs) (argsL := argsL) (rest := st) (lenOf pd hlen) hst (by show 2 * 0 + _ ≤ _; omega) (hb B.byt dd)
    (fun _ _ => ⟨rfl, e, by rw [B.room]; exact hc, by rw [B.room]; exact hn⟩)
  dsimp only [Pt.U, Pt.locs, Pt.cells, Pt.slots] at X' l2 y2 z2 sp hQ
  subst l2 y2 z2
  obtain ⟨t, o, h1, h2⟩ := g vv T'.heap hQ.1 T' _ X' (Fr.app N (B.hn.symm ▸ hQ.2)) rfl
  exact ⟨t, o, sp _ h1, h2⟩
theorem go_special (B : OkK km κ l Z a0 n0 R own nm bytes maxL ret) (hd : Dc bytes pc (.invokespecial idx) 3 pc') (hi : y'.name = "<init>") (w1 : (Jvm.Cond.methodLink own idx y').before a0 Z = true) (w2 : (Jvm.Cond.instanceMethod y').before a0 Z = true) (w3 : (Jvm.Cond.initialized y'.cls).before a0 Z = true) (w4 : (Jvm.Cond.code y' bytes' maxL' none).before a0 Z = true)
    (hy : y'.cls ≠ "java/lang/invoke/MethodHandle" ∧ y'.cls ≠ "java/lang/invoke/VarHandle") (C : Ct l Z n0 y' bytes' maxL' none [] rm (.ref a :: argsL).toArray h Q') (pd : parseMethodDescriptor y'.desc = some ⟨ps, rt⟩) (hlen : argsL.length = ps.length) (hst : st' = argsL.reverse ++ .ref a :: st) (hs : L.size = maxL)
    (hW : (st.map fun v => v.category).sum = W) (hf : rm.frames + 1 ≤ R.frames) (hl : W + (maxL' + 11) + rm.locals ≤ R.locals) (hc : k + rm.cells ≤ R.cells) (hn : n + rm.slots ≤ R.slots)
    (g : ∀ v h', Q' v h' → Go κ Q h' (k + rm.cells) (n + rm.slots) pc' L (v.toList ++ st)) : Go κ Q h k n pc L st' := fun T locs X N e => by
  obtain ⟨dd, rfl⟩ := hd
  have C' : Ct κ.l Z n0 y' bytes' maxL' none [] rm (.ref a :: argsL).toArray h Q' := B.hl.symm ▸ C
  obtain ⟨vv, _, ⟨T', L2, k2, n2⟩, -, X', ⟨Lc, hQ, l2, y2, z2⟩, sp⟩ := X.specialBack B.exec (y := y') hi B.hown (mvT B.warm w1) (mvT B.warm w2) (mvT B.warm w4) hy
    (backOf (Q := fun v h L => Q' v h ∧ Fr n0 L) (W := W) C' B.warm w4 w3 (by rw [B.room]; exact hf) (by rw [B.room]; exact hl)) (g := mkF κ.m pc L st') rfl (by rw [B.mxl]; exact hs) (Steps.refl _) (a := a) (argsL := argsL) (rest := st) (lenOf pd hlen) hst (by show 2 * 0 + _ ≤ _; omega) (hb B.byt dd)
    (fun _ _ => ⟨rfl, e, by rw [B.room]; exact hc, by rw [B.room]; exact hn⟩)
  dsimp only [Pt.U, Pt.locs, Pt.cells, Pt.slots] at X' l2 y2 z2 sp hQ
  subst l2 y2 z2
  obtain ⟨t, o, h1, h2⟩ := g vv T'.heap hQ.1 T' _ X' (Fr.app N (B.hn.symm ▸ hQ.2)) rfl
  exact ⟨t, o, sp.trans h1, h2⟩
theorem go_virtual (B : OkK km κ l Z a0 n0 R own nm bytes maxL ret) {C0 : String} (hd : Dc bytes pc (.invokevirtual idx) 3 pc') (w1 : (Jvm.Cond.methodLink own idx y').before a0 Z = true) (w2 : (Jvm.Cond.declares y').before a0 Z = true) (w5 : (Jvm.Cond.selects C0 y' y').before a0 Z = true) (w6 : (Jvm.Cond.instanceMethod y').before a0 Z = true) (w3 : (Jvm.Cond.initialized y'.cls).before a0 Z = true) (w4 : (Jvm.Cond.code y' bytes' maxL' ret').before a0 Z = true)
    (hy : y'.cls ≠ "java/lang/invoke/MethodHandle" ∧ y'.cls ≠ "java/lang/invoke/VarHandle") (E : Exa Z h a C0) (C : Ct l Z n0 y' bytes' maxL' ret' [] rm (.ref a :: argsL).toArray h Q') (pd : parseMethodDescriptor y'.desc = some ⟨ps, rt⟩) (hlen : argsL.length = ps.length) (hst : st' = argsL.reverse ++ .ref a :: st) (hs : L.size = maxL)
    (hW : (st.map fun v => v.category).sum = W) (hf : rm.frames + 1 ≤ R.frames) (hl : W + (maxL' + 11) + rm.locals ≤ R.locals) (hc : k + rm.cells ≤ R.cells) (hn : n + rm.slots ≤ R.slots)
    (g : ∀ v h', Q' v h' → Go κ Q h' (k + rm.cells) (n + rm.slots) pc' L (v.toList ++ st)) : Go κ Q h k n pc L st' := fun T locs X N e => by
  obtain ⟨dd, rfl⟩ := hd
  have C' : Ct κ.l Z n0 y' bytes' maxL' ret' [] rm (.ref a :: argsL).toArray h Q' := B.hl.symm ▸ C
  obtain ⟨cq, kq, qa, qb, qc⟩ := isOf B.warm e E
  obtain ⟨vv, _, ⟨T', L2, k2, n2⟩, -, X', ⟨Lc, hQ, l2, y2, z2⟩, sp⟩ := X.virtualBack B.exec (y := y') (z := y') B.hown (mvT B.warm w1) (mvT B.warm w2) (notFace_of_selects (args := #[]) (mvT B.warm w5)) (mvT B.warm w5) (mvT B.warm w6) hy
    (backOf (Q := fun v h L => Q' v h ∧ Fr n0 L) (W := W) C' B.warm w4 w3 (by rw [B.room]; exact hf) (by rw [B.room]; exact hl)) qa qc (g := mkF κ.m pc L st') rfl (by rw [B.mxl]; exact hs) (Steps.refl _) (argsL := argsL) (rest := st) (lenOf pd hlen) hst (by show 2 * 0 + _ ≤ _; omega) (hb B.byt dd)
    (fun _ _ => ⟨rfl, e, by rw [B.room]; exact hc, by rw [B.room]; exact hn⟩)
  dsimp only [Pt.U, Pt.locs, Pt.cells, Pt.slots] at X' l2 y2 z2 sp hQ
  subst l2 y2 z2
  obtain ⟨t, o, h1, h2⟩ := g vv T'.heap hQ.1 T' _ X' (Fr.app N (B.hn.symm ▸ hQ.2)) rfl
  exact ⟨t, o, sp.trans h1, h2⟩
end Call
theorem go_end (B : OkK km κ l Z a0 n0 R own nm bytes maxL ret) {vv : Option Value} (hk : k ≤ R.cells) (hn : n ≤ R.slots) (hq : Q vv h) (hv : ret = none → vv = none) (hkm : km ≤ h.size)
    (hs : ∀ (T : State) (locs : List Loc) (fs : List Frame), Stand κ.p κ.l κ.e κ.R κ.s κ.m κ.args κ.below κ.meth κ.c T locs k n → (∀ (f : JFrame) (acts : List Action), f.method = κ.m → f.locked = none → f.entered = [] → (doReturn κ.e (T.setTop f) acts vv).1 = T.setFrames fs) → Steps κ.p.tables κ.e κ.below (T.setTop (mkF κ.m pc L st)) (T.setFrames fs)) : Go κ Q h k n pc L st := fun T locs X N e => by
  obtain ⟨fs, hr, hrun, hended, hW, hsame⟩ := X.leave (v := vv) (fun q => hv (B.rets.symm.trans q)) B.nolock
  exact ⟨_, _, hs T locs fs X hr, hrun, hended, _, _, rfl, ⟨by show Q vv T.heap; rw [e]; exact hq, N⟩, B.hE _ _ _ ⟨⟨_, rfl⟩, hW, hsame.mono (by rw [B.room]; exact hk) (by rw [B.room]; exact hn)⟩ (by show κ.kmin ≤ T.heap.size; rw [e, B.hkm]; exact hkm)⟩
theorem go_ireturn (B : OkK km κ l Z a0 n0 R own nm bytes maxL (some .int)) (hd : Dc bytes pc .ireturn 1 pc') (hk : k ≤ R.cells) (hn : n ≤ R.slots) (hq : Q (some (.int x)) h) (hkm : km ≤ h.size := by first | exact Nat.zero_le _ | assumption) : Go κ Q h k n pc L (.int x :: st) :=
  go_end B hk hn hq (fun q => by cases q) hkm (fun T locs fs X hr => retOut X B.exec (t := .int) (i := .ireturn) B.rets rfl (Or.inl ⟨rfl, Or.inl rfl, x, rfl⟩) (hb B.byt hd.1) hr)
theorem go_zreturn (B : OkK km κ l Z a0 n0 R own nm bytes maxL (some .boolean)) (hd : Dc bytes pc .ireturn 1 pc') (hk : k ≤ R.cells) (hn : n ≤ R.slots) (hz : x &&& 1 = y) (hq : Q (some (.int y)) h) (hkm : km ≤ h.size := by first | exact Nat.zero_le _ | assumption) : Go κ Q h k n pc L (.int x :: st) := by
  subst hz
  exact go_end B hk hn hq (fun q => by cases q) hkm (fun T locs fs X hr => retN X B.exec (t := .boolean) B.rets (by simp) (hb B.byt hd.1) hr)
theorem go_breturn (B : OkK km κ l Z a0 n0 R own nm bytes maxL (some .byte)) (hd : Dc bytes pc .ireturn 1 pc') (hk : k ≤ R.cells) (hn : n ≤ R.slots) (hz : x.toInt8.toInt32 = y) (hq : Q (some (.int y)) h) (hkm : km ≤ h.size := by first | exact Nat.zero_le _ | assumption) : Go κ Q h k n pc L (.int x :: st) := by
  subst hz
  exact go_end B hk hn hq (fun q => by cases q) hkm (fun T locs fs X hr => retN X B.exec (t := .byte) B.rets (by simp) (hb B.byt hd.1) hr)
theorem go_lreturn (B : OkK km κ l Z a0 n0 R own nm bytes maxL (some .long)) (hd : Dc bytes pc .lreturn 1 pc') (hk : k ≤ R.cells) (hn : n ≤ R.slots) (hq : Q (some (.long u)) h) (hkm : km ≤ h.size := by first | exact Nat.zero_le _ | assumption) : Go κ Q h k n pc L (.long u :: st) :=
  go_end B hk hn hq (fun q => by cases q) hkm (fun T locs fs X hr => retOut X B.exec (t := .long) (i := .lreturn) B.rets rfl (Or.inr (Or.inl ⟨rfl, rfl, u, rfl⟩)) (hb B.byt hd.1) hr)
theorem go_areturn {ty : FieldType} (B : OkK km κ l Z a0 n0 R own nm bytes maxL (some ty)) (hd : Dc bytes pc .areturn 1 pc') (hty : ty.isReference = true) (hnr : narrow ty v = v) (hv : v.isRef = true) (hk : k ≤ R.cells) (hn : n ≤ R.slots) (hq : Q (some v) h) (hkm : km ≤ h.size := by first | exact Nat.zero_le _ | assumption) : Go κ Q h k n pc L (v :: st) :=
  go_end B hk hn hq (fun q => by cases q) hkm (fun T locs fs X hr => retOut X B.exec (t := ty) (i := .areturn) B.rets hnr (Or.inr (Or.inr (Or.inr (Or.inr ⟨rfl, hty, hv⟩)))) (hb B.byt hd.1) hr)
theorem go_return (B : OkK km κ l Z a0 n0 R own nm bytes maxL none) (hd : Dc bytes pc .return_ 1 pc') (hk : k ≤ R.cells) (hn : n ≤ R.slots) (hq : Q none h) (hkm : km ≤ h.size := by first | exact Nat.zero_le _ | assumption) : Go κ Q h k n pc L [] :=
  go_end B hk hn hq (fun _ => rfl) hkm (fun T locs fs X hr => X.returnOut B.exec B.rets (hb B.byt hd.1) hr)
end G
end Jvm.OwnGo
namespace Jvm.Pilot.@@N@@
open Jvm Jvm.ClassFile Sem Op Lib Jvm.Free Jvm.Stand Jvm.LawKit Jvm.RoadKit Bundle Jvm.Pilot.@@N@@.Jvm.D Jvm.OwnGo
def Wd (a0 : Array Value) (Z : State) : Prop := ∀ d ∈ tables_1, d.before a0 Z = true
def own_safe (occ : Int32) (la si inv sa : Int64) : Int32 := if ¬ 1 < occ ∧ la = 0 ∧ si = 0 ∧ inv = 0 ∧ sa = 0 then 1 else 0
theorem own_fin {s0 s1 s2 s3 occ z22 z23 z24 z25 : Int32} {v w la si inv sa : Int64} (h1 : la = if s0 = 0 then 0 else v) (h2 : si = if s1 = 0 then 0 else w) (h3 : inv = if s2 = 0 then 0 else v) (h4 : sa = if s3 = 0 then 0 else w)
    (h5 : z22 = if (s0 = 0 ∧ s2 = 0) ∨ v = 0 then 1 else 0) (h6 : z23 = if (s1 = 0 ∧ s3 = 0) ∨ w = 0 then 1 else 0) (h7 : z24 = if 1 < occ then 0 else 1) (h8 : z25 = if ¬ z24 = 0 ∧ ¬ z22 = 0 ∧ ¬ z23 = 0 then 1 else 0) : own_safe occ la si inv sa = z25 := by
  subst h1 h2 h3 h4 h5 h6 h7 h8
  unfold own_safe
  rcases Classical.em (s0 = 0) with a | a <;> rcases Classical.em (s1 = 0) with b | b <;> rcases Classical.em (s2 = 0) with c | c <;> rcases Classical.em (s3 = 0) with d | d <;> rcases Classical.em (v = 0) with e | e <;> rcases Classical.em (w = 0) with f | f <;> rcases Classical.em (1 < occ) with g | g <;> simp [a, b, c, d, e, f, g]
theorem pn_java_lang_Record : plainName "java/lang/Record" = true := by first | (simp [plainName, overriddenIn]; done) | decide +kernel
theorem d2_0 : Dc jdk_30_method_1_code 0 (.aload_n 0) 1 1 := ⟨by decide +kernel, rfl⟩
theorem d2_1 : Dc jdk_30_method_1_code 1 (.invokespecial 1) 3 4 := ⟨by decide +kernel, rfl⟩
theorem w_12 {a0 : Array Value} {Z : State} (H : Wd a0 Z) : (Jvm.Cond.methodLink "java/lang/Record" (1 : Nat) ({ cls := "java/lang/Object", name := "<init>", desc := "()V" } : Jvm.MethodName)).before a0 Z = true := H _ (List.mem_of_getElem? (i := 12) rfl)
theorem w_13 {a0 : Array Value} {Z : State} (H : Wd a0 Z) : (Jvm.Cond.instanceMethod ({ cls := "java/lang/Object", name := "<init>", desc := "()V" } : Jvm.MethodName)).before a0 Z = true := H _ (List.mem_of_getElem? (i := 13) rfl)
theorem w_14 {a0 : Array Value} {Z : State} (H : Wd a0 Z) : (Jvm.Cond.code ({ cls := "java/lang/Object", name := "<init>", desc := "()V" } : Jvm.MethodName) object_method_1_code (1 : Nat) (Option.none : Option Jvm.ClassFile.FieldType)).before a0 Z = true := H _ (List.mem_of_getElem? (i := 14) rfl)
theorem d2_4 : Dc jdk_30_method_1_code 4 (.return_) 1 5 := ⟨by decide +kernel, rfl⟩
set_option maxRecDepth 65536 in
set_option maxHeartbeats 40000000 in
theorem rmRec {l : Launch} {Z : State} {a0 : Array Value} {n0 : Nat} (H : Wd a0 Z) (a1 : Addr) (h0 : Heap) (Z0 : n0 ≤ h0.size) :
    Ct l Z n0 (⟨"java/lang/Record", "<init>", "()V"⟩ : MethodName) jdk_30_method_1_code 1 none [] ({ frames := 1, cells := 0, slots := 0, locals := 12 } : Room) #[(.ref a1)] h0 (fun v h => v = none ∧ h0 = h) := by
  refine Ct.of (a0 := a0) (L0 := #[.val (.ref a1)]) (plainFor_of_name pn_java_lang_Record) (fun m => by first | (simp [entryFrame, mkF, argsToLocals, Value.category]; done) | rfl) ?_
  intro κ B0
  have B : Ok κ l Z a0 n0 ({ frames := 1, cells := 0, slots := 0, locals := 12 } : Room) "java/lang/Record" "<init>" jdk_30_method_1_code 1 none := B0
  refine go_aload_n B d2_0 rfl rfl ?_
  refine go_initO B (W := 0) d2_1 (w_12 H) (w_13 H) (w_14 H) rfl rfl (by decide) (by decide) ?_
  refine go_return B d2_4 (by decide) (by decide) ?_
  exact ⟨rfl, rfl⟩
theorem pn_com_example_wary_lease_warylease_drill_DrillResult : plainName "com/example/wary_lease/warylease/drill/DrillResult" = true := by first | (simp [plainName, overriddenIn]; done) | decide +kernel
theorem d1_0 : Dc prog_10_method_1_code 0 (.aload_n 0) 1 1 := ⟨by decide +kernel, rfl⟩
theorem d1_1 : Dc prog_10_method_1_code 1 (.invokespecial 1) 3 4 := ⟨by decide +kernel, rfl⟩
theorem w_11 {a0 : Array Value} {Z : State} (H : Wd a0 Z) : (Jvm.Cond.code ({ cls := "java/lang/Record", name := "<init>", desc := "()V" } : Jvm.MethodName) jdk_30_method_1_code (1 : Nat) (Option.none : Option Jvm.ClassFile.FieldType)).before a0 Z = true := H _ (List.mem_of_getElem? (i := 11) rfl)
theorem w_10 {a0 : Array Value} {Z : State} (H : Wd a0 Z) : (Jvm.Cond.initialized "java/lang/Record").before a0 Z = true := H _ (List.mem_of_getElem? (i := 10) rfl)
theorem pd_0 : parseMethodDescriptor "()V" = some ⟨[], none⟩ := by decide +kernel
theorem w_7 {a0 : Array Value} {Z : State} (H : Wd a0 Z) : (Jvm.Cond.methodLink "com/example/wary_lease/warylease/drill/DrillResult" (1 : Nat) ({ cls := "java/lang/Record", name := "<init>", desc := "()V" } : Jvm.MethodName)).before a0 Z = true := H _ (List.mem_of_getElem? (i := 7) rfl)
theorem w_8 {a0 : Array Value} {Z : State} (H : Wd a0 Z) : (Jvm.Cond.instanceMethod ({ cls := "java/lang/Record", name := "<init>", desc := "()V" } : Jvm.MethodName)).before a0 Z = true := H _ (List.mem_of_getElem? (i := 8) rfl)
theorem d1_4 : Dc prog_10_method_1_code 4 (.aload_n 0) 1 5 := ⟨by decide +kernel, rfl⟩
theorem d1_5 : Dc prog_10_method_1_code 5 (.lload_n 1) 1 6 := ⟨by decide +kernel, rfl⟩
theorem d1_6 : Dc prog_10_method_1_code 6 (.putfield 7) 3 9 := ⟨by decide +kernel, rfl⟩
theorem w_16 {a0 : Array Value} {Z : State} (H : Wd a0 Z) : (Jvm.Cond.laysFinal "com/example/wary_lease/warylease/drill/DrillResult" "com/example/wary_lease/warylease/drill/DrillResult" "entries" "J").before a0 Z = true := H _ (List.mem_of_getElem? (i := 16) rfl)
theorem w_1 {a0 : Array Value} {Z : State} (H : Wd a0 Z) : (Jvm.Cond.instantiable "com/example/wary_lease/warylease/drill/DrillResult" (10 : Nat)).before a0 Z = true := H _ (List.mem_of_getElem? (i := 1) rfl)
theorem w_15 {a0 : Array Value} {Z : State} (H : Wd a0 Z) : (Jvm.Cond.fieldLink "com/example/wary_lease/warylease/drill/DrillResult" (7 : Nat) "com/example/wary_lease/warylease/drill/DrillResult" "entries" "J").before a0 Z = true := H _ (List.mem_of_getElem? (i := 15) rfl)
theorem d1_9 : Dc prog_10_method_1_code 9 (.aload_n 0) 1 10 := ⟨by decide +kernel, rfl⟩
theorem d1_10 : Dc prog_10_method_1_code 10 (.iload_n 3) 1 11 := ⟨by decide +kernel, rfl⟩
theorem d1_11 : Dc prog_10_method_1_code 11 (.putfield 13) 3 14 := ⟨by decide +kernel, rfl⟩
theorem w_18 {a0 : Array Value} {Z : State} (H : Wd a0 Z) : (Jvm.Cond.laysFinal "com/example/wary_lease/warylease/drill/DrillResult" "com/example/wary_lease/warylease/drill/DrillResult" "maxOccupancy" "I").before a0 Z = true := H _ (List.mem_of_getElem? (i := 18) rfl)
theorem w_17 {a0 : Array Value} {Z : State} (H : Wd a0 Z) : (Jvm.Cond.fieldLink "com/example/wary_lease/warylease/drill/DrillResult" (13 : Nat) "com/example/wary_lease/warylease/drill/DrillResult" "maxOccupancy" "I").before a0 Z = true := H _ (List.mem_of_getElem? (i := 17) rfl)
theorem d1_14 : Dc prog_10_method_1_code 14 (.aload_n 0) 1 15 := ⟨by decide +kernel, rfl⟩
theorem d1_15 : Dc prog_10_method_1_code 15 (.iload 4) 2 17 := ⟨by decide +kernel, rfl⟩
theorem d1_17 : Dc prog_10_method_1_code 17 (.putfield 17) 3 20 := ⟨by decide +kernel, rfl⟩
theorem w_20 {a0 : Array Value} {Z : State} (H : Wd a0 Z) : (Jvm.Cond.laysFinal "com/example/wary_lease/warylease/drill/DrillResult" "com/example/wary_lease/warylease/drill/DrillResult" "finalCount" "I").before a0 Z = true := H _ (List.mem_of_getElem? (i := 20) rfl)
theorem w_19 {a0 : Array Value} {Z : State} (H : Wd a0 Z) : (Jvm.Cond.fieldLink "com/example/wary_lease/warylease/drill/DrillResult" (17 : Nat) "com/example/wary_lease/warylease/drill/DrillResult" "finalCount" "I").before a0 Z = true := H _ (List.mem_of_getElem? (i := 19) rfl)
theorem d1_20 : Dc prog_10_method_1_code 20 (.aload_n 0) 1 21 := ⟨by decide +kernel, rfl⟩
theorem d1_21 : Dc prog_10_method_1_code 21 (.lload 5) 2 23 := ⟨by decide +kernel, rfl⟩
theorem d1_23 : Dc prog_10_method_1_code 23 (.putfield 20) 3 26 := ⟨by decide +kernel, rfl⟩
theorem w_22 {a0 : Array Value} {Z : State} (H : Wd a0 Z) : (Jvm.Cond.laysFinal "com/example/wary_lease/warylease/drill/DrillResult" "com/example/wary_lease/warylease/drill/DrillResult" "lateWrites" "J").before a0 Z = true := H _ (List.mem_of_getElem? (i := 22) rfl)
theorem w_21 {a0 : Array Value} {Z : State} (H : Wd a0 Z) : (Jvm.Cond.fieldLink "com/example/wary_lease/warylease/drill/DrillResult" (20 : Nat) "com/example/wary_lease/warylease/drill/DrillResult" "lateWrites" "J").before a0 Z = true := H _ (List.mem_of_getElem? (i := 21) rfl)
theorem d1_26 : Dc prog_10_method_1_code 26 (.aload_n 0) 1 27 := ⟨by decide +kernel, rfl⟩
theorem d1_27 : Dc prog_10_method_1_code 27 (.lload 7) 2 29 := ⟨by decide +kernel, rfl⟩
theorem d1_29 : Dc prog_10_method_1_code 29 (.putfield 23) 3 32 := ⟨by decide +kernel, rfl⟩
theorem w_24 {a0 : Array Value} {Z : State} (H : Wd a0 Z) : (Jvm.Cond.laysFinal "com/example/wary_lease/warylease/drill/DrillResult" "com/example/wary_lease/warylease/drill/DrillResult" "lostLeases" "J").before a0 Z = true := H _ (List.mem_of_getElem? (i := 24) rfl)
theorem w_23 {a0 : Array Value} {Z : State} (H : Wd a0 Z) : (Jvm.Cond.fieldLink "com/example/wary_lease/warylease/drill/DrillResult" (23 : Nat) "com/example/wary_lease/warylease/drill/DrillResult" "lostLeases" "J").before a0 Z = true := H _ (List.mem_of_getElem? (i := 23) rfl)
theorem d1_32 : Dc prog_10_method_1_code 32 (.aload_n 0) 1 33 := ⟨by decide +kernel, rfl⟩
theorem d1_33 : Dc prog_10_method_1_code 33 (.lload 9) 2 35 := ⟨by decide +kernel, rfl⟩
theorem d1_35 : Dc prog_10_method_1_code 35 (.putfield 26) 3 38 := ⟨by decide +kernel, rfl⟩
theorem w_26 {a0 : Array Value} {Z : State} (H : Wd a0 Z) : (Jvm.Cond.laysFinal "com/example/wary_lease/warylease/drill/DrillResult" "com/example/wary_lease/warylease/drill/DrillResult" "silentLosses" "J").before a0 Z = true := H _ (List.mem_of_getElem? (i := 26) rfl)
theorem w_25 {a0 : Array Value} {Z : State} (H : Wd a0 Z) : (Jvm.Cond.fieldLink "com/example/wary_lease/warylease/drill/DrillResult" (26 : Nat) "com/example/wary_lease/warylease/drill/DrillResult" "silentLosses" "J").before a0 Z = true := H _ (List.mem_of_getElem? (i := 25) rfl)
theorem d1_38 : Dc prog_10_method_1_code 38 (.aload_n 0) 1 39 := ⟨by decide +kernel, rfl⟩
theorem d1_39 : Dc prog_10_method_1_code 39 (.lload 11) 2 41 := ⟨by decide +kernel, rfl⟩
theorem d1_41 : Dc prog_10_method_1_code 41 (.putfield 29) 3 44 := ⟨by decide +kernel, rfl⟩
theorem w_28 {a0 : Array Value} {Z : State} (H : Wd a0 Z) : (Jvm.Cond.laysFinal "com/example/wary_lease/warylease/drill/DrillResult" "com/example/wary_lease/warylease/drill/DrillResult" "tokenInversions" "J").before a0 Z = true := H _ (List.mem_of_getElem? (i := 28) rfl)
theorem w_27 {a0 : Array Value} {Z : State} (H : Wd a0 Z) : (Jvm.Cond.fieldLink "com/example/wary_lease/warylease/drill/DrillResult" (29 : Nat) "com/example/wary_lease/warylease/drill/DrillResult" "tokenInversions" "J").before a0 Z = true := H _ (List.mem_of_getElem? (i := 27) rfl)
theorem d1_44 : Dc prog_10_method_1_code 44 (.aload_n 0) 1 45 := ⟨by decide +kernel, rfl⟩
theorem d1_45 : Dc prog_10_method_1_code 45 (.lload 13) 2 47 := ⟨by decide +kernel, rfl⟩
theorem d1_47 : Dc prog_10_method_1_code 47 (.putfield 32) 3 50 := ⟨by decide +kernel, rfl⟩
theorem w_30 {a0 : Array Value} {Z : State} (H : Wd a0 Z) : (Jvm.Cond.laysFinal "com/example/wary_lease/warylease/drill/DrillResult" "com/example/wary_lease/warylease/drill/DrillResult" "staleWritesAccepted" "J").before a0 Z = true := H _ (List.mem_of_getElem? (i := 30) rfl)
theorem w_29 {a0 : Array Value} {Z : State} (H : Wd a0 Z) : (Jvm.Cond.fieldLink "com/example/wary_lease/warylease/drill/DrillResult" (32 : Nat) "com/example/wary_lease/warylease/drill/DrillResult" "staleWritesAccepted" "J").before a0 Z = true := H _ (List.mem_of_getElem? (i := 29) rfl)
theorem d1_50 : Dc prog_10_method_1_code 50 (.aload_n 0) 1 51 := ⟨by decide +kernel, rfl⟩
theorem d1_51 : Dc prog_10_method_1_code 51 (.lload 15) 2 53 := ⟨by decide +kernel, rfl⟩
theorem d1_53 : Dc prog_10_method_1_code 53 (.putfield 35) 3 56 := ⟨by decide +kernel, rfl⟩
theorem w_32 {a0 : Array Value} {Z : State} (H : Wd a0 Z) : (Jvm.Cond.laysFinal "com/example/wary_lease/warylease/drill/DrillResult" "com/example/wary_lease/warylease/drill/DrillResult" "staleWritesRefused" "J").before a0 Z = true := H _ (List.mem_of_getElem? (i := 32) rfl)
theorem w_31 {a0 : Array Value} {Z : State} (H : Wd a0 Z) : (Jvm.Cond.fieldLink "com/example/wary_lease/warylease/drill/DrillResult" (35 : Nat) "com/example/wary_lease/warylease/drill/DrillResult" "staleWritesRefused" "J").before a0 Z = true := H _ (List.mem_of_getElem? (i := 31) rfl)
theorem d1_56 : Dc prog_10_method_1_code 56 (.aload_n 0) 1 57 := ⟨by decide +kernel, rfl⟩
theorem d1_57 : Dc prog_10_method_1_code 57 (.lload 17) 2 59 := ⟨by decide +kernel, rfl⟩
theorem d1_59 : Dc prog_10_method_1_code 59 (.putfield 38) 3 62 := ⟨by decide +kernel, rfl⟩
theorem w_34 {a0 : Array Value} {Z : State} (H : Wd a0 Z) : (Jvm.Cond.laysFinal "com/example/wary_lease/warylease/drill/DrillResult" "com/example/wary_lease/warylease/drill/DrillResult" "errors" "J").before a0 Z = true := H _ (List.mem_of_getElem? (i := 34) rfl)
theorem w_33 {a0 : Array Value} {Z : State} (H : Wd a0 Z) : (Jvm.Cond.fieldLink "com/example/wary_lease/warylease/drill/DrillResult" (38 : Nat) "com/example/wary_lease/warylease/drill/DrillResult" "errors" "J").before a0 Z = true := H _ (List.mem_of_getElem? (i := 33) rfl)
theorem d1_62 : Dc prog_10_method_1_code 62 (.return_) 1 63 := ⟨by decide +kernel, rfl⟩
set_option maxRecDepth 65536 in
set_option maxHeartbeats 40000000 in
theorem rmI {l : Launch} {Z : State} {a0 : Array Value} {n0 : Nat} (H : Wd a0 Z) (a1 : Addr) (x0 : Int64) (x1 : Int32) (x2 : Int32) (x3 : Int64) (x4 : Int64) (x5 : Int64) (x6 : Int64) (x7 : Int64) (x8 : Int64) (x9 : Int64) (h0 : Heap) (Z0 : n0 ≤ h0.size) (E_a1 : Exa Z h0 a1 "com/example/wary_lease/warylease/drill/DrillResult") (F0_a1 : Fld Z h0 a1 "com/example/wary_lease/warylease/drill/DrillResult" "entries" "J" (.long (0 : Int64))) (F1_a1 : Fld Z h0 a1 "com/example/wary_lease/warylease/drill/DrillResult" "maxOccupancy" "I" (.int (0 : Int32))) (F2_a1 : Fld Z h0 a1 "com/example/wary_lease/warylease/drill/DrillResult" "finalCount" "I" (.int (0 : Int32))) (F3_a1 : Fld Z h0 a1 "com/example/wary_lease/warylease/drill/DrillResult" "lateWrites" "J" (.long (0 : Int64))) (F4_a1 : Fld Z h0 a1 "com/example/wary_lease/warylease/drill/DrillResult" "lostLeases" "J" (.long (0 : Int64))) (F5_a1 : Fld Z h0 a1 "com/example/wary_lease/warylease/drill/DrillResult" "silentLosses" "J" (.long (0 : Int64))) (F6_a1 : Fld Z h0 a1 "com/example/wary_lease/warylease/drill/DrillResult" "tokenInversions" "J" (.long (0 : Int64))) (F7_a1 : Fld Z h0 a1 "com/example/wary_lease/warylease/drill/DrillResult" "staleWritesAccepted" "J" (.long (0 : Int64))) (F8_a1 : Fld Z h0 a1 "com/example/wary_lease/warylease/drill/DrillResult" "staleWritesRefused" "J" (.long (0 : Int64))) (F9_a1 : Fld Z h0 a1 "com/example/wary_lease/warylease/drill/DrillResult" "errors" "J" (.long (0 : Int64))) (g1 : n0 ≤ a1) :
    Ct l Z n0 (⟨"com/example/wary_lease/warylease/drill/DrillResult", "<init>", "(JIIJJJJJJJ)V"⟩ : MethodName) prog_10_method_1_code 19 none [] ({ frames := 2, cells := 0, slots := 0, locals := 24 } : Room) #[(.ref a1), (.long x0), (.int x1), (.int x2), (.long x3), (.long x4), (.long x5), (.long x6), (.long x7), (.long x8), (.long x9)] h0 (fun v h => v = none ∧ Keep h0 h [a1] ∧ Exa Z h a1 "com/example/wary_lease/warylease/drill/DrillResult" ∧ Fld Z h a1 "com/example/wary_lease/warylease/drill/DrillResult" "entries" "J" (.long x0) ∧ Fld Z h a1 "com/example/wary_lease/warylease/drill/DrillResult" "maxOccupancy" "I" (.int x1) ∧ Fld Z h a1 "com/example/wary_lease/warylease/drill/DrillResult" "finalCount" "I" (.int x2) ∧ Fld Z h a1 "com/example/wary_lease/warylease/drill/DrillResult" "lateWrites" "J" (.long x3) ∧ Fld Z h a1 "com/example/wary_lease/warylease/drill/DrillResult" "lostLeases" "J" (.long x4) ∧ Fld Z h a1 "com/example/wary_lease/warylease/drill/DrillResult" "silentLosses" "J" (.long x5) ∧ Fld Z h a1 "com/example/wary_lease/warylease/drill/DrillResult" "tokenInversions" "J" (.long x6) ∧ Fld Z h a1 "com/example/wary_lease/warylease/drill/DrillResult" "staleWritesAccepted" "J" (.long x7) ∧ Fld Z h a1 "com/example/wary_lease/warylease/drill/DrillResult" "staleWritesRefused" "J" (.long x8) ∧ Fld Z h a1 "com/example/wary_lease/warylease/drill/DrillResult" "errors" "J" (.long x9)) := by
  refine Ct.of (a0 := a0) (L0 := #[.val (.ref a1), .val (.long x0), .second, .val (.int x1), .val (.int x2), .val (.long x3), .second, .val (.long x4), .second, .val (.long x5), .second, .val (.long x6), .second, .val (.long x7), .second, .val (.long x8), .second, .val (.long x9), .second]) (plainFor_of_name pn_com_example_wary_lease_warylease_drill_DrillResult) (fun m => by first | (simp [entryFrame, mkF, argsToLocals, Value.category]; done) | rfl) ?_
  intro κ B0
  have B : Ok κ l Z a0 n0 ({ frames := 2, cells := 0, slots := 0, locals := 24 } : Room) "com/example/wary_lease/warylease/drill/DrillResult" "<init>" prog_10_method_1_code 19 none := B0
  refine go_aload_n B d1_0 rfl rfl ?_
  refine go_special B (W := 0) (a := a1) (argsL := []) (st := []) d1_1 rfl (w_7 H) (w_8 H) (w_10 H) (w_11 H) (by decide) (rmRec H a1 h0 Z0) pd_0 rfl rfl rfl rfl (by decide) (by decide) (by decide) (by decide) ?_
  rintro _ h1 ⟨rfl, rfl⟩
  show Go κ _ h0 _ _ 4 #[.val (.ref a1), .val (.long x0), .second, .val (.int x1), .val (.int x2), .val (.long x3), .second, .val (.long x4), .second, .val (.long x5), .second, .val (.long x6), .second, .val (.long x7), .second, .val (.long x8), .second, .val (.long x9), .second] []
  refine go_aload_n B d1_4 rfl rfl ?_
  refine go_lload_n B d1_5 rfl ?_
  refine go_putfield B (ty := .long) d1_6 (w_15 H) F0_a1 E_a1 (Or.inr ⟨(w_16 H), rfl, rfl⟩) (w_1 H) (by decide) rfl rfl g1 ?_
  intro h2 W3
  have f4 : Fld Z h2 a1 "com/example/wary_lease/warylease/drill/DrillResult" "entries" "J" (.long x0) := Fld.same W3 F0_a1
  refine go_aload_n B d1_9 rfl rfl ?_
  refine go_iload_n B d1_10 rfl ?_
  have f5 : Fld Z h2 a1 "com/example/wary_lease/warylease/drill/DrillResult" "maxOccupancy" "I" (.int (0 : Int32)) := (Fld.other W3 F1_a1 (Or.inr (slot_ne (t := .int) (t' := .long) (Or.inr (w_18 H)) (Or.inr (w_16 H)) (by decide) (by decide) (by decide))))
  refine go_putfield B (ty := .int) d1_11 (w_17 H) f5 (Exa.wr W3 E_a1) (Or.inr ⟨(w_18 H), rfl, rfl⟩) (w_1 H) (by decide) rfl rfl g1 ?_
  intro h6 W7
  have f8 : Fld Z h6 a1 "com/example/wary_lease/warylease/drill/DrillResult" "maxOccupancy" "I" (.int x1) := Fld.same W7 f5
  refine go_aload_n B d1_14 rfl rfl ?_
  refine go_iload B d1_15 rfl ?_
  have f9 : Fld Z h6 a1 "com/example/wary_lease/warylease/drill/DrillResult" "finalCount" "I" (.int (0 : Int32)) := (Fld.other W7 (Fld.other W3 F2_a1 (Or.inr (slot_ne (t := .int) (t' := .long) (Or.inr (w_20 H)) (Or.inr (w_16 H)) (by decide) (by decide) (by decide)))) (Or.inr (slot_ne (t := .int) (t' := .int) (Or.inr (w_20 H)) (Or.inr (w_18 H)) (by decide) (by decide) (by decide))))
  refine go_putfield B (ty := .int) d1_17 (w_19 H) f9 (Exa.wr W7 (Exa.wr W3 E_a1)) (Or.inr ⟨(w_20 H), rfl, rfl⟩) (w_1 H) (by decide) rfl rfl g1 ?_
  intro h10 W11
  have f12 : Fld Z h10 a1 "com/example/wary_lease/warylease/drill/DrillResult" "finalCount" "I" (.int x2) := Fld.same W11 f9
  refine go_aload_n B d1_20 rfl rfl ?_
  refine go_lload B d1_21 rfl ?_
  have f13 : Fld Z h10 a1 "com/example/wary_lease/warylease/drill/DrillResult" "lateWrites" "J" (.long (0 : Int64)) := (Fld.other W11 (Fld.other W7 (Fld.other W3 F3_a1 (Or.inr (slot_ne (t := .long) (t' := .long) (Or.inr (w_22 H)) (Or.inr (w_16 H)) (by decide) (by decide) (by decide)))) (Or.inr (slot_ne (t := .long) (t' := .int) (Or.inr (w_22 H)) (Or.inr (w_18 H)) (by decide) (by decide) (by decide)))) (Or.inr (slot_ne (t := .long) (t' := .int) (Or.inr (w_22 H)) (Or.inr (w_20 H)) (by decide) (by decide) (by decide))))
  refine go_putfield B (ty := .long) d1_23 (w_21 H) f13 (Exa.wr W11 (Exa.wr W7 (Exa.wr W3 E_a1))) (Or.inr ⟨(w_22 H), rfl, rfl⟩) (w_1 H) (by decide) rfl rfl g1 ?_
  intro h14 W15
  have f16 : Fld Z h14 a1 "com/example/wary_lease/warylease/drill/DrillResult" "lateWrites" "J" (.long x3) := Fld.same W15 f13
  refine go_aload_n B d1_26 rfl rfl ?_
  refine go_lload B d1_27 rfl ?_
  have f17 : Fld Z h14 a1 "com/example/wary_lease/warylease/drill/DrillResult" "lostLeases" "J" (.long (0 : Int64)) := (Fld.other W15 (Fld.other W11 (Fld.other W7 (Fld.other W3 F4_a1 (Or.inr (slot_ne (t := .long) (t' := .long) (Or.inr (w_24 H)) (Or.inr (w_16 H)) (by decide) (by decide) (by decide)))) (Or.inr (slot_ne (t := .long) (t' := .int) (Or.inr (w_24 H)) (Or.inr (w_18 H)) (by decide) (by decide) (by decide)))) (Or.inr (slot_ne (t := .long) (t' := .int) (Or.inr (w_24 H)) (Or.inr (w_20 H)) (by decide) (by decide) (by decide)))) (Or.inr (slot_ne (t := .long) (t' := .long) (Or.inr (w_24 H)) (Or.inr (w_22 H)) (by decide) (by decide) (by decide))))
  refine go_putfield B (ty := .long) d1_29 (w_23 H) f17 (Exa.wr W15 (Exa.wr W11 (Exa.wr W7 (Exa.wr W3 E_a1)))) (Or.inr ⟨(w_24 H), rfl, rfl⟩) (w_1 H) (by decide) rfl rfl g1 ?_
  intro h18 W19
  have f20 : Fld Z h18 a1 "com/example/wary_lease/warylease/drill/DrillResult" "lostLeases" "J" (.long x4) := Fld.same W19 f17
  refine go_aload_n B d1_32 rfl rfl ?_
  refine go_lload B d1_33 rfl ?_
  have f21 : Fld Z h18 a1 "com/example/wary_lease/warylease/drill/DrillResult" "silentLosses" "J" (.long (0 : Int64)) := (Fld.other W19 (Fld.other W15 (Fld.other W11 (Fld.other W7 (Fld.other W3 F5_a1 (Or.inr (slot_ne (t := .long) (t' := .long) (Or.inr (w_26 H)) (Or.inr (w_16 H)) (by decide) (by decide) (by decide)))) (Or.inr (slot_ne (t := .long) (t' := .int) (Or.inr (w_26 H)) (Or.inr (w_18 H)) (by decide) (by decide) (by decide)))) (Or.inr (slot_ne (t := .long) (t' := .int) (Or.inr (w_26 H)) (Or.inr (w_20 H)) (by decide) (by decide) (by decide)))) (Or.inr (slot_ne (t := .long) (t' := .long) (Or.inr (w_26 H)) (Or.inr (w_22 H)) (by decide) (by decide) (by decide)))) (Or.inr (slot_ne (t := .long) (t' := .long) (Or.inr (w_26 H)) (Or.inr (w_24 H)) (by decide) (by decide) (by decide))))
  have f22 : Exa Z h18 a1 "com/example/wary_lease/warylease/drill/DrillResult" := (Exa.wr W19 (Exa.wr W15 (Exa.wr W11 (Exa.wr W7 (Exa.wr W3 E_a1)))))
  refine go_putfield B (ty := .long) d1_35 (w_25 H) f21 f22 (Or.inr ⟨(w_26 H), rfl, rfl⟩) (w_1 H) (by decide) rfl rfl g1 ?_
  intro h23 W24
  have f25 : Fld Z h23 a1 "com/example/wary_lease/warylease/drill/DrillResult" "silentLosses" "J" (.long x5) := Fld.same W24 f21
  refine go_aload_n B d1_38 rfl rfl ?_
  refine go_lload B d1_39 rfl ?_
  have f26 : Fld Z h23 a1 "com/example/wary_lease/warylease/drill/DrillResult" "tokenInversions" "J" (.long (0 : Int64)) := (Fld.other W24 (Fld.other W19 (Fld.other W15 (Fld.other W11 (Fld.other W7 (Fld.other W3 F6_a1 (Or.inr (slot_ne (t := .long) (t' := .long) (Or.inr (w_28 H)) (Or.inr (w_16 H)) (by decide) (by decide) (by decide)))) (Or.inr (slot_ne (t := .long) (t' := .int) (Or.inr (w_28 H)) (Or.inr (w_18 H)) (by decide) (by decide) (by decide)))) (Or.inr (slot_ne (t := .long) (t' := .int) (Or.inr (w_28 H)) (Or.inr (w_20 H)) (by decide) (by decide) (by decide)))) (Or.inr (slot_ne (t := .long) (t' := .long) (Or.inr (w_28 H)) (Or.inr (w_22 H)) (by decide) (by decide) (by decide)))) (Or.inr (slot_ne (t := .long) (t' := .long) (Or.inr (w_28 H)) (Or.inr (w_24 H)) (by decide) (by decide) (by decide)))) (Or.inr (slot_ne (t := .long) (t' := .long) (Or.inr (w_28 H)) (Or.inr (w_26 H)) (by decide) (by decide) (by decide))))
  refine go_putfield B (ty := .long) d1_41 (w_27 H) f26 (Exa.wr W24 f22) (Or.inr ⟨(w_28 H), rfl, rfl⟩) (w_1 H) (by decide) rfl rfl g1 ?_
  intro h27 W28
  have f29 : Fld Z h27 a1 "com/example/wary_lease/warylease/drill/DrillResult" "tokenInversions" "J" (.long x6) := Fld.same W28 f26
  refine go_aload_n B d1_44 rfl rfl ?_
  refine go_lload B d1_45 rfl ?_
  have f30 : Fld Z h27 a1 "com/example/wary_lease/warylease/drill/DrillResult" "staleWritesAccepted" "J" (.long (0 : Int64)) := (Fld.other W28 (Fld.other W24 (Fld.other W19 (Fld.other W15 (Fld.other W11 (Fld.other W7 (Fld.other W3 F7_a1 (Or.inr (slot_ne (t := .long) (t' := .long) (Or.inr (w_30 H)) (Or.inr (w_16 H)) (by decide) (by decide) (by decide)))) (Or.inr (slot_ne (t := .long) (t' := .int) (Or.inr (w_30 H)) (Or.inr (w_18 H)) (by decide) (by decide) (by decide)))) (Or.inr (slot_ne (t := .long) (t' := .int) (Or.inr (w_30 H)) (Or.inr (w_20 H)) (by decide) (by decide) (by decide)))) (Or.inr (slot_ne (t := .long) (t' := .long) (Or.inr (w_30 H)) (Or.inr (w_22 H)) (by decide) (by decide) (by decide)))) (Or.inr (slot_ne (t := .long) (t' := .long) (Or.inr (w_30 H)) (Or.inr (w_24 H)) (by decide) (by decide) (by decide)))) (Or.inr (slot_ne (t := .long) (t' := .long) (Or.inr (w_30 H)) (Or.inr (w_26 H)) (by decide) (by decide) (by decide)))) (Or.inr (slot_ne (t := .long) (t' := .long) (Or.inr (w_30 H)) (Or.inr (w_28 H)) (by decide) (by decide) (by decide))))
  refine go_putfield B (ty := .long) d1_47 (w_29 H) f30 (Exa.wr W28 (Exa.wr W24 f22)) (Or.inr ⟨(w_30 H), rfl, rfl⟩) (w_1 H) (by decide) rfl rfl g1 ?_
  intro h31 W32
  have f33 : Fld Z h31 a1 "com/example/wary_lease/warylease/drill/DrillResult" "staleWritesAccepted" "J" (.long x7) := Fld.same W32 f30
  refine go_aload_n B d1_50 rfl rfl ?_
  refine go_lload B d1_51 rfl ?_
  have f34 : Fld Z h31 a1 "com/example/wary_lease/warylease/drill/DrillResult" "staleWritesRefused" "J" (.long (0 : Int64)) := (Fld.other W32 (Fld.other W28 (Fld.other W24 (Fld.other W19 (Fld.other W15 (Fld.other W11 (Fld.other W7 (Fld.other W3 F8_a1 (Or.inr (slot_ne (t := .long) (t' := .long) (Or.inr (w_32 H)) (Or.inr (w_16 H)) (by decide) (by decide) (by decide)))) (Or.inr (slot_ne (t := .long) (t' := .int) (Or.inr (w_32 H)) (Or.inr (w_18 H)) (by decide) (by decide) (by decide)))) (Or.inr (slot_ne (t := .long) (t' := .int) (Or.inr (w_32 H)) (Or.inr (w_20 H)) (by decide) (by decide) (by decide)))) (Or.inr (slot_ne (t := .long) (t' := .long) (Or.inr (w_32 H)) (Or.inr (w_22 H)) (by decide) (by decide) (by decide)))) (Or.inr (slot_ne (t := .long) (t' := .long) (Or.inr (w_32 H)) (Or.inr (w_24 H)) (by decide) (by decide) (by decide)))) (Or.inr (slot_ne (t := .long) (t' := .long) (Or.inr (w_32 H)) (Or.inr (w_26 H)) (by decide) (by decide) (by decide)))) (Or.inr (slot_ne (t := .long) (t' := .long) (Or.inr (w_32 H)) (Or.inr (w_28 H)) (by decide) (by decide) (by decide)))) (Or.inr (slot_ne (t := .long) (t' := .long) (Or.inr (w_32 H)) (Or.inr (w_30 H)) (by decide) (by decide) (by decide))))
  refine go_putfield B (ty := .long) d1_53 (w_31 H) f34 (Exa.wr W32 (Exa.wr W28 (Exa.wr W24 f22))) (Or.inr ⟨(w_32 H), rfl, rfl⟩) (w_1 H) (by decide) rfl rfl g1 ?_
  intro h35 W36
  have f37 : Fld Z h35 a1 "com/example/wary_lease/warylease/drill/DrillResult" "staleWritesRefused" "J" (.long x8) := Fld.same W36 f34
  refine go_aload_n B d1_56 rfl rfl ?_
  refine go_lload B d1_57 rfl ?_
  have f38 : Fld Z h35 a1 "com/example/wary_lease/warylease/drill/DrillResult" "errors" "J" (.long (0 : Int64)) := (Fld.other W36 (Fld.other W32 (Fld.other W28 (Fld.other W24 (Fld.other W19 (Fld.other W15 (Fld.other W11 (Fld.other W7 (Fld.other W3 F9_a1 (Or.inr (slot_ne (t := .long) (t' := .long) (Or.inr (w_34 H)) (Or.inr (w_16 H)) (by decide) (by decide) (by decide)))) (Or.inr (slot_ne (t := .long) (t' := .int) (Or.inr (w_34 H)) (Or.inr (w_18 H)) (by decide) (by decide) (by decide)))) (Or.inr (slot_ne (t := .long) (t' := .int) (Or.inr (w_34 H)) (Or.inr (w_20 H)) (by decide) (by decide) (by decide)))) (Or.inr (slot_ne (t := .long) (t' := .long) (Or.inr (w_34 H)) (Or.inr (w_22 H)) (by decide) (by decide) (by decide)))) (Or.inr (slot_ne (t := .long) (t' := .long) (Or.inr (w_34 H)) (Or.inr (w_24 H)) (by decide) (by decide) (by decide)))) (Or.inr (slot_ne (t := .long) (t' := .long) (Or.inr (w_34 H)) (Or.inr (w_26 H)) (by decide) (by decide) (by decide)))) (Or.inr (slot_ne (t := .long) (t' := .long) (Or.inr (w_34 H)) (Or.inr (w_28 H)) (by decide) (by decide) (by decide)))) (Or.inr (slot_ne (t := .long) (t' := .long) (Or.inr (w_34 H)) (Or.inr (w_30 H)) (by decide) (by decide) (by decide)))) (Or.inr (slot_ne (t := .long) (t' := .long) (Or.inr (w_34 H)) (Or.inr (w_32 H)) (by decide) (by decide) (by decide))))
  refine go_putfield B (ty := .long) d1_59 (w_33 H) f38 (Exa.wr W36 (Exa.wr W32 (Exa.wr W28 (Exa.wr W24 f22)))) (Or.inr ⟨(w_34 H), rfl, rfl⟩) (w_1 H) (by decide) rfl rfl g1 ?_
  intro h39 W40
  have f41 : Fld Z h39 a1 "com/example/wary_lease/warylease/drill/DrillResult" "errors" "J" (.long x9) := Fld.same W40 f38
  refine go_return B d1_62 (by decide) (by decide) ?_
  have f42 : Keep h0 h39 [a1] := (Keep.wr (Keep.wr (Keep.wr (Keep.wr (Keep.wr (Keep.wr (Keep.wr (Keep.wr (Keep.wr (Keep.wr (Keep.refl _ _) W3 (Or.inl (by simp))) W7 (Or.inl (by simp))) W11 (Or.inl (by simp))) W15 (Or.inl (by simp))) W19 (Or.inl (by simp))) W24 (Or.inl (by simp))) W28 (Or.inl (by simp))) W32 (Or.inl (by simp))) W36 (Or.inl (by simp))) W40 (Or.inl (by simp)))
  have f43 : Exa Z h39 a1 "com/example/wary_lease/warylease/drill/DrillResult" := (Exa.wr W40 (Exa.wr W36 (Exa.wr W32 (Exa.wr W28 (Exa.wr W24 f22)))))
  have f44 : Fld Z h39 a1 "com/example/wary_lease/warylease/drill/DrillResult" "entries" "J" (.long x0) := (Fld.other W40 (Fld.other W36 (Fld.other W32 (Fld.other W28 (Fld.other W24 (Fld.other W19 (Fld.other W15 (Fld.other W11 (Fld.other W7 f4 (Or.inr (slot_ne (t := .long) (t' := .int) (Or.inr (w_16 H)) (Or.inr (w_18 H)) (by decide) (by decide) (by decide)))) (Or.inr (slot_ne (t := .long) (t' := .int) (Or.inr (w_16 H)) (Or.inr (w_20 H)) (by decide) (by decide) (by decide)))) (Or.inr (slot_ne (t := .long) (t' := .long) (Or.inr (w_16 H)) (Or.inr (w_22 H)) (by decide) (by decide) (by decide)))) (Or.inr (slot_ne (t := .long) (t' := .long) (Or.inr (w_16 H)) (Or.inr (w_24 H)) (by decide) (by decide) (by decide)))) (Or.inr (slot_ne (t := .long) (t' := .long) (Or.inr (w_16 H)) (Or.inr (w_26 H)) (by decide) (by decide) (by decide)))) (Or.inr (slot_ne (t := .long) (t' := .long) (Or.inr (w_16 H)) (Or.inr (w_28 H)) (by decide) (by decide) (by decide)))) (Or.inr (slot_ne (t := .long) (t' := .long) (Or.inr (w_16 H)) (Or.inr (w_30 H)) (by decide) (by decide) (by decide)))) (Or.inr (slot_ne (t := .long) (t' := .long) (Or.inr (w_16 H)) (Or.inr (w_32 H)) (by decide) (by decide) (by decide)))) (Or.inr (slot_ne (t := .long) (t' := .long) (Or.inr (w_16 H)) (Or.inr (w_34 H)) (by decide) (by decide) (by decide))))
  have f45 : Fld Z h39 a1 "com/example/wary_lease/warylease/drill/DrillResult" "maxOccupancy" "I" (.int x1) := (Fld.other W40 (Fld.other W36 (Fld.other W32 (Fld.other W28 (Fld.other W24 (Fld.other W19 (Fld.other W15 (Fld.other W11 f8 (Or.inr (slot_ne (t := .int) (t' := .int) (Or.inr (w_18 H)) (Or.inr (w_20 H)) (by decide) (by decide) (by decide)))) (Or.inr (slot_ne (t := .int) (t' := .long) (Or.inr (w_18 H)) (Or.inr (w_22 H)) (by decide) (by decide) (by decide)))) (Or.inr (slot_ne (t := .int) (t' := .long) (Or.inr (w_18 H)) (Or.inr (w_24 H)) (by decide) (by decide) (by decide)))) (Or.inr (slot_ne (t := .int) (t' := .long) (Or.inr (w_18 H)) (Or.inr (w_26 H)) (by decide) (by decide) (by decide)))) (Or.inr (slot_ne (t := .int) (t' := .long) (Or.inr (w_18 H)) (Or.inr (w_28 H)) (by decide) (by decide) (by decide)))) (Or.inr (slot_ne (t := .int) (t' := .long) (Or.inr (w_18 H)) (Or.inr (w_30 H)) (by decide) (by decide) (by decide)))) (Or.inr (slot_ne (t := .int) (t' := .long) (Or.inr (w_18 H)) (Or.inr (w_32 H)) (by decide) (by decide) (by decide)))) (Or.inr (slot_ne (t := .int) (t' := .long) (Or.inr (w_18 H)) (Or.inr (w_34 H)) (by decide) (by decide) (by decide))))
  have f46 : Fld Z h39 a1 "com/example/wary_lease/warylease/drill/DrillResult" "finalCount" "I" (.int x2) := (Fld.other W40 (Fld.other W36 (Fld.other W32 (Fld.other W28 (Fld.other W24 (Fld.other W19 (Fld.other W15 f12 (Or.inr (slot_ne (t := .int) (t' := .long) (Or.inr (w_20 H)) (Or.inr (w_22 H)) (by decide) (by decide) (by decide)))) (Or.inr (slot_ne (t := .int) (t' := .long) (Or.inr (w_20 H)) (Or.inr (w_24 H)) (by decide) (by decide) (by decide)))) (Or.inr (slot_ne (t := .int) (t' := .long) (Or.inr (w_20 H)) (Or.inr (w_26 H)) (by decide) (by decide) (by decide)))) (Or.inr (slot_ne (t := .int) (t' := .long) (Or.inr (w_20 H)) (Or.inr (w_28 H)) (by decide) (by decide) (by decide)))) (Or.inr (slot_ne (t := .int) (t' := .long) (Or.inr (w_20 H)) (Or.inr (w_30 H)) (by decide) (by decide) (by decide)))) (Or.inr (slot_ne (t := .int) (t' := .long) (Or.inr (w_20 H)) (Or.inr (w_32 H)) (by decide) (by decide) (by decide)))) (Or.inr (slot_ne (t := .int) (t' := .long) (Or.inr (w_20 H)) (Or.inr (w_34 H)) (by decide) (by decide) (by decide))))
  have f47 : Fld Z h39 a1 "com/example/wary_lease/warylease/drill/DrillResult" "lateWrites" "J" (.long x3) := (Fld.other W40 (Fld.other W36 (Fld.other W32 (Fld.other W28 (Fld.other W24 (Fld.other W19 f16 (Or.inr (slot_ne (t := .long) (t' := .long) (Or.inr (w_22 H)) (Or.inr (w_24 H)) (by decide) (by decide) (by decide)))) (Or.inr (slot_ne (t := .long) (t' := .long) (Or.inr (w_22 H)) (Or.inr (w_26 H)) (by decide) (by decide) (by decide)))) (Or.inr (slot_ne (t := .long) (t' := .long) (Or.inr (w_22 H)) (Or.inr (w_28 H)) (by decide) (by decide) (by decide)))) (Or.inr (slot_ne (t := .long) (t' := .long) (Or.inr (w_22 H)) (Or.inr (w_30 H)) (by decide) (by decide) (by decide)))) (Or.inr (slot_ne (t := .long) (t' := .long) (Or.inr (w_22 H)) (Or.inr (w_32 H)) (by decide) (by decide) (by decide)))) (Or.inr (slot_ne (t := .long) (t' := .long) (Or.inr (w_22 H)) (Or.inr (w_34 H)) (by decide) (by decide) (by decide))))
  have f48 : Fld Z h39 a1 "com/example/wary_lease/warylease/drill/DrillResult" "lostLeases" "J" (.long x4) := (Fld.other W40 (Fld.other W36 (Fld.other W32 (Fld.other W28 (Fld.other W24 f20 (Or.inr (slot_ne (t := .long) (t' := .long) (Or.inr (w_24 H)) (Or.inr (w_26 H)) (by decide) (by decide) (by decide)))) (Or.inr (slot_ne (t := .long) (t' := .long) (Or.inr (w_24 H)) (Or.inr (w_28 H)) (by decide) (by decide) (by decide)))) (Or.inr (slot_ne (t := .long) (t' := .long) (Or.inr (w_24 H)) (Or.inr (w_30 H)) (by decide) (by decide) (by decide)))) (Or.inr (slot_ne (t := .long) (t' := .long) (Or.inr (w_24 H)) (Or.inr (w_32 H)) (by decide) (by decide) (by decide)))) (Or.inr (slot_ne (t := .long) (t' := .long) (Or.inr (w_24 H)) (Or.inr (w_34 H)) (by decide) (by decide) (by decide))))
  have f49 : Fld Z h39 a1 "com/example/wary_lease/warylease/drill/DrillResult" "silentLosses" "J" (.long x5) := (Fld.other W40 (Fld.other W36 (Fld.other W32 (Fld.other W28 f25 (Or.inr (slot_ne (t := .long) (t' := .long) (Or.inr (w_26 H)) (Or.inr (w_28 H)) (by decide) (by decide) (by decide)))) (Or.inr (slot_ne (t := .long) (t' := .long) (Or.inr (w_26 H)) (Or.inr (w_30 H)) (by decide) (by decide) (by decide)))) (Or.inr (slot_ne (t := .long) (t' := .long) (Or.inr (w_26 H)) (Or.inr (w_32 H)) (by decide) (by decide) (by decide)))) (Or.inr (slot_ne (t := .long) (t' := .long) (Or.inr (w_26 H)) (Or.inr (w_34 H)) (by decide) (by decide) (by decide))))
  have f50 : Fld Z h39 a1 "com/example/wary_lease/warylease/drill/DrillResult" "tokenInversions" "J" (.long x6) := (Fld.other W40 (Fld.other W36 (Fld.other W32 f29 (Or.inr (slot_ne (t := .long) (t' := .long) (Or.inr (w_28 H)) (Or.inr (w_30 H)) (by decide) (by decide) (by decide)))) (Or.inr (slot_ne (t := .long) (t' := .long) (Or.inr (w_28 H)) (Or.inr (w_32 H)) (by decide) (by decide) (by decide)))) (Or.inr (slot_ne (t := .long) (t' := .long) (Or.inr (w_28 H)) (Or.inr (w_34 H)) (by decide) (by decide) (by decide))))
  have f51 : Fld Z h39 a1 "com/example/wary_lease/warylease/drill/DrillResult" "staleWritesAccepted" "J" (.long x7) := (Fld.other W40 (Fld.other W36 f33 (Or.inr (slot_ne (t := .long) (t' := .long) (Or.inr (w_30 H)) (Or.inr (w_32 H)) (by decide) (by decide) (by decide)))) (Or.inr (slot_ne (t := .long) (t' := .long) (Or.inr (w_30 H)) (Or.inr (w_34 H)) (by decide) (by decide) (by decide))))
  have f52 : Fld Z h39 a1 "com/example/wary_lease/warylease/drill/DrillResult" "staleWritesRefused" "J" (.long x8) := (Fld.other W40 f37 (Or.inr (slot_ne (t := .long) (t' := .long) (Or.inr (w_32 H)) (Or.inr (w_34 H)) (by decide) (by decide) (by decide))))
  exact ⟨rfl, f42, f43, f44, f45, f46, f47, f48, f49, f50, f51, f52, f41⟩
theorem d4_0 : Dc prog_10_method_2_code 0 (.aload_n 0) 1 1 := ⟨by decide +kernel, rfl⟩
theorem d4_1 : Dc prog_10_method_2_code 1 (.getfield 13) 3 4 := ⟨by decide +kernel, rfl⟩
theorem d4_4 : Dc prog_10_method_2_code 4 (.iconst 1) 1 5 := ⟨by decide +kernel, rfl⟩
theorem d4_5 : Db prog_10_method_2_code 5 (.if_icmp .gt 43) 43 8 48 := ⟨by decide +kernel, rfl, rfl⟩
theorem d4_48 : Dc prog_10_method_2_code 48 (.iconst 0) 1 49 := ⟨by decide +kernel, rfl⟩
theorem d4_49 : Dc prog_10_method_2_code 49 (.ireturn) 1 50 := ⟨by decide +kernel, rfl⟩
theorem d4_8 : Dc prog_10_method_2_code 8 (.aload_n 0) 1 9 := ⟨by decide +kernel, rfl⟩
theorem d4_9 : Dc prog_10_method_2_code 9 (.getfield 20) 3 12 := ⟨by decide +kernel, rfl⟩
theorem d4_12 : Dc prog_10_method_2_code 12 (.lconst 0) 1 13 := ⟨by decide +kernel, rfl⟩
theorem d4_13 : Dc prog_10_method_2_code 13 (.lcmp) 1 14 := ⟨by decide +kernel, rfl⟩
theorem d4_14 : Db prog_10_method_2_code 14 (.ifCond .ne 34) 34 17 48 := ⟨by decide +kernel, rfl, rfl⟩
theorem d4_17 : Dc prog_10_method_2_code 17 (.aload_n 0) 1 18 := ⟨by decide +kernel, rfl⟩
theorem d4_18 : Dc prog_10_method_2_code 18 (.getfield 26) 3 21 := ⟨by decide +kernel, rfl⟩
theorem d4_21 : Dc prog_10_method_2_code 21 (.lconst 0) 1 22 := ⟨by decide +kernel, rfl⟩
theorem d4_22 : Dc prog_10_method_2_code 22 (.lcmp) 1 23 := ⟨by decide +kernel, rfl⟩
theorem d4_23 : Db prog_10_method_2_code 23 (.ifCond .ne 25) 25 26 48 := ⟨by decide +kernel, rfl, rfl⟩
theorem d4_26 : Dc prog_10_method_2_code 26 (.aload_n 0) 1 27 := ⟨by decide +kernel, rfl⟩
theorem d4_27 : Dc prog_10_method_2_code 27 (.getfield 29) 3 30 := ⟨by decide +kernel, rfl⟩
theorem d4_30 : Dc prog_10_method_2_code 30 (.lconst 0) 1 31 := ⟨by decide +kernel, rfl⟩
theorem d4_31 : Dc prog_10_method_2_code 31 (.lcmp) 1 32 := ⟨by decide +kernel, rfl⟩
theorem d4_32 : Db prog_10_method_2_code 32 (.ifCond .ne 16) 16 35 48 := ⟨by decide +kernel, rfl, rfl⟩
theorem d4_35 : Dc prog_10_method_2_code 35 (.aload_n 0) 1 36 := ⟨by decide +kernel, rfl⟩
theorem d4_36 : Dc prog_10_method_2_code 36 (.getfield 32) 3 39 := ⟨by decide +kernel, rfl⟩
theorem d4_39 : Dc prog_10_method_2_code 39 (.lconst 0) 1 40 := ⟨by decide +kernel, rfl⟩
theorem d4_40 : Dc prog_10_method_2_code 40 (.lcmp) 1 41 := ⟨by decide +kernel, rfl⟩
theorem d4_41 : Db prog_10_method_2_code 41 (.ifCond .ne 7) 7 44 48 := ⟨by decide +kernel, rfl, rfl⟩
theorem d4_44 : Dc prog_10_method_2_code 44 (.iconst 1) 1 45 := ⟨by decide +kernel, rfl⟩
theorem d4_45 : Db prog_10_method_2_code 45 (.goto 4) 4 48 49 := ⟨by decide +kernel, rfl, rfl⟩
set_option maxRecDepth 65536 in
set_option maxHeartbeats 40000000 in
theorem rmS {l : Launch} {Z : State} {a0 : Array Value} {n0 : Nat} (H : Wd a0 Z) (a1 : Addr) (x0 : Int64) (x1 : Int32) (x2 : Int32) (x3 : Int64) (x4 : Int64) (x5 : Int64) (x6 : Int64) (x7 : Int64) (x8 : Int64) (x9 : Int64) (h0 : Heap) (Z0 : n0 ≤ h0.size) (E_a1 : Exa Z h0 a1 "com/example/wary_lease/warylease/drill/DrillResult") (F0_a1 : Fld Z h0 a1 "com/example/wary_lease/warylease/drill/DrillResult" "entries" "J" (.long x0)) (F1_a1 : Fld Z h0 a1 "com/example/wary_lease/warylease/drill/DrillResult" "maxOccupancy" "I" (.int x1)) (F2_a1 : Fld Z h0 a1 "com/example/wary_lease/warylease/drill/DrillResult" "finalCount" "I" (.int x2)) (F3_a1 : Fld Z h0 a1 "com/example/wary_lease/warylease/drill/DrillResult" "lateWrites" "J" (.long x3)) (F4_a1 : Fld Z h0 a1 "com/example/wary_lease/warylease/drill/DrillResult" "lostLeases" "J" (.long x4)) (F5_a1 : Fld Z h0 a1 "com/example/wary_lease/warylease/drill/DrillResult" "silentLosses" "J" (.long x5)) (F6_a1 : Fld Z h0 a1 "com/example/wary_lease/warylease/drill/DrillResult" "tokenInversions" "J" (.long x6)) (F7_a1 : Fld Z h0 a1 "com/example/wary_lease/warylease/drill/DrillResult" "staleWritesAccepted" "J" (.long x7)) (F8_a1 : Fld Z h0 a1 "com/example/wary_lease/warylease/drill/DrillResult" "staleWritesRefused" "J" (.long x8)) (F9_a1 : Fld Z h0 a1 "com/example/wary_lease/warylease/drill/DrillResult" "errors" "J" (.long x9)) :
    Ct l Z n0 (⟨"com/example/wary_lease/warylease/drill/DrillResult", "isSafe", "()Z"⟩ : MethodName) prog_10_method_2_code 1 (some .boolean) [] ({ frames := 0, cells := 0, slots := 0, locals := 0 } : Room) #[(.ref a1)] h0 (fun v h => v = some (.int (own_safe x1 x3 x5 x6 x7)) ∧ h0 = h) := by
  refine Ct.of (a0 := a0) (L0 := #[.val (.ref a1)]) (plainFor_of_name pn_com_example_wary_lease_warylease_drill_DrillResult) (fun m => by first | (simp [entryFrame, mkF, argsToLocals, Value.category]; done) | rfl) ?_
  intro κ B0
  have B : Ok κ l Z a0 n0 ({ frames := 0, cells := 0, slots := 0, locals := 0 } : Room) "com/example/wary_lease/warylease/drill/DrillResult" "isSafe" prog_10_method_2_code 1 (some .boolean) := B0
  refine go_aload_n B d4_0 rfl rfl ?_
  refine go_getfield B d4_1 (w_17 H) F1_a1 ?_
  refine go_iconst B (x := (1 : Int32)) d4_4 rfl ?_
  refine go_icmpgt B d4_5 (fun c5 => ?_) (fun c5 => ?_)
  · skip
    refine go_iconst B (x := (0 : Int32)) d4_48 rfl ?_
    refine go_zreturn B (y := (0 : Int32)) d4_49 (by decide) (by decide) (by decide) ?_
    exact ⟨congrArg (fun z => some (Value.int z)) (by simp [own_safe, c5]), rfl⟩
  · skip
    refine go_aload_n B d4_8 rfl rfl ?_
    refine go_getfield B d4_9 (w_21 H) F3_a1 ?_
    refine go_lconst B (u := (0 : Int64)) d4_12 rfl ?_
    refine go_lcmp B d4_13 ?_
    refine go_lifne B d4_14 (fun c14 => ?_) (fun c14 => ?_)
    · skip
      refine go_iconst B (x := (0 : Int32)) d4_48 rfl ?_
      refine go_zreturn B (y := (0 : Int32)) d4_49 (by decide) (by decide) (by decide) ?_
      exact ⟨congrArg (fun z => some (Value.int z)) (by simp [own_safe, c5, c14]), rfl⟩
    · skip
      refine go_aload_n B d4_17 rfl rfl ?_
      refine go_getfield B d4_18 (w_25 H) F5_a1 ?_
      refine go_lconst B (u := (0 : Int64)) d4_21 rfl ?_
      refine go_lcmp B d4_22 ?_
      refine go_lifne B d4_23 (fun c23 => ?_) (fun c23 => ?_)
      · skip
        refine go_iconst B (x := (0 : Int32)) d4_48 rfl ?_
        refine go_zreturn B (y := (0 : Int32)) d4_49 (by decide) (by decide) (by decide) ?_
        exact ⟨congrArg (fun z => some (Value.int z)) (by simp [own_safe, c5, c14, c23]), rfl⟩
      · skip
        refine go_aload_n B d4_26 rfl rfl ?_
        refine go_getfield B d4_27 (w_27 H) F6_a1 ?_
        refine go_lconst B (u := (0 : Int64)) d4_30 rfl ?_
        refine go_lcmp B d4_31 ?_
        refine go_lifne B d4_32 (fun c32 => ?_) (fun c32 => ?_)
        · skip
          refine go_iconst B (x := (0 : Int32)) d4_48 rfl ?_
          refine go_zreturn B (y := (0 : Int32)) d4_49 (by decide) (by decide) (by decide) ?_
          exact ⟨congrArg (fun z => some (Value.int z)) (by simp [own_safe, c5, c14, c23, c32]), rfl⟩
        · skip
          refine go_aload_n B d4_35 rfl rfl ?_
          refine go_getfield B d4_36 (w_29 H) F7_a1 ?_
          refine go_lconst B (u := (0 : Int64)) d4_39 rfl ?_
          refine go_lcmp B d4_40 ?_
          refine go_lifne B d4_41 (fun c41 => ?_) (fun c41 => ?_)
          · skip
            refine go_iconst B (x := (0 : Int32)) d4_48 rfl ?_
            refine go_zreturn B (y := (0 : Int32)) d4_49 (by decide) (by decide) (by decide) ?_
            exact ⟨congrArg (fun z => some (Value.int z)) (by simp [own_safe, c5, c14, c23, c32, c41]), rfl⟩
          · skip
            refine go_iconst B (x := (1 : Int32)) d4_44 rfl ?_
            refine go_goto B d4_45 ?_
            refine go_zreturn B (y := (1 : Int32)) d4_49 (by decide) (by decide) (by decide) ?_
            exact ⟨congrArg (fun z => some (Value.int z)) (by simp [own_safe, c5, c14, c23, c32, c41]), rfl⟩
theorem pn_com_example_wary_lease_warylease_drill_DrillResultIsSafePinLaw : plainName "com/example/wary_lease/warylease/drill/DrillResultIsSafePinLaw" = true := by first | (simp [plainName, overriddenIn]; done) | decide +kernel
theorem d0_0 : Dc code 0 (.iload_n 0) 1 1 := ⟨at_0, rfl⟩
theorem d0_1 : Dc code 1 (.iconst 1) 1 2 := ⟨at_1, rfl⟩
theorem d0_2 : Dc code 2 (.iand) 1 3 := ⟨at_2, rfl⟩
theorem d0_3 : Db code 3 (.ifCond .eq 7) 7 6 10 := ⟨at_3, rfl, rfl⟩
theorem d0_11 : Dc code 11 (.istore 9) 2 13 := ⟨at_11, rfl⟩
theorem d0_13 : Dc code 13 (.iload_n 0) 1 14 := ⟨at_13, rfl⟩
theorem d0_14 : Dc code 14 (.iconst 2) 1 15 := ⟨at_14, rfl⟩
theorem d0_15 : Dc code 15 (.iand) 1 16 := ⟨at_15, rfl⟩
theorem d0_16 : Db code 16 (.ifCond .eq 7) 7 19 23 := ⟨at_16, rfl, rfl⟩
theorem d0_24 : Dc code 24 (.istore 10) 2 26 := ⟨at_24, rfl⟩
theorem d0_26 : Dc code 26 (.iload_n 0) 1 27 := ⟨at_26, rfl⟩
theorem d0_27 : Dc code 27 (.iconst 4) 1 28 := ⟨at_27, rfl⟩
theorem d0_28 : Dc code 28 (.iand) 1 29 := ⟨at_28, rfl⟩
theorem d0_29 : Db code 29 (.ifCond .eq 7) 7 32 36 := ⟨at_29, rfl, rfl⟩
theorem d0_37 : Dc code 37 (.istore 11) 2 39 := ⟨at_37, rfl⟩
theorem d0_39 : Dc code 39 (.iload_n 0) 1 40 := ⟨at_39, rfl⟩
theorem d0_40 : Dc code 40 (.bipush 8) 2 42 := ⟨at_40, rfl⟩
theorem d0_42 : Dc code 42 (.iand) 1 43 := ⟨at_42, rfl⟩
theorem d0_43 : Db code 43 (.ifCond .eq 7) 7 46 50 := ⟨at_43, rfl, rfl⟩
theorem d0_51 : Dc code 51 (.istore 12) 2 53 := ⟨at_51, rfl⟩
theorem d0_53 : Dc code 53 (.iload 9) 2 55 := ⟨at_53, rfl⟩
theorem d0_55 : Db code 55 (.ifCond .eq 7) 7 58 62 := ⟨at_55, rfl, rfl⟩
theorem d0_63 : Dc code 63 (.lstore 13) 2 65 := ⟨at_63, rfl⟩
theorem d0_65 : Dc code 65 (.iload 10) 2 67 := ⟨at_65, rfl⟩
theorem d0_67 : Db code 67 (.ifCond .eq 8) 8 70 75 := ⟨at_67, rfl, rfl⟩
theorem d0_76 : Dc code 76 (.lstore 15) 2 78 := ⟨at_76, rfl⟩
theorem d0_78 : Dc code 78 (.iload 11) 2 80 := ⟨at_78, rfl⟩
theorem d0_80 : Db code 80 (.ifCond .eq 7) 7 83 87 := ⟨at_80, rfl, rfl⟩
theorem d0_88 : Dc code 88 (.lstore 17) 2 90 := ⟨at_88, rfl⟩
theorem d0_90 : Dc code 90 (.iload 12) 2 92 := ⟨at_90, rfl⟩
theorem d0_92 : Db code 92 (.ifCond .eq 8) 8 95 100 := ⟨at_92, rfl, rfl⟩
theorem d0_101 : Dc code 101 (.lstore 19) 2 103 := ⟨at_101, rfl⟩
theorem d0_103 : Dc code 103 (.new 7) 3 106 := ⟨at_103, rfl⟩
theorem w_0 {a0 : Array Value} {Z : State} (H : Wd a0 Z) : (Jvm.Cond.classLink "com/example/wary_lease/warylease/drill/DrillResultIsSafePinLaw" (7 : Nat) "com/example/wary_lease/warylease/drill/DrillResult").before a0 Z = true := H _ (List.mem_of_getElem? (i := 0) rfl)
theorem w_2 {a0 : Array Value} {Z : State} (H : Wd a0 Z) : (Jvm.Cond.initialized "com/example/wary_lease/warylease/drill/DrillResult").before a0 Z = true := H _ (List.mem_of_getElem? (i := 2) rfl)
theorem d0_106 : Dc code 106 (.dup) 1 107 := ⟨at_106, rfl⟩
theorem d0_107 : Dc code 107 (.lload 6) 2 109 := ⟨at_107, rfl⟩
theorem d0_109 : Dc code 109 (.iload_n 1) 1 110 := ⟨at_109, rfl⟩
theorem d0_110 : Dc code 110 (.iload 8) 2 112 := ⟨at_110, rfl⟩
theorem d0_112 : Dc code 112 (.lload 13) 2 114 := ⟨at_112, rfl⟩
theorem d0_114 : Dc code 114 (.lload 6) 2 116 := ⟨at_114, rfl⟩
theorem d0_116 : Dc code 116 (.lload_n 2) 1 117 := ⟨at_116, rfl⟩
theorem d0_117 : Dc code 117 (.lxor) 1 118 := ⟨at_117, rfl⟩
theorem d0_118 : Dc code 118 (.lload 15) 2 120 := ⟨at_118, rfl⟩
theorem d0_120 : Dc code 120 (.lload 17) 2 122 := ⟨at_120, rfl⟩
theorem d0_122 : Dc code 122 (.lload 19) 2 124 := ⟨at_122, rfl⟩
theorem d0_124 : Dc code 124 (.lload 6) 2 126 := ⟨at_124, rfl⟩
theorem d0_126 : Dc code 126 (.lload 4) 2 128 := ⟨at_126, rfl⟩
theorem d0_128 : Dc code 128 (.lxor) 1 129 := ⟨at_128, rfl⟩
theorem d0_129 : Dc code 129 (.lload 6) 2 131 := ⟨at_129, rfl⟩
theorem d0_131 : Dc code 131 (.ldc2_w 9) 3 134 := ⟨at_131, rfl⟩
theorem w_3 {a0 : Array Value} {Z : State} (H : Wd a0 Z) : (Jvm.Cond.constantLong "com/example/wary_lease/warylease/drill/DrillResultIsSafePinLaw" (9 : Nat) (-1 : Int64)).before a0 Z = true := H _ (List.mem_of_getElem? (i := 3) rfl)
theorem d0_134 : Dc code 134 (.lxor) 1 135 := ⟨at_134, rfl⟩
theorem d0_135 : Dc code 135 (.invokespecial 11) 3 138 := ⟨at_135, rfl⟩
theorem w_6 {a0 : Array Value} {Z : State} (H : Wd a0 Z) : (Jvm.Cond.code ({ cls := "com/example/wary_lease/warylease/drill/DrillResult", name := "<init>", desc := "(JIIJJJJJJJ)V" } : Jvm.MethodName) prog_10_method_1_code (19 : Nat) (Option.none : Option Jvm.ClassFile.FieldType)).before a0 Z = true := H _ (List.mem_of_getElem? (i := 6) rfl)
theorem pd_1 : parseMethodDescriptor "(JIIJJJJJJJ)V" = some ⟨[.long, .int, .int, .long, .long, .long, .long, .long, .long, .long], none⟩ := by decide +kernel
theorem w_4 {a0 : Array Value} {Z : State} (H : Wd a0 Z) : (Jvm.Cond.methodLink "com/example/wary_lease/warylease/drill/DrillResultIsSafePinLaw" (11 : Nat) ({ cls := "com/example/wary_lease/warylease/drill/DrillResult", name := "<init>", desc := "(JIIJJJJJJJ)V" } : Jvm.MethodName)).before a0 Z = true := H _ (List.mem_of_getElem? (i := 4) rfl)
theorem w_5 {a0 : Array Value} {Z : State} (H : Wd a0 Z) : (Jvm.Cond.instanceMethod ({ cls := "com/example/wary_lease/warylease/drill/DrillResult", name := "<init>", desc := "(JIIJJJJJJJ)V" } : Jvm.MethodName)).before a0 Z = true := H _ (List.mem_of_getElem? (i := 5) rfl)
theorem d0_138 : Dc code 138 (.astore 21) 2 140 := ⟨at_138, rfl⟩
theorem d0_140 : Dc code 140 (.iload 9) 2 142 := ⟨at_140, rfl⟩
theorem d0_142 : Db code 142 (.ifCond .ne 8) 8 145 150 := ⟨at_142, rfl, rfl⟩
theorem d0_161 : Dc code 161 (.istore 22) 2 163 := ⟨at_161, rfl⟩
theorem d0_163 : Dc code 163 (.iload 10) 2 165 := ⟨at_163, rfl⟩
theorem d0_165 : Db code 165 (.ifCond .ne 8) 8 168 173 := ⟨at_165, rfl, rfl⟩
theorem d0_185 : Dc code 185 (.istore 23) 2 187 := ⟨at_185, rfl⟩
theorem d0_187 : Dc code 187 (.iload_n 1) 1 188 := ⟨at_187, rfl⟩
theorem d0_188 : Dc code 188 (.iconst 1) 1 189 := ⟨at_188, rfl⟩
theorem d0_189 : Db code 189 (.if_icmp .gt 7) 7 192 196 := ⟨at_189, rfl, rfl⟩
theorem d0_197 : Dc code 197 (.istore 24) 2 199 := ⟨at_197, rfl⟩
theorem d0_199 : Dc code 199 (.iload 24) 2 201 := ⟨at_199, rfl⟩
theorem d0_201 : Db code 201 (.ifCond .eq 17) 17 204 218 := ⟨at_201, rfl, rfl⟩
theorem d0_219 : Dc code 219 (.istore 25) 2 221 := ⟨at_219, rfl⟩
theorem d0_221 : Dc code 221 (.aload 21) 2 223 := ⟨at_221, rfl⟩
theorem d0_223 : Dc code 223 (.invokevirtual 14) 3 226 := ⟨at_223, rfl⟩
theorem w_39 {a0 : Array Value} {Z : State} (H : Wd a0 Z) : (Jvm.Cond.code ({ cls := "com/example/wary_lease/warylease/drill/DrillResult", name := "isSafe", desc := "()Z" } : Jvm.MethodName) prog_10_method_2_code (1 : Nat) (Option.some Jvm.ClassFile.FieldType.boolean)).before a0 Z = true := H _ (List.mem_of_getElem? (i := 39) rfl)
theorem pd_2 : parseMethodDescriptor "()Z" = some ⟨[], some .boolean⟩ := by decide +kernel
theorem w_35 {a0 : Array Value} {Z : State} (H : Wd a0 Z) : (Jvm.Cond.methodLink "com/example/wary_lease/warylease/drill/DrillResultIsSafePinLaw" (14 : Nat) ({ cls := "com/example/wary_lease/warylease/drill/DrillResult", name := "isSafe", desc := "()Z" } : Jvm.MethodName)).before a0 Z = true := H _ (List.mem_of_getElem? (i := 35) rfl)
theorem w_36 {a0 : Array Value} {Z : State} (H : Wd a0 Z) : (Jvm.Cond.declares ({ cls := "com/example/wary_lease/warylease/drill/DrillResult", name := "isSafe", desc := "()Z" } : Jvm.MethodName)).before a0 Z = true := H _ (List.mem_of_getElem? (i := 36) rfl)
theorem w_38 {a0 : Array Value} {Z : State} (H : Wd a0 Z) : (Jvm.Cond.selects "com/example/wary_lease/warylease/drill/DrillResult" ({ cls := "com/example/wary_lease/warylease/drill/DrillResult", name := "isSafe", desc := "()Z" } : Jvm.MethodName) ({ cls := "com/example/wary_lease/warylease/drill/DrillResult", name := "isSafe", desc := "()Z" } : Jvm.MethodName)).before a0 Z = true := H _ (List.mem_of_getElem? (i := 38) rfl)
theorem w_37 {a0 : Array Value} {Z : State} (H : Wd a0 Z) : (Jvm.Cond.instanceMethod ({ cls := "com/example/wary_lease/warylease/drill/DrillResult", name := "isSafe", desc := "()Z" } : Jvm.MethodName)).before a0 Z = true := H _ (List.mem_of_getElem? (i := 37) rfl)
theorem d0_226 : Dc code 226 (.iload 25) 2 228 := ⟨at_226, rfl⟩
theorem d0_228 : Db code 228 (.if_icmp .ne 7) 7 231 235 := ⟨at_228, rfl, rfl⟩
theorem d0_231 : Dc code 231 (.iconst 1) 1 232 := ⟨at_231, rfl⟩
theorem d0_232 : Db code 232 (.goto 4) 4 235 236 := ⟨at_232, rfl, rfl⟩
theorem d0_236 : Dc code 236 (.ireturn) 1 237 := ⟨at_236, rfl⟩
theorem d0_218 : Dc code 218 (.iconst 0) 1 219 := ⟨at_218, rfl⟩
theorem d0_204 : Dc code 204 (.iload 22) 2 206 := ⟨at_204, rfl⟩
theorem d0_206 : Db code 206 (.ifCond .eq 12) 12 209 218 := ⟨at_206, rfl, rfl⟩
theorem d0_209 : Dc code 209 (.iload 23) 2 211 := ⟨at_209, rfl⟩
theorem d0_211 : Db code 211 (.ifCond .eq 7) 7 214 218 := ⟨at_211, rfl, rfl⟩
theorem d0_214 : Dc code 214 (.iconst 1) 1 215 := ⟨at_214, rfl⟩
theorem d0_215 : Db code 215 (.goto 4) 4 218 219 := ⟨at_215, rfl, rfl⟩
theorem d0_196 : Dc code 196 (.iconst 0) 1 197 := ⟨at_196, rfl⟩
theorem d0_192 : Dc code 192 (.iconst 1) 1 193 := ⟨at_192, rfl⟩
theorem d0_193 : Db code 193 (.goto 4) 4 196 197 := ⟨at_193, rfl, rfl⟩
theorem d0_173 : Dc code 173 (.lload 4) 2 175 := ⟨at_173, rfl⟩
theorem d0_175 : Dc code 175 (.lconst 0) 1 176 := ⟨at_175, rfl⟩
theorem d0_176 : Dc code 176 (.lcmp) 1 177 := ⟨at_176, rfl⟩
theorem d0_177 : Db code 177 (.ifCond .ne 7) 7 180 184 := ⟨at_177, rfl, rfl⟩
theorem d0_184 : Dc code 184 (.iconst 0) 1 185 := ⟨at_184, rfl⟩
theorem d0_180 : Dc code 180 (.iconst 1) 1 181 := ⟨at_180, rfl⟩
theorem d0_181 : Db code 181 (.goto 4) 4 184 185 := ⟨at_181, rfl, rfl⟩
theorem d0_168 : Dc code 168 (.iload 12) 2 170 := ⟨at_168, rfl⟩
theorem d0_170 : Db code 170 (.ifCond .eq 10) 10 173 180 := ⟨at_170, rfl, rfl⟩
theorem d0_150 : Dc code 150 (.lload_n 2) 1 151 := ⟨at_150, rfl⟩
theorem d0_151 : Dc code 151 (.lconst 0) 1 152 := ⟨at_151, rfl⟩
theorem d0_152 : Dc code 152 (.lcmp) 1 153 := ⟨at_152, rfl⟩
theorem d0_153 : Db code 153 (.ifCond .ne 7) 7 156 160 := ⟨at_153, rfl, rfl⟩
theorem d0_160 : Dc code 160 (.iconst 0) 1 161 := ⟨at_160, rfl⟩
theorem d0_156 : Dc code 156 (.iconst 1) 1 157 := ⟨at_156, rfl⟩
theorem d0_157 : Db code 157 (.goto 4) 4 160 161 := ⟨at_157, rfl, rfl⟩
theorem d0_145 : Dc code 145 (.iload 11) 2 147 := ⟨at_145, rfl⟩
theorem d0_147 : Db code 147 (.ifCond .eq 9) 9 150 156 := ⟨at_147, rfl, rfl⟩
theorem d0_100 : Dc code 100 (.lconst 0) 1 101 := ⟨at_100, rfl⟩
theorem d0_95 : Dc code 95 (.lload 4) 2 97 := ⟨at_95, rfl⟩
theorem d0_97 : Db code 97 (.goto 4) 4 100 101 := ⟨at_97, rfl, rfl⟩
theorem d0_87 : Dc code 87 (.lconst 0) 1 88 := ⟨at_87, rfl⟩
theorem d0_83 : Dc code 83 (.lload_n 2) 1 84 := ⟨at_83, rfl⟩
theorem d0_84 : Db code 84 (.goto 4) 4 87 88 := ⟨at_84, rfl, rfl⟩
theorem d0_75 : Dc code 75 (.lconst 0) 1 76 := ⟨at_75, rfl⟩
theorem d0_70 : Dc code 70 (.lload 4) 2 72 := ⟨at_70, rfl⟩
theorem d0_72 : Db code 72 (.goto 4) 4 75 76 := ⟨at_72, rfl, rfl⟩
theorem d0_62 : Dc code 62 (.lconst 0) 1 63 := ⟨at_62, rfl⟩
theorem d0_58 : Dc code 58 (.lload_n 2) 1 59 := ⟨at_58, rfl⟩
theorem d0_59 : Db code 59 (.goto 4) 4 62 63 := ⟨at_59, rfl, rfl⟩
theorem d0_50 : Dc code 50 (.iconst 0) 1 51 := ⟨at_50, rfl⟩
theorem d0_46 : Dc code 46 (.iconst 1) 1 47 := ⟨at_46, rfl⟩
theorem d0_47 : Db code 47 (.goto 4) 4 50 51 := ⟨at_47, rfl, rfl⟩
theorem d0_36 : Dc code 36 (.iconst 0) 1 37 := ⟨at_36, rfl⟩
theorem d0_32 : Dc code 32 (.iconst 1) 1 33 := ⟨at_32, rfl⟩
theorem d0_33 : Db code 33 (.goto 4) 4 36 37 := ⟨at_33, rfl, rfl⟩
theorem d0_23 : Dc code 23 (.iconst 0) 1 24 := ⟨at_23, rfl⟩
theorem d0_19 : Dc code 19 (.iconst 1) 1 20 := ⟨at_19, rfl⟩
theorem d0_20 : Db code 20 (.goto 4) 4 23 24 := ⟨at_20, rfl, rfl⟩
theorem d0_10 : Dc code 10 (.iconst 0) 1 11 := ⟨at_10, rfl⟩
theorem d0_6 : Dc code 6 (.iconst 1) 1 7 := ⟨at_6, rfl⟩
theorem d0_7 : Db code 7 (.goto 4) 4 10 11 := ⟨at_7, rfl, rfl⟩
set_option maxRecDepth 65536 in
set_option maxHeartbeats 40000000 in
theorem rm0 {l : Launch} {Z : State} {a0 : Array Value} {n0 : Nat} (H : Wd a0 Z) (p0 p1 : Int32) (q2 q3 q4 : Int64) (p5 : Int32) (h0 : Heap) (Z0 : n0 ≤ h0.size) :
    Ct l Z n0 x code maxLocals ret tables_1 room_1 #[(.int p0), (.int p1), (.long q2), (.long q3), (.long q4), (.int p5)] h0 (fun v h => v = some (.int 1)) := by
  refine Ct.of (a0 := a0) (L0 := #[.val (.int p0), .val (.int p1), .val (.long q2), .second, .val (.long q3), .second, .val (.long q4), .second, .val (.int p5), .unset, .unset, .unset, .unset, .unset, .unset, .unset, .unset, .unset, .unset, .unset, .unset, .unset, .unset, .unset, .unset, .unset]) (plainFor_of_name pn_com_example_wary_lease_warylease_drill_DrillResultIsSafePinLaw) (fun m => by first | (simp [entryFrame, mkF, argsToLocals, Value.category, maxLocals]; done) | rfl) ?_
  intro κ B0
  have B : Ok κ l Z a0 n0 room_1 "com/example/wary_lease/warylease/drill/DrillResultIsSafePinLaw" "law" code maxLocals ret := B0
  refine go_iload_n B d0_0 rfl ?_
  refine go_iconst B (x := (1 : Int32)) d0_1 rfl ?_
  refine go_iand B d0_2 ?_
  have J54 : ∀ z53 : Int32, (True) → Go κ (fun v h => v = some (.int 1)) h0 (0) (0) 11 #[.val (.int p0), .val (.int p1), .val (.long q2), .second, .val (.long q3), .second, .val (.long q4), .second, .val (.int p5), .unset, .unset, .unset, .unset, .unset, .unset, .unset, .unset, .unset, .unset, .unset, .unset, .unset, .unset, .unset, .unset, .unset] [(.int z53)] := by
    intro z53 hJ54
    refine go_istore B #[.val (.int p0), .val (.int p1), .val (.long q2), .second, .val (.long q3), .second, .val (.long q4), .second, .val (.int p5), .val (.int z53), .unset, .unset, .unset, .unset, .unset, .unset, .unset, .unset, .unset, .unset, .unset, .unset, .unset, .unset, .unset, .unset] d0_11 rfl ?_
    refine go_iload_n B d0_13 rfl ?_
    refine go_iconst B (x := (2 : Int32)) d0_14 rfl ?_
    refine go_iand B d0_15 ?_
    have J56 : ∀ z55 : Int32, (True) → Go κ (fun v h => v = some (.int 1)) h0 (0) (0) 24 #[.val (.int p0), .val (.int p1), .val (.long q2), .second, .val (.long q3), .second, .val (.long q4), .second, .val (.int p5), .val (.int z53), .unset, .unset, .unset, .unset, .unset, .unset, .unset, .unset, .unset, .unset, .unset, .unset, .unset, .unset, .unset, .unset] [(.int z55)] := by
      intro z55 hJ56
      refine go_istore B #[.val (.int p0), .val (.int p1), .val (.long q2), .second, .val (.long q3), .second, .val (.long q4), .second, .val (.int p5), .val (.int z53), .val (.int z55), .unset, .unset, .unset, .unset, .unset, .unset, .unset, .unset, .unset, .unset, .unset, .unset, .unset, .unset, .unset] d0_24 rfl ?_
      refine go_iload_n B d0_26 rfl ?_
      refine go_iconst B (x := (4 : Int32)) d0_27 rfl ?_
      refine go_iand B d0_28 ?_
      have J58 : ∀ z57 : Int32, (True) → Go κ (fun v h => v = some (.int 1)) h0 (0) (0) 37 #[.val (.int p0), .val (.int p1), .val (.long q2), .second, .val (.long q3), .second, .val (.long q4), .second, .val (.int p5), .val (.int z53), .val (.int z55), .unset, .unset, .unset, .unset, .unset, .unset, .unset, .unset, .unset, .unset, .unset, .unset, .unset, .unset, .unset] [(.int z57)] := by
        intro z57 hJ58
        refine go_istore B #[.val (.int p0), .val (.int p1), .val (.long q2), .second, .val (.long q3), .second, .val (.long q4), .second, .val (.int p5), .val (.int z53), .val (.int z55), .val (.int z57), .unset, .unset, .unset, .unset, .unset, .unset, .unset, .unset, .unset, .unset, .unset, .unset, .unset, .unset] d0_37 rfl ?_
        refine go_iload_n B d0_39 rfl ?_
        refine go_bipush B (x := (8 : Int32)) d0_40 (by decide) ?_
        refine go_iand B d0_42 ?_
        have J60 : ∀ z59 : Int32, (True) → Go κ (fun v h => v = some (.int 1)) h0 (0) (0) 51 #[.val (.int p0), .val (.int p1), .val (.long q2), .second, .val (.long q3), .second, .val (.long q4), .second, .val (.int p5), .val (.int z53), .val (.int z55), .val (.int z57), .unset, .unset, .unset, .unset, .unset, .unset, .unset, .unset, .unset, .unset, .unset, .unset, .unset, .unset] [(.int z59)] := by
          intro z59 hJ60
          refine go_istore B #[.val (.int p0), .val (.int p1), .val (.long q2), .second, .val (.long q3), .second, .val (.long q4), .second, .val (.int p5), .val (.int z53), .val (.int z55), .val (.int z57), .val (.int z59), .unset, .unset, .unset, .unset, .unset, .unset, .unset, .unset, .unset, .unset, .unset, .unset, .unset] d0_51 rfl ?_
          refine go_iload B d0_53 rfl ?_
          have J62 : ∀ z61 : Int64, (z61 = if z53 = 0 then (0 : Int64) else q2) → Go κ (fun v h => v = some (.int 1)) h0 (0) (0) 63 #[.val (.int p0), .val (.int p1), .val (.long q2), .second, .val (.long q3), .second, .val (.long q4), .second, .val (.int p5), .val (.int z53), .val (.int z55), .val (.int z57), .val (.int z59), .unset, .unset, .unset, .unset, .unset, .unset, .unset, .unset, .unset, .unset, .unset, .unset, .unset] [(.long z61)] := by
            intro z61 hJ62
            refine go_lstore B #[.val (.int p0), .val (.int p1), .val (.long q2), .second, .val (.long q3), .second, .val (.long q4), .second, .val (.int p5), .val (.int z53), .val (.int z55), .val (.int z57), .val (.int z59), .val (.long z61), .second, .unset, .unset, .unset, .unset, .unset, .unset, .unset, .unset, .unset, .unset, .unset] d0_63 rfl ?_
            refine go_iload B d0_65 rfl ?_
            have J64 : ∀ z63 : Int64, (z63 = if z55 = 0 then (0 : Int64) else q3) → Go κ (fun v h => v = some (.int 1)) h0 (0) (0) 76 #[.val (.int p0), .val (.int p1), .val (.long q2), .second, .val (.long q3), .second, .val (.long q4), .second, .val (.int p5), .val (.int z53), .val (.int z55), .val (.int z57), .val (.int z59), .val (.long z61), .second, .unset, .unset, .unset, .unset, .unset, .unset, .unset, .unset, .unset, .unset, .unset] [(.long z63)] := by
              intro z63 hJ64
              refine go_lstore B #[.val (.int p0), .val (.int p1), .val (.long q2), .second, .val (.long q3), .second, .val (.long q4), .second, .val (.int p5), .val (.int z53), .val (.int z55), .val (.int z57), .val (.int z59), .val (.long z61), .second, .val (.long z63), .second, .unset, .unset, .unset, .unset, .unset, .unset, .unset, .unset, .unset] d0_76 rfl ?_
              refine go_iload B d0_78 rfl ?_
              have J66 : ∀ z65 : Int64, (z65 = if z57 = 0 then (0 : Int64) else q2) → Go κ (fun v h => v = some (.int 1)) h0 (0) (0) 88 #[.val (.int p0), .val (.int p1), .val (.long q2), .second, .val (.long q3), .second, .val (.long q4), .second, .val (.int p5), .val (.int z53), .val (.int z55), .val (.int z57), .val (.int z59), .val (.long z61), .second, .val (.long z63), .second, .unset, .unset, .unset, .unset, .unset, .unset, .unset, .unset, .unset] [(.long z65)] := by
                intro z65 hJ66
                refine go_lstore B #[.val (.int p0), .val (.int p1), .val (.long q2), .second, .val (.long q3), .second, .val (.long q4), .second, .val (.int p5), .val (.int z53), .val (.int z55), .val (.int z57), .val (.int z59), .val (.long z61), .second, .val (.long z63), .second, .val (.long z65), .second, .unset, .unset, .unset, .unset, .unset, .unset, .unset] d0_88 rfl ?_
                refine go_iload B d0_90 rfl ?_
                have J68 : ∀ z67 : Int64, (z67 = if z59 = 0 then (0 : Int64) else q3) → Go κ (fun v h => v = some (.int 1)) h0 (0) (0) 101 #[.val (.int p0), .val (.int p1), .val (.long q2), .second, .val (.long q3), .second, .val (.long q4), .second, .val (.int p5), .val (.int z53), .val (.int z55), .val (.int z57), .val (.int z59), .val (.long z61), .second, .val (.long z63), .second, .val (.long z65), .second, .unset, .unset, .unset, .unset, .unset, .unset, .unset] [(.long z67)] := by
                  intro z67 hJ68
                  refine go_lstore B #[.val (.int p0), .val (.int p1), .val (.long q2), .second, .val (.long q3), .second, .val (.long q4), .second, .val (.int p5), .val (.int z53), .val (.int z55), .val (.int z57), .val (.int z59), .val (.long z61), .second, .val (.long z63), .second, .val (.long z65), .second, .val (.long z67), .second, .unset, .unset, .unset, .unset, .unset] d0_101 rfl ?_
                  refine go_new B d0_103 (w_0 H) (w_1 H) (w_2 H) (by decide) (by decide) ?_
                  intro h69 a70 hba70 Ea70 Aa70 Da70
                  have ge_a70 : n0 ≤ a70 := by have q1 := Z0; omega
                  refine go_dup B d0_106 rfl ?_
                  refine go_lload B d0_107 rfl ?_
                  refine go_iload_n B d0_109 rfl ?_
                  refine go_iload B d0_110 rfl ?_
                  refine go_lload B d0_112 rfl ?_
                  refine go_lload B d0_114 rfl ?_
                  refine go_lload_n B d0_116 rfl ?_
                  refine go_lxor B d0_117 ?_
                  refine go_lload B d0_118 rfl ?_
                  refine go_lload B d0_120 rfl ?_
                  refine go_lload B d0_122 rfl ?_
                  refine go_lload B d0_124 rfl ?_
                  refine go_lload B d0_126 rfl ?_
                  refine go_lxor B d0_128 ?_
                  refine go_lload B d0_129 rfl ?_
                  refine go_ldc2J B d0_131 (w_3 H) ?_
                  refine go_lxor B d0_134 ?_
                  refine go_special B (W := 1) (a := a70) (argsL := [(.long q4), (.int p1), (.int p5), (.long z61), (.long (q4 ^^^ q2)), (.long z63), (.long z65), (.long z67), (.long (q4 ^^^ q3)), (.long (q4 ^^^ (-1 : Int64)))]) (st := [(.ref a70)]) d0_135 rfl (w_4 H) (w_5 H) (w_2 H) (w_6 H) (by decide) (rmI H a70 q4 p1 p5 z61 (q4 ^^^ q2) z63 z65 z67 (q4 ^^^ q3) (q4 ^^^ (-1 : Int64)) h69 (Nat.le_trans Z0 Ea70.1) Aa70 (Da70 (Or.inr (w_16 H)) (ty := .long) (by decide)) (Da70 (Or.inr (w_18 H)) (ty := .int) (by decide)) (Da70 (Or.inr (w_20 H)) (ty := .int) (by decide)) (Da70 (Or.inr (w_22 H)) (ty := .long) (by decide)) (Da70 (Or.inr (w_24 H)) (ty := .long) (by decide)) (Da70 (Or.inr (w_26 H)) (ty := .long) (by decide)) (Da70 (Or.inr (w_28 H)) (ty := .long) (by decide)) (Da70 (Or.inr (w_30 H)) (ty := .long) (by decide)) (Da70 (Or.inr (w_32 H)) (ty := .long) (by decide)) (Da70 (Or.inr (w_34 H)) (ty := .long) (by decide)) ge_a70) pd_1 rfl rfl rfl rfl (by decide) (by decide) (by decide) (by decide) ?_
                  rintro _ h83 ⟨rfl, K71, E72, f73, f74, f75, f76, f77, f78, f79, f80, f81, f82⟩
                  show Go κ _ h83 _ _ 138 #[.val (.int p0), .val (.int p1), .val (.long q2), .second, .val (.long q3), .second, .val (.long q4), .second, .val (.int p5), .val (.int z53), .val (.int z55), .val (.int z57), .val (.int z59), .val (.long z61), .second, .val (.long z63), .second, .val (.long z65), .second, .val (.long z67), .second, .unset, .unset, .unset, .unset, .unset] [(.ref a70)]
                  refine go_astore B #[.val (.int p0), .val (.int p1), .val (.long q2), .second, .val (.long q3), .second, .val (.long q4), .second, .val (.int p5), .val (.int z53), .val (.int z55), .val (.int z57), .val (.int z59), .val (.long z61), .second, .val (.long z63), .second, .val (.long z65), .second, .val (.long z67), .second, .val (.ref a70), .unset, .unset, .unset, .unset] d0_138 rfl rfl ?_
                  refine go_iload B d0_140 rfl ?_
                  have J85 : ∀ z84 : Int32, (z84 = if (z53 = 0 ∧ z57 = 0) ∨ q2 = 0 then (1 : Int32) else 0) → Go κ (fun v h => v = some (.int 1)) h83 (0 + 1 + 0) (0 + 10 + 0) 161 #[.val (.int p0), .val (.int p1), .val (.long q2), .second, .val (.long q3), .second, .val (.long q4), .second, .val (.int p5), .val (.int z53), .val (.int z55), .val (.int z57), .val (.int z59), .val (.long z61), .second, .val (.long z63), .second, .val (.long z65), .second, .val (.long z67), .second, .val (.ref a70), .unset, .unset, .unset, .unset] [(.int z84)] := by
                    intro z84 hJ85
                    refine go_istore B #[.val (.int p0), .val (.int p1), .val (.long q2), .second, .val (.long q3), .second, .val (.long q4), .second, .val (.int p5), .val (.int z53), .val (.int z55), .val (.int z57), .val (.int z59), .val (.long z61), .second, .val (.long z63), .second, .val (.long z65), .second, .val (.long z67), .second, .val (.ref a70), .val (.int z84), .unset, .unset, .unset] d0_161 rfl ?_
                    refine go_iload B d0_163 rfl ?_
                    have J87 : ∀ z86 : Int32, (z86 = if (z55 = 0 ∧ z59 = 0) ∨ q3 = 0 then (1 : Int32) else 0) → Go κ (fun v h => v = some (.int 1)) h83 (0 + 1 + 0) (0 + 10 + 0) 185 #[.val (.int p0), .val (.int p1), .val (.long q2), .second, .val (.long q3), .second, .val (.long q4), .second, .val (.int p5), .val (.int z53), .val (.int z55), .val (.int z57), .val (.int z59), .val (.long z61), .second, .val (.long z63), .second, .val (.long z65), .second, .val (.long z67), .second, .val (.ref a70), .val (.int z84), .unset, .unset, .unset] [(.int z86)] := by
                      intro z86 hJ87
                      refine go_istore B #[.val (.int p0), .val (.int p1), .val (.long q2), .second, .val (.long q3), .second, .val (.long q4), .second, .val (.int p5), .val (.int z53), .val (.int z55), .val (.int z57), .val (.int z59), .val (.long z61), .second, .val (.long z63), .second, .val (.long z65), .second, .val (.long z67), .second, .val (.ref a70), .val (.int z84), .val (.int z86), .unset, .unset] d0_185 rfl ?_
                      refine go_iload_n B d0_187 rfl ?_
                      refine go_iconst B (x := (1 : Int32)) d0_188 rfl ?_
                      have J89 : ∀ z88 : Int32, (z88 = if 1 < p1 then (0 : Int32) else 1) → Go κ (fun v h => v = some (.int 1)) h83 (0 + 1 + 0) (0 + 10 + 0) 197 #[.val (.int p0), .val (.int p1), .val (.long q2), .second, .val (.long q3), .second, .val (.long q4), .second, .val (.int p5), .val (.int z53), .val (.int z55), .val (.int z57), .val (.int z59), .val (.long z61), .second, .val (.long z63), .second, .val (.long z65), .second, .val (.long z67), .second, .val (.ref a70), .val (.int z84), .val (.int z86), .unset, .unset] [(.int z88)] := by
                        intro z88 hJ89
                        refine go_istore B #[.val (.int p0), .val (.int p1), .val (.long q2), .second, .val (.long q3), .second, .val (.long q4), .second, .val (.int p5), .val (.int z53), .val (.int z55), .val (.int z57), .val (.int z59), .val (.long z61), .second, .val (.long z63), .second, .val (.long z65), .second, .val (.long z67), .second, .val (.ref a70), .val (.int z84), .val (.int z86), .val (.int z88), .unset] d0_197 rfl ?_
                        refine go_iload B d0_199 rfl ?_
                        have J91 : ∀ z90 : Int32, (z90 = if ¬ z88 = 0 ∧ ¬ z84 = 0 ∧ ¬ z86 = 0 then (1 : Int32) else 0) → Go κ (fun v h => v = some (.int 1)) h83 (0 + 1 + 0) (0 + 10 + 0) 219 #[.val (.int p0), .val (.int p1), .val (.long q2), .second, .val (.long q3), .second, .val (.long q4), .second, .val (.int p5), .val (.int z53), .val (.int z55), .val (.int z57), .val (.int z59), .val (.long z61), .second, .val (.long z63), .second, .val (.long z65), .second, .val (.long z67), .second, .val (.ref a70), .val (.int z84), .val (.int z86), .val (.int z88), .unset] [(.int z90)] := by
                          intro z90 hJ91
                          refine go_istore B #[.val (.int p0), .val (.int p1), .val (.long q2), .second, .val (.long q3), .second, .val (.long q4), .second, .val (.int p5), .val (.int z53), .val (.int z55), .val (.int z57), .val (.int z59), .val (.long z61), .second, .val (.long z63), .second, .val (.long z65), .second, .val (.long z67), .second, .val (.ref a70), .val (.int z84), .val (.int z86), .val (.int z88), .val (.int z90)] d0_219 rfl ?_
                          refine go_aload B d0_221 rfl rfl ?_
                          refine go_virtual B (W := 0) (a := a70) (argsL := []) (st := []) d0_223 (w_35 H) (w_36 H) (w_38 H) (w_37 H) (w_2 H) (w_39 H) (by decide) E72 (rmS H a70 q4 p1 p5 z61 (q4 ^^^ q2) z63 z65 z67 (q4 ^^^ q3) (q4 ^^^ (-1 : Int64)) h83 (Nat.le_trans (Nat.le_trans Z0 Ea70.1) K71.1) E72 f73 f74 f75 f76 f77 f78 f79 f80 f81 f82) pd_2 rfl rfl rfl rfl (by decide) (by decide) (by decide) (by decide) ?_
                          rintro _ h92 ⟨rfl, rfl⟩
                          show Go κ _ h83 _ _ 226 #[.val (.int p0), .val (.int p1), .val (.long q2), .second, .val (.long q3), .second, .val (.long q4), .second, .val (.int p5), .val (.int z53), .val (.int z55), .val (.int z57), .val (.int z59), .val (.long z61), .second, .val (.long z63), .second, .val (.long z65), .second, .val (.long z67), .second, .val (.ref a70), .val (.int z84), .val (.int z86), .val (.int z88), .val (.int z90)] [(.int (own_safe p1 z61 z63 z65 z67))]
                          refine go_iload B d0_226 rfl ?_
                          refine go_icmpne B d0_228 (fun c228 => ?_) (fun c228 => ?_)
                          · exact absurd (own_fin hJ62 hJ64 hJ66 hJ68 hJ85 hJ87 hJ89 hJ91) c228
                          refine go_iconst B (x := (1 : Int32)) d0_231 rfl ?_
                          refine go_goto B d0_232 ?_
                          refine go_zreturn B (y := (1 : Int32)) d0_236 (by decide) (by decide) (by decide) ?_
                          exact rfl
                        refine go_ifeq B d0_201 (fun c201 => ?_) (fun c201 => ?_)
                        · skip
                          refine go_iconst B (x := (0 : Int32)) d0_218 rfl ?_
                          exact J91 _ (by simp [c201])
                        · skip
                          refine go_iload B d0_204 rfl ?_
                          refine go_ifeq B d0_206 (fun c206 => ?_) (fun c206 => ?_)
                          · skip
                            refine go_iconst B (x := (0 : Int32)) d0_218 rfl ?_
                            exact J91 _ (by simp [c201, c206])
                          · skip
                            refine go_iload B d0_209 rfl ?_
                            refine go_ifeq B d0_211 (fun c211 => ?_) (fun c211 => ?_)
                            · skip
                              refine go_iconst B (x := (0 : Int32)) d0_218 rfl ?_
                              exact J91 _ (by simp [c201, c206, c211])
                            · skip
                              refine go_iconst B (x := (1 : Int32)) d0_214 rfl ?_
                              refine go_goto B d0_215 ?_
                              exact J91 _ (by simp [c201, c206, c211])
                      refine go_icmpgt B d0_189 (fun c189 => ?_) (fun c189 => ?_)
                      · skip
                        refine go_iconst B (x := (0 : Int32)) d0_196 rfl ?_
                        exact J89 _ (by simp [c189])
                      · skip
                        refine go_iconst B (x := (1 : Int32)) d0_192 rfl ?_
                        refine go_goto B d0_193 ?_
                        exact J89 _ (by simp [c189])
                    refine go_ifne B d0_165 (fun c165 => ?_) (fun c165 => ?_)
                    · skip
                      refine go_lload B d0_173 rfl ?_
                      refine go_lconst B (u := (0 : Int64)) d0_175 rfl ?_
                      refine go_lcmp B d0_176 ?_
                      refine go_lifne B d0_177 (fun c177 => ?_) (fun c177 => ?_)
                      · skip
                        refine go_iconst B (x := (0 : Int32)) d0_184 rfl ?_
                        exact J87 _ (by simp [c165, c177])
                      · skip
                        refine go_iconst B (x := (1 : Int32)) d0_180 rfl ?_
                        refine go_goto B d0_181 ?_
                        exact J87 _ (by simp [c165, c177])
                    · skip
                      refine go_iload B d0_168 rfl ?_
                      refine go_ifeq B d0_170 (fun c170 => ?_) (fun c170 => ?_)
                      · skip
                        refine go_iconst B (x := (1 : Int32)) d0_180 rfl ?_
                        refine go_goto B d0_181 ?_
                        exact J87 _ (by simp [c165, c170])
                      · skip
                        refine go_lload B d0_173 rfl ?_
                        refine go_lconst B (u := (0 : Int64)) d0_175 rfl ?_
                        refine go_lcmp B d0_176 ?_
                        refine go_lifne B d0_177 (fun c177 => ?_) (fun c177 => ?_)
                        · skip
                          refine go_iconst B (x := (0 : Int32)) d0_184 rfl ?_
                          exact J87 _ (by simp [c165, c170, c177])
                        · skip
                          refine go_iconst B (x := (1 : Int32)) d0_180 rfl ?_
                          refine go_goto B d0_181 ?_
                          exact J87 _ (by simp [c165, c170, c177])
                  refine go_ifne B d0_142 (fun c142 => ?_) (fun c142 => ?_)
                  · skip
                    refine go_lload_n B d0_150 rfl ?_
                    refine go_lconst B (u := (0 : Int64)) d0_151 rfl ?_
                    refine go_lcmp B d0_152 ?_
                    refine go_lifne B d0_153 (fun c153 => ?_) (fun c153 => ?_)
                    · skip
                      refine go_iconst B (x := (0 : Int32)) d0_160 rfl ?_
                      exact J85 _ (by simp [c142, c153])
                    · skip
                      refine go_iconst B (x := (1 : Int32)) d0_156 rfl ?_
                      refine go_goto B d0_157 ?_
                      exact J85 _ (by simp [c142, c153])
                  · skip
                    refine go_iload B d0_145 rfl ?_
                    refine go_ifeq B d0_147 (fun c147 => ?_) (fun c147 => ?_)
                    · skip
                      refine go_iconst B (x := (1 : Int32)) d0_156 rfl ?_
                      refine go_goto B d0_157 ?_
                      exact J85 _ (by simp [c142, c147])
                    · skip
                      refine go_lload_n B d0_150 rfl ?_
                      refine go_lconst B (u := (0 : Int64)) d0_151 rfl ?_
                      refine go_lcmp B d0_152 ?_
                      refine go_lifne B d0_153 (fun c153 => ?_) (fun c153 => ?_)
                      · skip
                        refine go_iconst B (x := (0 : Int32)) d0_160 rfl ?_
                        exact J85 _ (by simp [c142, c147, c153])
                      · skip
                        refine go_iconst B (x := (1 : Int32)) d0_156 rfl ?_
                        refine go_goto B d0_157 ?_
                        exact J85 _ (by simp [c142, c147, c153])
                refine go_ifeq B d0_92 (fun c92 => ?_) (fun c92 => ?_)
                · skip
                  refine go_lconst B (u := (0 : Int64)) d0_100 rfl ?_
                  exact J68 _ (by simp [c92])
                · skip
                  refine go_lload B d0_95 rfl ?_
                  refine go_goto B d0_97 ?_
                  exact J68 _ (by simp [c92])
              refine go_ifeq B d0_80 (fun c80 => ?_) (fun c80 => ?_)
              · skip
                refine go_lconst B (u := (0 : Int64)) d0_87 rfl ?_
                exact J66 _ (by simp [c80])
              · skip
                refine go_lload_n B d0_83 rfl ?_
                refine go_goto B d0_84 ?_
                exact J66 _ (by simp [c80])
            refine go_ifeq B d0_67 (fun c67 => ?_) (fun c67 => ?_)
            · skip
              refine go_lconst B (u := (0 : Int64)) d0_75 rfl ?_
              exact J64 _ (by simp [c67])
            · skip
              refine go_lload B d0_70 rfl ?_
              refine go_goto B d0_72 ?_
              exact J64 _ (by simp [c67])
          refine go_ifeq B d0_55 (fun c55 => ?_) (fun c55 => ?_)
          · skip
            refine go_lconst B (u := (0 : Int64)) d0_62 rfl ?_
            exact J62 _ (by simp [c55])
          · skip
            refine go_lload_n B d0_58 rfl ?_
            refine go_goto B d0_59 ?_
            exact J62 _ (by simp [c55])
        refine go_ifeq B d0_43 (fun c43 => ?_) (fun c43 => ?_)
        · skip
          refine go_iconst B (x := (0 : Int32)) d0_50 rfl ?_
          exact J60 _ (by simp [c43])
        · skip
          refine go_iconst B (x := (1 : Int32)) d0_46 rfl ?_
          refine go_goto B d0_47 ?_
          exact J60 _ (by simp [c43])
      refine go_ifeq B d0_29 (fun c29 => ?_) (fun c29 => ?_)
      · skip
        refine go_iconst B (x := (0 : Int32)) d0_36 rfl ?_
        exact J58 _ (by simp [c29])
      · skip
        refine go_iconst B (x := (1 : Int32)) d0_32 rfl ?_
        refine go_goto B d0_33 ?_
        exact J58 _ (by simp [c29])
    refine go_ifeq B d0_16 (fun c16 => ?_) (fun c16 => ?_)
    · skip
      refine go_iconst B (x := (0 : Int32)) d0_23 rfl ?_
      exact J56 _ (by simp [c16])
    · skip
      refine go_iconst B (x := (1 : Int32)) d0_19 rfl ?_
      refine go_goto B d0_20 ?_
      exact J56 _ (by simp [c16])
  refine go_ifeq B d0_3 (fun c3 => ?_) (fun c3 => ?_)
  · skip
    refine go_iconst B (x := (0 : Int32)) d0_10 rfl ?_
    exact J54 _ (by simp [c3])
  · skip
    refine go_iconst B (x := (1 : Int32)) d0_6 rfl ?_
    refine go_goto B d0_7 ?_
    exact J54 _ (by simp [c3])
set_option maxRecDepth 65536 in
set_option maxHeartbeats 40000000 in
theorem comes_1 {Post : Tables → Env → Array Value → State → Outcome → State → Prop} (hpost : ∀ tb e args s v u, (limb_1_1.after args s (.returned v) u = true ∧ limb_1_2.after args s (.returned v) u = true ∧ True) → FrameEnd s (.returned v) u (Jvm.fieldLocs frame_1_writes args s ++ Jvm.arrayLocs frame_1_arrays args s ++ Jvm.staticLocs frame_1_statics s) 16 128 → Post tb e args s (.returned v) u) :
    ArmFor flags0 classFile x code maxLocals ret World_1 tables_1 room_1 Calls_1 rest_1 Pre_1 Post := by
  intro l hfl _ _ p e ha hc hk s m args below hf hA hF happ hP
  obtain ⟨hcalls, hrest, hpre⟩ := hP
  obtain ⟨-, -, -, hnamed, -, -, -, hat⟩ := (Spec.applies_iff hf).mp happ
  obtain ⟨hg, hn⟩ := and_e (Cond.before_iff.mp (show (Jvm.Cond.and given_1 narrow_1).before args s = true from hpre))
  obtain ⟨hg0, hg1⟩ := and_e hg
  obtain ⟨hk0, hg2⟩ := and_e hg1
  obtain ⟨hk1, hg3⟩ := and_e hg2
  obtain ⟨hk2, hg4⟩ := and_e hg3
  obtain ⟨hk3, hg5⟩ := and_e hg4
  obtain ⟨hk4, hg6⟩ := and_e hg5
  have hk5 := hg6
  obtain ⟨w0, w1, w2, w3, w4, w5, rfl⟩ : ∃ w0 w1 w2 w3 w4 w5 : Value, args = #[w0, w1, w2, w3, w4, w5] := by
    have hs : args.size = 6 := by simpa [Cond.value, given_1] using hg0
    obtain ⟨L⟩ := args
    match L, hs with
    | [w0, w1, w2, w3, w4, w5], _ => exact ⟨w0, w1, w2, w3, w4, w5, rfl⟩
  have hw : Wd _ s := fun d (hd : d ∈ tables_1) => atoms_spec (ws := Jvm.Cond.code x code maxLocals ret :: tables_1) hat d (List.mem_cons_of_mem _ hd)
  obtain ⟨i0, e0⟩ := is_v hk0
  obtain rfl : w0 = (.int i0) := Option.some.inj e0
  obtain ⟨i1, e1⟩ := is_v hk1
  obtain rfl : w1 = (.int i1) := Option.some.inj e1
  obtain ⟨i2, e2⟩ := isL_v hk2
  obtain rfl : w2 = (.long i2) := Option.some.inj e2
  obtain ⟨i3, e3⟩ := isL_v hk3
  obtain rfl : w3 = (.long i3) := Option.some.inj e3
  obtain ⟨i4, e4⟩ := isL_v hk4
  obtain rfl : w4 = (.long i4) := Option.some.inj e4
  obtain ⟨i5, e5⟩ := is_v hk5
  obtain rfl : w5 = (.int i5) := Option.some.inj e5
  obtain ⟨n, o, h1, h2, h3, _, L, rfl, ⟨rfl, N⟩, hq⟩ := rm0 (l := l) hw i0 i1 i2 i3 i4 i5 s.heap (Nat.le_refl _)  p e ha hc hk s m _ below hf ((Spec.applies_iff_loose hf).mp happ).1 ⟨rfl, State.Warmed39.refl s, rfl⟩ trivial
  refine ⟨n, _, h1, h2, h3, hpost _ _ _ _ _ _ ⟨Cond.after_iff.mpr rfl, Cond.after_iff.mpr (eq_i res_at (Term.int_eval (1)) rfl), trivial⟩ ⟨hq.1, hq.2.1, (hq.2.2.sift fun y hy => Or.inr (N y hy)).mono (by decide) (by decide)⟩⟩
theorem main_1_1 : Claimed_1_1 := comes_1 fun _ _ _ _ _ _ h hF => ⟨h.1, hF⟩
theorem main_1_2 : Claimed_1_2 := comes_1 fun _ _ _ _ _ _ h hF => ⟨h.2.1, hF⟩
end Jvm.Pilot.@@N@@
namespace Jvm.Pilot.@@N@@
open Jvm Jvm.ClassFile Sem Op Lib Jvm.Free Jvm.Stand Jvm.Pilot.@@N@@.Jvm.D
/-! MADE BY PROGRAM (witnessworld.py) out of the Statement's table words and the real class files: 10 classes; the members and pool entries that the words name. The judged class is class 1, her method 1. -/
namespace start1
open Jvm.ClassFile
def u (s : String) : CpInfo := .utf8 (stringToUtf16 s)
/-- a pool by its gaps: so many unusable entries, then the entry; so many at the end -/
def gap : Nat → List CpInfo → List CpInfo
  | 0, r => r
  | n + 1, r => .unusable :: gap n r
def poolList (es : List (Nat × CpInfo)) (last : Nat) : List CpInfo := es.foldr (fun e r => gap e.1 (e.2 :: r)) (gap last [])
def pool (es : List (Nat × CpInfo)) (last : Nat) : Array CpInfo := ⟨poolList es last⟩
def fileOf (pool : Array CpInfo) (this : Nat) (attrs : Array Attribute := #[]) (ms : Array MethodInfo := #[]) (fl : Nat := 33) (sup : Nat := 0) (ifs : Array Nat := #[]) (fds : Array FieldInfo := #[]) : ClassFile where
  minorVersion := 0
  majorVersion := 65
  constantPool := pool
  accessFlags := fl
  thisClass := this
  superClass := sup
  interfaces := ifs
  fields := fds
  methods := ms
  attributes := attrs
def plain (name : String) (sup : Option ClassId) : Class where
  name := name
  kind := .ordinary
  loader := none
  accessFlags := 33
  super := sup
  interfaces := #[]
  cf := none
  fields := #[]
  methods := #[]
  instanceTypes := #[]
  staticTypes := #[]
  resolved := #[]
  callSites := []
  init := .initialized
  statics := none
  mirror := none

def pool0 : Array CpInfo := pool [(5, u "<init>"), (0, u "()V"), (1, .class_ 10), (1, u "java/lang/Object")] 113

def k0c0 : Code := { maxStack := 0, maxLocals := 1, code := object_method_1_code, exceptionTable := #[], attributes := #[] }
def k0m0 : Method := { name := "<init>", desc := "()V", sig := { parameters := [], returnType := none }, accessFlags := 1, code := some k0c0 }
/-- java/lang/Object -/
def k0 : Class := { plain "java/lang/Object" none with
  accessFlags := 33
  interfaces := #[]
  cf := some (fileOf pool0 8 #[] #[{ accessFlags := 1, nameIndex := 5, descriptorIndex := 6, attributes := #[] }] 33 0 #[] #[])
  fields := #[]
  methods := #[k0m0]
  instanceTypes := #[]
  staticTypes := #[]
  resolved := Array.replicate 124 none
  statics := none }

def pool1 : Array CpInfo := pool [(2, .class_ 4), (1, u "java/lang/Object"), (0, u "<init>"), (0, u "()V"), (0, .class_ 8), (0, u "com/example/wary_lease/warylease/drill/DrillResult"), (0, .long 18446744073709551615), (1, .methodref 7 12), (0, .nameAndType 5 13), (0, u "(JIIJJJJJJJ)V"), (0, .methodref 7 15), (0, .nameAndType 16 17), (0, u "isSafe"), (0, u "()Z"), (0, .class_ 19), (0, u "com/example/wary_lease/warylease/drill/DrillResultIsSafePinLaw"), (2, u "law"), (0, u "(IIJJJI)Z")] 3

def k1m0 : Method := { name := "<init>", desc := "()V", sig := { parameters := [], returnType := none }, accessFlags := 1, code := none }
def k1c1 : Code := { maxStack := 22, maxLocals := 26, code := code, exceptionTable := #[], attributes := #[] }
def k1m1 : Method := { name := "law", desc := "(IIJJJI)Z", sig := { parameters := [.int, .int, .long, .long, .long, .int], returnType := some .boolean }, accessFlags := 9, code := some k1c1 }
/-- com/example/wary_lease/warylease/drill/DrillResultIsSafePinLaw -/
def k1 : Class := { plain "com/example/wary_lease/warylease/drill/DrillResultIsSafePinLaw" (some 0) with
  accessFlags := 49
  interfaces := #[]
  cf := some (fileOf pool1 18 #[] #[{ accessFlags := 1, nameIndex := 5, descriptorIndex := 6, attributes := #[] }, { accessFlags := 9, nameIndex := 22, descriptorIndex := 23, attributes := #[] }] 49 2 #[] #[])
  fields := #[]
  methods := #[k1m0, k1m1]
  instanceTypes := #[]
  staticTypes := #[]
  resolved := Array.replicate 27 none
  statics := none }

def pool2 : Array CpInfo := pool [(1, .methodref 2 3), (0, .class_ 4), (0, .nameAndType 5 6), (0, u "java/lang/Object"), (0, u "<init>"), (0, u "()V"), (0, .class_ 8), (0, u "java/lang/Record")] 13

def k2c0 : Code := { maxStack := 1, maxLocals := 1, code := jdk_30_method_1_code, exceptionTable := #[], attributes := #[] }
def k2m0 : Method := { name := "<init>", desc := "()V", sig := { parameters := [], returnType := none }, accessFlags := 4, code := some k2c0 }
/-- java/lang/Record -/
def k2 : Class := { plain "java/lang/Record" (some 0) with
  accessFlags := 1057
  interfaces := #[]
  cf := some (fileOf pool2 7 #[] #[{ accessFlags := 4, nameIndex := 5, descriptorIndex := 6, attributes := #[] }] 1057 2 #[] #[])
  fields := #[]
  methods := #[k2m0]
  instanceTypes := #[]
  staticTypes := #[]
  resolved := Array.replicate 22 none
  statics := none }

def pool3 : Array CpInfo := pool [(1, .methodref 2 3), (0, .class_ 4), (0, .nameAndType 5 6), (0, u "java/lang/Record"), (0, u "<init>"), (0, u "()V"), (0, .fieldref 8 9), (0, .class_ 10), (0, .nameAndType 11 12), (0, u "com/example/wary_lease/warylease/drill/DrillResult"), (0, u "entries"), (0, u "J"), (0, .fieldref 8 14), (0, .nameAndType 15 16), (0, u "maxOccupancy"), (0, u "I"), (0, .fieldref 8 18), (0, .nameAndType 19 16), (0, u "finalCount"), (0, .fieldref 8 21), (0, .nameAndType 22 12), (0, u "lateWrites"), (0, .fieldref 8 24), (0, .nameAndType 25 12), (0, u "lostLeases"), (0, .fieldref 8 27), (0, .nameAndType 28 12), (0, u "silentLosses"), (0, .fieldref 8 30), (0, .nameAndType 31 12), (0, u "tokenInversions"), (0, .fieldref 8 33), (0, .nameAndType 34 12), (0, u "staleWritesAccepted"), (0, .fieldref 8 36), (0, .nameAndType 37 12), (0, u "staleWritesRefused"), (0, .fieldref 8 39), (0, .nameAndType 40 12), (0, u "errors"), (89, u "(JIIJJJJJJJ)V"), (3, u "isSafe"), (0, u "()Z")] 44

def k3c0 : Code := { maxStack := 3, maxLocals := 19, code := prog_10_method_1_code, exceptionTable := #[], attributes := #[] }
def k3m0 : Method := { name := "<init>", desc := "(JIIJJJJJJJ)V", sig := { parameters := [.long, .int, .int, .long, .long, .long, .long, .long, .long, .long], returnType := none }, accessFlags := 1, code := some k3c0 }
def k3c1 : Code := { maxStack := 4, maxLocals := 1, code := prog_10_method_2_code, exceptionTable := #[], attributes := #[] }
def k3m1 : Method := { name := "isSafe", desc := "()Z", sig := { parameters := [], returnType := some .boolean }, accessFlags := 1, code := some k3c1 }
/-- com/example/wary_lease/warylease/drill/DrillResult -/
def k3 : Class := { plain "com/example/wary_lease/warylease/drill/DrillResult" (some 2) with
  accessFlags := 49
  interfaces := #[]
  cf := some (fileOf pool3 8 #[] #[{ accessFlags := 1, nameIndex := 5, descriptorIndex := 130, attributes := #[] }, { accessFlags := 1, nameIndex := 134, descriptorIndex := 135, attributes := #[] }] 49 2 #[] #[{ accessFlags := 18, nameIndex := 11, descriptorIndex := 12, attributes := #[] }, { accessFlags := 18, nameIndex := 15, descriptorIndex := 16, attributes := #[] }, { accessFlags := 18, nameIndex := 19, descriptorIndex := 16, attributes := #[] }, { accessFlags := 18, nameIndex := 22, descriptorIndex := 12, attributes := #[] }, { accessFlags := 18, nameIndex := 25, descriptorIndex := 12, attributes := #[] }, { accessFlags := 18, nameIndex := 28, descriptorIndex := 12, attributes := #[] }, { accessFlags := 18, nameIndex := 31, descriptorIndex := 12, attributes := #[] }, { accessFlags := 18, nameIndex := 34, descriptorIndex := 12, attributes := #[] }, { accessFlags := 18, nameIndex := 37, descriptorIndex := 12, attributes := #[] }, { accessFlags := 18, nameIndex := 40, descriptorIndex := 12, attributes := #[] }])
  fields := #[{ name := "entries", type := .long, accessFlags := 18, slot := 0, constantValue := 0 }, { name := "maxOccupancy", type := .int, accessFlags := 18, slot := 1, constantValue := 0 }, { name := "finalCount", type := .int, accessFlags := 18, slot := 2, constantValue := 0 }, { name := "lateWrites", type := .long, accessFlags := 18, slot := 3, constantValue := 0 }, { name := "lostLeases", type := .long, accessFlags := 18, slot := 4, constantValue := 0 }, { name := "silentLosses", type := .long, accessFlags := 18, slot := 5, constantValue := 0 }, { name := "tokenInversions", type := .long, accessFlags := 18, slot := 6, constantValue := 0 }, { name := "staleWritesAccepted", type := .long, accessFlags := 18, slot := 7, constantValue := 0 }, { name := "staleWritesRefused", type := .long, accessFlags := 18, slot := 8, constantValue := 0 }, { name := "errors", type := .long, accessFlags := 18, slot := 9, constantValue := 0 }]
  methods := #[k3m0, k3m1]
  instanceTypes := #[.long, .int, .int, .long, .long, .long, .long, .long, .long, .long]
  staticTypes := #[]
  resolved := Array.replicate 180 none
  statics := none }

def pool4 : Array CpInfo := pool [(1, u "java/lang/Cloneable"), (0, .class_ 1), (0, u "java/lang/Object"), (0, .class_ 3)] 3

/-- java/lang/Cloneable -/
def k4 : Class := { plain "java/lang/Cloneable" (some 0) with
  accessFlags := 1537
  interfaces := #[]
  cf := some (fileOf pool4 2 #[] #[] 1537 4 #[] #[])
  fields := #[]
  methods := #[]
  instanceTypes := #[]
  staticTypes := #[]
  resolved := Array.replicate 8 none
  statics := none }

def pool5 : Array CpInfo := pool [(1, u "java/io/Serializable"), (0, .class_ 1), (0, u "java/lang/Object"), (0, .class_ 3)] 3

/-- java/io/Serializable -/
def k5 : Class := { plain "java/io/Serializable" (some 0) with
  accessFlags := 1537
  interfaces := #[]
  cf := some (fileOf pool5 2 #[] #[] 1537 4 #[] #[])
  fields := #[]
  methods := #[]
  instanceTypes := #[]
  staticTypes := #[]
  resolved := Array.replicate 8 none
  statics := none }

/-- the primitive byte -/
def k6 : Class := { plain "byte" none with kind := .primitive 'B', accessFlags := 0x411 }
/-- [B -/
def k7 : Class := { plain "[B" (some 0) with kind := .array 6 .byte, interfaces := #[4, 5], accessFlags := 1041 }

/-- the primitive int -/
def k8 : Class := { plain "int" none with kind := .primitive 'I', accessFlags := 0x411 }
/-- [I -/
def k9 : Class := { plain "[I" (some 0) with kind := .array 8 .int, interfaces := #[4, 5], accessFlags := 1041 }

def heap : Heap := #[]
def classes : Array Class := #[k0, k1, k2, k3, k4, k5, k6, k7, k8, k9]
def interned : List (Array UInt16 × Addr) := []
def slotsUsed : Nat := 0
def theMethod : MethodId := ⟨1, 1⟩
def args0 : Array Value := #[.int 5, .int 1, .long 7, .long 8, .long 9, .int 3]
def aboutOver (below : List Frame) : State where
  vm := { classes := classes, interned := interned.toArray }
  heap := heap
  slotsUsed := slotsUsed
  threads := #[{ frames := .invoking theMethod args0 :: below }]
def below0 : List Frame := [.native { method := ⟨0, 0⟩, args := #[] }]
def about1 : State := aboutOver below0
def p0 : Program := .bare "" "" ""
def e0 : Env := launch0.env 0 0 0
theorem w_frames : about1.frames = Frame.invoking theMethod args0 :: below0 := rfl
set_option maxRecDepth 65536 in
theorem w_args : argsFit about1.vm theMethod args0 = true := by decide +kernel
set_option maxRecDepth 65536 in
theorem w_heap : heapFits about1 = true := by decide +kernel
set_option maxRecDepth 65536 in
theorem w_runnable : about1.curStatus? = some .runnable := by decide +kernel
set_option maxRecDepth 65536 in
theorem w_alone : about1.alone = true := by decide +kernel
set_option maxRecDepth 65536 in
theorem w_named : about1.methodNamed? x = some theMethod := by decide +kernel
set_option maxRecDepth 65536 in
theorem w_hears : about1.hears theMethod below0 = true := by decide +kernel
set_option maxRecDepth 65536 in
theorem w_ripe : about1.ripe theMethod args0 below0 = true := by decide +kernel
theorem w_running : about1.status = .running := rfl
set_option maxRecDepth 65536 in
theorem w_room : about1.hasRoom e0.platform room_1 = true :=
  launch0.hasRoom_least _ room_1 (by decide +kernel) (by decide +kernel) (by decide +kernel) (by decide +kernel) (by decide +kernel) (by decide +kernel)
theorem allAtoms_all (ts : List Jvm.Cond) (a : Array Jvm.Value) (st : Jvm.State) : (allAtoms ts).before a st = ts.all (fun c => c.before a st) := by
  induction ts with
  | nil => rfl
  | cons c t ih =>
    show (Jvm.Cond.and c (allAtoms t)).before a st = _
    rw [Jvm.Cond.before_and, ih, List.all_cons]
def words1 : List Jvm.Cond := Jvm.Cond.code x code maxLocals ret :: tables_1
/-- a 'code' word, met by the world's own term for the bytes: nothing is compared byte by byte -/
theorem code_word {y : MethodName} {bytes : ByteArray} {mx : Nat} {rt : Option FieldType} {a : Array Value} {s : State} {m : MethodId} {meth : Method} {c : Code} (h1 : s.methodNamed? y = some m) (h2 : s.vm.method? m = some meth) (h3 : meth.code = some c) (h4 : c.code = bytes)
    (h5 : (c.maxLocals == mx && c.exceptionTable.isEmpty && decide (c.maxStack ≤ mostOperands) && decide (meth.sig.returnType = rt) && !meth.locks && decide (parseMethodDescriptor y.desc = some meth.sig)) = true) : (Jvm.Cond.code y bytes mx rt).before a s = true := by
  simp only [Bool.and_eq_true, beq_iff_eq, Bool.not_eq_true', decide_eq_true_eq] at h5
  obtain ⟨⟨⟨⟨⟨g1, g2⟩, g3⟩, g4⟩, g5⟩, g6⟩ := h5
  simp [Cond.before, Cond.holds, Cond.value, h1, h2, h3, h4, g1, g2, g3, g4, g5, g6]
def isCode : Jvm.Cond → Bool
  | .code _ _ _ _ => true
  | _ => false
theorem all_split {L : List Jvm.Cond} {P : Jvm.Cond → Bool} (h1 : L.all (fun c => isCode c || P c) = true) (h2 : ∀ c ∈ L.filter isCode, P c = true) : L.all P = true := by
  refine List.all_eq_true.mpr fun c hc => ?_
  have h := List.all_eq_true.mp h1 c hc
  rcases Bool.eq_false_or_eq_true (isCode c) with hi | hi
  · exact h2 c (List.mem_filter.mpr ⟨hc, hi⟩)
  · simpa [hi] using h
set_option maxRecDepth 65536 in
theorem w_c0 : (Jvm.Cond.code x code maxLocals ret).before args0 about1 = true := code_word (m := ⟨1, 1⟩) (meth := k1m1) (c := k1c1) (by decide +kernel) rfl rfl rfl (by decide +kernel)
set_option maxRecDepth 65536 in
theorem w_c1 : (Jvm.Cond.code ({ cls := "com/example/wary_lease/warylease/drill/DrillResult", name := "<init>", desc := "(JIIJJJJJJJ)V" } : Jvm.MethodName) prog_10_method_1_code (19 : Nat) (Option.none : Option Jvm.ClassFile.FieldType)).before args0 about1 = true := code_word (m := ⟨3, 0⟩) (meth := k3m0) (c := k3c0) (by decide +kernel) rfl rfl rfl (by decide +kernel)
set_option maxRecDepth 65536 in
theorem w_c2 : (Jvm.Cond.code ({ cls := "java/lang/Record", name := "<init>", desc := "()V" } : Jvm.MethodName) jdk_30_method_1_code (1 : Nat) (Option.none : Option Jvm.ClassFile.FieldType)).before args0 about1 = true := code_word (m := ⟨2, 0⟩) (meth := k2m0) (c := k2c0) (by decide +kernel) rfl rfl rfl (by decide +kernel)
set_option maxRecDepth 65536 in
theorem w_c3 : (Jvm.Cond.code ({ cls := "java/lang/Object", name := "<init>", desc := "()V" } : Jvm.MethodName) object_method_1_code (1 : Nat) (Option.none : Option Jvm.ClassFile.FieldType)).before args0 about1 = true := code_word (m := ⟨0, 0⟩) (meth := k0m0) (c := k0c0) (by decide +kernel) rfl rfl rfl (by decide +kernel)
set_option maxRecDepth 65536 in
theorem w_c4 : (Jvm.Cond.code ({ cls := "com/example/wary_lease/warylease/drill/DrillResult", name := "isSafe", desc := "()Z" } : Jvm.MethodName) prog_10_method_2_code (1 : Nat) (Option.some Jvm.ClassFile.FieldType.boolean)).before args0 about1 = true := code_word (m := ⟨3, 1⟩) (meth := k3m1) (c := k3c1) (by decide +kernel) rfl rfl rfl (by decide +kernel)
def codes1 : List Jvm.Cond := [Jvm.Cond.code x code maxLocals ret, Jvm.Cond.code ({ cls := "com/example/wary_lease/warylease/drill/DrillResult", name := "<init>", desc := "(JIIJJJJJJJ)V" } : Jvm.MethodName) prog_10_method_1_code (19 : Nat) (Option.none : Option Jvm.ClassFile.FieldType), Jvm.Cond.code ({ cls := "java/lang/Record", name := "<init>", desc := "()V" } : Jvm.MethodName) jdk_30_method_1_code (1 : Nat) (Option.none : Option Jvm.ClassFile.FieldType), Jvm.Cond.code ({ cls := "java/lang/Object", name := "<init>", desc := "()V" } : Jvm.MethodName) object_method_1_code (1 : Nat) (Option.none : Option Jvm.ClassFile.FieldType), Jvm.Cond.code ({ cls := "com/example/wary_lease/warylease/drill/DrillResult", name := "isSafe", desc := "()Z" } : Jvm.MethodName) prog_10_method_2_code (1 : Nat) (Option.some Jvm.ClassFile.FieldType.boolean)]
set_option maxRecDepth 65536 in
theorem codes_eq : words1.filter isCode = codes1 := rfl
theorem w_codes : ∀ c ∈ words1.filter isCode, c.before args0 about1 = true := by
  rw [codes_eq]
  intro c hc
  simp only [codes1, List.mem_cons, List.not_mem_nil, or_false] at hc
  rcases hc with rfl | rfl | rfl | rfl | rfl
  · exact w_c0
  · exact w_c1
  · exact w_c2
  · exact w_c3
  · exact w_c4
set_option maxRecDepth 65536 in
theorem w_t1 : (words1.take 24).all (fun c => isCode c || c.before args0 about1) = true := by decide +kernel
set_option maxRecDepth 65536 in
theorem w_t2 : (words1.drop 24).all (fun c => isCode c || c.before args0 about1) = true := by decide +kernel
theorem w_tables : (allAtoms (Jvm.Cond.code x code maxLocals ret :: tables_1)).before args0 about1 = true := by
  rw [allAtoms_all]
  show words1.all (fun c => c.before args0 about1) = true
  refine all_split ?_ w_codes
  rw [← List.take_append_drop 24 words1, List.all_append, w_t1, w_t2]
  rfl
set_option maxRecDepth 65536 in
theorem w_case : (Jvm.Cond.and given_1 narrow_1).before args0 about1 = true := by decide +kernel
theorem w_applies : (headSpec (Jvm.Cond.code x code maxLocals ret :: tables_1) room_1).applies x e0.platform about1 = true :=
  (Spec.applies_iff w_frames).mpr ⟨w_running, w_runnable, w_alone, w_named, w_hears, w_ripe, w_room, w_tables⟩
theorem atStart : AtStart classFile x code maxLocals ret World_1 tables_1 room_1 Calls_1 rest_1 Pre_1 launch0 p0 e0 about1 theMethod args0 below0 :=
  ⟨lists_1, trivial, launch0.admits_env _ _ _, launch0.least_env, fairChoices_fair.cas, fairChoices_fair.clock, w_frames, w_args, w_heap, w_applies, trivial, trivial, w_case⟩
end start1
theorem witness_1 : WitnessClaimed_1 := ⟨start1.p0, start1.e0, start1.about1, start1.theMethod, start1.args0, start1.below0, start1.atStart⟩
end Jvm.Pilot.@@N@@
