import JvmDerived
import JvmDerived.Pilot.@@N@@Statement
import JvmDerived.Pilot.@@N@@Code
set_option linter.unusedVariables false
set_option linter.unusedSimpArgs false
namespace Jvm.OwnGo
open Sem ClassFile Op Lib Jvm.Stand Jvm.Free Jvm.LawKit Jvm.RoadKit
/-- the context of one walk: program, launch, environment, room, start, method, arguments, frames below, the method's record, its code, the tables' state, the words' arguments, the first new address -/
abbrev Cx : Type := Program × Launch × Env × Room × State × MethodId × Array Value × List Frame × Method × Code × State × Array Value × Nat × (Outcome → State → List Loc → Prop) × Nat × State
abbrev Cx.p (κ : Cx) : Program := κ.1
abbrev Cx.l (κ : Cx) : Launch := κ.2.1
abbrev Cx.e (κ : Cx) : Env := κ.2.2.1
abbrev Cx.R (κ : Cx) : Room := κ.2.2.2.1
abbrev Cx.s (κ : Cx) : State := κ.2.2.2.2.1
abbrev Cx.m (κ : Cx) : MethodId := κ.2.2.2.2.2.1
abbrev Cx.args (κ : Cx) : Array Value := κ.2.2.2.2.2.2.1
abbrev Cx.below (κ : Cx) : List Frame := κ.2.2.2.2.2.2.2.1
abbrev Cx.meth (κ : Cx) : Method := κ.2.2.2.2.2.2.2.2.1
abbrev Cx.c (κ : Cx) : Code := κ.2.2.2.2.2.2.2.2.2.1
abbrev Cx.Z (κ : Cx) : State := κ.2.2.2.2.2.2.2.2.2.2.1
abbrev Cx.a0 (κ : Cx) : Array Value := κ.2.2.2.2.2.2.2.2.2.2.2.1
abbrev Cx.n0 (κ : Cx) : Nat := κ.2.2.2.2.2.2.2.2.2.2.2.2.1
abbrev Cx.E (κ : Cx) : Outcome → State → List Loc → Prop := κ.2.2.2.2.2.2.2.2.2.2.2.2.2.1
abbrev Cx.kmin (κ : Cx) : Nat := κ.2.2.2.2.2.2.2.2.2.2.2.2.2.2.1
abbrev Cx.s0 (κ : Cx) : State := κ.2.2.2.2.2.2.2.2.2.2.2.2.2.2.2
/-- what is known of the context throughout the walk of a body -/
def OkK (km : Nat) (κ : Cx) (l : Launch) (Z : State) (a0 : Array Value) (n0 : Nat) (R : Room) (own nm : String) (bytes : ByteArray) (maxL : Nat) (ret : Option FieldType) : Prop :=
  κ.p.tables.exec = Jvm.exec ∧ κ.c.code = bytes ∧ κ.c.maxLocals = maxL ∧ κ.Z.Warmed39 κ.s.vm ∧ κ.s.vm.findClass own = some κ.m.cls ∧ κ.meth.sig.returnType = ret ∧ κ.meth.locks = false ∧ κ.meth.name = nm ∧ κ.l = l ∧ κ.Z = Z ∧ κ.a0 = a0 ∧ κ.n0 = n0 ∧ κ.R = R ∧ κ.kmin = km ∧ (∀ o t L, FrameEnd κ.s o t L κ.R.cells κ.R.slots → κ.kmin ≤ t.heap.size → κ.E o t L)
abbrev Ok (κ : Cx) (l : Launch) (Z : State) (a0 : Array Value) (n0 : Nat) (R : Room) (own nm : String) (bytes : ByteArray) (maxL : Nat) (ret : Option FieldType) : Prop := OkK 0 κ l Z a0 n0 R own nm bytes maxL ret
section B
variable {km : Nat} {κ : Cx} {l : Launch} {Z : State} {a0 : Array Value} {n0 : Nat} {R : Room} {own nm : String} {bytes : ByteArray} {maxL : Nat} {ret : Option FieldType}
theorem OkK.exec (B : OkK km κ l Z a0 n0 R own nm bytes maxL ret) : κ.p.tables.exec = Jvm.exec := B.1
theorem OkK.byt (B : OkK km κ l Z a0 n0 R own nm bytes maxL ret) : κ.c.code = bytes := B.2.1
theorem OkK.mxl (B : OkK km κ l Z a0 n0 R own nm bytes maxL ret) : κ.c.maxLocals = maxL := B.2.2.1
theorem OkK.warm (B : OkK km κ l Z a0 n0 R own nm bytes maxL ret) : Z.Warmed39 κ.s.vm := B.2.2.2.2.2.2.2.2.2.1 ▸ B.2.2.2.1
theorem OkK.hown (B : OkK km κ l Z a0 n0 R own nm bytes maxL ret) : κ.s.vm.findClass own = some κ.m.cls := B.2.2.2.2.1
theorem OkK.rets (B : OkK km κ l Z a0 n0 R own nm bytes maxL ret) : κ.meth.sig.returnType = ret := B.2.2.2.2.2.1
theorem OkK.nolock (B : OkK km κ l Z a0 n0 R own nm bytes maxL ret) : κ.meth.locks = false := B.2.2.2.2.2.2.1
theorem OkK.name (B : OkK km κ l Z a0 n0 R own nm bytes maxL ret) : κ.meth.name = nm := B.2.2.2.2.2.2.2.1
theorem OkK.hl (B : OkK km κ l Z a0 n0 R own nm bytes maxL ret) : κ.l = l := B.2.2.2.2.2.2.2.2.1
theorem OkK.hn (B : OkK km κ l Z a0 n0 R own nm bytes maxL ret) : κ.n0 = n0 := B.2.2.2.2.2.2.2.2.2.2.2.1
theorem OkK.room (B : OkK km κ l Z a0 n0 R own nm bytes maxL ret) : κ.R = R := B.2.2.2.2.2.2.2.2.2.2.2.2.1
theorem OkK.hkm (B : OkK km κ l Z a0 n0 R own nm bytes maxL ret) : κ.kmin = km := B.2.2.2.2.2.2.2.2.2.2.2.2.2.1
theorem OkK.hE (B : OkK km κ l Z a0 n0 R own nm bytes maxL ret) : ∀ o t L, FrameEnd κ.s o t L κ.R.cells κ.R.slots → κ.kmin ≤ t.heap.size → κ.E o t L := B.2.2.2.2.2.2.2.2.2.2.2.2.2.2
end B
/-- FROM HERE THE RUN ENDS AS Q SAYS: heap h, k cells and n slots made so far, the frame at pc with locals L and operands st -/
def Go (κ : Cx) (Q : Option Value → Heap → Prop) (h : Heap) (k n pc : Nat) (L : Array Slot) (st : List Value) : Prop :=
  ∀ (T : State) (locs : List Loc), Stand κ.p κ.l κ.e κ.R κ.s κ.m κ.args κ.below κ.meth κ.c T locs k n → Fr κ.n0 locs → T.heap = h →
    ∃ t o, Steps κ.p.tables κ.e κ.below (T.setTop (mkF κ.m pc L st)) t ∧ t.status = .running ∧ Ended t κ.below o ∧ ∃ v L', o = .returned v ∧ (Q v t.heap ∧ Fr κ.n0 L') ∧ κ.E o t L'
/-- a decode fact with the next pc -/
def Dc (bytes : ByteArray) (pc : Nat) (i : Instr) (len pc' : Nat) : Prop := decode bytes pc = .ok (i, len) ∧ pc + len = pc'
/-- a branch's decode fact: the pc behind it, the pc that it goes to -/
def Db (bytes : ByteArray) (pc : Nat) (i : Instr) (o : Int) (pc1 pc2 : Nat) : Prop := decode bytes pc = .ok (i, 3) ∧ pc + 3 = pc1 ∧ (pc : Int) + o = (pc2 : Int)
/-- a body's contract: with these arguments at this heap it ends as Q says -/
def Ct (l : Launch) (Z : State) (n0 : Nat) (y : MethodName) (bytes : ByteArray) (maxL : Nat) (ret : Option FieldType) (ws : List Jvm.Cond) (rm : Room) (as' : Array Value) (h0 : Heap) (Q : Option Value → Heap → Prop) : Prop :=
  MetFree l y (head1 (Jvm.Cond.code y bytes maxL ret :: ws) rm) (fun a U => a = as' ∧ Z.Warmed39 U.vm ∧ U.heap = h0) (fun _ _ _ _ _ => True) (fun _ U o U' => ∃ v L, o = .returned v ∧ (Q v U'.heap ∧ Fr n0 L) ∧ FrameEnd U o U' L rm.cells rm.slots)
theorem Ct.of {l : Launch} {Z : State} {a0 : Array Value} {n0 : Nat} {y : MethodName} {bytes : ByteArray} {maxL : Nat} {ret : Option FieldType} {ws : List Jvm.Cond} {rm : Room} {as' : Array Value} {h0 : Heap} {Q : Option Value → Heap → Prop} {L0 : Array Slot}
    (hp : plainFor y = true) (hf : ∀ m : MethodId, entryFrame m as' maxL = mkF m 0 L0 [])
    (body : ∀ κ : Cx, Ok κ l Z a0 n0 rm y.cls y.name bytes maxL ret → Go κ Q h0 0 0 0 L0 []) : Ct l Z n0 y bytes maxL ret ws rm as' h0 Q := by
  refine MetFree.of_bodySF hp hisR ?_
  intro p e s m args below meth c s₁ Bd hml0 hP hK
  obtain ⟨rfl, hZ, hh⟩ := hP
  have hown : s.vm.findClass y.cls = some m.cls := findClass_of_methodNamed Bd.named
  have hnm := (name_of_methodNamed Bd.named Bd.method).1
  have X0 : Stand p l e rm s m args below meth c s₁ [] 0 0 := Stand.of_body Bd
  have e0 : s₁.heap = h0 := by rw [← hh, Bd.state]; rfl
  have q := body (p, l, e, rm, s, m, args, below, meth, c, Z, a0, n0, fun o t L => FrameEnd s o t L rm.cells rm.slots, 0, s) ⟨Bd.exec, Bd.bytes, hml0, hZ, hown, Bd.returns, Bd.notSynchronized, hnm, rfl, rfl, rfl, rfl, rfl, rfl, fun _ _ _ q _ => q⟩ s₁ [] X0 (Fr.nil n0) e0
  obtain ⟨t, o, h1, h2, h3, h4⟩ := q
  exact ⟨t, o, castTop (hf m) h1, h2, h3, h4⟩
section G
variable {km : Nat} {κ : Cx} {l : Launch} {Z : State} {a0 : Array Value} {n0 : Nat} {R : Room} {own nm : String} {bytes : ByteArray} {maxL : Nat} {ret : Option FieldType} {Q : Option Value → Heap → Prop} {h : Heap} {k n pc pc' pc1 pc2 : Nat} {L L' : Array Slot} {st st' : List Value} {o : Int} {x y : Int32} {u w : Int64} {a : Addr} {v v' : Value}
theorem go_step (hs : ∀ (T : State) (locs : List Loc), Stand κ.p κ.l κ.e κ.R κ.s κ.m κ.args κ.below κ.meth κ.c T locs k n → T.heap = h → ∀ target, Steps κ.p.tables κ.e κ.below (T.setTop (mkF κ.m pc' L' st')) target → Steps κ.p.tables κ.e κ.below (T.setTop (mkF κ.m pc L st)) target)
    (g : Go κ Q h k n pc' L' st') : Go κ Q h k n pc L st := fun T locs X N e => by
  obtain ⟨t, o, h1, h2⟩ := g T locs X N e
  exact ⟨t, o, hs T locs X e t h1, h2⟩
theorem go_cast {h' : Heap} {k' n' : Nat} (g : Go κ Q h' k' n' pc' L' st') (e1 : h' = h) (e2 : k' = k) (e3 : n' = n) (e4 : pc' = pc) (e5 : L' = L) (e6 : st' = st) : Go κ Q h k n pc L st := by
  subst e1 e2 e3 e4 e5 e6; exact g
theorem go_mono {Q' : Option Value → Heap → Prop} (g : Go κ Q h k n pc L st) (q : ∀ v h', Q v h' → Q' v h') : Go κ Q' h k n pc L st := fun T locs X N e => by
  obtain ⟨t, o, h1, h2, h3, v, L', h4, ⟨h5, h6⟩, h7⟩ := g T locs X N e
  exact ⟨t, o, h1, h2, h3, v, L', h4, ⟨q _ _ h5, h6⟩, h7⟩
theorem go_iadd (B : OkK km κ l Z a0 n0 R own nm bytes maxL ret) (hd : Dc bytes pc (.iadd) 1 pc') (g : Go κ Q h k n pc' L (.int (x + y) :: st)) : Go κ Q h k n pc L (.int y :: .int x :: st) := by
  obtain ⟨d, rfl⟩ := hd
  exact go_step (fun T locs X e t q => XS.iadd X.here B.exec rfl (hb B.byt d) rfl q) g
theorem go_isub (B : OkK km κ l Z a0 n0 R own nm bytes maxL ret) (hd : Dc bytes pc (.isub) 1 pc') (g : Go κ Q h k n pc' L (.int (x - y) :: st)) : Go κ Q h k n pc L (.int y :: .int x :: st) := by
  obtain ⟨d, rfl⟩ := hd
  exact go_step (fun T locs X e t q => XS.isub X.here B.exec rfl (hb B.byt d) rfl q) g
theorem go_iand (B : OkK km κ l Z a0 n0 R own nm bytes maxL ret) (hd : Dc bytes pc (.iand) 1 pc') (g : Go κ Q h k n pc' L (.int (x &&& y) :: st)) : Go κ Q h k n pc L (.int y :: .int x :: st) := by
  obtain ⟨d, rfl⟩ := hd
  exact go_step (fun T locs X e t q => XS.iand X.here B.exec rfl (hb B.byt d) rfl q) g
theorem go_imul (B : OkK km κ l Z a0 n0 R own nm bytes maxL ret) (hd : Dc bytes pc (.imul) 1 pc') (g : Go κ Q h k n pc' L (.int (x * y) :: st)) : Go κ Q h k n pc L (.int y :: .int x :: st) := by
  obtain ⟨d, rfl⟩ := hd
  exact go_step (fun T locs X e t q => XS.imul X.here B.exec rfl (hb B.byt d) rfl q) g
theorem go_ixor (B : OkK km κ l Z a0 n0 R own nm bytes maxL ret) (hd : Dc bytes pc (.ixor) 1 pc') (g : Go κ Q h k n pc' L (.int (x ^^^ y) :: st)) : Go κ Q h k n pc L (.int y :: .int x :: st) := by
  obtain ⟨d, rfl⟩ := hd
  exact go_step (fun T locs X e t q => XT.ixor X.here B.exec rfl (hb B.byt d) rfl q) g
theorem go_ior (B : OkK km κ l Z a0 n0 R own nm bytes maxL ret) (hd : Dc bytes pc (.ior) 1 pc') (g : Go κ Q h k n pc' L (.int (x ||| y) :: st)) : Go κ Q h k n pc L (.int y :: .int x :: st) := by
  obtain ⟨d, rfl⟩ := hd
  exact go_step (fun T locs X e t q => XT.ior X.here B.exec rfl (hb B.byt d) rfl q) g
theorem go_ishl (B : OkK km κ l Z a0 n0 R own nm bytes maxL ret) (hd : Dc bytes pc (.ishl) 1 pc') (g : Go κ Q h k n pc' L (.int (x <<< (y &&& 31)) :: st)) : Go κ Q h k n pc L (.int y :: .int x :: st) := by
  obtain ⟨d, rfl⟩ := hd
  exact go_step (fun T locs X e t q => XT.ishl X.here B.exec rfl (hb B.byt d) rfl q) g
theorem go_ishr (B : OkK km κ l Z a0 n0 R own nm bytes maxL ret) (hd : Dc bytes pc (.ishr) 1 pc') (g : Go κ Q h k n pc' L (.int (x >>> (y &&& 31)) :: st)) : Go κ Q h k n pc L (.int y :: .int x :: st) := by
  obtain ⟨d, rfl⟩ := hd
  exact go_step (fun T locs X e t q => XT.ishr X.here B.exec rfl (hb B.byt d) rfl q) g
theorem go_iushr (B : OkK km κ l Z a0 n0 R own nm bytes maxL ret) (hd : Dc bytes pc (.iushr) 1 pc') (g : Go κ Q h k n pc' L (.int (XT.ushr x y) :: st)) : Go κ Q h k n pc L (.int y :: .int x :: st) := by
  obtain ⟨d, rfl⟩ := hd
  exact go_step (fun T locs X e t q => XT.iushr X.here B.exec rfl (hb B.byt d) rfl q) g
theorem go_idiv (B : OkK km κ l Z a0 n0 R own nm bytes maxL ret) (hd : Dc bytes pc (.idiv) 1 pc') (hy : y ≠ 0) (g : Go κ Q h k n pc' L (.int (x / y) :: st)) : Go κ Q h k n pc L (.int y :: .int x :: st) := by
  obtain ⟨d, rfl⟩ := hd
  exact go_step (fun T locs X e t q => XS.idiv X.here B.exec rfl (hb B.byt d) rfl hy q) g
theorem go_irem (B : OkK km κ l Z a0 n0 R own nm bytes maxL ret) (hd : Dc bytes pc (.irem) 1 pc') (hy : y ≠ 0) (g : Go κ Q h k n pc' L (.int (x % y) :: st)) : Go κ Q h k n pc L (.int y :: .int x :: st) := by
  obtain ⟨d, rfl⟩ := hd
  exact go_step (fun T locs X e t q => iremM X B.exec rfl (hb B.byt d) rfl hy q) g
theorem go_ineg (B : OkK km κ l Z a0 n0 R own nm bytes maxL ret) (hd : Dc bytes pc (.ineg) 1 pc') (g : Go κ Q h k n pc' L (.int (-x) :: st)) : Go κ Q h k n pc L (.int x :: st) := by
  obtain ⟨d, rfl⟩ := hd
  exact go_step (fun T locs X e t q => XS.ineg X.here B.exec rfl (hb B.byt d) rfl q) g
theorem go_ladd (B : OkK km κ l Z a0 n0 R own nm bytes maxL ret) (hd : Dc bytes pc (.ladd) 1 pc') (g : Go κ Q h k n pc' L (.long (u + w) :: st)) : Go κ Q h k n pc L (.long w :: .long u :: st) := by
  obtain ⟨d, rfl⟩ := hd
  exact go_step (fun T locs X e t q => XT.ladd X.here B.exec rfl (hb B.byt d) rfl q) g
theorem go_lsub (B : OkK km κ l Z a0 n0 R own nm bytes maxL ret) (hd : Dc bytes pc (.lsub) 1 pc') (g : Go κ Q h k n pc' L (.long (u - w) :: st)) : Go κ Q h k n pc L (.long w :: .long u :: st) := by
  obtain ⟨d, rfl⟩ := hd
  exact go_step (fun T locs X e t q => XT.lsub X.here B.exec rfl (hb B.byt d) rfl q) g
theorem go_lmul (B : OkK km κ l Z a0 n0 R own nm bytes maxL ret) (hd : Dc bytes pc (.lmul) 1 pc') (g : Go κ Q h k n pc' L (.long (u * w) :: st)) : Go κ Q h k n pc L (.long w :: .long u :: st) := by
  obtain ⟨d, rfl⟩ := hd
  exact go_step (fun T locs X e t q => XT.lmul X.here B.exec rfl (hb B.byt d) rfl q) g
theorem go_land (B : OkK km κ l Z a0 n0 R own nm bytes maxL ret) (hd : Dc bytes pc (.land) 1 pc') (g : Go κ Q h k n pc' L (.long (u &&& w) :: st)) : Go κ Q h k n pc L (.long w :: .long u :: st) := by
  obtain ⟨d, rfl⟩ := hd
  exact go_step (fun T locs X e t q => XT.land X.here B.exec rfl (hb B.byt d) rfl q) g
theorem go_lor (B : OkK km κ l Z a0 n0 R own nm bytes maxL ret) (hd : Dc bytes pc (.lor) 1 pc') (g : Go κ Q h k n pc' L (.long (u ||| w) :: st)) : Go κ Q h k n pc L (.long w :: .long u :: st) := by
  obtain ⟨d, rfl⟩ := hd
  exact go_step (fun T locs X e t q => XT.lor X.here B.exec rfl (hb B.byt d) rfl q) g
theorem go_lxor (B : OkK km κ l Z a0 n0 R own nm bytes maxL ret) (hd : Dc bytes pc (.lxor) 1 pc') (g : Go κ Q h k n pc' L (.long (u ^^^ w) :: st)) : Go κ Q h k n pc L (.long w :: .long u :: st) := by
  obtain ⟨d, rfl⟩ := hd
  exact go_step (fun T locs X e t q => XT.lxor X.here B.exec rfl (hb B.byt d) rfl q) g
theorem go_ldiv (B : OkK km κ l Z a0 n0 R own nm bytes maxL ret) (hd : Dc bytes pc (.ldiv) 1 pc') (hy : w ≠ 0) (g : Go κ Q h k n pc' L (.long (u / w) :: st)) : Go κ Q h k n pc L (.long w :: .long u :: st) := by
  obtain ⟨d, rfl⟩ := hd
  exact go_step (fun T locs X e t q => XT.ldiv X.here B.exec rfl (hb B.byt d) rfl hy q) g
theorem go_lrem (B : OkK km κ l Z a0 n0 R own nm bytes maxL ret) (hd : Dc bytes pc (.lrem) 1 pc') (hy : w ≠ 0) (g : Go κ Q h k n pc' L (.long (u - (u / w) * w) :: st)) : Go κ Q h k n pc L (.long w :: .long u :: st) := by
  obtain ⟨d, rfl⟩ := hd
  exact go_step (fun T locs X e t q => XT.lrem X.here B.exec rfl (hb B.byt d) rfl hy q) g
theorem go_lshl (B : OkK km κ l Z a0 n0 R own nm bytes maxL ret) (hd : Dc bytes pc (.lshl) 1 pc') (g : Go κ Q h k n pc' L (.long (u <<< (y.toInt64 &&& 63)) :: st)) : Go κ Q h k n pc L (.int y :: .long u :: st) := by
  obtain ⟨d, rfl⟩ := hd
  exact go_step (fun T locs X e t q => XT.lshl X.here B.exec rfl (hb B.byt d) rfl q) g
theorem go_lshr (B : OkK km κ l Z a0 n0 R own nm bytes maxL ret) (hd : Dc bytes pc (.lshr) 1 pc') (g : Go κ Q h k n pc' L (.long (u >>> (y.toInt64 &&& 63)) :: st)) : Go κ Q h k n pc L (.int y :: .long u :: st) := by
  obtain ⟨d, rfl⟩ := hd
  exact go_step (fun T locs X e t q => XT.lshr X.here B.exec rfl (hb B.byt d) rfl q) g
theorem go_lushr (B : OkK km κ l Z a0 n0 R own nm bytes maxL ret) (hd : Dc bytes pc (.lushr) 1 pc') (g : Go κ Q h k n pc' L (.long (XT.ushrL u y) :: st)) : Go κ Q h k n pc L (.int y :: .long u :: st) := by
  obtain ⟨d, rfl⟩ := hd
  exact go_step (fun T locs X e t q => XT.lushr X.here B.exec rfl (hb B.byt d) rfl q) g
theorem go_lneg (B : OkK km κ l Z a0 n0 R own nm bytes maxL ret) (hd : Dc bytes pc (.lneg) 1 pc') (g : Go κ Q h k n pc' L (.long (-u) :: st)) : Go κ Q h k n pc L (.long u :: st) := by
  obtain ⟨d, rfl⟩ := hd
  exact go_step (fun T locs X e t q => XT.lneg X.here B.exec rfl (hb B.byt d) rfl q) g
theorem go_i2l (B : OkK km κ l Z a0 n0 R own nm bytes maxL ret) (hd : Dc bytes pc (.i2l) 1 pc') (g : Go κ Q h k n pc' L (.long x.toInt64 :: st)) : Go κ Q h k n pc L (.int x :: st) := by
  obtain ⟨d, rfl⟩ := hd
  exact go_step (fun T locs X e t q => XT.i2l X.here B.exec rfl (hb B.byt d) rfl q) g
theorem go_l2i (B : OkK km κ l Z a0 n0 R own nm bytes maxL ret) (hd : Dc bytes pc (.l2i) 1 pc') (g : Go κ Q h k n pc' L (.int u.toInt32 :: st)) : Go κ Q h k n pc L (.long u :: st) := by
  obtain ⟨d, rfl⟩ := hd
  exact go_step (fun T locs X e t q => XT.l2i X.here B.exec rfl (hb B.byt d) rfl q) g
theorem go_i2b (B : OkK km κ l Z a0 n0 R own nm bytes maxL ret) (hd : Dc bytes pc (.i2b) 1 pc') (g : Go κ Q h k n pc' L (.int x.toInt8.toInt32 :: st)) : Go κ Q h k n pc L (.int x :: st) := by
  obtain ⟨d, rfl⟩ := hd
  exact go_step (fun T locs X e t q => XT.i2b X.here B.exec rfl (hb B.byt d) rfl q) g
theorem go_i2c (B : OkK km κ l Z a0 n0 R own nm bytes maxL ret) (hd : Dc bytes pc (.i2c) 1 pc') (g : Go κ Q h k n pc' L (.int x.toUInt32.toUInt16.toUInt32.toInt32 :: st)) : Go κ Q h k n pc L (.int x :: st) := by
  obtain ⟨d, rfl⟩ := hd
  exact go_step (fun T locs X e t q => XT.i2c X.here B.exec rfl (hb B.byt d) rfl q) g
theorem go_lcmp (B : OkK km κ l Z a0 n0 R own nm bytes maxL ret) (hd : Dc bytes pc (.lcmp) 1 pc') (g : Go κ Q h k n pc' L (.int (XT.cmpL u w) :: st)) : Go κ Q h k n pc L (.long w :: .long u :: st) := by
  obtain ⟨d, rfl⟩ := hd
  exact go_step (fun T locs X e t q => XT.lcmp X.here B.exec rfl (hb B.byt d) rfl q) g
theorem go_pop (B : OkK km κ l Z a0 n0 R own nm bytes maxL ret) (hd : Dc bytes pc (.pop) 1 pc') (hc : v.category = 1) (g : Go κ Q h k n pc' L (st)) : Go κ Q h k n pc L (v :: st) := by
  obtain ⟨d, rfl⟩ := hd
  exact go_step (fun T locs X e t q => XT.pop X.here B.exec rfl (hb B.byt d) rfl hc q) g
theorem go_dup (B : OkK km κ l Z a0 n0 R own nm bytes maxL ret) (hd : Dc bytes pc (.dup) 1 pc') (hc : v.category = 1) (g : Go κ Q h k n pc' L (v :: v :: st)) : Go κ Q h k n pc L (v :: st) := by
  obtain ⟨d, rfl⟩ := hd
  exact go_step (fun T locs X e t q => XS.dup X.here B.exec rfl (hb B.byt d) rfl hc q) g
theorem go_dup_x1 (B : OkK km κ l Z a0 n0 R own nm bytes maxL ret) (hd : Dc bytes pc (.dup_x1) 1 pc') (hc : v.category = 1) (hc' : v'.category = 1) (g : Go κ Q h k n pc' L (v :: v' :: v :: st)) : Go κ Q h k n pc L (v :: v' :: st) := by
  obtain ⟨d, rfl⟩ := hd
  exact go_step (fun T locs X e t q => XT.dupX1 X.here B.exec rfl (hb B.byt d) rfl hc hc' q) g
theorem go_dup2 (B : OkK km κ l Z a0 n0 R own nm bytes maxL ret) (hd : Dc bytes pc (.dup2) 1 pc') (hc : v.category = 1) (hc' : v'.category = 1) (g : Go κ Q h k n pc' L (v :: v' :: v :: v' :: st)) : Go κ Q h k n pc L (v :: v' :: st) := by
  obtain ⟨d, rfl⟩ := hd
  exact go_step (fun T locs X e t q => XT.dup2 X.here B.exec rfl (hb B.byt d) rfl hc hc' q) g
theorem go_dup2l (B : OkK km κ l Z a0 n0 R own nm bytes maxL ret) (hd : Dc bytes pc (.dup2) 1 pc') (g : Go κ Q h k n pc' L (.long u :: .long u :: st)) : Go κ Q h k n pc L (.long u :: st) := by
  obtain ⟨d, rfl⟩ := hd
  exact go_step (fun T locs X e t q => XT.dup2L X.here B.exec rfl (hb B.byt d) rfl q) g
theorem go_iconst (B : OkK km κ l Z a0 n0 R own nm bytes maxL ret) (hd : Dc bytes pc (.iconst o) 1 pc') (hv : Int32.ofInt o = x) (g : Go κ Q h k n pc' L (.int x :: st)) : Go κ Q h k n pc L (st) := by
  obtain ⟨d, rfl⟩ := hd
  exact go_step (fun T locs X e t q => XT.iconstV X.here B.exec rfl x (hb B.byt d) hv q) g
theorem go_bipush (B : OkK km κ l Z a0 n0 R own nm bytes maxL ret) (hd : Dc bytes pc (.bipush o) 2 pc') (hv : (Int8.ofInt o).toInt32 = x) (g : Go κ Q h k n pc' L (.int x :: st)) : Go κ Q h k n pc L (st) := by
  obtain ⟨d, rfl⟩ := hd
  exact go_step (fun T locs X e t q => XT.bipushV X.here B.exec rfl x (hb B.byt d) hv q) g
theorem go_sipush (B : OkK km κ l Z a0 n0 R own nm bytes maxL ret) (hd : Dc bytes pc (.sipush o) 3 pc') (hv : (Int16.ofInt o).toInt32 = x) (g : Go κ Q h k n pc' L (.int x :: st)) : Go κ Q h k n pc L (st) := by
  obtain ⟨d, rfl⟩ := hd
  exact go_step (fun T locs X e t q => XT.sipushV X.here B.exec rfl x (hb B.byt d) hv q) g
theorem go_lconst (B : OkK km κ l Z a0 n0 R own nm bytes maxL ret) {j : Fin 2} (hd : Dc bytes pc (.lconst j) 1 pc') (hv : Int64.ofNat j = u) (g : Go κ Q h k n pc' L (.long u :: st)) : Go κ Q h k n pc L (st) := by
  obtain ⟨d, rfl⟩ := hd
  exact go_step (fun T locs X e t q => XT.lconstV X.here B.exec rfl u (hb B.byt d) hv q) g
theorem go_aconst_null (B : OkK km κ l Z a0 n0 R own nm bytes maxL ret) (hd : Dc bytes pc (.aconst_null) 1 pc') (g : Go κ Q h k n pc' L (.null :: st)) : Go κ Q h k n pc L (st) := by
  obtain ⟨d, rfl⟩ := hd
  exact go_step (fun T locs X e t q => XS.aconstNull X.here B.exec rfl (hb B.byt d) q) g
theorem go_iload_n (B : OkK km κ l Z a0 n0 R own nm bytes maxL ret) {j : Fin 4} (hd : Dc bytes pc (.iload_n j) 1 pc') (hl : L[j.val]? = some (.val (.int x))) (g : Go κ Q h k n pc' L (.int x :: st)) : Go κ Q h k n pc L (st) := by
  obtain ⟨d, rfl⟩ := hd
  exact go_step (fun T locs X e t q => XS.iloadN X.here B.exec rfl (hb B.byt d) hl q) g
theorem go_iload (B : OkK km κ l Z a0 n0 R own nm bytes maxL ret) {j : Nat} (hd : Dc bytes pc (.iload j) 2 pc') (hl : L[j]? = some (.val (.int x))) (g : Go κ Q h k n pc' L (.int x :: st)) : Go κ Q h k n pc L (st) := by
  obtain ⟨d, rfl⟩ := hd
  exact go_step (fun T locs X e t q => XS.iload X.here B.exec rfl (hb B.byt d) hl q) g
theorem go_istore_n (B : OkK km κ l Z a0 n0 R own nm bytes maxL ret) {j : Fin 4} (L' : Array Slot) (hd : Dc bytes pc (.istore_n j) 1 pc') (hl : storeLocals L j.val (.int x) = some L') (g : Go κ Q h k n pc' L' st) : Go κ Q h k n pc L (.int x :: st) := by
  obtain ⟨d, rfl⟩ := hd
  exact go_step (fun T locs X e t q => XS.istoreN X.here B.exec rfl (hb B.byt d) rfl hl q) g
theorem go_istore (B : OkK km κ l Z a0 n0 R own nm bytes maxL ret) {j : Nat} (L' : Array Slot) (hd : Dc bytes pc (.istore j) 2 pc') (hl : storeLocals L j (.int x) = some L') (g : Go κ Q h k n pc' L' st) : Go κ Q h k n pc L (.int x :: st) := by
  obtain ⟨d, rfl⟩ := hd
  exact go_step (fun T locs X e t q => XS.istore X.here B.exec rfl (hb B.byt d) rfl hl q) g
theorem go_lload_n (B : OkK km κ l Z a0 n0 R own nm bytes maxL ret) {j : Fin 4} (hd : Dc bytes pc (.lload_n j) 1 pc') (hl : L[j.val]? = some (.val (.long u))) (g : Go κ Q h k n pc' L (.long u :: st)) : Go κ Q h k n pc L (st) := by
  obtain ⟨d, rfl⟩ := hd
  exact go_step (fun T locs X e t q => XT.lloadN X.here B.exec rfl (hb B.byt d) hl q) g
theorem go_lload (B : OkK km κ l Z a0 n0 R own nm bytes maxL ret) {j : Nat} (hd : Dc bytes pc (.lload j) 2 pc') (hl : L[j]? = some (.val (.long u))) (g : Go κ Q h k n pc' L (.long u :: st)) : Go κ Q h k n pc L (st) := by
  obtain ⟨d, rfl⟩ := hd
  exact go_step (fun T locs X e t q => XT.lload X.here B.exec rfl (hb B.byt d) hl q) g
theorem go_lstore_n (B : OkK km κ l Z a0 n0 R own nm bytes maxL ret) {j : Fin 4} (L' : Array Slot) (hd : Dc bytes pc (.lstore_n j) 1 pc') (hl : storeLocals L j.val (.long u) = some L') (g : Go κ Q h k n pc' L' st) : Go κ Q h k n pc L (.long u :: st) := by
  obtain ⟨d, rfl⟩ := hd
  exact go_step (fun T locs X e t q => XT.lstoreN X.here B.exec rfl (hb B.byt d) rfl hl q) g
theorem go_lstore (B : OkK km κ l Z a0 n0 R own nm bytes maxL ret) {j : Nat} (L' : Array Slot) (hd : Dc bytes pc (.lstore j) 2 pc') (hl : storeLocals L j (.long u) = some L') (g : Go κ Q h k n pc' L' st) : Go κ Q h k n pc L (.long u :: st) := by
  obtain ⟨d, rfl⟩ := hd
  exact go_step (fun T locs X e t q => XT.lstore X.here B.exec rfl (hb B.byt d) rfl hl q) g
theorem go_aload_n (B : OkK km κ l Z a0 n0 R own nm bytes maxL ret) {j : Fin 4} (hd : Dc bytes pc (.aload_n j) 1 pc') (hl : L[j.val]? = some (.val (v))) (hv : v.isRef = true) (g : Go κ Q h k n pc' L (v :: st)) : Go κ Q h k n pc L (st) := by
  obtain ⟨d, rfl⟩ := hd
  exact go_step (fun T locs X e t q => XS.aloadN X.here B.exec rfl (hb B.byt d) hl hv q) g
theorem go_aload (B : OkK km κ l Z a0 n0 R own nm bytes maxL ret) {j : Nat} (hd : Dc bytes pc (.aload j) 2 pc') (hl : L[j]? = some (.val (v))) (hv : v.isRef = true) (g : Go κ Q h k n pc' L (v :: st)) : Go κ Q h k n pc L (st) := by
  obtain ⟨d, rfl⟩ := hd
  exact go_step (fun T locs X e t q => XS.aload X.here B.exec rfl (hb B.byt d) hl hv q) g
theorem go_astore_n (B : OkK km κ l Z a0 n0 R own nm bytes maxL ret) {j : Fin 4} (L' : Array Slot) (hd : Dc bytes pc (.astore_n j) 1 pc') (hv : v.isRef = true) (hl : storeLocals L j.val (v) = some L') (g : Go κ Q h k n pc' L' st) : Go κ Q h k n pc L (v :: st) := by
  obtain ⟨d, rfl⟩ := hd
  exact go_step (fun T locs X e t q => XS.astoreN X.here B.exec rfl (hb B.byt d) rfl hv hl q) g
theorem go_astore (B : OkK km κ l Z a0 n0 R own nm bytes maxL ret) {j : Nat} (L' : Array Slot) (hd : Dc bytes pc (.astore j) 2 pc') (hv : v.isRef = true) (hl : storeLocals L j (v) = some L') (g : Go κ Q h k n pc' L' st) : Go κ Q h k n pc L (v :: st) := by
  obtain ⟨d, rfl⟩ := hd
  exact go_step (fun T locs X e t q => XS.astore X.here B.exec rfl (hb B.byt d) rfl hv hl q) g
theorem go_iinc (B : OkK km κ l Z a0 n0 R own nm bytes maxL ret) {j : Nat} {z : Int32} (L' : Array Slot) (hd : Dc bytes pc (.iinc j o) 3 pc') (hz : Int32.ofInt o = z) (hl : L[j]? = some (.val (.int x))) (hl' : storeLocals L j (.int (x + z)) = some L') (g : Go κ Q h k n pc' L' st) : Go κ Q h k n pc L st := by
  obtain ⟨d, rfl⟩ := hd
  subst hz
  exact go_step (fun T locs X e t q => XS.iinc X.here B.exec rfl (hb B.byt d) hl hl' q) g
theorem go_goto (B : OkK km κ l Z a0 n0 R own nm bytes maxL ret) (hd : Db bytes pc (.goto o) o pc1 pc2) (g : Go κ Q h k n pc2 L st) : Go κ Q h k n pc L st := by
  obtain ⟨d, -, e2⟩ := hd
  exact go_step (fun T locs X e t q => XS.goto X.here B.exec rfl (pc0 := pc) rfl (hb B.byt d) (by omega) (by omega) q) g
theorem go_icmpeq (B : OkK km κ l Z a0 n0 R own nm bytes maxL ret) (hd : Db bytes pc (.if_icmp .eq o) o pc1 pc2) (gt : x = y → Go κ Q h k n pc2 L st) (gf : ¬ x = y → Go κ Q h k n pc1 L st) : Go κ Q h k n pc L (.int y :: .int x :: st) := by
  obtain ⟨d, rfl, e2⟩ := hd
  rcases Classical.em (x = y) with q0 | q0
  · exact go_step (fun T locs X e t q => XS.icmpYes X.here B.exec rfl (pc0 := pc) rfl (hb B.byt d) rfl (XT.ii_eq_t q0) (by omega) (by omega) q) (gt q0)
  · exact go_step (fun T locs X e t q => XS.icmpNo X.here B.exec rfl (hb B.byt d) rfl (XT.ii_eq_f q0) q) (gf q0)
theorem go_icmpne (B : OkK km κ l Z a0 n0 R own nm bytes maxL ret) (hd : Db bytes pc (.if_icmp .ne o) o pc1 pc2) (gt : ¬ x = y → Go κ Q h k n pc2 L st) (gf : x = y → Go κ Q h k n pc1 L st) : Go κ Q h k n pc L (.int y :: .int x :: st) := by
  obtain ⟨d, rfl, e2⟩ := hd
  rcases Classical.em (¬ x = y) with q0 | q0
  · exact go_step (fun T locs X e t q => XS.icmpYes X.here B.exec rfl (pc0 := pc) rfl (hb B.byt d) rfl (XT.ii_ne_t q0) (by omega) (by omega) q) (gt q0)
  · exact go_step (fun T locs X e t q => XS.icmpNo X.here B.exec rfl (hb B.byt d) rfl (XT.ii_ne_f (Classical.not_not.mp q0)) q) (gf (Classical.not_not.mp q0))
theorem go_icmplt (B : OkK km κ l Z a0 n0 R own nm bytes maxL ret) (hd : Db bytes pc (.if_icmp .lt o) o pc1 pc2) (gt : x < y → Go κ Q h k n pc2 L st) (gf : ¬ x < y → Go κ Q h k n pc1 L st) : Go κ Q h k n pc L (.int y :: .int x :: st) := by
  obtain ⟨d, rfl, e2⟩ := hd
  rcases Classical.em (x < y) with q0 | q0
  · exact go_step (fun T locs X e t q => XS.icmpYes X.here B.exec rfl (pc0 := pc) rfl (hb B.byt d) rfl (XT.ii_lt_t q0) (by omega) (by omega) q) (gt q0)
  · exact go_step (fun T locs X e t q => XS.icmpNo X.here B.exec rfl (hb B.byt d) rfl (XT.ii_lt_f q0) q) (gf q0)
theorem go_icmpge (B : OkK km κ l Z a0 n0 R own nm bytes maxL ret) (hd : Db bytes pc (.if_icmp .ge o) o pc1 pc2) (gt : ¬ x < y → Go κ Q h k n pc2 L st) (gf : x < y → Go κ Q h k n pc1 L st) : Go κ Q h k n pc L (.int y :: .int x :: st) := by
  obtain ⟨d, rfl, e2⟩ := hd
  rcases Classical.em (¬ x < y) with q0 | q0
  · exact go_step (fun T locs X e t q => XS.icmpYes X.here B.exec rfl (pc0 := pc) rfl (hb B.byt d) rfl (XT.ii_ge_t q0) (by omega) (by omega) q) (gt q0)
  · exact go_step (fun T locs X e t q => XS.icmpNo X.here B.exec rfl (hb B.byt d) rfl (XT.ii_ge_f (Classical.not_not.mp q0)) q) (gf (Classical.not_not.mp q0))
theorem go_icmpgt (B : OkK km κ l Z a0 n0 R own nm bytes maxL ret) (hd : Db bytes pc (.if_icmp .gt o) o pc1 pc2) (gt : y < x → Go κ Q h k n pc2 L st) (gf : ¬ y < x → Go κ Q h k n pc1 L st) : Go κ Q h k n pc L (.int y :: .int x :: st) := by
  obtain ⟨d, rfl, e2⟩ := hd
  rcases Classical.em (y < x) with q0 | q0
  · exact go_step (fun T locs X e t q => XS.icmpYes X.here B.exec rfl (pc0 := pc) rfl (hb B.byt d) rfl (XT.ii_gt_t q0) (by omega) (by omega) q) (gt q0)
  · exact go_step (fun T locs X e t q => XS.icmpNo X.here B.exec rfl (hb B.byt d) rfl (XT.ii_gt_f q0) q) (gf q0)
theorem go_icmple (B : OkK km κ l Z a0 n0 R own nm bytes maxL ret) (hd : Db bytes pc (.if_icmp .le o) o pc1 pc2) (gt : ¬ y < x → Go κ Q h k n pc2 L st) (gf : y < x → Go κ Q h k n pc1 L st) : Go κ Q h k n pc L (.int y :: .int x :: st) := by
  obtain ⟨d, rfl, e2⟩ := hd
  rcases Classical.em (¬ y < x) with q0 | q0
  · exact go_step (fun T locs X e t q => XS.icmpYes X.here B.exec rfl (pc0 := pc) rfl (hb B.byt d) rfl (XT.ii_le_t q0) (by omega) (by omega) q) (gt q0)
  · exact go_step (fun T locs X e t q => XS.icmpNo X.here B.exec rfl (hb B.byt d) rfl (XT.ii_le_f (Classical.not_not.mp q0)) q) (gf (Classical.not_not.mp q0))
theorem go_ifeq (B : OkK km κ l Z a0 n0 R own nm bytes maxL ret) (hd : Db bytes pc (.ifCond .eq o) o pc1 pc2) (gt : x = 0 → Go κ Q h k n pc2 L st) (gf : ¬ x = 0 → Go κ Q h k n pc1 L st) : Go κ Q h k n pc L (.int x :: st) := by
  obtain ⟨d, rfl, e2⟩ := hd
  rcases Classical.em (x = 0) with q0 | q0
  · exact go_step (fun T locs X e t q => XS.ifYes X.here B.exec rfl (pc0 := pc) rfl (hb B.byt d) rfl (XT.i0_eq_t q0) (by omega) (by omega) q) (gt q0)
  · exact go_step (fun T locs X e t q => XS.ifNo X.here B.exec rfl (hb B.byt d) rfl (XT.i0_eq_f q0) q) (gf q0)
theorem go_ifne (B : OkK km κ l Z a0 n0 R own nm bytes maxL ret) (hd : Db bytes pc (.ifCond .ne o) o pc1 pc2) (gt : ¬ x = 0 → Go κ Q h k n pc2 L st) (gf : x = 0 → Go κ Q h k n pc1 L st) : Go κ Q h k n pc L (.int x :: st) := by
  obtain ⟨d, rfl, e2⟩ := hd
  rcases Classical.em (¬ x = 0) with q0 | q0
  · exact go_step (fun T locs X e t q => XS.ifYes X.here B.exec rfl (pc0 := pc) rfl (hb B.byt d) rfl (XT.i0_ne_t q0) (by omega) (by omega) q) (gt q0)
  · exact go_step (fun T locs X e t q => XS.ifNo X.here B.exec rfl (hb B.byt d) rfl (XT.i0_ne_f (Classical.not_not.mp q0)) q) (gf (Classical.not_not.mp q0))
theorem go_iflt (B : OkK km κ l Z a0 n0 R own nm bytes maxL ret) (hd : Db bytes pc (.ifCond .lt o) o pc1 pc2) (gt : x < 0 → Go κ Q h k n pc2 L st) (gf : ¬ x < 0 → Go κ Q h k n pc1 L st) : Go κ Q h k n pc L (.int x :: st) := by
  obtain ⟨d, rfl, e2⟩ := hd
  rcases Classical.em (x < 0) with q0 | q0
  · exact go_step (fun T locs X e t q => XS.ifYes X.here B.exec rfl (pc0 := pc) rfl (hb B.byt d) rfl (XT.i0_lt_t q0) (by omega) (by omega) q) (gt q0)
  · exact go_step (fun T locs X e t q => XS.ifNo X.here B.exec rfl (hb B.byt d) rfl (XT.i0_lt_f q0) q) (gf q0)
theorem go_ifge (B : OkK km κ l Z a0 n0 R own nm bytes maxL ret) (hd : Db bytes pc (.ifCond .ge o) o pc1 pc2) (gt : ¬ x < 0 → Go κ Q h k n pc2 L st) (gf : x < 0 → Go κ Q h k n pc1 L st) : Go κ Q h k n pc L (.int x :: st) := by
  obtain ⟨d, rfl, e2⟩ := hd
  rcases Classical.em (¬ x < 0) with q0 | q0
  · exact go_step (fun T locs X e t q => XS.ifYes X.here B.exec rfl (pc0 := pc) rfl (hb B.byt d) rfl (XT.i0_ge_t q0) (by omega) (by omega) q) (gt q0)
  · exact go_step (fun T locs X e t q => XS.ifNo X.here B.exec rfl (hb B.byt d) rfl (XT.i0_ge_f (Classical.not_not.mp q0)) q) (gf (Classical.not_not.mp q0))
theorem go_ifgt (B : OkK km κ l Z a0 n0 R own nm bytes maxL ret) (hd : Db bytes pc (.ifCond .gt o) o pc1 pc2) (gt : 0 < x → Go κ Q h k n pc2 L st) (gf : ¬ 0 < x → Go κ Q h k n pc1 L st) : Go κ Q h k n pc L (.int x :: st) := by
  obtain ⟨d, rfl, e2⟩ := hd
  rcases Classical.em (0 < x) with q0 | q0
  · exact go_step (fun T locs X e t q => XS.ifYes X.here B.exec rfl (pc0 := pc) rfl (hb B.byt d) rfl (XT.i0_gt_t q0) (by omega) (by omega) q) (gt q0)
  · exact go_step (fun T locs X e t q => XS.ifNo X.here B.exec rfl (hb B.byt d) rfl (XT.i0_gt_f q0) q) (gf q0)
theorem go_ifle (B : OkK km κ l Z a0 n0 R own nm bytes maxL ret) (hd : Db bytes pc (.ifCond .le o) o pc1 pc2) (gt : ¬ 0 < x → Go κ Q h k n pc2 L st) (gf : 0 < x → Go κ Q h k n pc1 L st) : Go κ Q h k n pc L (.int x :: st) := by
  obtain ⟨d, rfl, e2⟩ := hd
  rcases Classical.em (¬ 0 < x) with q0 | q0
  · exact go_step (fun T locs X e t q => XS.ifYes X.here B.exec rfl (pc0 := pc) rfl (hb B.byt d) rfl (XT.i0_le_t q0) (by omega) (by omega) q) (gt q0)
  · exact go_step (fun T locs X e t q => XS.ifNo X.here B.exec rfl (hb B.byt d) rfl (XT.i0_le_f (Classical.not_not.mp q0)) q) (gf (Classical.not_not.mp q0))
theorem go_lifeq (B : OkK km κ l Z a0 n0 R own nm bytes maxL ret) (hd : Db bytes pc (.ifCond .eq o) o pc1 pc2) (gt : u = w → Go κ Q h k n pc2 L st) (gf : ¬ u = w → Go κ Q h k n pc1 L st) : Go κ Q h k n pc L (.int (XT.cmpL u w) :: st) := by
  obtain ⟨d, rfl, e2⟩ := hd
  rcases Classical.em (u = w) with q0 | q0
  · exact go_step (fun T locs X e t q => XS.ifYes X.here B.exec rfl (pc0 := pc) rfl (hb B.byt d) rfl (XT.ll_eq_t q0) (by omega) (by omega) q) (gt q0)
  · exact go_step (fun T locs X e t q => XS.ifNo X.here B.exec rfl (hb B.byt d) rfl (XT.ll_eq_f q0) q) (gf q0)
theorem go_lifne (B : OkK km κ l Z a0 n0 R own nm bytes maxL ret) (hd : Db bytes pc (.ifCond .ne o) o pc1 pc2) (gt : ¬ u = w → Go κ Q h k n pc2 L st) (gf : u = w → Go κ Q h k n pc1 L st) : Go κ Q h k n pc L (.int (XT.cmpL u w) :: st) := by
  obtain ⟨d, rfl, e2⟩ := hd
  rcases Classical.em (¬ u = w) with q0 | q0
  · exact go_step (fun T locs X e t q => XS.ifYes X.here B.exec rfl (pc0 := pc) rfl (hb B.byt d) rfl (XT.ll_ne_t q0) (by omega) (by omega) q) (gt q0)
  · exact go_step (fun T locs X e t q => XS.ifNo X.here B.exec rfl (hb B.byt d) rfl (XT.ll_ne_f (Classical.not_not.mp q0)) q) (gf (Classical.not_not.mp q0))
theorem go_liflt (B : OkK km κ l Z a0 n0 R own nm bytes maxL ret) (hd : Db bytes pc (.ifCond .lt o) o pc1 pc2) (gt : u < w → Go κ Q h k n pc2 L st) (gf : ¬ u < w → Go κ Q h k n pc1 L st) : Go κ Q h k n pc L (.int (XT.cmpL u w) :: st) := by
  obtain ⟨d, rfl, e2⟩ := hd
  rcases Classical.em (u < w) with q0 | q0
  · exact go_step (fun T locs X e t q => XS.ifYes X.here B.exec rfl (pc0 := pc) rfl (hb B.byt d) rfl (XT.ll_lt_t q0) (by omega) (by omega) q) (gt q0)
  · exact go_step (fun T locs X e t q => XS.ifNo X.here B.exec rfl (hb B.byt d) rfl (XT.ll_lt_f q0) q) (gf q0)
theorem go_lifge (B : OkK km κ l Z a0 n0 R own nm bytes maxL ret) (hd : Db bytes pc (.ifCond .ge o) o pc1 pc2) (gt : ¬ u < w → Go κ Q h k n pc2 L st) (gf : u < w → Go κ Q h k n pc1 L st) : Go κ Q h k n pc L (.int (XT.cmpL u w) :: st) := by
  obtain ⟨d, rfl, e2⟩ := hd
  rcases Classical.em (¬ u < w) with q0 | q0
  · exact go_step (fun T locs X e t q => XS.ifYes X.here B.exec rfl (pc0 := pc) rfl (hb B.byt d) rfl (XT.ll_ge_t q0) (by omega) (by omega) q) (gt q0)
  · exact go_step (fun T locs X e t q => XS.ifNo X.here B.exec rfl (hb B.byt d) rfl (XT.ll_ge_f (Classical.not_not.mp q0)) q) (gf (Classical.not_not.mp q0))
theorem go_lifgt (B : OkK km κ l Z a0 n0 R own nm bytes maxL ret) (hd : Db bytes pc (.ifCond .gt o) o pc1 pc2) (gt : w < u → Go κ Q h k n pc2 L st) (gf : ¬ w < u → Go κ Q h k n pc1 L st) : Go κ Q h k n pc L (.int (XT.cmpL u w) :: st) := by
  obtain ⟨d, rfl, e2⟩ := hd
  rcases Classical.em (w < u) with q0 | q0
  · exact go_step (fun T locs X e t q => XS.ifYes X.here B.exec rfl (pc0 := pc) rfl (hb B.byt d) rfl (XT.ll_gt_t q0) (by omega) (by omega) q) (gt q0)
  · exact go_step (fun T locs X e t q => XS.ifNo X.here B.exec rfl (hb B.byt d) rfl (XT.ll_gt_f q0) q) (gf q0)
theorem go_lifle (B : OkK km κ l Z a0 n0 R own nm bytes maxL ret) (hd : Db bytes pc (.ifCond .le o) o pc1 pc2) (gt : ¬ w < u → Go κ Q h k n pc2 L st) (gf : w < u → Go κ Q h k n pc1 L st) : Go κ Q h k n pc L (.int (XT.cmpL u w) :: st) := by
  obtain ⟨d, rfl, e2⟩ := hd
  rcases Classical.em (¬ w < u) with q0 | q0
  · exact go_step (fun T locs X e t q => XS.ifYes X.here B.exec rfl (pc0 := pc) rfl (hb B.byt d) rfl (XT.ll_le_t q0) (by omega) (by omega) q) (gt q0)
  · exact go_step (fun T locs X e t q => XS.ifNo X.here B.exec rfl (hb B.byt d) rfl (XT.ll_le_f (Classical.not_not.mp q0)) q) (gf (Classical.not_not.mp q0))
theorem go_acmpeq (B : OkK km κ l Z a0 n0 R own nm bytes maxL ret) (hd : Db bytes pc (.if_acmp .eq o) o pc1 pc2) (hv : v.isRef = true) (hv' : v'.isRef = true) (gt : v' = v → Go κ Q h k n pc2 L st) (gf : ¬ v' = v → Go κ Q h k n pc1 L st) : Go κ Q h k n pc L (v :: v' :: st) := by
  obtain ⟨d, rfl, e2⟩ := hd
  rcases Classical.em (v' = v) with q0 | q0
  · exact go_step (fun T locs X e t q => XT.acmpYes X.here B.exec rfl (pc0 := pc) rfl (hb B.byt d) rfl hv' hv (XT.aa_eq_t q0) (by omega) (by omega) q) (gt q0)
  · exact go_step (fun T locs X e t q => XT.acmpNo X.here B.exec rfl (hb B.byt d) rfl hv' hv (XT.aa_eq_f q0) q) (gf q0)
theorem go_acmpne (B : OkK km κ l Z a0 n0 R own nm bytes maxL ret) (hd : Db bytes pc (.if_acmp .ne o) o pc1 pc2) (hv : v.isRef = true) (hv' : v'.isRef = true) (gt : ¬ v' = v → Go κ Q h k n pc2 L st) (gf : v' = v → Go κ Q h k n pc1 L st) : Go κ Q h k n pc L (v :: v' :: st) := by
  obtain ⟨d, rfl, e2⟩ := hd
  rcases Classical.em (¬ v' = v) with q0 | q0
  · exact go_step (fun T locs X e t q => XT.acmpYes X.here B.exec rfl (pc0 := pc) rfl (hb B.byt d) rfl hv' hv (XT.aa_ne_t q0) (by omega) (by omega) q) (gt q0)
  · exact go_step (fun T locs X e t q => XT.acmpNo X.here B.exec rfl (hb B.byt d) rfl hv' hv (XT.aa_ne_f (Classical.not_not.mp q0)) q) (gf (Classical.not_not.mp q0))
theorem go_ifnull_t (B : OkK km κ l Z a0 n0 R own nm bytes maxL ret) (hd : Db bytes pc (.ifnull o) o pc1 pc2) (g : Go κ Q h k n pc2 L st) : Go κ Q h k n pc L (.null :: st) := by
  obtain ⟨d, rfl, e2⟩ := hd
  exact go_step (fun T locs X e t q => XS.ifnullYes X.here B.exec rfl (pc0 := pc) rfl (hb B.byt d) rfl (by omega) (by omega) q) g
theorem go_ifnull_f (B : OkK km κ l Z a0 n0 R own nm bytes maxL ret) (hd : Db bytes pc (.ifnull o) o pc1 pc2) (g : Go κ Q h k n pc1 L st) : Go κ Q h k n pc L (.ref a :: st) := by
  obtain ⟨d, rfl, e2⟩ := hd
  exact go_step (fun T locs X e t q => XS.ifnullNo X.here B.exec rfl (hb B.byt d) rfl q) g
theorem go_ifnonnull_t (B : OkK km κ l Z a0 n0 R own nm bytes maxL ret) (hd : Db bytes pc (.ifnonnull o) o pc1 pc2) (g : Go κ Q h k n pc2 L st) : Go κ Q h k n pc L (.ref a :: st) := by
  obtain ⟨d, rfl, e2⟩ := hd
  exact go_step (fun T locs X e t q => XT.ifnonnullYes X.here B.exec rfl (pc0 := pc) rfl (hb B.byt d) rfl (by omega) (by omega) q) g
theorem go_ifnonnull_f (B : OkK km κ l Z a0 n0 R own nm bytes maxL ret) (hd : Db bytes pc (.ifnonnull o) o pc1 pc2) (g : Go κ Q h k n pc1 L st) : Go κ Q h k n pc L (.null :: st) := by
  obtain ⟨d, rfl, e2⟩ := hd
  exact go_step (fun T locs X e t q => XT.ifnonnullNo X.here B.exec rfl (hb B.byt d) rfl q) g
/-! fields, objects, arrays, calls, returns -/
theorem go_getfield (B : OkK km κ l Z a0 n0 R own nm bytes maxL ret) {idx : Nat} {O fn d : String} (hd : Dc bytes pc (.getfield idx) 3 pc') (wl : (Jvm.Cond.fieldLink own idx O fn d).before a0 Z = true) (F : Fld Z h a O fn d v) (g : Go κ Q h k n pc' L (v :: st)) : Go κ Q h k n pc L (.ref a :: st) := fun T locs X N e => by
  obtain ⟨dd, rfl⟩ := hd
  obtain ⟨T', X', e', sp⟩ := getF X B.exec B.warm B.hown (host := "") (Or.inl wl) Via.refl e F (g := mkF κ.m pc L (.ref a :: st)) rfl rfl (hb B.byt dd)
  obtain ⟨t, o, h1, h2⟩ := g T' locs X' N e'
  exact ⟨t, o, sp _ h1, h2⟩
theorem go_getstatic (B : OkK km κ l Z a0 n0 R own nm bytes maxL ret) {idx : Nat} {O fn d : String} (hd : Dc bytes pc (.getstatic idx) 3 pc') (wl : (Jvm.Cond.fieldLink own idx O fn d).before a0 Z = true) (F : Sta Z h O fn d v) (g : Go κ Q h k n pc' L (v :: st)) : Go κ Q h k n pc L st := fun T locs X N e => by
  obtain ⟨dd, rfl⟩ := hd
  obtain ⟨T', X', e', sp⟩ := getS (host := "") X B.exec B.warm B.hown wl Via.refl e F (g := mkF κ.m pc L st) rfl (hb B.byt dd)
  obtain ⟨t, o, h1, h2⟩ := g T' locs X' N e'
  exact ⟨t, o, sp _ h1, h2⟩
theorem go_putfield (B : OkK km κ l Z a0 n0 R own nm bytes maxL ret) {idx kk : Nat} {O fn d C : String} {ty : FieldType} {old : Value} (hd : Dc bytes pc (.putfield idx) 3 pc') (wl : (Jvm.Cond.fieldLink own idx O fn d).before a0 Z = true) (F : Fld Z h a O fn d old) (E : Exa Z h a C)
    (wy : (Jvm.Cond.lays C O fn d).before a0 Z = true ∨ ((Jvm.Cond.laysFinal C O fn d).before a0 Z = true ∧ own = O ∧ nm = "<init>")) (wi : (Jvm.Cond.instantiable C kk).before a0 Z = true) (hty : parseFieldDescriptor d = some ty) (hn : narrow ty v = v) (hf : fits ty v = true) (ha : n0 ≤ a)
    (g : ∀ h', Wr h h' a (Jvm.RoadKit.slotOf Z O fn d) v → Go κ Q h' k n pc' L st) : Go κ Q h k n pc L (v :: .ref a :: st) := fun T locs X N e => by
  obtain ⟨dd, rfl⟩ := hd
  obtain ⟨T', h', X', e', W, sp⟩ := putF X B.exec B.warm B.hown (host := "") (Or.inl wl) Via.refl e F E (wy.imp id fun q => ⟨q.1, q.2.1, B.name.trans q.2.2⟩) wi hty hn hf (g := mkF κ.m pc L (v :: .ref a :: st)) rfl rfl (hb B.byt dd)
  obtain ⟨t, o, h1, h2⟩ := g h' W T' _ X' (Fr.snoc X' N (B.hn ▸ ha)) e'
  exact ⟨t, o, sp _ h1, h2⟩
theorem go_new (B : OkK km κ l Z a0 n0 R own nm bytes maxL ret) {idx nf : Nat} {C : String} (hd : Dc bytes pc (.new idx) 3 pc') (wl : (Jvm.Cond.classLink own idx C).before a0 Z = true) (wi : (Jvm.Cond.instantiable C nf).before a0 Z = true) (wz : (Jvm.Cond.initialized C).before a0 Z = true) (hc : k + 1 ≤ R.cells) (hl : n + nf ≤ R.slots)
    (g : ∀ h' b, b = h.size → Ext h h' → Exa Z h' b C → (∀ {O fn d : String} {ty : FieldType}, Laid Z a0 C O fn d → parseFieldDescriptor d = some ty → Fld Z h' b O fn d (defaultValue ty)) → Go κ Q h' (k + 1) (n + nf) pc' L (.ref b :: st)) : Go κ Q h k n pc L st := fun T locs X N e => by
  obtain ⟨dd, rfl⟩ := hd
  obtain ⟨T', h', X', e', E, A, D, -, sp⟩ := newO X B.exec B.warm B.hown wl wi wz e (g := mkF κ.m pc L st) rfl (hb B.byt dd) (by rw [B.room]; exact hc) (by rw [B.room]; exact hl)
  obtain ⟨t, o, h1, h2⟩ := g h' _ rfl E A D T' locs X' N e'
  exact ⟨t, o, sp _ h1, h2⟩
/-- an array whose places hold just these values -/
def AV (Z : State) (h : Heap) (a : Addr) (ty : FieldType) (vs : List Value) : Prop := ∃ c : Cell, Arr Z h a c ty ∧ c.slots = vs.toArray ∧ vs.length < 2 ^ 31
theorem AV.ext {ty : FieldType} {vs : List Value} {h' : Heap} (F : AV Z h a ty vs) (E : Ext h h') : AV Z h' a ty vs := by obtain ⟨c, A, r⟩ := F; exact ⟨c, A.ext E, r⟩
theorem AV.other {ty : FieldType} {vs : List Value} {h' : Heap} {b : Addr} {sl : Nat} (F : AV Z h b ty vs) (W : Wr h h' a sl v) (q : b ≠ a) : AV Z h' b ty vs := by obtain ⟨c, A, r⟩ := F; exact ⟨c, A.other W q, r⟩
theorem AV.keep {ty : FieldType} {vs : List Value} {h' : Heap} {ws : List Addr} (F : AV Z h a ty vs) (K : Keep h h' ws) (q : a ∉ ws) : AV Z h' a ty vs := by obtain ⟨c, A, r⟩ := F; exact ⟨c, ⟨K.2.1 a c A.1 q, A.2⟩, r⟩
theorem AV.same {ty : FieldType} {vs : List Value} {h' : Heap} {i : Nat} (F : AV Z h a ty vs) (W : Wr h h' a i v) : AV Z h' a ty (vs.set i v) := by
  obtain ⟨c, A, r, s⟩ := F
  exact ⟨_, A.same W, by simp [Cell.setSlot, r], by simpa using s⟩
theorem AV.lt {ty : FieldType} {vs : List Value} (F : AV Z h a ty vs) : a < h.size := by obtain ⟨c, A, -⟩ := F; exact A.lt
theorem AV.len {ty : FieldType} {vs : List Value} (F : AV Z h a ty vs) : vs.length < 2 ^ 31 := by obtain ⟨c, A, -, q⟩ := F; exact q
theorem nat_idx {i : Nat} (hj : x.toInt = (i : Int)) : ¬ x < 0 ∧ x.toNatClampNeg = i := by
  refine ⟨fun q => ?_, ?_⟩
  · have := (Int32.lt_iff_toInt_lt).mp q
    have z : (0 : Int32).toInt = 0 := rfl
    omega
  · show x.toInt.toNat = i
    omega
theorem go_arraylength (B : OkK km κ l Z a0 n0 R own nm bytes maxL ret) {ty : FieldType} {vs : List Value} (hd : Dc bytes pc .arraylength 1 pc') (A : AV Z h a ty vs) (hx : Int32.ofNat vs.length = x) (g : Go κ Q h k n pc' L (.int x :: st)) : Go κ Q h k n pc L (.ref a :: st) := by
  obtain ⟨dd, rfl⟩ := hd
  obtain ⟨c, A, r, s⟩ := A
  have e1 : (Int32.ofNat c.slots.size) = x := by rw [← hx, r]; simp
  subst e1
  exact go_step (fun T locs X e t q => X.arraylength B.exec (by rw [e]; exact A.1) (State.isArrayOf_alike B.warm.alike A.2.1) (g := mkF κ.m pc L (.ref a :: st)) rfl rfl (hb B.byt dd) _ q) g
theorem go_iaload (B : OkK km κ l Z a0 n0 R own nm bytes maxL ret) {vs : List Value} {i : Nat} (hd : Dc bytes pc .iaload 1 pc') (A : AV Z h a .int vs) (hi : x.toInt = (i : Int)) (hv : vs[i]? = some v) (g : Go κ Q h k n pc' L (v :: st)) : Go κ Q h k n pc L (.int x :: .ref a :: st) := by
  obtain ⟨dd, rfl⟩ := hd
  obtain ⟨c, A, r, s⟩ := A
  obtain ⟨q1, q2⟩ := nat_idx hi
  have hl : i < vs.length := (List.getElem?_eq_some_iff.mp hv).1
  exact go_step (fun T locs X e t q => X.iaload B.exec (j := x) (v := v) (by rw [e]; exact A.1) (State.isArrayOf_alike B.warm.alike A.2.1) A.2.2 (by rw [r, q2]; simp; exact ⟨Int32.not_lt.mp q1, hl⟩) (by rw [r, q2]; simpa using hv) (g := mkF κ.m pc L (.int x :: .ref a :: st)) rfl rfl (hb B.byt dd) _ q) g
theorem go_laload (B : OkK km κ l Z a0 n0 R own nm bytes maxL ret) {vs : List Value} {i : Nat} (hd : Dc bytes pc .laload 1 pc') (A : AV Z h a .long vs) (hi : x.toInt = (i : Int)) (hv : vs[i]? = some v) (g : Go κ Q h k n pc' L (v :: st)) : Go κ Q h k n pc L (.int x :: .ref a :: st) := by
  obtain ⟨dd, rfl⟩ := hd
  obtain ⟨c, A, r, s⟩ := A
  obtain ⟨q1, q2⟩ := nat_idx hi
  have hl : i < vs.length := (List.getElem?_eq_some_iff.mp hv).1
  exact go_step (fun T locs X e t q => X.laload B.exec (j := x) (v := v) (by rw [e]; exact A.1) (State.isArrayOf_alike B.warm.alike A.2.1) A.2.2 (by rw [r, q2]; simp; exact ⟨Int32.not_lt.mp q1, hl⟩) (by rw [r, q2]; simpa using hv) (g := mkF κ.m pc L (.int x :: .ref a :: st)) rfl rfl (hb B.byt dd) _ q) g
theorem go_caload (B : OkK km κ l Z a0 n0 R own nm bytes maxL ret) {vs : List Value} {i : Nat} (hd : Dc bytes pc .caload 1 pc') (A : AV Z h a .char vs) (hi : x.toInt = (i : Int)) (hv : vs[i]? = some v) (g : Go κ Q h k n pc' L (v :: st)) : Go κ Q h k n pc L (.int x :: .ref a :: st) := by
  obtain ⟨dd, rfl⟩ := hd
  obtain ⟨c, A, r, s⟩ := A
  obtain ⟨q1, q2⟩ := nat_idx hi
  have hl : i < vs.length := (List.getElem?_eq_some_iff.mp hv).1
  exact go_step (fun T locs X e t q => X.caload B.exec (j := x) (v := v) (by rw [e]; exact A.1) (State.isArrayOf_alike B.warm.alike A.2.1) A.2.2 (by rw [r, q2]; simp; exact ⟨Int32.not_lt.mp q1, hl⟩) (by rw [r, q2]; simpa using hv) (g := mkF κ.m pc L (.int x :: .ref a :: st)) rfl rfl (hb B.byt dd) _ q) g
theorem go_baload (B : OkK km κ l Z a0 n0 R own nm bytes maxL ret) {vs : List Value} {i : Nat} (hd : Dc bytes pc .baload 1 pc') (A : AV Z h a .byte vs) (hi : x.toInt = (i : Int)) (hv : vs[i]? = some v) (g : Go κ Q h k n pc' L (v :: st)) : Go κ Q h k n pc L (.int x :: .ref a :: st) := by
  obtain ⟨dd, rfl⟩ := hd
  obtain ⟨c, A, r, s⟩ := A
  obtain ⟨q1, q2⟩ := nat_idx hi
  have hl : i < vs.length := (List.getElem?_eq_some_iff.mp hv).1
  exact go_step (fun T locs X e t q => X.baloadBytes B.exec (j := x) (v := v) (by rw [e]; exact A.1) (State.isArrayOf_alike B.warm.alike A.2.1) A.2.2 (by rw [r, q2]; simp; exact ⟨Int32.not_lt.mp q1, hl⟩) (by rw [r, q2]; simpa using hv) (g := mkF κ.m pc L (.int x :: .ref a :: st)) rfl rfl (hb B.byt dd) _ q) g
theorem go_zaload (B : OkK km κ l Z a0 n0 R own nm bytes maxL ret) {vs : List Value} {i : Nat} (hd : Dc bytes pc .baload 1 pc') (A : AV Z h a .boolean vs) (hi : x.toInt = (i : Int)) (hv : vs[i]? = some v) (g : Go κ Q h k n pc' L (v :: st)) : Go κ Q h k n pc L (.int x :: .ref a :: st) := by
  obtain ⟨dd, rfl⟩ := hd
  obtain ⟨c, A, r, s⟩ := A
  obtain ⟨q1, q2⟩ := nat_idx hi
  have hl : i < vs.length := (List.getElem?_eq_some_iff.mp hv).1
  exact go_step (fun T locs X e t q => X.baloadBooleans B.exec (j := x) (v := v) (by rw [e]; exact A.1) (State.isArrayOf_alike B.warm.alike A.2.1) A.2.2 (by rw [r, q2]; simp; exact ⟨Int32.not_lt.mp q1, hl⟩) (by rw [r, q2]; simpa using hv) (g := mkF κ.m pc L (.int x :: .ref a :: st)) rfl rfl (hb B.byt dd) _ q) g
theorem go_aaload (B : OkK km κ l Z a0 n0 R own nm bytes maxL ret) {ty : FieldType} {vs : List Value} {i : Nat} (hd : Dc bytes pc .aaload 1 pc') (A : AV Z h a ty vs) (hty : ty.isReference = true) (hi : x.toInt = (i : Int)) (hv : vs[i]? = some v) (g : Go κ Q h k n pc' L (v :: st)) : Go κ Q h k n pc L (.int x :: .ref a :: st) := by
  obtain ⟨dd, rfl⟩ := hd
  obtain ⟨c, A, r, s⟩ := A
  obtain ⟨q1, q2⟩ := nat_idx hi
  have hl : i < vs.length := (List.getElem?_eq_some_iff.mp hv).1
  exact go_step (fun T locs X e t q => X.aaload B.exec (j := x) (v := v) (by rw [e]; exact A.1) (State.isArrayOf_alike B.warm.alike A.2.1) hty A.2.2 (by rw [r, q2]; simp; exact ⟨Int32.not_lt.mp q1, hl⟩) (by rw [r, q2]; simpa using hv) (g := mkF κ.m pc L (.int x :: .ref a :: st)) rfl rfl (hb B.byt dd) _ q) g
theorem go_iastore (B : OkK km κ l Z a0 n0 R own nm bytes maxL ret) {vs : List Value} {i : Nat} (hd : Dc bytes pc .iastore 1 pc') (A : AV Z h a .int vs) (hi : x.toInt = (i : Int)) (hl : i < vs.length) (ha : n0 ≤ a) (g : ∀ h', Wr h h' a i (.int y) → AV Z h' a .int (vs.set i (.int y)) → Go κ Q h' k n pc' L st) : Go κ Q h k n pc L (.int y :: .int x :: .ref a :: st) := fun T locs X N e => by
  obtain ⟨dd, rfl⟩ := hd
  have A0 := A
  obtain ⟨c, A, r, s⟩ := A
  obtain ⟨q1, q2⟩ := nat_idx hi
  obtain ⟨T', h', X', e', W, sp⟩ := stI X B.exec B.warm e A (j := x) (by rw [r, q2]; simp; exact ⟨Int32.not_lt.mp q1, hl⟩) (g := mkF κ.m pc L (.int y :: .int x :: .ref a :: st)) rfl rfl (hb B.byt dd)
  have W' : Wr h h' a i (.int y) := q2 ▸ W
  obtain ⟨t, o, h1, h2⟩ := g h' W' (A0.same W') T' _ X' (Fr.snoc X' N (B.hn ▸ ha)) e'
  exact ⟨t, o, sp _ h1, h2⟩
theorem go_lastore (B : OkK km κ l Z a0 n0 R own nm bytes maxL ret) {vs : List Value} {i : Nat} (hd : Dc bytes pc .lastore 1 pc') (A : AV Z h a .long vs) (hi : x.toInt = (i : Int)) (hl : i < vs.length) (ha : n0 ≤ a) (g : ∀ h', Wr h h' a i (.long u) → AV Z h' a .long (vs.set i (.long u)) → Go κ Q h' k n pc' L st) : Go κ Q h k n pc L (.long u :: .int x :: .ref a :: st) := fun T locs X N e => by
  obtain ⟨dd, rfl⟩ := hd
  have A0 := A
  obtain ⟨c, A, r, s⟩ := A
  obtain ⟨q1, q2⟩ := nat_idx hi
  obtain ⟨T', h', X', e', W, sp⟩ := stJ X B.exec B.warm e A (j := x) (by rw [r, q2]; simp; exact ⟨Int32.not_lt.mp q1, hl⟩) (g := mkF κ.m pc L (.long u :: .int x :: .ref a :: st)) rfl rfl (hb B.byt dd)
  have W' : Wr h h' a i (.long u) := q2 ▸ W
  obtain ⟨t, o, h1, h2⟩ := g h' W' (A0.same W') T' _ X' (Fr.snoc X' N (B.hn ▸ ha)) e'
  exact ⟨t, o, sp _ h1, h2⟩
theorem go_castore (B : OkK km κ l Z a0 n0 R own nm bytes maxL ret) {vs : List Value} {i : Nat} (hd : Dc bytes pc .castore 1 pc') (A : AV Z h a .char vs) (hi : x.toInt = (i : Int)) (hl : i < vs.length) (ha : n0 ≤ a) (g : ∀ h', Wr h h' a i (.int (nar .char y)) → AV Z h' a .char (vs.set i (.int (nar .char y))) → Go κ Q h' k n pc' L st) : Go κ Q h k n pc L (.int y :: .int x :: .ref a :: st) := fun T locs X N e => by
  obtain ⟨dd, rfl⟩ := hd
  have A0 := A
  obtain ⟨c, A, r, s⟩ := A
  obtain ⟨q1, q2⟩ := nat_idx hi
  obtain ⟨T', h', X', e', W, sp⟩ := stC X B.exec B.warm e A (j := x) (by rw [r, q2]; simp; exact ⟨Int32.not_lt.mp q1, hl⟩) (g := mkF κ.m pc L (.int y :: .int x :: .ref a :: st)) rfl rfl (hb B.byt dd)
  have W' : Wr h h' a i (.int (nar .char y)) := q2 ▸ W
  obtain ⟨t, o, h1, h2⟩ := g h' W' (A0.same W') T' _ X' (Fr.snoc X' N (B.hn ▸ ha)) e'
  exact ⟨t, o, sp _ h1, h2⟩
theorem go_bastore (B : OkK km κ l Z a0 n0 R own nm bytes maxL ret) {vs : List Value} {i : Nat} (hd : Dc bytes pc .bastore 1 pc') (A : AV Z h a .byte vs) (hi : x.toInt = (i : Int)) (hl : i < vs.length) (ha : n0 ≤ a) (g : ∀ h', Wr h h' a i (.int (nar .byte y)) → AV Z h' a .byte (vs.set i (.int (nar .byte y))) → Go κ Q h' k n pc' L st) : Go κ Q h k n pc L (.int y :: .int x :: .ref a :: st) := fun T locs X N e => by
  obtain ⟨dd, rfl⟩ := hd
  have A0 := A
  obtain ⟨c, A, r, s⟩ := A
  obtain ⟨q1, q2⟩ := nat_idx hi
  obtain ⟨T', h', X', e', W, sp⟩ := stB X B.exec B.warm e A (j := x) (by rw [r, q2]; simp; exact ⟨Int32.not_lt.mp q1, hl⟩) (g := mkF κ.m pc L (.int y :: .int x :: .ref a :: st)) rfl rfl (hb B.byt dd)
  have W' : Wr h h' a i (.int (nar .byte y)) := q2 ▸ W
  obtain ⟨t, o, h1, h2⟩ := g h' W' (A0.same W') T' _ X' (Fr.snoc X' N (B.hn ▸ ha)) e'
  exact ⟨t, o, sp _ h1, h2⟩
theorem go_zastore (B : OkK km κ l Z a0 n0 R own nm bytes maxL ret) {vs : List Value} {i : Nat} (hd : Dc bytes pc .bastore 1 pc') (A : AV Z h a .boolean vs) (hi : x.toInt = (i : Int)) (hl : i < vs.length) (ha : n0 ≤ a) (g : ∀ h', Wr h h' a i (.int (nar .boolean y)) → AV Z h' a .boolean (vs.set i (.int (nar .boolean y))) → Go κ Q h' k n pc' L st) : Go κ Q h k n pc L (.int y :: .int x :: .ref a :: st) := fun T locs X N e => by
  obtain ⟨dd, rfl⟩ := hd
  have A0 := A
  obtain ⟨c, A, r, s⟩ := A
  obtain ⟨q1, q2⟩ := nat_idx hi
  obtain ⟨T', h', X', e', W, sp⟩ := stZ X B.exec B.warm e A (j := x) (by rw [r, q2]; simp; exact ⟨Int32.not_lt.mp q1, hl⟩) (g := mkF κ.m pc L (.int y :: .int x :: .ref a :: st)) rfl rfl (hb B.byt dd)
  have W' : Wr h h' a i (.int (nar .boolean y)) := q2 ▸ W
  obtain ⟨t, o, h1, h2⟩ := g h' W' (A0.same W') T' _ X' (Fr.snoc X' N (B.hn ▸ ha)) e'
  exact ⟨t, o, sp _ h1, h2⟩
theorem go_newarray (B : OkK km κ l Z a0 n0 R own nm bytes maxL ret) {aty : ArrayType} {i cap : Nat} (hd : Dc bytes pc (.newarray aty) 2 pc') (wa : (Jvm.Cond.arrayClass (newarray.typeOf aty)).before a0 Z = true) (hi : x.toInt = (i : Int)) (hcap : i ≤ cap) (hbig : cap * 8 ≤ 536870912) (hc : k + 1 ≤ R.cells) (hl : n + cap ≤ R.slots)
    (g : ∀ h' b, b = h.size → Ext h h' → AV Z h' b (newarray.typeOf aty) (List.replicate i (defaultValue (newarray.typeOf aty))) → Exa Z h' b ("[" ++ (newarray.typeOf aty).toString) → Go κ Q h' (k + 1) (n + cap) pc' L (.ref b :: st)) : Go κ Q h k n pc L (.int x :: st) := fun T locs X N e => by
  obtain ⟨dd, rfl⟩ := hd
  obtain ⟨q1, q2⟩ := nat_idx hi
  have hcb : componentBytes (newarray.typeOf aty) ≤ 8 := by cases aty <;> decide
  have hbig' : x.toNatClampNeg * componentBytes (newarray.typeOf aty) ≤ 536870912 := Nat.le_trans (Nat.mul_le_mul (q2 ▸ hcap) hcb) hbig
  obtain ⟨cA, kA, comp, f1, f2, f3, X', sp⟩ := X.newarrayPrim B.exec (mvA B.warm wa) (g := mkF κ.m pc L (.int x :: st)) rfl (hb B.byt dd) rfl q1 hbig' (by rw [B.room]; exact hc) (by rw [B.room, q2]; omega)
  subst e
  have f1' : Z.vm.findClass ("[" ++ (newarray.typeOf aty).toString) = some cA := by rw [← B.warm.alike.findClass]; exact f1
  obtain ⟨kZ, z1, -⟩ := Vm.findClass_spec f1'
  obtain ⟨k', z2, z3⟩ := B.warm.alike.2.2 _ _ z1
  cases f2.symm.trans z2
  have f4 : kZ.kind = .array comp (newarray.typeOf aty) := by rw [← f3, z3]
  have hat : (T.heap.push { cls := cA, slots := Array.replicate x.toNatClampNeg (defaultValue (newarray.typeOf aty)), vm := .none : Cell })[T.heap.size]? = some { cls := cA, slots := Array.replicate x.toNatClampNeg (defaultValue (newarray.typeOf aty)), vm := .none } := by simp
  have hE : Ext T.heap (T.heap.push { cls := cA, slots := Array.replicate x.toNatClampNeg (defaultValue (newarray.typeOf aty)), vm := .none : Cell }) := ext_of fun a ha => by rw [Array.getElem?_push_lt ha]; exact (Array.getElem?_eq_getElem _).symm
  obtain ⟨t, o, h1, h2⟩ := g _ _ rfl hE ⟨_, ⟨hat, ⟨by simp, kZ, z1, comp, f4⟩, by simp⟩, by simp [q2], by simp; have := x.toInt_lt; omega⟩
    ⟨_, kZ, hat, f1', z1, rfl, fun q => by rw [f4] at q; cases q⟩ _ locs (X'.more (Nat.le_refl _) (by rw [q2]; omega)) N rfl
  exact ⟨t, o, sp _ h1, h2⟩
theorem go_ldcI (B : OkK km κ l Z a0 n0 R own nm bytes maxL ret) {idx : Nat} (hd : Dc bytes pc (.ldc idx) 2 pc') (wl : (Jvm.Cond.constant own idx x).before a0 Z = true) (g : Go κ Q h k n pc' L (.int x :: st)) : Go κ Q h k n pc L st := by
  obtain ⟨dd, rfl⟩ := hd
  exact go_step (fun T locs X e t q => X.ldcInt B.exec B.hown (mvT B.warm wl) (g := mkF κ.m pc L st) rfl (hb B.byt dd) _ q) g
theorem go_ldcWI (B : OkK km κ l Z a0 n0 R own nm bytes maxL ret) {idx : Nat} (hd : Dc bytes pc (.ldc_w idx) 3 pc') (wl : (Jvm.Cond.constant own idx x).before a0 Z = true) (g : Go κ Q h k n pc' L (.int x :: st)) : Go κ Q h k n pc L st := by
  obtain ⟨dd, rfl⟩ := hd
  exact go_step (fun T locs X e t q => X.ldcwInt B.exec B.hown (mvT B.warm wl) (g := mkF κ.m pc L st) rfl (hb B.byt dd) _ q) g
theorem go_ldc2J (B : OkK km κ l Z a0 n0 R own nm bytes maxL ret) {idx : Nat} (hd : Dc bytes pc (.ldc2_w idx) 3 pc') (wl : (Jvm.Cond.constantLong own idx u).before a0 Z = true) (g : Go κ Q h k n pc' L (.long u :: st)) : Go κ Q h k n pc L st := by
  obtain ⟨dd, rfl⟩ := hd
  exact go_step (fun T locs X e t q => X.ldc2Long B.exec B.hown (mvT B.warm wl) (g := mkF κ.m pc L st) rfl (hb B.byt dd) _ q) g
theorem go_initO (B : OkK km κ l Z a0 n0 R own nm bytes maxL ret) {idx W : Nat} (hd : Dc bytes pc (.invokespecial idx) 3 pc') (w1 : (Jvm.Cond.methodLink own idx Lib.objectInit).before a0 Z = true) (w2 : (Jvm.Cond.instanceMethod Lib.objectInit).before a0 Z = true) (w3 : (Jvm.Cond.code Lib.objectInit ⟨#[0xb1]⟩ 1 none).before a0 Z = true)
    (hs : L.size = maxL) (hW : (st.map fun v => v.category).sum = W) (hf : 1 ≤ R.frames) (hl : W + 12 ≤ R.locals) (g : Go κ Q h k n pc' L st) : Go κ Q h k n pc L (.ref a :: st) := fun T locs X N e => by
  obtain ⟨dd, rfl⟩ := hd
  obtain ⟨T', X', e', sp⟩ := initO X B.exec B.warm B.hown w1 w2 w3 e (g := mkF κ.m pc L (.ref a :: st)) rfl (by rw [B.mxl]; exact hs) rfl (hb B.byt dd) (by rw [B.room]; exact hf) (W := W) (by show 2 * 0 + _ ≤ _; omega) (by rw [B.room]; exact hl)
  obtain ⟨t, o, h1, h2⟩ := g T' locs X' N e'
  exact ⟨t, o, sp _ h1, h2⟩
section Call
variable {y' : MethodName} {idx W : Nat} {bytes' : ByteArray} {maxL' : Nat} {ret' : Option FieldType} {rm : Room} {as' : Array Value} {argsL : List Value} {Q' : Option Value → Heap → Prop} {ps : List FieldType} {rt : Option FieldType}
theorem go_static (B : OkK km κ l Z a0 n0 R own nm bytes maxL ret) (hd : Dc bytes pc (.invokestatic idx) 3 pc') (w1 : (Jvm.Cond.methodLink own idx y').before a0 Z = true) (w2 : (Jvm.Cond.static y').before a0 Z = true) (w3 : (Jvm.Cond.initialized y'.cls).before a0 Z = true) (w4 : (Jvm.Cond.code y' bytes' maxL' ret').before a0 Z = true)
    (hy : y'.cls ≠ "java/lang/invoke/MethodHandle" ∧ y'.cls ≠ "java/lang/invoke/VarHandle") (C : Ct l Z n0 y' bytes' maxL' ret' [] rm argsL.toArray h Q') (pd : parseMethodDescriptor y'.desc = some ⟨ps, rt⟩) (hlen : argsL.length = ps.length) (hst : st' = argsL.reverse ++ st) (hs : L.size = maxL)
    (hW : (st.map fun v => v.category).sum = W) (hf : rm.frames + 1 ≤ R.frames) (hl : W + (maxL' + 11) + rm.locals ≤ R.locals) (hc : k + rm.cells ≤ R.cells) (hn : n + rm.slots ≤ R.slots)
    (g : ∀ v h', Q' v h' → Go κ Q h' (k + rm.cells) (n + rm.slots) pc' L (v.toList ++ st)) : Go κ Q h k n pc L st' := fun T locs X N e => by
  obtain ⟨dd, rfl⟩ := hd
  have C' : Ct κ.l Z n0 y' bytes' maxL' ret' [] rm argsL.toArray h Q' := B.hl.symm ▸ C
  obtain ⟨vv, _, ⟨T', L2, k2, n2⟩, -, X', ⟨Lc, hQ, l2, y2, z2⟩, sp⟩ := Jvm.LawKit.callS X B.exec (y := y') B.hown (mvT B.warm w1) (mvT B.warm w2) (mvT B.warm w3) (mvT B.warm w4) hy
    (backOf (Q := fun v h L => Q' v h ∧ Fr n0 L) (W := W) C' B.warm w4 w3 (by rw [B.room]; exact hf) (by rw [B.room]; exact hl)) (g := mkF κ.m pc L st') rfl (by rw [B.mxl]; exact hs) (argsL := argsL) (rest := st) (lenOf pd hlen) hst (by show 2 * 0 + _ ≤ _; omega) (hb B.byt dd)
    (fun _ _ => ⟨rfl, e, by rw [B.room]; exact hc, by rw [B.room]; exact hn⟩)
  dsimp only [Pt.U, Pt.locs, Pt.cells, Pt.slots] at X' l2 y2 z2 sp hQ
  subst l2 y2 z2
  obtain ⟨t, o, h1, h2⟩ := g vv T'.heap hQ.1 T' _ X' (Fr.app N (B.hn.symm ▸ hQ.2)) rfl
  exact ⟨t, o, sp _ h1, h2⟩
theorem go_special (B : OkK km κ l Z a0 n0 R own nm bytes maxL ret) (hd : Dc bytes pc (.invokespecial idx) 3 pc') (hi : y'.name = "<init>") (w1 : (Jvm.Cond.methodLink own idx y').before a0 Z = true) (w2 : (Jvm.Cond.instanceMethod y').before a0 Z = true) (w3 : (Jvm.Cond.initialized y'.cls).before a0 Z = true) (w4 : (Jvm.Cond.code y' bytes' maxL' none).before a0 Z = true)
    (hy : y'.cls ≠ "java/lang/invoke/MethodHandle" ∧ y'.cls ≠ "java/lang/invoke/VarHandle") (C : Ct l Z n0 y' bytes' maxL' none [] rm (.ref a :: argsL).toArray h Q') (pd : parseMethodDescriptor y'.desc = some ⟨ps, rt⟩) (hlen : argsL.length = ps.length) (hst : st' = argsL.reverse ++ .ref a :: st) (hs : L.size = maxL)
    (hW : (st.map fun v => v.category).sum = W) (hf : rm.frames + 1 ≤ R.frames) (hl : W + (maxL' + 11) + rm.locals ≤ R.locals) (hc : k + rm.cells ≤ R.cells) (hn : n + rm.slots ≤ R.slots)
    (g : ∀ v h', Q' v h' → Go κ Q h' (k + rm.cells) (n + rm.slots) pc' L (v.toList ++ st)) : Go κ Q h k n pc L st' := fun T locs X N e => by
  obtain ⟨dd, rfl⟩ := hd
  have C' : Ct κ.l Z n0 y' bytes' maxL' none [] rm (.ref a :: argsL).toArray h Q' := B.hl.symm ▸ C
  obtain ⟨vv, _, ⟨T', L2, k2, n2⟩, -, X', ⟨Lc, hQ, l2, y2, z2⟩, sp⟩ := X.specialBack B.exec (y := y') hi B.hown (mvT B.warm w1) (mvT B.warm w2) (mvT B.warm w4) hy
    (backOf (Q := fun v h L => Q' v h ∧ Fr n0 L) (W := W) C' B.warm w4 w3 (by rw [B.room]; exact hf) (by rw [B.room]; exact hl)) (g := mkF κ.m pc L st') rfl (by rw [B.mxl]; exact hs) (Steps.refl _) (a := a) (argsL := argsL) (rest := st) (lenOf pd hlen) hst (by show 2 * 0 + _ ≤ _; omega) (hb B.byt dd)
    (fun _ _ => ⟨rfl, e, by rw [B.room]; exact hc, by rw [B.room]; exact hn⟩)
  dsimp only [Pt.U, Pt.locs, Pt.cells, Pt.slots] at X' l2 y2 z2 sp hQ
  subst l2 y2 z2
  obtain ⟨t, o, h1, h2⟩ := g vv T'.heap hQ.1 T' _ X' (Fr.app N (B.hn.symm ▸ hQ.2)) rfl
  exact ⟨t, o, sp.trans h1, h2⟩
theorem go_virtual (B : OkK km κ l Z a0 n0 R own nm bytes maxL ret) {C0 : String} (hd : Dc bytes pc (.invokevirtual idx) 3 pc') (w1 : (Jvm.Cond.methodLink own idx y').before a0 Z = true) (w2 : (Jvm.Cond.declares y').before a0 Z = true) (w5 : (Jvm.Cond.selects C0 y' y').before a0 Z = true) (w6 : (Jvm.Cond.instanceMethod y').before a0 Z = true) (w3 : (Jvm.Cond.initialized y'.cls).before a0 Z = true) (w4 : (Jvm.Cond.code y' bytes' maxL' ret').before a0 Z = true)
    (hy : y'.cls ≠ "java/lang/invoke/MethodHandle" ∧ y'.cls ≠ "java/lang/invoke/VarHandle") (E : Exa Z h a C0) (C : Ct l Z n0 y' bytes' maxL' ret' [] rm (.ref a :: argsL).toArray h Q') (pd : parseMethodDescriptor y'.desc = some ⟨ps, rt⟩) (hlen : argsL.length = ps.length) (hst : st' = argsL.reverse ++ .ref a :: st) (hs : L.size = maxL)
    (hW : (st.map fun v => v.category).sum = W) (hf : rm.frames + 1 ≤ R.frames) (hl : W + (maxL' + 11) + rm.locals ≤ R.locals) (hc : k + rm.cells ≤ R.cells) (hn : n + rm.slots ≤ R.slots)
    (g : ∀ v h', Q' v h' → Go κ Q h' (k + rm.cells) (n + rm.slots) pc' L (v.toList ++ st)) : Go κ Q h k n pc L st' := fun T locs X N e => by
  obtain ⟨dd, rfl⟩ := hd
  have C' : Ct κ.l Z n0 y' bytes' maxL' ret' [] rm (.ref a :: argsL).toArray h Q' := B.hl.symm ▸ C
  obtain ⟨cq, kq, qa, qb, qc⟩ := isOf B.warm e E
  obtain ⟨vv, _, ⟨T', L2, k2, n2⟩, -, X', ⟨Lc, hQ, l2, y2, z2⟩, sp⟩ := X.virtualBack B.exec (y := y') (z := y') B.hown (mvT B.warm w1) (mvT B.warm w2) (notFace_of_selects (args := #[]) (mvT B.warm w5)) (mvT B.warm w5) (mvT B.warm w6) hy
    (backOf (Q := fun v h L => Q' v h ∧ Fr n0 L) (W := W) C' B.warm w4 w3 (by rw [B.room]; exact hf) (by rw [B.room]; exact hl)) qa qc (g := mkF κ.m pc L st') rfl (by rw [B.mxl]; exact hs) (Steps.refl _) (argsL := argsL) (rest := st) (lenOf pd hlen) hst (by show 2 * 0 + _ ≤ _; omega) (hb B.byt dd)
    (fun _ _ => ⟨rfl, e, by rw [B.room]; exact hc, by rw [B.room]; exact hn⟩)
  dsimp only [Pt.U, Pt.locs, Pt.cells, Pt.slots] at X' l2 y2 z2 sp hQ
  subst l2 y2 z2
  obtain ⟨t, o, h1, h2⟩ := g vv T'.heap hQ.1 T' _ X' (Fr.app N (B.hn.symm ▸ hQ.2)) rfl
  exact ⟨t, o, sp.trans h1, h2⟩
end Call
theorem go_end (B : OkK km κ l Z a0 n0 R own nm bytes maxL ret) {vv : Option Value} (hk : k ≤ R.cells) (hn : n ≤ R.slots) (hq : Q vv h) (hv : ret = none → vv = none) (hkm : km ≤ h.size)
    (hs : ∀ (T : State) (locs : List Loc) (fs : List Frame), Stand κ.p κ.l κ.e κ.R κ.s κ.m κ.args κ.below κ.meth κ.c T locs k n → (∀ (f : JFrame) (acts : List Action), f.method = κ.m → f.locked = none → f.entered = [] → (doReturn κ.e (T.setTop f) acts vv).1 = T.setFrames fs) → Steps κ.p.tables κ.e κ.below (T.setTop (mkF κ.m pc L st)) (T.setFrames fs)) : Go κ Q h k n pc L st := fun T locs X N e => by
  obtain ⟨fs, hr, hrun, hended, hW, hsame⟩ := X.leave (v := vv) (fun q => hv (B.rets.symm.trans q)) B.nolock
  exact ⟨_, _, hs T locs fs X hr, hrun, hended, _, _, rfl, ⟨by show Q vv T.heap; rw [e]; exact hq, N⟩, B.hE _ _ _ ⟨⟨_, rfl⟩, hW, hsame.mono (by rw [B.room]; exact hk) (by rw [B.room]; exact hn)⟩ (by show κ.kmin ≤ T.heap.size; rw [e, B.hkm]; exact hkm)⟩
theorem go_ireturn (B : OkK km κ l Z a0 n0 R own nm bytes maxL (some .int)) (hd : Dc bytes pc .ireturn 1 pc') (hk : k ≤ R.cells) (hn : n ≤ R.slots) (hq : Q (some (.int x)) h) (hkm : km ≤ h.size := by first | exact Nat.zero_le _ | assumption) : Go κ Q h k n pc L (.int x :: st) :=
  go_end B hk hn hq (fun q => by cases q) hkm (fun T locs fs X hr => retOut X B.exec (t := .int) (i := .ireturn) B.rets rfl (Or.inl ⟨rfl, Or.inl rfl, x, rfl⟩) (hb B.byt hd.1) hr)
theorem go_zreturn (B : OkK km κ l Z a0 n0 R own nm bytes maxL (some .boolean)) (hd : Dc bytes pc .ireturn 1 pc') (hk : k ≤ R.cells) (hn : n ≤ R.slots) (hz : x &&& 1 = y) (hq : Q (some (.int y)) h) (hkm : km ≤ h.size := by first | exact Nat.zero_le _ | assumption) : Go κ Q h k n pc L (.int x :: st) := by
  subst hz
  exact go_end B hk hn hq (fun q => by cases q) hkm (fun T locs fs X hr => retN X B.exec (t := .boolean) B.rets (by simp) (hb B.byt hd.1) hr)
theorem go_breturn (B : OkK km κ l Z a0 n0 R own nm bytes maxL (some .byte)) (hd : Dc bytes pc .ireturn 1 pc') (hk : k ≤ R.cells) (hn : n ≤ R.slots) (hz : x.toInt8.toInt32 = y) (hq : Q (some (.int y)) h) (hkm : km ≤ h.size := by first | exact Nat.zero_le _ | assumption) : Go κ Q h k n pc L (.int x :: st) := by
  subst hz
  exact go_end B hk hn hq (fun q => by cases q) hkm (fun T locs fs X hr => retN X B.exec (t := .byte) B.rets (by simp) (hb B.byt hd.1) hr)
theorem go_lreturn (B : OkK km κ l Z a0 n0 R own nm bytes maxL (some .long)) (hd : Dc bytes pc .lreturn 1 pc') (hk : k ≤ R.cells) (hn : n ≤ R.slots) (hq : Q (some (.long u)) h) (hkm : km ≤ h.size := by first | exact Nat.zero_le _ | assumption) : Go κ Q h k n pc L (.long u :: st) :=
  go_end B hk hn hq (fun q => by cases q) hkm (fun T locs fs X hr => retOut X B.exec (t := .long) (i := .lreturn) B.rets rfl (Or.inr (Or.inl ⟨rfl, rfl, u, rfl⟩)) (hb B.byt hd.1) hr)
theorem go_areturn {ty : FieldType} (B : OkK km κ l Z a0 n0 R own nm bytes maxL (some ty)) (hd : Dc bytes pc .areturn 1 pc') (hty : ty.isReference = true) (hnr : narrow ty v = v) (hv : v.isRef = true) (hk : k ≤ R.cells) (hn : n ≤ R.slots) (hq : Q (some v) h) (hkm : km ≤ h.size := by first | exact Nat.zero_le _ | assumption) : Go κ Q h k n pc L (v :: st) :=
  go_end B hk hn hq (fun q => by cases q) hkm (fun T locs fs X hr => retOut X B.exec (t := ty) (i := .areturn) B.rets hnr (Or.inr (Or.inr (Or.inr (Or.inr ⟨rfl, hty, hv⟩)))) (hb B.byt hd.1) hr)
theorem go_return (B : OkK km κ l Z a0 n0 R own nm bytes maxL none) (hd : Dc bytes pc .return_ 1 pc') (hk : k ≤ R.cells) (hn : n ≤ R.slots) (hq : Q none h) (hkm : km ≤ h.size := by first | exact Nat.zero_le _ | assumption) : Go κ Q h k n pc L [] :=
  go_end B hk hn hq (fun _ => rfl) hkm (fun T locs fs X hr => X.returnOut B.exec B.rets (hb B.byt hd.1) hr)
end G
end Jvm.OwnGo
namespace Jvm.OwnGo
open Sem ClassFile Op Lib Jvm.Stand Jvm.Free Jvm.LawKit Jvm.RoadKit
theorem i_lt {x y : Int32} {i j : Int} (hx : x.toInt = i) (hy : y.toInt = j) (h : i < j) : x < y := Int32.lt_iff_toInt_lt.mpr (by omega)
theorem i_nlt {x y : Int32} {i j : Int} (hx : x.toInt = i) (hy : y.toInt = j) (h : j ≤ i) : ¬ x < y := fun q => by have := Int32.lt_iff_toInt_lt.mp q; omega
theorem i_of_lt {x y : Int32} {i j : Int} (hx : x.toInt = i) (hy : y.toInt = j) (h : x < y) : i < j := by have := Int32.lt_iff_toInt_lt.mp h; omega
theorem i_of_nlt {x y : Int32} {i j : Int} (hx : x.toInt = i) (hy : y.toInt = j) (h : ¬ x < y) : j ≤ i := by
  have := Int32.le_iff_toInt_le.mp (Int32.not_lt.mp h)
  omega
theorem i_eq {x y : Int32} {i : Int} (hx : x.toInt = i) (hy : y.toInt = i) : x = y := Int32.toInt_inj.mp (hx.trans hy.symm)
theorem i_ne {x y : Int32} {i j : Int} (hx : x.toInt = i) (hy : y.toInt = j) (h : i ≠ j) : ¬ x = y := fun q => h (by rw [← hx, ← hy, q])
theorem i_of_ne {x y : Int32} {i j : Int} (hx : x.toInt = i) (hy : y.toInt = j) (h : ¬ x = y) : i ≠ j := fun q => h (i_eq hx (hy.trans q.symm))
theorem i_add {x y : Int32} {i j : Int} (hx : x.toInt = i) (hy : y.toInt = j) (h1 : -2147483648 ≤ i + j) (h2 : i + j < 2147483648) : (x + y).toInt = i + j := by
  rw [Int32.toInt_add, hx, hy]; exact Int.bmod_eq_of_le (by omega) (by omega)
theorem i_sub {x y : Int32} {i j : Int} (hx : x.toInt = i) (hy : y.toInt = j) (h1 : -2147483648 ≤ i - j) (h2 : i - j < 2147483648) : (x - y).toInt = i - j := by
  rw [Int32.toInt_sub, hx, hy]; exact Int.bmod_eq_of_le (by omega) (by omega)
theorem i_mul {x y : Int32} {i j : Int} (hx : x.toInt = i) (hy : y.toInt = j) (h1 : -2147483648 ≤ i * j) (h2 : i * j < 2147483648) : (x * y).toInt = i * j := by
  rw [Int32.toInt_mul, hx, hy]; exact Int.bmod_eq_of_le (by omega) (by omega)
/-- x & m for a mask m that isn't negative -/
theorem i_and (x m : Int32) (hm : 0 ≤ m.toInt) : 0 ≤ (x &&& m).toInt ∧ (x &&& m).toInt ≤ m.toInt := by
  have h1 : ¬ (x &&& m) < 0 := by
    rw [XT.and_neg32]
    exact fun q => by have := (XT.negI32 _).mp q.2; omega
  have h2 : 0 ≤ (x &&& m).toInt := by
    have := mt (XT.negI32 _).mpr h1
    omega
  refine ⟨h2, ?_⟩
  have e1 : (x &&& m).toInt = ((x &&& m).toBitVec.toNat : Int) := by
    show (x &&& m).toBitVec.toInt = _
    rw [BitVec.toInt_eq_toNat_cond]
    split
    · rfl
    · rename_i q
      have h3 : (x &&& m).toBitVec.toInt = _ := BitVec.toInt_eq_toNat_cond _
      rw [if_neg q] at h3
      have h4 : 0 ≤ (x &&& m).toBitVec.toInt := h2
      have := (x &&& m).toBitVec.isLt
      omega
  have e2 : m.toInt = (m.toBitVec.toNat : Int) := by
    show m.toBitVec.toInt = _
    rw [BitVec.toInt_eq_toNat_cond]
    split
    · rfl
    · rename_i q
      have h3 : m.toBitVec.toInt = _ := BitVec.toInt_eq_toNat_cond _
      rw [if_neg q] at h3
      have h4 : 0 ≤ m.toBitVec.toInt := hm
      have := m.toBitVec.isLt
      omega
  rw [e1, e2, Int32.toBitVec_and, BitVec.toNat_and]
  exact Int.ofNat_le.mpr Nat.and_le_right
theorem i_mod {x y : Int32} {i j : Int} (hx : x.toInt = i) (hy : y.toInt = j) (hi : 0 ≤ i) (hj : 0 < j) : (x % y).toInt = i % j := by
  rw [Int32.toInt_mod, hx, hy, Int.tmod_eq_emod_of_nonneg hi]
theorem i_nat {x : Int32} (h : 0 ≤ x.toInt) : ∃ n : Nat, x.toInt = (n : Int) ∧ n < 2147483648 := ⟨x.toInt.toNat, by omega, by have := x.toInt_lt; omega⟩
theorem i_ofNat {n : Nat} (h : n < 2147483648) : (Int32.ofNat n).toInt = (n : Int) := Int32.toInt_ofNat_of_lt h
end Jvm.OwnGo
namespace Jvm.OwnGo
open Sem ClassFile Op Lib Jvm.Stand Jvm.Free Jvm.LawKit Jvm.RoadKit
section G
variable {km : Nat} {κ : Cx} {l : Launch} {Z : State} {a0 : Array Value} {n0 : Nat} {R : Room} {own nm : String} {bytes : ByteArray} {maxL : Nat} {ret : Option FieldType} {Q : Option Value → Heap → Prop} {h : Heap} {k n pc pc' pc1 pc2 : Nat} {L L' : Array Slot} {st st' : List Value} {o : Int} {x y : Int32} {u w : Int64} {a b : Addr} {v v' : Value}
theorem fitC_of {c : Cell} {ty : FieldType} (A : Arr Z h a c ty) (hv : ∀ v ∈ c.slots.toList, fits ty v = true) : FitC Z c := fun i v q => by
  obtain ⟨-, kk, hk, comp, hkind⟩ := A.2.1
  have m : v ∈ c.slots.toList := by
    obtain ⟨hi, rfl⟩ := Array.getElem?_eq_some_iff.mp q
    exact Array.mem_toList_iff.mpr (Array.getElem_mem hi)
  simp [State.fitsSlot, State.slotType?, hk, hkind, hv v m]
/-- array.clone() -/
theorem go_clone (B : OkK km κ l Z a0 n0 R own nm bytes maxL ret) {ad : String} {idx W cap : Nat} {ty : FieldType} {vs : List Value} (hd : Dc bytes pc (.invokevirtual idx) 3 pc')
    (w1 : (Jvm.Cond.methodLink own idx ⟨ad, "clone", "()Ljava/lang/Object;"⟩).before a0 Z = true) (w2 : (Jvm.Cond.sameMethod ad "java/lang/Object" "clone" "()Ljava/lang/Object;").before a0 Z = true) (w3 : (Jvm.Cond.native ⟨"java/lang/Object", "clone", "()Ljava/lang/Object;"⟩).before a0 Z = true)
    (w4 : (Jvm.Cond.instanceMethod ⟨"java/lang/Object", "clone", "()Ljava/lang/Object;"⟩).before a0 Z = true) (w5 : (Jvm.Cond.selects ad ⟨ad, "clone", "()Ljava/lang/Object;"⟩ ⟨"java/lang/Object", "clone", "()Ljava/lang/Object;"⟩).before a0 Z = true) (w6 : (Jvm.Cond.castable ad "java/lang/Cloneable").before a0 Z = true)
    (A : AV Z h a ty vs) (E : Exa Z h a ad) (hv : ∀ v ∈ vs, fits ty v = true) (hs : L.size = maxL) (hW : (st.map fun v => v.category).sum = W) (hf : 1 ≤ R.frames) (hl : W + 14 ≤ R.locals) (hcap : vs.length ≤ cap) (hc : k + 1 ≤ R.cells) (hsl : n + cap ≤ R.slots)
    (g : ∀ h' b, b = h.size → Ext h h' → AV Z h' b ty vs → Exa Z h' b ad → Go κ Q h' (k + 1) (n + cap) pc' L (.ref b :: st)) : Go κ Q h k n pc L (.ref a :: st) := fun T locs X N e => by
  obtain ⟨dd, rfl⟩ := hd
  obtain ⟨c, A, r, s⟩ := A
  obtain ⟨T', h', X', e', E', A', C', sp⟩ := cloneA X B.exec B.warm B.hown w1 w2 w3 w4 w5 w6 e A E (fitC_of A (by rw [r]; simpa using hv)) (g := mkF κ.m pc L (.ref a :: st)) rfl (by rw [B.mxl]; exact hs) rfl (hb B.byt dd) (by rw [B.room]; exact hf) (W := W) (cap := cap) (by show 2 * 0 + _ ≤ _; omega) (by rw [B.room]; exact hl) (by rw [r]; simpa using hcap) (by rw [B.room]; exact hc) (by rw [B.room]; exact hsl)
  obtain ⟨t, o, h1, h2⟩ := g h' _ rfl E' ⟨_, A', r, s⟩ C' T' locs X' N e'
  exact ⟨t, o, sp _ h1, h2⟩
theorem go_checkcast (B : OkK km κ l Z a0 n0 R own nm bytes maxL ret) {K : String} {idx : Nat} (hd : Dc bytes pc (.checkcast idx) 3 pc') (wl : (Jvm.Cond.classLink own idx K).before a0 Z = true) (F : Ins Z h a K true) (g : Go κ Q h k n pc' L (.ref a :: st)) : Go κ Q h k n pc L (.ref a :: st) := fun T locs X N e => by
  obtain ⟨dd, rfl⟩ := hd
  obtain ⟨T', X', e', sp⟩ := castY X B.exec B.warm B.hown wl e F (g := mkF κ.m pc L (.ref a :: st)) rfl rfl (hb B.byt dd)
  obtain ⟨t, o, h1, h2⟩ := g T' locs X' N e'
  exact ⟨t, o, sp _ h1, h2⟩
theorem AV.arv {ty : FieldType} {vs : List Value} {d : Value} (A : AV Z h a ty vs) (hv : ∀ v ∈ vs, fits ty v = true) : ∃ kk, Arv Z h a kk ty (Int32.ofNat vs.length) vs d := by
  obtain ⟨c, A, r, s⟩ := A
  have e1 : (Int32.ofNat vs.length).toInt = (vs.length : Int) := Int32.toInt_ofNat_of_lt s
  obtain ⟨q1, q2⟩ := nat_idx e1
  refine ⟨_, c, A, rfl, by rw [r, q2]; simp, q1, fun i hi => ?_, fun i hi => ?_⟩
  · rw [r] at hi ⊢
    have hi' : i < vs.length := by simpa using hi
    simp [List.getD, hi']
  · rw [r] at hi
    have hi' : i < vs.length := by simpa using hi
    have e : vs.getD i d = vs[i] := by simp [List.getD, hi']
    rw [e]
    exact hv _ (List.getElem_mem hi')
theorem AV.of_arv {ty : FieldType} {vs : List Value} {d : Value} {kk : ClassId} {z : Int32} (F : Arv Z h a kk ty z vs d) (e : vs.length = z.toNatClampNeg) : AV Z h a ty vs := by
  obtain ⟨c, A, -, S, N, H, -⟩ := F
  refine ⟨c, A, ?_, by rw [e]; exact (back32 N).2⟩
  apply Array.ext_getElem?
  intro i
  rcases Nat.lt_or_ge i vs.length with q | q
  · rw [H i (by omega)]; simp [List.getD, q]
  · rw [Array.getElem?_eq_none (by omega)]; simp [q]
/-- System.arraycopy between two arrays of one primitive kind: from place sp on, dc places, to place dp on -/
theorem go_arraycopy (B : OkK km κ l Z a0 n0 R own nm bytes maxL ret) {idx W si di ni : Nat} {ty : FieldType} {vs ws : List Value} {sp dp cn : Int32} (hd : Dc bytes pc (.invokestatic idx) 3 pc')
    (w1 : (Jvm.Cond.methodLink own idx Jvm.Stand.acN).before a0 Z = true) (w2 : (Jvm.Cond.native Jvm.Stand.acN).before a0 Z = true) (w3 : (Jvm.Cond.static Jvm.Stand.acN).before a0 Z = true) (w4 : (Jvm.Cond.initialized "java/lang/System").before a0 Z = true)
    (A : AV Z h a ty vs) (A2 : AV Z h b ty ws) (hp : refKind ty = false) (hv : ∀ v ∈ vs, fits ty v = true) (hw : ∀ v ∈ ws, fits ty v = true) (hsp : sp.toInt = (si : Int)) (hdp : dp.toInt = (di : Int)) (hcn : cn.toInt = (ni : Int)) (h4 : si + ni ≤ vs.length) (h5 : di + ni ≤ ws.length) (ge : n0 ≤ b)
    (hs : L.size = maxL) (hW : (st.map fun v => v.category).sum = W) (hf : 1 ≤ R.frames) (hl : W + 18 ≤ R.locals)
    (g : ∀ h', Keep h h' [b] → AV Z h' b ty (ws.take di ++ (vs.drop si).take ni ++ ws.drop (di + ni)) → Go κ Q h' k n pc' L st) : Go κ Q h k n pc L (.int cn :: .int dp :: .ref b :: .int sp :: .ref a :: st) := fun T locs X N e => by
  obtain ⟨dd, rfl⟩ := hd
  obtain ⟨k1, F1⟩ := A.arv (d := .null) hv
  obtain ⟨k2, F2⟩ := A2.arv (d := .null) hw
  obtain ⟨p1, p2⟩ := nat_idx hsp
  obtain ⟨d1, d2⟩ := nat_idx hdp
  obtain ⟨m1, m2⟩ := nat_idx hcn
  have eA : (Int32.ofNat vs.length).toNatClampNeg = vs.length := (nat_idx (Int32.toInt_ofNat_of_lt A.len)).2
  have eB : (Int32.ofNat ws.length).toNatClampNeg = ws.length := (nat_idx (Int32.toInt_ofNat_of_lt A2.len)).2
  have hus : (vs.drop si).take ni = (List.range cn.toNatClampNeg).map fun i => vs.getD (sp.toNatClampNeg + i) .null := by
    rw [m2, p2]
    apply List.ext_getElem?
    intro i
    rcases Nat.lt_or_ge i ni with q | q
    · rw [List.getElem?_take_of_lt q, List.getElem?_drop]
      simp only [List.getElem?_map, List.getElem?_range q, Option.map_some, List.getD]
      rw [List.getElem?_eq_getElem (by omega)]; rfl
    · rw [List.getElem?_eq_none (by simp; omega), List.getElem?_eq_none (by simp; omega)]
  obtain ⟨T', h', L2, X', e', N', K, F3, sp'⟩ := cpA X B.exec B.warm B.hown w1 w2 w3 w4 e F1 F2 (Or.inl ⟨rfl, hp⟩) p1 d1 m1 (by rw [p2, m2, eA]; exact h4) (by rw [d2, m2, eB]; exact h5) hus (by rw [d2, m2]; exact h5) N (B.hn ▸ ge) (g := mkF κ.m pc L (.int cn :: .int dp :: .ref b :: .int sp :: .ref a :: st)) rfl (by rw [B.mxl]; exact hs) rfl (hb B.byt dd) (by rw [B.room]; exact hf) (W := W) (by show 2 * 0 + _ ≤ _; omega) (by rw [B.room]; exact hl)
  rw [d2, m2] at F3
  have F4 := AV.of_arv F3 (by rw [eB]; simp; omega)
  obtain ⟨t, o, h1, h2⟩ := g h' K F4 T' _ X' N' e'
  exact ⟨t, o, sp' _ h1, h2⟩
end G
end Jvm.OwnGo
namespace Jvm.OwnGo
open Sem ClassFile Op Lib Jvm.Stand Jvm.Free Jvm.LawKit Jvm.RoadKit
theorem go_instanceof {km : Nat} {κ : Cx} {l : Launch} {Z : State} {a0 : Array Value} {n0 : Nat} {R : Room} {own nm : String} {bytes : ByteArray} {maxL : Nat} {ret : Option FieldType} {Q : Option Value → Heap → Prop} {h : Heap} {k n pc pc' : Nat} {L : Array Slot} {st : List Value} {a : Addr} (B : OkK km κ l Z a0 n0 R own nm bytes maxL ret) {K : String} {idx : Nat} (hd : Dc bytes pc (.instanceof idx) 3 pc') (wl : (Jvm.Cond.classLink own idx K).before a0 Z = true) (F : Ins Z h a K true) (g : Go κ Q h k n pc' L (.int 1 :: st)) : Go κ Q h k n pc L (.ref a :: st) := fun T locs X N e => by
  obtain ⟨dd, rfl⟩ := hd
  obtain ⟨T', X', e', sp⟩ := instY X B.exec B.warm B.hown wl e F (g := mkF κ.m pc L (.ref a :: st)) rfl rfl (hb B.byt dd)
  obtain ⟨t, o, h1, h2⟩ := g T' locs X' N e'
  exact ⟨t, o, sp _ h1, h2⟩
end Jvm.OwnGo
namespace Jvm.OwnGo
open Sem ClassFile Op Lib Jvm.Stand Jvm.Free Jvm.LawKit Jvm.RoadKit
/-- a cell that is no class's statics -/
def Nst (h : Heap) (x : Addr) : Prop := ∃ c : Cell, h[x]? = some c ∧ c.vm.isStatics = false
theorem nst_exa {Z : State} {h : Heap} {a : Addr} {C : String} (E : Exa Z h a C) : Nst h a := by obtain ⟨c, k, h1, -, -, h4, -⟩ := E; exact ⟨c, h1, h4⟩
theorem sta_keep {Z : State} {h h' : Heap} {C n d : String} {v : Value} {ws : List Addr} (F : Sta Z h C n d v) (K : Keep h h' ws) (q : ∀ x ∈ ws, Nst h x) : Sta Z h' C n d v := by
  obtain ⟨cf, i, k, f, st, cell, h1, h2, h3, h4, h5, h6, h7⟩ := F
  refine ⟨cf, i, k, f, st, cell, h1, h2, h3, h4, K.2.1 st cell h5 fun m => ?_, h6, h7⟩
  obtain ⟨c, e1, e2⟩ := q st m
  cases h5.symm.trans e1
  rw [h6] at e2
  cases e2
end Jvm.OwnGo
namespace Jvm.OwnGo
open Sem ClassFile Op Lib Jvm.Stand Jvm.Free Jvm.LawKit Jvm.RoadKit
section W
variable {km : Nat} {κ : Cx} {l : Launch} {Z : State} {a0 : Array Value} {n0 : Nat} {R : Room} {own nm : String} {bytes : ByteArray} {maxL : Nat} {ret : Option FieldType} {Q : Option Value → Heap → Prop} {h : Heap} {k n pc pc' pc1 pc2 : Nat} {L L' : Array Slot} {st st' : List Value} {o : Int} {x y : Int32} {u w : Int64} {a : Addr} {v v' : Value}
/-- a walk that may have interned: the start with other tables, what was interned since, the wide end -/
def WK (κ : Cx) : Prop := κ.s = κ.s0.setVm κ.s.vm ∧ κ.s0.Since κ.s.vm κ.kmin ∧ κ.E = fun o t L => ReturnedEndW κ.s0 o t L κ.R.cells κ.R.slots
/-- the context over other tables -/
abbrev Cx.re (κ : Cx) (vm : Vm) (k1 : Nat) : Cx := (κ.p, κ.l, κ.e, κ.R, κ.s0.setVm vm, κ.m, κ.args, κ.below, κ.meth, κ.c, κ.Z, κ.a0, κ.n0, κ.E, k1, κ.s0)
theorem WK.re (W : WK κ) {vm : Vm} {k1 : Nat} (hS : κ.s0.Since vm k1) : WK (κ.re vm k1) := ⟨rfl, hS, W.2.2⟩
theorem WK.base (W : WK κ) (vm : Vm) : κ.s.setVm vm = κ.s0.setVm vm := by rw [W.1]; rfl
theorem OkK.re (B : OkK km κ l Z a0 n0 R own nm bytes maxL ret) (W : WK κ) {vm : Vm} {k1 : Nat} (hS : κ.s0.Since vm k1) (hZ : Z.Warmed39 vm) (ho : vm.findClass own = some κ.m.cls) : OkK k1 (κ.re vm k1) l Z a0 n0 R own nm bytes maxL ret := by
  obtain ⟨b1, b2, b3, b4, b5, b6, b7, b8, b9, b10, b11, b12, b13, b14, b15⟩ := B
  refine ⟨b1, b2, b3, ?_, ho, b6, b7, b8, b9, b10, b11, b12, b13, rfl, ?_⟩
  · show κ.Z.Warmed39 vm
    rw [b10]; exact hZ
  · intro o t L hF hk
    show κ.E o t L
    rw [W.2.2]
    obtain ⟨⟨v, rfl⟩, hW, hs⟩ := hF
    obtain ⟨p, q, r⟩ := hS.ended (U := t) hW hk hs
    exact ⟨⟨v, rfl⟩, p, q, r⟩
/-- a body's contract, wide -/
def CtW (l : Launch) (Z : State) (n0 : Nat) (y : MethodName) (bytes : ByteArray) (maxL : Nat) (ret : Option FieldType) (ws : List Jvm.Cond) (rm : Room) (as' : Array Value) (h0 : Heap) (Q : Option Value → Heap → Prop) : Prop :=
  MetFree l y (head1 (Jvm.Cond.code y bytes maxL ret :: ws) rm) (fun a U => a = as' ∧ Z.Warmed39 U.vm ∧ U.heap = h0) (fun _ _ _ _ _ => True) (fun _ U o U' => ∃ v L, o = .returned v ∧ (Q v U'.heap ∧ Fr n0 L) ∧ ReturnedEndW U o U' L rm.cells rm.slots)
theorem CtW.of {y : MethodName} {ws : List Jvm.Cond} {rm : Room} {as' : Array Value} {h0 : Heap} {L0 : Array Slot}
    (hp : plainFor y = true) (hf : ∀ m : MethodId, entryFrame m as' maxL = mkF m 0 L0 [])
    (body : ∀ κ : Cx, WK κ → Ok κ l Z a0 n0 rm y.cls y.name bytes maxL ret → Go κ Q h0 0 0 0 L0 []) : CtW l Z n0 y bytes maxL ret ws rm as' h0 Q := by
  refine MetFree.of_bodySF hp hisR ?_
  intro p e s m args below meth c s₁ Bd hml0 hP hK
  obtain ⟨rfl, hZ, hh⟩ := hP
  have hown : s.vm.findClass y.cls = some m.cls := findClass_of_methodNamed Bd.named
  have hnm := (name_of_methodNamed Bd.named Bd.method).1
  have X0 : Stand p l e rm s m args below meth c s₁ [] 0 0 := Stand.of_body Bd
  have e0 : s₁.heap = h0 := by rw [← hh, Bd.state]; rfl
  have q := body (p, l, e, rm, s, m, args, below, meth, c, Z, a0, n0, fun o t L => ReturnedEndW s o t L rm.cells rm.slots, 0, s) ⟨rfl, (State.WarmedH.refl s).since 0, rfl⟩ ⟨Bd.exec, Bd.bytes, hml0, hZ, hown, Bd.returns, Bd.notSynchronized, hnm, rfl, rfl, rfl, rfl, rfl, rfl, fun _ _ _ q _ => ReturnedEndW.of_narrow q.1 q.2.1 q.2.2⟩ s₁ [] X0 (Fr.nil n0) e0
  obtain ⟨t, o, h1, h2, h3, h4⟩ := q
  exact ⟨t, o, castTop (hf m) h1, h2, h3, h4⟩
/-- ldc of a string constant -/
theorem go_ldcS (B : OkK km κ l Z a0 n0 R own nm bytes maxL ret) (W : WK κ) {idx nn : Nat} {text : String} (hd : Dc bytes pc (.ldc idx) 2 pc') (wl : (Jvm.Cond.stringLink own idx text).before a0 Z = true) (wS : ∀ a ∈ Bundle.stringAtoms, a.before a0 Z = true) (hkm : km ≤ h.size)
    (hn : 4 * text.toList.length ≤ nn) (hbig : nn ≤ 536870912) (hc : k + 2 ≤ R.cells) (hl : n + (nn + 4) ≤ R.slots)
    (g : ∀ κ' km' h' b, WK κ' → OkK km' κ' l Z a0 n0 R own nm bytes maxL ret → km' ≤ h'.size → Ext h h' → Go κ' Q h' (k + 2) (n + (nn + 4)) pc' L (.ref b :: st)) : Go κ Q h k n pc L st := fun T locs X N e => by
  obtain ⟨dd, rfl⟩ := hd
  have X1 : Stand κ.p κ.l κ.e κ.R (κ.s0.setVm κ.s.vm) κ.m κ.args κ.below κ.meth κ.c T locs k n := by rw [← W.1]; exact X
  obtain ⟨b, T', h', k1, X', e', E, hS, hk1, hZ, ho, sp⟩ := ldcS X1 B.exec B.warm B.hown wl wS e W.2.1 (by rw [B.hkm]; exact hkm) (g := mkF κ.m pc L st) rfl (hb B.byt dd) hn hbig (by rw [B.room]; exact hc) (by rw [B.room]; exact hl)
  obtain ⟨t, o, h1, h2⟩ := g (κ.re T'.vm k1) k1 h' b (W.re hS) (B.re W hS hZ ho) hk1 E T' locs X' N e'
  exact ⟨t, o, sp _ h1, h2⟩
section Call
variable {y' : MethodName} {idx W' : Nat} {bytes' : ByteArray} {maxL' : Nat} {ret' : Option FieldType} {rm : Room} {as' : Array Value} {argsL : List Value} {Q' : Option Value → Heap → Prop} {ps : List FieldType} {rt : Option FieldType}
/-- behind a wide callee -/
theorem back_wide (B : OkK km κ l Z a0 n0 R own nm bytes maxL ret) (W : WK κ) (hkm : km ≤ h.size) {T' : State} (hS : κ.s.Since T'.vm T'.heap.size) (hg : h.size ≤ T'.heap.size) :
    WK (κ.re T'.vm T'.heap.size) ∧ OkK T'.heap.size (κ.re T'.vm T'.heap.size) l Z a0 n0 R own nm bytes maxL ret := by
  have hS0 : (κ.s0.setVm κ.s.vm).Since T'.vm T'.heap.size := by rw [← W.1]; exact hS
  have hS1 := W.2.1.trans hS0 (by rw [B.hkm]; omega)
  exact ⟨W.re hS1, B.re W hS1 (State.Warmed39.trans B.warm hS.1) ((hS.1.alike.findClass _ _).trans B.hown)⟩
theorem go_staticW (B : OkK km κ l Z a0 n0 R own nm bytes maxL ret) (Wk : WK κ) (hkm : km ≤ h.size) (hd : Dc bytes pc (.invokestatic idx) 3 pc') (w1 : (Jvm.Cond.methodLink own idx y').before a0 Z = true) (w2 : (Jvm.Cond.static y').before a0 Z = true) (w3 : (Jvm.Cond.initialized y'.cls).before a0 Z = true) (w4 : (Jvm.Cond.code y' bytes' maxL' ret').before a0 Z = true)
    (hy : y'.cls ≠ "java/lang/invoke/MethodHandle" ∧ y'.cls ≠ "java/lang/invoke/VarHandle") (C : CtW l Z n0 y' bytes' maxL' ret' [] rm argsL.toArray h Q') (pd : parseMethodDescriptor y'.desc = some ⟨ps, rt⟩) (hlen : argsL.length = ps.length) (hst : st' = argsL.reverse ++ st) (hs : L.size = maxL)
    (hW : (st.map fun v => v.category).sum = W') (hf : rm.frames + 1 ≤ R.frames) (hl : W' + (maxL' + 11) + rm.locals ≤ R.locals) (hc : k + rm.cells ≤ R.cells) (hn : n + rm.slots ≤ R.slots)
    (g : ∀ κ' km' v h', WK κ' → OkK km' κ' l Z a0 n0 R own nm bytes maxL ret → km' ≤ h'.size → Q' v h' → Go κ' Q h' (k + rm.cells) (n + rm.slots) pc' L (v.toList ++ st)) : Go κ Q h k n pc L st' := fun T locs X N e => by
  obtain ⟨dd, rfl⟩ := hd
  have C' : CtW κ.l Z n0 y' bytes' maxL' ret' [] rm argsL.toArray h Q' := B.hl.symm ▸ C
  obtain ⟨vv, _, ⟨T', L2, k2, n2⟩, -, X', hS, hg, ⟨Lc, hQ, l2, y2, z2⟩, sp⟩ := callSS X B.exec (y := y') B.hown (mvT B.warm w1) (mvT B.warm w2) (mvT B.warm w3) (mvT B.warm w4) hy
    (backOfS (Q := fun v h L => Q' v h ∧ Fr n0 L) (W := W') C' B.warm w4 w3 (by rw [B.room]; exact hf) (by rw [B.room]; exact hl)) (g := mkF κ.m pc L st') rfl (by rw [B.mxl]; exact hs) (argsL := argsL) (rest := st) (lenOf pd hlen) hst (by show 2 * 0 + _ ≤ _; omega) (hb B.byt dd)
    (fun _ _ => ⟨rfl, e, by rw [B.room]; exact hc, by rw [B.room]; exact hn⟩)
  dsimp only [Pt.U, Pt.locs, Pt.cells, Pt.slots] at X' hS hg l2 y2 z2 sp hQ
  subst l2 y2 z2
  rw [Wk.base] at X'
  obtain ⟨q1, q2⟩ := back_wide B Wk hkm hS (by rw [← e]; exact hg)
  obtain ⟨t, o, h1, h2⟩ := g _ _ vv T'.heap q1 q2 (Nat.le_refl _) hQ.1 T' _ X' (Fr.app N (B.hn.symm ▸ hQ.2)) rfl
  exact ⟨t, o, sp.trans h1, h2⟩
theorem go_specialW (B : OkK km κ l Z a0 n0 R own nm bytes maxL ret) (Wk : WK κ) (hkm : km ≤ h.size) (hd : Dc bytes pc (.invokespecial idx) 3 pc') (hi : y'.name = "<init>") (w1 : (Jvm.Cond.methodLink own idx y').before a0 Z = true) (w2 : (Jvm.Cond.instanceMethod y').before a0 Z = true) (w3 : (Jvm.Cond.initialized y'.cls).before a0 Z = true) (w4 : (Jvm.Cond.code y' bytes' maxL' none).before a0 Z = true)
    (hy : y'.cls ≠ "java/lang/invoke/MethodHandle" ∧ y'.cls ≠ "java/lang/invoke/VarHandle") (C : CtW l Z n0 y' bytes' maxL' none [] rm (.ref a :: argsL).toArray h Q') (pd : parseMethodDescriptor y'.desc = some ⟨ps, rt⟩) (hlen : argsL.length = ps.length) (hst : st' = argsL.reverse ++ .ref a :: st) (hs : L.size = maxL)
    (hW : (st.map fun v => v.category).sum = W') (hf : rm.frames + 1 ≤ R.frames) (hl : W' + (maxL' + 11) + rm.locals ≤ R.locals) (hc : k + rm.cells ≤ R.cells) (hn : n + rm.slots ≤ R.slots)
    (g : ∀ κ' km' v h', WK κ' → OkK km' κ' l Z a0 n0 R own nm bytes maxL ret → km' ≤ h'.size → Q' v h' → Go κ' Q h' (k + rm.cells) (n + rm.slots) pc' L (v.toList ++ st)) : Go κ Q h k n pc L st' := fun T locs X N e => by
  obtain ⟨dd, rfl⟩ := hd
  have C' : CtW κ.l Z n0 y' bytes' maxL' none [] rm (.ref a :: argsL).toArray h Q' := B.hl.symm ▸ C
  obtain ⟨vv, _, ⟨T', L2, k2, n2⟩, -, X', hS, hg, ⟨Lc, hQ, l2, y2, z2⟩, sp⟩ := X.specialBackS B.exec (y := y') hi B.hown (mvT B.warm w1) (mvT B.warm w2) (mvT B.warm w4) hy
    (backOfS (Q := fun v h L => Q' v h ∧ Fr n0 L) (W := W') C' B.warm w4 w3 (by rw [B.room]; exact hf) (by rw [B.room]; exact hl)) (g := mkF κ.m pc L st') rfl (by rw [B.mxl]; exact hs) (Steps.refl _) (a := a) (argsL := argsL) (rest := st) (lenOf pd hlen) hst (by show 2 * 0 + _ ≤ _; omega) (hb B.byt dd)
    (fun _ _ => ⟨rfl, e, by rw [B.room]; exact hc, by rw [B.room]; exact hn⟩)
  dsimp only [Pt.U, Pt.locs, Pt.cells, Pt.slots] at X' hS hg l2 y2 z2 sp hQ
  subst l2 y2 z2
  rw [Wk.base] at X'
  obtain ⟨q1, q2⟩ := back_wide B Wk hkm hS (by rw [← e]; exact hg)
  obtain ⟨t, o, h1, h2⟩ := g _ _ vv T'.heap q1 q2 (Nat.le_refl _) hQ.1 T' _ X' (Fr.app N (B.hn.symm ▸ hQ.2)) rfl
  exact ⟨t, o, sp.trans h1, h2⟩
theorem go_virtualW (B : OkK km κ l Z a0 n0 R own nm bytes maxL ret) (Wk : WK κ) (hkm : km ≤ h.size) {C0 : String} (hd : Dc bytes pc (.invokevirtual idx) 3 pc') (w1 : (Jvm.Cond.methodLink own idx y').before a0 Z = true) (w2 : (Jvm.Cond.declares y').before a0 Z = true) (w5 : (Jvm.Cond.selects C0 y' y').before a0 Z = true) (w6 : (Jvm.Cond.instanceMethod y').before a0 Z = true) (w3 : (Jvm.Cond.initialized y'.cls).before a0 Z = true) (w4 : (Jvm.Cond.code y' bytes' maxL' ret').before a0 Z = true)
    (hy : y'.cls ≠ "java/lang/invoke/MethodHandle" ∧ y'.cls ≠ "java/lang/invoke/VarHandle") (E : Exa Z h a C0) (C : CtW l Z n0 y' bytes' maxL' ret' [] rm (.ref a :: argsL).toArray h Q') (pd : parseMethodDescriptor y'.desc = some ⟨ps, rt⟩) (hlen : argsL.length = ps.length) (hst : st' = argsL.reverse ++ .ref a :: st) (hs : L.size = maxL)
    (hW : (st.map fun v => v.category).sum = W') (hf : rm.frames + 1 ≤ R.frames) (hl : W' + (maxL' + 11) + rm.locals ≤ R.locals) (hc : k + rm.cells ≤ R.cells) (hn : n + rm.slots ≤ R.slots)
    (g : ∀ κ' km' v h', WK κ' → OkK km' κ' l Z a0 n0 R own nm bytes maxL ret → km' ≤ h'.size → Q' v h' → Go κ' Q h' (k + rm.cells) (n + rm.slots) pc' L (v.toList ++ st)) : Go κ Q h k n pc L st' := fun T locs X N e => by
  obtain ⟨dd, rfl⟩ := hd
  have C' : CtW κ.l Z n0 y' bytes' maxL' ret' [] rm (.ref a :: argsL).toArray h Q' := B.hl.symm ▸ C
  obtain ⟨cq, kq, qa, qb, qc⟩ := isOf B.warm e E
  obtain ⟨vv, _, ⟨T', L2, k2, n2⟩, -, X', hS, hg, ⟨Lc, hQ, l2, y2, z2⟩, sp⟩ := X.virtualBackS B.exec (y := y') (z := y') B.hown (mvT B.warm w1) (mvT B.warm w2) (notFace_of_selects (args := #[]) (mvT B.warm w5)) (mvT B.warm w5) (mvT B.warm w6) hy
    (backOfS (Q := fun v h L => Q' v h ∧ Fr n0 L) (W := W') C' B.warm w4 w3 (by rw [B.room]; exact hf) (by rw [B.room]; exact hl)) qa qc (g := mkF κ.m pc L st') rfl (by rw [B.mxl]; exact hs) (Steps.refl _) (argsL := argsL) (rest := st) (lenOf pd hlen) hst (by show 2 * 0 + _ ≤ _; omega) (hb B.byt dd)
    (fun _ _ => ⟨rfl, e, by rw [B.room]; exact hc, by rw [B.room]; exact hn⟩)
  dsimp only [Pt.U, Pt.locs, Pt.cells, Pt.slots] at X' hS hg l2 y2 z2 sp hQ
  subst l2 y2 z2
  rw [Wk.base] at X'
  obtain ⟨q1, q2⟩ := back_wide B Wk hkm hS (by rw [← e]; exact hg)
  obtain ⟨t, o, h1, h2⟩ := g _ _ vv T'.heap q1 q2 (Nat.le_refl _) hQ.1 T' _ X' (Fr.app N (B.hn.symm ▸ hQ.2)) rfl
  exact ⟨t, o, sp.trans h1, h2⟩
/-- invokeinterface, narrow callee, found in a superinterface or not -/
theorem go_interface (B : OkK km κ l Z a0 n0 R own nm bytes maxL ret) {C0 : String} {xi : MethodName} {cnt : Nat} (hd : Dc bytes pc (.invokeinterface idx cnt) 5 pc') (w1 : (Jvm.Cond.methodLink own idx xi).before a0 Z = true) (w2 : (Jvm.Cond.declares xi).before a0 Z = true) (w8 : (Jvm.Cond.interfaceMethod xi.cls xi.cls xi.name xi.desc).before a0 Z = true) (w8m : ((Jvm.Cond.interfaceMethod xi.cls xi.cls xi.name xi.desc).onTables && (Jvm.Cond.interfaceMethod xi.cls xi.cls xi.name xi.desc).keepsFace) = true)
    (w5 : (Jvm.Cond.selects C0 xi y').before a0 Z = true) (w6 : (Jvm.Cond.instanceMethod y').before a0 Z = true) (w9 : (Jvm.Cond.publicMethod y').before a0 Z = true) (w10 : (Jvm.Cond.unhidden C0 xi.name xi.desc).before a0 Z = true) (w11 : (Jvm.Cond.castable C0 xi.cls).before a0 Z = true) (w3 : (Jvm.Cond.initialized y'.cls).before a0 Z = true) (w4 : (Jvm.Cond.code y' bytes' maxL' ret').before a0 Z = true)
    (hy : xi.cls ≠ "java/lang/invoke/MethodHandle" ∧ xi.cls ≠ "java/lang/invoke/VarHandle") (E : Exa Z h a C0) (C : Ct l Z n0 y' bytes' maxL' ret' [] rm (.ref a :: argsL).toArray h Q') (pd : parseMethodDescriptor xi.desc = some ⟨ps, rt⟩) (hlen : argsL.length = ps.length) (hst : st' = argsL.reverse ++ .ref a :: st) (hs : L.size = maxL)
    (hW : (st.map fun v => v.category).sum = W') (hf : rm.frames + 1 ≤ R.frames) (hl : W' + (maxL' + 11) + rm.locals ≤ R.locals) (hc : k + rm.cells ≤ R.cells) (hn : n + rm.slots ≤ R.slots)
    (g : ∀ v h', Q' v h' → Go κ Q h' (k + rm.cells) (n + rm.slots) pc' L (v.toList ++ st)) : Go κ Q h k n pc L st' := fun T locs X N e => by
  obtain ⟨dd, rfl⟩ := hd
  have C' : Ct κ.l Z n0 y' bytes' maxL' ret' [] rm (.ref a :: argsL).toArray h Q' := B.hl.symm ▸ C
  obtain ⟨cq, kq, qa, qb, qc⟩ := isOf B.warm e E
  obtain ⟨vv, _, ⟨T', L2, k2, n2⟩, -, X', ⟨Lc, hQ, l2, y2, z2⟩, sp⟩ := X.interfaceBack B.exec (xi := xi) (y := y') B.hown (mvT B.warm w1) (mvT B.warm w2) (mvT B.warm w8 w8m) (mvT B.warm w5) (mvT B.warm w6) (mvT B.warm w9) (mvT B.warm w10) (mvT B.warm w11) hy
    (backOf (Q := fun v h L => Q' v h ∧ Fr n0 L) (W := W') C' B.warm w4 w3 (by rw [B.room]; exact hf) (by rw [B.room]; exact hl)) qa qb qc (g := mkF κ.m pc L st') rfl (by rw [B.mxl]; exact hs) (Steps.refl _) (argsL := argsL) (rest := st) (lenOf pd hlen) hst (by show 2 * 0 + _ ≤ _; omega) (hb B.byt dd)
    (fun _ _ => ⟨rfl, e, by rw [B.room]; exact hc, by rw [B.room]; exact hn⟩)
  dsimp only [Pt.U, Pt.locs, Pt.cells, Pt.slots] at X' l2 y2 z2 sp hQ
  subst l2 y2 z2
  obtain ⟨t, o, h1, h2⟩ := g vv T'.heap hQ.1 T' _ X' (Fr.app N (B.hn.symm ▸ hQ.2)) rfl
  exact ⟨t, o, sp.trans h1, h2⟩
end Call
end W
end Jvm.OwnGo
namespace Jvm.OwnGo
open Sem ClassFile Op Lib Jvm.Stand Jvm.Free Jvm.LawKit Jvm.RoadKit
section D
variable {km : Nat} {κ : Cx} {l : Launch} {Z : State} {a0 : Array Value} {n0 : Nat} {R : Room} {own nm : String} {bytes : ByteArray} {maxL : Nat} {ret : Option FieldType} {Q : Option Value → Heap → Prop} {h : Heap} {k n pc pc' pc1 pc2 : Nat} {L L' : Array Slot} {st st' : List Value} {o : Int} {x y : Int32} {u w : Int64} {a : Addr} {v v' : Value} {d d' : UInt64}
theorem go_i2d (B : OkK km κ l Z a0 n0 R own nm bytes maxL ret) (hd : Dc bytes pc (.i2d) 1 pc') (g : Go κ Q h k n pc' L (.double (FP.i2d x) :: st)) : Go κ Q h k n pc L (.int x :: st) := by
  obtain ⟨dd, rfl⟩ := hd
  exact go_step (fun T locs X e t q => XS.i2dS X.here B.exec rfl (hb B.byt dd) rfl rfl q) g
theorem go_l2d (B : OkK km κ l Z a0 n0 R own nm bytes maxL ret) (hd : Dc bytes pc (.l2d) 1 pc') (g : Go κ Q h k n pc' L (.double (FP.l2d u) :: st)) : Go κ Q h k n pc L (.long u :: st) := by
  obtain ⟨dd, rfl⟩ := hd
  exact go_step (fun T locs X e t q => XS.l2dS X.here B.exec rfl (hb B.byt dd) rfl rfl q) g
theorem go_dneg (B : OkK km κ l Z a0 n0 R own nm bytes maxL ret) (hd : Dc bytes pc (.dneg) 1 pc') (g : Go κ Q h k n pc' L (.double (FP.dneg d) :: st)) : Go κ Q h k n pc L (.double d :: st) := by
  obtain ⟨dd, rfl⟩ := hd
  exact go_step (fun T locs X e t q => XS.dnegS X.here B.exec rfl (hb B.byt dd) rfl rfl q) g
theorem go_dcmp (B : OkK km κ l Z a0 n0 R own nm bytes maxL ret) {op : CmpOp} (hd : Dc bytes pc (.dcmp op) 1 pc') (hv : cmpValue (FP.dcmp d d') op = x) (g : Go κ Q h k n pc' L (.int x :: st)) : Go κ Q h k n pc L (.double d' :: .double d :: st) := by
  obtain ⟨dd, rfl⟩ := hd
  exact go_step (fun T locs X e t q => XS.dcmpS X.here B.exec rfl (hb B.byt dd) rfl hv q) g
theorem go_dload_n (B : OkK km κ l Z a0 n0 R own nm bytes maxL ret) {j : Fin 4} (hd : Dc bytes pc (.dload_n j) 1 pc') (hl : L[j.val]? = some (.val (.double d))) (g : Go κ Q h k n pc' L (.double d :: st)) : Go κ Q h k n pc L st := by
  obtain ⟨dd, rfl⟩ := hd
  exact go_step (fun T locs X e t q => XT.dloadN X.here B.exec rfl (hb B.byt dd) hl q) g
theorem go_dload (B : OkK km κ l Z a0 n0 R own nm bytes maxL ret) {j : Nat} (hd : Dc bytes pc (.dload j) 2 pc') (hl : L[j]? = some (.val (.double d))) (g : Go κ Q h k n pc' L (.double d :: st)) : Go κ Q h k n pc L st := by
  obtain ⟨dd, rfl⟩ := hd
  exact go_step (fun T locs X e t q => XT.dload X.here B.exec rfl (hb B.byt dd) hl q) g
theorem go_dstore_n (B : OkK km κ l Z a0 n0 R own nm bytes maxL ret) {j : Fin 4} (L' : Array Slot) (hd : Dc bytes pc (.dstore_n j) 1 pc') (hl : storeLocals L j.val (.double d) = some L') (g : Go κ Q h k n pc' L' st) : Go κ Q h k n pc L (.double d :: st) := by
  obtain ⟨dd, rfl⟩ := hd
  exact go_step (fun T locs X e t q => XS.dstoreN X.here B.exec rfl (hb B.byt dd) rfl hl q) g
theorem go_dstore (B : OkK km κ l Z a0 n0 R own nm bytes maxL ret) {j : Nat} (L' : Array Slot) (hd : Dc bytes pc (.dstore j) 2 pc') (hl : storeLocals L j (.double d) = some L') (g : Go κ Q h k n pc' L' st) : Go κ Q h k n pc L (.double d :: st) := by
  obtain ⟨dd, rfl⟩ := hd
  exact go_step (fun T locs X e t q => XS.dstore X.here B.exec rfl (hb B.byt dd) rfl hl q) g
theorem go_dreturn (B : OkK km κ l Z a0 n0 R own nm bytes maxL (some .double)) (hd : Dc bytes pc .dreturn 1 pc') (hk : k ≤ R.cells) (hn : n ≤ R.slots) (hq : Q (some (.double d)) h) (hkm : km ≤ h.size := by first | exact Nat.zero_le _ | assumption) : Go κ Q h k n pc L (.double d :: st) :=
  go_end B hk hn hq (fun q => by cases q) hkm (fun T locs fs X hr => retOut X B.exec (t := .double) (i := .dreturn) B.rets rfl (Or.inr (Or.inr (Or.inl ⟨rfl, rfl, d, rfl⟩))) (hb B.byt hd.1) hr)
theorem go_daload (B : OkK km κ l Z a0 n0 R own nm bytes maxL ret) {vs : List Value} {i : Nat} (hd : Dc bytes pc .daload 1 pc') (A : AV Z h a .double vs) (hi : x.toInt = (i : Int)) (hv : vs[i]? = some v) (g : Go κ Q h k n pc' L (v :: st)) : Go κ Q h k n pc L (.int x :: .ref a :: st) := by
  obtain ⟨dd, rfl⟩ := hd
  obtain ⟨c, A, r, s⟩ := A
  obtain ⟨q1, q2⟩ := nat_idx hi
  have hl : i < vs.length := (List.getElem?_eq_some_iff.mp hv).1
  exact go_step (fun T locs X e t q => X.daload B.exec (j := x) (v := v) (by rw [e]; exact A.1) (State.isArrayOf_alike B.warm.alike A.2.1) A.2.2 (by rw [r, q2]; simp; exact ⟨Int32.not_lt.mp q1, hl⟩) (by rw [r, q2]; simpa using hv) (g := mkF κ.m pc L (.int x :: .ref a :: st)) rfl rfl (hb B.byt dd) _ q) g
theorem go_dastore (B : OkK km κ l Z a0 n0 R own nm bytes maxL ret) {vs : List Value} {i : Nat} (hd : Dc bytes pc .dastore 1 pc') (A : AV Z h a .double vs) (hi : x.toInt = (i : Int)) (hl : i < vs.length) (ha : n0 ≤ a) (g : ∀ h', Wr h h' a i (.double d) → AV Z h' a .double (vs.set i (.double d)) → Go κ Q h' k n pc' L st) : Go κ Q h k n pc L (.double d :: .int x :: .ref a :: st) := fun T locs X N e => by
  obtain ⟨dd, rfl⟩ := hd
  have A0 := A
  obtain ⟨c, A, r, s⟩ := A
  obtain ⟨q1, q2⟩ := nat_idx hi
  have hj : ¬ (x < 0 ∨ c.slots.size ≤ x.toNatClampNeg) := by rw [r, q2]; simp; exact ⟨Int32.not_lt.mp q1, hl⟩
  obtain ⟨X', sp⟩ := X.dastore B.exec (x := d) (by rw [e]; exact A.1) (State.isArrayOf_alike B.warm.alike A.2.1) A.2.2 hj (g := mkF κ.m pc L (.double d :: .int x :: .ref a :: st)) rfl rfl (hb B.byt dd)
  have W0 : Wr h (h.setIfInBounds a (c.setSlot x.toNatClampNeg (.double d))) a x.toNatClampNeg (.double d) := ⟨c, A.1, A.plain, Nat.lt_of_not_le fun q => hj (Or.inr q), rfl⟩
  have W' : Wr h (h.setIfInBounds a (c.setSlot x.toNatClampNeg (.double d))) a i (.double d) := q2 ▸ W0
  obtain ⟨t, o, h1, h2⟩ := g _ W' (A0.same W') _ _ X' (Fr.snoc X' N (B.hn ▸ ha)) (by rw [← e]; rfl)
  exact ⟨t, o, sp _ h1, h2⟩
/-- a field through a nest-mate's entry -/
theorem go_getfieldN (B : OkK km κ l Z a0 n0 R own nm bytes maxL ret) {idx : Nat} {O fn d host : String} (hd : Dc bytes pc (.getfield idx) 3 pc') (wl : (Jvm.Cond.fieldLinkNest own idx O fn d host).before a0 Z = true) (F : Fld Z h a O fn d v) (g : Go κ Q h k n pc' L (v :: st)) : Go κ Q h k n pc L (.ref a :: st) := fun T locs X N e => by
  obtain ⟨dd, rfl⟩ := hd
  obtain ⟨T', X', e', sp⟩ := getF X B.exec B.warm B.hown (host := host) (Or.inr wl) Via.refl e F (g := mkF κ.m pc L (.ref a :: st)) rfl rfl (hb B.byt dd)
  obtain ⟨t, o, h1, h2⟩ := g T' locs X' N e'
  exact ⟨t, o, sp _ h1, h2⟩
theorem go_getstaticN (B : OkK km κ l Z a0 n0 R own nm bytes maxL ret) {idx : Nat} {O fn d host : String} (hd : Dc bytes pc (.getstatic idx) 3 pc') (wl : (Jvm.Cond.fieldLinkNest own idx O fn d host).before a0 Z = true) (F : Sta Z h O fn d v) (g : Go κ Q h k n pc' L (v :: st)) : Go κ Q h k n pc L st := fun T locs X N e => by
  obtain ⟨dd, rfl⟩ := hd
  obtain ⟨T', X', e', sp⟩ := getS2 (host := host) X B.exec B.warm B.hown (Or.inr wl) Via.refl e F (g := mkF κ.m pc L st) rfl (hb B.byt dd)
  obtain ⟨t, o, h1, h2⟩ := g T' locs X' N e'
  exact ⟨t, o, sp _ h1, h2⟩
theorem go_instanceofN (B : OkK km κ l Z a0 n0 R own nm bytes maxL ret) {K : String} {idx : Nat} (hd : Dc bytes pc (.instanceof idx) 3 pc') (wl : (Jvm.Cond.classLink own idx K).before a0 Z = true) {C : String} (E : Exa Z h a C) (F : ∃ c t, Z.vm.findClass C = some c ∧ Z.vm.findClass K = some t ∧ Z.vm.assignable c t = false) (g : Go κ Q h k n pc' L (.int 0 :: st)) : Go κ Q h k n pc L (.ref a :: st) := fun T locs X N e => by
  obtain ⟨dd, rfl⟩ := hd
  obtain ⟨T', X', e', sp⟩ := instNo X B.exec B.warm B.hown wl e E F (g := mkF κ.m pc L (.ref a :: st)) rfl rfl (hb B.byt dd)
  obtain ⟨t, o, h1, h2⟩ := g T' locs X' N e'
  exact ⟨t, o, sp _ h1, h2⟩
theorem ii_eq (x : Int32) (op : CmpOp) : cmpValue (FP.dcmp (FP.i2d x) (FP.i2d x)) op = 0 := by
  rw [show FP.dcmp (FP.i2d x) (FP.i2d x) = some .eq from by
    have q := FP.Core.dcmp_int (FP.Core.i2d_int x) (FP.Core.i2d_int x)
    rw [show compare x.toInt x.toInt = .eq from by simp [compare, compareOfLessAndEq]] at q; exact q]
  cases op <;> rfl
end D
end Jvm.OwnGo
namespace Jvm.OwnGo
open Sem ClassFile Op Lib Jvm.Stand Jvm.Free Jvm.LawKit Jvm.RoadKit
/-- instanceof whose answer is not known: one of the two -/
theorem go_instanceofA {km : Nat} {κ : Cx} {l : Launch} {Z : State} {a0 : Array Value} {n0 : Nat} {R : Room} {own nm : String} {bytes : ByteArray} {maxL : Nat} {ret : Option FieldType} {Q : Option Value → Heap → Prop} {h : Heap} {k n pc pc' : Nat} {L : Array Slot} {st : List Value} {a : Addr} (B : OkK km κ l Z a0 n0 R own nm bytes maxL ret) {K C : String} {idx : Nat} (hd : Dc bytes pc (.instanceof idx) 3 pc') (wl : (Jvm.Cond.classLink own idx K).before a0 Z = true) (hK : ∃ cT, Z.vm.findClass K = some cT) (E : Exa Z h a C) (g : ∀ z : Int32, Go κ Q h k n pc' L (.int z :: st)) : Go κ Q h k n pc L (.ref a :: st) := by
  obtain ⟨cT, hT⟩ := hK
  have E0 := E
  obtain ⟨cell, kk, e1, e2, e3, e4, -⟩ := E
  rcases hb : Z.vm.assignable cell.cls cT with _ | _
  · exact go_instanceofN B hd wl E0 ⟨_, _, e2, hT, hb⟩ (g 0)
  · exact go_instanceof B hd wl ⟨cell, cT, e1, hT, by rw [hb, e4]; rfl⟩ (g 1)
end Jvm.OwnGo
namespace Jvm.OwnGo
open Sem ClassFile Op Lib Jvm.Stand Jvm.Free Jvm.LawKit Jvm.RoadKit
/-- an array of ints by a function of the place -/
def bm (N : Nat) (f : Nat → Int32) : List Value := (List.range N).map fun i => Value.int (f i)
def lm (N : Nat) (f : Nat → Int64) : List Value := (List.range N).map fun i => Value.long (f i)
def updf {α : Type} (f : Nat → α) (i : Nat) (v : α) : Nat → α := fun j => if j = i then v else f j
theorem bm_len (N : Nat) (f : Nat → Int32) : (bm N f).length = N := by simp [bm]
theorem lm_len (N : Nat) (f : Nat → Int64) : (lm N f).length = N := by simp [lm]
theorem bm_get {N : Nat} {f : Nat → Int32} {i : Nat} (h : i < N) : (bm N f)[i]? = some (.int (f i)) := by simp [bm, h]
theorem lm_get {N : Nat} {f : Nat → Int64} {i : Nat} (h : i < N) : (lm N f)[i]? = some (.long (f i)) := by simp [lm, h]
theorem bm_zero (N : Nat) : List.replicate N (Value.int 0) = bm N (fun _ => 0) := by
  apply List.ext_getElem?
  intro j
  rcases Nat.lt_or_ge j N with q | q <;> simp [bm, q]
theorem lm_zero (N : Nat) : List.replicate N (Value.long 0) = lm N (fun _ => 0) := by
  apply List.ext_getElem?
  intro j
  rcases Nat.lt_or_ge j N with q | q <;> simp [lm, q]
theorem bm_set {N : Nat} {f : Nat → Int32} {i : Nat} {v : Int32} (h : i < N) : (bm N f).set i (.int v) = bm N (updf f i v) := by
  apply List.ext_getElem?
  intro j
  rcases Nat.lt_or_ge j N with q | q
  · rcases Nat.lt_trichotomy j i with r | r | r
    · simp [bm, q, List.getElem?_set, updf, show i ≠ j by omega, show j ≠ i by omega]
    · subst r; simp [bm, q, List.getElem?_set, updf]
    · simp [bm, q, List.getElem?_set, updf, show i ≠ j by omega, show j ≠ i by omega]
  · simp [bm, q, List.getElem?_set]
theorem lm_set {N : Nat} {f : Nat → Int64} {i : Nat} {v : Int64} (h : i < N) : (lm N f).set i (.long v) = lm N (updf f i v) := by
  apply List.ext_getElem?
  intro j
  rcases Nat.lt_or_ge j N with q | q
  · rcases Nat.lt_trichotomy j i with r | r | r
    · simp [lm, q, List.getElem?_set, updf, show i ≠ j by omega, show j ≠ i by omega]
    · subst r; simp [lm, q, List.getElem?_set, updf]
    · simp [lm, q, List.getElem?_set, updf, show i ≠ j by omega, show j ≠ i by omega]
  · simp [lm, q, List.getElem?_set]
/-- an int by its value -/
theorem n_add {m n : Nat} : Int32.ofNat m + Int32.ofNat n = Int32.ofNat (m + n) := by rw [Int32.ofNat_add]
theorem n_mul {m n : Nat} : Int32.ofNat m * Int32.ofNat n = Int32.ofNat (m * n) := by rw [Int32.ofNat_mul]
theorem n_sub {m n : Nat} (h : n ≤ m) : Int32.ofNat m - Int32.ofNat n = Int32.ofNat (m - n) := by
  have e : Int32.ofNat m = Int32.ofNat (m - n) + Int32.ofNat n := by rw [n_add]; congr 1; omega
  rw [e]; simp
theorem n_lit (k : Nat) : (OfNat.ofNat k : Int32) = Int32.ofNat k := rfl
theorem n_step {q d j : Nat} {x : Int32} (hx : x = Int32.ofNat d) (h : q + d = j) : Int32.ofNat q + x = Int32.ofNat j := by rw [hx, n_add, h]
theorem n_back {q d j : Nat} {x : Int32} (hx : x = -Int32.ofNat d) (h : j + d = q) : Int32.ofNat q + x = Int32.ofNat j := by
  rw [hx, ← Int32.sub_eq_add_neg, n_sub (by omega)]; congr 1; omega
end Jvm.OwnGo
namespace Jvm.OwnGo
open Sem ClassFile Op Lib Jvm.Stand Jvm.Free Jvm.LawKit Jvm.RoadKit
theorem sel_private {a0 : Array Value} {Z : State} {y y0 : MethodName} {C0 : String} (wp : (Jvm.Cond.privateMethod y).before a0 Z = true) (wi : (Jvm.Cond.instanceMethod y).before a0 Z = true) (w0 : (Jvm.Cond.selects C0 y0 y0).before a0 Z = true) (hc : y0.cls = y.cls)
    (hy : y.cls ≠ "java/lang/invoke/MethodHandle" ∧ y.cls ≠ "java/lang/invoke/VarHandle") : (Jvm.Cond.selects y.cls y y).before a0 Z = true := by
  obtain ⟨mk, methM, hnamed, hmethM, hstM, habM⟩ := Cond.instanceMethod_spec wi
  have hf := findClass_of_methodNamed hnamed
  have hr := State.methodFound?_of_named hnamed hy
  have hp := Cond.privateMethod_at wp mk methM hnamed hmethM
  have sel := selectMethod_private (p := {}) (c := mk.cls) hmethM hp
  obtain ⟨c, r, m, q1, q2, q3, q4, kP, hkP, hkPi⟩ := Cond.selects_spec w0
  have hf0 := findClass_of_methodNamed q3
  rw [hc, hf] at hf0
  have e : mk.cls = m.cls := Option.some.inj hf0
  refine Cond.before_iff.mpr ?_
  have hk : Z.vm.classes[mk.cls]? = some kP := by rw [e]; exact hkP
  simp [Cond.value, hf, hr, hnamed, sel, hk, hkPi]
section P
variable {km : Nat} {κ : Cx} {l : Launch} {Z : State} {a0 : Array Value} {n0 : Nat} {R : Room} {own nm : String} {bytes : ByteArray} {maxL : Nat} {ret : Option FieldType} {Q : Option Value → Heap → Prop} {h : Heap} {k n pc pc' : Nat} {L : Array Slot} {st st' : List Value} {a : Addr} {y' : MethodName} {idx W' : Nat} {bytes' : ByteArray} {maxL' : Nat} {ret' : Option FieldType} {rm : Room} {argsL : List Value} {Q' : Option Value → Heap → Prop} {ps : List FieldType} {rt : Option FieldType}
theorem go_private (B : OkK km κ l Z a0 n0 R own nm bytes maxL ret) {C0 : String} (hd : Dc bytes pc (.invokevirtual idx) 3 pc') (w1 : (Jvm.Cond.methodLink own idx y').before a0 Z = true) (w5 : (Jvm.Cond.selects y'.cls y' y').before a0 Z = true) (wp : (Jvm.Cond.privateMethod y').before a0 Z = true) (w6 : (Jvm.Cond.instanceMethod y').before a0 Z = true) (w3 : (Jvm.Cond.initialized y'.cls).before a0 Z = true) (w4 : (Jvm.Cond.code y' bytes' maxL' ret').before a0 Z = true)
    (hy : y'.cls ≠ "java/lang/invoke/MethodHandle" ∧ y'.cls ≠ "java/lang/invoke/VarHandle") (E : Exa Z h a C0) (C : Ct l Z n0 y' bytes' maxL' ret' [] rm (.ref a :: argsL).toArray h Q') (pd : parseMethodDescriptor y'.desc = some ⟨ps, rt⟩) (hlen : argsL.length = ps.length) (hst : st' = argsL.reverse ++ .ref a :: st) (hs : L.size = maxL)
    (hW : (st.map fun v => v.category).sum = W') (hf : rm.frames + 1 ≤ R.frames) (hl : W' + (maxL' + 11) + rm.locals ≤ R.locals) (hc : k + rm.cells ≤ R.cells) (hn : n + rm.slots ≤ R.slots)
    (g : ∀ v h', Q' v h' → Go κ Q h' (k + rm.cells) (n + rm.slots) pc' L (v.toList ++ st)) : Go κ Q h k n pc L st' := fun T locs X N e => by
  obtain ⟨dd, rfl⟩ := hd
  have C' : Ct κ.l Z n0 y' bytes' maxL' ret' [] rm (.ref a :: argsL).toArray h Q' := B.hl.symm ▸ C
  obtain ⟨cell, k0, e1, e2, e3, e4, -⟩ := E
  obtain ⟨vv, _, ⟨T', L2, k2, n2⟩, -, X', ⟨Lc, hQ, l2, y2, z2⟩, sp⟩ := X.privateBack B.exec (y := y') B.hown (mvT B.warm w1) (mvT B.warm w6) (mvT B.warm w5) (Cond.privateMethod_at (mvT (args := #[]) B.warm wp)) (mvT B.warm w4) hy
    (backOf (Q := fun v h L => Q' v h ∧ Fr n0 L) (W := W') C' B.warm w4 w3 (by rw [B.room]; exact hf) (by rw [B.room]; exact hl)) (g := mkF κ.m pc L st') rfl (by rw [B.mxl]; exact hs) (Steps.refl _) (a := a) (cell := cell) (by rw [e]; exact e1) (fun q z => by rw [z] at e4; cases e4) (argsL := argsL) (rest := st) (lenOf pd hlen) hst (by show 2 * 0 + _ ≤ _; omega) (hb B.byt dd)
    (fun _ _ => ⟨rfl, e, by rw [B.room]; exact hc, by rw [B.room]; exact hn⟩)
  dsimp only [Pt.U, Pt.locs, Pt.cells, Pt.slots] at X' l2 y2 z2 sp hQ
  subst l2 y2 z2
  obtain ⟨t, o, h1, h2⟩ := g vv T'.heap hQ.1 T' _ X' (Fr.app N (B.hn.symm ▸ hQ.2)) rfl
  exact ⟨t, o, sp.trans h1, h2⟩
end P
end Jvm.OwnGo
namespace Jvm.Pilot.@@N@@
open Jvm Jvm.ClassFile Sem Op Lib Jvm.Free Jvm.Stand Jvm.LawKit Jvm.RoadKit Bundle Jvm.Pilot.@@N@@.Jvm.D Jvm.OwnGo
def Wd (a0 : Array Value) (Z : State) : Prop := ∀ d ∈ tables_1, d.before a0 Z = true
def own_sd (P : Nat) : Int32 := if P % 2 = 0 then 1 else 2
def own_cell (W c r : Nat) : Nat := (r + 2) * (W + 4) + c + 2
theorem own_sd_even {P : Nat} (hP : P < 100) (h : Int32.ofNat P % (2 : Int32) = 0) : own_sd P = 1 := by
  have e := i_mod (i_ofNat (n := P) (by omega)) (show (2 : Int32).toInt = 2 from rfl) (by omega) (by omega)
  rw [h, show (0 : Int32).toInt = 0 from rfl] at e
  unfold own_sd; rw [if_pos (by omega)]
theorem own_sd_odd {P : Nat} (hP : P < 100) (h : ¬ Int32.ofNat P % (2 : Int32) = 0) : own_sd P = 2 := by
  have e := i_mod (i_ofNat (n := P) (by omega)) (show (2 : Int32).toInt = 2 from rfl) (by omega) (by omega)
  have e2 := i_of_ne e (show (0 : Int32).toInt = 0 from rfl) h
  unfold own_sd; rw [if_neg (by omega)]
theorem pn_com_example_plywright_plywright_games_ConnectFour : plainName "com/example/plywright/plywright/games/ConnectFour" = true := by first | (simp [plainName, overriddenIn]; done) | decide +kernel
theorem d5_0 : Dc prog_19_method_5_code 0 (.iload_n 2) 1 1 := ⟨by decide +kernel, rfl⟩
theorem d5_1 : Dc prog_19_method_5_code 1 (.iconst 2) 1 2 := ⟨by decide +kernel, rfl⟩
theorem d5_2 : Dc prog_19_method_5_code 2 (.iadd) 1 3 := ⟨by decide +kernel, rfl⟩
theorem d5_3 : Dc prog_19_method_5_code 3 (.aload_n 0) 1 4 := ⟨by decide +kernel, rfl⟩
theorem d5_4 : Dc prog_19_method_5_code 4 (.getfield 22) 3 7 := ⟨by decide +kernel, rfl⟩
theorem w_27 {a0 : Array Value} {Z : State} (H : Wd a0 Z) : (Jvm.Cond.fieldLink "com/example/plywright/plywright/games/ConnectFour" (22 : Nat) "com/example/plywright/plywright/games/ConnectFour" "stride" "I").before a0 Z = true := H _ (List.mem_of_getElem? (i := 27) rfl)
theorem d5_7 : Dc prog_19_method_5_code 7 (.imul) 1 8 := ⟨by decide +kernel, rfl⟩
theorem d5_8 : Dc prog_19_method_5_code 8 (.iload_n 1) 1 9 := ⟨by decide +kernel, rfl⟩
theorem d5_9 : Dc prog_19_method_5_code 9 (.iadd) 1 10 := ⟨by decide +kernel, rfl⟩
theorem d5_10 : Dc prog_19_method_5_code 10 (.iconst 2) 1 11 := ⟨by decide +kernel, rfl⟩
theorem d5_11 : Dc prog_19_method_5_code 11 (.iadd) 1 12 := ⟨by decide +kernel, rfl⟩
theorem d5_12 : Dc prog_19_method_5_code 12 (.ireturn) 1 13 := ⟨by decide +kernel, rfl⟩
set_option maxRecDepth 65536 in
set_option maxHeartbeats 40000000 in
theorem rmSq {l : Launch} {Z : State} {a0 : Array Value} {n0 : Nat} (H : Wd a0 Z) (g : Addr) (W c r q : Nat) (h0 : Heap) (Z0 : n0 ≤ h0.size) (hq : own_cell W c r = q) (F0 : Fld Z h0 g "com/example/plywright/plywright/games/ConnectFour" "stride" "I" (.int (Int32.ofNat (W + 4)))) :
    Ct l Z n0 (⟨"com/example/plywright/plywright/games/ConnectFour", "square", "(II)I"⟩ : MethodName) prog_19_method_5_code 3 (some .int) [] ({ frames := 0, cells := 0, slots := 0, locals := 0 } : Room) #[(.ref g), (.int (Int32.ofNat c)), (.int (Int32.ofNat r))] h0 (fun v h => v = some (.int (Int32.ofNat q)) ∧ h0 = h) := by
  refine Ct.of (a0 := a0) (L0 := #[.val (.ref g), .val (.int (Int32.ofNat c)), .val (.int (Int32.ofNat r))]) (plainFor_of_name pn_com_example_plywright_plywright_games_ConnectFour) (fun m => by first | (simp [entryFrame, mkF, argsToLocals, Value.category]; done) | rfl) ?_
  intro κ B0
  have B : Ok κ l Z a0 n0 ({ frames := 0, cells := 0, slots := 0, locals := 0 } : Room) "com/example/plywright/plywright/games/ConnectFour" "square" prog_19_method_5_code 3 (some .int) := B0
  refine go_iload_n B d5_0 rfl ?_
  refine go_iconst B (x := (2 : Int32)) d5_1 rfl ?_
  refine go_iadd B d5_2 ?_
  refine go_aload_n B d5_3 rfl rfl ?_
  refine go_getfield B d5_4 (w_27 H) F0 ?_
  refine go_imul B d5_7 ?_
  refine go_iload_n B d5_8 rfl ?_
  refine go_iadd B d5_9 ?_
  refine go_iconst B (x := (2 : Int32)) d5_10 rfl ?_
  refine go_iadd B d5_11 ?_
  refine go_ireturn B d5_12 (by decide) (by decide) ?_
  refine ⟨congrArg (fun z => some (Value.int z)) ?_, rfl⟩
  show (((((Int32.ofNat r) + (2 : Int32)) * (Int32.ofNat (W + 4))) + (Int32.ofNat c)) + (2 : Int32)) = _
  rw [← hq, show (2 : Int32) = Int32.ofNat 2 from rfl, n_add, n_mul, n_add, n_add]; rfl
theorem d7_0 : Dc prog_19_method_4_code 0 (.aload_n 0) 1 1 := ⟨by decide +kernel, rfl⟩
theorem d7_1 : Dc prog_19_method_4_code 1 (.getfield 95) 3 4 := ⟨by decide +kernel, rfl⟩
theorem w_69 {a0 : Array Value} {Z : State} (H : Wd a0 Z) : (Jvm.Cond.fieldLink "com/example/plywright/plywright/games/ConnectFour" (95 : Nat) "com/example/plywright/plywright/games/ConnectFour" "plies" "I").before a0 Z = true := H _ (List.mem_of_getElem? (i := 69) rfl)
theorem d7_4 : Dc prog_19_method_4_code 4 (.iconst 2) 1 5 := ⟨by decide +kernel, rfl⟩
theorem d7_5 : Dc prog_19_method_4_code 5 (.irem) 1 6 := ⟨by decide +kernel, rfl⟩
theorem d7_6 : Db prog_19_method_4_code 6 (.ifCond .ne 7) 7 9 13 := ⟨by decide +kernel, rfl, rfl⟩
theorem d7_13 : Dc prog_19_method_4_code 13 (.iconst 2) 1 14 := ⟨by decide +kernel, rfl⟩
theorem d7_14 : Dc prog_19_method_4_code 14 (.ireturn) 1 15 := ⟨by decide +kernel, rfl⟩
theorem d7_9 : Dc prog_19_method_4_code 9 (.iconst 1) 1 10 := ⟨by decide +kernel, rfl⟩
theorem d7_10 : Db prog_19_method_4_code 10 (.goto 4) 4 13 14 := ⟨by decide +kernel, rfl, rfl⟩
set_option maxRecDepth 65536 in
set_option maxHeartbeats 40000000 in
theorem rmSd {l : Launch} {Z : State} {a0 : Array Value} {n0 : Nat} (H : Wd a0 Z) (g : Addr) (P : Nat) (s : Int32) (h0 : Heap) (Z0 : n0 ≤ h0.size) (hP : P < 100) (hs : own_sd P = s) (F0 : Fld Z h0 g "com/example/plywright/plywright/games/ConnectFour" "plies" "I" (.int (Int32.ofNat P))) :
    Ct l Z n0 (⟨"com/example/plywright/plywright/games/ConnectFour", "sideToMove", "()B"⟩ : MethodName) prog_19_method_4_code 1 (some .byte) [] ({ frames := 0, cells := 0, slots := 0, locals := 0 } : Room) #[(.ref g)] h0 (fun v h => v = some (.int s) ∧ h0 = h) := by
  refine Ct.of (a0 := a0) (L0 := #[.val (.ref g)]) (plainFor_of_name pn_com_example_plywright_plywright_games_ConnectFour) (fun m => by first | (simp [entryFrame, mkF, argsToLocals, Value.category]; done) | rfl) ?_
  intro κ B0
  have B : Ok κ l Z a0 n0 ({ frames := 0, cells := 0, slots := 0, locals := 0 } : Room) "com/example/plywright/plywright/games/ConnectFour" "sideToMove" prog_19_method_4_code 1 (some .byte) := B0
  refine go_aload_n B d7_0 rfl rfl ?_
  refine go_getfield B d7_1 (w_69 H) F0 ?_
  refine go_iconst B (x := (2 : Int32)) d7_4 rfl ?_
  refine go_irem B d7_5 (by decide) ?_
  refine go_ifne B d7_6 (fun c6 => ?_) (fun c6 => ?_)
  · skip
    refine go_iconst B (x := (2 : Int32)) d7_13 rfl ?_
    refine go_breturn B (y := (2 : Int32)) d7_14 (by decide) (by decide) (by decide) ?_
    exact ⟨by rw [← hs, own_sd_odd hP c6], rfl⟩
  · skip
    refine go_iconst B (x := (1 : Int32)) d7_9 rfl ?_
    refine go_goto B d7_10 ?_
    refine go_breturn B (y := (1 : Int32)) d7_14 (by decide) (by decide) (by decide) ?_
    exact ⟨by rw [← hs, own_sd_even hP c6], rfl⟩
theorem d10_0 : Dc prog_19_method_15_code 0 (.iconst 0) 1 1 := ⟨by decide +kernel, rfl⟩
theorem d10_1 : Dc prog_19_method_15_code 1 (.istore 4) 2 3 := ⟨by decide +kernel, rfl⟩
theorem d10_3 : Dc prog_19_method_15_code 3 (.iload_n 1) 1 4 := ⟨by decide +kernel, rfl⟩
theorem d10_4 : Dc prog_19_method_15_code 4 (.iload_n 2) 1 5 := ⟨by decide +kernel, rfl⟩
theorem d10_5 : Dc prog_19_method_15_code 5 (.iadd) 1 6 := ⟨by decide +kernel, rfl⟩
theorem d10_6 : Dc prog_19_method_15_code 6 (.istore 5) 2 8 := ⟨by decide +kernel, rfl⟩
theorem d10_8 : Dc prog_19_method_15_code 8 (.aload_n 0) 1 9 := ⟨by decide +kernel, rfl⟩
theorem d10_9 : Dc prog_19_method_15_code 9 (.getfield 25) 3 12 := ⟨by decide +kernel, rfl⟩
theorem w_29 {a0 : Array Value} {Z : State} (H : Wd a0 Z) : (Jvm.Cond.fieldLink "com/example/plywright/plywright/games/ConnectFour" (25 : Nat) "com/example/plywright/plywright/games/ConnectFour" "squares" "[B").before a0 Z = true := H _ (List.mem_of_getElem? (i := 29) rfl)
theorem d10_12 : Dc prog_19_method_15_code 12 (.iload 5) 2 14 := ⟨by decide +kernel, rfl⟩
theorem d10_14 : Dc prog_19_method_15_code 14 (.baload) 1 15 := ⟨by decide +kernel, rfl⟩
theorem d10_15 : Dc prog_19_method_15_code 15 (.iload_n 3) 1 16 := ⟨by decide +kernel, rfl⟩
theorem d10_16 : Db prog_19_method_15_code 16 (.if_icmp .ne 15) 15 19 31 := ⟨by decide +kernel, rfl, rfl⟩
theorem d10_31 : Dc prog_19_method_15_code 31 (.iload 4) 2 33 := ⟨by decide +kernel, rfl⟩
theorem d10_33 : Dc prog_19_method_15_code 33 (.ireturn) 1 34 := ⟨by decide +kernel, rfl⟩
set_option maxRecDepth 65536 in
set_option maxHeartbeats 40000000 in
theorem rmRun0 {l : Launch} {Z : State} {a0 : Array Value} {n0 : Nat} (H : Wd a0 Z) (g sq : Addr) (N : Nat) (f : Nat → Int32) (q d s : Int32) (j1 : Nat) (h0 : Heap) (Z0 : n0 ≤ h0.size) (F0 : Fld Z h0 g "com/example/plywright/plywright/games/ConnectFour" "squares" "[B" (.ref sq)) (A0 : AV Z h0 sq .byte (bm N f)) (hN : N < 1000) (e1 : q + d = Int32.ofNat j1) (b1 : j1 < N) (t1 : ¬ f j1 = s) :
    Ct l Z n0 (⟨"com/example/plywright/plywright/games/ConnectFour", "run", "(IIB)I"⟩ : MethodName) prog_19_method_15_code 6 (some .int) [] ({ frames := 0, cells := 0, slots := 0, locals := 0 } : Room) #[(.ref g), (.int q), (.int d), (.int s)] h0 (fun v h => v = some (.int (0 : Int32)) ∧ h0 = h) := by
  refine Ct.of (a0 := a0) (L0 := #[.val (.ref g), .val (.int q), .val (.int d), .val (.int s), .unset, .unset]) (plainFor_of_name pn_com_example_plywright_plywright_games_ConnectFour) (fun m => by first | (simp [entryFrame, mkF, argsToLocals, Value.category]; done) | rfl) ?_
  intro κ B0
  have B : Ok κ l Z a0 n0 ({ frames := 0, cells := 0, slots := 0, locals := 0 } : Room) "com/example/plywright/plywright/games/ConnectFour" "run" prog_19_method_15_code 6 (some .int) := B0
  refine go_iconst B (x := (0 : Int32)) d10_0 rfl ?_
  refine go_istore B #[.val (.ref g), .val (.int q), .val (.int d), .val (.int s), .val (.int (0 : Int32)), .unset] d10_1 rfl ?_
  refine go_iload_n B d10_3 rfl ?_
  refine go_iload_n B d10_4 rfl ?_
  refine go_iadd B d10_5 ?_
  rw [show (q + d) = (Int32.ofNat j1) from e1]
  refine go_istore B #[.val (.ref g), .val (.int q), .val (.int d), .val (.int s), .val (.int (0 : Int32)), .val (.int (Int32.ofNat j1))] d10_6 rfl ?_
  refine go_aload_n B d10_8 rfl rfl ?_
  refine go_getfield B d10_9 (w_29 H) F0 ?_
  refine go_iload B d10_12 rfl ?_
  refine go_baload B (i := j1) (v := (.int (f j1))) d10_14 A0 (i_ofNat (by omega)) (bm_get b1) ?_
  refine go_iload_n B d10_15 rfl ?_
  refine go_icmpne B d10_16 (fun c16 => ?_) (fun c16 => ?_)
  rotate_left
  · exact absurd c16 t1
  refine go_iload B d10_31 rfl ?_
  refine go_ireturn B d10_33 (by decide) (by decide) ?_
  exact ⟨rfl, rfl⟩
theorem d10_19 : Dc prog_19_method_15_code 19 (.iinc 4 1) 3 22 := ⟨by decide +kernel, rfl⟩
theorem d10_22 : Dc prog_19_method_15_code 22 (.iload 5) 2 24 := ⟨by decide +kernel, rfl⟩
theorem d10_24 : Dc prog_19_method_15_code 24 (.iload_n 2) 1 25 := ⟨by decide +kernel, rfl⟩
theorem d10_25 : Dc prog_19_method_15_code 25 (.iadd) 1 26 := ⟨by decide +kernel, rfl⟩
theorem d10_26 : Dc prog_19_method_15_code 26 (.istore 5) 2 28 := ⟨by decide +kernel, rfl⟩
theorem d10_28 : Db prog_19_method_15_code 28 (.goto (-20)) (-20) 31 8 := ⟨by decide +kernel, rfl, rfl⟩
set_option maxRecDepth 65536 in
set_option maxHeartbeats 40000000 in
theorem rmRun1 {l : Launch} {Z : State} {a0 : Array Value} {n0 : Nat} (H : Wd a0 Z) (g sq : Addr) (N : Nat) (f : Nat → Int32) (q d s : Int32) (j1 j2 : Nat) (h0 : Heap) (Z0 : n0 ≤ h0.size) (F0 : Fld Z h0 g "com/example/plywright/plywright/games/ConnectFour" "squares" "[B" (.ref sq)) (A0 : AV Z h0 sq .byte (bm N f)) (hN : N < 1000) (e1 : q + d = Int32.ofNat j1) (b1 : j1 < N) (t1 : f j1 = s) (e2 : Int32.ofNat j1 + d = Int32.ofNat j2) (b2 : j2 < N) (t2 : ¬ f j2 = s) :
    Ct l Z n0 (⟨"com/example/plywright/plywright/games/ConnectFour", "run", "(IIB)I"⟩ : MethodName) prog_19_method_15_code 6 (some .int) [] ({ frames := 0, cells := 0, slots := 0, locals := 0 } : Room) #[(.ref g), (.int q), (.int d), (.int s)] h0 (fun v h => v = some (.int (1 : Int32)) ∧ h0 = h) := by
  refine Ct.of (a0 := a0) (L0 := #[.val (.ref g), .val (.int q), .val (.int d), .val (.int s), .unset, .unset]) (plainFor_of_name pn_com_example_plywright_plywright_games_ConnectFour) (fun m => by first | (simp [entryFrame, mkF, argsToLocals, Value.category]; done) | rfl) ?_
  intro κ B0
  have B : Ok κ l Z a0 n0 ({ frames := 0, cells := 0, slots := 0, locals := 0 } : Room) "com/example/plywright/plywright/games/ConnectFour" "run" prog_19_method_15_code 6 (some .int) := B0
  refine go_iconst B (x := (0 : Int32)) d10_0 rfl ?_
  refine go_istore B #[.val (.ref g), .val (.int q), .val (.int d), .val (.int s), .val (.int (0 : Int32)), .unset] d10_1 rfl ?_
  refine go_iload_n B d10_3 rfl ?_
  refine go_iload_n B d10_4 rfl ?_
  refine go_iadd B d10_5 ?_
  rw [show (q + d) = (Int32.ofNat j1) from e1]
  refine go_istore B #[.val (.ref g), .val (.int q), .val (.int d), .val (.int s), .val (.int (0 : Int32)), .val (.int (Int32.ofNat j1))] d10_6 rfl ?_
  refine go_aload_n B d10_8 rfl rfl ?_
  refine go_getfield B d10_9 (w_29 H) F0 ?_
  refine go_iload B d10_12 rfl ?_
  refine go_baload B (i := j1) (v := (.int (f j1))) d10_14 A0 (i_ofNat (by omega)) (bm_get b1) ?_
  refine go_iload_n B d10_15 rfl ?_
  refine go_icmpne B d10_16 (fun c16 => ?_) (fun c16 => ?_)
  · exact absurd t1 c16
  refine go_iinc B #[.val (.ref g), .val (.int q), .val (.int d), .val (.int s), .val (.int ((0 : Int32) + (1 : Int32))), .val (.int (Int32.ofNat j1))] d10_19 (z := (1 : Int32)) rfl rfl rfl ?_
  rw [show ((0 : Int32) + (1 : Int32)) = (1 : Int32) from by decide]
  refine go_iload B d10_22 rfl ?_
  refine go_iload_n B d10_24 rfl ?_
  refine go_iadd B d10_25 ?_
  rw [show ((Int32.ofNat j1) + d) = (Int32.ofNat j2) from e2]
  refine go_istore B #[.val (.ref g), .val (.int q), .val (.int d), .val (.int s), .val (.int (1 : Int32)), .val (.int (Int32.ofNat j2))] d10_26 rfl ?_
  refine go_goto B d10_28 ?_
  refine go_aload_n B d10_8 rfl rfl ?_
  refine go_getfield B d10_9 (w_29 H) F0 ?_
  refine go_iload B d10_12 rfl ?_
  refine go_baload B (i := j2) (v := (.int (f j2))) d10_14 A0 (i_ofNat (by omega)) (bm_get b2) ?_
  refine go_iload_n B d10_15 rfl ?_
  refine go_icmpne B d10_16 (fun c16_1 => ?_) (fun c16_1 => ?_)
  rotate_left
  · exact absurd c16_1 t2
  refine go_iload B d10_31 rfl ?_
  refine go_ireturn B d10_33 (by decide) (by decide) ?_
  exact ⟨rfl, rfl⟩
set_option maxRecDepth 65536 in
set_option maxHeartbeats 40000000 in
theorem rmRun2 {l : Launch} {Z : State} {a0 : Array Value} {n0 : Nat} (H : Wd a0 Z) (g sq : Addr) (N : Nat) (f : Nat → Int32) (q d s : Int32) (j1 j2 j3 : Nat) (h0 : Heap) (Z0 : n0 ≤ h0.size) (F0 : Fld Z h0 g "com/example/plywright/plywright/games/ConnectFour" "squares" "[B" (.ref sq)) (A0 : AV Z h0 sq .byte (bm N f)) (hN : N < 1000) (e1 : q + d = Int32.ofNat j1) (b1 : j1 < N) (t1 : f j1 = s) (e2 : Int32.ofNat j1 + d = Int32.ofNat j2) (b2 : j2 < N) (t2 : f j2 = s) (e3 : Int32.ofNat j2 + d = Int32.ofNat j3) (b3 : j3 < N) (t3 : ¬ f j3 = s) :
    Ct l Z n0 (⟨"com/example/plywright/plywright/games/ConnectFour", "run", "(IIB)I"⟩ : MethodName) prog_19_method_15_code 6 (some .int) [] ({ frames := 0, cells := 0, slots := 0, locals := 0 } : Room) #[(.ref g), (.int q), (.int d), (.int s)] h0 (fun v h => v = some (.int (2 : Int32)) ∧ h0 = h) := by
  refine Ct.of (a0 := a0) (L0 := #[.val (.ref g), .val (.int q), .val (.int d), .val (.int s), .unset, .unset]) (plainFor_of_name pn_com_example_plywright_plywright_games_ConnectFour) (fun m => by first | (simp [entryFrame, mkF, argsToLocals, Value.category]; done) | rfl) ?_
  intro κ B0
  have B : Ok κ l Z a0 n0 ({ frames := 0, cells := 0, slots := 0, locals := 0 } : Room) "com/example/plywright/plywright/games/ConnectFour" "run" prog_19_method_15_code 6 (some .int) := B0
  refine go_iconst B (x := (0 : Int32)) d10_0 rfl ?_
  refine go_istore B #[.val (.ref g), .val (.int q), .val (.int d), .val (.int s), .val (.int (0 : Int32)), .unset] d10_1 rfl ?_
  refine go_iload_n B d10_3 rfl ?_
  refine go_iload_n B d10_4 rfl ?_
  refine go_iadd B d10_5 ?_
  rw [show (q + d) = (Int32.ofNat j1) from e1]
  refine go_istore B #[.val (.ref g), .val (.int q), .val (.int d), .val (.int s), .val (.int (0 : Int32)), .val (.int (Int32.ofNat j1))] d10_6 rfl ?_
  refine go_aload_n B d10_8 rfl rfl ?_
  refine go_getfield B d10_9 (w_29 H) F0 ?_
  refine go_iload B d10_12 rfl ?_
  refine go_baload B (i := j1) (v := (.int (f j1))) d10_14 A0 (i_ofNat (by omega)) (bm_get b1) ?_
  refine go_iload_n B d10_15 rfl ?_
  refine go_icmpne B d10_16 (fun c16 => ?_) (fun c16 => ?_)
  · exact absurd t1 c16
  refine go_iinc B #[.val (.ref g), .val (.int q), .val (.int d), .val (.int s), .val (.int ((0 : Int32) + (1 : Int32))), .val (.int (Int32.ofNat j1))] d10_19 (z := (1 : Int32)) rfl rfl rfl ?_
  rw [show ((0 : Int32) + (1 : Int32)) = (1 : Int32) from by decide]
  refine go_iload B d10_22 rfl ?_
  refine go_iload_n B d10_24 rfl ?_
  refine go_iadd B d10_25 ?_
  rw [show ((Int32.ofNat j1) + d) = (Int32.ofNat j2) from e2]
  refine go_istore B #[.val (.ref g), .val (.int q), .val (.int d), .val (.int s), .val (.int (1 : Int32)), .val (.int (Int32.ofNat j2))] d10_26 rfl ?_
  refine go_goto B d10_28 ?_
  refine go_aload_n B d10_8 rfl rfl ?_
  refine go_getfield B d10_9 (w_29 H) F0 ?_
  refine go_iload B d10_12 rfl ?_
  refine go_baload B (i := j2) (v := (.int (f j2))) d10_14 A0 (i_ofNat (by omega)) (bm_get b2) ?_
  refine go_iload_n B d10_15 rfl ?_
  refine go_icmpne B d10_16 (fun c16_2 => ?_) (fun c16_2 => ?_)
  · exact absurd t2 c16_2
  refine go_iinc B #[.val (.ref g), .val (.int q), .val (.int d), .val (.int s), .val (.int ((1 : Int32) + (1 : Int32))), .val (.int (Int32.ofNat j2))] d10_19 (z := (1 : Int32)) rfl rfl rfl ?_
  rw [show ((1 : Int32) + (1 : Int32)) = (2 : Int32) from by decide]
  refine go_iload B d10_22 rfl ?_
  refine go_iload_n B d10_24 rfl ?_
  refine go_iadd B d10_25 ?_
  rw [show ((Int32.ofNat j2) + d) = (Int32.ofNat j3) from e3]
  refine go_istore B #[.val (.ref g), .val (.int q), .val (.int d), .val (.int s), .val (.int (2 : Int32)), .val (.int (Int32.ofNat j3))] d10_26 rfl ?_
  refine go_goto B d10_28 ?_
  refine go_aload_n B d10_8 rfl rfl ?_
  refine go_getfield B d10_9 (w_29 H) F0 ?_
  refine go_iload B d10_12 rfl ?_
  refine go_baload B (i := j3) (v := (.int (f j3))) d10_14 A0 (i_ofNat (by omega)) (bm_get b3) ?_
  refine go_iload_n B d10_15 rfl ?_
  refine go_icmpne B d10_16 (fun c16_3 => ?_) (fun c16_3 => ?_)
  rotate_left
  · exact absurd c16_3 t3
  refine go_iload B d10_31 rfl ?_
  refine go_ireturn B d10_33 (by decide) (by decide) ?_
  exact ⟨rfl, rfl⟩
set_option maxRecDepth 65536 in
set_option maxHeartbeats 40000000 in
theorem rmRun3 {l : Launch} {Z : State} {a0 : Array Value} {n0 : Nat} (H : Wd a0 Z) (g sq : Addr) (N : Nat) (f : Nat → Int32) (q d s : Int32) (j1 j2 j3 j4 : Nat) (h0 : Heap) (Z0 : n0 ≤ h0.size) (F0 : Fld Z h0 g "com/example/plywright/plywright/games/ConnectFour" "squares" "[B" (.ref sq)) (A0 : AV Z h0 sq .byte (bm N f)) (hN : N < 1000) (e1 : q + d = Int32.ofNat j1) (b1 : j1 < N) (t1 : f j1 = s) (e2 : Int32.ofNat j1 + d = Int32.ofNat j2) (b2 : j2 < N) (t2 : f j2 = s) (e3 : Int32.ofNat j2 + d = Int32.ofNat j3) (b3 : j3 < N) (t3 : f j3 = s) (e4 : Int32.ofNat j3 + d = Int32.ofNat j4) (b4 : j4 < N) (t4 : ¬ f j4 = s) :
    Ct l Z n0 (⟨"com/example/plywright/plywright/games/ConnectFour", "run", "(IIB)I"⟩ : MethodName) prog_19_method_15_code 6 (some .int) [] ({ frames := 0, cells := 0, slots := 0, locals := 0 } : Room) #[(.ref g), (.int q), (.int d), (.int s)] h0 (fun v h => v = some (.int (3 : Int32)) ∧ h0 = h) := by
  refine Ct.of (a0 := a0) (L0 := #[.val (.ref g), .val (.int q), .val (.int d), .val (.int s), .unset, .unset]) (plainFor_of_name pn_com_example_plywright_plywright_games_ConnectFour) (fun m => by first | (simp [entryFrame, mkF, argsToLocals, Value.category]; done) | rfl) ?_
  intro κ B0
  have B : Ok κ l Z a0 n0 ({ frames := 0, cells := 0, slots := 0, locals := 0 } : Room) "com/example/plywright/plywright/games/ConnectFour" "run" prog_19_method_15_code 6 (some .int) := B0
  refine go_iconst B (x := (0 : Int32)) d10_0 rfl ?_
  refine go_istore B #[.val (.ref g), .val (.int q), .val (.int d), .val (.int s), .val (.int (0 : Int32)), .unset] d10_1 rfl ?_
  refine go_iload_n B d10_3 rfl ?_
  refine go_iload_n B d10_4 rfl ?_
  refine go_iadd B d10_5 ?_
  rw [show (q + d) = (Int32.ofNat j1) from e1]
  refine go_istore B #[.val (.ref g), .val (.int q), .val (.int d), .val (.int s), .val (.int (0 : Int32)), .val (.int (Int32.ofNat j1))] d10_6 rfl ?_
  refine go_aload_n B d10_8 rfl rfl ?_
  refine go_getfield B d10_9 (w_29 H) F0 ?_
  refine go_iload B d10_12 rfl ?_
  refine go_baload B (i := j1) (v := (.int (f j1))) d10_14 A0 (i_ofNat (by omega)) (bm_get b1) ?_
  refine go_iload_n B d10_15 rfl ?_
  refine go_icmpne B d10_16 (fun c16 => ?_) (fun c16 => ?_)
  · exact absurd t1 c16
  refine go_iinc B #[.val (.ref g), .val (.int q), .val (.int d), .val (.int s), .val (.int ((0 : Int32) + (1 : Int32))), .val (.int (Int32.ofNat j1))] d10_19 (z := (1 : Int32)) rfl rfl rfl ?_
  rw [show ((0 : Int32) + (1 : Int32)) = (1 : Int32) from by decide]
  refine go_iload B d10_22 rfl ?_
  refine go_iload_n B d10_24 rfl ?_
  refine go_iadd B d10_25 ?_
  rw [show ((Int32.ofNat j1) + d) = (Int32.ofNat j2) from e2]
  refine go_istore B #[.val (.ref g), .val (.int q), .val (.int d), .val (.int s), .val (.int (1 : Int32)), .val (.int (Int32.ofNat j2))] d10_26 rfl ?_
  refine go_goto B d10_28 ?_
  refine go_aload_n B d10_8 rfl rfl ?_
  refine go_getfield B d10_9 (w_29 H) F0 ?_
  refine go_iload B d10_12 rfl ?_
  refine go_baload B (i := j2) (v := (.int (f j2))) d10_14 A0 (i_ofNat (by omega)) (bm_get b2) ?_
  refine go_iload_n B d10_15 rfl ?_
  refine go_icmpne B d10_16 (fun c16_4 => ?_) (fun c16_4 => ?_)
  · exact absurd t2 c16_4
  refine go_iinc B #[.val (.ref g), .val (.int q), .val (.int d), .val (.int s), .val (.int ((1 : Int32) + (1 : Int32))), .val (.int (Int32.ofNat j2))] d10_19 (z := (1 : Int32)) rfl rfl rfl ?_
  rw [show ((1 : Int32) + (1 : Int32)) = (2 : Int32) from by decide]
  refine go_iload B d10_22 rfl ?_
  refine go_iload_n B d10_24 rfl ?_
  refine go_iadd B d10_25 ?_
  rw [show ((Int32.ofNat j2) + d) = (Int32.ofNat j3) from e3]
  refine go_istore B #[.val (.ref g), .val (.int q), .val (.int d), .val (.int s), .val (.int (2 : Int32)), .val (.int (Int32.ofNat j3))] d10_26 rfl ?_
  refine go_goto B d10_28 ?_
  refine go_aload_n B d10_8 rfl rfl ?_
  refine go_getfield B d10_9 (w_29 H) F0 ?_
  refine go_iload B d10_12 rfl ?_
  refine go_baload B (i := j3) (v := (.int (f j3))) d10_14 A0 (i_ofNat (by omega)) (bm_get b3) ?_
  refine go_iload_n B d10_15 rfl ?_
  refine go_icmpne B d10_16 (fun c16_5 => ?_) (fun c16_5 => ?_)
  · exact absurd t3 c16_5
  refine go_iinc B #[.val (.ref g), .val (.int q), .val (.int d), .val (.int s), .val (.int ((2 : Int32) + (1 : Int32))), .val (.int (Int32.ofNat j3))] d10_19 (z := (1 : Int32)) rfl rfl rfl ?_
  rw [show ((2 : Int32) + (1 : Int32)) = (3 : Int32) from by decide]
  refine go_iload B d10_22 rfl ?_
  refine go_iload_n B d10_24 rfl ?_
  refine go_iadd B d10_25 ?_
  rw [show ((Int32.ofNat j3) + d) = (Int32.ofNat j4) from e4]
  refine go_istore B #[.val (.ref g), .val (.int q), .val (.int d), .val (.int s), .val (.int (3 : Int32)), .val (.int (Int32.ofNat j4))] d10_26 rfl ?_
  refine go_goto B d10_28 ?_
  refine go_aload_n B d10_8 rfl rfl ?_
  refine go_getfield B d10_9 (w_29 H) F0 ?_
  refine go_iload B d10_12 rfl ?_
  refine go_baload B (i := j4) (v := (.int (f j4))) d10_14 A0 (i_ofNat (by omega)) (bm_get b4) ?_
  refine go_iload_n B d10_15 rfl ?_
  refine go_icmpne B d10_16 (fun c16_6 => ?_) (fun c16_6 => ?_)
  rotate_left
  · exact absurd c16_6 t4
  refine go_iload B d10_31 rfl ?_
  refine go_ireturn B d10_33 (by decide) (by decide) ?_
  exact ⟨rfl, rfl⟩
set_option maxRecDepth 65536 in
set_option maxHeartbeats 40000000 in
theorem rmRunH {l : Launch} {Z : State} {a0 : Array Value} {n0 : Nat} (H : Wd a0 Z) (g sq : Addr) (N : Nat) (f : Nat → Int32) (q d s : Int32) (j1 j2 : Nat) (h0 : Heap) (Z0 : n0 ≤ h0.size) (F0 : Fld Z h0 g "com/example/plywright/plywright/games/ConnectFour" "squares" "[B" (.ref sq)) (A0 : AV Z h0 sq .byte (bm N f)) (hN : N < 1000) (e1 : q + d = Int32.ofNat j1) (b1 : j1 < N) (e2 : Int32.ofNat j1 + d = Int32.ofNat j2) (b2 : j2 < N) (t : ¬ f j1 = s ∨ ¬ f j2 = s) :
    Ct l Z n0 (⟨"com/example/plywright/plywright/games/ConnectFour", "run", "(IIB)I"⟩ : MethodName) prog_19_method_15_code 6 (some .int) [] ({ frames := 0, cells := 0, slots := 0, locals := 0 } : Room) #[(.ref g), (.int q), (.int d), (.int s)] h0 (fun v h => ∃ r, v = some (.int r) ∧ (r = (0 : Int32) ∨ r = (1 : Int32)) ∧ h0 = h) := by
  refine Ct.of (a0 := a0) (L0 := #[.val (.ref g), .val (.int q), .val (.int d), .val (.int s), .unset, .unset]) (plainFor_of_name pn_com_example_plywright_plywright_games_ConnectFour) (fun m => by first | (simp [entryFrame, mkF, argsToLocals, Value.category]; done) | rfl) ?_
  intro κ B0
  have B : Ok κ l Z a0 n0 ({ frames := 0, cells := 0, slots := 0, locals := 0 } : Room) "com/example/plywright/plywright/games/ConnectFour" "run" prog_19_method_15_code 6 (some .int) := B0
  refine go_iconst B (x := (0 : Int32)) d10_0 rfl ?_
  refine go_istore B #[.val (.ref g), .val (.int q), .val (.int d), .val (.int s), .val (.int (0 : Int32)), .unset] d10_1 rfl ?_
  refine go_iload_n B d10_3 rfl ?_
  refine go_iload_n B d10_4 rfl ?_
  refine go_iadd B d10_5 ?_
  rw [show (q + d) = (Int32.ofNat j1) from e1]
  refine go_istore B #[.val (.ref g), .val (.int q), .val (.int d), .val (.int s), .val (.int (0 : Int32)), .val (.int (Int32.ofNat j1))] d10_6 rfl ?_
  refine go_aload_n B d10_8 rfl rfl ?_
  refine go_getfield B d10_9 (w_29 H) F0 ?_
  refine go_iload B d10_12 rfl ?_
  refine go_baload B (i := j1) (v := (.int (f j1))) d10_14 A0 (i_ofNat (by omega)) (bm_get b1) ?_
  refine go_iload_n B d10_15 rfl ?_
  refine go_icmpne B d10_16 (fun c16 => ?_) (fun c16 => ?_)
  · skip
    refine go_iload B d10_31 rfl ?_
    refine go_ireturn B d10_33 (by decide) (by decide) ?_
    exact ⟨_, rfl, Or.inl rfl, rfl⟩
  · skip
    refine go_iinc B #[.val (.ref g), .val (.int q), .val (.int d), .val (.int s), .val (.int ((0 : Int32) + (1 : Int32))), .val (.int (Int32.ofNat j1))] d10_19 (z := (1 : Int32)) rfl rfl rfl ?_
    rw [show ((0 : Int32) + (1 : Int32)) = (1 : Int32) from by decide]
    refine go_iload B d10_22 rfl ?_
    refine go_iload_n B d10_24 rfl ?_
    refine go_iadd B d10_25 ?_
    rw [show ((Int32.ofNat j1) + d) = (Int32.ofNat j2) from e2]
    refine go_istore B #[.val (.ref g), .val (.int q), .val (.int d), .val (.int s), .val (.int (1 : Int32)), .val (.int (Int32.ofNat j2))] d10_26 rfl ?_
    refine go_goto B d10_28 ?_
    refine go_aload_n B d10_8 rfl rfl ?_
    refine go_getfield B d10_9 (w_29 H) F0 ?_
    refine go_iload B d10_12 rfl ?_
    refine go_baload B (i := j2) (v := (.int (f j2))) d10_14 A0 (i_ofNat (by omega)) (bm_get b2) ?_
    refine go_iload_n B d10_15 rfl ?_
    refine go_icmpne B d10_16 (fun c16_7 => ?_) (fun c16_7 => ?_)
    rotate_left
    · exact absurd c16_7 (t.resolve_left fun z => z c16)
    refine go_iload B d10_31 rfl ?_
    refine go_ireturn B d10_33 (by decide) (by decide) ?_
    exact ⟨_, rfl, Or.inr rfl, rfl⟩
theorem own_lt3 {a b : Int32} (ha : a = (0 : Int32) ∨ a = (1 : Int32)) (hb : b = (0 : Int32) ∨ b = (1 : Int32)) : (((1 : Int32) + a) + b) < (4 : Int32) := by
  rcases ha with rfl | rfl <;> rcases hb with rfl | rfl <;> decide
theorem d9_0 : Dc prog_19_method_14_code 0 (.aload_n 0) 1 1 := ⟨by decide +kernel, rfl⟩
theorem d9_1 : Dc prog_19_method_14_code 1 (.getfield 57) 3 4 := ⟨by decide +kernel, rfl⟩
theorem w_54 {a0 : Array Value} {Z : State} (H : Wd a0 Z) : (Jvm.Cond.fieldLink "com/example/plywright/plywright/games/ConnectFour" (57 : Nat) "com/example/plywright/plywright/games/ConnectFour" "lineSteps" "[I").before a0 Z = true := H _ (List.mem_of_getElem? (i := 54) rfl)
theorem d9_4 : Dc prog_19_method_14_code 4 (.astore_n 3) 1 5 := ⟨by decide +kernel, rfl⟩
theorem d9_5 : Dc prog_19_method_14_code 5 (.aload_n 3) 1 6 := ⟨by decide +kernel, rfl⟩
theorem d9_6 : Dc prog_19_method_14_code 6 (.arraylength) 1 7 := ⟨by decide +kernel, rfl⟩
theorem d9_7 : Dc prog_19_method_14_code 7 (.istore 4) 2 9 := ⟨by decide +kernel, rfl⟩
theorem d9_9 : Dc prog_19_method_14_code 9 (.iconst 0) 1 10 := ⟨by decide +kernel, rfl⟩
theorem d9_10 : Dc prog_19_method_14_code 10 (.istore 5) 2 12 := ⟨by decide +kernel, rfl⟩
theorem d9_12 : Dc prog_19_method_14_code 12 (.iload 5) 2 14 := ⟨by decide +kernel, rfl⟩
theorem d9_14 : Dc prog_19_method_14_code 14 (.iload 4) 2 16 := ⟨by decide +kernel, rfl⟩
theorem d9_16 : Db prog_19_method_14_code 16 (.if_icmp .ge 45) 45 19 61 := ⟨by decide +kernel, rfl, rfl⟩
theorem d9_19 : Dc prog_19_method_14_code 19 (.aload_n 3) 1 20 := ⟨by decide +kernel, rfl⟩
theorem d9_20 : Dc prog_19_method_14_code 20 (.iload 5) 2 22 := ⟨by decide +kernel, rfl⟩
theorem d9_22 : Dc prog_19_method_14_code 22 (.iaload) 1 23 := ⟨by decide +kernel, rfl⟩
theorem d9_23 : Dc prog_19_method_14_code 23 (.istore 6) 2 25 := ⟨by decide +kernel, rfl⟩
theorem d9_25 : Dc prog_19_method_14_code 25 (.iconst 1) 1 26 := ⟨by decide +kernel, rfl⟩
theorem d9_26 : Dc prog_19_method_14_code 26 (.aload_n 0) 1 27 := ⟨by decide +kernel, rfl⟩
theorem d9_27 : Dc prog_19_method_14_code 27 (.iload_n 1) 1 28 := ⟨by decide +kernel, rfl⟩
theorem d9_28 : Dc prog_19_method_14_code 28 (.iload 6) 2 30 := ⟨by decide +kernel, rfl⟩
theorem d9_30 : Dc prog_19_method_14_code 30 (.iload_n 2) 1 31 := ⟨by decide +kernel, rfl⟩
theorem d9_31 : Dc prog_19_method_14_code 31 (.invokevirtual 130) 3 34 := ⟨by decide +kernel, rfl⟩
theorem w_84 {a0 : Array Value} {Z : State} (H : Wd a0 Z) : (Jvm.Cond.code ({ cls := "com/example/plywright/plywright/games/ConnectFour", name := "run", desc := "(IIB)I" } : Jvm.MethodName) prog_19_method_15_code (6 : Nat) (Option.some Jvm.ClassFile.FieldType.int)).before a0 Z = true := H _ (List.mem_of_getElem? (i := 84) rfl)
theorem w_4 {a0 : Array Value} {Z : State} (H : Wd a0 Z) : (Jvm.Cond.initialized "com/example/plywright/plywright/games/ConnectFour").before a0 Z = true := H _ (List.mem_of_getElem? (i := 4) rfl)
theorem pd_0 : parseMethodDescriptor "(IIB)I" = some ⟨[.int, .int, .byte], some .int⟩ := by decide +kernel
theorem w_83 {a0 : Array Value} {Z : State} (H : Wd a0 Z) : (Jvm.Cond.privateMethod ({ cls := "com/example/plywright/plywright/games/ConnectFour", name := "run", desc := "(IIB)I" } : Jvm.MethodName)).before a0 Z = true := H _ (List.mem_of_getElem? (i := 83) rfl)
theorem w_82 {a0 : Array Value} {Z : State} (H : Wd a0 Z) : (Jvm.Cond.instanceMethod ({ cls := "com/example/plywright/plywright/games/ConnectFour", name := "run", desc := "(IIB)I" } : Jvm.MethodName)).before a0 Z = true := H _ (List.mem_of_getElem? (i := 82) rfl)
theorem w_61 {a0 : Array Value} {Z : State} (H : Wd a0 Z) : (Jvm.Cond.selects "com/example/plywright/plywright/games/ConnectFour" ({ cls := "com/example/plywright/plywright/games/ConnectFour", name := "play", desc := "(I)V" } : Jvm.MethodName) ({ cls := "com/example/plywright/plywright/games/ConnectFour", name := "play", desc := "(I)V" } : Jvm.MethodName)).before a0 Z = true := H _ (List.mem_of_getElem? (i := 61) rfl)
theorem sp_run {a0 : Array Value} {Z : State} (H : Wd a0 Z) : (Jvm.Cond.selects "com/example/plywright/plywright/games/ConnectFour" ({ cls := "com/example/plywright/plywright/games/ConnectFour", name := "run", desc := "(IIB)I" } : Jvm.MethodName) ({ cls := "com/example/plywright/plywright/games/ConnectFour", name := "run", desc := "(IIB)I" } : Jvm.MethodName)).before a0 Z = true := sel_private (w_83 H) (w_82 H) (w_61 H) rfl (by decide)
theorem w_81 {a0 : Array Value} {Z : State} (H : Wd a0 Z) : (Jvm.Cond.methodLink "com/example/plywright/plywright/games/ConnectFour" (130 : Nat) ({ cls := "com/example/plywright/plywright/games/ConnectFour", name := "run", desc := "(IIB)I" } : Jvm.MethodName)).before a0 Z = true := H _ (List.mem_of_getElem? (i := 81) rfl)
theorem d9_34 : Dc prog_19_method_14_code 34 (.iadd) 1 35 := ⟨by decide +kernel, rfl⟩
theorem d9_35 : Dc prog_19_method_14_code 35 (.aload_n 0) 1 36 := ⟨by decide +kernel, rfl⟩
theorem d9_36 : Dc prog_19_method_14_code 36 (.iload_n 1) 1 37 := ⟨by decide +kernel, rfl⟩
theorem d9_37 : Dc prog_19_method_14_code 37 (.iload 6) 2 39 := ⟨by decide +kernel, rfl⟩
theorem d9_39 : Dc prog_19_method_14_code 39 (.ineg) 1 40 := ⟨by decide +kernel, rfl⟩
theorem d9_40 : Dc prog_19_method_14_code 40 (.iload_n 2) 1 41 := ⟨by decide +kernel, rfl⟩
theorem d9_41 : Dc prog_19_method_14_code 41 (.invokevirtual 130) 3 44 := ⟨by decide +kernel, rfl⟩
theorem d9_44 : Dc prog_19_method_14_code 44 (.iadd) 1 45 := ⟨by decide +kernel, rfl⟩
theorem d9_45 : Dc prog_19_method_14_code 45 (.istore 7) 2 47 := ⟨by decide +kernel, rfl⟩
theorem d9_47 : Dc prog_19_method_14_code 47 (.iload 7) 2 49 := ⟨by decide +kernel, rfl⟩
theorem d9_49 : Dc prog_19_method_14_code 49 (.iconst 4) 1 50 := ⟨by decide +kernel, rfl⟩
theorem d9_50 : Db prog_19_method_14_code 50 (.if_icmp .lt 5) 5 53 55 := ⟨by decide +kernel, rfl, rfl⟩
theorem d9_55 : Dc prog_19_method_14_code 55 (.iinc 5 1) 3 58 := ⟨by decide +kernel, rfl⟩
theorem d9_58 : Db prog_19_method_14_code 58 (.goto (-46)) (-46) 61 12 := ⟨by decide +kernel, rfl, rfl⟩
theorem d9_61 : Dc prog_19_method_14_code 61 (.iconst 0) 1 62 := ⟨by decide +kernel, rfl⟩
theorem d9_62 : Dc prog_19_method_14_code 62 (.ireturn) 1 63 := ⟨by decide +kernel, rfl⟩
set_option maxRecDepth 65536 in
set_option maxHeartbeats 40000000 in
theorem rmM0 {l : Launch} {Z : State} {a0 : Array Value} {n0 : Nat} (H : Wd a0 Z) (g sq la : Addr) (N W q : Nat) (f : Nat → Int32) (s : Int32) (h0 : Heap) (Z0 : n0 ≤ h0.size) (FS : Fld Z h0 g "com/example/plywright/plywright/games/ConnectFour" "squares" "[B" (.ref sq)) (FL : Fld Z h0 g "com/example/plywright/plywright/games/ConnectFour" "lineSteps" "[I" (.ref la)) (EG : Exa Z h0 g "com/example/plywright/plywright/games/ConnectFour") (AS : AV Z h0 sq .byte (bm N f)) (AL : AV Z h0 la .int [(.int (1 : Int32)), (.int (Int32.ofNat (W + 4))), (.int (Int32.ofNat (W + 5))), (.int (Int32.ofNat (W + 3)))]) (hN : N < 1000) (q1 : 2 * (W + 5) ≤ q) (q2 : q + 2 * (W + 5) < N) (up : ¬ f (q + (W + 4)) = s) (p0 : ¬ f (q + 1) = s ∨ ¬ f (q + 2 * 1) = s) (m0 : ¬ f (q - 1) = s ∨ ¬ f (q - 2 * 1) = s) (p2 : ¬ f (q + (W + 5)) = s ∨ ¬ f (q + 2 * (W + 5)) = s) (m2 : ¬ f (q - (W + 5)) = s ∨ ¬ f (q - 2 * (W + 5)) = s) (p3 : ¬ f (q + (W + 3)) = s ∨ ¬ f (q + 2 * (W + 3)) = s) (m3 : ¬ f (q - (W + 3)) = s ∨ ¬ f (q - 2 * (W + 3)) = s) (wz : ¬ f (q - 1 * (W + 4)) = s) (wb : 1 * (W + 4) ≤ q) :
    Ct l Z n0 (⟨"com/example/plywright/plywright/games/ConnectFour", "makesFour", "(IB)Z"⟩ : MethodName) prog_19_method_14_code 8 (some .boolean) [] ({ frames := 1, cells := 0, slots := 0, locals := 19 } : Room) #[(.ref g), (.int (Int32.ofNat q)), (.int s)] h0 (fun v h => v = some (.int (0 : Int32)) ∧ h0 = h) := by
  refine Ct.of (a0 := a0) (L0 := #[.val (.ref g), .val (.int (Int32.ofNat q)), .val (.int s), .unset, .unset, .unset, .unset, .unset]) (plainFor_of_name pn_com_example_plywright_plywright_games_ConnectFour) (fun m => by first | (simp [entryFrame, mkF, argsToLocals, Value.category]; done) | rfl) ?_
  intro κ B0
  have B : Ok κ l Z a0 n0 ({ frames := 1, cells := 0, slots := 0, locals := 19 } : Room) "com/example/plywright/plywright/games/ConnectFour" "makesFour" prog_19_method_14_code 8 (some .boolean) := B0
  refine go_aload_n B d9_0 rfl rfl ?_
  refine go_getfield B d9_1 (w_54 H) FL ?_
  refine go_astore_n B #[.val (.ref g), .val (.int (Int32.ofNat q)), .val (.int s), .val (.ref la), .unset, .unset, .unset, .unset] d9_4 rfl rfl ?_
  refine go_aload_n B d9_5 rfl rfl ?_
  refine go_arraylength B (x := (4 : Int32)) d9_6 AL rfl ?_
  refine go_istore B #[.val (.ref g), .val (.int (Int32.ofNat q)), .val (.int s), .val (.ref la), .val (.int (4 : Int32)), .unset, .unset, .unset] d9_7 rfl ?_
  refine go_iconst B (x := (0 : Int32)) d9_9 rfl ?_
  refine go_istore B #[.val (.ref g), .val (.int (Int32.ofNat q)), .val (.int s), .val (.ref la), .val (.int (4 : Int32)), .val (.int (0 : Int32)), .unset, .unset] d9_10 rfl ?_
  refine go_iload B d9_12 rfl ?_
  refine go_iload B d9_14 rfl ?_
  refine go_icmpge B d9_16 (fun c16 => ?_) (fun c16 => ?_)
  · exact absurd c16 (by decide)
  refine go_aload_n B d9_19 rfl rfl ?_
  refine go_iload B d9_20 rfl ?_
  refine go_iaload B (i := 0) (v := (.int (1 : Int32))) d9_22 AL rfl rfl ?_
  refine go_istore B #[.val (.ref g), .val (.int (Int32.ofNat q)), .val (.int s), .val (.ref la), .val (.int (4 : Int32)), .val (.int (0 : Int32)), .val (.int (1 : Int32)), .unset] d9_23 rfl ?_
  refine go_iconst B (x := (1 : Int32)) d9_25 rfl ?_
  refine go_aload_n B d9_26 rfl rfl ?_
  refine go_iload_n B d9_27 rfl ?_
  refine go_iload B d9_28 rfl ?_
  refine go_iload_n B d9_30 rfl ?_
  refine go_private B (W' := 1) (a := g) (argsL := [(.int (Int32.ofNat q)), (.int (1 : Int32)), (.int s)]) (st := [(.int (1 : Int32))]) d9_31 (w_81 H) (sp_run H) (w_83 H) (w_82 H) (w_4 H) (w_84 H) (by decide) EG (rmRunH H g sq N f (Int32.ofNat q) (1 : Int32) s (q + 1) (q + 2 * 1) h0 Z0 FS AS hN (n_step (d := 1) (by first | rfl | decide) (by omega)) (by omega) (n_step (d := 1) (by first | rfl | decide) (by omega)) (by omega) p0) pd_0 rfl rfl rfl rfl (by decide) (by decide) (by decide) (by decide) ?_
  rintro _ h10 ⟨r8, rfl, hr9, rfl⟩
  show Go κ _ h0 _ _ 34 #[.val (.ref g), .val (.int (Int32.ofNat q)), .val (.int s), .val (.ref la), .val (.int (4 : Int32)), .val (.int (0 : Int32)), .val (.int (1 : Int32)), .unset] [(.int r8), (.int (1 : Int32))]
  refine go_iadd B d9_34 ?_
  refine go_aload_n B d9_35 rfl rfl ?_
  refine go_iload_n B d9_36 rfl ?_
  refine go_iload B d9_37 rfl ?_
  refine go_ineg B d9_39 ?_
  rw [show (-(1 : Int32)) = (-1 : Int32) from by decide]
  refine go_iload_n B d9_40 rfl ?_
  refine go_private B (W' := 1) (a := g) (argsL := [(.int (Int32.ofNat q)), (.int (-1 : Int32)), (.int s)]) (st := [(.int ((1 : Int32) + r8))]) d9_41 (w_81 H) (sp_run H) (w_83 H) (w_82 H) (w_4 H) (w_84 H) (by decide) EG (rmRunH H g sq N f (Int32.ofNat q) (-1 : Int32) s (q - 1) (q - 2 * 1) h0 Z0 FS AS hN (n_back (d := 1) (by first | rfl | decide) (by omega)) (by omega) (n_back (d := 1) (by first | rfl | decide) (by omega)) (by omega) m0) pd_0 rfl rfl rfl rfl (by decide) (by decide) (by decide) (by decide) ?_
  rintro _ h13 ⟨r11, rfl, hr12, rfl⟩
  show Go κ _ h0 _ _ 44 #[.val (.ref g), .val (.int (Int32.ofNat q)), .val (.int s), .val (.ref la), .val (.int (4 : Int32)), .val (.int (0 : Int32)), .val (.int (1 : Int32)), .unset] [(.int r11), (.int ((1 : Int32) + r8))]
  refine go_iadd B d9_44 ?_
  refine go_istore B #[.val (.ref g), .val (.int (Int32.ofNat q)), .val (.int s), .val (.ref la), .val (.int (4 : Int32)), .val (.int (0 : Int32)), .val (.int (1 : Int32)), .val (.int (((1 : Int32) + r8) + r11))] d9_45 rfl ?_
  refine go_iload B d9_47 rfl ?_
  refine go_iconst B (x := (4 : Int32)) d9_49 rfl ?_
  refine go_icmplt B d9_50 (fun c50 => ?_) (fun c50 => ?_)
  rotate_left
  · exact absurd (own_lt3 hr9 hr12) c50
  refine go_iinc B #[.val (.ref g), .val (.int (Int32.ofNat q)), .val (.int s), .val (.ref la), .val (.int (4 : Int32)), .val (.int ((0 : Int32) + (1 : Int32))), .val (.int (1 : Int32)), .val (.int (((1 : Int32) + r8) + r11))] d9_55 (z := (1 : Int32)) rfl rfl rfl ?_
  rw [show ((0 : Int32) + (1 : Int32)) = (1 : Int32) from by decide]
  refine go_goto B d9_58 ?_
  refine go_iload B d9_12 rfl ?_
  refine go_iload B d9_14 rfl ?_
  refine go_icmpge B d9_16 (fun c16_14 => ?_) (fun c16_14 => ?_)
  · exact absurd c16_14 (by decide)
  refine go_aload_n B d9_19 rfl rfl ?_
  refine go_iload B d9_20 rfl ?_
  refine go_iaload B (i := 1) (v := (.int (Int32.ofNat (W + 4)))) d9_22 AL rfl rfl ?_
  refine go_istore B #[.val (.ref g), .val (.int (Int32.ofNat q)), .val (.int s), .val (.ref la), .val (.int (4 : Int32)), .val (.int (1 : Int32)), .val (.int (Int32.ofNat (W + 4))), .val (.int (((1 : Int32) + r8) + r11))] d9_23 rfl ?_
  refine go_iconst B (x := (1 : Int32)) d9_25 rfl ?_
  refine go_aload_n B d9_26 rfl rfl ?_
  refine go_iload_n B d9_27 rfl ?_
  refine go_iload B d9_28 rfl ?_
  refine go_iload_n B d9_30 rfl ?_
  refine go_private B (W' := 1) (a := g) (argsL := [(.int (Int32.ofNat q)), (.int (Int32.ofNat (W + 4))), (.int s)]) (st := [(.int (1 : Int32))]) d9_31 (w_81 H) (sp_run H) (w_83 H) (w_82 H) (w_4 H) (w_84 H) (by decide) EG (rmRun0 H g sq N f (Int32.ofNat q) (Int32.ofNat (W + 4)) s (q + (W + 4)) h0 Z0 FS AS hN (n_step (d := (W + 4)) (by first | rfl | decide) (by omega)) (by omega) up) pd_0 rfl rfl rfl rfl (by decide) (by decide) (by decide) (by decide) ?_
  rintro _ h15 ⟨rfl, rfl⟩
  show Go κ _ h0 _ _ 34 #[.val (.ref g), .val (.int (Int32.ofNat q)), .val (.int s), .val (.ref la), .val (.int (4 : Int32)), .val (.int (1 : Int32)), .val (.int (Int32.ofNat (W + 4))), .val (.int (((1 : Int32) + r8) + r11))] [(.int (0 : Int32)), (.int (1 : Int32))]
  refine go_iadd B d9_34 ?_
  rw [show ((1 : Int32) + (0 : Int32)) = (1 : Int32) from by decide]
  refine go_aload_n B d9_35 rfl rfl ?_
  refine go_iload_n B d9_36 rfl ?_
  refine go_iload B d9_37 rfl ?_
  refine go_ineg B d9_39 ?_
  refine go_iload_n B d9_40 rfl ?_
  refine go_private B (W' := 1) (a := g) (argsL := [(.int (Int32.ofNat q)), (.int (-(Int32.ofNat (W + 4)))), (.int s)]) (st := [(.int (1 : Int32))]) d9_41 (w_81 H) (sp_run H) (w_83 H) (w_82 H) (w_4 H) (w_84 H) (by decide) EG (rmRun0 H g sq N f (Int32.ofNat q) (-(Int32.ofNat (W + 4))) s (q - 1 * (W + 4)) h0 Z0 FS AS hN (n_back (d := (W + 4)) (by first | rfl | decide) (by omega)) (by omega) wz) pd_0 rfl rfl rfl rfl (by decide) (by decide) (by decide) (by decide) ?_
  rintro _ h16 ⟨rfl, rfl⟩
  show Go κ _ h0 _ _ 44 #[.val (.ref g), .val (.int (Int32.ofNat q)), .val (.int s), .val (.ref la), .val (.int (4 : Int32)), .val (.int (1 : Int32)), .val (.int (Int32.ofNat (W + 4))), .val (.int (((1 : Int32) + r8) + r11))] [(.int (0 : Int32)), (.int (1 : Int32))]
  refine go_iadd B d9_44 ?_
  rw [show ((1 : Int32) + (0 : Int32)) = (1 : Int32) from by decide]
  refine go_istore B #[.val (.ref g), .val (.int (Int32.ofNat q)), .val (.int s), .val (.ref la), .val (.int (4 : Int32)), .val (.int (1 : Int32)), .val (.int (Int32.ofNat (W + 4))), .val (.int (1 : Int32))] d9_45 rfl ?_
  refine go_iload B d9_47 rfl ?_
  refine go_iconst B (x := (4 : Int32)) d9_49 rfl ?_
  refine go_icmplt B d9_50 (fun c50_17 => ?_) (fun c50_17 => ?_)
  rotate_left
  · exact absurd c50_17 (by decide)
  refine go_iinc B #[.val (.ref g), .val (.int (Int32.ofNat q)), .val (.int s), .val (.ref la), .val (.int (4 : Int32)), .val (.int ((1 : Int32) + (1 : Int32))), .val (.int (Int32.ofNat (W + 4))), .val (.int (1 : Int32))] d9_55 (z := (1 : Int32)) rfl rfl rfl ?_
  rw [show ((1 : Int32) + (1 : Int32)) = (2 : Int32) from by decide]
  refine go_goto B d9_58 ?_
  refine go_iload B d9_12 rfl ?_
  refine go_iload B d9_14 rfl ?_
  refine go_icmpge B d9_16 (fun c16_18 => ?_) (fun c16_18 => ?_)
  · exact absurd c16_18 (by decide)
  refine go_aload_n B d9_19 rfl rfl ?_
  refine go_iload B d9_20 rfl ?_
  refine go_iaload B (i := 2) (v := (.int (Int32.ofNat (W + 5)))) d9_22 AL rfl rfl ?_
  refine go_istore B #[.val (.ref g), .val (.int (Int32.ofNat q)), .val (.int s), .val (.ref la), .val (.int (4 : Int32)), .val (.int (2 : Int32)), .val (.int (Int32.ofNat (W + 5))), .val (.int (1 : Int32))] d9_23 rfl ?_
  refine go_iconst B (x := (1 : Int32)) d9_25 rfl ?_
  refine go_aload_n B d9_26 rfl rfl ?_
  refine go_iload_n B d9_27 rfl ?_
  refine go_iload B d9_28 rfl ?_
  refine go_iload_n B d9_30 rfl ?_
  refine go_private B (W' := 1) (a := g) (argsL := [(.int (Int32.ofNat q)), (.int (Int32.ofNat (W + 5))), (.int s)]) (st := [(.int (1 : Int32))]) d9_31 (w_81 H) (sp_run H) (w_83 H) (w_82 H) (w_4 H) (w_84 H) (by decide) EG (rmRunH H g sq N f (Int32.ofNat q) (Int32.ofNat (W + 5)) s (q + (W + 5)) (q + 2 * (W + 5)) h0 Z0 FS AS hN (n_step (d := (W + 5)) (by first | rfl | decide) (by omega)) (by omega) (n_step (d := (W + 5)) (by first | rfl | decide) (by omega)) (by omega) p2) pd_0 rfl rfl rfl rfl (by decide) (by decide) (by decide) (by decide) ?_
  rintro _ h21 ⟨r19, rfl, hr20, rfl⟩
  show Go κ _ h0 _ _ 34 #[.val (.ref g), .val (.int (Int32.ofNat q)), .val (.int s), .val (.ref la), .val (.int (4 : Int32)), .val (.int (2 : Int32)), .val (.int (Int32.ofNat (W + 5))), .val (.int (1 : Int32))] [(.int r19), (.int (1 : Int32))]
  refine go_iadd B d9_34 ?_
  refine go_aload_n B d9_35 rfl rfl ?_
  refine go_iload_n B d9_36 rfl ?_
  refine go_iload B d9_37 rfl ?_
  refine go_ineg B d9_39 ?_
  refine go_iload_n B d9_40 rfl ?_
  refine go_private B (W' := 1) (a := g) (argsL := [(.int (Int32.ofNat q)), (.int (-(Int32.ofNat (W + 5)))), (.int s)]) (st := [(.int ((1 : Int32) + r19))]) d9_41 (w_81 H) (sp_run H) (w_83 H) (w_82 H) (w_4 H) (w_84 H) (by decide) EG (rmRunH H g sq N f (Int32.ofNat q) (-(Int32.ofNat (W + 5))) s (q - (W + 5)) (q - 2 * (W + 5)) h0 Z0 FS AS hN (n_back (d := (W + 5)) (by first | rfl | decide) (by omega)) (by omega) (n_back (d := (W + 5)) (by first | rfl | decide) (by omega)) (by omega) m2) pd_0 rfl rfl rfl rfl (by decide) (by decide) (by decide) (by decide) ?_
  rintro _ h24 ⟨r22, rfl, hr23, rfl⟩
  show Go κ _ h0 _ _ 44 #[.val (.ref g), .val (.int (Int32.ofNat q)), .val (.int s), .val (.ref la), .val (.int (4 : Int32)), .val (.int (2 : Int32)), .val (.int (Int32.ofNat (W + 5))), .val (.int (1 : Int32))] [(.int r22), (.int ((1 : Int32) + r19))]
  refine go_iadd B d9_44 ?_
  refine go_istore B #[.val (.ref g), .val (.int (Int32.ofNat q)), .val (.int s), .val (.ref la), .val (.int (4 : Int32)), .val (.int (2 : Int32)), .val (.int (Int32.ofNat (W + 5))), .val (.int (((1 : Int32) + r19) + r22))] d9_45 rfl ?_
  refine go_iload B d9_47 rfl ?_
  refine go_iconst B (x := (4 : Int32)) d9_49 rfl ?_
  refine go_icmplt B d9_50 (fun c50_25 => ?_) (fun c50_25 => ?_)
  rotate_left
  · exact absurd (own_lt3 hr20 hr23) c50_25
  refine go_iinc B #[.val (.ref g), .val (.int (Int32.ofNat q)), .val (.int s), .val (.ref la), .val (.int (4 : Int32)), .val (.int ((2 : Int32) + (1 : Int32))), .val (.int (Int32.ofNat (W + 5))), .val (.int (((1 : Int32) + r19) + r22))] d9_55 (z := (1 : Int32)) rfl rfl rfl ?_
  rw [show ((2 : Int32) + (1 : Int32)) = (3 : Int32) from by decide]
  refine go_goto B d9_58 ?_
  refine go_iload B d9_12 rfl ?_
  refine go_iload B d9_14 rfl ?_
  refine go_icmpge B d9_16 (fun c16_26 => ?_) (fun c16_26 => ?_)
  · exact absurd c16_26 (by decide)
  refine go_aload_n B d9_19 rfl rfl ?_
  refine go_iload B d9_20 rfl ?_
  refine go_iaload B (i := 3) (v := (.int (Int32.ofNat (W + 3)))) d9_22 AL rfl rfl ?_
  refine go_istore B #[.val (.ref g), .val (.int (Int32.ofNat q)), .val (.int s), .val (.ref la), .val (.int (4 : Int32)), .val (.int (3 : Int32)), .val (.int (Int32.ofNat (W + 3))), .val (.int (((1 : Int32) + r19) + r22))] d9_23 rfl ?_
  refine go_iconst B (x := (1 : Int32)) d9_25 rfl ?_
  refine go_aload_n B d9_26 rfl rfl ?_
  refine go_iload_n B d9_27 rfl ?_
  refine go_iload B d9_28 rfl ?_
  refine go_iload_n B d9_30 rfl ?_
  refine go_private B (W' := 1) (a := g) (argsL := [(.int (Int32.ofNat q)), (.int (Int32.ofNat (W + 3))), (.int s)]) (st := [(.int (1 : Int32))]) d9_31 (w_81 H) (sp_run H) (w_83 H) (w_82 H) (w_4 H) (w_84 H) (by decide) EG (rmRunH H g sq N f (Int32.ofNat q) (Int32.ofNat (W + 3)) s (q + (W + 3)) (q + 2 * (W + 3)) h0 Z0 FS AS hN (n_step (d := (W + 3)) (by first | rfl | decide) (by omega)) (by omega) (n_step (d := (W + 3)) (by first | rfl | decide) (by omega)) (by omega) p3) pd_0 rfl rfl rfl rfl (by decide) (by decide) (by decide) (by decide) ?_
  rintro _ h29 ⟨r27, rfl, hr28, rfl⟩
  show Go κ _ h0 _ _ 34 #[.val (.ref g), .val (.int (Int32.ofNat q)), .val (.int s), .val (.ref la), .val (.int (4 : Int32)), .val (.int (3 : Int32)), .val (.int (Int32.ofNat (W + 3))), .val (.int (((1 : Int32) + r19) + r22))] [(.int r27), (.int (1 : Int32))]
  refine go_iadd B d9_34 ?_
  refine go_aload_n B d9_35 rfl rfl ?_
  refine go_iload_n B d9_36 rfl ?_
  refine go_iload B d9_37 rfl ?_
  refine go_ineg B d9_39 ?_
  refine go_iload_n B d9_40 rfl ?_
  refine go_private B (W' := 1) (a := g) (argsL := [(.int (Int32.ofNat q)), (.int (-(Int32.ofNat (W + 3)))), (.int s)]) (st := [(.int ((1 : Int32) + r27))]) d9_41 (w_81 H) (sp_run H) (w_83 H) (w_82 H) (w_4 H) (w_84 H) (by decide) EG (rmRunH H g sq N f (Int32.ofNat q) (-(Int32.ofNat (W + 3))) s (q - (W + 3)) (q - 2 * (W + 3)) h0 Z0 FS AS hN (n_back (d := (W + 3)) (by first | rfl | decide) (by omega)) (by omega) (n_back (d := (W + 3)) (by first | rfl | decide) (by omega)) (by omega) m3) pd_0 rfl rfl rfl rfl (by decide) (by decide) (by decide) (by decide) ?_
  rintro _ h32 ⟨r30, rfl, hr31, rfl⟩
  show Go κ _ h0 _ _ 44 #[.val (.ref g), .val (.int (Int32.ofNat q)), .val (.int s), .val (.ref la), .val (.int (4 : Int32)), .val (.int (3 : Int32)), .val (.int (Int32.ofNat (W + 3))), .val (.int (((1 : Int32) + r19) + r22))] [(.int r30), (.int ((1 : Int32) + r27))]
  refine go_iadd B d9_44 ?_
  refine go_istore B #[.val (.ref g), .val (.int (Int32.ofNat q)), .val (.int s), .val (.ref la), .val (.int (4 : Int32)), .val (.int (3 : Int32)), .val (.int (Int32.ofNat (W + 3))), .val (.int (((1 : Int32) + r27) + r30))] d9_45 rfl ?_
  refine go_iload B d9_47 rfl ?_
  refine go_iconst B (x := (4 : Int32)) d9_49 rfl ?_
  refine go_icmplt B d9_50 (fun c50_33 => ?_) (fun c50_33 => ?_)
  rotate_left
  · exact absurd (own_lt3 hr28 hr31) c50_33
  refine go_iinc B #[.val (.ref g), .val (.int (Int32.ofNat q)), .val (.int s), .val (.ref la), .val (.int (4 : Int32)), .val (.int ((3 : Int32) + (1 : Int32))), .val (.int (Int32.ofNat (W + 3))), .val (.int (((1 : Int32) + r27) + r30))] d9_55 (z := (1 : Int32)) rfl rfl rfl ?_
  rw [show ((3 : Int32) + (1 : Int32)) = (4 : Int32) from by decide]
  refine go_goto B d9_58 ?_
  refine go_iload B d9_12 rfl ?_
  refine go_iload B d9_14 rfl ?_
  refine go_icmpge B d9_16 (fun c16_34 => ?_) (fun c16_34 => ?_)
  rotate_left
  · exact absurd c16_34 (by decide)
  refine go_iconst B (x := (0 : Int32)) d9_61 rfl ?_
  refine go_zreturn B (y := (0 : Int32)) d9_62 (by decide) (by decide) (by decide) ?_
  exact ⟨rfl, rfl⟩
set_option maxRecDepth 65536 in
set_option maxHeartbeats 40000000 in
theorem rmM1 {l : Launch} {Z : State} {a0 : Array Value} {n0 : Nat} (H : Wd a0 Z) (g sq la : Addr) (N W q : Nat) (f : Nat → Int32) (s : Int32) (h0 : Heap) (Z0 : n0 ≤ h0.size) (FS : Fld Z h0 g "com/example/plywright/plywright/games/ConnectFour" "squares" "[B" (.ref sq)) (FL : Fld Z h0 g "com/example/plywright/plywright/games/ConnectFour" "lineSteps" "[I" (.ref la)) (EG : Exa Z h0 g "com/example/plywright/plywright/games/ConnectFour") (AS : AV Z h0 sq .byte (bm N f)) (AL : AV Z h0 la .int [(.int (1 : Int32)), (.int (Int32.ofNat (W + 4))), (.int (Int32.ofNat (W + 5))), (.int (Int32.ofNat (W + 3)))]) (hN : N < 1000) (q1 : 2 * (W + 5) ≤ q) (q2 : q + 2 * (W + 5) < N) (up : ¬ f (q + (W + 4)) = s) (p0 : ¬ f (q + 1) = s ∨ ¬ f (q + 2 * 1) = s) (m0 : ¬ f (q - 1) = s ∨ ¬ f (q - 2 * 1) = s) (p2 : ¬ f (q + (W + 5)) = s ∨ ¬ f (q + 2 * (W + 5)) = s) (m2 : ¬ f (q - (W + 5)) = s ∨ ¬ f (q - 2 * (W + 5)) = s) (p3 : ¬ f (q + (W + 3)) = s ∨ ¬ f (q + 2 * (W + 3)) = s) (m3 : ¬ f (q - (W + 3)) = s ∨ ¬ f (q - 2 * (W + 3)) = s) (w1 : f (q - 1 * (W + 4)) = s) (wz : ¬ f (q - 2 * (W + 4)) = s) (wb : 2 * (W + 4) ≤ q) :
    Ct l Z n0 (⟨"com/example/plywright/plywright/games/ConnectFour", "makesFour", "(IB)Z"⟩ : MethodName) prog_19_method_14_code 8 (some .boolean) [] ({ frames := 1, cells := 0, slots := 0, locals := 19 } : Room) #[(.ref g), (.int (Int32.ofNat q)), (.int s)] h0 (fun v h => v = some (.int (0 : Int32)) ∧ h0 = h) := by
  refine Ct.of (a0 := a0) (L0 := #[.val (.ref g), .val (.int (Int32.ofNat q)), .val (.int s), .unset, .unset, .unset, .unset, .unset]) (plainFor_of_name pn_com_example_plywright_plywright_games_ConnectFour) (fun m => by first | (simp [entryFrame, mkF, argsToLocals, Value.category]; done) | rfl) ?_
  intro κ B0
  have B : Ok κ l Z a0 n0 ({ frames := 1, cells := 0, slots := 0, locals := 19 } : Room) "com/example/plywright/plywright/games/ConnectFour" "makesFour" prog_19_method_14_code 8 (some .boolean) := B0
  refine go_aload_n B d9_0 rfl rfl ?_
  refine go_getfield B d9_1 (w_54 H) FL ?_
  refine go_astore_n B #[.val (.ref g), .val (.int (Int32.ofNat q)), .val (.int s), .val (.ref la), .unset, .unset, .unset, .unset] d9_4 rfl rfl ?_
  refine go_aload_n B d9_5 rfl rfl ?_
  refine go_arraylength B (x := (4 : Int32)) d9_6 AL rfl ?_
  refine go_istore B #[.val (.ref g), .val (.int (Int32.ofNat q)), .val (.int s), .val (.ref la), .val (.int (4 : Int32)), .unset, .unset, .unset] d9_7 rfl ?_
  refine go_iconst B (x := (0 : Int32)) d9_9 rfl ?_
  refine go_istore B #[.val (.ref g), .val (.int (Int32.ofNat q)), .val (.int s), .val (.ref la), .val (.int (4 : Int32)), .val (.int (0 : Int32)), .unset, .unset] d9_10 rfl ?_
  refine go_iload B d9_12 rfl ?_
  refine go_iload B d9_14 rfl ?_
  refine go_icmpge B d9_16 (fun c16 => ?_) (fun c16 => ?_)
  · exact absurd c16 (by decide)
  refine go_aload_n B d9_19 rfl rfl ?_
  refine go_iload B d9_20 rfl ?_
  refine go_iaload B (i := 0) (v := (.int (1 : Int32))) d9_22 AL rfl rfl ?_
  refine go_istore B #[.val (.ref g), .val (.int (Int32.ofNat q)), .val (.int s), .val (.ref la), .val (.int (4 : Int32)), .val (.int (0 : Int32)), .val (.int (1 : Int32)), .unset] d9_23 rfl ?_
  refine go_iconst B (x := (1 : Int32)) d9_25 rfl ?_
  refine go_aload_n B d9_26 rfl rfl ?_
  refine go_iload_n B d9_27 rfl ?_
  refine go_iload B d9_28 rfl ?_
  refine go_iload_n B d9_30 rfl ?_
  refine go_private B (W' := 1) (a := g) (argsL := [(.int (Int32.ofNat q)), (.int (1 : Int32)), (.int s)]) (st := [(.int (1 : Int32))]) d9_31 (w_81 H) (sp_run H) (w_83 H) (w_82 H) (w_4 H) (w_84 H) (by decide) EG (rmRunH H g sq N f (Int32.ofNat q) (1 : Int32) s (q + 1) (q + 2 * 1) h0 Z0 FS AS hN (n_step (d := 1) (by first | rfl | decide) (by omega)) (by omega) (n_step (d := 1) (by first | rfl | decide) (by omega)) (by omega) p0) pd_0 rfl rfl rfl rfl (by decide) (by decide) (by decide) (by decide) ?_
  rintro _ h37 ⟨r35, rfl, hr36, rfl⟩
  show Go κ _ h0 _ _ 34 #[.val (.ref g), .val (.int (Int32.ofNat q)), .val (.int s), .val (.ref la), .val (.int (4 : Int32)), .val (.int (0 : Int32)), .val (.int (1 : Int32)), .unset] [(.int r35), (.int (1 : Int32))]
  refine go_iadd B d9_34 ?_
  refine go_aload_n B d9_35 rfl rfl ?_
  refine go_iload_n B d9_36 rfl ?_
  refine go_iload B d9_37 rfl ?_
  refine go_ineg B d9_39 ?_
  rw [show (-(1 : Int32)) = (-1 : Int32) from by decide]
  refine go_iload_n B d9_40 rfl ?_
  refine go_private B (W' := 1) (a := g) (argsL := [(.int (Int32.ofNat q)), (.int (-1 : Int32)), (.int s)]) (st := [(.int ((1 : Int32) + r35))]) d9_41 (w_81 H) (sp_run H) (w_83 H) (w_82 H) (w_4 H) (w_84 H) (by decide) EG (rmRunH H g sq N f (Int32.ofNat q) (-1 : Int32) s (q - 1) (q - 2 * 1) h0 Z0 FS AS hN (n_back (d := 1) (by first | rfl | decide) (by omega)) (by omega) (n_back (d := 1) (by first | rfl | decide) (by omega)) (by omega) m0) pd_0 rfl rfl rfl rfl (by decide) (by decide) (by decide) (by decide) ?_
  rintro _ h40 ⟨r38, rfl, hr39, rfl⟩
  show Go κ _ h0 _ _ 44 #[.val (.ref g), .val (.int (Int32.ofNat q)), .val (.int s), .val (.ref la), .val (.int (4 : Int32)), .val (.int (0 : Int32)), .val (.int (1 : Int32)), .unset] [(.int r38), (.int ((1 : Int32) + r35))]
  refine go_iadd B d9_44 ?_
  refine go_istore B #[.val (.ref g), .val (.int (Int32.ofNat q)), .val (.int s), .val (.ref la), .val (.int (4 : Int32)), .val (.int (0 : Int32)), .val (.int (1 : Int32)), .val (.int (((1 : Int32) + r35) + r38))] d9_45 rfl ?_
  refine go_iload B d9_47 rfl ?_
  refine go_iconst B (x := (4 : Int32)) d9_49 rfl ?_
  refine go_icmplt B d9_50 (fun c50 => ?_) (fun c50 => ?_)
  rotate_left
  · exact absurd (own_lt3 hr36 hr39) c50
  refine go_iinc B #[.val (.ref g), .val (.int (Int32.ofNat q)), .val (.int s), .val (.ref la), .val (.int (4 : Int32)), .val (.int ((0 : Int32) + (1 : Int32))), .val (.int (1 : Int32)), .val (.int (((1 : Int32) + r35) + r38))] d9_55 (z := (1 : Int32)) rfl rfl rfl ?_
  rw [show ((0 : Int32) + (1 : Int32)) = (1 : Int32) from by decide]
  refine go_goto B d9_58 ?_
  refine go_iload B d9_12 rfl ?_
  refine go_iload B d9_14 rfl ?_
  refine go_icmpge B d9_16 (fun c16_41 => ?_) (fun c16_41 => ?_)
  · exact absurd c16_41 (by decide)
  refine go_aload_n B d9_19 rfl rfl ?_
  refine go_iload B d9_20 rfl ?_
  refine go_iaload B (i := 1) (v := (.int (Int32.ofNat (W + 4)))) d9_22 AL rfl rfl ?_
  refine go_istore B #[.val (.ref g), .val (.int (Int32.ofNat q)), .val (.int s), .val (.ref la), .val (.int (4 : Int32)), .val (.int (1 : Int32)), .val (.int (Int32.ofNat (W + 4))), .val (.int (((1 : Int32) + r35) + r38))] d9_23 rfl ?_
  refine go_iconst B (x := (1 : Int32)) d9_25 rfl ?_
  refine go_aload_n B d9_26 rfl rfl ?_
  refine go_iload_n B d9_27 rfl ?_
  refine go_iload B d9_28 rfl ?_
  refine go_iload_n B d9_30 rfl ?_
  refine go_private B (W' := 1) (a := g) (argsL := [(.int (Int32.ofNat q)), (.int (Int32.ofNat (W + 4))), (.int s)]) (st := [(.int (1 : Int32))]) d9_31 (w_81 H) (sp_run H) (w_83 H) (w_82 H) (w_4 H) (w_84 H) (by decide) EG (rmRun0 H g sq N f (Int32.ofNat q) (Int32.ofNat (W + 4)) s (q + (W + 4)) h0 Z0 FS AS hN (n_step (d := (W + 4)) (by first | rfl | decide) (by omega)) (by omega) up) pd_0 rfl rfl rfl rfl (by decide) (by decide) (by decide) (by decide) ?_
  rintro _ h42 ⟨rfl, rfl⟩
  show Go κ _ h0 _ _ 34 #[.val (.ref g), .val (.int (Int32.ofNat q)), .val (.int s), .val (.ref la), .val (.int (4 : Int32)), .val (.int (1 : Int32)), .val (.int (Int32.ofNat (W + 4))), .val (.int (((1 : Int32) + r35) + r38))] [(.int (0 : Int32)), (.int (1 : Int32))]
  refine go_iadd B d9_34 ?_
  rw [show ((1 : Int32) + (0 : Int32)) = (1 : Int32) from by decide]
  refine go_aload_n B d9_35 rfl rfl ?_
  refine go_iload_n B d9_36 rfl ?_
  refine go_iload B d9_37 rfl ?_
  refine go_ineg B d9_39 ?_
  refine go_iload_n B d9_40 rfl ?_
  refine go_private B (W' := 1) (a := g) (argsL := [(.int (Int32.ofNat q)), (.int (-(Int32.ofNat (W + 4)))), (.int s)]) (st := [(.int (1 : Int32))]) d9_41 (w_81 H) (sp_run H) (w_83 H) (w_82 H) (w_4 H) (w_84 H) (by decide) EG (rmRun1 H g sq N f (Int32.ofNat q) (-(Int32.ofNat (W + 4))) s (q - 1 * (W + 4)) (q - 2 * (W + 4)) h0 Z0 FS AS hN (n_back (d := (W + 4)) (by first | rfl | decide) (by omega)) (by omega) w1 (n_back (d := (W + 4)) (by first | rfl | decide) (by omega)) (by omega) wz) pd_0 rfl rfl rfl rfl (by decide) (by decide) (by decide) (by decide) ?_
  rintro _ h43 ⟨rfl, rfl⟩
  show Go κ _ h0 _ _ 44 #[.val (.ref g), .val (.int (Int32.ofNat q)), .val (.int s), .val (.ref la), .val (.int (4 : Int32)), .val (.int (1 : Int32)), .val (.int (Int32.ofNat (W + 4))), .val (.int (((1 : Int32) + r35) + r38))] [(.int (1 : Int32)), (.int (1 : Int32))]
  refine go_iadd B d9_44 ?_
  rw [show ((1 : Int32) + (1 : Int32)) = (2 : Int32) from by decide]
  refine go_istore B #[.val (.ref g), .val (.int (Int32.ofNat q)), .val (.int s), .val (.ref la), .val (.int (4 : Int32)), .val (.int (1 : Int32)), .val (.int (Int32.ofNat (W + 4))), .val (.int (2 : Int32))] d9_45 rfl ?_
  refine go_iload B d9_47 rfl ?_
  refine go_iconst B (x := (4 : Int32)) d9_49 rfl ?_
  refine go_icmplt B d9_50 (fun c50_44 => ?_) (fun c50_44 => ?_)
  rotate_left
  · exact absurd c50_44 (by decide)
  refine go_iinc B #[.val (.ref g), .val (.int (Int32.ofNat q)), .val (.int s), .val (.ref la), .val (.int (4 : Int32)), .val (.int ((1 : Int32) + (1 : Int32))), .val (.int (Int32.ofNat (W + 4))), .val (.int (2 : Int32))] d9_55 (z := (1 : Int32)) rfl rfl rfl ?_
  rw [show ((1 : Int32) + (1 : Int32)) = (2 : Int32) from by decide]
  refine go_goto B d9_58 ?_
  refine go_iload B d9_12 rfl ?_
  refine go_iload B d9_14 rfl ?_
  refine go_icmpge B d9_16 (fun c16_45 => ?_) (fun c16_45 => ?_)
  · exact absurd c16_45 (by decide)
  refine go_aload_n B d9_19 rfl rfl ?_
  refine go_iload B d9_20 rfl ?_
  refine go_iaload B (i := 2) (v := (.int (Int32.ofNat (W + 5)))) d9_22 AL rfl rfl ?_
  refine go_istore B #[.val (.ref g), .val (.int (Int32.ofNat q)), .val (.int s), .val (.ref la), .val (.int (4 : Int32)), .val (.int (2 : Int32)), .val (.int (Int32.ofNat (W + 5))), .val (.int (2 : Int32))] d9_23 rfl ?_
  refine go_iconst B (x := (1 : Int32)) d9_25 rfl ?_
  refine go_aload_n B d9_26 rfl rfl ?_
  refine go_iload_n B d9_27 rfl ?_
  refine go_iload B d9_28 rfl ?_
  refine go_iload_n B d9_30 rfl ?_
  refine go_private B (W' := 1) (a := g) (argsL := [(.int (Int32.ofNat q)), (.int (Int32.ofNat (W + 5))), (.int s)]) (st := [(.int (1 : Int32))]) d9_31 (w_81 H) (sp_run H) (w_83 H) (w_82 H) (w_4 H) (w_84 H) (by decide) EG (rmRunH H g sq N f (Int32.ofNat q) (Int32.ofNat (W + 5)) s (q + (W + 5)) (q + 2 * (W + 5)) h0 Z0 FS AS hN (n_step (d := (W + 5)) (by first | rfl | decide) (by omega)) (by omega) (n_step (d := (W + 5)) (by first | rfl | decide) (by omega)) (by omega) p2) pd_0 rfl rfl rfl rfl (by decide) (by decide) (by decide) (by decide) ?_
  rintro _ h48 ⟨r46, rfl, hr47, rfl⟩
  show Go κ _ h0 _ _ 34 #[.val (.ref g), .val (.int (Int32.ofNat q)), .val (.int s), .val (.ref la), .val (.int (4 : Int32)), .val (.int (2 : Int32)), .val (.int (Int32.ofNat (W + 5))), .val (.int (2 : Int32))] [(.int r46), (.int (1 : Int32))]
  refine go_iadd B d9_34 ?_
  refine go_aload_n B d9_35 rfl rfl ?_
  refine go_iload_n B d9_36 rfl ?_
  refine go_iload B d9_37 rfl ?_
  refine go_ineg B d9_39 ?_
  refine go_iload_n B d9_40 rfl ?_
  refine go_private B (W' := 1) (a := g) (argsL := [(.int (Int32.ofNat q)), (.int (-(Int32.ofNat (W + 5)))), (.int s)]) (st := [(.int ((1 : Int32) + r46))]) d9_41 (w_81 H) (sp_run H) (w_83 H) (w_82 H) (w_4 H) (w_84 H) (by decide) EG (rmRunH H g sq N f (Int32.ofNat q) (-(Int32.ofNat (W + 5))) s (q - (W + 5)) (q - 2 * (W + 5)) h0 Z0 FS AS hN (n_back (d := (W + 5)) (by first | rfl | decide) (by omega)) (by omega) (n_back (d := (W + 5)) (by first | rfl | decide) (by omega)) (by omega) m2) pd_0 rfl rfl rfl rfl (by decide) (by decide) (by decide) (by decide) ?_
  rintro _ h51 ⟨r49, rfl, hr50, rfl⟩
  show Go κ _ h0 _ _ 44 #[.val (.ref g), .val (.int (Int32.ofNat q)), .val (.int s), .val (.ref la), .val (.int (4 : Int32)), .val (.int (2 : Int32)), .val (.int (Int32.ofNat (W + 5))), .val (.int (2 : Int32))] [(.int r49), (.int ((1 : Int32) + r46))]
  refine go_iadd B d9_44 ?_
  refine go_istore B #[.val (.ref g), .val (.int (Int32.ofNat q)), .val (.int s), .val (.ref la), .val (.int (4 : Int32)), .val (.int (2 : Int32)), .val (.int (Int32.ofNat (W + 5))), .val (.int (((1 : Int32) + r46) + r49))] d9_45 rfl ?_
  refine go_iload B d9_47 rfl ?_
  refine go_iconst B (x := (4 : Int32)) d9_49 rfl ?_
  refine go_icmplt B d9_50 (fun c50_52 => ?_) (fun c50_52 => ?_)
  rotate_left
  · exact absurd (own_lt3 hr47 hr50) c50_52
  refine go_iinc B #[.val (.ref g), .val (.int (Int32.ofNat q)), .val (.int s), .val (.ref la), .val (.int (4 : Int32)), .val (.int ((2 : Int32) + (1 : Int32))), .val (.int (Int32.ofNat (W + 5))), .val (.int (((1 : Int32) + r46) + r49))] d9_55 (z := (1 : Int32)) rfl rfl rfl ?_
  rw [show ((2 : Int32) + (1 : Int32)) = (3 : Int32) from by decide]
  refine go_goto B d9_58 ?_
  refine go_iload B d9_12 rfl ?_
  refine go_iload B d9_14 rfl ?_
  refine go_icmpge B d9_16 (fun c16_53 => ?_) (fun c16_53 => ?_)
  · exact absurd c16_53 (by decide)
  refine go_aload_n B d9_19 rfl rfl ?_
  refine go_iload B d9_20 rfl ?_
  refine go_iaload B (i := 3) (v := (.int (Int32.ofNat (W + 3)))) d9_22 AL rfl rfl ?_
  refine go_istore B #[.val (.ref g), .val (.int (Int32.ofNat q)), .val (.int s), .val (.ref la), .val (.int (4 : Int32)), .val (.int (3 : Int32)), .val (.int (Int32.ofNat (W + 3))), .val (.int (((1 : Int32) + r46) + r49))] d9_23 rfl ?_
  refine go_iconst B (x := (1 : Int32)) d9_25 rfl ?_
  refine go_aload_n B d9_26 rfl rfl ?_
  refine go_iload_n B d9_27 rfl ?_
  refine go_iload B d9_28 rfl ?_
  refine go_iload_n B d9_30 rfl ?_
  refine go_private B (W' := 1) (a := g) (argsL := [(.int (Int32.ofNat q)), (.int (Int32.ofNat (W + 3))), (.int s)]) (st := [(.int (1 : Int32))]) d9_31 (w_81 H) (sp_run H) (w_83 H) (w_82 H) (w_4 H) (w_84 H) (by decide) EG (rmRunH H g sq N f (Int32.ofNat q) (Int32.ofNat (W + 3)) s (q + (W + 3)) (q + 2 * (W + 3)) h0 Z0 FS AS hN (n_step (d := (W + 3)) (by first | rfl | decide) (by omega)) (by omega) (n_step (d := (W + 3)) (by first | rfl | decide) (by omega)) (by omega) p3) pd_0 rfl rfl rfl rfl (by decide) (by decide) (by decide) (by decide) ?_
  rintro _ h56 ⟨r54, rfl, hr55, rfl⟩
  show Go κ _ h0 _ _ 34 #[.val (.ref g), .val (.int (Int32.ofNat q)), .val (.int s), .val (.ref la), .val (.int (4 : Int32)), .val (.int (3 : Int32)), .val (.int (Int32.ofNat (W + 3))), .val (.int (((1 : Int32) + r46) + r49))] [(.int r54), (.int (1 : Int32))]
  refine go_iadd B d9_34 ?_
  refine go_aload_n B d9_35 rfl rfl ?_
  refine go_iload_n B d9_36 rfl ?_
  refine go_iload B d9_37 rfl ?_
  refine go_ineg B d9_39 ?_
  refine go_iload_n B d9_40 rfl ?_
  refine go_private B (W' := 1) (a := g) (argsL := [(.int (Int32.ofNat q)), (.int (-(Int32.ofNat (W + 3)))), (.int s)]) (st := [(.int ((1 : Int32) + r54))]) d9_41 (w_81 H) (sp_run H) (w_83 H) (w_82 H) (w_4 H) (w_84 H) (by decide) EG (rmRunH H g sq N f (Int32.ofNat q) (-(Int32.ofNat (W + 3))) s (q - (W + 3)) (q - 2 * (W + 3)) h0 Z0 FS AS hN (n_back (d := (W + 3)) (by first | rfl | decide) (by omega)) (by omega) (n_back (d := (W + 3)) (by first | rfl | decide) (by omega)) (by omega) m3) pd_0 rfl rfl rfl rfl (by decide) (by decide) (by decide) (by decide) ?_
  rintro _ h59 ⟨r57, rfl, hr58, rfl⟩
  show Go κ _ h0 _ _ 44 #[.val (.ref g), .val (.int (Int32.ofNat q)), .val (.int s), .val (.ref la), .val (.int (4 : Int32)), .val (.int (3 : Int32)), .val (.int (Int32.ofNat (W + 3))), .val (.int (((1 : Int32) + r46) + r49))] [(.int r57), (.int ((1 : Int32) + r54))]
  refine go_iadd B d9_44 ?_
  refine go_istore B #[.val (.ref g), .val (.int (Int32.ofNat q)), .val (.int s), .val (.ref la), .val (.int (4 : Int32)), .val (.int (3 : Int32)), .val (.int (Int32.ofNat (W + 3))), .val (.int (((1 : Int32) + r54) + r57))] d9_45 rfl ?_
  refine go_iload B d9_47 rfl ?_
  refine go_iconst B (x := (4 : Int32)) d9_49 rfl ?_
  refine go_icmplt B d9_50 (fun c50_60 => ?_) (fun c50_60 => ?_)
  rotate_left
  · exact absurd (own_lt3 hr55 hr58) c50_60
  refine go_iinc B #[.val (.ref g), .val (.int (Int32.ofNat q)), .val (.int s), .val (.ref la), .val (.int (4 : Int32)), .val (.int ((3 : Int32) + (1 : Int32))), .val (.int (Int32.ofNat (W + 3))), .val (.int (((1 : Int32) + r54) + r57))] d9_55 (z := (1 : Int32)) rfl rfl rfl ?_
  rw [show ((3 : Int32) + (1 : Int32)) = (4 : Int32) from by decide]
  refine go_goto B d9_58 ?_
  refine go_iload B d9_12 rfl ?_
  refine go_iload B d9_14 rfl ?_
  refine go_icmpge B d9_16 (fun c16_61 => ?_) (fun c16_61 => ?_)
  rotate_left
  · exact absurd c16_61 (by decide)
  refine go_iconst B (x := (0 : Int32)) d9_61 rfl ?_
  refine go_zreturn B (y := (0 : Int32)) d9_62 (by decide) (by decide) (by decide) ?_
  exact ⟨rfl, rfl⟩
set_option maxRecDepth 65536 in
set_option maxHeartbeats 40000000 in
theorem rmM2 {l : Launch} {Z : State} {a0 : Array Value} {n0 : Nat} (H : Wd a0 Z) (g sq la : Addr) (N W q : Nat) (f : Nat → Int32) (s : Int32) (h0 : Heap) (Z0 : n0 ≤ h0.size) (FS : Fld Z h0 g "com/example/plywright/plywright/games/ConnectFour" "squares" "[B" (.ref sq)) (FL : Fld Z h0 g "com/example/plywright/plywright/games/ConnectFour" "lineSteps" "[I" (.ref la)) (EG : Exa Z h0 g "com/example/plywright/plywright/games/ConnectFour") (AS : AV Z h0 sq .byte (bm N f)) (AL : AV Z h0 la .int [(.int (1 : Int32)), (.int (Int32.ofNat (W + 4))), (.int (Int32.ofNat (W + 5))), (.int (Int32.ofNat (W + 3)))]) (hN : N < 1000) (q1 : 2 * (W + 5) ≤ q) (q2 : q + 2 * (W + 5) < N) (up : ¬ f (q + (W + 4)) = s) (p0 : ¬ f (q + 1) = s ∨ ¬ f (q + 2 * 1) = s) (m0 : ¬ f (q - 1) = s ∨ ¬ f (q - 2 * 1) = s) (p2 : ¬ f (q + (W + 5)) = s ∨ ¬ f (q + 2 * (W + 5)) = s) (m2 : ¬ f (q - (W + 5)) = s ∨ ¬ f (q - 2 * (W + 5)) = s) (p3 : ¬ f (q + (W + 3)) = s ∨ ¬ f (q + 2 * (W + 3)) = s) (m3 : ¬ f (q - (W + 3)) = s ∨ ¬ f (q - 2 * (W + 3)) = s) (w1 : f (q - 1 * (W + 4)) = s) (w2 : f (q - 2 * (W + 4)) = s) (wz : ¬ f (q - 3 * (W + 4)) = s) (wb : 3 * (W + 4) ≤ q) :
    Ct l Z n0 (⟨"com/example/plywright/plywright/games/ConnectFour", "makesFour", "(IB)Z"⟩ : MethodName) prog_19_method_14_code 8 (some .boolean) [] ({ frames := 1, cells := 0, slots := 0, locals := 19 } : Room) #[(.ref g), (.int (Int32.ofNat q)), (.int s)] h0 (fun v h => v = some (.int (0 : Int32)) ∧ h0 = h) := by
  refine Ct.of (a0 := a0) (L0 := #[.val (.ref g), .val (.int (Int32.ofNat q)), .val (.int s), .unset, .unset, .unset, .unset, .unset]) (plainFor_of_name pn_com_example_plywright_plywright_games_ConnectFour) (fun m => by first | (simp [entryFrame, mkF, argsToLocals, Value.category]; done) | rfl) ?_
  intro κ B0
  have B : Ok κ l Z a0 n0 ({ frames := 1, cells := 0, slots := 0, locals := 19 } : Room) "com/example/plywright/plywright/games/ConnectFour" "makesFour" prog_19_method_14_code 8 (some .boolean) := B0
  refine go_aload_n B d9_0 rfl rfl ?_
  refine go_getfield B d9_1 (w_54 H) FL ?_
  refine go_astore_n B #[.val (.ref g), .val (.int (Int32.ofNat q)), .val (.int s), .val (.ref la), .unset, .unset, .unset, .unset] d9_4 rfl rfl ?_
  refine go_aload_n B d9_5 rfl rfl ?_
  refine go_arraylength B (x := (4 : Int32)) d9_6 AL rfl ?_
  refine go_istore B #[.val (.ref g), .val (.int (Int32.ofNat q)), .val (.int s), .val (.ref la), .val (.int (4 : Int32)), .unset, .unset, .unset] d9_7 rfl ?_
  refine go_iconst B (x := (0 : Int32)) d9_9 rfl ?_
  refine go_istore B #[.val (.ref g), .val (.int (Int32.ofNat q)), .val (.int s), .val (.ref la), .val (.int (4 : Int32)), .val (.int (0 : Int32)), .unset, .unset] d9_10 rfl ?_
  refine go_iload B d9_12 rfl ?_
  refine go_iload B d9_14 rfl ?_
  refine go_icmpge B d9_16 (fun c16 => ?_) (fun c16 => ?_)
  · exact absurd c16 (by decide)
  refine go_aload_n B d9_19 rfl rfl ?_
  refine go_iload B d9_20 rfl ?_
  refine go_iaload B (i := 0) (v := (.int (1 : Int32))) d9_22 AL rfl rfl ?_
  refine go_istore B #[.val (.ref g), .val (.int (Int32.ofNat q)), .val (.int s), .val (.ref la), .val (.int (4 : Int32)), .val (.int (0 : Int32)), .val (.int (1 : Int32)), .unset] d9_23 rfl ?_
  refine go_iconst B (x := (1 : Int32)) d9_25 rfl ?_
  refine go_aload_n B d9_26 rfl rfl ?_
  refine go_iload_n B d9_27 rfl ?_
  refine go_iload B d9_28 rfl ?_
  refine go_iload_n B d9_30 rfl ?_
  refine go_private B (W' := 1) (a := g) (argsL := [(.int (Int32.ofNat q)), (.int (1 : Int32)), (.int s)]) (st := [(.int (1 : Int32))]) d9_31 (w_81 H) (sp_run H) (w_83 H) (w_82 H) (w_4 H) (w_84 H) (by decide) EG (rmRunH H g sq N f (Int32.ofNat q) (1 : Int32) s (q + 1) (q + 2 * 1) h0 Z0 FS AS hN (n_step (d := 1) (by first | rfl | decide) (by omega)) (by omega) (n_step (d := 1) (by first | rfl | decide) (by omega)) (by omega) p0) pd_0 rfl rfl rfl rfl (by decide) (by decide) (by decide) (by decide) ?_
  rintro _ h64 ⟨r62, rfl, hr63, rfl⟩
  show Go κ _ h0 _ _ 34 #[.val (.ref g), .val (.int (Int32.ofNat q)), .val (.int s), .val (.ref la), .val (.int (4 : Int32)), .val (.int (0 : Int32)), .val (.int (1 : Int32)), .unset] [(.int r62), (.int (1 : Int32))]
  refine go_iadd B d9_34 ?_
  refine go_aload_n B d9_35 rfl rfl ?_
  refine go_iload_n B d9_36 rfl ?_
  refine go_iload B d9_37 rfl ?_
  refine go_ineg B d9_39 ?_
  rw [show (-(1 : Int32)) = (-1 : Int32) from by decide]
  refine go_iload_n B d9_40 rfl ?_
  refine go_private B (W' := 1) (a := g) (argsL := [(.int (Int32.ofNat q)), (.int (-1 : Int32)), (.int s)]) (st := [(.int ((1 : Int32) + r62))]) d9_41 (w_81 H) (sp_run H) (w_83 H) (w_82 H) (w_4 H) (w_84 H) (by decide) EG (rmRunH H g sq N f (Int32.ofNat q) (-1 : Int32) s (q - 1) (q - 2 * 1) h0 Z0 FS AS hN (n_back (d := 1) (by first | rfl | decide) (by omega)) (by omega) (n_back (d := 1) (by first | rfl | decide) (by omega)) (by omega) m0) pd_0 rfl rfl rfl rfl (by decide) (by decide) (by decide) (by decide) ?_
  rintro _ h67 ⟨r65, rfl, hr66, rfl⟩
  show Go κ _ h0 _ _ 44 #[.val (.ref g), .val (.int (Int32.ofNat q)), .val (.int s), .val (.ref la), .val (.int (4 : Int32)), .val (.int (0 : Int32)), .val (.int (1 : Int32)), .unset] [(.int r65), (.int ((1 : Int32) + r62))]
  refine go_iadd B d9_44 ?_
  refine go_istore B #[.val (.ref g), .val (.int (Int32.ofNat q)), .val (.int s), .val (.ref la), .val (.int (4 : Int32)), .val (.int (0 : Int32)), .val (.int (1 : Int32)), .val (.int (((1 : Int32) + r62) + r65))] d9_45 rfl ?_
  refine go_iload B d9_47 rfl ?_
  refine go_iconst B (x := (4 : Int32)) d9_49 rfl ?_
  refine go_icmplt B d9_50 (fun c50 => ?_) (fun c50 => ?_)
  rotate_left
  · exact absurd (own_lt3 hr63 hr66) c50
  refine go_iinc B #[.val (.ref g), .val (.int (Int32.ofNat q)), .val (.int s), .val (.ref la), .val (.int (4 : Int32)), .val (.int ((0 : Int32) + (1 : Int32))), .val (.int (1 : Int32)), .val (.int (((1 : Int32) + r62) + r65))] d9_55 (z := (1 : Int32)) rfl rfl rfl ?_
  rw [show ((0 : Int32) + (1 : Int32)) = (1 : Int32) from by decide]
  refine go_goto B d9_58 ?_
  refine go_iload B d9_12 rfl ?_
  refine go_iload B d9_14 rfl ?_
  refine go_icmpge B d9_16 (fun c16_68 => ?_) (fun c16_68 => ?_)
  · exact absurd c16_68 (by decide)
  refine go_aload_n B d9_19 rfl rfl ?_
  refine go_iload B d9_20 rfl ?_
  refine go_iaload B (i := 1) (v := (.int (Int32.ofNat (W + 4)))) d9_22 AL rfl rfl ?_
  refine go_istore B #[.val (.ref g), .val (.int (Int32.ofNat q)), .val (.int s), .val (.ref la), .val (.int (4 : Int32)), .val (.int (1 : Int32)), .val (.int (Int32.ofNat (W + 4))), .val (.int (((1 : Int32) + r62) + r65))] d9_23 rfl ?_
  refine go_iconst B (x := (1 : Int32)) d9_25 rfl ?_
  refine go_aload_n B d9_26 rfl rfl ?_
  refine go_iload_n B d9_27 rfl ?_
  refine go_iload B d9_28 rfl ?_
  refine go_iload_n B d9_30 rfl ?_
  refine go_private B (W' := 1) (a := g) (argsL := [(.int (Int32.ofNat q)), (.int (Int32.ofNat (W + 4))), (.int s)]) (st := [(.int (1 : Int32))]) d9_31 (w_81 H) (sp_run H) (w_83 H) (w_82 H) (w_4 H) (w_84 H) (by decide) EG (rmRun0 H g sq N f (Int32.ofNat q) (Int32.ofNat (W + 4)) s (q + (W + 4)) h0 Z0 FS AS hN (n_step (d := (W + 4)) (by first | rfl | decide) (by omega)) (by omega) up) pd_0 rfl rfl rfl rfl (by decide) (by decide) (by decide) (by decide) ?_
  rintro _ h69 ⟨rfl, rfl⟩
  show Go κ _ h0 _ _ 34 #[.val (.ref g), .val (.int (Int32.ofNat q)), .val (.int s), .val (.ref la), .val (.int (4 : Int32)), .val (.int (1 : Int32)), .val (.int (Int32.ofNat (W + 4))), .val (.int (((1 : Int32) + r62) + r65))] [(.int (0 : Int32)), (.int (1 : Int32))]
  refine go_iadd B d9_34 ?_
  rw [show ((1 : Int32) + (0 : Int32)) = (1 : Int32) from by decide]
  refine go_aload_n B d9_35 rfl rfl ?_
  refine go_iload_n B d9_36 rfl ?_
  refine go_iload B d9_37 rfl ?_
  refine go_ineg B d9_39 ?_
  refine go_iload_n B d9_40 rfl ?_
  refine go_private B (W' := 1) (a := g) (argsL := [(.int (Int32.ofNat q)), (.int (-(Int32.ofNat (W + 4)))), (.int s)]) (st := [(.int (1 : Int32))]) d9_41 (w_81 H) (sp_run H) (w_83 H) (w_82 H) (w_4 H) (w_84 H) (by decide) EG (rmRun2 H g sq N f (Int32.ofNat q) (-(Int32.ofNat (W + 4))) s (q - 1 * (W + 4)) (q - 2 * (W + 4)) (q - 3 * (W + 4)) h0 Z0 FS AS hN (n_back (d := (W + 4)) (by first | rfl | decide) (by omega)) (by omega) w1 (n_back (d := (W + 4)) (by first | rfl | decide) (by omega)) (by omega) w2 (n_back (d := (W + 4)) (by first | rfl | decide) (by omega)) (by omega) wz) pd_0 rfl rfl rfl rfl (by decide) (by decide) (by decide) (by decide) ?_
  rintro _ h70 ⟨rfl, rfl⟩
  show Go κ _ h0 _ _ 44 #[.val (.ref g), .val (.int (Int32.ofNat q)), .val (.int s), .val (.ref la), .val (.int (4 : Int32)), .val (.int (1 : Int32)), .val (.int (Int32.ofNat (W + 4))), .val (.int (((1 : Int32) + r62) + r65))] [(.int (2 : Int32)), (.int (1 : Int32))]
  refine go_iadd B d9_44 ?_
  rw [show ((1 : Int32) + (2 : Int32)) = (3 : Int32) from by decide]
  refine go_istore B #[.val (.ref g), .val (.int (Int32.ofNat q)), .val (.int s), .val (.ref la), .val (.int (4 : Int32)), .val (.int (1 : Int32)), .val (.int (Int32.ofNat (W + 4))), .val (.int (3 : Int32))] d9_45 rfl ?_
  refine go_iload B d9_47 rfl ?_
  refine go_iconst B (x := (4 : Int32)) d9_49 rfl ?_
  refine go_icmplt B d9_50 (fun c50_71 => ?_) (fun c50_71 => ?_)
  rotate_left
  · exact absurd c50_71 (by decide)
  refine go_iinc B #[.val (.ref g), .val (.int (Int32.ofNat q)), .val (.int s), .val (.ref la), .val (.int (4 : Int32)), .val (.int ((1 : Int32) + (1 : Int32))), .val (.int (Int32.ofNat (W + 4))), .val (.int (3 : Int32))] d9_55 (z := (1 : Int32)) rfl rfl rfl ?_
  rw [show ((1 : Int32) + (1 : Int32)) = (2 : Int32) from by decide]
  refine go_goto B d9_58 ?_
  refine go_iload B d9_12 rfl ?_
  refine go_iload B d9_14 rfl ?_
  refine go_icmpge B d9_16 (fun c16_72 => ?_) (fun c16_72 => ?_)
  · exact absurd c16_72 (by decide)
  refine go_aload_n B d9_19 rfl rfl ?_
  refine go_iload B d9_20 rfl ?_
  refine go_iaload B (i := 2) (v := (.int (Int32.ofNat (W + 5)))) d9_22 AL rfl rfl ?_
  refine go_istore B #[.val (.ref g), .val (.int (Int32.ofNat q)), .val (.int s), .val (.ref la), .val (.int (4 : Int32)), .val (.int (2 : Int32)), .val (.int (Int32.ofNat (W + 5))), .val (.int (3 : Int32))] d9_23 rfl ?_
  refine go_iconst B (x := (1 : Int32)) d9_25 rfl ?_
  refine go_aload_n B d9_26 rfl rfl ?_
  refine go_iload_n B d9_27 rfl ?_
  refine go_iload B d9_28 rfl ?_
  refine go_iload_n B d9_30 rfl ?_
  refine go_private B (W' := 1) (a := g) (argsL := [(.int (Int32.ofNat q)), (.int (Int32.ofNat (W + 5))), (.int s)]) (st := [(.int (1 : Int32))]) d9_31 (w_81 H) (sp_run H) (w_83 H) (w_82 H) (w_4 H) (w_84 H) (by decide) EG (rmRunH H g sq N f (Int32.ofNat q) (Int32.ofNat (W + 5)) s (q + (W + 5)) (q + 2 * (W + 5)) h0 Z0 FS AS hN (n_step (d := (W + 5)) (by first | rfl | decide) (by omega)) (by omega) (n_step (d := (W + 5)) (by first | rfl | decide) (by omega)) (by omega) p2) pd_0 rfl rfl rfl rfl (by decide) (by decide) (by decide) (by decide) ?_
  rintro _ h75 ⟨r73, rfl, hr74, rfl⟩
  show Go κ _ h0 _ _ 34 #[.val (.ref g), .val (.int (Int32.ofNat q)), .val (.int s), .val (.ref la), .val (.int (4 : Int32)), .val (.int (2 : Int32)), .val (.int (Int32.ofNat (W + 5))), .val (.int (3 : Int32))] [(.int r73), (.int (1 : Int32))]
  refine go_iadd B d9_34 ?_
  refine go_aload_n B d9_35 rfl rfl ?_
  refine go_iload_n B d9_36 rfl ?_
  refine go_iload B d9_37 rfl ?_
  refine go_ineg B d9_39 ?_
  refine go_iload_n B d9_40 rfl ?_
  refine go_private B (W' := 1) (a := g) (argsL := [(.int (Int32.ofNat q)), (.int (-(Int32.ofNat (W + 5)))), (.int s)]) (st := [(.int ((1 : Int32) + r73))]) d9_41 (w_81 H) (sp_run H) (w_83 H) (w_82 H) (w_4 H) (w_84 H) (by decide) EG (rmRunH H g sq N f (Int32.ofNat q) (-(Int32.ofNat (W + 5))) s (q - (W + 5)) (q - 2 * (W + 5)) h0 Z0 FS AS hN (n_back (d := (W + 5)) (by first | rfl | decide) (by omega)) (by omega) (n_back (d := (W + 5)) (by first | rfl | decide) (by omega)) (by omega) m2) pd_0 rfl rfl rfl rfl (by decide) (by decide) (by decide) (by decide) ?_
  rintro _ h78 ⟨r76, rfl, hr77, rfl⟩
  show Go κ _ h0 _ _ 44 #[.val (.ref g), .val (.int (Int32.ofNat q)), .val (.int s), .val (.ref la), .val (.int (4 : Int32)), .val (.int (2 : Int32)), .val (.int (Int32.ofNat (W + 5))), .val (.int (3 : Int32))] [(.int r76), (.int ((1 : Int32) + r73))]
  refine go_iadd B d9_44 ?_
  refine go_istore B #[.val (.ref g), .val (.int (Int32.ofNat q)), .val (.int s), .val (.ref la), .val (.int (4 : Int32)), .val (.int (2 : Int32)), .val (.int (Int32.ofNat (W + 5))), .val (.int (((1 : Int32) + r73) + r76))] d9_45 rfl ?_
  refine go_iload B d9_47 rfl ?_
  refine go_iconst B (x := (4 : Int32)) d9_49 rfl ?_
  refine go_icmplt B d9_50 (fun c50_79 => ?_) (fun c50_79 => ?_)
  rotate_left
  · exact absurd (own_lt3 hr74 hr77) c50_79
  refine go_iinc B #[.val (.ref g), .val (.int (Int32.ofNat q)), .val (.int s), .val (.ref la), .val (.int (4 : Int32)), .val (.int ((2 : Int32) + (1 : Int32))), .val (.int (Int32.ofNat (W + 5))), .val (.int (((1 : Int32) + r73) + r76))] d9_55 (z := (1 : Int32)) rfl rfl rfl ?_
  rw [show ((2 : Int32) + (1 : Int32)) = (3 : Int32) from by decide]
  refine go_goto B d9_58 ?_
  refine go_iload B d9_12 rfl ?_
  refine go_iload B d9_14 rfl ?_
  refine go_icmpge B d9_16 (fun c16_80 => ?_) (fun c16_80 => ?_)
  · exact absurd c16_80 (by decide)
  refine go_aload_n B d9_19 rfl rfl ?_
  refine go_iload B d9_20 rfl ?_
  refine go_iaload B (i := 3) (v := (.int (Int32.ofNat (W + 3)))) d9_22 AL rfl rfl ?_
  refine go_istore B #[.val (.ref g), .val (.int (Int32.ofNat q)), .val (.int s), .val (.ref la), .val (.int (4 : Int32)), .val (.int (3 : Int32)), .val (.int (Int32.ofNat (W + 3))), .val (.int (((1 : Int32) + r73) + r76))] d9_23 rfl ?_
  refine go_iconst B (x := (1 : Int32)) d9_25 rfl ?_
  refine go_aload_n B d9_26 rfl rfl ?_
  refine go_iload_n B d9_27 rfl ?_
  refine go_iload B d9_28 rfl ?_
  refine go_iload_n B d9_30 rfl ?_
  refine go_private B (W' := 1) (a := g) (argsL := [(.int (Int32.ofNat q)), (.int (Int32.ofNat (W + 3))), (.int s)]) (st := [(.int (1 : Int32))]) d9_31 (w_81 H) (sp_run H) (w_83 H) (w_82 H) (w_4 H) (w_84 H) (by decide) EG (rmRunH H g sq N f (Int32.ofNat q) (Int32.ofNat (W + 3)) s (q + (W + 3)) (q + 2 * (W + 3)) h0 Z0 FS AS hN (n_step (d := (W + 3)) (by first | rfl | decide) (by omega)) (by omega) (n_step (d := (W + 3)) (by first | rfl | decide) (by omega)) (by omega) p3) pd_0 rfl rfl rfl rfl (by decide) (by decide) (by decide) (by decide) ?_
  rintro _ h83 ⟨r81, rfl, hr82, rfl⟩
  show Go κ _ h0 _ _ 34 #[.val (.ref g), .val (.int (Int32.ofNat q)), .val (.int s), .val (.ref la), .val (.int (4 : Int32)), .val (.int (3 : Int32)), .val (.int (Int32.ofNat (W + 3))), .val (.int (((1 : Int32) + r73) + r76))] [(.int r81), (.int (1 : Int32))]
  refine go_iadd B d9_34 ?_
  refine go_aload_n B d9_35 rfl rfl ?_
  refine go_iload_n B d9_36 rfl ?_
  refine go_iload B d9_37 rfl ?_
  refine go_ineg B d9_39 ?_
  refine go_iload_n B d9_40 rfl ?_
  refine go_private B (W' := 1) (a := g) (argsL := [(.int (Int32.ofNat q)), (.int (-(Int32.ofNat (W + 3)))), (.int s)]) (st := [(.int ((1 : Int32) + r81))]) d9_41 (w_81 H) (sp_run H) (w_83 H) (w_82 H) (w_4 H) (w_84 H) (by decide) EG (rmRunH H g sq N f (Int32.ofNat q) (-(Int32.ofNat (W + 3))) s (q - (W + 3)) (q - 2 * (W + 3)) h0 Z0 FS AS hN (n_back (d := (W + 3)) (by first | rfl | decide) (by omega)) (by omega) (n_back (d := (W + 3)) (by first | rfl | decide) (by omega)) (by omega) m3) pd_0 rfl rfl rfl rfl (by decide) (by decide) (by decide) (by decide) ?_
  rintro _ h86 ⟨r84, rfl, hr85, rfl⟩
  show Go κ _ h0 _ _ 44 #[.val (.ref g), .val (.int (Int32.ofNat q)), .val (.int s), .val (.ref la), .val (.int (4 : Int32)), .val (.int (3 : Int32)), .val (.int (Int32.ofNat (W + 3))), .val (.int (((1 : Int32) + r73) + r76))] [(.int r84), (.int ((1 : Int32) + r81))]
  refine go_iadd B d9_44 ?_
  refine go_istore B #[.val (.ref g), .val (.int (Int32.ofNat q)), .val (.int s), .val (.ref la), .val (.int (4 : Int32)), .val (.int (3 : Int32)), .val (.int (Int32.ofNat (W + 3))), .val (.int (((1 : Int32) + r81) + r84))] d9_45 rfl ?_
  refine go_iload B d9_47 rfl ?_
  refine go_iconst B (x := (4 : Int32)) d9_49 rfl ?_
  refine go_icmplt B d9_50 (fun c50_87 => ?_) (fun c50_87 => ?_)
  rotate_left
  · exact absurd (own_lt3 hr82 hr85) c50_87
  refine go_iinc B #[.val (.ref g), .val (.int (Int32.ofNat q)), .val (.int s), .val (.ref la), .val (.int (4 : Int32)), .val (.int ((3 : Int32) + (1 : Int32))), .val (.int (Int32.ofNat (W + 3))), .val (.int (((1 : Int32) + r81) + r84))] d9_55 (z := (1 : Int32)) rfl rfl rfl ?_
  rw [show ((3 : Int32) + (1 : Int32)) = (4 : Int32) from by decide]
  refine go_goto B d9_58 ?_
  refine go_iload B d9_12 rfl ?_
  refine go_iload B d9_14 rfl ?_
  refine go_icmpge B d9_16 (fun c16_88 => ?_) (fun c16_88 => ?_)
  rotate_left
  · exact absurd c16_88 (by decide)
  refine go_iconst B (x := (0 : Int32)) d9_61 rfl ?_
  refine go_zreturn B (y := (0 : Int32)) d9_62 (by decide) (by decide) (by decide) ?_
  exact ⟨rfl, rfl⟩
theorem d9_53 : Dc prog_19_method_14_code 53 (.iconst 1) 1 54 := ⟨by decide +kernel, rfl⟩
theorem d9_54 : Dc prog_19_method_14_code 54 (.ireturn) 1 55 := ⟨by decide +kernel, rfl⟩
set_option maxRecDepth 65536 in
set_option maxHeartbeats 40000000 in
theorem rmM3 {l : Launch} {Z : State} {a0 : Array Value} {n0 : Nat} (H : Wd a0 Z) (g sq la : Addr) (N W q : Nat) (f : Nat → Int32) (s : Int32) (h0 : Heap) (Z0 : n0 ≤ h0.size) (FS : Fld Z h0 g "com/example/plywright/plywright/games/ConnectFour" "squares" "[B" (.ref sq)) (FL : Fld Z h0 g "com/example/plywright/plywright/games/ConnectFour" "lineSteps" "[I" (.ref la)) (EG : Exa Z h0 g "com/example/plywright/plywright/games/ConnectFour") (AS : AV Z h0 sq .byte (bm N f)) (AL : AV Z h0 la .int [(.int (1 : Int32)), (.int (Int32.ofNat (W + 4))), (.int (Int32.ofNat (W + 5))), (.int (Int32.ofNat (W + 3)))]) (hN : N < 1000) (q1 : 2 * (W + 5) ≤ q) (q2 : q + 2 * (W + 5) < N) (up : ¬ f (q + (W + 4)) = s) (p0 : ¬ f (q + 1) = s ∨ ¬ f (q + 2 * 1) = s) (m0 : ¬ f (q - 1) = s ∨ ¬ f (q - 2 * 1) = s) (p2 : ¬ f (q + (W + 5)) = s ∨ ¬ f (q + 2 * (W + 5)) = s) (m2 : ¬ f (q - (W + 5)) = s ∨ ¬ f (q - 2 * (W + 5)) = s) (p3 : ¬ f (q + (W + 3)) = s ∨ ¬ f (q + 2 * (W + 3)) = s) (m3 : ¬ f (q - (W + 3)) = s ∨ ¬ f (q - 2 * (W + 3)) = s) (w1 : f (q - 1 * (W + 4)) = s) (w2 : f (q - 2 * (W + 4)) = s) (w3 : f (q - 3 * (W + 4)) = s) (wz : ¬ f (q - 4 * (W + 4)) = s) (wb : 4 * (W + 4) ≤ q) :
    Ct l Z n0 (⟨"com/example/plywright/plywright/games/ConnectFour", "makesFour", "(IB)Z"⟩ : MethodName) prog_19_method_14_code 8 (some .boolean) [] ({ frames := 1, cells := 0, slots := 0, locals := 19 } : Room) #[(.ref g), (.int (Int32.ofNat q)), (.int s)] h0 (fun v h => v = some (.int (1 : Int32)) ∧ h0 = h) := by
  refine Ct.of (a0 := a0) (L0 := #[.val (.ref g), .val (.int (Int32.ofNat q)), .val (.int s), .unset, .unset, .unset, .unset, .unset]) (plainFor_of_name pn_com_example_plywright_plywright_games_ConnectFour) (fun m => by first | (simp [entryFrame, mkF, argsToLocals, Value.category]; done) | rfl) ?_
  intro κ B0
  have B : Ok κ l Z a0 n0 ({ frames := 1, cells := 0, slots := 0, locals := 19 } : Room) "com/example/plywright/plywright/games/ConnectFour" "makesFour" prog_19_method_14_code 8 (some .boolean) := B0
  refine go_aload_n B d9_0 rfl rfl ?_
  refine go_getfield B d9_1 (w_54 H) FL ?_
  refine go_astore_n B #[.val (.ref g), .val (.int (Int32.ofNat q)), .val (.int s), .val (.ref la), .unset, .unset, .unset, .unset] d9_4 rfl rfl ?_
  refine go_aload_n B d9_5 rfl rfl ?_
  refine go_arraylength B (x := (4 : Int32)) d9_6 AL rfl ?_
  refine go_istore B #[.val (.ref g), .val (.int (Int32.ofNat q)), .val (.int s), .val (.ref la), .val (.int (4 : Int32)), .unset, .unset, .unset] d9_7 rfl ?_
  refine go_iconst B (x := (0 : Int32)) d9_9 rfl ?_
  refine go_istore B #[.val (.ref g), .val (.int (Int32.ofNat q)), .val (.int s), .val (.ref la), .val (.int (4 : Int32)), .val (.int (0 : Int32)), .unset, .unset] d9_10 rfl ?_
  refine go_iload B d9_12 rfl ?_
  refine go_iload B d9_14 rfl ?_
  refine go_icmpge B d9_16 (fun c16 => ?_) (fun c16 => ?_)
  · exact absurd c16 (by decide)
  refine go_aload_n B d9_19 rfl rfl ?_
  refine go_iload B d9_20 rfl ?_
  refine go_iaload B (i := 0) (v := (.int (1 : Int32))) d9_22 AL rfl rfl ?_
  refine go_istore B #[.val (.ref g), .val (.int (Int32.ofNat q)), .val (.int s), .val (.ref la), .val (.int (4 : Int32)), .val (.int (0 : Int32)), .val (.int (1 : Int32)), .unset] d9_23 rfl ?_
  refine go_iconst B (x := (1 : Int32)) d9_25 rfl ?_
  refine go_aload_n B d9_26 rfl rfl ?_
  refine go_iload_n B d9_27 rfl ?_
  refine go_iload B d9_28 rfl ?_
  refine go_iload_n B d9_30 rfl ?_
  refine go_private B (W' := 1) (a := g) (argsL := [(.int (Int32.ofNat q)), (.int (1 : Int32)), (.int s)]) (st := [(.int (1 : Int32))]) d9_31 (w_81 H) (sp_run H) (w_83 H) (w_82 H) (w_4 H) (w_84 H) (by decide) EG (rmRunH H g sq N f (Int32.ofNat q) (1 : Int32) s (q + 1) (q + 2 * 1) h0 Z0 FS AS hN (n_step (d := 1) (by first | rfl | decide) (by omega)) (by omega) (n_step (d := 1) (by first | rfl | decide) (by omega)) (by omega) p0) pd_0 rfl rfl rfl rfl (by decide) (by decide) (by decide) (by decide) ?_
  rintro _ h91 ⟨r89, rfl, hr90, rfl⟩
  show Go κ _ h0 _ _ 34 #[.val (.ref g), .val (.int (Int32.ofNat q)), .val (.int s), .val (.ref la), .val (.int (4 : Int32)), .val (.int (0 : Int32)), .val (.int (1 : Int32)), .unset] [(.int r89), (.int (1 : Int32))]
  refine go_iadd B d9_34 ?_
  refine go_aload_n B d9_35 rfl rfl ?_
  refine go_iload_n B d9_36 rfl ?_
  refine go_iload B d9_37 rfl ?_
  refine go_ineg B d9_39 ?_
  rw [show (-(1 : Int32)) = (-1 : Int32) from by decide]
  refine go_iload_n B d9_40 rfl ?_
  refine go_private B (W' := 1) (a := g) (argsL := [(.int (Int32.ofNat q)), (.int (-1 : Int32)), (.int s)]) (st := [(.int ((1 : Int32) + r89))]) d9_41 (w_81 H) (sp_run H) (w_83 H) (w_82 H) (w_4 H) (w_84 H) (by decide) EG (rmRunH H g sq N f (Int32.ofNat q) (-1 : Int32) s (q - 1) (q - 2 * 1) h0 Z0 FS AS hN (n_back (d := 1) (by first | rfl | decide) (by omega)) (by omega) (n_back (d := 1) (by first | rfl | decide) (by omega)) (by omega) m0) pd_0 rfl rfl rfl rfl (by decide) (by decide) (by decide) (by decide) ?_
  rintro _ h94 ⟨r92, rfl, hr93, rfl⟩
  show Go κ _ h0 _ _ 44 #[.val (.ref g), .val (.int (Int32.ofNat q)), .val (.int s), .val (.ref la), .val (.int (4 : Int32)), .val (.int (0 : Int32)), .val (.int (1 : Int32)), .unset] [(.int r92), (.int ((1 : Int32) + r89))]
  refine go_iadd B d9_44 ?_
  refine go_istore B #[.val (.ref g), .val (.int (Int32.ofNat q)), .val (.int s), .val (.ref la), .val (.int (4 : Int32)), .val (.int (0 : Int32)), .val (.int (1 : Int32)), .val (.int (((1 : Int32) + r89) + r92))] d9_45 rfl ?_
  refine go_iload B d9_47 rfl ?_
  refine go_iconst B (x := (4 : Int32)) d9_49 rfl ?_
  refine go_icmplt B d9_50 (fun c50 => ?_) (fun c50 => ?_)
  rotate_left
  · exact absurd (own_lt3 hr90 hr93) c50
  refine go_iinc B #[.val (.ref g), .val (.int (Int32.ofNat q)), .val (.int s), .val (.ref la), .val (.int (4 : Int32)), .val (.int ((0 : Int32) + (1 : Int32))), .val (.int (1 : Int32)), .val (.int (((1 : Int32) + r89) + r92))] d9_55 (z := (1 : Int32)) rfl rfl rfl ?_
  rw [show ((0 : Int32) + (1 : Int32)) = (1 : Int32) from by decide]
  refine go_goto B d9_58 ?_
  refine go_iload B d9_12 rfl ?_
  refine go_iload B d9_14 rfl ?_
  refine go_icmpge B d9_16 (fun c16_95 => ?_) (fun c16_95 => ?_)
  · exact absurd c16_95 (by decide)
  refine go_aload_n B d9_19 rfl rfl ?_
  refine go_iload B d9_20 rfl ?_
  refine go_iaload B (i := 1) (v := (.int (Int32.ofNat (W + 4)))) d9_22 AL rfl rfl ?_
  refine go_istore B #[.val (.ref g), .val (.int (Int32.ofNat q)), .val (.int s), .val (.ref la), .val (.int (4 : Int32)), .val (.int (1 : Int32)), .val (.int (Int32.ofNat (W + 4))), .val (.int (((1 : Int32) + r89) + r92))] d9_23 rfl ?_
  refine go_iconst B (x := (1 : Int32)) d9_25 rfl ?_
  refine go_aload_n B d9_26 rfl rfl ?_
  refine go_iload_n B d9_27 rfl ?_
  refine go_iload B d9_28 rfl ?_
  refine go_iload_n B d9_30 rfl ?_
  refine go_private B (W' := 1) (a := g) (argsL := [(.int (Int32.ofNat q)), (.int (Int32.ofNat (W + 4))), (.int s)]) (st := [(.int (1 : Int32))]) d9_31 (w_81 H) (sp_run H) (w_83 H) (w_82 H) (w_4 H) (w_84 H) (by decide) EG (rmRun0 H g sq N f (Int32.ofNat q) (Int32.ofNat (W + 4)) s (q + (W + 4)) h0 Z0 FS AS hN (n_step (d := (W + 4)) (by first | rfl | decide) (by omega)) (by omega) up) pd_0 rfl rfl rfl rfl (by decide) (by decide) (by decide) (by decide) ?_
  rintro _ h96 ⟨rfl, rfl⟩
  show Go κ _ h0 _ _ 34 #[.val (.ref g), .val (.int (Int32.ofNat q)), .val (.int s), .val (.ref la), .val (.int (4 : Int32)), .val (.int (1 : Int32)), .val (.int (Int32.ofNat (W + 4))), .val (.int (((1 : Int32) + r89) + r92))] [(.int (0 : Int32)), (.int (1 : Int32))]
  refine go_iadd B d9_34 ?_
  rw [show ((1 : Int32) + (0 : Int32)) = (1 : Int32) from by decide]
  refine go_aload_n B d9_35 rfl rfl ?_
  refine go_iload_n B d9_36 rfl ?_
  refine go_iload B d9_37 rfl ?_
  refine go_ineg B d9_39 ?_
  refine go_iload_n B d9_40 rfl ?_
  refine go_private B (W' := 1) (a := g) (argsL := [(.int (Int32.ofNat q)), (.int (-(Int32.ofNat (W + 4)))), (.int s)]) (st := [(.int (1 : Int32))]) d9_41 (w_81 H) (sp_run H) (w_83 H) (w_82 H) (w_4 H) (w_84 H) (by decide) EG (rmRun3 H g sq N f (Int32.ofNat q) (-(Int32.ofNat (W + 4))) s (q - 1 * (W + 4)) (q - 2 * (W + 4)) (q - 3 * (W + 4)) (q - 4 * (W + 4)) h0 Z0 FS AS hN (n_back (d := (W + 4)) (by first | rfl | decide) (by omega)) (by omega) w1 (n_back (d := (W + 4)) (by first | rfl | decide) (by omega)) (by omega) w2 (n_back (d := (W + 4)) (by first | rfl | decide) (by omega)) (by omega) w3 (n_back (d := (W + 4)) (by first | rfl | decide) (by omega)) (by omega) wz) pd_0 rfl rfl rfl rfl (by decide) (by decide) (by decide) (by decide) ?_
  rintro _ h97 ⟨rfl, rfl⟩
  show Go κ _ h0 _ _ 44 #[.val (.ref g), .val (.int (Int32.ofNat q)), .val (.int s), .val (.ref la), .val (.int (4 : Int32)), .val (.int (1 : Int32)), .val (.int (Int32.ofNat (W + 4))), .val (.int (((1 : Int32) + r89) + r92))] [(.int (3 : Int32)), (.int (1 : Int32))]
  refine go_iadd B d9_44 ?_
  rw [show ((1 : Int32) + (3 : Int32)) = (4 : Int32) from by decide]
  refine go_istore B #[.val (.ref g), .val (.int (Int32.ofNat q)), .val (.int s), .val (.ref la), .val (.int (4 : Int32)), .val (.int (1 : Int32)), .val (.int (Int32.ofNat (W + 4))), .val (.int (4 : Int32))] d9_45 rfl ?_
  refine go_iload B d9_47 rfl ?_
  refine go_iconst B (x := (4 : Int32)) d9_49 rfl ?_
  refine go_icmplt B d9_50 (fun c50_98 => ?_) (fun c50_98 => ?_)
  · exact absurd c50_98 (by decide)
  refine go_iconst B (x := (1 : Int32)) d9_53 rfl ?_
  refine go_zreturn B (y := (1 : Int32)) d9_54 (by decide) (by decide) (by decide) ?_
  exact ⟨rfl, rfl⟩
theorem d8_0 : Dc prog_19_method_13_code 0 (.aload_n 0) 1 1 := ⟨by decide +kernel, rfl⟩
theorem d8_1 : Dc prog_19_method_13_code 1 (.getfield 42) 3 4 := ⟨by decide +kernel, rfl⟩
theorem w_43 {a0 : Array Value} {Z : State} (H : Wd a0 Z) : (Jvm.Cond.fieldLink "com/example/plywright/plywright/games/ConnectFour" (42 : Nat) "com/example/plywright/plywright/games/ConnectFour" "zobrist" "[J").before a0 Z = true := H _ (List.mem_of_getElem? (i := 43) rfl)
theorem d8_4 : Dc prog_19_method_13_code 4 (.iconst 2) 1 5 := ⟨by decide +kernel, rfl⟩
theorem d8_5 : Dc prog_19_method_13_code 5 (.iload_n 1) 1 6 := ⟨by decide +kernel, rfl⟩
theorem d8_6 : Dc prog_19_method_13_code 6 (.imul) 1 7 := ⟨by decide +kernel, rfl⟩
theorem d8_7 : Dc prog_19_method_13_code 7 (.iload_n 2) 1 8 := ⟨by decide +kernel, rfl⟩
theorem d8_8 : Dc prog_19_method_13_code 8 (.iadd) 1 9 := ⟨by decide +kernel, rfl⟩
theorem d8_9 : Dc prog_19_method_13_code 9 (.iconst 1) 1 10 := ⟨by decide +kernel, rfl⟩
theorem d8_10 : Dc prog_19_method_13_code 10 (.isub) 1 11 := ⟨by decide +kernel, rfl⟩
theorem d8_11 : Dc prog_19_method_13_code 11 (.laload) 1 12 := ⟨by decide +kernel, rfl⟩
theorem d8_12 : Dc prog_19_method_13_code 12 (.aload_n 0) 1 13 := ⟨by decide +kernel, rfl⟩
theorem d8_13 : Dc prog_19_method_13_code 13 (.getfield 42) 3 16 := ⟨by decide +kernel, rfl⟩
theorem d8_16 : Dc prog_19_method_13_code 16 (.aload_n 0) 1 17 := ⟨by decide +kernel, rfl⟩
theorem d8_17 : Dc prog_19_method_13_code 17 (.getfield 42) 3 20 := ⟨by decide +kernel, rfl⟩
theorem d8_20 : Dc prog_19_method_13_code 20 (.arraylength) 1 21 := ⟨by decide +kernel, rfl⟩
theorem d8_21 : Dc prog_19_method_13_code 21 (.iconst 1) 1 22 := ⟨by decide +kernel, rfl⟩
theorem d8_22 : Dc prog_19_method_13_code 22 (.isub) 1 23 := ⟨by decide +kernel, rfl⟩
theorem d8_23 : Dc prog_19_method_13_code 23 (.laload) 1 24 := ⟨by decide +kernel, rfl⟩
theorem d8_24 : Dc prog_19_method_13_code 24 (.lxor) 1 25 := ⟨by decide +kernel, rfl⟩
theorem d8_25 : Dc prog_19_method_13_code 25 (.lreturn) 1 26 := ⟨by decide +kernel, rfl⟩
set_option maxRecDepth 65536 in
set_option maxHeartbeats 40000000 in
theorem rmKc {l : Launch} {Z : State} {a0 : Array Value} {n0 : Nat} (H : Wd a0 Z) (g zb : Addr) (N q sN : Nat) (zf : Nat → Int64) (s : Int32) (h0 : Heap) (Z0 : n0 ≤ h0.size) (FZ : Fld Z h0 g "com/example/plywright/plywright/games/ConnectFour" "zobrist" "[J" (.ref zb)) (AZ : AV Z h0 zb .long (lm (2 * N + 1) zf)) (hN : N < 1000) (hq : q < N) (hs : s = Int32.ofNat sN) (s1 : 1 ≤ sN) (s2 : sN ≤ 2) :
    Ct l Z n0 (⟨"com/example/plywright/plywright/games/ConnectFour", "keyChange", "(IB)J"⟩ : MethodName) prog_19_method_13_code 3 (some .long) [] ({ frames := 0, cells := 0, slots := 0, locals := 0 } : Room) #[(.ref g), (.int (Int32.ofNat q)), (.int s)] h0 (fun v h => ∃ u, v = some (.long u) ∧ h0 = h) := by
  refine Ct.of (a0 := a0) (L0 := #[.val (.ref g), .val (.int (Int32.ofNat q)), .val (.int s)]) (plainFor_of_name pn_com_example_plywright_plywright_games_ConnectFour) (fun m => by first | (simp [entryFrame, mkF, argsToLocals, Value.category]; done) | rfl) ?_
  intro κ B0
  have B : Ok κ l Z a0 n0 ({ frames := 0, cells := 0, slots := 0, locals := 0 } : Room) "com/example/plywright/plywright/games/ConnectFour" "keyChange" prog_19_method_13_code 3 (some .long) := B0
  refine go_aload_n B d8_0 rfl rfl ?_
  refine go_getfield B d8_1 (w_43 H) FZ ?_
  refine go_iconst B (x := (2 : Int32)) d8_4 rfl ?_
  refine go_iload_n B d8_5 rfl ?_
  refine go_imul B d8_6 ?_
  rw [show ((2 : Int32) * (Int32.ofNat q)) = (Int32.ofNat (2 * q)) from (by rw [show (2 : Int32) = Int32.ofNat 2 from rfl, n_mul])]
  refine go_iload_n B d8_7 rfl ?_
  refine go_iadd B d8_8 ?_
  rw [show ((Int32.ofNat (2 * q)) + s) = (Int32.ofNat (2 * q + sN)) from (n_step hs rfl)]
  refine go_iconst B (x := (1 : Int32)) d8_9 rfl ?_
  refine go_isub B d8_10 ?_
  rw [show ((Int32.ofNat (2 * q + sN)) - (1 : Int32)) = (Int32.ofNat (2 * q + sN - 1)) from (by rw [show (1 : Int32) = Int32.ofNat 1 from rfl, n_sub (by omega)])]
  refine go_laload B (i := (2 * q + sN - 1)) (v := (.long (zf (2 * q + sN - 1)))) d8_11 AZ (i_ofNat (by omega)) (lm_get (by omega)) ?_
  refine go_aload_n B d8_12 rfl rfl ?_
  refine go_getfield B d8_13 (w_43 H) FZ ?_
  refine go_aload_n B d8_16 rfl rfl ?_
  refine go_getfield B d8_17 (w_43 H) FZ ?_
  refine go_arraylength B (x := (Int32.ofNat (2 * N + 1))) d8_20 AZ (by rw [lm_len]) ?_
  refine go_iconst B (x := (1 : Int32)) d8_21 rfl ?_
  refine go_isub B d8_22 ?_
  rw [show ((Int32.ofNat (2 * N + 1)) - (1 : Int32)) = (Int32.ofNat (2 * N)) from (by rw [show (1 : Int32) = Int32.ofNat 1 from rfl, n_sub (by omega)]; rfl)]
  refine go_laload B (i := (2 * N)) (v := (.long (zf (2 * N)))) d8_23 AZ (i_ofNat (by omega)) (lm_get (by omega)) ?_
  refine go_lxor B d8_24 ?_
  refine go_lreturn B d8_25 (by decide) (by decide) ?_
  exact ⟨_, rfl, rfl⟩
theorem d6_0 : Dc prog_19_method_12_code 0 (.iload_n 1) 1 1 := ⟨by decide +kernel, rfl⟩
theorem d6_1 : Db prog_19_method_12_code 1 (.ifCond .lt 11) 11 4 12 := ⟨by decide +kernel, rfl, rfl⟩
theorem d6_4 : Dc prog_19_method_12_code 4 (.iload_n 1) 1 5 := ⟨by decide +kernel, rfl⟩
theorem d6_5 : Dc prog_19_method_12_code 5 (.aload_n 0) 1 6 := ⟨by decide +kernel, rfl⟩
theorem d6_6 : Dc prog_19_method_12_code 6 (.getfield 17) 3 9 := ⟨by decide +kernel, rfl⟩
theorem w_23 {a0 : Array Value} {Z : State} (H : Wd a0 Z) : (Jvm.Cond.fieldLink "com/example/plywright/plywright/games/ConnectFour" (17 : Nat) "com/example/plywright/plywright/games/ConnectFour" "columns" "I").before a0 Z = true := H _ (List.mem_of_getElem? (i := 23) rfl)
theorem d6_9 : Db prog_19_method_12_code 9 (.if_icmp .lt 23) 23 12 32 := ⟨by decide +kernel, rfl, rfl⟩
theorem d6_32 : Dc prog_19_method_12_code 32 (.aload_n 0) 1 33 := ⟨by decide +kernel, rfl⟩
theorem d6_33 : Dc prog_19_method_12_code 33 (.getfield 102) 3 36 := ⟨by decide +kernel, rfl⟩
theorem w_63 {a0 : Array Value} {Z : State} (H : Wd a0 Z) : (Jvm.Cond.fieldLink "com/example/plywright/plywright/games/ConnectFour" (102 : Nat) "com/example/plywright/plywright/games/ConnectFour" "won" "Z").before a0 Z = true := H _ (List.mem_of_getElem? (i := 63) rfl)
theorem d6_36 : Db prog_19_method_12_code 36 (.ifCond .eq 13) 13 39 49 := ⟨by decide +kernel, rfl, rfl⟩
theorem d6_49 : Dc prog_19_method_12_code 49 (.aload_n 0) 1 50 := ⟨by decide +kernel, rfl⟩
theorem d6_50 : Dc prog_19_method_12_code 50 (.getfield 29) 3 53 := ⟨by decide +kernel, rfl⟩
theorem w_31 {a0 : Array Value} {Z : State} (H : Wd a0 Z) : (Jvm.Cond.fieldLink "com/example/plywright/plywright/games/ConnectFour" (29 : Nat) "com/example/plywright/plywright/games/ConnectFour" "heights" "[I").before a0 Z = true := H _ (List.mem_of_getElem? (i := 31) rfl)
theorem d6_53 : Dc prog_19_method_12_code 53 (.iload_n 1) 1 54 := ⟨by decide +kernel, rfl⟩
theorem d6_54 : Dc prog_19_method_12_code 54 (.iaload) 1 55 := ⟨by decide +kernel, rfl⟩
theorem d6_55 : Dc prog_19_method_12_code 55 (.aload_n 0) 1 56 := ⟨by decide +kernel, rfl⟩
theorem d6_56 : Dc prog_19_method_12_code 56 (.getfield 20) 3 59 := ⟨by decide +kernel, rfl⟩
theorem w_25 {a0 : Array Value} {Z : State} (H : Wd a0 Z) : (Jvm.Cond.fieldLink "com/example/plywright/plywright/games/ConnectFour" (20 : Nat) "com/example/plywright/plywright/games/ConnectFour" "rows" "I").before a0 Z = true := H _ (List.mem_of_getElem? (i := 25) rfl)
theorem d6_59 : Db prog_19_method_12_code 59 (.if_icmp .ne 19) 19 62 78 := ⟨by decide +kernel, rfl, rfl⟩
theorem d6_78 : Dc prog_19_method_12_code 78 (.aload_n 0) 1 79 := ⟨by decide +kernel, rfl⟩
theorem d6_79 : Dc prog_19_method_12_code 79 (.iload_n 1) 1 80 := ⟨by decide +kernel, rfl⟩
theorem d6_80 : Dc prog_19_method_12_code 80 (.aload_n 0) 1 81 := ⟨by decide +kernel, rfl⟩
theorem d6_81 : Dc prog_19_method_12_code 81 (.getfield 29) 3 84 := ⟨by decide +kernel, rfl⟩
theorem d6_84 : Dc prog_19_method_12_code 84 (.iload_n 1) 1 85 := ⟨by decide +kernel, rfl⟩
theorem d6_85 : Dc prog_19_method_12_code 85 (.iaload) 1 86 := ⟨by decide +kernel, rfl⟩
theorem d6_86 : Dc prog_19_method_12_code 86 (.invokevirtual 50) 3 89 := ⟨by decide +kernel, rfl⟩
theorem w_51 {a0 : Array Value} {Z : State} (H : Wd a0 Z) : (Jvm.Cond.code ({ cls := "com/example/plywright/plywright/games/ConnectFour", name := "square", desc := "(II)I" } : Jvm.MethodName) prog_19_method_5_code (3 : Nat) (Option.some Jvm.ClassFile.FieldType.int)).before a0 Z = true := H _ (List.mem_of_getElem? (i := 51) rfl)
theorem pd_1 : parseMethodDescriptor "(II)I" = some ⟨[.int, .int], some .int⟩ := by decide +kernel
theorem w_50 {a0 : Array Value} {Z : State} (H : Wd a0 Z) : (Jvm.Cond.privateMethod ({ cls := "com/example/plywright/plywright/games/ConnectFour", name := "square", desc := "(II)I" } : Jvm.MethodName)).before a0 Z = true := H _ (List.mem_of_getElem? (i := 50) rfl)
theorem w_49 {a0 : Array Value} {Z : State} (H : Wd a0 Z) : (Jvm.Cond.instanceMethod ({ cls := "com/example/plywright/plywright/games/ConnectFour", name := "square", desc := "(II)I" } : Jvm.MethodName)).before a0 Z = true := H _ (List.mem_of_getElem? (i := 49) rfl)
theorem sp_square {a0 : Array Value} {Z : State} (H : Wd a0 Z) : (Jvm.Cond.selects "com/example/plywright/plywright/games/ConnectFour" ({ cls := "com/example/plywright/plywright/games/ConnectFour", name := "square", desc := "(II)I" } : Jvm.MethodName) ({ cls := "com/example/plywright/plywright/games/ConnectFour", name := "square", desc := "(II)I" } : Jvm.MethodName)).before a0 Z = true := sel_private (w_50 H) (w_49 H) (w_61 H) rfl (by decide)
theorem w_48 {a0 : Array Value} {Z : State} (H : Wd a0 Z) : (Jvm.Cond.methodLink "com/example/plywright/plywright/games/ConnectFour" (50 : Nat) ({ cls := "com/example/plywright/plywright/games/ConnectFour", name := "square", desc := "(II)I" } : Jvm.MethodName)).before a0 Z = true := H _ (List.mem_of_getElem? (i := 48) rfl)
theorem d6_89 : Dc prog_19_method_12_code 89 (.istore_n 2) 1 90 := ⟨by decide +kernel, rfl⟩
theorem d6_90 : Dc prog_19_method_12_code 90 (.aload_n 0) 1 91 := ⟨by decide +kernel, rfl⟩
theorem d6_91 : Dc prog_19_method_12_code 91 (.invokevirtual 114) 3 94 := ⟨by decide +kernel, rfl⟩
theorem w_68 {a0 : Array Value} {Z : State} (H : Wd a0 Z) : (Jvm.Cond.code ({ cls := "com/example/plywright/plywright/games/ConnectFour", name := "sideToMove", desc := "()B" } : Jvm.MethodName) prog_19_method_4_code (1 : Nat) (Option.some Jvm.ClassFile.FieldType.byte)).before a0 Z = true := H _ (List.mem_of_getElem? (i := 68) rfl)
theorem pd_2 : parseMethodDescriptor "()B" = some ⟨[], some .byte⟩ := by decide +kernel
theorem w_67 {a0 : Array Value} {Z : State} (H : Wd a0 Z) : (Jvm.Cond.privateMethod ({ cls := "com/example/plywright/plywright/games/ConnectFour", name := "sideToMove", desc := "()B" } : Jvm.MethodName)).before a0 Z = true := H _ (List.mem_of_getElem? (i := 67) rfl)
theorem w_66 {a0 : Array Value} {Z : State} (H : Wd a0 Z) : (Jvm.Cond.instanceMethod ({ cls := "com/example/plywright/plywright/games/ConnectFour", name := "sideToMove", desc := "()B" } : Jvm.MethodName)).before a0 Z = true := H _ (List.mem_of_getElem? (i := 66) rfl)
theorem sp_sideToMove {a0 : Array Value} {Z : State} (H : Wd a0 Z) : (Jvm.Cond.selects "com/example/plywright/plywright/games/ConnectFour" ({ cls := "com/example/plywright/plywright/games/ConnectFour", name := "sideToMove", desc := "()B" } : Jvm.MethodName) ({ cls := "com/example/plywright/plywright/games/ConnectFour", name := "sideToMove", desc := "()B" } : Jvm.MethodName)).before a0 Z = true := sel_private (w_67 H) (w_66 H) (w_61 H) rfl (by decide)
theorem w_65 {a0 : Array Value} {Z : State} (H : Wd a0 Z) : (Jvm.Cond.methodLink "com/example/plywright/plywright/games/ConnectFour" (114 : Nat) ({ cls := "com/example/plywright/plywright/games/ConnectFour", name := "sideToMove", desc := "()B" } : Jvm.MethodName)).before a0 Z = true := H _ (List.mem_of_getElem? (i := 65) rfl)
theorem d6_94 : Dc prog_19_method_12_code 94 (.istore_n 3) 1 95 := ⟨by decide +kernel, rfl⟩
theorem d6_95 : Dc prog_19_method_12_code 95 (.aload_n 0) 1 96 := ⟨by decide +kernel, rfl⟩
theorem d6_96 : Dc prog_19_method_12_code 96 (.getfield 25) 3 99 := ⟨by decide +kernel, rfl⟩
theorem d6_99 : Dc prog_19_method_12_code 99 (.iload_n 2) 1 100 := ⟨by decide +kernel, rfl⟩
theorem d6_100 : Dc prog_19_method_12_code 100 (.iload_n 3) 1 101 := ⟨by decide +kernel, rfl⟩
theorem d6_101 : Dc prog_19_method_12_code 101 (.bastore) 1 102 := ⟨by decide +kernel, rfl⟩
theorem d6_102 : Dc prog_19_method_12_code 102 (.aload_n 0) 1 103 := ⟨by decide +kernel, rfl⟩
theorem d6_103 : Dc prog_19_method_12_code 103 (.getfield 29) 3 106 := ⟨by decide +kernel, rfl⟩
theorem d6_106 : Dc prog_19_method_12_code 106 (.iload_n 1) 1 107 := ⟨by decide +kernel, rfl⟩
theorem d6_107 : Dc prog_19_method_12_code 107 (.dup2) 1 108 := ⟨by decide +kernel, rfl⟩
theorem d6_108 : Dc prog_19_method_12_code 108 (.iaload) 1 109 := ⟨by decide +kernel, rfl⟩
theorem d6_109 : Dc prog_19_method_12_code 109 (.iconst 1) 1 110 := ⟨by decide +kernel, rfl⟩
theorem d6_110 : Dc prog_19_method_12_code 110 (.iadd) 1 111 := ⟨by decide +kernel, rfl⟩
theorem d6_111 : Dc prog_19_method_12_code 111 (.iastore) 1 112 := ⟨by decide +kernel, rfl⟩
theorem d6_112 : Dc prog_19_method_12_code 112 (.aload_n 0) 1 113 := ⟨by decide +kernel, rfl⟩
theorem d6_113 : Dc prog_19_method_12_code 113 (.getfield 33) 3 116 := ⟨by decide +kernel, rfl⟩
theorem w_33 {a0 : Array Value} {Z : State} (H : Wd a0 Z) : (Jvm.Cond.fieldLink "com/example/plywright/plywright/games/ConnectFour" (33 : Nat) "com/example/plywright/plywright/games/ConnectFour" "played" "[I").before a0 Z = true := H _ (List.mem_of_getElem? (i := 33) rfl)
theorem d6_116 : Dc prog_19_method_12_code 116 (.aload_n 0) 1 117 := ⟨by decide +kernel, rfl⟩
theorem d6_117 : Dc prog_19_method_12_code 117 (.dup) 1 118 := ⟨by decide +kernel, rfl⟩
theorem d6_118 : Dc prog_19_method_12_code 118 (.getfield 95) 3 121 := ⟨by decide +kernel, rfl⟩
theorem d6_121 : Dc prog_19_method_12_code 121 (.dup_x1) 1 122 := ⟨by decide +kernel, rfl⟩
theorem d6_122 : Dc prog_19_method_12_code 122 (.iconst 1) 1 123 := ⟨by decide +kernel, rfl⟩
theorem d6_123 : Dc prog_19_method_12_code 123 (.iadd) 1 124 := ⟨by decide +kernel, rfl⟩
theorem d6_124 : Dc prog_19_method_12_code 124 (.putfield 95) 3 127 := ⟨by decide +kernel, rfl⟩
theorem w_70 {a0 : Array Value} {Z : State} (H : Wd a0 Z) : (Jvm.Cond.lays "com/example/plywright/plywright/games/ConnectFour" "com/example/plywright/plywright/games/ConnectFour" "plies" "I").before a0 Z = true := H _ (List.mem_of_getElem? (i := 70) rfl)
theorem w_3 {a0 : Array Value} {Z : State} (H : Wd a0 Z) : (Jvm.Cond.instantiable "com/example/plywright/plywright/games/ConnectFour" (14 : Nat)).before a0 Z = true := H _ (List.mem_of_getElem? (i := 3) rfl)
theorem d6_127 : Dc prog_19_method_12_code 127 (.iload_n 2) 1 128 := ⟨by decide +kernel, rfl⟩
theorem d6_128 : Dc prog_19_method_12_code 128 (.iastore) 1 129 := ⟨by decide +kernel, rfl⟩
theorem d6_129 : Dc prog_19_method_12_code 129 (.aload_n 0) 1 130 := ⟨by decide +kernel, rfl⟩
theorem d6_130 : Dc prog_19_method_12_code 130 (.dup) 1 131 := ⟨by decide +kernel, rfl⟩
theorem d6_131 : Dc prog_19_method_12_code 131 (.getfield 118) 3 134 := ⟨by decide +kernel, rfl⟩
theorem w_72 {a0 : Array Value} {Z : State} (H : Wd a0 Z) : (Jvm.Cond.lays "com/example/plywright/plywright/games/ConnectFour" "com/example/plywright/plywright/games/ConnectFour" "key" "J").before a0 Z = true := H _ (List.mem_of_getElem? (i := 72) rfl)
theorem w_71 {a0 : Array Value} {Z : State} (H : Wd a0 Z) : (Jvm.Cond.fieldLink "com/example/plywright/plywright/games/ConnectFour" (118 : Nat) "com/example/plywright/plywright/games/ConnectFour" "key" "J").before a0 Z = true := H _ (List.mem_of_getElem? (i := 71) rfl)
theorem d6_134 : Dc prog_19_method_12_code 134 (.aload_n 0) 1 135 := ⟨by decide +kernel, rfl⟩
theorem d6_135 : Dc prog_19_method_12_code 135 (.iload_n 2) 1 136 := ⟨by decide +kernel, rfl⟩
theorem d6_136 : Dc prog_19_method_12_code 136 (.iload_n 3) 1 137 := ⟨by decide +kernel, rfl⟩
theorem d6_137 : Dc prog_19_method_12_code 137 (.invokevirtual 122) 3 140 := ⟨by decide +kernel, rfl⟩
theorem w_44 {a0 : Array Value} {Z : State} (H : Wd a0 Z) : (Jvm.Cond.laysFinal "com/example/plywright/plywright/games/ConnectFour" "com/example/plywright/plywright/games/ConnectFour" "zobrist" "[J").before a0 Z = true := H _ (List.mem_of_getElem? (i := 44) rfl)
theorem w_76 {a0 : Array Value} {Z : State} (H : Wd a0 Z) : (Jvm.Cond.code ({ cls := "com/example/plywright/plywright/games/ConnectFour", name := "keyChange", desc := "(IB)J" } : Jvm.MethodName) prog_19_method_13_code (3 : Nat) (Option.some Jvm.ClassFile.FieldType.long)).before a0 Z = true := H _ (List.mem_of_getElem? (i := 76) rfl)
theorem pd_3 : parseMethodDescriptor "(IB)J" = some ⟨[.int, .byte], some .long⟩ := by decide +kernel
theorem w_75 {a0 : Array Value} {Z : State} (H : Wd a0 Z) : (Jvm.Cond.privateMethod ({ cls := "com/example/plywright/plywright/games/ConnectFour", name := "keyChange", desc := "(IB)J" } : Jvm.MethodName)).before a0 Z = true := H _ (List.mem_of_getElem? (i := 75) rfl)
theorem w_74 {a0 : Array Value} {Z : State} (H : Wd a0 Z) : (Jvm.Cond.instanceMethod ({ cls := "com/example/plywright/plywright/games/ConnectFour", name := "keyChange", desc := "(IB)J" } : Jvm.MethodName)).before a0 Z = true := H _ (List.mem_of_getElem? (i := 74) rfl)
theorem sp_keyChange {a0 : Array Value} {Z : State} (H : Wd a0 Z) : (Jvm.Cond.selects "com/example/plywright/plywright/games/ConnectFour" ({ cls := "com/example/plywright/plywright/games/ConnectFour", name := "keyChange", desc := "(IB)J" } : Jvm.MethodName) ({ cls := "com/example/plywright/plywright/games/ConnectFour", name := "keyChange", desc := "(IB)J" } : Jvm.MethodName)).before a0 Z = true := sel_private (w_75 H) (w_74 H) (w_61 H) rfl (by decide)
theorem w_73 {a0 : Array Value} {Z : State} (H : Wd a0 Z) : (Jvm.Cond.methodLink "com/example/plywright/plywright/games/ConnectFour" (122 : Nat) ({ cls := "com/example/plywright/plywright/games/ConnectFour", name := "keyChange", desc := "(IB)J" } : Jvm.MethodName)).before a0 Z = true := H _ (List.mem_of_getElem? (i := 73) rfl)
theorem d6_140 : Dc prog_19_method_12_code 140 (.lxor) 1 141 := ⟨by decide +kernel, rfl⟩
theorem d6_141 : Dc prog_19_method_12_code 141 (.putfield 118) 3 144 := ⟨by decide +kernel, rfl⟩
theorem d6_144 : Dc prog_19_method_12_code 144 (.aload_n 0) 1 145 := ⟨by decide +kernel, rfl⟩
theorem d6_145 : Dc prog_19_method_12_code 145 (.aload_n 0) 1 146 := ⟨by decide +kernel, rfl⟩
theorem d6_146 : Dc prog_19_method_12_code 146 (.iload_n 2) 1 147 := ⟨by decide +kernel, rfl⟩
theorem d6_147 : Dc prog_19_method_12_code 147 (.iload_n 3) 1 148 := ⟨by decide +kernel, rfl⟩
theorem d6_148 : Dc prog_19_method_12_code 148 (.invokevirtual 126) 3 151 := ⟨by decide +kernel, rfl⟩
theorem w_30 {a0 : Array Value} {Z : State} (H : Wd a0 Z) : (Jvm.Cond.laysFinal "com/example/plywright/plywright/games/ConnectFour" "com/example/plywright/plywright/games/ConnectFour" "squares" "[B").before a0 Z = true := H _ (List.mem_of_getElem? (i := 30) rfl)
theorem w_55 {a0 : Array Value} {Z : State} (H : Wd a0 Z) : (Jvm.Cond.laysFinal "com/example/plywright/plywright/games/ConnectFour" "com/example/plywright/plywright/games/ConnectFour" "lineSteps" "[I").before a0 Z = true := H _ (List.mem_of_getElem? (i := 55) rfl)
theorem w_80 {a0 : Array Value} {Z : State} (H : Wd a0 Z) : (Jvm.Cond.code ({ cls := "com/example/plywright/plywright/games/ConnectFour", name := "makesFour", desc := "(IB)Z" } : Jvm.MethodName) prog_19_method_14_code (8 : Nat) (Option.some Jvm.ClassFile.FieldType.boolean)).before a0 Z = true := H _ (List.mem_of_getElem? (i := 80) rfl)
theorem pd_4 : parseMethodDescriptor "(IB)Z" = some ⟨[.int, .byte], some .boolean⟩ := by decide +kernel
theorem w_79 {a0 : Array Value} {Z : State} (H : Wd a0 Z) : (Jvm.Cond.privateMethod ({ cls := "com/example/plywright/plywright/games/ConnectFour", name := "makesFour", desc := "(IB)Z" } : Jvm.MethodName)).before a0 Z = true := H _ (List.mem_of_getElem? (i := 79) rfl)
theorem w_78 {a0 : Array Value} {Z : State} (H : Wd a0 Z) : (Jvm.Cond.instanceMethod ({ cls := "com/example/plywright/plywright/games/ConnectFour", name := "makesFour", desc := "(IB)Z" } : Jvm.MethodName)).before a0 Z = true := H _ (List.mem_of_getElem? (i := 78) rfl)
theorem sp_makesFour {a0 : Array Value} {Z : State} (H : Wd a0 Z) : (Jvm.Cond.selects "com/example/plywright/plywright/games/ConnectFour" ({ cls := "com/example/plywright/plywright/games/ConnectFour", name := "makesFour", desc := "(IB)Z" } : Jvm.MethodName) ({ cls := "com/example/plywright/plywright/games/ConnectFour", name := "makesFour", desc := "(IB)Z" } : Jvm.MethodName)).before a0 Z = true := sel_private (w_79 H) (w_78 H) (w_61 H) rfl (by decide)
theorem w_77 {a0 : Array Value} {Z : State} (H : Wd a0 Z) : (Jvm.Cond.methodLink "com/example/plywright/plywright/games/ConnectFour" (126 : Nat) ({ cls := "com/example/plywright/plywright/games/ConnectFour", name := "makesFour", desc := "(IB)Z" } : Jvm.MethodName)).before a0 Z = true := H _ (List.mem_of_getElem? (i := 77) rfl)
theorem d6_151 : Dc prog_19_method_12_code 151 (.putfield 102) 3 154 := ⟨by decide +kernel, rfl⟩
theorem w_64 {a0 : Array Value} {Z : State} (H : Wd a0 Z) : (Jvm.Cond.lays "com/example/plywright/plywright/games/ConnectFour" "com/example/plywright/plywright/games/ConnectFour" "won" "Z").before a0 Z = true := H _ (List.mem_of_getElem? (i := 64) rfl)
theorem d6_154 : Dc prog_19_method_12_code 154 (.return_) 1 155 := ⟨by decide +kernel, rfl⟩
theorem w_24 {a0 : Array Value} {Z : State} (H : Wd a0 Z) : (Jvm.Cond.laysFinal "com/example/plywright/plywright/games/ConnectFour" "com/example/plywright/plywright/games/ConnectFour" "columns" "I").before a0 Z = true := H _ (List.mem_of_getElem? (i := 24) rfl)
theorem w_26 {a0 : Array Value} {Z : State} (H : Wd a0 Z) : (Jvm.Cond.laysFinal "com/example/plywright/plywright/games/ConnectFour" "com/example/plywright/plywright/games/ConnectFour" "rows" "I").before a0 Z = true := H _ (List.mem_of_getElem? (i := 26) rfl)
theorem w_28 {a0 : Array Value} {Z : State} (H : Wd a0 Z) : (Jvm.Cond.laysFinal "com/example/plywright/plywright/games/ConnectFour" "com/example/plywright/plywright/games/ConnectFour" "stride" "I").before a0 Z = true := H _ (List.mem_of_getElem? (i := 28) rfl)
theorem w_32 {a0 : Array Value} {Z : State} (H : Wd a0 Z) : (Jvm.Cond.laysFinal "com/example/plywright/plywright/games/ConnectFour" "com/example/plywright/plywright/games/ConnectFour" "heights" "[I").before a0 Z = true := H _ (List.mem_of_getElem? (i := 32) rfl)
theorem w_34 {a0 : Array Value} {Z : State} (H : Wd a0 Z) : (Jvm.Cond.laysFinal "com/example/plywright/plywright/games/ConnectFour" "com/example/plywright/plywright/games/ConnectFour" "played" "[I").before a0 Z = true := H _ (List.mem_of_getElem? (i := 34) rfl)
theorem w_57 {a0 : Array Value} {Z : State} (H : Wd a0 Z) : (Jvm.Cond.laysFinal "com/example/plywright/plywright/games/ConnectFour" "com/example/plywright/plywright/games/ConnectFour" "centreFirst" "[I").before a0 Z = true := H _ (List.mem_of_getElem? (i := 57) rfl)
set_option maxRecDepth 65536 in
set_option maxHeartbeats 40000000 in
theorem rmPl0 {l : Launch} {Z : State} {a0 : Array Value} {n0 : Nat} (H : Wd a0 Z) (g sq hs pl zb la cf : Addr) (N W Hr c r q P sN : Nat) (f e pf : Nat → Int32) (zf : Nat → Int64) (s : Int32) (u : Int64) (h0 : Heap) (Z0 : n0 ≤ h0.size) (hcell : own_cell W c r = q) (hcW : c < W) (hW9 : W ≤ 9) (hrH : r < Hr) (hH9 : Hr ≤ 9) (he : e c = Int32.ofNat r) (hP : P < W * Hr) (hqN : q < N) (hsd : own_sd P = s) (hsN : s = Int32.ofNat sN) (s1 : 1 ≤ sN) (s2 : sN ≤ 2) (nb : nar .byte s = s) (hN : N < 1000) (q1 : 2 * (W + 5) ≤ q) (q2 : q + 2 * (W + 5) < N) (up : ¬ (updf f q s) (q + (W + 4)) = s) (p0 : ¬ (updf f q s) (q + 1) = s ∨ ¬ (updf f q s) (q + 2 * 1) = s) (m0 : ¬ (updf f q s) (q - 1) = s ∨ ¬ (updf f q s) (q - 2 * 1) = s) (p2 : ¬ (updf f q s) (q + (W + 5)) = s ∨ ¬ (updf f q s) (q + 2 * (W + 5)) = s) (m2 : ¬ (updf f q s) (q - (W + 5)) = s ∨ ¬ (updf f q s) (q - 2 * (W + 5)) = s) (p3 : ¬ (updf f q s) (q + (W + 3)) = s ∨ ¬ (updf f q s) (q + 2 * (W + 3)) = s) (m3 : ¬ (updf f q s) (q - (W + 3)) = s ∨ ¬ (updf f q s) (q - 2 * (W + 3)) = s) (wz : ¬ (updf f q s) (q - 1 * (W + 4)) = s) (wb : 1 * (W + 4) ≤ q) (E_g : Exa Z h0 g "com/example/plywright/plywright/games/ConnectFour") (F0_g : Fld Z h0 g "com/example/plywright/plywright/games/ConnectFour" "columns" "I" (.int (Int32.ofNat W))) (F1_g : Fld Z h0 g "com/example/plywright/plywright/games/ConnectFour" "rows" "I" (.int (Int32.ofNat Hr))) (F2_g : Fld Z h0 g "com/example/plywright/plywright/games/ConnectFour" "stride" "I" (.int (Int32.ofNat (W + 4)))) (F3_g : Fld Z h0 g "com/example/plywright/plywright/games/ConnectFour" "squares" "[B" (.ref sq)) (F4_g : Fld Z h0 g "com/example/plywright/plywright/games/ConnectFour" "heights" "[I" (.ref hs)) (F5_g : Fld Z h0 g "com/example/plywright/plywright/games/ConnectFour" "played" "[I" (.ref pl)) (F6_g : Fld Z h0 g "com/example/plywright/plywright/games/ConnectFour" "zobrist" "[J" (.ref zb)) (F7_g : Fld Z h0 g "com/example/plywright/plywright/games/ConnectFour" "lineSteps" "[I" (.ref la)) (F8_g : Fld Z h0 g "com/example/plywright/plywright/games/ConnectFour" "centreFirst" "[I" (.ref cf)) (F9_g : Fld Z h0 g "com/example/plywright/plywright/games/ConnectFour" "plies" "I" (.int (Int32.ofNat P))) (F10_g : Fld Z h0 g "com/example/plywright/plywright/games/ConnectFour" "won" "Z" (.int (0 : Int32))) (F11_g : Fld Z h0 g "com/example/plywright/plywright/games/ConnectFour" "key" "J" (.long u)) (A_sq : AV Z h0 sq .byte (bm N f)) (A_hs : AV Z h0 hs .int (bm W e)) (A_pl : AV Z h0 pl .int (bm (W * Hr) pf)) (A_zb : AV Z h0 zb .long (lm (2 * N + 1) zf)) (A_la : AV Z h0 la .int [(.int (1 : Int32)), (.int (Int32.ofNat (W + 4))), (.int (Int32.ofNat (W + 5))), (.int (Int32.ofNat (W + 3)))]) (n_sq_hs : sq ≠ hs) (n_sq_pl : sq ≠ pl) (n_sq_zb : sq ≠ zb) (n_sq_la : sq ≠ la) (n_hs_pl : hs ≠ pl) (n_hs_zb : hs ≠ zb) (n_hs_la : hs ≠ la) (n_pl_zb : pl ≠ zb) (n_pl_la : pl ≠ la) (n_zb_la : zb ≠ la) (n_sq_g : sq ≠ g) (n_hs_g : hs ≠ g) (n_pl_g : pl ≠ g) (n_zb_g : zb ≠ g) (n_la_g : la ≠ g) (ge_g : n0 ≤ g) (ge_sq : n0 ≤ sq) (ge_hs : n0 ≤ hs) (ge_pl : n0 ≤ pl) :
    Ct l Z n0 (⟨"com/example/plywright/plywright/games/ConnectFour", "play", "(I)V"⟩ : MethodName) prog_19_method_12_code 4 none [] ({ frames := 2, cells := 0, slots := 0, locals := 39 } : Room) #[(.ref g), (.int (Int32.ofNat c))] h0 (fun v h => ∃ u2, v = none ∧ Keep h0 h [g, sq, hs, pl] ∧ Exa Z h g "com/example/plywright/plywright/games/ConnectFour" ∧ Fld Z h g "com/example/plywright/plywright/games/ConnectFour" "columns" "I" (.int (Int32.ofNat W)) ∧ Fld Z h g "com/example/plywright/plywright/games/ConnectFour" "rows" "I" (.int (Int32.ofNat Hr)) ∧ Fld Z h g "com/example/plywright/plywright/games/ConnectFour" "stride" "I" (.int (Int32.ofNat (W + 4))) ∧ Fld Z h g "com/example/plywright/plywright/games/ConnectFour" "squares" "[B" (.ref sq) ∧ Fld Z h g "com/example/plywright/plywright/games/ConnectFour" "heights" "[I" (.ref hs) ∧ Fld Z h g "com/example/plywright/plywright/games/ConnectFour" "played" "[I" (.ref pl) ∧ Fld Z h g "com/example/plywright/plywright/games/ConnectFour" "zobrist" "[J" (.ref zb) ∧ Fld Z h g "com/example/plywright/plywright/games/ConnectFour" "lineSteps" "[I" (.ref la) ∧ Fld Z h g "com/example/plywright/plywright/games/ConnectFour" "centreFirst" "[I" (.ref cf) ∧ Fld Z h g "com/example/plywright/plywright/games/ConnectFour" "plies" "I" (.int (Int32.ofNat (P + 1))) ∧ Fld Z h g "com/example/plywright/plywright/games/ConnectFour" "won" "Z" (.int (0 : Int32)) ∧ Fld Z h g "com/example/plywright/plywright/games/ConnectFour" "key" "J" (.long u2) ∧ AV Z h sq .byte (bm N (updf f q s)) ∧ AV Z h hs .int (bm W (updf e c (Int32.ofNat (r + 1)))) ∧ AV Z h pl .int (bm (W * Hr) (updf pf P (Int32.ofNat q))) ∧ AV Z h zb .long (lm (2 * N + 1) zf) ∧ AV Z h la .int [(.int (1 : Int32)), (.int (Int32.ofNat (W + 4))), (.int (Int32.ofNat (W + 5))), (.int (Int32.ofNat (W + 3)))]) := by
  refine Ct.of (a0 := a0) (L0 := #[.val (.ref g), .val (.int (Int32.ofNat c)), .unset, .unset]) (plainFor_of_name pn_com_example_plywright_plywright_games_ConnectFour) (fun m => by first | (simp [entryFrame, mkF, argsToLocals, Value.category]; done) | rfl) ?_
  intro κ B0
  have B : Ok κ l Z a0 n0 ({ frames := 2, cells := 0, slots := 0, locals := 39 } : Room) "com/example/plywright/plywright/games/ConnectFour" "play" prog_19_method_12_code 4 none := B0
  refine go_iload_n B d6_0 rfl ?_
  refine go_iflt B d6_1 (fun c1 => ?_) (fun c1 => ?_)
  · exact absurd c1 (i_nlt (i_ofNat (by omega)) (show (0 : Int32).toInt = 0 from rfl) (by omega))
  refine go_iload_n B d6_4 rfl ?_
  refine go_aload_n B d6_5 rfl rfl ?_
  refine go_getfield B d6_6 (w_23 H) F0_g ?_
  refine go_icmplt B d6_9 (fun c9 => ?_) (fun c9 => ?_)
  rotate_left
  · exact absurd (i_lt (i_ofNat (by omega)) (i_ofNat (by omega)) (by omega)) c9
  refine go_aload_n B d6_32 rfl rfl ?_
  refine go_getfield B d6_33 (w_63 H) F10_g ?_
  refine go_ifeq B d6_36 (fun c36 => ?_) (fun c36 => ?_)
  rotate_left
  · exact absurd c36 (by decide)
  refine go_aload_n B d6_49 rfl rfl ?_
  refine go_getfield B d6_50 (w_31 H) F4_g ?_
  refine go_iload_n B d6_53 rfl ?_
  refine go_iaload B (i := c) (v := (.int (Int32.ofNat r))) d6_54 A_hs (i_ofNat (by omega)) (by rw [bm_get hcW, he]) ?_
  refine go_aload_n B d6_55 rfl rfl ?_
  refine go_getfield B d6_56 (w_25 H) F1_g ?_
  refine go_icmpne B d6_59 (fun c59 => ?_) (fun c59 => ?_)
  rotate_left
  · exact absurd c59 (i_ne (i_ofNat (by omega)) (i_ofNat (by omega)) (by omega))
  refine go_aload_n B d6_78 rfl rfl ?_
  refine go_iload_n B d6_79 rfl ?_
  refine go_aload_n B d6_80 rfl rfl ?_
  refine go_getfield B d6_81 (w_31 H) F4_g ?_
  refine go_iload_n B d6_84 rfl ?_
  refine go_iaload B (i := c) (v := (.int (Int32.ofNat r))) d6_85 A_hs (i_ofNat (by omega)) (by rw [bm_get hcW, he]) ?_
  refine go_private B (W' := 0) (a := g) (argsL := [(.int (Int32.ofNat c)), (.int (Int32.ofNat r))]) (st := []) d6_86 (w_48 H) (sp_square H) (w_50 H) (w_49 H) (w_4 H) (w_51 H) (by decide) E_g (rmSq H g W c r q h0 Z0 hcell F2_g) pd_1 rfl rfl rfl rfl (by decide) (by decide) (by decide) (by decide) ?_
  rintro _ h99 ⟨rfl, rfl⟩
  show Go κ _ h0 _ _ 89 #[.val (.ref g), .val (.int (Int32.ofNat c)), .unset, .unset] [(.int (Int32.ofNat q))]
  refine go_istore_n B #[.val (.ref g), .val (.int (Int32.ofNat c)), .val (.int (Int32.ofNat q)), .unset] d6_89 rfl ?_
  refine go_aload_n B d6_90 rfl rfl ?_
  refine go_private B (W' := 0) (a := g) (argsL := []) (st := []) d6_91 (w_65 H) (sp_sideToMove H) (w_67 H) (w_66 H) (w_4 H) (w_68 H) (by decide) E_g (rmSd H g P s h0 Z0 (by have := Nat.mul_le_mul hW9 hH9; omega) hsd F9_g) pd_2 rfl rfl rfl rfl (by decide) (by decide) (by decide) (by decide) ?_
  rintro _ h100 ⟨rfl, rfl⟩
  show Go κ _ h0 _ _ 94 #[.val (.ref g), .val (.int (Int32.ofNat c)), .val (.int (Int32.ofNat q)), .unset] [(.int s)]
  refine go_istore_n B #[.val (.ref g), .val (.int (Int32.ofNat c)), .val (.int (Int32.ofNat q)), .val (.int s)] d6_94 rfl ?_
  refine go_aload_n B d6_95 rfl rfl ?_
  refine go_getfield B d6_96 (w_29 H) F3_g ?_
  refine go_iload_n B d6_99 rfl ?_
  refine go_iload_n B d6_100 rfl ?_
  refine go_bastore B (i := q) d6_101 A_sq (i_ofNat (by omega)) (by rw [bm_len]; exact hqN) ge_sq ?_
  intro h101 W102 A103
  have A104 : AV Z h101 sq .byte (bm N (updf f q s)) := (by have z := A103; rw [nb, bm_set hqN] at z; exact z)
  refine go_aload_n B d6_102 rfl rfl ?_
  refine go_getfield B d6_103 (w_31 H) (Fld.other W102 F4_g (Or.inl (Ne.symm n_sq_g))) ?_
  refine go_iload_n B d6_106 rfl ?_
  refine go_dup2 B d6_107 rfl rfl ?_
  refine go_iaload B (i := c) (v := (.int (Int32.ofNat r))) d6_108 (AV.other A_hs W102 (Ne.symm n_sq_hs)) (i_ofNat (by omega)) (by rw [bm_get hcW, he]) ?_
  refine go_iconst B (x := (1 : Int32)) d6_109 rfl ?_
  refine go_iadd B d6_110 ?_
  rw [show ((Int32.ofNat r) + (1 : Int32)) = (Int32.ofNat (r + 1)) from n_add]
  refine go_iastore B (i := c) d6_111 (AV.other A_hs W102 (Ne.symm n_sq_hs)) (i_ofNat (by omega)) (by rw [bm_len]; exact hcW) ge_hs ?_
  intro h105 W106 A107
  have A108 : AV Z h105 hs .int (bm W (updf e c (Int32.ofNat (r + 1)))) := (bm_set hcW ▸ A107)
  refine go_aload_n B d6_112 rfl rfl ?_
  have f109 : Fld Z h105 g "com/example/plywright/plywright/games/ConnectFour" "played" "[I" (.ref pl) := (Fld.other W106 (Fld.other W102 F5_g (Or.inl (Ne.symm n_sq_g))) (Or.inl (Ne.symm n_hs_g)))
  refine go_getfield B d6_113 (w_33 H) f109 ?_
  refine go_aload_n B d6_116 rfl rfl ?_
  refine go_dup B d6_117 rfl ?_
  have f110 : Fld Z h105 g "com/example/plywright/plywright/games/ConnectFour" "plies" "I" (.int (Int32.ofNat P)) := (Fld.other W106 (Fld.other W102 F9_g (Or.inl (Ne.symm n_sq_g))) (Or.inl (Ne.symm n_hs_g)))
  refine go_getfield B d6_118 (w_69 H) f110 ?_
  refine go_dup_x1 B d6_121 rfl rfl ?_
  refine go_iconst B (x := (1 : Int32)) d6_122 rfl ?_
  refine go_iadd B d6_123 ?_
  rw [show ((Int32.ofNat P) + (1 : Int32)) = (Int32.ofNat (P + 1)) from n_add]
  refine go_putfield B (ty := .int) d6_124 (w_69 H) f110 (Exa.wr W106 (Exa.wr W102 E_g)) (Or.inl (w_70 H)) (w_3 H) (by decide) rfl rfl ge_g ?_
  intro h111 W112
  have f113 : Fld Z h111 g "com/example/plywright/plywright/games/ConnectFour" "plies" "I" (.int (Int32.ofNat (P + 1))) := Fld.same W112 f110
  refine go_iload_n B d6_127 rfl ?_
  have f114 : AV Z h111 pl .int (bm (W * Hr) pf) := (AV.other (AV.other (AV.other A_pl W102 (Ne.symm n_sq_pl)) W106 (Ne.symm n_hs_pl)) W112 n_pl_g)
  refine go_iastore B (i := P) d6_128 f114 (i_ofNat (by have := Nat.mul_le_mul hW9 hH9; omega)) (by rw [bm_len]; exact hP) ge_pl ?_
  intro h115 W116 A117
  have A118 : AV Z h115 pl .int (bm (W * Hr) (updf pf P (Int32.ofNat q))) := (bm_set hP ▸ A117)
  refine go_aload_n B d6_129 rfl rfl ?_
  refine go_dup B d6_130 rfl ?_
  have f119 : Fld Z h115 g "com/example/plywright/plywright/games/ConnectFour" "key" "J" (.long u) := (Fld.other W116 (Fld.other W112 (Fld.other W106 (Fld.other W102 F11_g (Or.inl (Ne.symm n_sq_g))) (Or.inl (Ne.symm n_hs_g))) (Or.inr (slot_ne (t := .long) (t' := .int) (Or.inl (w_72 H)) (Or.inl (w_70 H)) (by decide) (by decide) (by decide)))) (Or.inl (Ne.symm n_pl_g)))
  refine go_getfield B d6_131 (w_71 H) f119 ?_
  refine go_aload_n B d6_134 rfl rfl ?_
  refine go_iload_n B d6_135 rfl ?_
  refine go_iload_n B d6_136 rfl ?_
  have f121 : n0 ≤ h115.size := (Nat.le_trans (Nat.le_trans (Nat.le_trans (Nat.le_trans Z0 (Nat.le_of_eq (Wr.size W102).symm)) (Nat.le_of_eq (Wr.size W106).symm)) (Nat.le_of_eq (Wr.size W112).symm)) (Nat.le_of_eq (Wr.size W116).symm))
  have f122 : Fld Z h115 g "com/example/plywright/plywright/games/ConnectFour" "zobrist" "[J" (.ref zb) := (Fld.other W116 (Fld.other W112 (Fld.other W106 (Fld.other W102 F6_g (Or.inl (Ne.symm n_sq_g))) (Or.inl (Ne.symm n_hs_g))) (Or.inr (slot_ne (t := (.array .long)) (t' := .int) (Or.inr (w_44 H)) (Or.inl (w_70 H)) (by decide) (by decide) (by decide)))) (Or.inl (Ne.symm n_pl_g)))
  have f123 : AV Z h115 zb .long (lm (2 * N + 1) zf) := (AV.other (AV.other (AV.other (AV.other A_zb W102 (Ne.symm n_sq_zb)) W106 (Ne.symm n_hs_zb)) W112 n_zb_g) W116 (Ne.symm n_pl_zb))
  refine go_private B (W' := 3) (a := g) (argsL := [(.int (Int32.ofNat q)), (.int s)]) (st := [(.long u), (.ref g)]) d6_137 (w_73 H) (sp_keyChange H) (w_75 H) (w_74 H) (w_4 H) (w_76 H) (by decide) (Exa.wr W116 (Exa.wr W112 (Exa.wr W106 (Exa.wr W102 E_g)))) (rmKc H g zb N q sN zf s h115 f121 f122 f123 hN hqN hsN s1 s2) pd_3 rfl rfl rfl rfl (by decide) (by decide) (by decide) (by decide) ?_
  rintro _ h124 ⟨u120, rfl, rfl⟩
  show Go κ _ h115 _ _ 140 #[.val (.ref g), .val (.int (Int32.ofNat c)), .val (.int (Int32.ofNat q)), .val (.int s)] [(.long u120), (.long u), (.ref g)]
  refine go_lxor B d6_140 ?_
  refine go_putfield B (ty := .long) d6_141 (w_71 H) f119 (Exa.wr W116 (Exa.wr W112 (Exa.wr W106 (Exa.wr W102 E_g)))) (Or.inl (w_72 H)) (w_3 H) (by decide) rfl rfl ge_g ?_
  intro h125 W126
  have f127 : Fld Z h125 g "com/example/plywright/plywright/games/ConnectFour" "key" "J" (.long (u ^^^ u120)) := Fld.same W126 f119
  refine go_aload_n B d6_144 rfl rfl ?_
  refine go_aload_n B d6_145 rfl rfl ?_
  refine go_iload_n B d6_146 rfl ?_
  refine go_iload_n B d6_147 rfl ?_
  have f128 : Fld Z h125 g "com/example/plywright/plywright/games/ConnectFour" "squares" "[B" (.ref sq) := (Fld.other W126 (Fld.other W116 (Fld.other W112 (Fld.other W106 (Fld.other W102 F3_g (Or.inl (Ne.symm n_sq_g))) (Or.inl (Ne.symm n_hs_g))) (Or.inr (slot_ne (t := (.array .byte)) (t' := .int) (Or.inr (w_30 H)) (Or.inl (w_70 H)) (by decide) (by decide) (by decide)))) (Or.inl (Ne.symm n_pl_g))) (Or.inr (slot_ne (t := (.array .byte)) (t' := .long) (Or.inr (w_30 H)) (Or.inl (w_72 H)) (by decide) (by decide) (by decide))))
  have f129 : Fld Z h125 g "com/example/plywright/plywright/games/ConnectFour" "lineSteps" "[I" (.ref la) := (Fld.other W126 (Fld.other W116 (Fld.other W112 (Fld.other W106 (Fld.other W102 F7_g (Or.inl (Ne.symm n_sq_g))) (Or.inl (Ne.symm n_hs_g))) (Or.inr (slot_ne (t := (.array .int)) (t' := .int) (Or.inr (w_55 H)) (Or.inl (w_70 H)) (by decide) (by decide) (by decide)))) (Or.inl (Ne.symm n_pl_g))) (Or.inr (slot_ne (t := (.array .int)) (t' := .long) (Or.inr (w_55 H)) (Or.inl (w_72 H)) (by decide) (by decide) (by decide))))
  have f130 : Exa Z h125 g "com/example/plywright/plywright/games/ConnectFour" := (Exa.wr W126 (Exa.wr W116 (Exa.wr W112 (Exa.wr W106 (Exa.wr W102 E_g)))))
  have f131 : AV Z h125 sq .byte (bm N (updf f q s)) := (AV.other (AV.other (AV.other (AV.other A104 W106 n_sq_hs) W112 n_sq_g) W116 n_sq_pl) W126 n_sq_g)
  have f132 : AV Z h125 la .int [(.int (1 : Int32)), (.int (Int32.ofNat (W + 4))), (.int (Int32.ofNat (W + 5))), (.int (Int32.ofNat (W + 3)))] := (AV.other (AV.other (AV.other (AV.other (AV.other A_la W102 (Ne.symm n_sq_la)) W106 (Ne.symm n_hs_la)) W112 n_la_g) W116 (Ne.symm n_pl_la)) W126 n_la_g)
  refine go_private B (W' := 1) (a := g) (argsL := [(.int (Int32.ofNat q)), (.int s)]) (st := [(.ref g)]) d6_148 (w_77 H) (sp_makesFour H) (w_79 H) (w_78 H) (w_4 H) (w_80 H) (by decide) f130 (rmM0 H g sq la N W q (updf f q s) s h125 (Nat.le_trans f121 (Nat.le_of_eq (Wr.size W126).symm)) f128 f129 f130 f131 f132 hN q1 q2 up p0 m0 p2 m2 p3 m3 wz wb) pd_4 rfl rfl rfl rfl (by decide) (by decide) (by decide) (by decide) ?_
  rintro _ h133 ⟨rfl, rfl⟩
  show Go κ _ h125 _ _ 151 #[.val (.ref g), .val (.int (Int32.ofNat c)), .val (.int (Int32.ofNat q)), .val (.int s)] [(.int (0 : Int32)), (.ref g)]
  have f134 : Fld Z h125 g "com/example/plywright/plywright/games/ConnectFour" "won" "Z" (.int (0 : Int32)) := (Fld.other W126 (Fld.other W116 (Fld.other W112 (Fld.other W106 (Fld.other W102 F10_g (Or.inl (Ne.symm n_sq_g))) (Or.inl (Ne.symm n_hs_g))) (Or.inr (slot_ne (t := .boolean) (t' := .int) (Or.inl (w_64 H)) (Or.inl (w_70 H)) (by decide) (by decide) (by decide)))) (Or.inl (Ne.symm n_pl_g))) (Or.inr (slot_ne (t := .boolean) (t' := .long) (Or.inl (w_64 H)) (Or.inl (w_72 H)) (by decide) (by decide) (by decide))))
  refine go_putfield B (ty := .boolean) d6_151 (w_63 H) f134 f130 (Or.inl (w_64 H)) (w_3 H) (by decide) (by decide) (by decide) ge_g ?_
  intro h135 W136
  have f137 : Fld Z h135 g "com/example/plywright/plywright/games/ConnectFour" "won" "Z" (.int (0 : Int32)) := Fld.same W136 f134
  refine go_return B d6_154 (by decide) (by decide) ?_
  have f138 : Keep h0 h135 [g, sq, hs, pl] := (Keep.wr (Keep.wr (Keep.wr (Keep.wr (Keep.wr (Keep.wr (Keep.refl h0 _) W102 (Or.inl (by simp))) W106 (Or.inl (by simp))) W112 (Or.inl (by simp))) W116 (Or.inl (by simp))) W126 (Or.inl (by simp))) W136 (Or.inl (by simp)))
  have f139 : Fld Z h135 g "com/example/plywright/plywright/games/ConnectFour" "columns" "I" (.int (Int32.ofNat W)) := (Fld.other W136 (Fld.other W126 (Fld.other W116 (Fld.other W112 (Fld.other W106 (Fld.other W102 F0_g (Or.inl (Ne.symm n_sq_g))) (Or.inl (Ne.symm n_hs_g))) (Or.inr (slot_ne (t := .int) (t' := .int) (Or.inr (w_24 H)) (Or.inl (w_70 H)) (by decide) (by decide) (by decide)))) (Or.inl (Ne.symm n_pl_g))) (Or.inr (slot_ne (t := .int) (t' := .long) (Or.inr (w_24 H)) (Or.inl (w_72 H)) (by decide) (by decide) (by decide)))) (Or.inr (slot_ne (t := .int) (t' := .boolean) (Or.inr (w_24 H)) (Or.inl (w_64 H)) (by decide) (by decide) (by decide))))
  have f140 : Fld Z h135 g "com/example/plywright/plywright/games/ConnectFour" "rows" "I" (.int (Int32.ofNat Hr)) := (Fld.other W136 (Fld.other W126 (Fld.other W116 (Fld.other W112 (Fld.other W106 (Fld.other W102 F1_g (Or.inl (Ne.symm n_sq_g))) (Or.inl (Ne.symm n_hs_g))) (Or.inr (slot_ne (t := .int) (t' := .int) (Or.inr (w_26 H)) (Or.inl (w_70 H)) (by decide) (by decide) (by decide)))) (Or.inl (Ne.symm n_pl_g))) (Or.inr (slot_ne (t := .int) (t' := .long) (Or.inr (w_26 H)) (Or.inl (w_72 H)) (by decide) (by decide) (by decide)))) (Or.inr (slot_ne (t := .int) (t' := .boolean) (Or.inr (w_26 H)) (Or.inl (w_64 H)) (by decide) (by decide) (by decide))))
  have f141 : Fld Z h135 g "com/example/plywright/plywright/games/ConnectFour" "stride" "I" (.int (Int32.ofNat (W + 4))) := (Fld.other W136 (Fld.other W126 (Fld.other W116 (Fld.other W112 (Fld.other W106 (Fld.other W102 F2_g (Or.inl (Ne.symm n_sq_g))) (Or.inl (Ne.symm n_hs_g))) (Or.inr (slot_ne (t := .int) (t' := .int) (Or.inr (w_28 H)) (Or.inl (w_70 H)) (by decide) (by decide) (by decide)))) (Or.inl (Ne.symm n_pl_g))) (Or.inr (slot_ne (t := .int) (t' := .long) (Or.inr (w_28 H)) (Or.inl (w_72 H)) (by decide) (by decide) (by decide)))) (Or.inr (slot_ne (t := .int) (t' := .boolean) (Or.inr (w_28 H)) (Or.inl (w_64 H)) (by decide) (by decide) (by decide))))
  have f142 : Fld Z h135 g "com/example/plywright/plywright/games/ConnectFour" "squares" "[B" (.ref sq) := (Fld.other W136 f128 (Or.inr (slot_ne (t := (.array .byte)) (t' := .boolean) (Or.inr (w_30 H)) (Or.inl (w_64 H)) (by decide) (by decide) (by decide))))
  have f143 : Fld Z h135 g "com/example/plywright/plywright/games/ConnectFour" "heights" "[I" (.ref hs) := (Fld.other W136 (Fld.other W126 (Fld.other W116 (Fld.other W112 (Fld.other W106 (Fld.other W102 F4_g (Or.inl (Ne.symm n_sq_g))) (Or.inl (Ne.symm n_hs_g))) (Or.inr (slot_ne (t := (.array .int)) (t' := .int) (Or.inr (w_32 H)) (Or.inl (w_70 H)) (by decide) (by decide) (by decide)))) (Or.inl (Ne.symm n_pl_g))) (Or.inr (slot_ne (t := (.array .int)) (t' := .long) (Or.inr (w_32 H)) (Or.inl (w_72 H)) (by decide) (by decide) (by decide)))) (Or.inr (slot_ne (t := (.array .int)) (t' := .boolean) (Or.inr (w_32 H)) (Or.inl (w_64 H)) (by decide) (by decide) (by decide))))
  have f144 : Fld Z h135 g "com/example/plywright/plywright/games/ConnectFour" "played" "[I" (.ref pl) := (Fld.other W136 (Fld.other W126 (Fld.other W116 (Fld.other W112 f109 (Or.inr (slot_ne (t := (.array .int)) (t' := .int) (Or.inr (w_34 H)) (Or.inl (w_70 H)) (by decide) (by decide) (by decide)))) (Or.inl (Ne.symm n_pl_g))) (Or.inr (slot_ne (t := (.array .int)) (t' := .long) (Or.inr (w_34 H)) (Or.inl (w_72 H)) (by decide) (by decide) (by decide)))) (Or.inr (slot_ne (t := (.array .int)) (t' := .boolean) (Or.inr (w_34 H)) (Or.inl (w_64 H)) (by decide) (by decide) (by decide))))
  have f145 : Fld Z h135 g "com/example/plywright/plywright/games/ConnectFour" "zobrist" "[J" (.ref zb) := (Fld.other W136 (Fld.other W126 f122 (Or.inr (slot_ne (t := (.array .long)) (t' := .long) (Or.inr (w_44 H)) (Or.inl (w_72 H)) (by decide) (by decide) (by decide)))) (Or.inr (slot_ne (t := (.array .long)) (t' := .boolean) (Or.inr (w_44 H)) (Or.inl (w_64 H)) (by decide) (by decide) (by decide))))
  have f146 : Fld Z h135 g "com/example/plywright/plywright/games/ConnectFour" "lineSteps" "[I" (.ref la) := (Fld.other W136 f129 (Or.inr (slot_ne (t := (.array .int)) (t' := .boolean) (Or.inr (w_55 H)) (Or.inl (w_64 H)) (by decide) (by decide) (by decide))))
  have f147 : Fld Z h135 g "com/example/plywright/plywright/games/ConnectFour" "centreFirst" "[I" (.ref cf) := (Fld.other W136 (Fld.other W126 (Fld.other W116 (Fld.other W112 (Fld.other W106 (Fld.other W102 F8_g (Or.inl (Ne.symm n_sq_g))) (Or.inl (Ne.symm n_hs_g))) (Or.inr (slot_ne (t := (.array .int)) (t' := .int) (Or.inr (w_57 H)) (Or.inl (w_70 H)) (by decide) (by decide) (by decide)))) (Or.inl (Ne.symm n_pl_g))) (Or.inr (slot_ne (t := (.array .int)) (t' := .long) (Or.inr (w_57 H)) (Or.inl (w_72 H)) (by decide) (by decide) (by decide)))) (Or.inr (slot_ne (t := (.array .int)) (t' := .boolean) (Or.inr (w_57 H)) (Or.inl (w_64 H)) (by decide) (by decide) (by decide))))
  have f148 : Fld Z h135 g "com/example/plywright/plywright/games/ConnectFour" "plies" "I" (.int (Int32.ofNat (P + 1))) := (Fld.other W136 (Fld.other W126 (Fld.other W116 f113 (Or.inl (Ne.symm n_pl_g))) (Or.inr (slot_ne (t := .int) (t' := .long) (Or.inl (w_70 H)) (Or.inl (w_72 H)) (by decide) (by decide) (by decide)))) (Or.inr (slot_ne (t := .int) (t' := .boolean) (Or.inl (w_70 H)) (Or.inl (w_64 H)) (by decide) (by decide) (by decide))))
  have f149 : Fld Z h135 g "com/example/plywright/plywright/games/ConnectFour" "key" "J" (.long (u ^^^ u120)) := (Fld.other W136 f127 (Or.inr (slot_ne (t := .long) (t' := .boolean) (Or.inl (w_72 H)) (Or.inl (w_64 H)) (by decide) (by decide) (by decide))))
  have f150 : AV Z h135 hs .int (bm W (updf e c (Int32.ofNat (r + 1)))) := (AV.other (AV.other (AV.other (AV.other A108 W112 n_hs_g) W116 n_hs_pl) W126 n_hs_g) W136 n_hs_g)
  exact ⟨_, rfl, f138, (Exa.wr W136 f130), f139, f140, f141, f142, f143, f144, f145, f146, f147, f148, f137, f149, (AV.other f131 W136 n_sq_g), f150, (AV.other (AV.other A118 W126 n_pl_g) W136 n_pl_g), (AV.other (AV.other f123 W126 n_zb_g) W136 n_zb_g), (AV.other f132 W136 n_la_g)⟩
set_option maxRecDepth 65536 in
set_option maxHeartbeats 40000000 in
theorem rmPl1 {l : Launch} {Z : State} {a0 : Array Value} {n0 : Nat} (H : Wd a0 Z) (g sq hs pl zb la cf : Addr) (N W Hr c r q P sN : Nat) (f e pf : Nat → Int32) (zf : Nat → Int64) (s : Int32) (u : Int64) (h0 : Heap) (Z0 : n0 ≤ h0.size) (hcell : own_cell W c r = q) (hcW : c < W) (hW9 : W ≤ 9) (hrH : r < Hr) (hH9 : Hr ≤ 9) (he : e c = Int32.ofNat r) (hP : P < W * Hr) (hqN : q < N) (hsd : own_sd P = s) (hsN : s = Int32.ofNat sN) (s1 : 1 ≤ sN) (s2 : sN ≤ 2) (nb : nar .byte s = s) (hN : N < 1000) (q1 : 2 * (W + 5) ≤ q) (q2 : q + 2 * (W + 5) < N) (up : ¬ (updf f q s) (q + (W + 4)) = s) (p0 : ¬ (updf f q s) (q + 1) = s ∨ ¬ (updf f q s) (q + 2 * 1) = s) (m0 : ¬ (updf f q s) (q - 1) = s ∨ ¬ (updf f q s) (q - 2 * 1) = s) (p2 : ¬ (updf f q s) (q + (W + 5)) = s ∨ ¬ (updf f q s) (q + 2 * (W + 5)) = s) (m2 : ¬ (updf f q s) (q - (W + 5)) = s ∨ ¬ (updf f q s) (q - 2 * (W + 5)) = s) (p3 : ¬ (updf f q s) (q + (W + 3)) = s ∨ ¬ (updf f q s) (q + 2 * (W + 3)) = s) (m3 : ¬ (updf f q s) (q - (W + 3)) = s ∨ ¬ (updf f q s) (q - 2 * (W + 3)) = s) (w1 : (updf f q s) (q - 1 * (W + 4)) = s) (wz : ¬ (updf f q s) (q - 2 * (W + 4)) = s) (wb : 2 * (W + 4) ≤ q) (E_g : Exa Z h0 g "com/example/plywright/plywright/games/ConnectFour") (F0_g : Fld Z h0 g "com/example/plywright/plywright/games/ConnectFour" "columns" "I" (.int (Int32.ofNat W))) (F1_g : Fld Z h0 g "com/example/plywright/plywright/games/ConnectFour" "rows" "I" (.int (Int32.ofNat Hr))) (F2_g : Fld Z h0 g "com/example/plywright/plywright/games/ConnectFour" "stride" "I" (.int (Int32.ofNat (W + 4)))) (F3_g : Fld Z h0 g "com/example/plywright/plywright/games/ConnectFour" "squares" "[B" (.ref sq)) (F4_g : Fld Z h0 g "com/example/plywright/plywright/games/ConnectFour" "heights" "[I" (.ref hs)) (F5_g : Fld Z h0 g "com/example/plywright/plywright/games/ConnectFour" "played" "[I" (.ref pl)) (F6_g : Fld Z h0 g "com/example/plywright/plywright/games/ConnectFour" "zobrist" "[J" (.ref zb)) (F7_g : Fld Z h0 g "com/example/plywright/plywright/games/ConnectFour" "lineSteps" "[I" (.ref la)) (F8_g : Fld Z h0 g "com/example/plywright/plywright/games/ConnectFour" "centreFirst" "[I" (.ref cf)) (F9_g : Fld Z h0 g "com/example/plywright/plywright/games/ConnectFour" "plies" "I" (.int (Int32.ofNat P))) (F10_g : Fld Z h0 g "com/example/plywright/plywright/games/ConnectFour" "won" "Z" (.int (0 : Int32))) (F11_g : Fld Z h0 g "com/example/plywright/plywright/games/ConnectFour" "key" "J" (.long u)) (A_sq : AV Z h0 sq .byte (bm N f)) (A_hs : AV Z h0 hs .int (bm W e)) (A_pl : AV Z h0 pl .int (bm (W * Hr) pf)) (A_zb : AV Z h0 zb .long (lm (2 * N + 1) zf)) (A_la : AV Z h0 la .int [(.int (1 : Int32)), (.int (Int32.ofNat (W + 4))), (.int (Int32.ofNat (W + 5))), (.int (Int32.ofNat (W + 3)))]) (n_sq_hs : sq ≠ hs) (n_sq_pl : sq ≠ pl) (n_sq_zb : sq ≠ zb) (n_sq_la : sq ≠ la) (n_hs_pl : hs ≠ pl) (n_hs_zb : hs ≠ zb) (n_hs_la : hs ≠ la) (n_pl_zb : pl ≠ zb) (n_pl_la : pl ≠ la) (n_zb_la : zb ≠ la) (n_sq_g : sq ≠ g) (n_hs_g : hs ≠ g) (n_pl_g : pl ≠ g) (n_zb_g : zb ≠ g) (n_la_g : la ≠ g) (ge_g : n0 ≤ g) (ge_sq : n0 ≤ sq) (ge_hs : n0 ≤ hs) (ge_pl : n0 ≤ pl) :
    Ct l Z n0 (⟨"com/example/plywright/plywright/games/ConnectFour", "play", "(I)V"⟩ : MethodName) prog_19_method_12_code 4 none [] ({ frames := 2, cells := 0, slots := 0, locals := 39 } : Room) #[(.ref g), (.int (Int32.ofNat c))] h0 (fun v h => ∃ u2, v = none ∧ Keep h0 h [g, sq, hs, pl] ∧ Exa Z h g "com/example/plywright/plywright/games/ConnectFour" ∧ Fld Z h g "com/example/plywright/plywright/games/ConnectFour" "columns" "I" (.int (Int32.ofNat W)) ∧ Fld Z h g "com/example/plywright/plywright/games/ConnectFour" "rows" "I" (.int (Int32.ofNat Hr)) ∧ Fld Z h g "com/example/plywright/plywright/games/ConnectFour" "stride" "I" (.int (Int32.ofNat (W + 4))) ∧ Fld Z h g "com/example/plywright/plywright/games/ConnectFour" "squares" "[B" (.ref sq) ∧ Fld Z h g "com/example/plywright/plywright/games/ConnectFour" "heights" "[I" (.ref hs) ∧ Fld Z h g "com/example/plywright/plywright/games/ConnectFour" "played" "[I" (.ref pl) ∧ Fld Z h g "com/example/plywright/plywright/games/ConnectFour" "zobrist" "[J" (.ref zb) ∧ Fld Z h g "com/example/plywright/plywright/games/ConnectFour" "lineSteps" "[I" (.ref la) ∧ Fld Z h g "com/example/plywright/plywright/games/ConnectFour" "centreFirst" "[I" (.ref cf) ∧ Fld Z h g "com/example/plywright/plywright/games/ConnectFour" "plies" "I" (.int (Int32.ofNat (P + 1))) ∧ Fld Z h g "com/example/plywright/plywright/games/ConnectFour" "won" "Z" (.int (0 : Int32)) ∧ Fld Z h g "com/example/plywright/plywright/games/ConnectFour" "key" "J" (.long u2) ∧ AV Z h sq .byte (bm N (updf f q s)) ∧ AV Z h hs .int (bm W (updf e c (Int32.ofNat (r + 1)))) ∧ AV Z h pl .int (bm (W * Hr) (updf pf P (Int32.ofNat q))) ∧ AV Z h zb .long (lm (2 * N + 1) zf) ∧ AV Z h la .int [(.int (1 : Int32)), (.int (Int32.ofNat (W + 4))), (.int (Int32.ofNat (W + 5))), (.int (Int32.ofNat (W + 3)))]) := by
  refine Ct.of (a0 := a0) (L0 := #[.val (.ref g), .val (.int (Int32.ofNat c)), .unset, .unset]) (plainFor_of_name pn_com_example_plywright_plywright_games_ConnectFour) (fun m => by first | (simp [entryFrame, mkF, argsToLocals, Value.category]; done) | rfl) ?_
  intro κ B0
  have B : Ok κ l Z a0 n0 ({ frames := 2, cells := 0, slots := 0, locals := 39 } : Room) "com/example/plywright/plywright/games/ConnectFour" "play" prog_19_method_12_code 4 none := B0
  refine go_iload_n B d6_0 rfl ?_
  refine go_iflt B d6_1 (fun c1 => ?_) (fun c1 => ?_)
  · exact absurd c1 (i_nlt (i_ofNat (by omega)) (show (0 : Int32).toInt = 0 from rfl) (by omega))
  refine go_iload_n B d6_4 rfl ?_
  refine go_aload_n B d6_5 rfl rfl ?_
  refine go_getfield B d6_6 (w_23 H) F0_g ?_
  refine go_icmplt B d6_9 (fun c9 => ?_) (fun c9 => ?_)
  rotate_left
  · exact absurd (i_lt (i_ofNat (by omega)) (i_ofNat (by omega)) (by omega)) c9
  refine go_aload_n B d6_32 rfl rfl ?_
  refine go_getfield B d6_33 (w_63 H) F10_g ?_
  refine go_ifeq B d6_36 (fun c36 => ?_) (fun c36 => ?_)
  rotate_left
  · exact absurd c36 (by decide)
  refine go_aload_n B d6_49 rfl rfl ?_
  refine go_getfield B d6_50 (w_31 H) F4_g ?_
  refine go_iload_n B d6_53 rfl ?_
  refine go_iaload B (i := c) (v := (.int (Int32.ofNat r))) d6_54 A_hs (i_ofNat (by omega)) (by rw [bm_get hcW, he]) ?_
  refine go_aload_n B d6_55 rfl rfl ?_
  refine go_getfield B d6_56 (w_25 H) F1_g ?_
  refine go_icmpne B d6_59 (fun c59 => ?_) (fun c59 => ?_)
  rotate_left
  · exact absurd c59 (i_ne (i_ofNat (by omega)) (i_ofNat (by omega)) (by omega))
  refine go_aload_n B d6_78 rfl rfl ?_
  refine go_iload_n B d6_79 rfl ?_
  refine go_aload_n B d6_80 rfl rfl ?_
  refine go_getfield B d6_81 (w_31 H) F4_g ?_
  refine go_iload_n B d6_84 rfl ?_
  refine go_iaload B (i := c) (v := (.int (Int32.ofNat r))) d6_85 A_hs (i_ofNat (by omega)) (by rw [bm_get hcW, he]) ?_
  refine go_private B (W' := 0) (a := g) (argsL := [(.int (Int32.ofNat c)), (.int (Int32.ofNat r))]) (st := []) d6_86 (w_48 H) (sp_square H) (w_50 H) (w_49 H) (w_4 H) (w_51 H) (by decide) E_g (rmSq H g W c r q h0 Z0 hcell F2_g) pd_1 rfl rfl rfl rfl (by decide) (by decide) (by decide) (by decide) ?_
  rintro _ h151 ⟨rfl, rfl⟩
  show Go κ _ h0 _ _ 89 #[.val (.ref g), .val (.int (Int32.ofNat c)), .unset, .unset] [(.int (Int32.ofNat q))]
  refine go_istore_n B #[.val (.ref g), .val (.int (Int32.ofNat c)), .val (.int (Int32.ofNat q)), .unset] d6_89 rfl ?_
  refine go_aload_n B d6_90 rfl rfl ?_
  refine go_private B (W' := 0) (a := g) (argsL := []) (st := []) d6_91 (w_65 H) (sp_sideToMove H) (w_67 H) (w_66 H) (w_4 H) (w_68 H) (by decide) E_g (rmSd H g P s h0 Z0 (by have := Nat.mul_le_mul hW9 hH9; omega) hsd F9_g) pd_2 rfl rfl rfl rfl (by decide) (by decide) (by decide) (by decide) ?_
  rintro _ h152 ⟨rfl, rfl⟩
  show Go κ _ h0 _ _ 94 #[.val (.ref g), .val (.int (Int32.ofNat c)), .val (.int (Int32.ofNat q)), .unset] [(.int s)]
  refine go_istore_n B #[.val (.ref g), .val (.int (Int32.ofNat c)), .val (.int (Int32.ofNat q)), .val (.int s)] d6_94 rfl ?_
  refine go_aload_n B d6_95 rfl rfl ?_
  refine go_getfield B d6_96 (w_29 H) F3_g ?_
  refine go_iload_n B d6_99 rfl ?_
  refine go_iload_n B d6_100 rfl ?_
  refine go_bastore B (i := q) d6_101 A_sq (i_ofNat (by omega)) (by rw [bm_len]; exact hqN) ge_sq ?_
  intro h153 W154 A155
  have A156 : AV Z h153 sq .byte (bm N (updf f q s)) := (by have z := A155; rw [nb, bm_set hqN] at z; exact z)
  refine go_aload_n B d6_102 rfl rfl ?_
  refine go_getfield B d6_103 (w_31 H) (Fld.other W154 F4_g (Or.inl (Ne.symm n_sq_g))) ?_
  refine go_iload_n B d6_106 rfl ?_
  refine go_dup2 B d6_107 rfl rfl ?_
  refine go_iaload B (i := c) (v := (.int (Int32.ofNat r))) d6_108 (AV.other A_hs W154 (Ne.symm n_sq_hs)) (i_ofNat (by omega)) (by rw [bm_get hcW, he]) ?_
  refine go_iconst B (x := (1 : Int32)) d6_109 rfl ?_
  refine go_iadd B d6_110 ?_
  rw [show ((Int32.ofNat r) + (1 : Int32)) = (Int32.ofNat (r + 1)) from n_add]
  refine go_iastore B (i := c) d6_111 (AV.other A_hs W154 (Ne.symm n_sq_hs)) (i_ofNat (by omega)) (by rw [bm_len]; exact hcW) ge_hs ?_
  intro h157 W158 A159
  have A160 : AV Z h157 hs .int (bm W (updf e c (Int32.ofNat (r + 1)))) := (bm_set hcW ▸ A159)
  refine go_aload_n B d6_112 rfl rfl ?_
  have f161 : Fld Z h157 g "com/example/plywright/plywright/games/ConnectFour" "played" "[I" (.ref pl) := (Fld.other W158 (Fld.other W154 F5_g (Or.inl (Ne.symm n_sq_g))) (Or.inl (Ne.symm n_hs_g)))
  refine go_getfield B d6_113 (w_33 H) f161 ?_
  refine go_aload_n B d6_116 rfl rfl ?_
  refine go_dup B d6_117 rfl ?_
  have f162 : Fld Z h157 g "com/example/plywright/plywright/games/ConnectFour" "plies" "I" (.int (Int32.ofNat P)) := (Fld.other W158 (Fld.other W154 F9_g (Or.inl (Ne.symm n_sq_g))) (Or.inl (Ne.symm n_hs_g)))
  refine go_getfield B d6_118 (w_69 H) f162 ?_
  refine go_dup_x1 B d6_121 rfl rfl ?_
  refine go_iconst B (x := (1 : Int32)) d6_122 rfl ?_
  refine go_iadd B d6_123 ?_
  rw [show ((Int32.ofNat P) + (1 : Int32)) = (Int32.ofNat (P + 1)) from n_add]
  refine go_putfield B (ty := .int) d6_124 (w_69 H) f162 (Exa.wr W158 (Exa.wr W154 E_g)) (Or.inl (w_70 H)) (w_3 H) (by decide) rfl rfl ge_g ?_
  intro h163 W164
  have f165 : Fld Z h163 g "com/example/plywright/plywright/games/ConnectFour" "plies" "I" (.int (Int32.ofNat (P + 1))) := Fld.same W164 f162
  refine go_iload_n B d6_127 rfl ?_
  have f166 : AV Z h163 pl .int (bm (W * Hr) pf) := (AV.other (AV.other (AV.other A_pl W154 (Ne.symm n_sq_pl)) W158 (Ne.symm n_hs_pl)) W164 n_pl_g)
  refine go_iastore B (i := P) d6_128 f166 (i_ofNat (by have := Nat.mul_le_mul hW9 hH9; omega)) (by rw [bm_len]; exact hP) ge_pl ?_
  intro h167 W168 A169
  have A170 : AV Z h167 pl .int (bm (W * Hr) (updf pf P (Int32.ofNat q))) := (bm_set hP ▸ A169)
  refine go_aload_n B d6_129 rfl rfl ?_
  refine go_dup B d6_130 rfl ?_
  have f171 : Fld Z h167 g "com/example/plywright/plywright/games/ConnectFour" "key" "J" (.long u) := (Fld.other W168 (Fld.other W164 (Fld.other W158 (Fld.other W154 F11_g (Or.inl (Ne.symm n_sq_g))) (Or.inl (Ne.symm n_hs_g))) (Or.inr (slot_ne (t := .long) (t' := .int) (Or.inl (w_72 H)) (Or.inl (w_70 H)) (by decide) (by decide) (by decide)))) (Or.inl (Ne.symm n_pl_g)))
  refine go_getfield B d6_131 (w_71 H) f171 ?_
  refine go_aload_n B d6_134 rfl rfl ?_
  refine go_iload_n B d6_135 rfl ?_
  refine go_iload_n B d6_136 rfl ?_
  have f173 : n0 ≤ h167.size := (Nat.le_trans (Nat.le_trans (Nat.le_trans (Nat.le_trans Z0 (Nat.le_of_eq (Wr.size W154).symm)) (Nat.le_of_eq (Wr.size W158).symm)) (Nat.le_of_eq (Wr.size W164).symm)) (Nat.le_of_eq (Wr.size W168).symm))
  have f174 : Fld Z h167 g "com/example/plywright/plywright/games/ConnectFour" "zobrist" "[J" (.ref zb) := (Fld.other W168 (Fld.other W164 (Fld.other W158 (Fld.other W154 F6_g (Or.inl (Ne.symm n_sq_g))) (Or.inl (Ne.symm n_hs_g))) (Or.inr (slot_ne (t := (.array .long)) (t' := .int) (Or.inr (w_44 H)) (Or.inl (w_70 H)) (by decide) (by decide) (by decide)))) (Or.inl (Ne.symm n_pl_g)))
  have f175 : AV Z h167 zb .long (lm (2 * N + 1) zf) := (AV.other (AV.other (AV.other (AV.other A_zb W154 (Ne.symm n_sq_zb)) W158 (Ne.symm n_hs_zb)) W164 n_zb_g) W168 (Ne.symm n_pl_zb))
  refine go_private B (W' := 3) (a := g) (argsL := [(.int (Int32.ofNat q)), (.int s)]) (st := [(.long u), (.ref g)]) d6_137 (w_73 H) (sp_keyChange H) (w_75 H) (w_74 H) (w_4 H) (w_76 H) (by decide) (Exa.wr W168 (Exa.wr W164 (Exa.wr W158 (Exa.wr W154 E_g)))) (rmKc H g zb N q sN zf s h167 f173 f174 f175 hN hqN hsN s1 s2) pd_3 rfl rfl rfl rfl (by decide) (by decide) (by decide) (by decide) ?_
  rintro _ h176 ⟨u172, rfl, rfl⟩
  show Go κ _ h167 _ _ 140 #[.val (.ref g), .val (.int (Int32.ofNat c)), .val (.int (Int32.ofNat q)), .val (.int s)] [(.long u172), (.long u), (.ref g)]
  refine go_lxor B d6_140 ?_
  refine go_putfield B (ty := .long) d6_141 (w_71 H) f171 (Exa.wr W168 (Exa.wr W164 (Exa.wr W158 (Exa.wr W154 E_g)))) (Or.inl (w_72 H)) (w_3 H) (by decide) rfl rfl ge_g ?_
  intro h177 W178
  have f179 : Fld Z h177 g "com/example/plywright/plywright/games/ConnectFour" "key" "J" (.long (u ^^^ u172)) := Fld.same W178 f171
  refine go_aload_n B d6_144 rfl rfl ?_
  refine go_aload_n B d6_145 rfl rfl ?_
  refine go_iload_n B d6_146 rfl ?_
  refine go_iload_n B d6_147 rfl ?_
  have f180 : Fld Z h177 g "com/example/plywright/plywright/games/ConnectFour" "squares" "[B" (.ref sq) := (Fld.other W178 (Fld.other W168 (Fld.other W164 (Fld.other W158 (Fld.other W154 F3_g (Or.inl (Ne.symm n_sq_g))) (Or.inl (Ne.symm n_hs_g))) (Or.inr (slot_ne (t := (.array .byte)) (t' := .int) (Or.inr (w_30 H)) (Or.inl (w_70 H)) (by decide) (by decide) (by decide)))) (Or.inl (Ne.symm n_pl_g))) (Or.inr (slot_ne (t := (.array .byte)) (t' := .long) (Or.inr (w_30 H)) (Or.inl (w_72 H)) (by decide) (by decide) (by decide))))
  have f181 : Fld Z h177 g "com/example/plywright/plywright/games/ConnectFour" "lineSteps" "[I" (.ref la) := (Fld.other W178 (Fld.other W168 (Fld.other W164 (Fld.other W158 (Fld.other W154 F7_g (Or.inl (Ne.symm n_sq_g))) (Or.inl (Ne.symm n_hs_g))) (Or.inr (slot_ne (t := (.array .int)) (t' := .int) (Or.inr (w_55 H)) (Or.inl (w_70 H)) (by decide) (by decide) (by decide)))) (Or.inl (Ne.symm n_pl_g))) (Or.inr (slot_ne (t := (.array .int)) (t' := .long) (Or.inr (w_55 H)) (Or.inl (w_72 H)) (by decide) (by decide) (by decide))))
  have f182 : Exa Z h177 g "com/example/plywright/plywright/games/ConnectFour" := (Exa.wr W178 (Exa.wr W168 (Exa.wr W164 (Exa.wr W158 (Exa.wr W154 E_g)))))
  have f183 : AV Z h177 sq .byte (bm N (updf f q s)) := (AV.other (AV.other (AV.other (AV.other A156 W158 n_sq_hs) W164 n_sq_g) W168 n_sq_pl) W178 n_sq_g)
  have f184 : AV Z h177 la .int [(.int (1 : Int32)), (.int (Int32.ofNat (W + 4))), (.int (Int32.ofNat (W + 5))), (.int (Int32.ofNat (W + 3)))] := (AV.other (AV.other (AV.other (AV.other (AV.other A_la W154 (Ne.symm n_sq_la)) W158 (Ne.symm n_hs_la)) W164 n_la_g) W168 (Ne.symm n_pl_la)) W178 n_la_g)
  refine go_private B (W' := 1) (a := g) (argsL := [(.int (Int32.ofNat q)), (.int s)]) (st := [(.ref g)]) d6_148 (w_77 H) (sp_makesFour H) (w_79 H) (w_78 H) (w_4 H) (w_80 H) (by decide) f182 (rmM1 H g sq la N W q (updf f q s) s h177 (Nat.le_trans f173 (Nat.le_of_eq (Wr.size W178).symm)) f180 f181 f182 f183 f184 hN q1 q2 up p0 m0 p2 m2 p3 m3 w1 wz wb) pd_4 rfl rfl rfl rfl (by decide) (by decide) (by decide) (by decide) ?_
  rintro _ h185 ⟨rfl, rfl⟩
  show Go κ _ h177 _ _ 151 #[.val (.ref g), .val (.int (Int32.ofNat c)), .val (.int (Int32.ofNat q)), .val (.int s)] [(.int (0 : Int32)), (.ref g)]
  have f186 : Fld Z h177 g "com/example/plywright/plywright/games/ConnectFour" "won" "Z" (.int (0 : Int32)) := (Fld.other W178 (Fld.other W168 (Fld.other W164 (Fld.other W158 (Fld.other W154 F10_g (Or.inl (Ne.symm n_sq_g))) (Or.inl (Ne.symm n_hs_g))) (Or.inr (slot_ne (t := .boolean) (t' := .int) (Or.inl (w_64 H)) (Or.inl (w_70 H)) (by decide) (by decide) (by decide)))) (Or.inl (Ne.symm n_pl_g))) (Or.inr (slot_ne (t := .boolean) (t' := .long) (Or.inl (w_64 H)) (Or.inl (w_72 H)) (by decide) (by decide) (by decide))))
  refine go_putfield B (ty := .boolean) d6_151 (w_63 H) f186 f182 (Or.inl (w_64 H)) (w_3 H) (by decide) (by decide) (by decide) ge_g ?_
  intro h187 W188
  have f189 : Fld Z h187 g "com/example/plywright/plywright/games/ConnectFour" "won" "Z" (.int (0 : Int32)) := Fld.same W188 f186
  refine go_return B d6_154 (by decide) (by decide) ?_
  have f190 : Keep h0 h187 [g, sq, hs, pl] := (Keep.wr (Keep.wr (Keep.wr (Keep.wr (Keep.wr (Keep.wr (Keep.refl h0 _) W154 (Or.inl (by simp))) W158 (Or.inl (by simp))) W164 (Or.inl (by simp))) W168 (Or.inl (by simp))) W178 (Or.inl (by simp))) W188 (Or.inl (by simp)))
  have f191 : Fld Z h187 g "com/example/plywright/plywright/games/ConnectFour" "columns" "I" (.int (Int32.ofNat W)) := (Fld.other W188 (Fld.other W178 (Fld.other W168 (Fld.other W164 (Fld.other W158 (Fld.other W154 F0_g (Or.inl (Ne.symm n_sq_g))) (Or.inl (Ne.symm n_hs_g))) (Or.inr (slot_ne (t := .int) (t' := .int) (Or.inr (w_24 H)) (Or.inl (w_70 H)) (by decide) (by decide) (by decide)))) (Or.inl (Ne.symm n_pl_g))) (Or.inr (slot_ne (t := .int) (t' := .long) (Or.inr (w_24 H)) (Or.inl (w_72 H)) (by decide) (by decide) (by decide)))) (Or.inr (slot_ne (t := .int) (t' := .boolean) (Or.inr (w_24 H)) (Or.inl (w_64 H)) (by decide) (by decide) (by decide))))
  have f192 : Fld Z h187 g "com/example/plywright/plywright/games/ConnectFour" "rows" "I" (.int (Int32.ofNat Hr)) := (Fld.other W188 (Fld.other W178 (Fld.other W168 (Fld.other W164 (Fld.other W158 (Fld.other W154 F1_g (Or.inl (Ne.symm n_sq_g))) (Or.inl (Ne.symm n_hs_g))) (Or.inr (slot_ne (t := .int) (t' := .int) (Or.inr (w_26 H)) (Or.inl (w_70 H)) (by decide) (by decide) (by decide)))) (Or.inl (Ne.symm n_pl_g))) (Or.inr (slot_ne (t := .int) (t' := .long) (Or.inr (w_26 H)) (Or.inl (w_72 H)) (by decide) (by decide) (by decide)))) (Or.inr (slot_ne (t := .int) (t' := .boolean) (Or.inr (w_26 H)) (Or.inl (w_64 H)) (by decide) (by decide) (by decide))))
  have f193 : Fld Z h187 g "com/example/plywright/plywright/games/ConnectFour" "stride" "I" (.int (Int32.ofNat (W + 4))) := (Fld.other W188 (Fld.other W178 (Fld.other W168 (Fld.other W164 (Fld.other W158 (Fld.other W154 F2_g (Or.inl (Ne.symm n_sq_g))) (Or.inl (Ne.symm n_hs_g))) (Or.inr (slot_ne (t := .int) (t' := .int) (Or.inr (w_28 H)) (Or.inl (w_70 H)) (by decide) (by decide) (by decide)))) (Or.inl (Ne.symm n_pl_g))) (Or.inr (slot_ne (t := .int) (t' := .long) (Or.inr (w_28 H)) (Or.inl (w_72 H)) (by decide) (by decide) (by decide)))) (Or.inr (slot_ne (t := .int) (t' := .boolean) (Or.inr (w_28 H)) (Or.inl (w_64 H)) (by decide) (by decide) (by decide))))
  have f194 : Fld Z h187 g "com/example/plywright/plywright/games/ConnectFour" "squares" "[B" (.ref sq) := (Fld.other W188 f180 (Or.inr (slot_ne (t := (.array .byte)) (t' := .boolean) (Or.inr (w_30 H)) (Or.inl (w_64 H)) (by decide) (by decide) (by decide))))
  have f195 : Fld Z h187 g "com/example/plywright/plywright/games/ConnectFour" "heights" "[I" (.ref hs) := (Fld.other W188 (Fld.other W178 (Fld.other W168 (Fld.other W164 (Fld.other W158 (Fld.other W154 F4_g (Or.inl (Ne.symm n_sq_g))) (Or.inl (Ne.symm n_hs_g))) (Or.inr (slot_ne (t := (.array .int)) (t' := .int) (Or.inr (w_32 H)) (Or.inl (w_70 H)) (by decide) (by decide) (by decide)))) (Or.inl (Ne.symm n_pl_g))) (Or.inr (slot_ne (t := (.array .int)) (t' := .long) (Or.inr (w_32 H)) (Or.inl (w_72 H)) (by decide) (by decide) (by decide)))) (Or.inr (slot_ne (t := (.array .int)) (t' := .boolean) (Or.inr (w_32 H)) (Or.inl (w_64 H)) (by decide) (by decide) (by decide))))
  have f196 : Fld Z h187 g "com/example/plywright/plywright/games/ConnectFour" "played" "[I" (.ref pl) := (Fld.other W188 (Fld.other W178 (Fld.other W168 (Fld.other W164 f161 (Or.inr (slot_ne (t := (.array .int)) (t' := .int) (Or.inr (w_34 H)) (Or.inl (w_70 H)) (by decide) (by decide) (by decide)))) (Or.inl (Ne.symm n_pl_g))) (Or.inr (slot_ne (t := (.array .int)) (t' := .long) (Or.inr (w_34 H)) (Or.inl (w_72 H)) (by decide) (by decide) (by decide)))) (Or.inr (slot_ne (t := (.array .int)) (t' := .boolean) (Or.inr (w_34 H)) (Or.inl (w_64 H)) (by decide) (by decide) (by decide))))
  have f197 : Fld Z h187 g "com/example/plywright/plywright/games/ConnectFour" "zobrist" "[J" (.ref zb) := (Fld.other W188 (Fld.other W178 f174 (Or.inr (slot_ne (t := (.array .long)) (t' := .long) (Or.inr (w_44 H)) (Or.inl (w_72 H)) (by decide) (by decide) (by decide)))) (Or.inr (slot_ne (t := (.array .long)) (t' := .boolean) (Or.inr (w_44 H)) (Or.inl (w_64 H)) (by decide) (by decide) (by decide))))
  have f198 : Fld Z h187 g "com/example/plywright/plywright/games/ConnectFour" "lineSteps" "[I" (.ref la) := (Fld.other W188 f181 (Or.inr (slot_ne (t := (.array .int)) (t' := .boolean) (Or.inr (w_55 H)) (Or.inl (w_64 H)) (by decide) (by decide) (by decide))))
  have f199 : Fld Z h187 g "com/example/plywright/plywright/games/ConnectFour" "centreFirst" "[I" (.ref cf) := (Fld.other W188 (Fld.other W178 (Fld.other W168 (Fld.other W164 (Fld.other W158 (Fld.other W154 F8_g (Or.inl (Ne.symm n_sq_g))) (Or.inl (Ne.symm n_hs_g))) (Or.inr (slot_ne (t := (.array .int)) (t' := .int) (Or.inr (w_57 H)) (Or.inl (w_70 H)) (by decide) (by decide) (by decide)))) (Or.inl (Ne.symm n_pl_g))) (Or.inr (slot_ne (t := (.array .int)) (t' := .long) (Or.inr (w_57 H)) (Or.inl (w_72 H)) (by decide) (by decide) (by decide)))) (Or.inr (slot_ne (t := (.array .int)) (t' := .boolean) (Or.inr (w_57 H)) (Or.inl (w_64 H)) (by decide) (by decide) (by decide))))
  have f200 : Fld Z h187 g "com/example/plywright/plywright/games/ConnectFour" "plies" "I" (.int (Int32.ofNat (P + 1))) := (Fld.other W188 (Fld.other W178 (Fld.other W168 f165 (Or.inl (Ne.symm n_pl_g))) (Or.inr (slot_ne (t := .int) (t' := .long) (Or.inl (w_70 H)) (Or.inl (w_72 H)) (by decide) (by decide) (by decide)))) (Or.inr (slot_ne (t := .int) (t' := .boolean) (Or.inl (w_70 H)) (Or.inl (w_64 H)) (by decide) (by decide) (by decide))))
  have f201 : Fld Z h187 g "com/example/plywright/plywright/games/ConnectFour" "key" "J" (.long (u ^^^ u172)) := (Fld.other W188 f179 (Or.inr (slot_ne (t := .long) (t' := .boolean) (Or.inl (w_72 H)) (Or.inl (w_64 H)) (by decide) (by decide) (by decide))))
  have f202 : AV Z h187 hs .int (bm W (updf e c (Int32.ofNat (r + 1)))) := (AV.other (AV.other (AV.other (AV.other A160 W164 n_hs_g) W168 n_hs_pl) W178 n_hs_g) W188 n_hs_g)
  exact ⟨_, rfl, f190, (Exa.wr W188 f182), f191, f192, f193, f194, f195, f196, f197, f198, f199, f200, f189, f201, (AV.other f183 W188 n_sq_g), f202, (AV.other (AV.other A170 W178 n_pl_g) W188 n_pl_g), (AV.other (AV.other f175 W178 n_zb_g) W188 n_zb_g), (AV.other f184 W188 n_la_g)⟩
set_option maxRecDepth 65536 in
set_option maxHeartbeats 40000000 in
theorem rmPl2 {l : Launch} {Z : State} {a0 : Array Value} {n0 : Nat} (H : Wd a0 Z) (g sq hs pl zb la cf : Addr) (N W Hr c r q P sN : Nat) (f e pf : Nat → Int32) (zf : Nat → Int64) (s : Int32) (u : Int64) (h0 : Heap) (Z0 : n0 ≤ h0.size) (hcell : own_cell W c r = q) (hcW : c < W) (hW9 : W ≤ 9) (hrH : r < Hr) (hH9 : Hr ≤ 9) (he : e c = Int32.ofNat r) (hP : P < W * Hr) (hqN : q < N) (hsd : own_sd P = s) (hsN : s = Int32.ofNat sN) (s1 : 1 ≤ sN) (s2 : sN ≤ 2) (nb : nar .byte s = s) (hN : N < 1000) (q1 : 2 * (W + 5) ≤ q) (q2 : q + 2 * (W + 5) < N) (up : ¬ (updf f q s) (q + (W + 4)) = s) (p0 : ¬ (updf f q s) (q + 1) = s ∨ ¬ (updf f q s) (q + 2 * 1) = s) (m0 : ¬ (updf f q s) (q - 1) = s ∨ ¬ (updf f q s) (q - 2 * 1) = s) (p2 : ¬ (updf f q s) (q + (W + 5)) = s ∨ ¬ (updf f q s) (q + 2 * (W + 5)) = s) (m2 : ¬ (updf f q s) (q - (W + 5)) = s ∨ ¬ (updf f q s) (q - 2 * (W + 5)) = s) (p3 : ¬ (updf f q s) (q + (W + 3)) = s ∨ ¬ (updf f q s) (q + 2 * (W + 3)) = s) (m3 : ¬ (updf f q s) (q - (W + 3)) = s ∨ ¬ (updf f q s) (q - 2 * (W + 3)) = s) (w1 : (updf f q s) (q - 1 * (W + 4)) = s) (w2 : (updf f q s) (q - 2 * (W + 4)) = s) (wz : ¬ (updf f q s) (q - 3 * (W + 4)) = s) (wb : 3 * (W + 4) ≤ q) (E_g : Exa Z h0 g "com/example/plywright/plywright/games/ConnectFour") (F0_g : Fld Z h0 g "com/example/plywright/plywright/games/ConnectFour" "columns" "I" (.int (Int32.ofNat W))) (F1_g : Fld Z h0 g "com/example/plywright/plywright/games/ConnectFour" "rows" "I" (.int (Int32.ofNat Hr))) (F2_g : Fld Z h0 g "com/example/plywright/plywright/games/ConnectFour" "stride" "I" (.int (Int32.ofNat (W + 4)))) (F3_g : Fld Z h0 g "com/example/plywright/plywright/games/ConnectFour" "squares" "[B" (.ref sq)) (F4_g : Fld Z h0 g "com/example/plywright/plywright/games/ConnectFour" "heights" "[I" (.ref hs)) (F5_g : Fld Z h0 g "com/example/plywright/plywright/games/ConnectFour" "played" "[I" (.ref pl)) (F6_g : Fld Z h0 g "com/example/plywright/plywright/games/ConnectFour" "zobrist" "[J" (.ref zb)) (F7_g : Fld Z h0 g "com/example/plywright/plywright/games/ConnectFour" "lineSteps" "[I" (.ref la)) (F8_g : Fld Z h0 g "com/example/plywright/plywright/games/ConnectFour" "centreFirst" "[I" (.ref cf)) (F9_g : Fld Z h0 g "com/example/plywright/plywright/games/ConnectFour" "plies" "I" (.int (Int32.ofNat P))) (F10_g : Fld Z h0 g "com/example/plywright/plywright/games/ConnectFour" "won" "Z" (.int (0 : Int32))) (F11_g : Fld Z h0 g "com/example/plywright/plywright/games/ConnectFour" "key" "J" (.long u)) (A_sq : AV Z h0 sq .byte (bm N f)) (A_hs : AV Z h0 hs .int (bm W e)) (A_pl : AV Z h0 pl .int (bm (W * Hr) pf)) (A_zb : AV Z h0 zb .long (lm (2 * N + 1) zf)) (A_la : AV Z h0 la .int [(.int (1 : Int32)), (.int (Int32.ofNat (W + 4))), (.int (Int32.ofNat (W + 5))), (.int (Int32.ofNat (W + 3)))]) (n_sq_hs : sq ≠ hs) (n_sq_pl : sq ≠ pl) (n_sq_zb : sq ≠ zb) (n_sq_la : sq ≠ la) (n_hs_pl : hs ≠ pl) (n_hs_zb : hs ≠ zb) (n_hs_la : hs ≠ la) (n_pl_zb : pl ≠ zb) (n_pl_la : pl ≠ la) (n_zb_la : zb ≠ la) (n_sq_g : sq ≠ g) (n_hs_g : hs ≠ g) (n_pl_g : pl ≠ g) (n_zb_g : zb ≠ g) (n_la_g : la ≠ g) (ge_g : n0 ≤ g) (ge_sq : n0 ≤ sq) (ge_hs : n0 ≤ hs) (ge_pl : n0 ≤ pl) :
    Ct l Z n0 (⟨"com/example/plywright/plywright/games/ConnectFour", "play", "(I)V"⟩ : MethodName) prog_19_method_12_code 4 none [] ({ frames := 2, cells := 0, slots := 0, locals := 39 } : Room) #[(.ref g), (.int (Int32.ofNat c))] h0 (fun v h => ∃ u2, v = none ∧ Keep h0 h [g, sq, hs, pl] ∧ Exa Z h g "com/example/plywright/plywright/games/ConnectFour" ∧ Fld Z h g "com/example/plywright/plywright/games/ConnectFour" "columns" "I" (.int (Int32.ofNat W)) ∧ Fld Z h g "com/example/plywright/plywright/games/ConnectFour" "rows" "I" (.int (Int32.ofNat Hr)) ∧ Fld Z h g "com/example/plywright/plywright/games/ConnectFour" "stride" "I" (.int (Int32.ofNat (W + 4))) ∧ Fld Z h g "com/example/plywright/plywright/games/ConnectFour" "squares" "[B" (.ref sq) ∧ Fld Z h g "com/example/plywright/plywright/games/ConnectFour" "heights" "[I" (.ref hs) ∧ Fld Z h g "com/example/plywright/plywright/games/ConnectFour" "played" "[I" (.ref pl) ∧ Fld Z h g "com/example/plywright/plywright/games/ConnectFour" "zobrist" "[J" (.ref zb) ∧ Fld Z h g "com/example/plywright/plywright/games/ConnectFour" "lineSteps" "[I" (.ref la) ∧ Fld Z h g "com/example/plywright/plywright/games/ConnectFour" "centreFirst" "[I" (.ref cf) ∧ Fld Z h g "com/example/plywright/plywright/games/ConnectFour" "plies" "I" (.int (Int32.ofNat (P + 1))) ∧ Fld Z h g "com/example/plywright/plywright/games/ConnectFour" "won" "Z" (.int (0 : Int32)) ∧ Fld Z h g "com/example/plywright/plywright/games/ConnectFour" "key" "J" (.long u2) ∧ AV Z h sq .byte (bm N (updf f q s)) ∧ AV Z h hs .int (bm W (updf e c (Int32.ofNat (r + 1)))) ∧ AV Z h pl .int (bm (W * Hr) (updf pf P (Int32.ofNat q))) ∧ AV Z h zb .long (lm (2 * N + 1) zf) ∧ AV Z h la .int [(.int (1 : Int32)), (.int (Int32.ofNat (W + 4))), (.int (Int32.ofNat (W + 5))), (.int (Int32.ofNat (W + 3)))]) := by
  refine Ct.of (a0 := a0) (L0 := #[.val (.ref g), .val (.int (Int32.ofNat c)), .unset, .unset]) (plainFor_of_name pn_com_example_plywright_plywright_games_ConnectFour) (fun m => by first | (simp [entryFrame, mkF, argsToLocals, Value.category]; done) | rfl) ?_
  intro κ B0
  have B : Ok κ l Z a0 n0 ({ frames := 2, cells := 0, slots := 0, locals := 39 } : Room) "com/example/plywright/plywright/games/ConnectFour" "play" prog_19_method_12_code 4 none := B0
  refine go_iload_n B d6_0 rfl ?_
  refine go_iflt B d6_1 (fun c1 => ?_) (fun c1 => ?_)
  · exact absurd c1 (i_nlt (i_ofNat (by omega)) (show (0 : Int32).toInt = 0 from rfl) (by omega))
  refine go_iload_n B d6_4 rfl ?_
  refine go_aload_n B d6_5 rfl rfl ?_
  refine go_getfield B d6_6 (w_23 H) F0_g ?_
  refine go_icmplt B d6_9 (fun c9 => ?_) (fun c9 => ?_)
  rotate_left
  · exact absurd (i_lt (i_ofNat (by omega)) (i_ofNat (by omega)) (by omega)) c9
  refine go_aload_n B d6_32 rfl rfl ?_
  refine go_getfield B d6_33 (w_63 H) F10_g ?_
  refine go_ifeq B d6_36 (fun c36 => ?_) (fun c36 => ?_)
  rotate_left
  · exact absurd c36 (by decide)
  refine go_aload_n B d6_49 rfl rfl ?_
  refine go_getfield B d6_50 (w_31 H) F4_g ?_
  refine go_iload_n B d6_53 rfl ?_
  refine go_iaload B (i := c) (v := (.int (Int32.ofNat r))) d6_54 A_hs (i_ofNat (by omega)) (by rw [bm_get hcW, he]) ?_
  refine go_aload_n B d6_55 rfl rfl ?_
  refine go_getfield B d6_56 (w_25 H) F1_g ?_
  refine go_icmpne B d6_59 (fun c59 => ?_) (fun c59 => ?_)
  rotate_left
  · exact absurd c59 (i_ne (i_ofNat (by omega)) (i_ofNat (by omega)) (by omega))
  refine go_aload_n B d6_78 rfl rfl ?_
  refine go_iload_n B d6_79 rfl ?_
  refine go_aload_n B d6_80 rfl rfl ?_
  refine go_getfield B d6_81 (w_31 H) F4_g ?_
  refine go_iload_n B d6_84 rfl ?_
  refine go_iaload B (i := c) (v := (.int (Int32.ofNat r))) d6_85 A_hs (i_ofNat (by omega)) (by rw [bm_get hcW, he]) ?_
  refine go_private B (W' := 0) (a := g) (argsL := [(.int (Int32.ofNat c)), (.int (Int32.ofNat r))]) (st := []) d6_86 (w_48 H) (sp_square H) (w_50 H) (w_49 H) (w_4 H) (w_51 H) (by decide) E_g (rmSq H g W c r q h0 Z0 hcell F2_g) pd_1 rfl rfl rfl rfl (by decide) (by decide) (by decide) (by decide) ?_
  rintro _ h203 ⟨rfl, rfl⟩
  show Go κ _ h0 _ _ 89 #[.val (.ref g), .val (.int (Int32.ofNat c)), .unset, .unset] [(.int (Int32.ofNat q))]
  refine go_istore_n B #[.val (.ref g), .val (.int (Int32.ofNat c)), .val (.int (Int32.ofNat q)), .unset] d6_89 rfl ?_
  refine go_aload_n B d6_90 rfl rfl ?_
  refine go_private B (W' := 0) (a := g) (argsL := []) (st := []) d6_91 (w_65 H) (sp_sideToMove H) (w_67 H) (w_66 H) (w_4 H) (w_68 H) (by decide) E_g (rmSd H g P s h0 Z0 (by have := Nat.mul_le_mul hW9 hH9; omega) hsd F9_g) pd_2 rfl rfl rfl rfl (by decide) (by decide) (by decide) (by decide) ?_
  rintro _ h204 ⟨rfl, rfl⟩
  show Go κ _ h0 _ _ 94 #[.val (.ref g), .val (.int (Int32.ofNat c)), .val (.int (Int32.ofNat q)), .unset] [(.int s)]
  refine go_istore_n B #[.val (.ref g), .val (.int (Int32.ofNat c)), .val (.int (Int32.ofNat q)), .val (.int s)] d6_94 rfl ?_
  refine go_aload_n B d6_95 rfl rfl ?_
  refine go_getfield B d6_96 (w_29 H) F3_g ?_
  refine go_iload_n B d6_99 rfl ?_
  refine go_iload_n B d6_100 rfl ?_
  refine go_bastore B (i := q) d6_101 A_sq (i_ofNat (by omega)) (by rw [bm_len]; exact hqN) ge_sq ?_
  intro h205 W206 A207
  have A208 : AV Z h205 sq .byte (bm N (updf f q s)) := (by have z := A207; rw [nb, bm_set hqN] at z; exact z)
  refine go_aload_n B d6_102 rfl rfl ?_
  refine go_getfield B d6_103 (w_31 H) (Fld.other W206 F4_g (Or.inl (Ne.symm n_sq_g))) ?_
  refine go_iload_n B d6_106 rfl ?_
  refine go_dup2 B d6_107 rfl rfl ?_
  refine go_iaload B (i := c) (v := (.int (Int32.ofNat r))) d6_108 (AV.other A_hs W206 (Ne.symm n_sq_hs)) (i_ofNat (by omega)) (by rw [bm_get hcW, he]) ?_
  refine go_iconst B (x := (1 : Int32)) d6_109 rfl ?_
  refine go_iadd B d6_110 ?_
  rw [show ((Int32.ofNat r) + (1 : Int32)) = (Int32.ofNat (r + 1)) from n_add]
  refine go_iastore B (i := c) d6_111 (AV.other A_hs W206 (Ne.symm n_sq_hs)) (i_ofNat (by omega)) (by rw [bm_len]; exact hcW) ge_hs ?_
  intro h209 W210 A211
  have A212 : AV Z h209 hs .int (bm W (updf e c (Int32.ofNat (r + 1)))) := (bm_set hcW ▸ A211)
  refine go_aload_n B d6_112 rfl rfl ?_
  have f213 : Fld Z h209 g "com/example/plywright/plywright/games/ConnectFour" "played" "[I" (.ref pl) := (Fld.other W210 (Fld.other W206 F5_g (Or.inl (Ne.symm n_sq_g))) (Or.inl (Ne.symm n_hs_g)))
  refine go_getfield B d6_113 (w_33 H) f213 ?_
  refine go_aload_n B d6_116 rfl rfl ?_
  refine go_dup B d6_117 rfl ?_
  have f214 : Fld Z h209 g "com/example/plywright/plywright/games/ConnectFour" "plies" "I" (.int (Int32.ofNat P)) := (Fld.other W210 (Fld.other W206 F9_g (Or.inl (Ne.symm n_sq_g))) (Or.inl (Ne.symm n_hs_g)))
  refine go_getfield B d6_118 (w_69 H) f214 ?_
  refine go_dup_x1 B d6_121 rfl rfl ?_
  refine go_iconst B (x := (1 : Int32)) d6_122 rfl ?_
  refine go_iadd B d6_123 ?_
  rw [show ((Int32.ofNat P) + (1 : Int32)) = (Int32.ofNat (P + 1)) from n_add]
  refine go_putfield B (ty := .int) d6_124 (w_69 H) f214 (Exa.wr W210 (Exa.wr W206 E_g)) (Or.inl (w_70 H)) (w_3 H) (by decide) rfl rfl ge_g ?_
  intro h215 W216
  have f217 : Fld Z h215 g "com/example/plywright/plywright/games/ConnectFour" "plies" "I" (.int (Int32.ofNat (P + 1))) := Fld.same W216 f214
  refine go_iload_n B d6_127 rfl ?_
  have f218 : AV Z h215 pl .int (bm (W * Hr) pf) := (AV.other (AV.other (AV.other A_pl W206 (Ne.symm n_sq_pl)) W210 (Ne.symm n_hs_pl)) W216 n_pl_g)
  refine go_iastore B (i := P) d6_128 f218 (i_ofNat (by have := Nat.mul_le_mul hW9 hH9; omega)) (by rw [bm_len]; exact hP) ge_pl ?_
  intro h219 W220 A221
  have A222 : AV Z h219 pl .int (bm (W * Hr) (updf pf P (Int32.ofNat q))) := (bm_set hP ▸ A221)
  refine go_aload_n B d6_129 rfl rfl ?_
  refine go_dup B d6_130 rfl ?_
  have f223 : Fld Z h219 g "com/example/plywright/plywright/games/ConnectFour" "key" "J" (.long u) := (Fld.other W220 (Fld.other W216 (Fld.other W210 (Fld.other W206 F11_g (Or.inl (Ne.symm n_sq_g))) (Or.inl (Ne.symm n_hs_g))) (Or.inr (slot_ne (t := .long) (t' := .int) (Or.inl (w_72 H)) (Or.inl (w_70 H)) (by decide) (by decide) (by decide)))) (Or.inl (Ne.symm n_pl_g)))
  refine go_getfield B d6_131 (w_71 H) f223 ?_
  refine go_aload_n B d6_134 rfl rfl ?_
  refine go_iload_n B d6_135 rfl ?_
  refine go_iload_n B d6_136 rfl ?_
  have f225 : n0 ≤ h219.size := (Nat.le_trans (Nat.le_trans (Nat.le_trans (Nat.le_trans Z0 (Nat.le_of_eq (Wr.size W206).symm)) (Nat.le_of_eq (Wr.size W210).symm)) (Nat.le_of_eq (Wr.size W216).symm)) (Nat.le_of_eq (Wr.size W220).symm))
  have f226 : Fld Z h219 g "com/example/plywright/plywright/games/ConnectFour" "zobrist" "[J" (.ref zb) := (Fld.other W220 (Fld.other W216 (Fld.other W210 (Fld.other W206 F6_g (Or.inl (Ne.symm n_sq_g))) (Or.inl (Ne.symm n_hs_g))) (Or.inr (slot_ne (t := (.array .long)) (t' := .int) (Or.inr (w_44 H)) (Or.inl (w_70 H)) (by decide) (by decide) (by decide)))) (Or.inl (Ne.symm n_pl_g)))
  have f227 : AV Z h219 zb .long (lm (2 * N + 1) zf) := (AV.other (AV.other (AV.other (AV.other A_zb W206 (Ne.symm n_sq_zb)) W210 (Ne.symm n_hs_zb)) W216 n_zb_g) W220 (Ne.symm n_pl_zb))
  refine go_private B (W' := 3) (a := g) (argsL := [(.int (Int32.ofNat q)), (.int s)]) (st := [(.long u), (.ref g)]) d6_137 (w_73 H) (sp_keyChange H) (w_75 H) (w_74 H) (w_4 H) (w_76 H) (by decide) (Exa.wr W220 (Exa.wr W216 (Exa.wr W210 (Exa.wr W206 E_g)))) (rmKc H g zb N q sN zf s h219 f225 f226 f227 hN hqN hsN s1 s2) pd_3 rfl rfl rfl rfl (by decide) (by decide) (by decide) (by decide) ?_
  rintro _ h228 ⟨u224, rfl, rfl⟩
  show Go κ _ h219 _ _ 140 #[.val (.ref g), .val (.int (Int32.ofNat c)), .val (.int (Int32.ofNat q)), .val (.int s)] [(.long u224), (.long u), (.ref g)]
  refine go_lxor B d6_140 ?_
  refine go_putfield B (ty := .long) d6_141 (w_71 H) f223 (Exa.wr W220 (Exa.wr W216 (Exa.wr W210 (Exa.wr W206 E_g)))) (Or.inl (w_72 H)) (w_3 H) (by decide) rfl rfl ge_g ?_
  intro h229 W230
  have f231 : Fld Z h229 g "com/example/plywright/plywright/games/ConnectFour" "key" "J" (.long (u ^^^ u224)) := Fld.same W230 f223
  refine go_aload_n B d6_144 rfl rfl ?_
  refine go_aload_n B d6_145 rfl rfl ?_
  refine go_iload_n B d6_146 rfl ?_
  refine go_iload_n B d6_147 rfl ?_
  have f232 : Fld Z h229 g "com/example/plywright/plywright/games/ConnectFour" "squares" "[B" (.ref sq) := (Fld.other W230 (Fld.other W220 (Fld.other W216 (Fld.other W210 (Fld.other W206 F3_g (Or.inl (Ne.symm n_sq_g))) (Or.inl (Ne.symm n_hs_g))) (Or.inr (slot_ne (t := (.array .byte)) (t' := .int) (Or.inr (w_30 H)) (Or.inl (w_70 H)) (by decide) (by decide) (by decide)))) (Or.inl (Ne.symm n_pl_g))) (Or.inr (slot_ne (t := (.array .byte)) (t' := .long) (Or.inr (w_30 H)) (Or.inl (w_72 H)) (by decide) (by decide) (by decide))))
  have f233 : Fld Z h229 g "com/example/plywright/plywright/games/ConnectFour" "lineSteps" "[I" (.ref la) := (Fld.other W230 (Fld.other W220 (Fld.other W216 (Fld.other W210 (Fld.other W206 F7_g (Or.inl (Ne.symm n_sq_g))) (Or.inl (Ne.symm n_hs_g))) (Or.inr (slot_ne (t := (.array .int)) (t' := .int) (Or.inr (w_55 H)) (Or.inl (w_70 H)) (by decide) (by decide) (by decide)))) (Or.inl (Ne.symm n_pl_g))) (Or.inr (slot_ne (t := (.array .int)) (t' := .long) (Or.inr (w_55 H)) (Or.inl (w_72 H)) (by decide) (by decide) (by decide))))
  have f234 : Exa Z h229 g "com/example/plywright/plywright/games/ConnectFour" := (Exa.wr W230 (Exa.wr W220 (Exa.wr W216 (Exa.wr W210 (Exa.wr W206 E_g)))))
  have f235 : AV Z h229 sq .byte (bm N (updf f q s)) := (AV.other (AV.other (AV.other (AV.other A208 W210 n_sq_hs) W216 n_sq_g) W220 n_sq_pl) W230 n_sq_g)
  have f236 : AV Z h229 la .int [(.int (1 : Int32)), (.int (Int32.ofNat (W + 4))), (.int (Int32.ofNat (W + 5))), (.int (Int32.ofNat (W + 3)))] := (AV.other (AV.other (AV.other (AV.other (AV.other A_la W206 (Ne.symm n_sq_la)) W210 (Ne.symm n_hs_la)) W216 n_la_g) W220 (Ne.symm n_pl_la)) W230 n_la_g)
  refine go_private B (W' := 1) (a := g) (argsL := [(.int (Int32.ofNat q)), (.int s)]) (st := [(.ref g)]) d6_148 (w_77 H) (sp_makesFour H) (w_79 H) (w_78 H) (w_4 H) (w_80 H) (by decide) f234 (rmM2 H g sq la N W q (updf f q s) s h229 (Nat.le_trans f225 (Nat.le_of_eq (Wr.size W230).symm)) f232 f233 f234 f235 f236 hN q1 q2 up p0 m0 p2 m2 p3 m3 w1 w2 wz wb) pd_4 rfl rfl rfl rfl (by decide) (by decide) (by decide) (by decide) ?_
  rintro _ h237 ⟨rfl, rfl⟩
  show Go κ _ h229 _ _ 151 #[.val (.ref g), .val (.int (Int32.ofNat c)), .val (.int (Int32.ofNat q)), .val (.int s)] [(.int (0 : Int32)), (.ref g)]
  have f238 : Fld Z h229 g "com/example/plywright/plywright/games/ConnectFour" "won" "Z" (.int (0 : Int32)) := (Fld.other W230 (Fld.other W220 (Fld.other W216 (Fld.other W210 (Fld.other W206 F10_g (Or.inl (Ne.symm n_sq_g))) (Or.inl (Ne.symm n_hs_g))) (Or.inr (slot_ne (t := .boolean) (t' := .int) (Or.inl (w_64 H)) (Or.inl (w_70 H)) (by decide) (by decide) (by decide)))) (Or.inl (Ne.symm n_pl_g))) (Or.inr (slot_ne (t := .boolean) (t' := .long) (Or.inl (w_64 H)) (Or.inl (w_72 H)) (by decide) (by decide) (by decide))))
  refine go_putfield B (ty := .boolean) d6_151 (w_63 H) f238 f234 (Or.inl (w_64 H)) (w_3 H) (by decide) (by decide) (by decide) ge_g ?_
  intro h239 W240
  have f241 : Fld Z h239 g "com/example/plywright/plywright/games/ConnectFour" "won" "Z" (.int (0 : Int32)) := Fld.same W240 f238
  refine go_return B d6_154 (by decide) (by decide) ?_
  have f242 : Keep h0 h239 [g, sq, hs, pl] := (Keep.wr (Keep.wr (Keep.wr (Keep.wr (Keep.wr (Keep.wr (Keep.refl h0 _) W206 (Or.inl (by simp))) W210 (Or.inl (by simp))) W216 (Or.inl (by simp))) W220 (Or.inl (by simp))) W230 (Or.inl (by simp))) W240 (Or.inl (by simp)))
  have f243 : Fld Z h239 g "com/example/plywright/plywright/games/ConnectFour" "columns" "I" (.int (Int32.ofNat W)) := (Fld.other W240 (Fld.other W230 (Fld.other W220 (Fld.other W216 (Fld.other W210 (Fld.other W206 F0_g (Or.inl (Ne.symm n_sq_g))) (Or.inl (Ne.symm n_hs_g))) (Or.inr (slot_ne (t := .int) (t' := .int) (Or.inr (w_24 H)) (Or.inl (w_70 H)) (by decide) (by decide) (by decide)))) (Or.inl (Ne.symm n_pl_g))) (Or.inr (slot_ne (t := .int) (t' := .long) (Or.inr (w_24 H)) (Or.inl (w_72 H)) (by decide) (by decide) (by decide)))) (Or.inr (slot_ne (t := .int) (t' := .boolean) (Or.inr (w_24 H)) (Or.inl (w_64 H)) (by decide) (by decide) (by decide))))
  have f244 : Fld Z h239 g "com/example/plywright/plywright/games/ConnectFour" "rows" "I" (.int (Int32.ofNat Hr)) := (Fld.other W240 (Fld.other W230 (Fld.other W220 (Fld.other W216 (Fld.other W210 (Fld.other W206 F1_g (Or.inl (Ne.symm n_sq_g))) (Or.inl (Ne.symm n_hs_g))) (Or.inr (slot_ne (t := .int) (t' := .int) (Or.inr (w_26 H)) (Or.inl (w_70 H)) (by decide) (by decide) (by decide)))) (Or.inl (Ne.symm n_pl_g))) (Or.inr (slot_ne (t := .int) (t' := .long) (Or.inr (w_26 H)) (Or.inl (w_72 H)) (by decide) (by decide) (by decide)))) (Or.inr (slot_ne (t := .int) (t' := .boolean) (Or.inr (w_26 H)) (Or.inl (w_64 H)) (by decide) (by decide) (by decide))))
  have f245 : Fld Z h239 g "com/example/plywright/plywright/games/ConnectFour" "stride" "I" (.int (Int32.ofNat (W + 4))) := (Fld.other W240 (Fld.other W230 (Fld.other W220 (Fld.other W216 (Fld.other W210 (Fld.other W206 F2_g (Or.inl (Ne.symm n_sq_g))) (Or.inl (Ne.symm n_hs_g))) (Or.inr (slot_ne (t := .int) (t' := .int) (Or.inr (w_28 H)) (Or.inl (w_70 H)) (by decide) (by decide) (by decide)))) (Or.inl (Ne.symm n_pl_g))) (Or.inr (slot_ne (t := .int) (t' := .long) (Or.inr (w_28 H)) (Or.inl (w_72 H)) (by decide) (by decide) (by decide)))) (Or.inr (slot_ne (t := .int) (t' := .boolean) (Or.inr (w_28 H)) (Or.inl (w_64 H)) (by decide) (by decide) (by decide))))
  have f246 : Fld Z h239 g "com/example/plywright/plywright/games/ConnectFour" "squares" "[B" (.ref sq) := (Fld.other W240 f232 (Or.inr (slot_ne (t := (.array .byte)) (t' := .boolean) (Or.inr (w_30 H)) (Or.inl (w_64 H)) (by decide) (by decide) (by decide))))
  have f247 : Fld Z h239 g "com/example/plywright/plywright/games/ConnectFour" "heights" "[I" (.ref hs) := (Fld.other W240 (Fld.other W230 (Fld.other W220 (Fld.other W216 (Fld.other W210 (Fld.other W206 F4_g (Or.inl (Ne.symm n_sq_g))) (Or.inl (Ne.symm n_hs_g))) (Or.inr (slot_ne (t := (.array .int)) (t' := .int) (Or.inr (w_32 H)) (Or.inl (w_70 H)) (by decide) (by decide) (by decide)))) (Or.inl (Ne.symm n_pl_g))) (Or.inr (slot_ne (t := (.array .int)) (t' := .long) (Or.inr (w_32 H)) (Or.inl (w_72 H)) (by decide) (by decide) (by decide)))) (Or.inr (slot_ne (t := (.array .int)) (t' := .boolean) (Or.inr (w_32 H)) (Or.inl (w_64 H)) (by decide) (by decide) (by decide))))
  have f248 : Fld Z h239 g "com/example/plywright/plywright/games/ConnectFour" "played" "[I" (.ref pl) := (Fld.other W240 (Fld.other W230 (Fld.other W220 (Fld.other W216 f213 (Or.inr (slot_ne (t := (.array .int)) (t' := .int) (Or.inr (w_34 H)) (Or.inl (w_70 H)) (by decide) (by decide) (by decide)))) (Or.inl (Ne.symm n_pl_g))) (Or.inr (slot_ne (t := (.array .int)) (t' := .long) (Or.inr (w_34 H)) (Or.inl (w_72 H)) (by decide) (by decide) (by decide)))) (Or.inr (slot_ne (t := (.array .int)) (t' := .boolean) (Or.inr (w_34 H)) (Or.inl (w_64 H)) (by decide) (by decide) (by decide))))
  have f249 : Fld Z h239 g "com/example/plywright/plywright/games/ConnectFour" "zobrist" "[J" (.ref zb) := (Fld.other W240 (Fld.other W230 f226 (Or.inr (slot_ne (t := (.array .long)) (t' := .long) (Or.inr (w_44 H)) (Or.inl (w_72 H)) (by decide) (by decide) (by decide)))) (Or.inr (slot_ne (t := (.array .long)) (t' := .boolean) (Or.inr (w_44 H)) (Or.inl (w_64 H)) (by decide) (by decide) (by decide))))
  have f250 : Fld Z h239 g "com/example/plywright/plywright/games/ConnectFour" "lineSteps" "[I" (.ref la) := (Fld.other W240 f233 (Or.inr (slot_ne (t := (.array .int)) (t' := .boolean) (Or.inr (w_55 H)) (Or.inl (w_64 H)) (by decide) (by decide) (by decide))))
  have f251 : Fld Z h239 g "com/example/plywright/plywright/games/ConnectFour" "centreFirst" "[I" (.ref cf) := (Fld.other W240 (Fld.other W230 (Fld.other W220 (Fld.other W216 (Fld.other W210 (Fld.other W206 F8_g (Or.inl (Ne.symm n_sq_g))) (Or.inl (Ne.symm n_hs_g))) (Or.inr (slot_ne (t := (.array .int)) (t' := .int) (Or.inr (w_57 H)) (Or.inl (w_70 H)) (by decide) (by decide) (by decide)))) (Or.inl (Ne.symm n_pl_g))) (Or.inr (slot_ne (t := (.array .int)) (t' := .long) (Or.inr (w_57 H)) (Or.inl (w_72 H)) (by decide) (by decide) (by decide)))) (Or.inr (slot_ne (t := (.array .int)) (t' := .boolean) (Or.inr (w_57 H)) (Or.inl (w_64 H)) (by decide) (by decide) (by decide))))
  have f252 : Fld Z h239 g "com/example/plywright/plywright/games/ConnectFour" "plies" "I" (.int (Int32.ofNat (P + 1))) := (Fld.other W240 (Fld.other W230 (Fld.other W220 f217 (Or.inl (Ne.symm n_pl_g))) (Or.inr (slot_ne (t := .int) (t' := .long) (Or.inl (w_70 H)) (Or.inl (w_72 H)) (by decide) (by decide) (by decide)))) (Or.inr (slot_ne (t := .int) (t' := .boolean) (Or.inl (w_70 H)) (Or.inl (w_64 H)) (by decide) (by decide) (by decide))))
  have f253 : Fld Z h239 g "com/example/plywright/plywright/games/ConnectFour" "key" "J" (.long (u ^^^ u224)) := (Fld.other W240 f231 (Or.inr (slot_ne (t := .long) (t' := .boolean) (Or.inl (w_72 H)) (Or.inl (w_64 H)) (by decide) (by decide) (by decide))))
  have f254 : AV Z h239 hs .int (bm W (updf e c (Int32.ofNat (r + 1)))) := (AV.other (AV.other (AV.other (AV.other A212 W216 n_hs_g) W220 n_hs_pl) W230 n_hs_g) W240 n_hs_g)
  exact ⟨_, rfl, f242, (Exa.wr W240 f234), f243, f244, f245, f246, f247, f248, f249, f250, f251, f252, f241, f253, (AV.other f235 W240 n_sq_g), f254, (AV.other (AV.other A222 W230 n_pl_g) W240 n_pl_g), (AV.other (AV.other f227 W230 n_zb_g) W240 n_zb_g), (AV.other f236 W240 n_la_g)⟩
set_option maxRecDepth 65536 in
set_option maxHeartbeats 40000000 in
theorem rmPl3 {l : Launch} {Z : State} {a0 : Array Value} {n0 : Nat} (H : Wd a0 Z) (g sq hs pl zb la cf : Addr) (N W Hr c r q P sN : Nat) (f e pf : Nat → Int32) (zf : Nat → Int64) (s : Int32) (u : Int64) (h0 : Heap) (Z0 : n0 ≤ h0.size) (hcell : own_cell W c r = q) (hcW : c < W) (hW9 : W ≤ 9) (hrH : r < Hr) (hH9 : Hr ≤ 9) (he : e c = Int32.ofNat r) (hP : P < W * Hr) (hqN : q < N) (hsd : own_sd P = s) (hsN : s = Int32.ofNat sN) (s1 : 1 ≤ sN) (s2 : sN ≤ 2) (nb : nar .byte s = s) (hN : N < 1000) (q1 : 2 * (W + 5) ≤ q) (q2 : q + 2 * (W + 5) < N) (up : ¬ (updf f q s) (q + (W + 4)) = s) (p0 : ¬ (updf f q s) (q + 1) = s ∨ ¬ (updf f q s) (q + 2 * 1) = s) (m0 : ¬ (updf f q s) (q - 1) = s ∨ ¬ (updf f q s) (q - 2 * 1) = s) (p2 : ¬ (updf f q s) (q + (W + 5)) = s ∨ ¬ (updf f q s) (q + 2 * (W + 5)) = s) (m2 : ¬ (updf f q s) (q - (W + 5)) = s ∨ ¬ (updf f q s) (q - 2 * (W + 5)) = s) (p3 : ¬ (updf f q s) (q + (W + 3)) = s ∨ ¬ (updf f q s) (q + 2 * (W + 3)) = s) (m3 : ¬ (updf f q s) (q - (W + 3)) = s ∨ ¬ (updf f q s) (q - 2 * (W + 3)) = s) (w1 : (updf f q s) (q - 1 * (W + 4)) = s) (w2 : (updf f q s) (q - 2 * (W + 4)) = s) (w3 : (updf f q s) (q - 3 * (W + 4)) = s) (wz : ¬ (updf f q s) (q - 4 * (W + 4)) = s) (wb : 4 * (W + 4) ≤ q) (E_g : Exa Z h0 g "com/example/plywright/plywright/games/ConnectFour") (F0_g : Fld Z h0 g "com/example/plywright/plywright/games/ConnectFour" "columns" "I" (.int (Int32.ofNat W))) (F1_g : Fld Z h0 g "com/example/plywright/plywright/games/ConnectFour" "rows" "I" (.int (Int32.ofNat Hr))) (F2_g : Fld Z h0 g "com/example/plywright/plywright/games/ConnectFour" "stride" "I" (.int (Int32.ofNat (W + 4)))) (F3_g : Fld Z h0 g "com/example/plywright/plywright/games/ConnectFour" "squares" "[B" (.ref sq)) (F4_g : Fld Z h0 g "com/example/plywright/plywright/games/ConnectFour" "heights" "[I" (.ref hs)) (F5_g : Fld Z h0 g "com/example/plywright/plywright/games/ConnectFour" "played" "[I" (.ref pl)) (F6_g : Fld Z h0 g "com/example/plywright/plywright/games/ConnectFour" "zobrist" "[J" (.ref zb)) (F7_g : Fld Z h0 g "com/example/plywright/plywright/games/ConnectFour" "lineSteps" "[I" (.ref la)) (F8_g : Fld Z h0 g "com/example/plywright/plywright/games/ConnectFour" "centreFirst" "[I" (.ref cf)) (F9_g : Fld Z h0 g "com/example/plywright/plywright/games/ConnectFour" "plies" "I" (.int (Int32.ofNat P))) (F10_g : Fld Z h0 g "com/example/plywright/plywright/games/ConnectFour" "won" "Z" (.int (0 : Int32))) (F11_g : Fld Z h0 g "com/example/plywright/plywright/games/ConnectFour" "key" "J" (.long u)) (A_sq : AV Z h0 sq .byte (bm N f)) (A_hs : AV Z h0 hs .int (bm W e)) (A_pl : AV Z h0 pl .int (bm (W * Hr) pf)) (A_zb : AV Z h0 zb .long (lm (2 * N + 1) zf)) (A_la : AV Z h0 la .int [(.int (1 : Int32)), (.int (Int32.ofNat (W + 4))), (.int (Int32.ofNat (W + 5))), (.int (Int32.ofNat (W + 3)))]) (n_sq_hs : sq ≠ hs) (n_sq_pl : sq ≠ pl) (n_sq_zb : sq ≠ zb) (n_sq_la : sq ≠ la) (n_hs_pl : hs ≠ pl) (n_hs_zb : hs ≠ zb) (n_hs_la : hs ≠ la) (n_pl_zb : pl ≠ zb) (n_pl_la : pl ≠ la) (n_zb_la : zb ≠ la) (n_sq_g : sq ≠ g) (n_hs_g : hs ≠ g) (n_pl_g : pl ≠ g) (n_zb_g : zb ≠ g) (n_la_g : la ≠ g) (ge_g : n0 ≤ g) (ge_sq : n0 ≤ sq) (ge_hs : n0 ≤ hs) (ge_pl : n0 ≤ pl) :
    Ct l Z n0 (⟨"com/example/plywright/plywright/games/ConnectFour", "play", "(I)V"⟩ : MethodName) prog_19_method_12_code 4 none [] ({ frames := 2, cells := 0, slots := 0, locals := 39 } : Room) #[(.ref g), (.int (Int32.ofNat c))] h0 (fun v h => ∃ u2, v = none ∧ Keep h0 h [g, sq, hs, pl] ∧ Exa Z h g "com/example/plywright/plywright/games/ConnectFour" ∧ Fld Z h g "com/example/plywright/plywright/games/ConnectFour" "columns" "I" (.int (Int32.ofNat W)) ∧ Fld Z h g "com/example/plywright/plywright/games/ConnectFour" "rows" "I" (.int (Int32.ofNat Hr)) ∧ Fld Z h g "com/example/plywright/plywright/games/ConnectFour" "stride" "I" (.int (Int32.ofNat (W + 4))) ∧ Fld Z h g "com/example/plywright/plywright/games/ConnectFour" "squares" "[B" (.ref sq) ∧ Fld Z h g "com/example/plywright/plywright/games/ConnectFour" "heights" "[I" (.ref hs) ∧ Fld Z h g "com/example/plywright/plywright/games/ConnectFour" "played" "[I" (.ref pl) ∧ Fld Z h g "com/example/plywright/plywright/games/ConnectFour" "zobrist" "[J" (.ref zb) ∧ Fld Z h g "com/example/plywright/plywright/games/ConnectFour" "lineSteps" "[I" (.ref la) ∧ Fld Z h g "com/example/plywright/plywright/games/ConnectFour" "centreFirst" "[I" (.ref cf) ∧ Fld Z h g "com/example/plywright/plywright/games/ConnectFour" "plies" "I" (.int (Int32.ofNat (P + 1))) ∧ Fld Z h g "com/example/plywright/plywright/games/ConnectFour" "won" "Z" (.int (1 : Int32)) ∧ Fld Z h g "com/example/plywright/plywright/games/ConnectFour" "key" "J" (.long u2) ∧ AV Z h sq .byte (bm N (updf f q s)) ∧ AV Z h hs .int (bm W (updf e c (Int32.ofNat (r + 1)))) ∧ AV Z h pl .int (bm (W * Hr) (updf pf P (Int32.ofNat q))) ∧ AV Z h zb .long (lm (2 * N + 1) zf) ∧ AV Z h la .int [(.int (1 : Int32)), (.int (Int32.ofNat (W + 4))), (.int (Int32.ofNat (W + 5))), (.int (Int32.ofNat (W + 3)))]) := by
  refine Ct.of (a0 := a0) (L0 := #[.val (.ref g), .val (.int (Int32.ofNat c)), .unset, .unset]) (plainFor_of_name pn_com_example_plywright_plywright_games_ConnectFour) (fun m => by first | (simp [entryFrame, mkF, argsToLocals, Value.category]; done) | rfl) ?_
  intro κ B0
  have B : Ok κ l Z a0 n0 ({ frames := 2, cells := 0, slots := 0, locals := 39 } : Room) "com/example/plywright/plywright/games/ConnectFour" "play" prog_19_method_12_code 4 none := B0
  refine go_iload_n B d6_0 rfl ?_
  refine go_iflt B d6_1 (fun c1 => ?_) (fun c1 => ?_)
  · exact absurd c1 (i_nlt (i_ofNat (by omega)) (show (0 : Int32).toInt = 0 from rfl) (by omega))
  refine go_iload_n B d6_4 rfl ?_
  refine go_aload_n B d6_5 rfl rfl ?_
  refine go_getfield B d6_6 (w_23 H) F0_g ?_
  refine go_icmplt B d6_9 (fun c9 => ?_) (fun c9 => ?_)
  rotate_left
  · exact absurd (i_lt (i_ofNat (by omega)) (i_ofNat (by omega)) (by omega)) c9
  refine go_aload_n B d6_32 rfl rfl ?_
  refine go_getfield B d6_33 (w_63 H) F10_g ?_
  refine go_ifeq B d6_36 (fun c36 => ?_) (fun c36 => ?_)
  rotate_left
  · exact absurd c36 (by decide)
  refine go_aload_n B d6_49 rfl rfl ?_
  refine go_getfield B d6_50 (w_31 H) F4_g ?_
  refine go_iload_n B d6_53 rfl ?_
  refine go_iaload B (i := c) (v := (.int (Int32.ofNat r))) d6_54 A_hs (i_ofNat (by omega)) (by rw [bm_get hcW, he]) ?_
  refine go_aload_n B d6_55 rfl rfl ?_
  refine go_getfield B d6_56 (w_25 H) F1_g ?_
  refine go_icmpne B d6_59 (fun c59 => ?_) (fun c59 => ?_)
  rotate_left
  · exact absurd c59 (i_ne (i_ofNat (by omega)) (i_ofNat (by omega)) (by omega))
  refine go_aload_n B d6_78 rfl rfl ?_
  refine go_iload_n B d6_79 rfl ?_
  refine go_aload_n B d6_80 rfl rfl ?_
  refine go_getfield B d6_81 (w_31 H) F4_g ?_
  refine go_iload_n B d6_84 rfl ?_
  refine go_iaload B (i := c) (v := (.int (Int32.ofNat r))) d6_85 A_hs (i_ofNat (by omega)) (by rw [bm_get hcW, he]) ?_
  refine go_private B (W' := 0) (a := g) (argsL := [(.int (Int32.ofNat c)), (.int (Int32.ofNat r))]) (st := []) d6_86 (w_48 H) (sp_square H) (w_50 H) (w_49 H) (w_4 H) (w_51 H) (by decide) E_g (rmSq H g W c r q h0 Z0 hcell F2_g) pd_1 rfl rfl rfl rfl (by decide) (by decide) (by decide) (by decide) ?_
  rintro _ h255 ⟨rfl, rfl⟩
  show Go κ _ h0 _ _ 89 #[.val (.ref g), .val (.int (Int32.ofNat c)), .unset, .unset] [(.int (Int32.ofNat q))]
  refine go_istore_n B #[.val (.ref g), .val (.int (Int32.ofNat c)), .val (.int (Int32.ofNat q)), .unset] d6_89 rfl ?_
  refine go_aload_n B d6_90 rfl rfl ?_
  refine go_private B (W' := 0) (a := g) (argsL := []) (st := []) d6_91 (w_65 H) (sp_sideToMove H) (w_67 H) (w_66 H) (w_4 H) (w_68 H) (by decide) E_g (rmSd H g P s h0 Z0 (by have := Nat.mul_le_mul hW9 hH9; omega) hsd F9_g) pd_2 rfl rfl rfl rfl (by decide) (by decide) (by decide) (by decide) ?_
  rintro _ h256 ⟨rfl, rfl⟩
  show Go κ _ h0 _ _ 94 #[.val (.ref g), .val (.int (Int32.ofNat c)), .val (.int (Int32.ofNat q)), .unset] [(.int s)]
  refine go_istore_n B #[.val (.ref g), .val (.int (Int32.ofNat c)), .val (.int (Int32.ofNat q)), .val (.int s)] d6_94 rfl ?_
  refine go_aload_n B d6_95 rfl rfl ?_
  refine go_getfield B d6_96 (w_29 H) F3_g ?_
  refine go_iload_n B d6_99 rfl ?_
  refine go_iload_n B d6_100 rfl ?_
  refine go_bastore B (i := q) d6_101 A_sq (i_ofNat (by omega)) (by rw [bm_len]; exact hqN) ge_sq ?_
  intro h257 W258 A259
  have A260 : AV Z h257 sq .byte (bm N (updf f q s)) := (by have z := A259; rw [nb, bm_set hqN] at z; exact z)
  refine go_aload_n B d6_102 rfl rfl ?_
  refine go_getfield B d6_103 (w_31 H) (Fld.other W258 F4_g (Or.inl (Ne.symm n_sq_g))) ?_
  refine go_iload_n B d6_106 rfl ?_
  refine go_dup2 B d6_107 rfl rfl ?_
  refine go_iaload B (i := c) (v := (.int (Int32.ofNat r))) d6_108 (AV.other A_hs W258 (Ne.symm n_sq_hs)) (i_ofNat (by omega)) (by rw [bm_get hcW, he]) ?_
  refine go_iconst B (x := (1 : Int32)) d6_109 rfl ?_
  refine go_iadd B d6_110 ?_
  rw [show ((Int32.ofNat r) + (1 : Int32)) = (Int32.ofNat (r + 1)) from n_add]
  refine go_iastore B (i := c) d6_111 (AV.other A_hs W258 (Ne.symm n_sq_hs)) (i_ofNat (by omega)) (by rw [bm_len]; exact hcW) ge_hs ?_
  intro h261 W262 A263
  have A264 : AV Z h261 hs .int (bm W (updf e c (Int32.ofNat (r + 1)))) := (bm_set hcW ▸ A263)
  refine go_aload_n B d6_112 rfl rfl ?_
  have f265 : Fld Z h261 g "com/example/plywright/plywright/games/ConnectFour" "played" "[I" (.ref pl) := (Fld.other W262 (Fld.other W258 F5_g (Or.inl (Ne.symm n_sq_g))) (Or.inl (Ne.symm n_hs_g)))
  refine go_getfield B d6_113 (w_33 H) f265 ?_
  refine go_aload_n B d6_116 rfl rfl ?_
  refine go_dup B d6_117 rfl ?_
  have f266 : Fld Z h261 g "com/example/plywright/plywright/games/ConnectFour" "plies" "I" (.int (Int32.ofNat P)) := (Fld.other W262 (Fld.other W258 F9_g (Or.inl (Ne.symm n_sq_g))) (Or.inl (Ne.symm n_hs_g)))
  refine go_getfield B d6_118 (w_69 H) f266 ?_
  refine go_dup_x1 B d6_121 rfl rfl ?_
  refine go_iconst B (x := (1 : Int32)) d6_122 rfl ?_
  refine go_iadd B d6_123 ?_
  rw [show ((Int32.ofNat P) + (1 : Int32)) = (Int32.ofNat (P + 1)) from n_add]
  refine go_putfield B (ty := .int) d6_124 (w_69 H) f266 (Exa.wr W262 (Exa.wr W258 E_g)) (Or.inl (w_70 H)) (w_3 H) (by decide) rfl rfl ge_g ?_
  intro h267 W268
  have f269 : Fld Z h267 g "com/example/plywright/plywright/games/ConnectFour" "plies" "I" (.int (Int32.ofNat (P + 1))) := Fld.same W268 f266
  refine go_iload_n B d6_127 rfl ?_
  have f270 : AV Z h267 pl .int (bm (W * Hr) pf) := (AV.other (AV.other (AV.other A_pl W258 (Ne.symm n_sq_pl)) W262 (Ne.symm n_hs_pl)) W268 n_pl_g)
  refine go_iastore B (i := P) d6_128 f270 (i_ofNat (by have := Nat.mul_le_mul hW9 hH9; omega)) (by rw [bm_len]; exact hP) ge_pl ?_
  intro h271 W272 A273
  have A274 : AV Z h271 pl .int (bm (W * Hr) (updf pf P (Int32.ofNat q))) := (bm_set hP ▸ A273)
  refine go_aload_n B d6_129 rfl rfl ?_
  refine go_dup B d6_130 rfl ?_
  have f275 : Fld Z h271 g "com/example/plywright/plywright/games/ConnectFour" "key" "J" (.long u) := (Fld.other W272 (Fld.other W268 (Fld.other W262 (Fld.other W258 F11_g (Or.inl (Ne.symm n_sq_g))) (Or.inl (Ne.symm n_hs_g))) (Or.inr (slot_ne (t := .long) (t' := .int) (Or.inl (w_72 H)) (Or.inl (w_70 H)) (by decide) (by decide) (by decide)))) (Or.inl (Ne.symm n_pl_g)))
  refine go_getfield B d6_131 (w_71 H) f275 ?_
  refine go_aload_n B d6_134 rfl rfl ?_
  refine go_iload_n B d6_135 rfl ?_
  refine go_iload_n B d6_136 rfl ?_
  have f277 : n0 ≤ h271.size := (Nat.le_trans (Nat.le_trans (Nat.le_trans (Nat.le_trans Z0 (Nat.le_of_eq (Wr.size W258).symm)) (Nat.le_of_eq (Wr.size W262).symm)) (Nat.le_of_eq (Wr.size W268).symm)) (Nat.le_of_eq (Wr.size W272).symm))
  have f278 : Fld Z h271 g "com/example/plywright/plywright/games/ConnectFour" "zobrist" "[J" (.ref zb) := (Fld.other W272 (Fld.other W268 (Fld.other W262 (Fld.other W258 F6_g (Or.inl (Ne.symm n_sq_g))) (Or.inl (Ne.symm n_hs_g))) (Or.inr (slot_ne (t := (.array .long)) (t' := .int) (Or.inr (w_44 H)) (Or.inl (w_70 H)) (by decide) (by decide) (by decide)))) (Or.inl (Ne.symm n_pl_g)))
  have f279 : AV Z h271 zb .long (lm (2 * N + 1) zf) := (AV.other (AV.other (AV.other (AV.other A_zb W258 (Ne.symm n_sq_zb)) W262 (Ne.symm n_hs_zb)) W268 n_zb_g) W272 (Ne.symm n_pl_zb))
  refine go_private B (W' := 3) (a := g) (argsL := [(.int (Int32.ofNat q)), (.int s)]) (st := [(.long u), (.ref g)]) d6_137 (w_73 H) (sp_keyChange H) (w_75 H) (w_74 H) (w_4 H) (w_76 H) (by decide) (Exa.wr W272 (Exa.wr W268 (Exa.wr W262 (Exa.wr W258 E_g)))) (rmKc H g zb N q sN zf s h271 f277 f278 f279 hN hqN hsN s1 s2) pd_3 rfl rfl rfl rfl (by decide) (by decide) (by decide) (by decide) ?_
  rintro _ h280 ⟨u276, rfl, rfl⟩
  show Go κ _ h271 _ _ 140 #[.val (.ref g), .val (.int (Int32.ofNat c)), .val (.int (Int32.ofNat q)), .val (.int s)] [(.long u276), (.long u), (.ref g)]
  refine go_lxor B d6_140 ?_
  refine go_putfield B (ty := .long) d6_141 (w_71 H) f275 (Exa.wr W272 (Exa.wr W268 (Exa.wr W262 (Exa.wr W258 E_g)))) (Or.inl (w_72 H)) (w_3 H) (by decide) rfl rfl ge_g ?_
  intro h281 W282
  have f283 : Fld Z h281 g "com/example/plywright/plywright/games/ConnectFour" "key" "J" (.long (u ^^^ u276)) := Fld.same W282 f275
  refine go_aload_n B d6_144 rfl rfl ?_
  refine go_aload_n B d6_145 rfl rfl ?_
  refine go_iload_n B d6_146 rfl ?_
  refine go_iload_n B d6_147 rfl ?_
  have f284 : Fld Z h281 g "com/example/plywright/plywright/games/ConnectFour" "squares" "[B" (.ref sq) := (Fld.other W282 (Fld.other W272 (Fld.other W268 (Fld.other W262 (Fld.other W258 F3_g (Or.inl (Ne.symm n_sq_g))) (Or.inl (Ne.symm n_hs_g))) (Or.inr (slot_ne (t := (.array .byte)) (t' := .int) (Or.inr (w_30 H)) (Or.inl (w_70 H)) (by decide) (by decide) (by decide)))) (Or.inl (Ne.symm n_pl_g))) (Or.inr (slot_ne (t := (.array .byte)) (t' := .long) (Or.inr (w_30 H)) (Or.inl (w_72 H)) (by decide) (by decide) (by decide))))
  have f285 : Fld Z h281 g "com/example/plywright/plywright/games/ConnectFour" "lineSteps" "[I" (.ref la) := (Fld.other W282 (Fld.other W272 (Fld.other W268 (Fld.other W262 (Fld.other W258 F7_g (Or.inl (Ne.symm n_sq_g))) (Or.inl (Ne.symm n_hs_g))) (Or.inr (slot_ne (t := (.array .int)) (t' := .int) (Or.inr (w_55 H)) (Or.inl (w_70 H)) (by decide) (by decide) (by decide)))) (Or.inl (Ne.symm n_pl_g))) (Or.inr (slot_ne (t := (.array .int)) (t' := .long) (Or.inr (w_55 H)) (Or.inl (w_72 H)) (by decide) (by decide) (by decide))))
  have f286 : Exa Z h281 g "com/example/plywright/plywright/games/ConnectFour" := (Exa.wr W282 (Exa.wr W272 (Exa.wr W268 (Exa.wr W262 (Exa.wr W258 E_g)))))
  have f287 : AV Z h281 sq .byte (bm N (updf f q s)) := (AV.other (AV.other (AV.other (AV.other A260 W262 n_sq_hs) W268 n_sq_g) W272 n_sq_pl) W282 n_sq_g)
  have f288 : AV Z h281 la .int [(.int (1 : Int32)), (.int (Int32.ofNat (W + 4))), (.int (Int32.ofNat (W + 5))), (.int (Int32.ofNat (W + 3)))] := (AV.other (AV.other (AV.other (AV.other (AV.other A_la W258 (Ne.symm n_sq_la)) W262 (Ne.symm n_hs_la)) W268 n_la_g) W272 (Ne.symm n_pl_la)) W282 n_la_g)
  refine go_private B (W' := 1) (a := g) (argsL := [(.int (Int32.ofNat q)), (.int s)]) (st := [(.ref g)]) d6_148 (w_77 H) (sp_makesFour H) (w_79 H) (w_78 H) (w_4 H) (w_80 H) (by decide) f286 (rmM3 H g sq la N W q (updf f q s) s h281 (Nat.le_trans f277 (Nat.le_of_eq (Wr.size W282).symm)) f284 f285 f286 f287 f288 hN q1 q2 up p0 m0 p2 m2 p3 m3 w1 w2 w3 wz wb) pd_4 rfl rfl rfl rfl (by decide) (by decide) (by decide) (by decide) ?_
  rintro _ h289 ⟨rfl, rfl⟩
  show Go κ _ h281 _ _ 151 #[.val (.ref g), .val (.int (Int32.ofNat c)), .val (.int (Int32.ofNat q)), .val (.int s)] [(.int (1 : Int32)), (.ref g)]
  have f290 : Fld Z h281 g "com/example/plywright/plywright/games/ConnectFour" "won" "Z" (.int (0 : Int32)) := (Fld.other W282 (Fld.other W272 (Fld.other W268 (Fld.other W262 (Fld.other W258 F10_g (Or.inl (Ne.symm n_sq_g))) (Or.inl (Ne.symm n_hs_g))) (Or.inr (slot_ne (t := .boolean) (t' := .int) (Or.inl (w_64 H)) (Or.inl (w_70 H)) (by decide) (by decide) (by decide)))) (Or.inl (Ne.symm n_pl_g))) (Or.inr (slot_ne (t := .boolean) (t' := .long) (Or.inl (w_64 H)) (Or.inl (w_72 H)) (by decide) (by decide) (by decide))))
  refine go_putfield B (ty := .boolean) d6_151 (w_63 H) f290 f286 (Or.inl (w_64 H)) (w_3 H) (by decide) (by decide) (by decide) ge_g ?_
  intro h291 W292
  have f293 : Fld Z h291 g "com/example/plywright/plywright/games/ConnectFour" "won" "Z" (.int (1 : Int32)) := Fld.same W292 f290
  refine go_return B d6_154 (by decide) (by decide) ?_
  have f294 : Keep h0 h291 [g, sq, hs, pl] := (Keep.wr (Keep.wr (Keep.wr (Keep.wr (Keep.wr (Keep.wr (Keep.refl h0 _) W258 (Or.inl (by simp))) W262 (Or.inl (by simp))) W268 (Or.inl (by simp))) W272 (Or.inl (by simp))) W282 (Or.inl (by simp))) W292 (Or.inl (by simp)))
  have f295 : Fld Z h291 g "com/example/plywright/plywright/games/ConnectFour" "columns" "I" (.int (Int32.ofNat W)) := (Fld.other W292 (Fld.other W282 (Fld.other W272 (Fld.other W268 (Fld.other W262 (Fld.other W258 F0_g (Or.inl (Ne.symm n_sq_g))) (Or.inl (Ne.symm n_hs_g))) (Or.inr (slot_ne (t := .int) (t' := .int) (Or.inr (w_24 H)) (Or.inl (w_70 H)) (by decide) (by decide) (by decide)))) (Or.inl (Ne.symm n_pl_g))) (Or.inr (slot_ne (t := .int) (t' := .long) (Or.inr (w_24 H)) (Or.inl (w_72 H)) (by decide) (by decide) (by decide)))) (Or.inr (slot_ne (t := .int) (t' := .boolean) (Or.inr (w_24 H)) (Or.inl (w_64 H)) (by decide) (by decide) (by decide))))
  have f296 : Fld Z h291 g "com/example/plywright/plywright/games/ConnectFour" "rows" "I" (.int (Int32.ofNat Hr)) := (Fld.other W292 (Fld.other W282 (Fld.other W272 (Fld.other W268 (Fld.other W262 (Fld.other W258 F1_g (Or.inl (Ne.symm n_sq_g))) (Or.inl (Ne.symm n_hs_g))) (Or.inr (slot_ne (t := .int) (t' := .int) (Or.inr (w_26 H)) (Or.inl (w_70 H)) (by decide) (by decide) (by decide)))) (Or.inl (Ne.symm n_pl_g))) (Or.inr (slot_ne (t := .int) (t' := .long) (Or.inr (w_26 H)) (Or.inl (w_72 H)) (by decide) (by decide) (by decide)))) (Or.inr (slot_ne (t := .int) (t' := .boolean) (Or.inr (w_26 H)) (Or.inl (w_64 H)) (by decide) (by decide) (by decide))))
  have f297 : Fld Z h291 g "com/example/plywright/plywright/games/ConnectFour" "stride" "I" (.int (Int32.ofNat (W + 4))) := (Fld.other W292 (Fld.other W282 (Fld.other W272 (Fld.other W268 (Fld.other W262 (Fld.other W258 F2_g (Or.inl (Ne.symm n_sq_g))) (Or.inl (Ne.symm n_hs_g))) (Or.inr (slot_ne (t := .int) (t' := .int) (Or.inr (w_28 H)) (Or.inl (w_70 H)) (by decide) (by decide) (by decide)))) (Or.inl (Ne.symm n_pl_g))) (Or.inr (slot_ne (t := .int) (t' := .long) (Or.inr (w_28 H)) (Or.inl (w_72 H)) (by decide) (by decide) (by decide)))) (Or.inr (slot_ne (t := .int) (t' := .boolean) (Or.inr (w_28 H)) (Or.inl (w_64 H)) (by decide) (by decide) (by decide))))
  have f298 : Fld Z h291 g "com/example/plywright/plywright/games/ConnectFour" "squares" "[B" (.ref sq) := (Fld.other W292 f284 (Or.inr (slot_ne (t := (.array .byte)) (t' := .boolean) (Or.inr (w_30 H)) (Or.inl (w_64 H)) (by decide) (by decide) (by decide))))
  have f299 : Fld Z h291 g "com/example/plywright/plywright/games/ConnectFour" "heights" "[I" (.ref hs) := (Fld.other W292 (Fld.other W282 (Fld.other W272 (Fld.other W268 (Fld.other W262 (Fld.other W258 F4_g (Or.inl (Ne.symm n_sq_g))) (Or.inl (Ne.symm n_hs_g))) (Or.inr (slot_ne (t := (.array .int)) (t' := .int) (Or.inr (w_32 H)) (Or.inl (w_70 H)) (by decide) (by decide) (by decide)))) (Or.inl (Ne.symm n_pl_g))) (Or.inr (slot_ne (t := (.array .int)) (t' := .long) (Or.inr (w_32 H)) (Or.inl (w_72 H)) (by decide) (by decide) (by decide)))) (Or.inr (slot_ne (t := (.array .int)) (t' := .boolean) (Or.inr (w_32 H)) (Or.inl (w_64 H)) (by decide) (by decide) (by decide))))
  have f300 : Fld Z h291 g "com/example/plywright/plywright/games/ConnectFour" "played" "[I" (.ref pl) := (Fld.other W292 (Fld.other W282 (Fld.other W272 (Fld.other W268 f265 (Or.inr (slot_ne (t := (.array .int)) (t' := .int) (Or.inr (w_34 H)) (Or.inl (w_70 H)) (by decide) (by decide) (by decide)))) (Or.inl (Ne.symm n_pl_g))) (Or.inr (slot_ne (t := (.array .int)) (t' := .long) (Or.inr (w_34 H)) (Or.inl (w_72 H)) (by decide) (by decide) (by decide)))) (Or.inr (slot_ne (t := (.array .int)) (t' := .boolean) (Or.inr (w_34 H)) (Or.inl (w_64 H)) (by decide) (by decide) (by decide))))
  have f301 : Fld Z h291 g "com/example/plywright/plywright/games/ConnectFour" "zobrist" "[J" (.ref zb) := (Fld.other W292 (Fld.other W282 f278 (Or.inr (slot_ne (t := (.array .long)) (t' := .long) (Or.inr (w_44 H)) (Or.inl (w_72 H)) (by decide) (by decide) (by decide)))) (Or.inr (slot_ne (t := (.array .long)) (t' := .boolean) (Or.inr (w_44 H)) (Or.inl (w_64 H)) (by decide) (by decide) (by decide))))
  have f302 : Fld Z h291 g "com/example/plywright/plywright/games/ConnectFour" "lineSteps" "[I" (.ref la) := (Fld.other W292 f285 (Or.inr (slot_ne (t := (.array .int)) (t' := .boolean) (Or.inr (w_55 H)) (Or.inl (w_64 H)) (by decide) (by decide) (by decide))))
  have f303 : Fld Z h291 g "com/example/plywright/plywright/games/ConnectFour" "centreFirst" "[I" (.ref cf) := (Fld.other W292 (Fld.other W282 (Fld.other W272 (Fld.other W268 (Fld.other W262 (Fld.other W258 F8_g (Or.inl (Ne.symm n_sq_g))) (Or.inl (Ne.symm n_hs_g))) (Or.inr (slot_ne (t := (.array .int)) (t' := .int) (Or.inr (w_57 H)) (Or.inl (w_70 H)) (by decide) (by decide) (by decide)))) (Or.inl (Ne.symm n_pl_g))) (Or.inr (slot_ne (t := (.array .int)) (t' := .long) (Or.inr (w_57 H)) (Or.inl (w_72 H)) (by decide) (by decide) (by decide)))) (Or.inr (slot_ne (t := (.array .int)) (t' := .boolean) (Or.inr (w_57 H)) (Or.inl (w_64 H)) (by decide) (by decide) (by decide))))
  have f304 : Fld Z h291 g "com/example/plywright/plywright/games/ConnectFour" "plies" "I" (.int (Int32.ofNat (P + 1))) := (Fld.other W292 (Fld.other W282 (Fld.other W272 f269 (Or.inl (Ne.symm n_pl_g))) (Or.inr (slot_ne (t := .int) (t' := .long) (Or.inl (w_70 H)) (Or.inl (w_72 H)) (by decide) (by decide) (by decide)))) (Or.inr (slot_ne (t := .int) (t' := .boolean) (Or.inl (w_70 H)) (Or.inl (w_64 H)) (by decide) (by decide) (by decide))))
  have f305 : Fld Z h291 g "com/example/plywright/plywright/games/ConnectFour" "key" "J" (.long (u ^^^ u276)) := (Fld.other W292 f283 (Or.inr (slot_ne (t := .long) (t' := .boolean) (Or.inl (w_72 H)) (Or.inl (w_64 H)) (by decide) (by decide) (by decide))))
  have f306 : AV Z h291 hs .int (bm W (updf e c (Int32.ofNat (r + 1)))) := (AV.other (AV.other (AV.other (AV.other A264 W268 n_hs_g) W272 n_hs_pl) W282 n_hs_g) W292 n_hs_g)
  exact ⟨_, rfl, f294, (Exa.wr W292 f286), f295, f296, f297, f298, f299, f300, f301, f302, f303, f304, f293, f305, (AV.other f287 W292 n_sq_g), f306, (AV.other (AV.other A274 W282 n_pl_g) W292 n_pl_g), (AV.other (AV.other f279 W282 n_zb_g) W292 n_zb_g), (AV.other f288 W292 n_la_g)⟩
def own_sh (k : Int32) (x : Int64) : Int64 := x ^^^ XT.ushrL x k
def own_mix (q : Int64) : Int64 := own_sh 31 (own_sh 27 (own_sh 30 q * (-4658895280553007687)) * (-7723592293110705685))
def own_st : Nat → Int64
  | 0 => 1
  | i + 1 => own_st i + (-7046029254386353131 : Int64)
def own_num (i : Nat) : Int64 := own_mix (own_st (i + 1))
def own_fill (n i : Nat) : List Value := (List.range n).map fun j => if j < i then .long (own_num j) else .long 0
theorem own_fill_len (n i : Nat) : (own_fill n i).length = n := by simp [own_fill]
theorem own_fill_0 (n : Nat) : List.replicate n (Value.long 0) = own_fill n 0 := by
  apply List.ext_getElem?
  intro j
  rcases Nat.lt_or_ge j n with q | q
  · simp [own_fill, q]
  · simp [own_fill, q]
theorem own_fill_set (n i : Nat) (h : i < n) : (own_fill n i).set i (.long (own_num i)) = own_fill n (i + 1) := by
  apply List.ext_getElem?
  intro j
  rcases Nat.lt_or_ge j n with q | q
  · rcases Nat.lt_trichotomy j i with r | r | r
    · simp [own_fill, q, List.getElem?_set, show i ≠ j by omega, r, show j < i + 1 by omega]
    · subst r; simp [own_fill, q, List.getElem?_set]
    · simp [own_fill, q, List.getElem?_set, show i ≠ j by omega, show ¬ j < i by omega, show ¬ j < i + 1 by omega]
  · simp [own_fill, q, List.getElem?_set]
theorem own_fill_at (n i : Nat) (h : i < n) : (own_fill n n)[i]? = some (.long (own_num i)) := by simp [own_fill, h]
theorem own_fill_lm (n : Nat) : own_fill n n = lm n (fun j => if j < n then own_num j else 0) := by
  unfold own_fill lm
  apply List.map_congr_left
  intro j _
  dsimp only
  split <;> rfl
theorem d4_9 : Dc prog_14_method_2_code 9 (.iload 4) 2 11 := ⟨by decide +kernel, rfl⟩
theorem d4_11 : Dc prog_14_method_2_code 11 (.iload_n 0) 1 12 := ⟨by decide +kernel, rfl⟩
theorem d4_12 : Db prog_14_method_2_code 12 (.if_icmp .ge 53) 53 15 65 := ⟨by decide +kernel, rfl, rfl⟩
theorem d4_15 : Dc prog_14_method_2_code 15 (.lload_n 2) 1 16 := ⟨by decide +kernel, rfl⟩
theorem d4_16 : Dc prog_14_method_2_code 16 (.ldc2_w 9) 3 19 := ⟨by decide +kernel, rfl⟩
theorem w_40 {a0 : Array Value} {Z : State} (H : Wd a0 Z) : (Jvm.Cond.constantLong "com/example/plywright/plywright/core/Zobrist" (9 : Nat) (-7046029254386353131 : Int64)).before a0 Z = true := H _ (List.mem_of_getElem? (i := 40) rfl)
theorem d4_19 : Dc prog_14_method_2_code 19 (.ladd) 1 20 := ⟨by decide +kernel, rfl⟩
theorem d4_20 : Dc prog_14_method_2_code 20 (.lstore_n 2) 1 21 := ⟨by decide +kernel, rfl⟩
theorem d4_21 : Dc prog_14_method_2_code 21 (.lload_n 2) 1 22 := ⟨by decide +kernel, rfl⟩
theorem d4_22 : Dc prog_14_method_2_code 22 (.lload_n 2) 1 23 := ⟨by decide +kernel, rfl⟩
theorem d4_23 : Dc prog_14_method_2_code 23 (.bipush 30) 2 25 := ⟨by decide +kernel, rfl⟩
theorem d4_25 : Dc prog_14_method_2_code 25 (.lushr) 1 26 := ⟨by decide +kernel, rfl⟩
theorem d4_26 : Dc prog_14_method_2_code 26 (.lxor) 1 27 := ⟨by decide +kernel, rfl⟩
theorem d4_27 : Dc prog_14_method_2_code 27 (.ldc2_w 11) 3 30 := ⟨by decide +kernel, rfl⟩
theorem w_41 {a0 : Array Value} {Z : State} (H : Wd a0 Z) : (Jvm.Cond.constantLong "com/example/plywright/plywright/core/Zobrist" (11 : Nat) (-4658895280553007687 : Int64)).before a0 Z = true := H _ (List.mem_of_getElem? (i := 41) rfl)
theorem d4_30 : Dc prog_14_method_2_code 30 (.lmul) 1 31 := ⟨by decide +kernel, rfl⟩
theorem d4_31 : Dc prog_14_method_2_code 31 (.lstore 5) 2 33 := ⟨by decide +kernel, rfl⟩
theorem d4_33 : Dc prog_14_method_2_code 33 (.lload 5) 2 35 := ⟨by decide +kernel, rfl⟩
theorem d4_35 : Dc prog_14_method_2_code 35 (.lload 5) 2 37 := ⟨by decide +kernel, rfl⟩
theorem d4_37 : Dc prog_14_method_2_code 37 (.bipush 27) 2 39 := ⟨by decide +kernel, rfl⟩
theorem d4_39 : Dc prog_14_method_2_code 39 (.lushr) 1 40 := ⟨by decide +kernel, rfl⟩
theorem d4_40 : Dc prog_14_method_2_code 40 (.lxor) 1 41 := ⟨by decide +kernel, rfl⟩
theorem d4_41 : Dc prog_14_method_2_code 41 (.ldc2_w 13) 3 44 := ⟨by decide +kernel, rfl⟩
theorem w_42 {a0 : Array Value} {Z : State} (H : Wd a0 Z) : (Jvm.Cond.constantLong "com/example/plywright/plywright/core/Zobrist" (13 : Nat) (-7723592293110705685 : Int64)).before a0 Z = true := H _ (List.mem_of_getElem? (i := 42) rfl)
theorem d4_44 : Dc prog_14_method_2_code 44 (.lmul) 1 45 := ⟨by decide +kernel, rfl⟩
theorem d4_45 : Dc prog_14_method_2_code 45 (.lstore 5) 2 47 := ⟨by decide +kernel, rfl⟩
theorem d4_47 : Dc prog_14_method_2_code 47 (.aload_n 1) 1 48 := ⟨by decide +kernel, rfl⟩
theorem d4_48 : Dc prog_14_method_2_code 48 (.iload 4) 2 50 := ⟨by decide +kernel, rfl⟩
theorem d4_50 : Dc prog_14_method_2_code 50 (.lload 5) 2 52 := ⟨by decide +kernel, rfl⟩
theorem d4_52 : Dc prog_14_method_2_code 52 (.lload 5) 2 54 := ⟨by decide +kernel, rfl⟩
theorem d4_54 : Dc prog_14_method_2_code 54 (.bipush 31) 2 56 := ⟨by decide +kernel, rfl⟩
theorem d4_56 : Dc prog_14_method_2_code 56 (.lushr) 1 57 := ⟨by decide +kernel, rfl⟩
theorem d4_57 : Dc prog_14_method_2_code 57 (.lxor) 1 58 := ⟨by decide +kernel, rfl⟩
theorem d4_58 : Dc prog_14_method_2_code 58 (.lastore) 1 59 := ⟨by decide +kernel, rfl⟩
theorem d4_59 : Dc prog_14_method_2_code 59 (.iinc 4 1) 3 62 := ⟨by decide +kernel, rfl⟩
theorem d4_62 : Db prog_14_method_2_code 62 (.goto (-53)) (-53) 65 9 := ⟨by decide +kernel, rfl, rfl⟩
set_option maxRecDepth 65536 in
set_option maxHeartbeats 40000000 in
theorem loop9 {κ : Cx} {l : Launch} {Z : State} {a0 : Array Value} {n0 : Nat} (H : Wd a0 Z) (B : Ok κ l Z a0 n0 ({ frames := 0, cells := 1, slots := 339, locals := 0 } : Room) "com/example/plywright/plywright/core/Zobrist" "numbers" prog_14_method_2_code 7 (some (.array .long))) {Q : Option Value → Heap → Prop} {k nn n : Nat} {c : Int32} {b : Addr} (hn : n ≤ 339) (hc : c.toInt = (n : Int)) (gb : n0 ≤ b) : ∀ (m i : Nat), i + m = n → ∀ (iv : Int32), iv.toInt = (i : Int) → ∀ (t : Int64), t = own_st i → ∀ (s5 s6 : Slot), (∀ (z : Int64) (t' : Int64) (i' : Int32), storeLocals #[.val (.int c), .val (.ref b), .val (.long t'), .second, .val (.int i'), s5, s6] 5 (.long z) = some #[.val (.int c), .val (.ref b), .val (.long t'), .second, .val (.int i'), .val (.long z), .second]) → ∀ (h : Heap), AV Z h b .long (own_fill n i) →
    (∀ h' t' iv' s5' s6', Keep h h' [b] → AV Z h' b .long (own_fill n n) → Go κ Q h' k nn 65 #[.val (.int c), .val (.ref b), .val (.long t'), .second, .val (.int iv'), s5', s6'] []) → Go κ Q h k nn 9 #[.val (.int c), .val (.ref b), .val (.long t), .second, .val (.int iv), s5, s6] [] := by
  intro m
  induction m with
  | zero =>
    intro i him iv hi t ht s5 s6 hs h A g
    refine go_iload B d4_9 rfl ?_
    refine go_iload_n B d4_11 rfl ?_
    refine go_icmpge B d4_12 (fun c12 => ?_) (fun c12 => ?_)
    rotate_left
    · exact absurd c12 (i_nlt hi hc (by omega))
    obtain rfl : i = n := by omega
    exact g h t iv s5 s6 (Keep.refl _ _) A
  | succ m ih =>
    intro i him iv hi t ht s5 s6 hs h A g
    refine go_iload B d4_9 rfl ?_
    refine go_iload_n B d4_11 rfl ?_
    refine go_icmpge B d4_12 (fun c12 => ?_) (fun c12 => ?_)
    · exact absurd (i_lt hi hc (by omega)) c12
    refine go_lload_n B d4_15 rfl ?_
    refine go_ldc2J B d4_16 (w_40 H) ?_
    refine go_ladd B d4_19 ?_
    generalize hv307 : (t + (-7046029254386353131 : Int64)) = v307
    refine go_lstore_n B #[.val (.int c), .val (.ref b), .val (.long v307), .second, .val (.int iv), s5, s6] d4_20 rfl ?_
    refine go_lload_n B d4_21 rfl ?_
    refine go_lload_n B d4_22 rfl ?_
    refine go_bipush B (x := (30 : Int32)) d4_23 (by decide) ?_
    refine go_lushr B d4_25 ?_
    refine go_lxor B d4_26 ?_
    refine go_ldc2J B d4_27 (w_41 H) ?_
    refine go_lmul B d4_30 ?_
    generalize hv308 : ((v307 ^^^ (XT.ushrL v307 (30 : Int32))) * (-4658895280553007687 : Int64)) = v308
    refine go_lstore B #[.val (.int c), .val (.ref b), .val (.long v307), .second, .val (.int iv), .val (.long v308), .second] d4_31 (hs _ _ _) ?_
    refine go_lload B d4_33 rfl ?_
    refine go_lload B d4_35 rfl ?_
    refine go_bipush B (x := (27 : Int32)) d4_37 (by decide) ?_
    refine go_lushr B d4_39 ?_
    refine go_lxor B d4_40 ?_
    refine go_ldc2J B d4_41 (w_42 H) ?_
    refine go_lmul B d4_44 ?_
    generalize hv309 : ((v308 ^^^ (XT.ushrL v308 (27 : Int32))) * (-7723592293110705685 : Int64)) = v309
    refine go_lstore B #[.val (.int c), .val (.ref b), .val (.long v307), .second, .val (.int iv), .val (.long v309), .second] d4_45 rfl ?_
    refine go_aload_n B d4_47 rfl rfl ?_
    refine go_iload B d4_48 rfl ?_
    refine go_lload B d4_50 rfl ?_
    refine go_lload B d4_52 rfl ?_
    refine go_bipush B (x := (31 : Int32)) d4_54 (by decide) ?_
    refine go_lushr B d4_56 ?_
    refine go_lxor B d4_57 ?_
    have hnum : (v309 ^^^ (XT.ushrL v309 (31 : Int32))) = own_num i := by subst ht hv307 hv308 hv309; rfl
    rw [hnum]
    refine go_lastore B (i := i) d4_58 A hi (by rw [own_fill_len]; omega) gb ?_
    intro h310 W311 A312
    have A313 : AV Z h310 b .long (own_fill n (i + 1)) := (own_fill_set n i (by omega) ▸ A312)
    refine go_iinc B #[.val (.int c), .val (.ref b), .val (.long v307), .second, .val (.int (iv + (1 : Int32))), .val (.long v309), .second] d4_59 (z := (1 : Int32)) rfl rfl rfl ?_
    refine go_goto B d4_62 ?_
    refine ih (i + 1) (by omega) _ (by rw [i_add hi (show (1 : Int32).toInt = 1 from rfl) (by omega) (by omega)]; omega) _ (by subst ht hv307; rfl) _ _ (fun _ _ _ => rfl) h310 A313 ?_
    intro h' t' iv' s5' s6' K' A'
    exact g h' t' iv' s5' s6' ((Keep.of_wr W311).trans K' (allS (Or.inl (by simp)) all0)) A'
theorem pn_com_example_plywright_plywright_core_Zobrist : plainName "com/example/plywright/plywright/core/Zobrist" = true := by first | (simp [plainName, overriddenIn]; done) | decide +kernel
theorem d4_0 : Dc prog_14_method_2_code 0 (.iload_n 0) 1 1 := ⟨by decide +kernel, rfl⟩
theorem d4_1 : Dc prog_14_method_2_code 1 (.newarray .long) 2 3 := ⟨by decide +kernel, rfl⟩
theorem w_39 {a0 : Array Value} {Z : State} (H : Wd a0 Z) : (Jvm.Cond.arrayClass Jvm.ClassFile.FieldType.long).before a0 Z = true := H _ (List.mem_of_getElem? (i := 39) rfl)
theorem d4_3 : Dc prog_14_method_2_code 3 (.astore_n 1) 1 4 := ⟨by decide +kernel, rfl⟩
theorem d4_4 : Dc prog_14_method_2_code 4 (.lconst 1) 1 5 := ⟨by decide +kernel, rfl⟩
theorem d4_5 : Dc prog_14_method_2_code 5 (.lstore_n 2) 1 6 := ⟨by decide +kernel, rfl⟩
theorem d4_6 : Dc prog_14_method_2_code 6 (.iconst 0) 1 7 := ⟨by decide +kernel, rfl⟩
theorem d4_7 : Dc prog_14_method_2_code 7 (.istore 4) 2 9 := ⟨by decide +kernel, rfl⟩
theorem d4_65 : Dc prog_14_method_2_code 65 (.aload_n 1) 1 66 := ⟨by decide +kernel, rfl⟩
theorem d4_66 : Dc prog_14_method_2_code 66 (.areturn) 1 67 := ⟨by decide +kernel, rfl⟩
set_option maxRecDepth 65536 in
set_option maxHeartbeats 40000000 in
theorem rmN {l : Launch} {Z : State} {a0 : Array Value} {n0 : Nat} (H : Wd a0 Z) (c : Int32) (n : Nat) (h0 : Heap) (Z0 : n0 ≤ h0.size) (hn : n ≤ 339) (hc : c.toInt = (n : Int)) :
    Ct l Z n0 (⟨"com/example/plywright/plywright/core/Zobrist", "numbers", "(I)[J"⟩ : MethodName) prog_14_method_2_code 7 (some (.array .long)) [] ({ frames := 0, cells := 1, slots := 339, locals := 0 } : Room) #[(.int c)] h0 (fun v h => ∃ b, v = some (.ref b) ∧ h0.size ≤ b ∧ Ext h0 h ∧ AV Z h b .long (lm n (fun j => if j < n then own_num j else 0))) := by
  refine Ct.of (a0 := a0) (L0 := #[.val (.int c), .unset, .unset, .unset, .unset, .unset, .unset]) (plainFor_of_name pn_com_example_plywright_plywright_core_Zobrist) (fun m => by first | (simp [entryFrame, mkF, argsToLocals, Value.category]; done) | rfl) ?_
  intro κ B0
  have B : Ok κ l Z a0 n0 ({ frames := 0, cells := 1, slots := 339, locals := 0 } : Room) "com/example/plywright/plywright/core/Zobrist" "numbers" prog_14_method_2_code 7 (some (.array .long)) := B0
  refine go_iload_n B d4_0 rfl ?_
  refine go_newarray B (i := n) (cap := 339) d4_1 (w_39 H) hc hn (by decide) (by decide) (by decide) ?_
  intro h314 a315 hba315 Ea315 Aa315 Ca315
  have ge_a315 : n0 ≤ a315 := by have q1 := Z0; omega
  refine go_astore_n B #[.val (.int c), .val (.ref a315), .unset, .unset, .unset, .unset, .unset] d4_3 rfl rfl ?_
  refine go_lconst B (u := (1 : Int64)) d4_4 rfl ?_
  refine go_lstore_n B #[.val (.int c), .val (.ref a315), .val (.long (1 : Int64)), .second, .unset, .unset, .unset] d4_5 rfl ?_
  refine go_iconst B (x := (0 : Int32)) d4_6 rfl ?_
  refine go_istore B #[.val (.int c), .val (.ref a315), .val (.long (1 : Int64)), .second, .val (.int (0 : Int32)), .unset, .unset] d4_7 rfl ?_
  refine loop9 H B hn hc ge_a315 n 0 (by omega) _ rfl _ rfl _ _ (fun _ _ _ => rfl) h314 (own_fill_0 n ▸ Aa315) ?_
  intro h' t' iv' s5' s6' K' A'
  refine go_aload_n B d4_65 rfl rfl ?_
  refine go_areturn B d4_66 rfl rfl rfl (by decide) (by decide) ?_
  exact ⟨a315, rfl, by omega, ⟨Nat.le_trans Ea315.1 K'.1, fun x cc q => K'.2.1 x cc (Ea315.2 x cc q) (ninS (Nat.ne_of_lt (by have := (Array.getElem?_eq_some_iff.mp q).1; omega)) nin0)⟩, own_fill_lm n ▸ A'⟩
def own_abs (x : Int32) : Int32 := if x < 0 then -x else x
def own_max (x y : Int32) : Int32 := if x < y then y else x
def own_min (x y : Int32) : Int32 := if y < x then y else x
def own_rank (c w : Int32) : Int32 := if w - 1 < 2 * c then own_abs (2 * c - (w - 1)) else own_max (own_abs (2 * c - (w - 1)) - 1) 0
theorem d15_0 : Dc jdk_29_method_59_code 0 (.iload_n 0) 1 1 := ⟨by decide +kernel, rfl⟩
theorem d15_1 : Db jdk_29_method_59_code 1 (.ifCond .ge 8) 8 4 9 := ⟨by decide +kernel, rfl, rfl⟩
theorem d15_9 : Dc jdk_29_method_59_code 9 (.iload_n 0) 1 10 := ⟨by decide +kernel, rfl⟩
theorem d15_10 : Dc jdk_29_method_59_code 10 (.ireturn) 1 11 := ⟨by decide +kernel, rfl⟩
theorem d15_4 : Dc jdk_29_method_59_code 4 (.iload_n 0) 1 5 := ⟨by decide +kernel, rfl⟩
theorem d15_5 : Dc jdk_29_method_59_code 5 (.ineg) 1 6 := ⟨by decide +kernel, rfl⟩
theorem d15_6 : Db jdk_29_method_59_code 6 (.goto 4) 4 9 10 := ⟨by decide +kernel, rfl, rfl⟩
set_option maxRecDepth 65536 in
set_option maxHeartbeats 40000000 in
theorem rmAbs {l : Launch} {Z : State} {a0 : Array Value} {n0 : Nat} (H : Wd a0 Z) (x : Int32) (h0 : Heap) (Z0 : n0 ≤ h0.size) :
    Ct l Z n0 (⟨"java/lang/Math", "abs", "(I)I"⟩ : MethodName) jdk_29_method_59_code 1 (some .int) [] ({ frames := 0, cells := 0, slots := 0, locals := 0 } : Room) #[(.int x)] h0 (fun v h => v = some (.int (own_abs x)) ∧ h0 = h) := by
  refine Ct.of (a0 := a0) (L0 := #[.val (.int x)]) (by decide +kernel) (fun m => by first | (simp [entryFrame, mkF, argsToLocals, Value.category]; done) | rfl) ?_
  intro κ B0
  have B : Ok κ l Z a0 n0 ({ frames := 0, cells := 0, slots := 0, locals := 0 } : Room) "java/lang/Math" "abs" jdk_29_method_59_code 1 (some .int) := B0
  refine go_iload_n B d15_0 rfl ?_
  refine go_ifge B d15_1 (fun c1 => ?_) (fun c1 => ?_)
  · skip
    refine go_iload_n B d15_9 rfl ?_
    refine go_ireturn B d15_10 (by decide) (by decide) ?_
    exact ⟨by simp [own_abs, c1], rfl⟩
  · skip
    refine go_iload_n B d15_4 rfl ?_
    refine go_ineg B d15_5 ?_
    refine go_goto B d15_6 ?_
    refine go_ireturn B d15_10 (by decide) (by decide) ?_
    exact ⟨by simp [own_abs, c1], rfl⟩
theorem d16_0 : Dc jdk_29_method_65_code 0 (.iload_n 0) 1 1 := ⟨by decide +kernel, rfl⟩
theorem d16_1 : Dc jdk_29_method_65_code 1 (.iload_n 1) 1 2 := ⟨by decide +kernel, rfl⟩
theorem d16_2 : Db jdk_29_method_65_code 2 (.if_icmp .lt 7) 7 5 9 := ⟨by decide +kernel, rfl, rfl⟩
theorem d16_9 : Dc jdk_29_method_65_code 9 (.iload_n 1) 1 10 := ⟨by decide +kernel, rfl⟩
theorem d16_10 : Dc jdk_29_method_65_code 10 (.ireturn) 1 11 := ⟨by decide +kernel, rfl⟩
theorem d16_5 : Dc jdk_29_method_65_code 5 (.iload_n 0) 1 6 := ⟨by decide +kernel, rfl⟩
theorem d16_6 : Db jdk_29_method_65_code 6 (.goto 4) 4 9 10 := ⟨by decide +kernel, rfl, rfl⟩
set_option maxRecDepth 65536 in
set_option maxHeartbeats 40000000 in
theorem rmMax {l : Launch} {Z : State} {a0 : Array Value} {n0 : Nat} (H : Wd a0 Z) (x y : Int32) (h0 : Heap) (Z0 : n0 ≤ h0.size) :
    Ct l Z n0 (⟨"java/lang/Math", "max", "(II)I"⟩ : MethodName) jdk_29_method_65_code 2 (some .int) [] ({ frames := 0, cells := 0, slots := 0, locals := 0 } : Room) #[(.int x), (.int y)] h0 (fun v h => v = some (.int (own_max x y)) ∧ h0 = h) := by
  refine Ct.of (a0 := a0) (L0 := #[.val (.int x), .val (.int y)]) (by decide +kernel) (fun m => by first | (simp [entryFrame, mkF, argsToLocals, Value.category]; done) | rfl) ?_
  intro κ B0
  have B : Ok κ l Z a0 n0 ({ frames := 0, cells := 0, slots := 0, locals := 0 } : Room) "java/lang/Math" "max" jdk_29_method_65_code 2 (some .int) := B0
  refine go_iload_n B d16_0 rfl ?_
  refine go_iload_n B d16_1 rfl ?_
  refine go_icmplt B d16_2 (fun c2 => ?_) (fun c2 => ?_)
  · skip
    refine go_iload_n B d16_9 rfl ?_
    refine go_ireturn B d16_10 (by decide) (by decide) ?_
    exact ⟨by simp [own_max, c2], rfl⟩
  · skip
    refine go_iload_n B d16_5 rfl ?_
    refine go_goto B d16_6 ?_
    refine go_ireturn B d16_10 (by decide) (by decide) ?_
    exact ⟨by simp [own_max, c2], rfl⟩
theorem d12_0 : Dc jdk_29_method_69_code 0 (.iload_n 0) 1 1 := ⟨by decide +kernel, rfl⟩
theorem d12_1 : Dc jdk_29_method_69_code 1 (.iload_n 1) 1 2 := ⟨by decide +kernel, rfl⟩
theorem d12_2 : Db jdk_29_method_69_code 2 (.if_icmp .gt 7) 7 5 9 := ⟨by decide +kernel, rfl, rfl⟩
theorem d12_9 : Dc jdk_29_method_69_code 9 (.iload_n 1) 1 10 := ⟨by decide +kernel, rfl⟩
theorem d12_10 : Dc jdk_29_method_69_code 10 (.ireturn) 1 11 := ⟨by decide +kernel, rfl⟩
theorem d12_5 : Dc jdk_29_method_69_code 5 (.iload_n 0) 1 6 := ⟨by decide +kernel, rfl⟩
theorem d12_6 : Db jdk_29_method_69_code 6 (.goto 4) 4 9 10 := ⟨by decide +kernel, rfl, rfl⟩
set_option maxRecDepth 65536 in
set_option maxHeartbeats 40000000 in
theorem rmMin {l : Launch} {Z : State} {a0 : Array Value} {n0 : Nat} (H : Wd a0 Z) (x y : Int32) (h0 : Heap) (Z0 : n0 ≤ h0.size) :
    Ct l Z n0 (⟨"java/lang/Math", "min", "(II)I"⟩ : MethodName) jdk_29_method_69_code 2 (some .int) [] ({ frames := 0, cells := 0, slots := 0, locals := 0 } : Room) #[(.int x), (.int y)] h0 (fun v h => v = some (.int (own_min x y)) ∧ h0 = h) := by
  refine Ct.of (a0 := a0) (L0 := #[.val (.int x), .val (.int y)]) (by decide +kernel) (fun m => by first | (simp [entryFrame, mkF, argsToLocals, Value.category]; done) | rfl) ?_
  intro κ B0
  have B : Ok κ l Z a0 n0 ({ frames := 0, cells := 0, slots := 0, locals := 0 } : Room) "java/lang/Math" "min" jdk_29_method_69_code 2 (some .int) := B0
  refine go_iload_n B d12_0 rfl ?_
  refine go_iload_n B d12_1 rfl ?_
  refine go_icmpgt B d12_2 (fun c2 => ?_) (fun c2 => ?_)
  · skip
    refine go_iload_n B d12_9 rfl ?_
    refine go_ireturn B d12_10 (by decide) (by decide) ?_
    exact ⟨by simp [own_min, c2], rfl⟩
  · skip
    refine go_iload_n B d12_5 rfl ?_
    refine go_goto B d12_6 ?_
    refine go_ireturn B d12_10 (by decide) (by decide) ?_
    exact ⟨by simp [own_min, c2], rfl⟩
theorem pn_com_example_plywright_plywright_games_ConnectFourMovesPinLaw : plainName "com/example/plywright/plywright/games/ConnectFourMovesPinLaw" = true := by first | (simp [plainName, overriddenIn]; done) | decide +kernel
theorem d14_0 : Dc method_4_code 0 (.iconst 2) 1 1 := ⟨by decide +kernel, rfl⟩
theorem d14_1 : Dc method_4_code 1 (.iload_n 0) 1 2 := ⟨by decide +kernel, rfl⟩
theorem d14_2 : Dc method_4_code 2 (.imul) 1 3 := ⟨by decide +kernel, rfl⟩
theorem d14_3 : Dc method_4_code 3 (.iload_n 1) 1 4 := ⟨by decide +kernel, rfl⟩
theorem d14_4 : Dc method_4_code 4 (.iconst 1) 1 5 := ⟨by decide +kernel, rfl⟩
theorem d14_5 : Dc method_4_code 5 (.isub) 1 6 := ⟨by decide +kernel, rfl⟩
theorem d14_6 : Dc method_4_code 6 (.isub) 1 7 := ⟨by decide +kernel, rfl⟩
theorem d14_7 : Dc method_4_code 7 (.invokestatic 36) 3 10 := ⟨by decide +kernel, rfl⟩
theorem w_103 {a0 : Array Value} {Z : State} (H : Wd a0 Z) : (Jvm.Cond.code ({ cls := "java/lang/Math", name := "abs", desc := "(I)I" } : Jvm.MethodName) jdk_29_method_59_code (1 : Nat) (Option.some Jvm.ClassFile.FieldType.int)).before a0 Z = true := H _ (List.mem_of_getElem? (i := 103) rfl)
theorem w_92 {a0 : Array Value} {Z : State} (H : Wd a0 Z) : (Jvm.Cond.initialized "java/lang/Math").before a0 Z = true := H _ (List.mem_of_getElem? (i := 92) rfl)
theorem pd_5 : parseMethodDescriptor "(I)I" = some ⟨[.int], some .int⟩ := by decide +kernel
theorem w_101 {a0 : Array Value} {Z : State} (H : Wd a0 Z) : (Jvm.Cond.methodLink "com/example/plywright/plywright/games/ConnectFourMovesPinLaw" (36 : Nat) ({ cls := "java/lang/Math", name := "abs", desc := "(I)I" } : Jvm.MethodName)).before a0 Z = true := H _ (List.mem_of_getElem? (i := 101) rfl)
theorem w_102 {a0 : Array Value} {Z : State} (H : Wd a0 Z) : (Jvm.Cond.static ({ cls := "java/lang/Math", name := "abs", desc := "(I)I" } : Jvm.MethodName)).before a0 Z = true := H _ (List.mem_of_getElem? (i := 102) rfl)
theorem d14_10 : Dc method_4_code 10 (.istore_n 2) 1 11 := ⟨by decide +kernel, rfl⟩
theorem d14_11 : Dc method_4_code 11 (.iconst 2) 1 12 := ⟨by decide +kernel, rfl⟩
theorem d14_12 : Dc method_4_code 12 (.iload_n 0) 1 13 := ⟨by decide +kernel, rfl⟩
theorem d14_13 : Dc method_4_code 13 (.imul) 1 14 := ⟨by decide +kernel, rfl⟩
theorem d14_14 : Dc method_4_code 14 (.iload_n 1) 1 15 := ⟨by decide +kernel, rfl⟩
theorem d14_15 : Dc method_4_code 15 (.iconst 1) 1 16 := ⟨by decide +kernel, rfl⟩
theorem d14_16 : Dc method_4_code 16 (.isub) 1 17 := ⟨by decide +kernel, rfl⟩
theorem d14_17 : Db method_4_code 17 (.if_icmp .gt 11) 11 20 28 := ⟨by decide +kernel, rfl, rfl⟩
theorem d14_28 : Dc method_4_code 28 (.iload_n 2) 1 29 := ⟨by decide +kernel, rfl⟩
theorem d14_29 : Dc method_4_code 29 (.ireturn) 1 30 := ⟨by decide +kernel, rfl⟩
theorem d14_20 : Dc method_4_code 20 (.iload_n 2) 1 21 := ⟨by decide +kernel, rfl⟩
theorem d14_21 : Dc method_4_code 21 (.iconst 1) 1 22 := ⟨by decide +kernel, rfl⟩
theorem d14_22 : Dc method_4_code 22 (.isub) 1 23 := ⟨by decide +kernel, rfl⟩
theorem d14_23 : Dc method_4_code 23 (.iconst 0) 1 24 := ⟨by decide +kernel, rfl⟩
theorem d14_24 : Dc method_4_code 24 (.invokestatic 40) 3 27 := ⟨by decide +kernel, rfl⟩
theorem w_106 {a0 : Array Value} {Z : State} (H : Wd a0 Z) : (Jvm.Cond.code ({ cls := "java/lang/Math", name := "max", desc := "(II)I" } : Jvm.MethodName) jdk_29_method_65_code (2 : Nat) (Option.some Jvm.ClassFile.FieldType.int)).before a0 Z = true := H _ (List.mem_of_getElem? (i := 106) rfl)
theorem w_104 {a0 : Array Value} {Z : State} (H : Wd a0 Z) : (Jvm.Cond.methodLink "com/example/plywright/plywright/games/ConnectFourMovesPinLaw" (40 : Nat) ({ cls := "java/lang/Math", name := "max", desc := "(II)I" } : Jvm.MethodName)).before a0 Z = true := H _ (List.mem_of_getElem? (i := 104) rfl)
theorem w_105 {a0 : Array Value} {Z : State} (H : Wd a0 Z) : (Jvm.Cond.static ({ cls := "java/lang/Math", name := "max", desc := "(II)I" } : Jvm.MethodName)).before a0 Z = true := H _ (List.mem_of_getElem? (i := 105) rfl)
theorem d14_27 : Dc method_4_code 27 (.ireturn) 1 28 := ⟨by decide +kernel, rfl⟩
set_option maxRecDepth 65536 in
set_option maxHeartbeats 40000000 in
theorem rmRk {l : Launch} {Z : State} {a0 : Array Value} {n0 : Nat} (H : Wd a0 Z) (c w : Int32) (h0 : Heap) (Z0 : n0 ≤ h0.size) :
    Ct l Z n0 (⟨"com/example/plywright/plywright/games/ConnectFourMovesPinLaw", "rank", "(II)I"⟩ : MethodName) method_4_code 3 (some .int) [] ({ frames := 1, cells := 0, slots := 0, locals := 13 } : Room) #[(.int c), (.int w)] h0 (fun v h => v = some (.int (own_rank c w)) ∧ h0 = h) := by
  refine Ct.of (a0 := a0) (L0 := #[.val (.int c), .val (.int w), .unset]) (plainFor_of_name pn_com_example_plywright_plywright_games_ConnectFourMovesPinLaw) (fun m => by first | (simp [entryFrame, mkF, argsToLocals, Value.category]; done) | rfl) ?_
  intro κ B0
  have B : Ok κ l Z a0 n0 ({ frames := 1, cells := 0, slots := 0, locals := 13 } : Room) "com/example/plywright/plywright/games/ConnectFourMovesPinLaw" "rank" method_4_code 3 (some .int) := B0
  refine go_iconst B (x := (2 : Int32)) d14_0 rfl ?_
  refine go_iload_n B d14_1 rfl ?_
  refine go_imul B d14_2 ?_
  refine go_iload_n B d14_3 rfl ?_
  refine go_iconst B (x := (1 : Int32)) d14_4 rfl ?_
  refine go_isub B d14_5 ?_
  refine go_isub B d14_6 ?_
  refine go_static B (W := 0) (argsL := [(.int (((2 : Int32) * c) - (w - (1 : Int32))))]) (st := []) d14_7 (w_101 H) (w_102 H) (w_92 H) (w_103 H) (by decide) (rmAbs H (((2 : Int32) * c) - (w - (1 : Int32))) h0 Z0) pd_5 rfl rfl rfl rfl (by decide) (by decide) (by decide) (by decide) ?_
  rintro _ h316 ⟨rfl, rfl⟩
  show Go κ _ h0 _ _ 10 #[.val (.int c), .val (.int w), .unset] [(.int (own_abs (((2 : Int32) * c) - (w - (1 : Int32)))))]
  refine go_istore_n B #[.val (.int c), .val (.int w), .val (.int (own_abs (((2 : Int32) * c) - (w - (1 : Int32)))))] d14_10 rfl ?_
  refine go_iconst B (x := (2 : Int32)) d14_11 rfl ?_
  refine go_iload_n B d14_12 rfl ?_
  refine go_imul B d14_13 ?_
  refine go_iload_n B d14_14 rfl ?_
  refine go_iconst B (x := (1 : Int32)) d14_15 rfl ?_
  refine go_isub B d14_16 ?_
  refine go_icmpgt B d14_17 (fun c17 => ?_) (fun c17 => ?_)
  · skip
    refine go_iload_n B d14_28 rfl ?_
    refine go_ireturn B d14_29 (by decide) (by decide) ?_
    exact ⟨by simp [own_rank, c17], rfl⟩
  · skip
    refine go_iload_n B d14_20 rfl ?_
    refine go_iconst B (x := (1 : Int32)) d14_21 rfl ?_
    refine go_isub B d14_22 ?_
    refine go_iconst B (x := (0 : Int32)) d14_23 rfl ?_
    refine go_static B (W := 0) (argsL := [(.int ((own_abs (((2 : Int32) * c) - (w - (1 : Int32)))) - (1 : Int32))), (.int (0 : Int32))]) (st := []) d14_24 (w_104 H) (w_105 H) (w_92 H) (w_106 H) (by decide) (rmMax H ((own_abs (((2 : Int32) * c) - (w - (1 : Int32)))) - (1 : Int32)) (0 : Int32) h0 Z0) pd_1 rfl rfl rfl rfl (by decide) (by decide) (by decide) (by decide) ?_
    rintro _ h317 ⟨rfl, rfl⟩
    show Go κ _ h0 _ _ 27 #[.val (.int c), .val (.int w), .val (.int (own_abs (((2 : Int32) * c) - (w - (1 : Int32)))))] [(.int (own_max ((own_abs (((2 : Int32) * c) - (w - (1 : Int32)))) - (1 : Int32)) (0 : Int32)))]
    refine go_ireturn B d14_27 (by decide) (by decide) ?_
    exact ⟨by simp [own_rank, c17], rfl⟩
theorem d13_0 : Dc method_3_code 0 (.iload_n 1) 1 1 := ⟨by decide +kernel, rfl⟩
theorem d13_1 : Dc method_3_code 1 (.aload_n 0) 1 2 := ⟨by decide +kernel, rfl⟩
theorem d13_2 : Dc method_3_code 2 (.arraylength) 1 3 := ⟨by decide +kernel, rfl⟩
theorem d13_3 : Db method_3_code 3 (.if_icmp .lt 5) 5 6 8 := ⟨by decide +kernel, rfl, rfl⟩
theorem d13_8 : Dc method_3_code 8 (.aload_n 0) 1 9 := ⟨by decide +kernel, rfl⟩
theorem d13_9 : Dc method_3_code 9 (.iload_n 1) 1 10 := ⟨by decide +kernel, rfl⟩
theorem d13_10 : Dc method_3_code 10 (.iaload) 1 11 := ⟨by decide +kernel, rfl⟩
theorem d13_11 : Dc method_3_code 11 (.istore 7) 2 13 := ⟨by decide +kernel, rfl⟩
theorem d13_13 : Dc method_3_code 13 (.iload 7) 2 15 := ⟨by decide +kernel, rfl⟩
theorem d13_15 : Db method_3_code 15 (.ifCond .lt 9) 9 18 24 := ⟨by decide +kernel, rfl, rfl⟩
theorem d13_18 : Dc method_3_code 18 (.iload 7) 2 20 := ⟨by decide +kernel, rfl⟩
theorem d13_20 : Dc method_3_code 20 (.iload_n 2) 1 21 := ⟨by decide +kernel, rfl⟩
theorem d13_21 : Db method_3_code 21 (.if_icmp .lt 5) 5 24 26 := ⟨by decide +kernel, rfl, rfl⟩
theorem d13_26 : Dc method_3_code 26 (.iload 5) 2 28 := ⟨by decide +kernel, rfl⟩
theorem d13_28 : Db method_3_code 28 (.ifCond .eq 9) 9 31 37 := ⟨by decide +kernel, rfl, rfl⟩
theorem d13_37 : Dc method_3_code 37 (.iload 6) 2 39 := ⟨by decide +kernel, rfl⟩
theorem d13_39 : Db method_3_code 39 (.ifCond .eq 12) 12 42 51 := ⟨by decide +kernel, rfl, rfl⟩
theorem d13_51 : Dc method_3_code 51 (.iload_n 1) 1 52 := ⟨by decide +kernel, rfl⟩
theorem d13_52 : Db method_3_code 52 (.ifCond .le 23) 23 55 75 := ⟨by decide +kernel, rfl, rfl⟩
theorem d13_75 : Dc method_3_code 75 (.iconst 1) 1 76 := ⟨by decide +kernel, rfl⟩
theorem d13_76 : Dc method_3_code 76 (.ireturn) 1 77 := ⟨by decide +kernel, rfl⟩
theorem d13_55 : Dc method_3_code 55 (.aload_n 0) 1 56 := ⟨by decide +kernel, rfl⟩
theorem d13_56 : Dc method_3_code 56 (.iload_n 1) 1 57 := ⟨by decide +kernel, rfl⟩
theorem d13_57 : Dc method_3_code 57 (.iconst 1) 1 58 := ⟨by decide +kernel, rfl⟩
theorem d13_58 : Dc method_3_code 58 (.isub) 1 59 := ⟨by decide +kernel, rfl⟩
theorem d13_59 : Dc method_3_code 59 (.iaload) 1 60 := ⟨by decide +kernel, rfl⟩
theorem d13_60 : Dc method_3_code 60 (.iload_n 2) 1 61 := ⟨by decide +kernel, rfl⟩
theorem d13_61 : Dc method_3_code 61 (.invokestatic 33) 3 64 := ⟨by decide +kernel, rfl⟩
theorem w_100 {a0 : Array Value} {Z : State} (H : Wd a0 Z) : (Jvm.Cond.code ({ cls := "com/example/plywright/plywright/games/ConnectFourMovesPinLaw", name := "rank", desc := "(II)I" } : Jvm.MethodName) method_4_code (3 : Nat) (Option.some Jvm.ClassFile.FieldType.int)).before a0 Z = true := H _ (List.mem_of_getElem? (i := 100) rfl)
theorem w_96 {a0 : Array Value} {Z : State} (H : Wd a0 Z) : (Jvm.Cond.initialized "com/example/plywright/plywright/games/ConnectFourMovesPinLaw").before a0 Z = true := H _ (List.mem_of_getElem? (i := 96) rfl)
theorem w_98 {a0 : Array Value} {Z : State} (H : Wd a0 Z) : (Jvm.Cond.methodLink "com/example/plywright/plywright/games/ConnectFourMovesPinLaw" (33 : Nat) ({ cls := "com/example/plywright/plywright/games/ConnectFourMovesPinLaw", name := "rank", desc := "(II)I" } : Jvm.MethodName)).before a0 Z = true := H _ (List.mem_of_getElem? (i := 98) rfl)
theorem w_99 {a0 : Array Value} {Z : State} (H : Wd a0 Z) : (Jvm.Cond.static ({ cls := "com/example/plywright/plywright/games/ConnectFourMovesPinLaw", name := "rank", desc := "(II)I" } : Jvm.MethodName)).before a0 Z = true := H _ (List.mem_of_getElem? (i := 99) rfl)
theorem d13_64 : Dc method_3_code 64 (.iload 7) 2 66 := ⟨by decide +kernel, rfl⟩
theorem d13_66 : Dc method_3_code 66 (.iload_n 2) 1 67 := ⟨by decide +kernel, rfl⟩
theorem d13_67 : Dc method_3_code 67 (.invokestatic 33) 3 70 := ⟨by decide +kernel, rfl⟩
theorem d13_70 : Db method_3_code 70 (.if_icmp .lt 5) 5 73 75 := ⟨by decide +kernel, rfl, rfl⟩
theorem d13_42 : Dc method_3_code 42 (.iload 7) 2 44 := ⟨by decide +kernel, rfl⟩
theorem d13_44 : Dc method_3_code 44 (.iload 4) 2 46 := ⟨by decide +kernel, rfl⟩
theorem d13_46 : Db method_3_code 46 (.if_icmp .ne 5) 5 49 51 := ⟨by decide +kernel, rfl, rfl⟩
theorem d13_31 : Dc method_3_code 31 (.iload 7) 2 33 := ⟨by decide +kernel, rfl⟩
theorem d13_33 : Dc method_3_code 33 (.iload_n 3) 1 34 := ⟨by decide +kernel, rfl⟩
theorem d13_34 : Db method_3_code 34 (.if_icmp .eq 15) 15 37 49 := ⟨by decide +kernel, rfl, rfl⟩
theorem d13_6 : Dc method_3_code 6 (.iconst 1) 1 7 := ⟨by decide +kernel, rfl⟩
theorem d13_7 : Dc method_3_code 7 (.ireturn) 1 8 := ⟨by decide +kernel, rfl⟩
set_option maxRecDepth 65536 in
set_option maxHeartbeats 40000000 in
theorem rmOk {l : Launch} {Z : State} {a0 : Array Value} {n0 : Nat} (H : Wd a0 Z) (m : Addr) (n i : Nat) (mf : Nat → Int32) (w a b fa fb : Int32) (h0 : Heap) (Z0 : n0 ≤ h0.size) (AM : AV Z h0 m .int (bm n mf)) (hn : n < 100) (hi : i < 100) (Hc : ∀ j, j < n → ¬ mf j < 0 ∧ mf j < w) (Ha : ∀ j, j < n → ¬ fa = 0 → ¬ mf j = a) (Hb : ∀ j, j < n → ¬ fb = 0 → ¬ mf j = b) (Hr : ∀ j, j < n → 0 < j → own_rank (mf (j - 1)) w < own_rank (mf j) w) :
    Ct l Z n0 (⟨"com/example/plywright/plywright/games/ConnectFourMovesPinLaw", "ok", "([IIIIIZZ)Z"⟩ : MethodName) method_3_code 8 (some .boolean) [] ({ frames := 2, cells := 0, slots := 0, locals := 28 } : Room) #[(.ref m), (.int (Int32.ofNat i)), (.int w), (.int a), (.int b), (.int fa), (.int fb)] h0 (fun v h => v = some (.int (1 : Int32)) ∧ h0 = h) := by
  refine Ct.of (a0 := a0) (L0 := #[.val (.ref m), .val (.int (Int32.ofNat i)), .val (.int w), .val (.int a), .val (.int b), .val (.int fa), .val (.int fb), .unset]) (plainFor_of_name pn_com_example_plywright_plywright_games_ConnectFourMovesPinLaw) (fun m => by first | (simp [entryFrame, mkF, argsToLocals, Value.category]; done) | rfl) ?_
  intro κ B0
  have B : Ok κ l Z a0 n0 ({ frames := 2, cells := 0, slots := 0, locals := 28 } : Room) "com/example/plywright/plywright/games/ConnectFourMovesPinLaw" "ok" method_3_code 8 (some .boolean) := B0
  refine go_iload_n B d13_0 rfl ?_
  refine go_aload_n B d13_1 rfl rfl ?_
  refine go_arraylength B (x := (Int32.ofNat n)) d13_2 AM (by rw [bm_len]) ?_
  refine go_icmplt B d13_3 (fun c3 => ?_) (fun c3 => ?_)
  · skip
    have hin : i < n := by have := (i_of_lt (i_ofNat (by omega)) (i_ofNat (by omega)) c3); omega
    refine go_aload_n B d13_8 rfl rfl ?_
    refine go_iload_n B d13_9 rfl ?_
    refine go_iaload B (i := i) (v := (.int (mf i))) d13_10 AM (i_ofNat (by omega)) (bm_get hin) ?_
    refine go_istore B #[.val (.ref m), .val (.int (Int32.ofNat i)), .val (.int w), .val (.int a), .val (.int b), .val (.int fa), .val (.int fb), .val (.int (mf i))] d13_11 rfl ?_
    refine go_iload B d13_13 rfl ?_
    refine go_iflt B d13_15 (fun c15 => ?_) (fun c15 => ?_)
    · exact absurd c15 (Hc i hin).1
    refine go_iload B d13_18 rfl ?_
    refine go_iload_n B d13_20 rfl ?_
    refine go_icmplt B d13_21 (fun c21 => ?_) (fun c21 => ?_)
    rotate_left
    · exact absurd (Hc i hin).2 c21
    refine go_iload B d13_26 rfl ?_
    refine go_ifeq B d13_28 (fun c28 => ?_) (fun c28 => ?_)
    · skip
      refine go_iload B d13_37 rfl ?_
      refine go_ifeq B d13_39 (fun c39 => ?_) (fun c39 => ?_)
      · skip
        refine go_iload_n B d13_51 rfl ?_
        refine go_ifle B d13_52 (fun c52 => ?_) (fun c52 => ?_)
        · skip
          refine go_iconst B (x := (1 : Int32)) d13_75 rfl ?_
          refine go_zreturn B (y := (1 : Int32)) d13_76 (by decide) (by decide) (by decide) ?_
          exact ⟨rfl, rfl⟩
        · skip
          refine go_aload_n B d13_55 rfl rfl ?_
          refine go_iload_n B d13_56 rfl ?_
          refine go_iconst B (x := (1 : Int32)) d13_57 rfl ?_
          refine go_isub B d13_58 ?_
          rw [show ((Int32.ofNat i) - (1 : Int32)) = (Int32.ofNat (i - 1)) from (by rw [show (1 : Int32) = Int32.ofNat 1 from rfl, n_sub (by have := i_of_lt (show (0 : Int32).toInt = 0 from rfl) (i_ofNat (n := i) (by omega)) c52; omega)])]
          refine go_iaload B (i := (i - 1)) (v := (.int (mf (i - 1)))) d13_59 AM (i_ofNat (by omega)) (bm_get (by omega)) ?_
          refine go_iload_n B d13_60 rfl ?_
          refine go_static B (W := 0) (argsL := [(.int (mf (i - 1))), (.int w)]) (st := []) d13_61 (w_98 H) (w_99 H) (w_96 H) (w_100 H) (by decide) (rmRk H (mf (i - 1)) w h0 Z0) pd_1 rfl rfl rfl rfl (by decide) (by decide) (by decide) (by decide) ?_
          rintro _ h318 ⟨rfl, rfl⟩
          show Go κ _ h0 _ _ 64 #[.val (.ref m), .val (.int (Int32.ofNat i)), .val (.int w), .val (.int a), .val (.int b), .val (.int fa), .val (.int fb), .val (.int (mf i))] [(.int (own_rank (mf (i - 1)) w))]
          refine go_iload B d13_64 rfl ?_
          refine go_iload_n B d13_66 rfl ?_
          refine go_static B (W := 1) (argsL := [(.int (mf i)), (.int w)]) (st := [(.int (own_rank (mf (i - 1)) w))]) d13_67 (w_98 H) (w_99 H) (w_96 H) (w_100 H) (by decide) (rmRk H (mf i) w h0 Z0) pd_1 rfl rfl rfl rfl (by decide) (by decide) (by decide) (by decide) ?_
          rintro _ h319 ⟨rfl, rfl⟩
          show Go κ _ h0 _ _ 70 #[.val (.ref m), .val (.int (Int32.ofNat i)), .val (.int w), .val (.int a), .val (.int b), .val (.int fa), .val (.int fb), .val (.int (mf i))] [(.int (own_rank (mf i) w)), (.int (own_rank (mf (i - 1)) w))]
          refine go_icmplt B d13_70 (fun c70 => ?_) (fun c70 => ?_)
          rotate_left
          · exact absurd (Hr i hin (by have := i_of_lt (show (0 : Int32).toInt = 0 from rfl) (i_ofNat (n := i) (by omega)) c52; omega)) c70
          refine go_iconst B (x := (1 : Int32)) d13_75 rfl ?_
          refine go_zreturn B (y := (1 : Int32)) d13_76 (by decide) (by decide) (by decide) ?_
          exact ⟨rfl, rfl⟩
      · skip
        refine go_iload B d13_42 rfl ?_
        refine go_iload B d13_44 rfl ?_
        refine go_icmpne B d13_46 (fun c46 => ?_) (fun c46 => ?_)
        rotate_left
        · exact absurd c46 (Hb i hin c39)
        refine go_iload_n B d13_51 rfl ?_
        refine go_ifle B d13_52 (fun c52 => ?_) (fun c52 => ?_)
        · skip
          refine go_iconst B (x := (1 : Int32)) d13_75 rfl ?_
          refine go_zreturn B (y := (1 : Int32)) d13_76 (by decide) (by decide) (by decide) ?_
          exact ⟨rfl, rfl⟩
        · skip
          refine go_aload_n B d13_55 rfl rfl ?_
          refine go_iload_n B d13_56 rfl ?_
          refine go_iconst B (x := (1 : Int32)) d13_57 rfl ?_
          refine go_isub B d13_58 ?_
          rw [show ((Int32.ofNat i) - (1 : Int32)) = (Int32.ofNat (i - 1)) from (by rw [show (1 : Int32) = Int32.ofNat 1 from rfl, n_sub (by have := i_of_lt (show (0 : Int32).toInt = 0 from rfl) (i_ofNat (n := i) (by omega)) c52; omega)])]
          refine go_iaload B (i := (i - 1)) (v := (.int (mf (i - 1)))) d13_59 AM (i_ofNat (by omega)) (bm_get (by omega)) ?_
          refine go_iload_n B d13_60 rfl ?_
          refine go_static B (W := 0) (argsL := [(.int (mf (i - 1))), (.int w)]) (st := []) d13_61 (w_98 H) (w_99 H) (w_96 H) (w_100 H) (by decide) (rmRk H (mf (i - 1)) w h0 Z0) pd_1 rfl rfl rfl rfl (by decide) (by decide) (by decide) (by decide) ?_
          rintro _ h320 ⟨rfl, rfl⟩
          show Go κ _ h0 _ _ 64 #[.val (.ref m), .val (.int (Int32.ofNat i)), .val (.int w), .val (.int a), .val (.int b), .val (.int fa), .val (.int fb), .val (.int (mf i))] [(.int (own_rank (mf (i - 1)) w))]
          refine go_iload B d13_64 rfl ?_
          refine go_iload_n B d13_66 rfl ?_
          refine go_static B (W := 1) (argsL := [(.int (mf i)), (.int w)]) (st := [(.int (own_rank (mf (i - 1)) w))]) d13_67 (w_98 H) (w_99 H) (w_96 H) (w_100 H) (by decide) (rmRk H (mf i) w h0 Z0) pd_1 rfl rfl rfl rfl (by decide) (by decide) (by decide) (by decide) ?_
          rintro _ h321 ⟨rfl, rfl⟩
          show Go κ _ h0 _ _ 70 #[.val (.ref m), .val (.int (Int32.ofNat i)), .val (.int w), .val (.int a), .val (.int b), .val (.int fa), .val (.int fb), .val (.int (mf i))] [(.int (own_rank (mf i) w)), (.int (own_rank (mf (i - 1)) w))]
          refine go_icmplt B d13_70 (fun c70 => ?_) (fun c70 => ?_)
          rotate_left
          · exact absurd (Hr i hin (by have := i_of_lt (show (0 : Int32).toInt = 0 from rfl) (i_ofNat (n := i) (by omega)) c52; omega)) c70
          refine go_iconst B (x := (1 : Int32)) d13_75 rfl ?_
          refine go_zreturn B (y := (1 : Int32)) d13_76 (by decide) (by decide) (by decide) ?_
          exact ⟨rfl, rfl⟩
    · skip
      refine go_iload B d13_31 rfl ?_
      refine go_iload_n B d13_33 rfl ?_
      refine go_icmpeq B d13_34 (fun c34 => ?_) (fun c34 => ?_)
      · exact absurd c34 (Ha i hin c28)
      refine go_iload B d13_37 rfl ?_
      refine go_ifeq B d13_39 (fun c39 => ?_) (fun c39 => ?_)
      · skip
        refine go_iload_n B d13_51 rfl ?_
        refine go_ifle B d13_52 (fun c52 => ?_) (fun c52 => ?_)
        · skip
          refine go_iconst B (x := (1 : Int32)) d13_75 rfl ?_
          refine go_zreturn B (y := (1 : Int32)) d13_76 (by decide) (by decide) (by decide) ?_
          exact ⟨rfl, rfl⟩
        · skip
          refine go_aload_n B d13_55 rfl rfl ?_
          refine go_iload_n B d13_56 rfl ?_
          refine go_iconst B (x := (1 : Int32)) d13_57 rfl ?_
          refine go_isub B d13_58 ?_
          rw [show ((Int32.ofNat i) - (1 : Int32)) = (Int32.ofNat (i - 1)) from (by rw [show (1 : Int32) = Int32.ofNat 1 from rfl, n_sub (by have := i_of_lt (show (0 : Int32).toInt = 0 from rfl) (i_ofNat (n := i) (by omega)) c52; omega)])]
          refine go_iaload B (i := (i - 1)) (v := (.int (mf (i - 1)))) d13_59 AM (i_ofNat (by omega)) (bm_get (by omega)) ?_
          refine go_iload_n B d13_60 rfl ?_
          refine go_static B (W := 0) (argsL := [(.int (mf (i - 1))), (.int w)]) (st := []) d13_61 (w_98 H) (w_99 H) (w_96 H) (w_100 H) (by decide) (rmRk H (mf (i - 1)) w h0 Z0) pd_1 rfl rfl rfl rfl (by decide) (by decide) (by decide) (by decide) ?_
          rintro _ h322 ⟨rfl, rfl⟩
          show Go κ _ h0 _ _ 64 #[.val (.ref m), .val (.int (Int32.ofNat i)), .val (.int w), .val (.int a), .val (.int b), .val (.int fa), .val (.int fb), .val (.int (mf i))] [(.int (own_rank (mf (i - 1)) w))]
          refine go_iload B d13_64 rfl ?_
          refine go_iload_n B d13_66 rfl ?_
          refine go_static B (W := 1) (argsL := [(.int (mf i)), (.int w)]) (st := [(.int (own_rank (mf (i - 1)) w))]) d13_67 (w_98 H) (w_99 H) (w_96 H) (w_100 H) (by decide) (rmRk H (mf i) w h0 Z0) pd_1 rfl rfl rfl rfl (by decide) (by decide) (by decide) (by decide) ?_
          rintro _ h323 ⟨rfl, rfl⟩
          show Go κ _ h0 _ _ 70 #[.val (.ref m), .val (.int (Int32.ofNat i)), .val (.int w), .val (.int a), .val (.int b), .val (.int fa), .val (.int fb), .val (.int (mf i))] [(.int (own_rank (mf i) w)), (.int (own_rank (mf (i - 1)) w))]
          refine go_icmplt B d13_70 (fun c70 => ?_) (fun c70 => ?_)
          rotate_left
          · exact absurd (Hr i hin (by have := i_of_lt (show (0 : Int32).toInt = 0 from rfl) (i_ofNat (n := i) (by omega)) c52; omega)) c70
          refine go_iconst B (x := (1 : Int32)) d13_75 rfl ?_
          refine go_zreturn B (y := (1 : Int32)) d13_76 (by decide) (by decide) (by decide) ?_
          exact ⟨rfl, rfl⟩
      · skip
        refine go_iload B d13_42 rfl ?_
        refine go_iload B d13_44 rfl ?_
        refine go_icmpne B d13_46 (fun c46 => ?_) (fun c46 => ?_)
        rotate_left
        · exact absurd c46 (Hb i hin c39)
        refine go_iload_n B d13_51 rfl ?_
        refine go_ifle B d13_52 (fun c52 => ?_) (fun c52 => ?_)
        · skip
          refine go_iconst B (x := (1 : Int32)) d13_75 rfl ?_
          refine go_zreturn B (y := (1 : Int32)) d13_76 (by decide) (by decide) (by decide) ?_
          exact ⟨rfl, rfl⟩
        · skip
          refine go_aload_n B d13_55 rfl rfl ?_
          refine go_iload_n B d13_56 rfl ?_
          refine go_iconst B (x := (1 : Int32)) d13_57 rfl ?_
          refine go_isub B d13_58 ?_
          rw [show ((Int32.ofNat i) - (1 : Int32)) = (Int32.ofNat (i - 1)) from (by rw [show (1 : Int32) = Int32.ofNat 1 from rfl, n_sub (by have := i_of_lt (show (0 : Int32).toInt = 0 from rfl) (i_ofNat (n := i) (by omega)) c52; omega)])]
          refine go_iaload B (i := (i - 1)) (v := (.int (mf (i - 1)))) d13_59 AM (i_ofNat (by omega)) (bm_get (by omega)) ?_
          refine go_iload_n B d13_60 rfl ?_
          refine go_static B (W := 0) (argsL := [(.int (mf (i - 1))), (.int w)]) (st := []) d13_61 (w_98 H) (w_99 H) (w_96 H) (w_100 H) (by decide) (rmRk H (mf (i - 1)) w h0 Z0) pd_1 rfl rfl rfl rfl (by decide) (by decide) (by decide) (by decide) ?_
          rintro _ h324 ⟨rfl, rfl⟩
          show Go κ _ h0 _ _ 64 #[.val (.ref m), .val (.int (Int32.ofNat i)), .val (.int w), .val (.int a), .val (.int b), .val (.int fa), .val (.int fb), .val (.int (mf i))] [(.int (own_rank (mf (i - 1)) w))]
          refine go_iload B d13_64 rfl ?_
          refine go_iload_n B d13_66 rfl ?_
          refine go_static B (W := 1) (argsL := [(.int (mf i)), (.int w)]) (st := [(.int (own_rank (mf (i - 1)) w))]) d13_67 (w_98 H) (w_99 H) (w_96 H) (w_100 H) (by decide) (rmRk H (mf i) w h0 Z0) pd_1 rfl rfl rfl rfl (by decide) (by decide) (by decide) (by decide) ?_
          rintro _ h325 ⟨rfl, rfl⟩
          show Go κ _ h0 _ _ 70 #[.val (.ref m), .val (.int (Int32.ofNat i)), .val (.int w), .val (.int a), .val (.int b), .val (.int fa), .val (.int fb), .val (.int (mf i))] [(.int (own_rank (mf i) w)), (.int (own_rank (mf (i - 1)) w))]
          refine go_icmplt B d13_70 (fun c70 => ?_) (fun c70 => ?_)
          rotate_left
          · exact absurd (Hr i hin (by have := i_of_lt (show (0 : Int32).toInt = 0 from rfl) (i_ofNat (n := i) (by omega)) c52; omega)) c70
          refine go_iconst B (x := (1 : Int32)) d13_75 rfl ?_
          refine go_zreturn B (y := (1 : Int32)) d13_76 (by decide) (by decide) (by decide) ?_
          exact ⟨rfl, rfl⟩
  · skip
    refine go_iconst B (x := (1 : Int32)) d13_6 rfl ?_
    refine go_zreturn B (y := (1 : Int32)) d13_7 (by decide) (by decide) (by decide) ?_
    exact ⟨rfl, rfl⟩
theorem d3_0 : Dc prog_19_method_3_code 0 (.iload_n 1) 1 1 := ⟨by decide +kernel, rfl⟩
theorem d3_1 : Dc prog_19_method_3_code 1 (.iconst 4) 1 2 := ⟨by decide +kernel, rfl⟩
theorem d3_2 : Db prog_19_method_3_code 2 (.if_icmp .lt 9) 9 5 11 := ⟨by decide +kernel, rfl, rfl⟩
theorem d3_5 : Dc prog_19_method_3_code 5 (.iload_n 1) 1 6 := ⟨by decide +kernel, rfl⟩
theorem d3_6 : Dc prog_19_method_3_code 6 (.bipush 9) 2 8 := ⟨by decide +kernel, rfl⟩
theorem d3_8 : Db prog_19_method_3_code 8 (.if_icmp .le 18) 18 11 26 := ⟨by decide +kernel, rfl, rfl⟩
theorem d3_26 : Dc prog_19_method_3_code 26 (.return_) 1 27 := ⟨by decide +kernel, rfl⟩
set_option maxRecDepth 65536 in
set_option maxHeartbeats 40000000 in
theorem rmCk {l : Launch} {Z : State} {a0 : Array Value} {n0 : Nat} (H : Wd a0 Z) (a : Addr) (n : Nat) (h0 : Heap) (Z0 : n0 ≤ h0.size) (n4 : 4 ≤ n) (n9 : n ≤ 9) :
    Ct l Z n0 (⟨"com/example/plywright/plywright/games/ConnectFour", "checkSize", "(Ljava/lang/String;I)V"⟩ : MethodName) prog_19_method_3_code 2 none [] ({ frames := 0, cells := 0, slots := 0, locals := 0 } : Room) #[(.ref a), (.int (Int32.ofNat n))] h0 (fun v h => v = none ∧ h0 = h) := by
  refine Ct.of (a0 := a0) (L0 := #[.val (.ref a), .val (.int (Int32.ofNat n))]) (plainFor_of_name pn_com_example_plywright_plywright_games_ConnectFour) (fun m => by first | (simp [entryFrame, mkF, argsToLocals, Value.category]; done) | rfl) ?_
  intro κ B0
  have B : Ok κ l Z a0 n0 ({ frames := 0, cells := 0, slots := 0, locals := 0 } : Room) "com/example/plywright/plywright/games/ConnectFour" "checkSize" prog_19_method_3_code 2 none := B0
  refine go_iload_n B d3_0 rfl ?_
  refine go_iconst B (x := (4 : Int32)) d3_1 rfl ?_
  refine go_icmplt B d3_2 (fun c2 => ?_) (fun c2 => ?_)
  · exact absurd c2 (i_nlt (i_ofNat (by omega)) (show (4 : Int32).toInt = 4 from rfl) (by omega))
  refine go_iload_n B d3_5 rfl ?_
  refine go_bipush B (x := (9 : Int32)) d3_6 (by decide) ?_
  refine go_icmple B d3_8 (fun c8 => ?_) (fun c8 => ?_)
  rotate_left
  · exact absurd c8 (i_nlt (show (9 : Int32).toInt = 9 from rfl) (i_ofNat (by omega)) (by omega))
  refine go_return B d3_26 (by decide) (by decide) ?_
  exact ⟨rfl, rfl⟩
def own_cnt (p : Nat → Bool) : Nat → Nat
  | 0 => 0
  | i + 1 => own_cnt p i + (if p i then 1 else 0)
theorem own_cnt_le (p : Nat → Bool) (i : Nat) : own_cnt p i ≤ i := by
  induction i with
  | zero => exact Nat.le_refl _
  | succ i ih => unfold own_cnt; split <;> omega
theorem own_cnt_mono (p : Nat → Bool) {i j : Nat} (h : i ≤ j) : own_cnt p i ≤ own_cnt p j := by
  induction j with
  | zero => obtain rfl : i = 0 := by omega
            exact Nat.le_refl _
  | succ j ih =>
    rcases Nat.lt_or_ge j i with q | q
    · obtain rfl : i = j + 1 := by omega
      exact Nat.le_refl _
    · exact Nat.le_trans (ih q) (by simp only [own_cnt]; omega)
theorem own_cnt_t {p : Nat → Bool} {i : Nat} (h : p i = true) : own_cnt p (i + 1) = own_cnt p i + 1 := by simp [own_cnt, h]
theorem own_cnt_f {p : Nat → Bool} {i : Nat} (h : p i = false) : own_cnt p (i + 1) = own_cnt p i := by simp [own_cnt, h]
theorem own_cnt_lt {p : Nat → Bool} {i j : Nat} (h : p i = true) (hj : i < j) : own_cnt p i < own_cnt p j := by
  have := own_cnt_mono p (show i + 1 ≤ j from hj)
  rw [own_cnt_t h] at this
  omega
def own_free (Hr : Nat) (e : Nat → Int32) (cn : Nat → Nat) : Nat → Bool := fun j => decide (e (cn j) < Int32.ofNat Hr)
theorem d11_24 : Dc prog_19_method_11_code 24 (.iload 4) 2 26 := ⟨by decide +kernel, rfl⟩
theorem d11_26 : Dc prog_19_method_11_code 26 (.iload_n 3) 1 27 := ⟨by decide +kernel, rfl⟩
theorem d11_27 : Db prog_19_method_11_code 27 (.if_icmp .ge 32) 32 30 59 := ⟨by decide +kernel, rfl, rfl⟩
theorem d11_30 : Dc prog_19_method_11_code 30 (.aload_n 2) 1 31 := ⟨by decide +kernel, rfl⟩
theorem d11_31 : Dc prog_19_method_11_code 31 (.iload 4) 2 33 := ⟨by decide +kernel, rfl⟩
theorem d11_33 : Dc prog_19_method_11_code 33 (.iaload) 1 34 := ⟨by decide +kernel, rfl⟩
theorem d11_34 : Dc prog_19_method_11_code 34 (.istore 5) 2 36 := ⟨by decide +kernel, rfl⟩
theorem d11_36 : Dc prog_19_method_11_code 36 (.aload_n 0) 1 37 := ⟨by decide +kernel, rfl⟩
theorem d11_37 : Dc prog_19_method_11_code 37 (.getfield 29) 3 40 := ⟨by decide +kernel, rfl⟩
theorem d11_40 : Dc prog_19_method_11_code 40 (.iload 5) 2 42 := ⟨by decide +kernel, rfl⟩
theorem d11_42 : Dc prog_19_method_11_code 42 (.iaload) 1 43 := ⟨by decide +kernel, rfl⟩
theorem d11_43 : Dc prog_19_method_11_code 43 (.aload_n 0) 1 44 := ⟨by decide +kernel, rfl⟩
theorem d11_44 : Dc prog_19_method_11_code 44 (.getfield 20) 3 47 := ⟨by decide +kernel, rfl⟩
theorem d11_47 : Db prog_19_method_11_code 47 (.if_icmp .ge 6) 6 50 53 := ⟨by decide +kernel, rfl, rfl⟩
theorem d11_53 : Dc prog_19_method_11_code 53 (.iinc 4 1) 3 56 := ⟨by decide +kernel, rfl⟩
theorem d11_56 : Db prog_19_method_11_code 56 (.goto (-32)) (-32) 59 24 := ⟨by decide +kernel, rfl, rfl⟩
theorem d11_50 : Dc prog_19_method_11_code 50 (.iinc 1 1) 3 53 := ⟨by decide +kernel, rfl⟩
set_option maxRecDepth 65536 in
set_option maxHeartbeats 40000000 in
theorem mv1 {κ : Cx} {l : Launch} {Z : State} {a0 : Array Value} {n0 : Nat} (H : Wd a0 Z) (B : Ok κ l Z a0 n0 ({ frames := 0, cells := 1, slots := 9, locals := 0 } : Room) "com/example/plywright/plywright/games/ConnectFour" "moves" prog_19_method_11_code 8 (some (.array .int))) {Q : Option Value → Heap → Prop} {h : Heap} {k nn W Hr : Nat} {e : Nat → Int32} {cn : Nat → Nat} {g hs cf : Addr} (hW : W ≤ 9) (hcn : ∀ j, j < W → cn j < W) (FH : Fld Z h g "com/example/plywright/plywright/games/ConnectFour" "heights" "[I" (.ref hs)) (FR : Fld Z h g "com/example/plywright/plywright/games/ConnectFour" "rows" "I" (.int (Int32.ofNat Hr))) (AH : AV Z h hs .int (bm W e)) (AC : AV Z h cf .int (bm W (fun j => Int32.ofNat (cn j)))) : ∀ (m i : Nat), i + m = W → ∀ (s5 : Slot), (∀ z : Int32, storeLocals #[.val (.ref g), .val (.int (Int32.ofNat (own_cnt (own_free Hr e cn) i))), .val (.ref cf), .val (.int (Int32.ofNat W)), .val (.int (Int32.ofNat i)), s5, .unset, .unset] 5 (.int z) = some #[.val (.ref g), .val (.int (Int32.ofNat (own_cnt (own_free Hr e cn) i))), .val (.ref cf), .val (.int (Int32.ofNat W)), .val (.int (Int32.ofNat i)), .val (.int z), .unset, .unset]) → (s5 = .unset ∨ ∃ z : Int32, s5 = .val (.int z)) → (∀ s5', (s5' = .unset ∨ ∃ z : Int32, s5' = .val (.int z)) → Go κ Q h k nn 59 #[.val (.ref g), .val (.int (Int32.ofNat (own_cnt (own_free Hr e cn) W))), .val (.ref cf), .val (.int (Int32.ofNat W)), .val (.int (Int32.ofNat W)), s5', .unset, .unset] []) → Go κ Q h k nn 24 #[.val (.ref g), .val (.int (Int32.ofNat (own_cnt (own_free Hr e cn) i))), .val (.ref cf), .val (.int (Int32.ofNat W)), .val (.int (Int32.ofNat i)), s5, .unset, .unset] [] := by
  intro m
  induction m with
  | zero =>
    intro i him s5 hs5 hsl gg
    refine go_iload B d11_24 rfl ?_
    refine go_iload_n B d11_26 rfl ?_
    refine go_icmpge B d11_27 (fun c27 => ?_) (fun c27 => ?_)
    rotate_left
    · exact absurd c27 (i_nlt (i_ofNat (by omega)) (i_ofNat (by omega)) (by omega))
    obtain rfl : i = W := by omega
    exact gg s5 hsl
  | succ m ih =>
    intro i him s5 hs5 hsl gg
    have hiW : i < W := by omega
    refine go_iload B d11_24 rfl ?_
    refine go_iload_n B d11_26 rfl ?_
    refine go_icmpge B d11_27 (fun c27 => ?_) (fun c27 => ?_)
    · exact absurd (i_lt (i_ofNat (by omega)) (i_ofNat (by omega)) (by omega)) c27
    refine go_aload_n B d11_30 rfl rfl ?_
    refine go_iload B d11_31 rfl ?_
    refine go_iaload B (i := i) (v := (.int (Int32.ofNat (cn i)))) d11_33 AC (i_ofNat (by omega)) (bm_get (f := fun j => Int32.ofNat (cn j)) hiW) ?_
    refine go_istore B #[.val (.ref g), .val (.int (Int32.ofNat (own_cnt (own_free Hr e cn) i))), .val (.ref cf), .val (.int (Int32.ofNat W)), .val (.int (Int32.ofNat i)), .val (.int (Int32.ofNat (cn i))), .unset, .unset] d11_34 (hs5 _) ?_
    refine go_aload_n B d11_36 rfl rfl ?_
    refine go_getfield B d11_37 (w_31 H) FH ?_
    refine go_iload B d11_40 rfl ?_
    refine go_iaload B (i := (cn i)) (v := (.int (e (cn i)))) d11_42 AH (i_ofNat (by have := hcn i hiW; omega)) (bm_get (hcn i hiW)) ?_
    refine go_aload_n B d11_43 rfl rfl ?_
    refine go_getfield B d11_44 (w_25 H) FR ?_
    refine go_icmpge B d11_47 (fun c47 => ?_) (fun c47 => ?_)
    · skip
      refine go_iinc B #[.val (.ref g), .val (.int (Int32.ofNat (own_cnt (own_free Hr e cn) i))), .val (.ref cf), .val (.int (Int32.ofNat W)), .val (.int ((Int32.ofNat i) + (1 : Int32))), .val (.int (Int32.ofNat (cn i))), .unset, .unset] d11_53 (z := (1 : Int32)) rfl rfl rfl ?_
      refine go_goto B d11_56 ?_
      refine go_cast (ih (i + 1) (by omega) (.val (.int (Int32.ofNat (cn i)))) (fun _ => rfl) (Or.inr ⟨_, rfl⟩) gg) rfl rfl rfl rfl ?_ rfl
      rw [own_cnt_f (show own_free Hr e cn i = false from by simp [own_free, c47])]
      first | rfl | (simp only [← n_add]; rfl)
    · skip
      refine go_iinc B #[.val (.ref g), .val (.int ((Int32.ofNat (own_cnt (own_free Hr e cn) i)) + (1 : Int32))), .val (.ref cf), .val (.int (Int32.ofNat W)), .val (.int (Int32.ofNat i)), .val (.int (Int32.ofNat (cn i))), .unset, .unset] d11_50 (z := (1 : Int32)) rfl rfl rfl ?_
      refine go_iinc B #[.val (.ref g), .val (.int ((Int32.ofNat (own_cnt (own_free Hr e cn) i)) + (1 : Int32))), .val (.ref cf), .val (.int (Int32.ofNat W)), .val (.int ((Int32.ofNat i) + (1 : Int32))), .val (.int (Int32.ofNat (cn i))), .unset, .unset] d11_53 (z := (1 : Int32)) rfl rfl rfl ?_
      refine go_goto B d11_56 ?_
      refine go_cast (ih (i + 1) (by omega) (.val (.int (Int32.ofNat (cn i)))) (fun _ => rfl) (Or.inr ⟨_, rfl⟩) gg) rfl rfl rfl rfl ?_ rfl
      rw [own_cnt_t (show own_free Hr e cn i = true from by simp [own_free, c47])]
      first | rfl | (simp only [← n_add]; rfl)
def own_inv (p : Nat → Bool) (cn : Nat → Nat) (mf : Nat → Int32) (i : Nat) : Prop := ∀ j, j < i → p j = true → mf (own_cnt p j) = Int32.ofNat (cn j)
theorem own_inv_t {p : Nat → Bool} {cn : Nat → Nat} {mf : Nat → Int32} {i : Nat} (h : own_inv p cn mf i) : own_inv p cn (updf mf (own_cnt p i) (Int32.ofNat (cn i))) (i + 1) := fun j hj hp => by
  unfold updf
  rcases Nat.lt_or_ge j i with q | q
  · have := own_cnt_lt hp q
    rw [if_neg (by omega)]; exact h j q hp
  · obtain rfl : j = i := by omega
    rw [if_pos rfl]
theorem own_inv_f {p : Nat → Bool} {cn : Nat → Nat} {mf : Nat → Int32} {i : Nat} (h : own_inv p cn mf i) (hf : p i = false) : own_inv p cn mf (i + 1) := fun j hj hp => by
  rcases Nat.lt_or_ge j i with q | q
  · exact h j q hp
  · obtain rfl : j = i := by omega
    rw [hf] at hp; cases hp
theorem d11_79 : Dc prog_19_method_11_code 79 (.iload 6) 2 81 := ⟨by decide +kernel, rfl⟩
theorem d11_81 : Dc prog_19_method_11_code 81 (.iload 5) 2 83 := ⟨by decide +kernel, rfl⟩
theorem d11_83 : Db prog_19_method_11_code 83 (.if_icmp .ge 38) 38 86 121 := ⟨by decide +kernel, rfl, rfl⟩
theorem d11_86 : Dc prog_19_method_11_code 86 (.aload 4) 2 88 := ⟨by decide +kernel, rfl⟩
theorem d11_88 : Dc prog_19_method_11_code 88 (.iload 6) 2 90 := ⟨by decide +kernel, rfl⟩
theorem d11_90 : Dc prog_19_method_11_code 90 (.iaload) 1 91 := ⟨by decide +kernel, rfl⟩
theorem d11_91 : Dc prog_19_method_11_code 91 (.istore 7) 2 93 := ⟨by decide +kernel, rfl⟩
theorem d11_93 : Dc prog_19_method_11_code 93 (.aload_n 0) 1 94 := ⟨by decide +kernel, rfl⟩
theorem d11_94 : Dc prog_19_method_11_code 94 (.getfield 29) 3 97 := ⟨by decide +kernel, rfl⟩
theorem d11_97 : Dc prog_19_method_11_code 97 (.iload 7) 2 99 := ⟨by decide +kernel, rfl⟩
theorem d11_99 : Dc prog_19_method_11_code 99 (.iaload) 1 100 := ⟨by decide +kernel, rfl⟩
theorem d11_100 : Dc prog_19_method_11_code 100 (.aload_n 0) 1 101 := ⟨by decide +kernel, rfl⟩
theorem d11_101 : Dc prog_19_method_11_code 101 (.getfield 20) 3 104 := ⟨by decide +kernel, rfl⟩
theorem d11_104 : Db prog_19_method_11_code 104 (.if_icmp .ge 11) 11 107 115 := ⟨by decide +kernel, rfl, rfl⟩
theorem d11_115 : Dc prog_19_method_11_code 115 (.iinc 6 1) 3 118 := ⟨by decide +kernel, rfl⟩
theorem d11_118 : Db prog_19_method_11_code 118 (.goto (-39)) (-39) 121 79 := ⟨by decide +kernel, rfl, rfl⟩
theorem d11_107 : Dc prog_19_method_11_code 107 (.aload_n 2) 1 108 := ⟨by decide +kernel, rfl⟩
theorem d11_108 : Dc prog_19_method_11_code 108 (.iload_n 3) 1 109 := ⟨by decide +kernel, rfl⟩
theorem d11_109 : Dc prog_19_method_11_code 109 (.iinc 3 1) 3 112 := ⟨by decide +kernel, rfl⟩
theorem d11_112 : Dc prog_19_method_11_code 112 (.iload 7) 2 114 := ⟨by decide +kernel, rfl⟩
theorem d11_114 : Dc prog_19_method_11_code 114 (.iastore) 1 115 := ⟨by decide +kernel, rfl⟩
set_option maxRecDepth 65536 in
set_option maxHeartbeats 40000000 in
theorem mv2 {κ : Cx} {l : Launch} {Z : State} {a0 : Array Value} {n0 : Nat} (H : Wd a0 Z) (B : Ok κ l Z a0 n0 ({ frames := 0, cells := 1, slots := 9, locals := 0 } : Room) "com/example/plywright/plywright/games/ConnectFour" "moves" prog_19_method_11_code 8 (some (.array .int))) {Q : Option Value → Heap → Prop} {k nn W Hr : Nat} {e : Nat → Int32} {cn : Nat → Nat} {g hs cf m : Addr} (hW : W ≤ 9) (hcn : ∀ j, j < W → cn j < W) (gm : n0 ≤ m) (n_hs : m ≠ hs) (n_cf : m ≠ cf) (n_g : m ≠ g) : ∀ (mm i : Nat), i + mm = W → ∀ (s7 : Slot), (∀ z : Int32, storeLocals #[.val (.ref g), .val (.int (Int32.ofNat (own_cnt (own_free Hr e cn) W))), .val (.ref m), .val (.int (Int32.ofNat (own_cnt (own_free Hr e cn) i))), .val (.ref cf), .val (.int (Int32.ofNat W)), .val (.int (Int32.ofNat i)), s7] 7 (.int z) = some #[.val (.ref g), .val (.int (Int32.ofNat (own_cnt (own_free Hr e cn) W))), .val (.ref m), .val (.int (Int32.ofNat (own_cnt (own_free Hr e cn) i))), .val (.ref cf), .val (.int (Int32.ofNat W)), .val (.int (Int32.ofNat i)), .val (.int z)]) → ∀ (h : Heap) (mf : Nat → Int32) (FH : Fld Z h g "com/example/plywright/plywright/games/ConnectFour" "heights" "[I" (.ref hs)) (FR : Fld Z h g "com/example/plywright/plywright/games/ConnectFour" "rows" "I" (.int (Int32.ofNat Hr))) (AH : AV Z h hs .int (bm W e)) (AC : AV Z h cf .int (bm W (fun j => Int32.ofNat (cn j)))) (AM : AV Z h m .int (bm (own_cnt (own_free Hr e cn) W) mf)) (inv : own_inv (own_free Hr e cn) cn mf i), (∀ h' mf' s7', Keep h h' [m] → AV Z h' m .int (bm (own_cnt (own_free Hr e cn) W) mf') → own_inv (own_free Hr e cn) cn mf' W → Go κ Q h' k nn 121 #[.val (.ref g), .val (.int (Int32.ofNat (own_cnt (own_free Hr e cn) W))), .val (.ref m), .val (.int (Int32.ofNat (own_cnt (own_free Hr e cn) W))), .val (.ref cf), .val (.int (Int32.ofNat W)), .val (.int (Int32.ofNat W)), s7'] []) → Go κ Q h k nn 79 #[.val (.ref g), .val (.int (Int32.ofNat (own_cnt (own_free Hr e cn) W))), .val (.ref m), .val (.int (Int32.ofNat (own_cnt (own_free Hr e cn) i))), .val (.ref cf), .val (.int (Int32.ofNat W)), .val (.int (Int32.ofNat i)), s7] [] := by
  intro mm
  induction mm with
  | zero =>
    intro i him s7 hs7 h mf FH FR AH AC AM inv gg
    refine go_iload B d11_79 rfl ?_
    refine go_iload B d11_81 rfl ?_
    refine go_icmpge B d11_83 (fun c83 => ?_) (fun c83 => ?_)
    rotate_left
    · exact absurd c83 (i_nlt (i_ofNat (by omega)) (i_ofNat (by omega)) (by omega))
    obtain rfl : i = W := by omega
    exact gg h mf s7 (Keep.refl _ _) AM inv
  | succ mm ih =>
    intro i him s7 hs7 h mf FH FR AH AC AM inv gg
    have hiW : i < W := by omega
    have lew := own_cnt_le (own_free Hr e cn) W
    have lei := own_cnt_le (own_free Hr e cn) i
    refine go_iload B d11_79 rfl ?_
    refine go_iload B d11_81 rfl ?_
    refine go_icmpge B d11_83 (fun c83 => ?_) (fun c83 => ?_)
    · exact absurd (i_lt (i_ofNat (by omega)) (i_ofNat (by omega)) (by omega)) c83
    refine go_aload B d11_86 rfl rfl ?_
    refine go_iload B d11_88 rfl ?_
    refine go_iaload B (i := i) (v := (.int (Int32.ofNat (cn i)))) d11_90 AC (i_ofNat (by omega)) (bm_get (f := fun j => Int32.ofNat (cn j)) hiW) ?_
    refine go_istore B #[.val (.ref g), .val (.int (Int32.ofNat (own_cnt (own_free Hr e cn) W))), .val (.ref m), .val (.int (Int32.ofNat (own_cnt (own_free Hr e cn) i))), .val (.ref cf), .val (.int (Int32.ofNat W)), .val (.int (Int32.ofNat i)), .val (.int (Int32.ofNat (cn i)))] d11_91 (hs7 _) ?_
    refine go_aload_n B d11_93 rfl rfl ?_
    refine go_getfield B d11_94 (w_31 H) FH ?_
    refine go_iload B d11_97 rfl ?_
    refine go_iaload B (i := (cn i)) (v := (.int (e (cn i)))) d11_99 AH (i_ofNat (by have := hcn i hiW; omega)) (bm_get (hcn i hiW)) ?_
    refine go_aload_n B d11_100 rfl rfl ?_
    refine go_getfield B d11_101 (w_25 H) FR ?_
    refine go_icmpge B d11_104 (fun c104 => ?_) (fun c104 => ?_)
    · skip
      refine go_iinc B #[.val (.ref g), .val (.int (Int32.ofNat (own_cnt (own_free Hr e cn) W))), .val (.ref m), .val (.int (Int32.ofNat (own_cnt (own_free Hr e cn) i))), .val (.ref cf), .val (.int (Int32.ofNat W)), .val (.int ((Int32.ofNat i) + (1 : Int32))), .val (.int (Int32.ofNat (cn i)))] d11_115 (z := (1 : Int32)) rfl rfl rfl ?_
      refine go_goto B d11_118 ?_
      refine go_cast (ih (i + 1) (by omega) (.val (.int (Int32.ofNat (cn i)))) (fun _ => rfl) h _ FH FR AH AC AM (own_inv_f inv (show own_free Hr e cn i = false from by simp [own_free, c104])) (fun h' mf' s7' K' A' I' => gg h' mf' s7' K' A' I')) rfl rfl rfl rfl ?_ rfl
      rw [own_cnt_f (show own_free Hr e cn i = false from by simp [own_free, c104])]
      first | rfl | (simp only [← n_add]; rfl)
    · skip
      refine go_aload_n B d11_107 rfl rfl ?_
      refine go_iload_n B d11_108 rfl ?_
      refine go_iinc B #[.val (.ref g), .val (.int (Int32.ofNat (own_cnt (own_free Hr e cn) W))), .val (.ref m), .val (.int ((Int32.ofNat (own_cnt (own_free Hr e cn) i)) + (1 : Int32))), .val (.ref cf), .val (.int (Int32.ofNat W)), .val (.int (Int32.ofNat i)), .val (.int (Int32.ofNat (cn i)))] d11_109 (z := (1 : Int32)) rfl rfl rfl ?_
      refine go_iload B d11_112 rfl ?_
      refine go_iastore B (i := (own_cnt (own_free Hr e cn) i)) d11_114 AM (i_ofNat (by omega)) (by rw [bm_len]; exact (own_cnt_lt (show own_free Hr e cn i = true from by simp [own_free, c104]) hiW)) gm ?_
      intro h326 W327 A328
      have A329 : AV Z h326 m .int (bm (own_cnt (own_free Hr e cn) W) (updf mf (own_cnt (own_free Hr e cn) i) (Int32.ofNat (cn i)))) := (bm_set (own_cnt_lt (show own_free Hr e cn i = true from by simp [own_free, c104]) hiW) ▸ A328)
      refine go_iinc B #[.val (.ref g), .val (.int (Int32.ofNat (own_cnt (own_free Hr e cn) W))), .val (.ref m), .val (.int ((Int32.ofNat (own_cnt (own_free Hr e cn) i)) + (1 : Int32))), .val (.ref cf), .val (.int (Int32.ofNat W)), .val (.int ((Int32.ofNat i) + (1 : Int32))), .val (.int (Int32.ofNat (cn i)))] d11_115 (z := (1 : Int32)) rfl rfl rfl ?_
      refine go_goto B d11_118 ?_
      refine go_cast (ih (i + 1) (by omega) (.val (.int (Int32.ofNat (cn i)))) (fun _ => rfl) h326 _ (Fld.other W327 FH (Or.inl (Ne.symm n_g))) (Fld.other W327 FR (Or.inl (Ne.symm n_g))) (AV.other AH W327 (Ne.symm n_hs)) (AV.other AC W327 (Ne.symm n_cf)) A329 (own_inv_t inv) (fun h' mf' s7' K' A' I' => gg h' mf' s7' ((Keep.of_wr W327).trans K' (allS (Or.inl (by simp)) all0)) A' I')) rfl rfl rfl rfl ?_ rfl
      rw [own_cnt_t (show own_free Hr e cn i = true from by simp [own_free, c104])]
      first | rfl | (simp only [← n_add]; rfl)
theorem d11_0 : Dc prog_19_method_11_code 0 (.aload_n 0) 1 1 := ⟨by decide +kernel, rfl⟩
theorem d11_1 : Dc prog_19_method_11_code 1 (.getfield 102) 3 4 := ⟨by decide +kernel, rfl⟩
theorem d11_4 : Db prog_19_method_11_code 4 (.ifCond .eq 7) 7 7 11 := ⟨by decide +kernel, rfl, rfl⟩
theorem d11_11 : Dc prog_19_method_11_code 11 (.iconst 0) 1 12 := ⟨by decide +kernel, rfl⟩
theorem d11_12 : Dc prog_19_method_11_code 12 (.istore_n 1) 1 13 := ⟨by decide +kernel, rfl⟩
theorem d11_13 : Dc prog_19_method_11_code 13 (.aload_n 0) 1 14 := ⟨by decide +kernel, rfl⟩
theorem d11_14 : Dc prog_19_method_11_code 14 (.getfield 60) 3 17 := ⟨by decide +kernel, rfl⟩
theorem w_56 {a0 : Array Value} {Z : State} (H : Wd a0 Z) : (Jvm.Cond.fieldLink "com/example/plywright/plywright/games/ConnectFour" (60 : Nat) "com/example/plywright/plywright/games/ConnectFour" "centreFirst" "[I").before a0 Z = true := H _ (List.mem_of_getElem? (i := 56) rfl)
theorem d11_17 : Dc prog_19_method_11_code 17 (.astore_n 2) 1 18 := ⟨by decide +kernel, rfl⟩
theorem d11_18 : Dc prog_19_method_11_code 18 (.aload_n 2) 1 19 := ⟨by decide +kernel, rfl⟩
theorem d11_19 : Dc prog_19_method_11_code 19 (.arraylength) 1 20 := ⟨by decide +kernel, rfl⟩
theorem d11_20 : Dc prog_19_method_11_code 20 (.istore_n 3) 1 21 := ⟨by decide +kernel, rfl⟩
theorem d11_21 : Dc prog_19_method_11_code 21 (.iconst 0) 1 22 := ⟨by decide +kernel, rfl⟩
theorem d11_22 : Dc prog_19_method_11_code 22 (.istore 4) 2 24 := ⟨by decide +kernel, rfl⟩
theorem d11_59 : Dc prog_19_method_11_code 59 (.iload_n 1) 1 60 := ⟨by decide +kernel, rfl⟩
theorem d11_60 : Dc prog_19_method_11_code 60 (.newarray .int) 2 62 := ⟨by decide +kernel, rfl⟩
theorem w_1 {a0 : Array Value} {Z : State} (H : Wd a0 Z) : (Jvm.Cond.arrayClass Jvm.ClassFile.FieldType.int).before a0 Z = true := H _ (List.mem_of_getElem? (i := 1) rfl)
theorem d11_62 : Dc prog_19_method_11_code 62 (.astore_n 2) 1 63 := ⟨by decide +kernel, rfl⟩
theorem d11_63 : Dc prog_19_method_11_code 63 (.iconst 0) 1 64 := ⟨by decide +kernel, rfl⟩
theorem d11_64 : Dc prog_19_method_11_code 64 (.istore_n 3) 1 65 := ⟨by decide +kernel, rfl⟩
theorem d11_65 : Dc prog_19_method_11_code 65 (.aload_n 0) 1 66 := ⟨by decide +kernel, rfl⟩
theorem d11_66 : Dc prog_19_method_11_code 66 (.getfield 60) 3 69 := ⟨by decide +kernel, rfl⟩
theorem d11_69 : Dc prog_19_method_11_code 69 (.astore 4) 2 71 := ⟨by decide +kernel, rfl⟩
theorem d11_71 : Dc prog_19_method_11_code 71 (.aload 4) 2 73 := ⟨by decide +kernel, rfl⟩
theorem d11_73 : Dc prog_19_method_11_code 73 (.arraylength) 1 74 := ⟨by decide +kernel, rfl⟩
theorem d11_74 : Dc prog_19_method_11_code 74 (.istore 5) 2 76 := ⟨by decide +kernel, rfl⟩
theorem d11_76 : Dc prog_19_method_11_code 76 (.iconst 0) 1 77 := ⟨by decide +kernel, rfl⟩
theorem d11_77 : Dc prog_19_method_11_code 77 (.istore 6) 2 79 := ⟨by decide +kernel, rfl⟩
theorem d11_121 : Dc prog_19_method_11_code 121 (.aload_n 2) 1 122 := ⟨by decide +kernel, rfl⟩
theorem d11_122 : Dc prog_19_method_11_code 122 (.areturn) 1 123 := ⟨by decide +kernel, rfl⟩
set_option maxRecDepth 65536 in
set_option maxHeartbeats 40000000 in
theorem rmMv {l : Launch} {Z : State} {a0 : Array Value} {n0 : Nat} (H : Wd a0 Z) (g hs cf : Addr) (W Hr : Nat) (e : Nat → Int32) (cn : Nat → Nat) (h0 : Heap) (Z0 : n0 ≤ h0.size) (hW : W ≤ 9) (hcn : ∀ j, j < W → cn j < W) (FW : Fld Z h0 g "com/example/plywright/plywright/games/ConnectFour" "won" "Z" (.int (0 : Int32))) (FC : Fld Z h0 g "com/example/plywright/plywright/games/ConnectFour" "centreFirst" "[I" (.ref cf)) (FH : Fld Z h0 g "com/example/plywright/plywright/games/ConnectFour" "heights" "[I" (.ref hs)) (FR : Fld Z h0 g "com/example/plywright/plywright/games/ConnectFour" "rows" "I" (.int (Int32.ofNat Hr))) (AH : AV Z h0 hs .int (bm W e)) (AC : AV Z h0 cf .int (bm W (fun j => Int32.ofNat (cn j)))) :
    Ct l Z n0 (⟨"com/example/plywright/plywright/games/ConnectFour", "moves", "()[I"⟩ : MethodName) prog_19_method_11_code 8 (some (.array .int)) [] ({ frames := 0, cells := 1, slots := 9, locals := 0 } : Room) #[(.ref g)] h0 (fun v h => ∃ m mf, v = some (.ref m) ∧ AV Z h m .int (bm (own_cnt (own_free Hr e cn) W) mf) ∧ own_inv (own_free Hr e cn) cn mf W ∧ Keep h0 h []) := by
  refine Ct.of (a0 := a0) (L0 := #[.val (.ref g), .unset, .unset, .unset, .unset, .unset, .unset, .unset]) (plainFor_of_name pn_com_example_plywright_plywright_games_ConnectFour) (fun m => by first | (simp [entryFrame, mkF, argsToLocals, Value.category]; done) | rfl) ?_
  intro κ B0
  have B : Ok κ l Z a0 n0 ({ frames := 0, cells := 1, slots := 9, locals := 0 } : Room) "com/example/plywright/plywright/games/ConnectFour" "moves" prog_19_method_11_code 8 (some (.array .int)) := B0
  have lew := own_cnt_le (own_free Hr e cn) W
  refine go_aload_n B d11_0 rfl rfl ?_
  refine go_getfield B d11_1 (w_63 H) FW ?_
  refine go_ifeq B d11_4 (fun c4 => ?_) (fun c4 => ?_)
  rotate_left
  · exact absurd c4 (by decide)
  refine go_iconst B (x := (0 : Int32)) d11_11 rfl ?_
  refine go_istore_n B #[.val (.ref g), .val (.int (0 : Int32)), .unset, .unset, .unset, .unset, .unset, .unset] d11_12 rfl ?_
  refine go_aload_n B d11_13 rfl rfl ?_
  refine go_getfield B d11_14 (w_56 H) FC ?_
  refine go_astore_n B #[.val (.ref g), .val (.int (0 : Int32)), .val (.ref cf), .unset, .unset, .unset, .unset, .unset] d11_17 rfl rfl ?_
  refine go_aload_n B d11_18 rfl rfl ?_
  refine go_arraylength B (x := (Int32.ofNat W)) d11_19 AC (by rw [bm_len]) ?_
  refine go_istore_n B #[.val (.ref g), .val (.int (0 : Int32)), .val (.ref cf), .val (.int (Int32.ofNat W)), .unset, .unset, .unset, .unset] d11_20 rfl ?_
  refine go_iconst B (x := (0 : Int32)) d11_21 rfl ?_
  refine go_istore B #[.val (.ref g), .val (.int (0 : Int32)), .val (.ref cf), .val (.int (Int32.ofNat W)), .val (.int (0 : Int32)), .unset, .unset, .unset] d11_22 rfl ?_
  refine mv1 H B hW hcn FH FR AH AC W 0 (by omega) .unset (fun _ => rfl) (Or.inl rfl) ?_
  intro s5' hsl
  rcases hsl with rfl | ⟨z5, rfl⟩
  · skip
    refine go_iload_n B d11_59 rfl ?_
    refine go_newarray B (i := (own_cnt (own_free Hr e cn) W)) (cap := 9) d11_60 (w_1 H) (i_ofNat (by omega)) (by omega) (by decide) (by decide) (by decide) ?_
    intro h330 a331 hba331 Ea331 Aa331 Ca331
    have ne_a331_g : a331 ≠ g := Nat.ne_of_gt (Nat.lt_of_lt_of_le (FW).lt (by omega))
    have ne_a331_hs : a331 ≠ hs := Nat.ne_of_gt (Nat.lt_of_lt_of_le (AH).lt (by omega))
    have ne_a331_cf : a331 ≠ cf := Nat.ne_of_gt (Nat.lt_of_lt_of_le (AC).lt (by omega))
    have ge_a331 : n0 ≤ a331 := by have q1 := Z0; omega
    have fr_a331 : h0.size ≤ a331 := by have q1 := (show Keep h0 h0 [] from (Keep.refl h0 _)).1; omega
    refine go_astore_n B #[.val (.ref g), .val (.int (Int32.ofNat (own_cnt (own_free Hr e cn) W))), .val (.ref a331), .val (.int (Int32.ofNat W)), .val (.int (Int32.ofNat W)), .unset, .unset, .unset] d11_62 rfl rfl ?_
    refine go_iconst B (x := (0 : Int32)) d11_63 rfl ?_
    refine go_istore_n B #[.val (.ref g), .val (.int (Int32.ofNat (own_cnt (own_free Hr e cn) W))), .val (.ref a331), .val (.int (0 : Int32)), .val (.int (Int32.ofNat W)), .unset, .unset, .unset] d11_64 rfl ?_
    refine go_aload_n B d11_65 rfl rfl ?_
    refine go_getfield B d11_66 (w_56 H) (Fld.ext Ea331 FC) ?_
    refine go_astore B #[.val (.ref g), .val (.int (Int32.ofNat (own_cnt (own_free Hr e cn) W))), .val (.ref a331), .val (.int (0 : Int32)), .val (.ref cf), .unset, .unset, .unset] d11_69 rfl rfl ?_
    refine go_aload B d11_71 rfl rfl ?_
    refine go_arraylength B (x := (Int32.ofNat W)) d11_73 (AV.ext AC Ea331) (by rw [bm_len]) ?_
    refine go_istore B #[.val (.ref g), .val (.int (Int32.ofNat (own_cnt (own_free Hr e cn) W))), .val (.ref a331), .val (.int (0 : Int32)), .val (.ref cf), .val (.int (Int32.ofNat W)), .unset, .unset] d11_74 rfl ?_
    refine go_iconst B (x := (0 : Int32)) d11_76 rfl ?_
    refine go_istore B #[.val (.ref g), .val (.int (Int32.ofNat (own_cnt (own_free Hr e cn) W))), .val (.ref a331), .val (.int (0 : Int32)), .val (.ref cf), .val (.int (Int32.ofNat W)), .val (.int (0 : Int32)), .unset] d11_77 rfl ?_
    refine mv2 H B hW hcn ge_a331 ne_a331_hs ne_a331_cf ne_a331_g W 0 (by omega) .unset (fun _ => rfl) h330 _ (Fld.ext Ea331 FH) (Fld.ext Ea331 FR) (AV.ext AH Ea331) (AV.ext AC Ea331) (bm_zero _ ▸ Aa331) (fun j hj => absurd hj (Nat.not_lt_zero _)) ?_
    intro h' mf' s7' K' A' I'
    refine go_aload_n B d11_121 rfl rfl ?_
    refine go_areturn B d11_122 rfl rfl rfl (by decide) (by decide) ?_
    have f332 : Keep h0 h' [] := (Keep.trans (Keep.ext (Keep.refl h0 _) Ea331) K' (allS (Or.inr fr_a331) all0))
    exact ⟨a331, mf', rfl, A', I', f332⟩
  · skip
    refine go_iload_n B d11_59 rfl ?_
    refine go_newarray B (i := (own_cnt (own_free Hr e cn) W)) (cap := 9) d11_60 (w_1 H) (i_ofNat (by omega)) (by omega) (by decide) (by decide) (by decide) ?_
    intro h333 a334 hba334 Ea334 Aa334 Ca334
    have ne_a334_g : a334 ≠ g := Nat.ne_of_gt (Nat.lt_of_lt_of_le (FW).lt (by omega))
    have ne_a334_hs : a334 ≠ hs := Nat.ne_of_gt (Nat.lt_of_lt_of_le (AH).lt (by omega))
    have ne_a334_cf : a334 ≠ cf := Nat.ne_of_gt (Nat.lt_of_lt_of_le (AC).lt (by omega))
    have ge_a334 : n0 ≤ a334 := by have q1 := Z0; omega
    have fr_a334 : h0.size ≤ a334 := by have q1 := (show Keep h0 h0 [] from (Keep.refl h0 _)).1; omega
    refine go_astore_n B #[.val (.ref g), .val (.int (Int32.ofNat (own_cnt (own_free Hr e cn) W))), .val (.ref a334), .val (.int (Int32.ofNat W)), .val (.int (Int32.ofNat W)), .val (.int z5), .unset, .unset] d11_62 rfl rfl ?_
    refine go_iconst B (x := (0 : Int32)) d11_63 rfl ?_
    refine go_istore_n B #[.val (.ref g), .val (.int (Int32.ofNat (own_cnt (own_free Hr e cn) W))), .val (.ref a334), .val (.int (0 : Int32)), .val (.int (Int32.ofNat W)), .val (.int z5), .unset, .unset] d11_64 rfl ?_
    refine go_aload_n B d11_65 rfl rfl ?_
    refine go_getfield B d11_66 (w_56 H) (Fld.ext Ea334 FC) ?_
    refine go_astore B #[.val (.ref g), .val (.int (Int32.ofNat (own_cnt (own_free Hr e cn) W))), .val (.ref a334), .val (.int (0 : Int32)), .val (.ref cf), .val (.int z5), .unset, .unset] d11_69 rfl rfl ?_
    refine go_aload B d11_71 rfl rfl ?_
    refine go_arraylength B (x := (Int32.ofNat W)) d11_73 (AV.ext AC Ea334) (by rw [bm_len]) ?_
    refine go_istore B #[.val (.ref g), .val (.int (Int32.ofNat (own_cnt (own_free Hr e cn) W))), .val (.ref a334), .val (.int (0 : Int32)), .val (.ref cf), .val (.int (Int32.ofNat W)), .unset, .unset] d11_74 rfl ?_
    refine go_iconst B (x := (0 : Int32)) d11_76 rfl ?_
    refine go_istore B #[.val (.ref g), .val (.int (Int32.ofNat (own_cnt (own_free Hr e cn) W))), .val (.ref a334), .val (.int (0 : Int32)), .val (.ref cf), .val (.int (Int32.ofNat W)), .val (.int (0 : Int32)), .unset] d11_77 rfl ?_
    refine mv2 H B hW hcn ge_a334 ne_a334_hs ne_a334_cf ne_a334_g W 0 (by omega) .unset (fun _ => rfl) h333 _ (Fld.ext Ea334 FH) (Fld.ext Ea334 FR) (AV.ext AH Ea334) (AV.ext AC Ea334) (bm_zero _ ▸ Aa334) (fun j hj => absurd hj (Nat.not_lt_zero _)) ?_
    intro h' mf' s7' K' A' I'
    refine go_aload_n B d11_121 rfl rfl ?_
    refine go_areturn B d11_122 rfl rfl rfl (by decide) (by decide) ?_
    have f335 : Keep h0 h' [] := (Keep.trans (Keep.ext (Keep.refl h0 _) Ea334) K' (allS (Or.inr fr_a334) all0))
    exact ⟨a334, mf', rfl, A', I', f335⟩
theorem d11_7 : Dc prog_19_method_11_code 7 (.iconst 0) 1 8 := ⟨by decide +kernel, rfl⟩
theorem d11_8 : Dc prog_19_method_11_code 8 (.newarray .int) 2 10 := ⟨by decide +kernel, rfl⟩
theorem d11_10 : Dc prog_19_method_11_code 10 (.areturn) 1 11 := ⟨by decide +kernel, rfl⟩
set_option maxRecDepth 65536 in
set_option maxHeartbeats 40000000 in
theorem rmMw {l : Launch} {Z : State} {a0 : Array Value} {n0 : Nat} (H : Wd a0 Z) (g : Addr) (h0 : Heap) (Z0 : n0 ≤ h0.size) (FW : Fld Z h0 g "com/example/plywright/plywright/games/ConnectFour" "won" "Z" (.int (1 : Int32))) :
    Ct l Z n0 (⟨"com/example/plywright/plywright/games/ConnectFour", "moves", "()[I"⟩ : MethodName) prog_19_method_11_code 8 (some (.array .int)) [] ({ frames := 0, cells := 1, slots := 9, locals := 0 } : Room) #[(.ref g)] h0 (fun v h => ∃ m, v = some (.ref m) ∧ AV Z h m .int [] ∧ Keep h0 h []) := by
  refine Ct.of (a0 := a0) (L0 := #[.val (.ref g), .unset, .unset, .unset, .unset, .unset, .unset, .unset]) (plainFor_of_name pn_com_example_plywright_plywright_games_ConnectFour) (fun m => by first | (simp [entryFrame, mkF, argsToLocals, Value.category]; done) | rfl) ?_
  intro κ B0
  have B : Ok κ l Z a0 n0 ({ frames := 0, cells := 1, slots := 9, locals := 0 } : Room) "com/example/plywright/plywright/games/ConnectFour" "moves" prog_19_method_11_code 8 (some (.array .int)) := B0
  refine go_aload_n B d11_0 rfl rfl ?_
  refine go_getfield B d11_1 (w_63 H) FW ?_
  refine go_ifeq B d11_4 (fun c4 => ?_) (fun c4 => ?_)
  · exact absurd c4 (by decide)
  refine go_iconst B (x := (0 : Int32)) d11_7 rfl ?_
  refine go_newarray B (i := 0) (cap := 0) d11_8 (w_1 H) rfl (Nat.le_refl _) (by decide) (by decide) (by decide) ?_
  intro h336 a337 hba337 Ea337 Aa337 Ca337
  have ne_a337_g : a337 ≠ g := Nat.ne_of_gt (Nat.lt_of_lt_of_le (FW).lt (by omega))
  have ge_a337 : n0 ≤ a337 := by have q1 := Z0; omega
  have fr_a337 : h0.size ≤ a337 := by have q1 := (show Keep h0 h0 [] from (Keep.refl h0 _)).1; omega
  have Ba337 : AV Z h336 a337 .int [] := Aa337
  refine go_areturn B d11_10 rfl rfl rfl (by decide) (by decide) ?_
  exact ⟨a337, rfl, Ba337, (Keep.ext (Keep.refl h0 _) Ea337)⟩
theorem own_sd_cases (P : Nat) : own_sd P = 1 ∨ own_sd P = 2 := by unfold own_sd; split <;> simp
theorem own_sd_ne0 (P : Nat) : ¬ own_sd P = 0 := by unfold own_sd; split <;> decide
theorem own_sd_succ (P : Nat) : ¬ own_sd P = own_sd (P + 1) := by
  unfold own_sd
  rcases Nat.mod_two_eq_zero_or_one P with h | h
  · rw [if_pos h, if_neg (by omega)]; decide
  · rw [if_neg (by omega), if_pos (by omega)]; decide
/-- two places of a padded board -/
theorem own_grid {S r1 x1 r2 x2 : Nat} (h1 : x1 < S) (h2 : x2 < S) (h : r1 * S + x1 = r2 * S + x2) : r1 = r2 ∧ x1 = x2 := by
  rcases Nat.lt_trichotomy r1 r2 with q | q | q
  · have := Nat.mul_le_mul_right S (show r1 + 1 ≤ r2 from q)
    rw [Nat.add_mul] at this
    omega
  · subst q; exact ⟨rfl, by omega⟩
  · have := Nat.mul_le_mul_right S (show r2 + 1 ≤ r1 from q)
    rw [Nat.add_mul] at this
    omega
/-- stones in column c among the first P plies of the columns cq -/
def own_e (cq : Nat → Nat) : Nat → Nat → Nat
  | 0, _ => 0
  | P + 1, c => own_e cq P c + (if c = cq P then 1 else 0)
def own_f (W : Nat) (cq : Nat → Nat) : Nat → Nat → Int32
  | 0 => fun _ => 0
  | P + 1 => updf (own_f W cq P) (own_cell W (cq P) (own_e cq P (cq P))) (own_sd P)
theorem own_e_self (cq : Nat → Nat) (P : Nat) : own_e cq (P + 1) (cq P) = own_e cq P (cq P) + 1 := by simp [own_e]
theorem own_e_mono (cq : Nat → Nat) (c : Nat) {i j : Nat} (h : i ≤ j) : own_e cq i c ≤ own_e cq j c := by
  induction j with
  | zero => obtain rfl : i = 0 := by omega
            exact Nat.le_refl _
  | succ j ih =>
    rcases Nat.lt_or_ge j i with q | q
    · obtain rfl : i = j + 1 := by omega
      exact Nat.le_refl _
    · exact Nat.le_trans (ih q) (by simp only [own_e]; omega)
theorem own_e_lt (cq : Nat → Nat) {i j : Nat} (h : i < j) : own_e cq i (cq i) < own_e cq j (cq i) := by
  have := own_e_mono cq (cq i) (show i + 1 ≤ j from h)
  rw [own_e_self] at this
  omega
theorem own_e_le (cq : Nat → Nat) (P c : Nat) : own_e cq P c ≤ P := by
  induction P with
  | zero => exact Nat.le_refl _
  | succ P ih => simp only [own_e]; split <;> omega
theorem own_e_upd (cq : Nat → Nat) (P : Nat) : updf (fun c => Int32.ofNat (own_e cq P c)) (cq P) (Int32.ofNat (own_e cq P (cq P) + 1)) = fun c => Int32.ofNat (own_e cq (P + 1) c) := by
  funext c
  unfold updf
  by_cases h : c = cq P
  · subst h; rw [if_pos rfl, own_e_self]
  · rw [if_neg h]; simp [own_e, h]
/-- where a stone lies -/
theorem own_f_ne {W : Nat} {cq : Nat → Nat} : ∀ {P p : Nat}, ¬ own_f W cq P p = 0 → ∃ j, j < P ∧ p = own_cell W (cq j) (own_e cq j (cq j)) ∧ own_f W cq P p = own_sd j := by
  intro P
  induction P with
  | zero => intro p h; exact absurd rfl h
  | succ P ih =>
    intro p h
    by_cases q : p = own_cell W (cq P) (own_e cq P (cq P))
    · exact ⟨P, by omega, q, by simp [own_f, updf, q]⟩
    · have e : own_f W cq (P + 1) p = own_f W cq P p := by simp [own_f, updf, q]
      rw [e] at h ⊢
      obtain ⟨j, h1, h2, h3⟩ := ih h
      exact ⟨j, by omega, h2, h3⟩
theorem own_f_s {W : Nat} {cq : Nat → Nat} {P p : Nat} (s : Nat) (h : own_f W cq P p = own_sd s) : ∃ j, j < P ∧ p = own_cell W (cq j) (own_e cq j (cq j)) ∧ own_sd j = own_sd s := by
  obtain ⟨j, h1, h2, h3⟩ := own_f_ne (W := W) (cq := cq) (P := P) (p := p) (by rw [h]; exact own_sd_ne0 s)
  exact ⟨j, h1, h2, by rw [← h3, h]⟩
theorem own_f_at {W : Nat} {cq : Nat → Nat} (hW : ∀ j, cq j < W) : ∀ {P j : Nat}, j < P → own_f W cq P (own_cell W (cq j) (own_e cq j (cq j))) = own_sd j := by
  intro P
  induction P with
  | zero => intro j h; omega
  | succ P ih =>
    intro j h
    rcases Nat.lt_or_ge j P with q | q
    · have hne : ¬ own_cell W (cq j) (own_e cq j (cq j)) = own_cell W (cq P) (own_e cq P (cq P)) := by
        intro e
        unfold own_cell at e
        have h1 := hW j; have h2 := hW P
        obtain ⟨a1, a2⟩ := own_grid (S := W + 4) (r1 := own_e cq j (cq j) + 2) (r2 := own_e cq P (cq P) + 2) (x1 := cq j + 2) (x2 := cq P + 2) (by omega) (by omega) (by omega)
        have h3 := own_e_lt cq q
        rw [show cq P = cq j by omega] at a1
        omega
      simp only [own_f, updf]
      rw [if_neg hne]; exact ih q
    · obtain rfl : j = P := by omega
      simp [own_f, updf]
/-- two places beside ply P's, in two other columns, don't both hold its stone: only two columns are played -/
theorem own_two {W P a b c r r1 x1 r2 x2 p1 p2 : Nat} {cq : Nat → Nat} (hW : ∀ j, cq j < W) (hab : ∀ j, cq j = a ∨ cq j = b) (hc : cq P = c) (hx1 : x1 < W + 4) (hx2 : x2 < W + 4) (h1 : x1 ≠ c + 2) (h2 : x2 ≠ c + 2) (h3 : x1 ≠ x2) (e1 : p1 = r1 * (W + 4) + x1) (e2 : p2 = r2 * (W + 4) + x2) :
    ¬ own_f W cq (P + 1) p1 = own_sd P ∨ ¬ own_f W cq (P + 1) p2 = own_sd P := by
  by_cases q1 : own_f W cq (P + 1) p1 = own_sd P
  · refine Or.inr fun q2 => ?_
    obtain ⟨j, -, g1, -⟩ := own_f_s P q1
    obtain ⟨i, -, g2, -⟩ := own_f_s P q2
    have w1 := hW j; have w2 := hW i
    unfold own_cell at g1 g2
    have a1 := (own_grid (S := W + 4) (r1 := r1) (r2 := own_e cq j (cq j) + 2) (x1 := x1) (x2 := cq j + 2) (by omega) (by omega) (by omega)).2
    have a2 := (own_grid (S := W + 4) (r1 := r2) (r2 := own_e cq i (cq i) + 2) (x1 := x2) (x2 := cq i + 2) (by omega) (by omega) (by omega)).2
    have b1 := hab j; have b2 := hab i; have b3 := hab P
    omega
  · exact Or.inl q1
theorem own_up {W P c r p : Nat} {cq : Nat → Nat} (hW : ∀ j, cq j < W) (hc : cq P = c) (hr : own_e cq P c = r) (e : p = (r + 3) * (W + 4) + (c + 2)) : ¬ own_f W cq (P + 1) p = own_sd P := by
  intro q
  obtain ⟨j, hj, g, -⟩ := own_f_s P q
  unfold own_cell at g
  have w1 := hW j; have w2 := hW P
  obtain ⟨a1, a2⟩ := own_grid (S := W + 4) (r1 := r + 3) (r2 := own_e cq j (cq j) + 2) (x1 := c + 2) (x2 := cq j + 2) (by omega) (by omega) (by omega)
  have hcj : cq j = c := by omega
  have h3 := own_e_mono cq c (show j ≤ P by omega)
  rw [hcj] at a1
  omega
/-- below row 0 nothing lies -/
theorem own_base {W P c p : Nat} {cq : Nat → Nat} (hW : ∀ j, cq j < W) (hc : c < W) (e : p = 1 * (W + 4) + (c + 2)) : ¬ own_f W cq (P + 1) p = own_sd P := by
  intro q
  obtain ⟨j, hj, g, -⟩ := own_f_s P q
  unfold own_cell at g
  have w1 := hW j
  obtain ⟨a1, a2⟩ := own_grid (S := W + 4) (r1 := 1) (r2 := own_e cq j (cq j) + 2) (x1 := c + 2) (x2 := cq j + 2) (by omega) (by omega) (by omega)
  omega
/-- where a column's plies come one behind the other, the stone below is the other side's -/
theorem own_down {W P c r p : Nat} {cq : Nat → Nat} (hW : ∀ j, cq j < W) (hc : cq P = c) (hr : own_e cq P c = r) (hcon : ∀ j, j < P → cq j = cq P → cq (P - 1) = cq P) (e : p = (r + 1) * (W + 4) + (c + 2)) : ¬ own_f W cq (P + 1) p = own_sd P := by
  intro q
  obtain ⟨j, hj, g, gs⟩ := own_f_s P q
  unfold own_cell at g
  have w1 := hW j; have w2 := hW P
  obtain ⟨a1, a2⟩ := own_grid (S := W + 4) (r1 := r + 1) (r2 := own_e cq j (cq j) + 2) (x1 := c + 2) (x2 := cq j + 2) (by omega) (by omega) (by omega)
  have hcj : cq j = c := by omega
  rw [hcj] at a1
  have hjP : j ≠ P := by intro z; subst z; omega
  have hl := hcon j (by omega) (by omega)
  rcases Nat.lt_or_ge j (P - 1) with z | z
  · have k1 := own_e_lt cq z
    have k2 := own_e_lt cq (show P - 1 < P by omega)
    rw [hcj] at k1
    rw [hl, hc] at k2
    omega
  · obtain rfl : P = j + 1 := by omega
    exact own_sd_succ j gs
/-- what makesFour asks of ply P, apart from the column's own stones -/
theorem own_lines {W Hr P a b c r q : Nat} {cq : Nat → Nat} (hW : ∀ j, cq j < W) (hab : ∀ j, cq j = a ∨ cq j = b) (hc : cq P = c) (hr : own_e cq P c = r) (hrH : r < Hr) (hq : own_cell W c r = q) :
    2 * (W + 5) ≤ q ∧ q + 2 * (W + 5) < (W + 4) * (Hr + 4) ∧ ¬ own_f W cq (P + 1) (q + (W + 4)) = own_sd P ∧
    (¬ own_f W cq (P + 1) (q + 1) = own_sd P ∨ ¬ own_f W cq (P + 1) (q + 2 * 1) = own_sd P) ∧ (¬ own_f W cq (P + 1) (q - 1) = own_sd P ∨ ¬ own_f W cq (P + 1) (q - 2 * 1) = own_sd P) ∧
    (¬ own_f W cq (P + 1) (q + (W + 5)) = own_sd P ∨ ¬ own_f W cq (P + 1) (q + 2 * (W + 5)) = own_sd P) ∧ (¬ own_f W cq (P + 1) (q - (W + 5)) = own_sd P ∨ ¬ own_f W cq (P + 1) (q - 2 * (W + 5)) = own_sd P) ∧
    (¬ own_f W cq (P + 1) (q + (W + 3)) = own_sd P ∨ ¬ own_f W cq (P + 1) (q + 2 * (W + 3)) = own_sd P) ∧ (¬ own_f W cq (P + 1) (q - (W + 3)) = own_sd P ∨ ¬ own_f W cq (P + 1) (q - 2 * (W + 3)) = own_sd P) := by
  have w2 := hW P
  have hcW : c < W := by omega
  have e0 : q = r * (W + 4) + 2 * (W + 4) + c + 2 := by rw [← hq]; unfold own_cell; rw [Nat.add_mul]
  have m1 : (r + 1) * (W + 4) = r * (W + 4) + (W + 4) := by rw [Nat.add_mul]; omega
  have m3 : (r + 3) * (W + 4) = r * (W + 4) + 3 * (W + 4) := by rw [Nat.add_mul]
  have m4 : (r + 4) * (W + 4) = r * (W + 4) + 4 * (W + 4) := by rw [Nat.add_mul]
  have m2 : (r + 2) * (W + 4) = r * (W + 4) + 2 * (W + 4) := by rw [Nat.add_mul]
  have m5 : (r + 5) * (W + 4) = r * (W + 4) + 5 * (W + 4) := by rw [Nat.add_mul]
  have m6 : (r + 5) * (W + 4) ≤ (W + 4) * (Hr + 4) := by rw [Nat.mul_comm (W + 4)]; exact Nat.mul_le_mul_right _ (by omega)
  refine ⟨by omega, by omega, own_up hW hc hr (by omega), ?_, ?_, ?_, ?_, ?_, ?_⟩
  · exact own_two hW hab hc (r1 := r + 2) (x1 := c + 3) (r2 := r + 2) (x2 := c + 4) (by omega) (by omega) (by omega) (by omega) (by omega) (by omega) (by omega) (r := r)
  · exact own_two hW hab hc (r1 := r + 2) (x1 := c + 1) (r2 := r + 2) (x2 := c) (by omega) (by omega) (by omega) (by omega) (by omega) (by omega) (by omega) (r := r)
  · exact own_two hW hab hc (r1 := r + 3) (x1 := c + 3) (r2 := r + 4) (x2 := c + 4) (by omega) (by omega) (by omega) (by omega) (by omega) (by omega) (by omega) (r := r)
  · exact own_two hW hab hc (r1 := r + 1) (x1 := c + 1) (r2 := r) (x2 := c) (by omega) (by omega) (by omega) (by omega) (by omega) (by omega) (by omega) (r := r)
  · exact own_two hW hab hc (r1 := r + 3) (x1 := c + 1) (r2 := r + 4) (x2 := c) (by omega) (by omega) (by omega) (by omega) (by omega) (by omega) (by omega) (r := r)
  · exact own_two hW hab hc (r1 := r + 1) (x1 := c + 3) (r2 := r) (x2 := c + 4) (by omega) (by omega) (by omega) (by omega) (by omega) (by omega) (by omega) (r := r)
/-! the columns played -/
def own_cq (k1 a b : Nat) : Nat → Nat := fun i => if i < k1 then a else b
def own_cw (a b : Nat) : Nat → Nat := fun i => if i % 2 = 0 then a else b
theorem own_cq_lt {k1 a b W : Nat} (ha : a < W) (hb : b < W) (j : Nat) : own_cq k1 a b j < W := by unfold own_cq; split <;> assumption
theorem own_cw_lt {a b W : Nat} (ha : a < W) (hb : b < W) (j : Nat) : own_cw a b j < W := by unfold own_cw; split <;> assumption
theorem own_cq_ab (k1 a b j : Nat) : own_cq k1 a b j = a ∨ own_cq k1 a b j = b := by unfold own_cq; split <;> simp
theorem own_cw_ab (a b j : Nat) : own_cw a b j = a ∨ own_cw a b j = b := by unfold own_cw; split <;> simp
theorem own_cq_con (k1 a b P : Nat) : ∀ j, j < P → own_cq k1 a b j = own_cq k1 a b P → own_cq k1 a b (P - 1) = own_cq k1 a b P := by
  intro j hj h
  unfold own_cq at *
  split at h <;> split at h <;> split <;> omega
theorem own_e_cq {k1 a b : Nat} (hab : a ≠ b) (P : Nat) : own_e (own_cq k1 a b) P a = min P k1 ∧ own_e (own_cq k1 a b) P b = P - k1 := by
  induction P with
  | zero => simp [own_e]
  | succ P ih =>
    obtain ⟨i1, i2⟩ := ih
    by_cases h : P < k1
    · have hq : own_cq k1 a b P = a := by unfold own_cq; rw [if_pos h]
      have hba : ¬ b = a := fun z => hab z.symm
      simp only [own_e, i1, i2, hq, hba, if_true, if_false]; omega
    · have hq : own_cq k1 a b P = b := by unfold own_cq; rw [if_neg h]
      simp only [own_e, i1, i2, hq, hab, if_true, if_false]; omega
theorem own_e_cc (k1 a P : Nat) : own_e (own_cq k1 a a) P a = P := by
  induction P with
  | zero => rfl
  | succ P ih => simp [own_e, ih, own_cq]
theorem own_e_no {cq : Nat → Nat} {c : Nat} (h : ∀ j, cq j ≠ c) (P : Nat) : own_e cq P c = 0 := by
  induction P with
  | zero => rfl
  | succ P ih => simp only [own_e, ih]; rw [if_neg (fun z => h P z.symm)]
theorem own_e_n {K1 K2 A B : Nat} : (A ≠ B → own_e (own_cq K1 A B) (K1 + K2) A = K1 ∧ own_e (own_cq K1 A B) (K1 + K2) B = K2) ∧ (A = B → own_e (own_cq K1 A B) (K1 + K2) A = K1 + K2 ∧ own_e (own_cq K1 A B) (K1 + K2) B = K1 + K2) := by
  refine ⟨fun h => ?_, fun h => ?_⟩
  · have := own_e_cq (k1 := K1) h (K1 + K2); omega
  · subst h; exact ⟨own_e_cc _ _ _, own_e_cc _ _ _⟩
theorem own_row {K1 K2 A B Hr P : Nat} (hP : P < K1 + K2) (h1 : K1 ≤ 4) (h2 : K2 ≤ 4) (h4 : 4 ≤ Hr) (hs : A = B → K1 + K2 ≤ Hr) : own_e (own_cq K1 A B) P (own_cq K1 A B P) < Hr := by
  by_cases h : A = B
  · subst h
    rw [show own_cq K1 A A P = A by unfold own_cq; split <;> rfl, own_e_cc]
    have := hs rfl; omega
  · have e := own_e_cq (k1 := K1) h P
    unfold own_cq at e ⊢
    by_cases hk : P < K1
    · rw [if_pos hk, e.1]; omega
    · rw [if_neg hk, e.2]; omega
theorem own_e_cw {a b : Nat} (hab : a ≠ b) (P : Nat) : own_e (own_cw a b) P a = (P + 1) / 2 ∧ own_e (own_cw a b) P b = P / 2 := by
  induction P with
  | zero => simp [own_e]
  | succ P ih =>
    obtain ⟨i1, i2⟩ := ih
    by_cases h : P % 2 = 0
    · have hq : own_cw a b P = a := by unfold own_cw; rw [if_pos h]
      have hba : ¬ b = a := fun z => hab z.symm
      simp only [own_e, i1, i2, hq, hba, if_true, if_false]; omega
    · have hq : own_cw a b P = b := by unfold own_cw; rw [if_neg h]
      simp only [own_e, i1, i2, hq, hab, if_true, if_false]; omega
theorem own_e_w {a b : Nat} (hab : a ≠ b) (P : Nat) : own_e (own_cw a b) P (own_cw a b P) = P / 2 := by
  have e := own_e_cw hab P
  unfold own_cw at e ⊢
  by_cases h : P % 2 = 0
  · rw [if_pos h, e.1]; omega
  · rw [if_neg h, e.2]
theorem own_cw_back {a b P i : Nat} (h : 2 * i ≤ P) : own_cw a b (P - 2 * i) = own_cw a b P := by
  unfold own_cw
  rw [show (P - 2 * i) % 2 = P % 2 by omega]
theorem own_wdown {W P a b i k q : Nat} (ha : a < W) (hb : b < W) (hab : a ≠ b) (hk : P / 2 = k) (hi : i ≤ k) (hq : own_cell W (own_cw a b P) k = q) : own_f W (own_cw a b) (P + 1) (q - i * (W + 4)) = own_sd P := by
  have h := own_f_at (W := W) (cq := own_cw a b) (own_cw_lt ha hb) (P := P + 1) (j := P - 2 * i) (by omega)
  rw [own_e_w hab, own_cw_back (by omega)] at h
  rw [show q - i * (W + 4) = own_cell W (own_cw a b P) ((P - 2 * i) / 2) from ?_, h]
  · unfold own_sd; rw [show (P - 2 * i) % 2 = P % 2 by omega]
  · rw [← hq, show (P - 2 * i) / 2 = k - i by omega]
    unfold own_cell
    have m : (k + 2) * (W + 4) = (k - i + 2) * (W + 4) + i * (W + 4) := by rw [← Nat.add_mul]; congr 1; omega
    omega
theorem own_wbase {W P a b k q : Nat} (ha : a < W) (hb : b < W) (hq : own_cell W (own_cw a b P) k = q) : ¬ own_f W (own_cw a b) (P + 1) (q - (k + 1) * (W + 4)) = own_sd P ∧ (k + 1) * (W + 4) ≤ q := by
  have m : (k + 2) * (W + 4) = (k + 1) * (W + 4) + 1 * (W + 4) := by rw [← Nat.add_mul]
  unfold own_cell at hq
  exact ⟨own_base (own_cw_lt ha hb) (own_cw_lt ha hb P) (by omega), by omega⟩
/-! centreFirst -/
def own_cn (W i : Nat) : Nat := if (i + W) % 2 = 0 then (W - 2 - i) / 2 else (W - 1 + i) / 2
theorem own_cn_lt {W j : Nat} (h4 : 4 ≤ W) (hj : j < W) : own_cn W j < W := by unfold own_cn; split <;> omega
theorem own_rank_all : ∀ W : Fin 10, 4 ≤ W.val → ∀ j : Fin 10, j.val < W.val → own_rank (Int32.ofNat (own_cn W.val j.val)) (Int32.ofNat W.val) = Int32.ofNat j.val := by decide +kernel
theorem own_cn_rank {W j : Nat} (h4 : 4 ≤ W) (h9 : W ≤ 9) (hj : j < W) : own_rank (Int32.ofNat (own_cn W j)) (Int32.ofNat W) = Int32.ofNat j := own_rank_all ⟨W, by omega⟩ h4 ⟨j, by omega⟩ hj
theorem own_full_all : ∀ W : Fin 10, 4 ≤ W.val → ∀ A : Fin 10, A.val < W.val → ∀ B : Fin 10, B.val < W.val → ∀ fa fb : Bool, (A = B → fa = fb) → own_cnt (fun j => !((fa && own_cn W.val j == A.val) || (fb && own_cn W.val j == B.val))) W.val + (if fa then 1 else 0) + (if fb && A.val != B.val then 1 else 0) = W.val := by decide +kernel
theorem own_cnt_congr {p p' : Nat → Bool} {W : Nat} (h : ∀ j, j < W → p j = p' j) : own_cnt p W = own_cnt p' W := by
  induction W with
  | zero => rfl
  | succ W ih => simp only [own_cnt]; rw [ih (fun j hj => h j (by omega)), h W (by omega)]
theorem own_cnt_sur {p : Nat → Bool} {W i : Nat} (h : i < own_cnt p W) : ∃ j, j < W ∧ p j = true ∧ own_cnt p j = i := by
  induction W with
  | zero => exact absurd h (Nat.not_lt_zero _)
  | succ W ih =>
    rcases Nat.lt_or_ge i (own_cnt p W) with q | q
    · obtain ⟨j, h1, h2⟩ := ih q
      exact ⟨j, by omega, h2⟩
    · simp only [own_cnt] at h
      by_cases hp : p W = true
      · rw [if_pos hp] at h
        exact ⟨W, by omega, hp, by omega⟩
      · rw [if_neg hp] at h; omega
/-- the heights at the end -/
abbrev own_en (K1 K2 A B : Nat) : Nat → Int32 := fun c => Int32.ofNat (own_e (own_cq K1 A B) (K1 + K2) c)
abbrev own_pn (K1 K2 A B W Hr : Nat) : Nat → Bool := own_free Hr (own_en K1 K2 A B) (own_cn W)
theorem own_full {K1 K2 A B W Hr : Nat} (h4 : 4 ≤ W) (h9 : W ≤ 9) (hA : A < W) (hB : B < W) (hH : 4 ≤ Hr) (hH9 : Hr ≤ 9) (k1 : K1 ≤ 4) (k2 : K2 ≤ 4) (hs : A = B → K1 + K2 ≤ Hr) (fa fb : Bool) (ea : fa = true ↔ own_e (own_cq K1 A B) (K1 + K2) A = Hr) (eb : fb = true ↔ own_e (own_cq K1 A B) (K1 + K2) B = Hr) :
    own_cnt (own_pn K1 K2 A B W Hr) W + (if fa then 1 else 0) + (if fb && A != B then 1 else 0) = W := by
  have hh := own_full_all ⟨W, by omega⟩ h4 ⟨A, by omega⟩ hA ⟨B, by omega⟩ hB fa fb (fun q => by
    have q : A = B := by simpa using q
    subst q
    exact Bool.eq_iff_iff.mpr (ea.trans eb.symm))
  rw [own_cnt_congr (p' := fun j => !((fa && own_cn W j == A) || (fb && own_cn W j == B)))]
  · simpa using hh
  intro j hj
  have en := own_e_n (K1 := K1) (K2 := K2) (A := A) (B := B)
  have hle : own_e (own_cq K1 A B) (K1 + K2) (own_cn W j) ≤ K1 + K2 := own_e_le _ _ _
  have key : own_pn K1 K2 A B W Hr j = decide (own_e (own_cq K1 A B) (K1 + K2) (own_cn W j) < Hr) := by
    unfold own_pn own_free own_en
    congr 1
    apply propext
    constructor
    · intro z
      have := i_of_lt (i_ofNat (by omega)) (i_ofNat (by omega)) z
      omega
    · intro z; exact i_lt (i_ofNat (by omega)) (i_ofNat (by omega)) (by omega)
  rw [key]
  by_cases cA : own_cn W j = A
  · rw [cA]
    by_cases hf : own_e (own_cq K1 A B) (K1 + K2) A = Hr
    · have := ea.mpr hf
      simp [this, hf]
    · have f0 : fa = false := by cases fa with
        | false => rfl
        | true => exact absurd (ea.mp rfl) hf
      by_cases cB : A = B
      · have f1 : fb = false := by
          cases fb with
          | false => rfl
          | true => exact absurd ((en.2 cB).1.trans ((en.2 cB).2.symm.trans (eb.mp rfl))) hf
        have := (en.2 cB).1; have := hs cB
        rw [f0, f1, decide_eq_true (show own_e (own_cq K1 A B) (K1 + K2) A < Hr by omega)]
        rfl
      · have := (en.1 cB).1
        rw [f0, decide_eq_true (show own_e (own_cq K1 A B) (K1 + K2) A < Hr by omega)]
        simp [cB]
  · by_cases cB : own_cn W j = B
    · have hne : A ≠ B := fun z => cA (by rw [cB, z])
      have := (en.1 hne).2
      rw [cB]
      by_cases hf : own_e (own_cq K1 A B) (K1 + K2) B = Hr
      · have := eb.mpr hf
        simp [this, hf]
      · have f0 : fb = false := by cases fb with
          | false => rfl
          | true => exact absurd (eb.mp rfl) hf
        have hBA : ¬ B = A := fun z => hne z.symm
        rw [f0, decide_eq_true (show own_e (own_cq K1 A B) (K1 + K2) B < Hr by omega)]
        simp [hBA]
    · have z := own_e_no (cq := own_cq K1 A B) (c := own_cn W j) (fun i q => by rcases own_cq_ab K1 A B i with w | w <;> rw [w] at q <;> simp_all) (K1 + K2)
      rw [z, decide_eq_true (show 0 < Hr by omega)]
      simp [cA, cB]
/-- what the law's ok asks of the moves -/
theorem own_ok {K1 K2 A B W Hr : Nat} {mf : Nat → Int32} {fa fb : Int32} (h4 : 4 ≤ W) (h9 : W ≤ 9) (hA : A < W) (hB : B < W) (ha : ¬ fa = 0 → own_e (own_cq K1 A B) (K1 + K2) A = Hr) (hb : ¬ fb = 0 → own_e (own_cq K1 A B) (K1 + K2) B = Hr) (I : own_inv (own_pn K1 K2 A B W Hr) (own_cn W) mf W) :
    (∀ j, j < own_cnt (own_pn K1 K2 A B W Hr) W → ¬ mf j < 0 ∧ mf j < Int32.ofNat W) ∧ (∀ j, j < own_cnt (own_pn K1 K2 A B W Hr) W → ¬ fa = 0 → ¬ mf j = Int32.ofNat A) ∧ (∀ j, j < own_cnt (own_pn K1 K2 A B W Hr) W → ¬ fb = 0 → ¬ mf j = Int32.ofNat B) ∧ (∀ j, j < own_cnt (own_pn K1 K2 A B W Hr) W → 0 < j → own_rank (mf (j - 1)) (Int32.ofNat W) < own_rank (mf j) (Int32.ofNat W)) := by
  have none : ∀ j X, j < W → own_pn K1 K2 A B W Hr j = true → own_cn W j < W → X < W → own_e (own_cq K1 A B) (K1 + K2) X = Hr → ¬ Int32.ofNat (own_cn W j) = Int32.ofNat X := by
    intro j X hj hp hc hX hf e
    have e2 : own_cn W j = X := by
      have q1 := i_ofNat (n := own_cn W j) (by omega)
      have q2 := i_ofNat (n := X) (by omega)
      rw [e] at q1; omega
    unfold own_pn own_free own_en at hp
    simp only [decide_eq_true_eq] at hp
    rw [e2, hf] at hp
    exact Int32.lt_irrefl hp
  refine ⟨fun i hi => ?_, fun i hi hz => ?_, fun i hi hz => ?_, fun i hi h0 => ?_⟩
  · obtain ⟨j, h1, h2, rfl⟩ := own_cnt_sur hi
    rw [I j h1 h2]
    have hc := own_cn_lt h4 h1
    exact ⟨i_nlt (i_ofNat (by omega)) (show (0 : Int32).toInt = 0 from rfl) (by omega), i_lt (i_ofNat (by omega)) (i_ofNat (by omega)) (by omega)⟩
  · obtain ⟨j, h1, h2, rfl⟩ := own_cnt_sur hi
    rw [I j h1 h2]
    exact none j A h1 h2 (own_cn_lt h4 h1) hA (ha hz)
  · obtain ⟨j, h1, h2, rfl⟩ := own_cnt_sur hi
    rw [I j h1 h2]
    exact none j B h1 h2 (own_cn_lt h4 h1) hB (hb hz)
  · obtain ⟨j, h1, h2, h3⟩ := own_cnt_sur hi
    obtain ⟨j', g1, g2, g3⟩ := own_cnt_sur (show i - 1 < own_cnt (own_pn K1 K2 A B W Hr) W by omega)
    have e1 := I j h1 h2; have e2 := I j' g1 g2
    rw [h3] at e1; rw [g3] at e2
    rw [e1, e2, own_cn_rank h4 h9 h1, own_cn_rank h4 h9 g1]
    have hlt : j' < j := by
      rcases Nat.lt_or_ge j' j with q | q
      · exact q
      · have := own_cnt_mono (own_pn K1 K2 A B W Hr) q; omega
    exact i_lt (i_ofNat (by omega)) (i_ofNat (by omega)) (by omega)
/-! the law's own numbers -/
theorem n_ne0 {n : Nat} (h : 0 < n) (h2 : n < 2147483648) : ¬ Int32.ofNat n = 0 := i_ne (i_ofNat h2) (show (0 : Int32).toInt = 0 from rfl) (by omega)
theorem own_msk (x : Int32) {n : Nat} (h : 0 < n) (h2 : n < 2147483648) : ∃ A : Nat, A < n ∧ (x &&& (2147483647 : Int32)) % Int32.ofNat n = Int32.ofNat A := by
  have a := i_and x 2147483647 (by decide)
  have e := i_mod (x := x &&& 2147483647) rfl (i_ofNat h2) a.1 (by omega)
  have b1 := Int.emod_nonneg (x &&& (2147483647 : Int32)).toInt (show (n : Int) ≠ 0 by omega)
  have b2 := Int.emod_lt_of_pos (x &&& (2147483647 : Int32)).toInt (show (0 : Int) < n by omega)
  refine ⟨((x &&& (2147483647 : Int32)).toInt % (n : Int)).toNat, by omega, i_eq e ?_⟩
  rw [i_ofNat (by omega)]; omega
theorem own_size (x : Int32) : ∃ W : Nat, 4 ≤ W ∧ W ≤ 9 ∧ (4 : Int32) + (x &&& (2147483647 : Int32)) % (6 : Int32) = Int32.ofNat W := by
  obtain ⟨A, h, e⟩ := own_msk x (n := 6) (by omega) (by omega)
  exact ⟨4 + A, by omega, by omega, by rw [show (6 : Int32) = Int32.ofNat 6 from rfl, e, show (4 : Int32) = Int32.ofNat 4 from rfl, n_add]⟩
theorem own_five (x : Int32) : ∃ K : Nat, K ≤ 4 ∧ (x &&& (2147483647 : Int32)) % (5 : Int32) = Int32.ofNat K := by
  obtain ⟨A, h, e⟩ := own_msk x (n := 5) (by omega) (by omega)
  exact ⟨A, by omega, e⟩
theorem n_mod {m n : Nat} (hm : m < 2147483648) (hn : n < 2147483648) (h0 : 0 < n) : Int32.ofNat m % Int32.ofNat n = Int32.ofNat (m % n) := by
  have e := i_mod (i_ofNat hm) (i_ofNat hn) (by omega) (by omega)
  have := Nat.mod_lt m h0
  refine i_eq e ?_
  rw [i_ofNat (by omega)]; omega
theorem own_other {A t W : Nat} (hA : A < W) (ht : t < W - 1) : (A + 1 + t) % W < W ∧ A ≠ (A + 1 + t) % W := by
  refine ⟨Nat.mod_lt _ (by omega), fun q => ?_⟩
  rcases Nat.lt_or_ge (A + 1 + t) W with z | z
  · rw [Nat.mod_eq_of_lt z] at q; omega
  · rw [Nat.mod_eq_sub_mod z, Nat.mod_eq_of_lt (by omega)] at q; omega
theorem own_minN {a b : Nat} (ha : a < 2147483648) (hb : b < 2147483648) : own_min (Int32.ofNat a) (Int32.ofNat b) = Int32.ofNat (min a b) := by
  unfold own_min
  split
  · rename_i h
    have := i_of_lt (i_ofNat hb) (i_ofNat ha) h
    rw [show min a b = b by omega]
  · rename_i h
    have := i_of_nlt (i_ofNat hb) (i_ofNat ha) h
    rw [show min a b = a by omega]
theorem n_inj {m n : Nat} (hm : m < 2147483648) (hn : n < 2147483648) (h : Int32.ofNat m = Int32.ofNat n) : m = n := by
  have e1 := i_ofNat hm; have e2 := i_ofNat hn
  rw [h] at e1; omega
theorem own_cq_t {k1 a b i : Nat} (h : i < k1) : a = own_cq k1 a b i := by unfold own_cq; rw [if_pos h]
theorem own_cq_f {k1 a b i : Nat} (h : k1 ≤ i) : b = own_cq k1 a b i := by unfold own_cq; rw [if_neg (by omega)]
/-- what the law knows of the full columns -/
def own_J (K1 K2 A B W Hr : Nat) (fa fb fu : Int32) : Prop := (¬ fa = 0 → own_e (own_cq K1 A B) (K1 + K2) A = Hr) ∧ (¬ fb = 0 → own_e (own_cq K1 A B) (K1 + K2) B = Hr) ∧ Int32.ofNat (own_cnt (own_pn K1 K2 A B W Hr) W) = Int32.ofNat W - fu ∧ (fa = 0 ∨ fa = 1) ∧ (fb = 0 ∨ fb = 1)
theorem own_J_of {K1 K2 A B W Hr : Nat} (h4 : 4 ≤ W) (h9 : W ≤ 9) (hA : A < W) (hB : B < W) (hH : 4 ≤ Hr) (hH9 : Hr ≤ 9) (k1 : K1 ≤ 4) (k2 : K2 ≤ 4) (hs : A = B → K1 + K2 ≤ Hr) (a b : Bool) (x y z : Int32) (hx : x = if a then 1 else 0) (hy : y = if b then 1 else 0) (hz : z = Int32.ofNat ((if a then 1 else 0) + (if b && A != B then 1 else 0))) (ea : a = true ↔ own_e (own_cq K1 A B) (K1 + K2) A = Hr) (eb : b = true ↔ own_e (own_cq K1 A B) (K1 + K2) B = Hr) : own_J K1 K2 A B W Hr x y z := by
  have hf := own_full h4 h9 hA hB hH hH9 k1 k2 hs a b ea eb
  refine ⟨fun q => ea.mp ?_, fun q => eb.mp ?_, ?_, ?_, ?_⟩
  · cases a with
    | true => rfl
    | false => exact absurd hx q
  · cases b with
    | true => rfl
    | false => exact absurd hy q
  · rw [hz, n_sub (by omega)]; congr 1; omega
  · rw [hx]; cases a <;> simp
  · rw [hy]; cases b <;> simp
/-- two columns -/
theorem own_J_ne {K1 K2 A B W Hr : Nat} (h4 : 4 ≤ W) (h9 : W ≤ 9) (hA : A < W) (hB : B < W) (hH : 4 ≤ Hr) (hH9 : Hr ≤ 9) (k1 : K1 ≤ 4) (k2 : K2 ≤ 4) (hne : ¬ Int32.ofNat A = Int32.ofNat B) (a b : Bool) (ca : a = true ↔ Int32.ofNat K1 = Int32.ofNat Hr) (cb : b = true ↔ Int32.ofNat K2 = Int32.ofNat Hr) : own_J K1 K2 A B W Hr (if a then 1 else 0) (if b then 1 else 0) (Int32.ofNat ((if a then 1 else 0) + (if b then 1 else 0))) := by
  have hAB : A ≠ B := fun q => hne (by rw [q])
  have e := own_e_n (K1 := K1) (K2 := K2) (A := A) (B := B) |>.1 hAB
  refine own_J_of h4 h9 hA hB hH hH9 k1 k2 (fun q => absurd q hAB) a b _ _ _ rfl rfl (by simp [hAB]) (ca.trans ?_) (cb.trans ?_)
  · rw [e.1]; exact ⟨n_inj (by omega) (by omega), fun q => by rw [q]⟩
  · rw [e.2]; exact ⟨n_inj (by omega) (by omega), fun q => by rw [q]⟩
theorem own_J_eq {K1 K2 A B W Hr : Nat} (h4 : 4 ≤ W) (h9 : W ≤ 9) (hA : A < W) (hB : B < W) (hH : 4 ≤ Hr) (hH9 : Hr ≤ 9) (k1 : K1 ≤ 4) (k2 : K2 ≤ 4) (hs : A = B → K1 + K2 ≤ Hr) (hne : Int32.ofNat A = Int32.ofNat B) (a : Bool) (ca : a = true ↔ Int32.ofNat (K1 + K2) = Int32.ofNat Hr) : own_J K1 K2 A B W Hr (if a then 1 else 0) (if a then 1 else 0) (if a then 1 else 0) := by
  have hAB : A = B := n_inj (by omega) (by omega) hne
  have e := own_e_n (K1 := K1) (K2 := K2) (A := A) (B := B) |>.2 hAB
  have hsum := hs hAB
  refine own_J_of h4 h9 hA hB hH hH9 k1 k2 hs a a _ _ _ rfl rfl (by simp [hAB]; cases a <;> rfl) (ca.trans ?_) (ca.trans ?_)
  · rw [e.1]; exact ⟨n_inj (by omega) (by omega), fun q => by rw [q]⟩
  · rw [e.2]; exact ⟨n_inj (by omega) (by omega), fun q => by rw [q]⟩
theorem bm_congr {N : Nat} {f f' : Nat → Int32} (h : ∀ j, j < N → f j = f' j) : bm N f = bm N f' := List.map_congr_left fun j hj => by rw [h j (List.mem_range.mp hj)]
theorem n_div {m n : Nat} (hm : m < 2147483648) (hn : n < 2147483648) : Int32.ofNat m / Int32.ofNat n = Int32.ofNat (m / n) := by
  have h1 : m / n ≤ m := Nat.div_le_self m n
  have h0 : (0 : Int) ≤ ((m / n : Nat) : Int) := Int.natCast_nonneg _
  have h2 : ((m / n : Nat) : Int) ≤ (m : Int) := Int.ofNat_le.mpr h1
  have e : (Int32.ofNat m / Int32.ofNat n).toInt = ((m / n : Nat) : Int) := by
    rw [Int32.toInt_div, i_ofNat hm, i_ofNat hn, ← Int.ofNat_tdiv]
    generalize ((m / n : Nat) : Int) = z at *
    exact Int.bmod_eq_of_le (by omega) (by omega)
  exact i_eq e (i_ofNat (by omega))
theorem own_cell_lt {W Hr c r : Nat} (hc : c < W) (hr : r < Hr) : own_cell W c r < (W + 4) * (Hr + 4) := by
  unfold own_cell
  have h1 : (r + 2) * (W + 4) ≤ (Hr + 1) * (W + 4) := Nat.mul_le_mul_right _ (by omega)
  have h2 : (W + 4) * (Hr + 4) = (Hr + 1) * (W + 4) + 3 * (W + 4) := by rw [Nat.mul_comm, ← Nat.add_mul]
  omega
theorem own_cn_left {W t : Nat} (ht : t < W) (hp : t % 2 = (W - 1) % 2) : (W - 1 - t) / 2 = own_cn W (t - 1) := by
  unfold own_cn; split <;> omega
theorem own_cn_right {W t : Nat} (ht : t < W) (h0 : t ≠ 0) (hp : t % 2 = (W - 1) % 2) : (W - 1 + t) / 2 = own_cn W t := by
  unfold own_cn; split <;> omega
def own_cf (W : Nat) (f : Nat → Int32) (i : Nat) : Prop := ∀ j, j < i → f j = Int32.ofNat (own_cn W j)
theorem own_cf_set {W i c : Nat} {f : Nat → Int32} (h : own_cf W f i) (hc : c = own_cn W i) : own_cf W (updf f i (Int32.ofNat c)) (i + 1) := by
  intro j hj
  unfold updf
  rcases Nat.lt_or_ge j i with q | q
  · rw [if_neg (by omega)]; exact h j q
  · obtain rfl : j = i := by omega
    rw [if_pos rfl, hc]
theorem d1_113 : Dc prog_19_method_1_code 113 (.iload 6) 2 115 := ⟨by decide +kernel, rfl⟩
theorem d1_115 : Dc prog_19_method_1_code 115 (.iload 4) 2 117 := ⟨by decide +kernel, rfl⟩
theorem d1_117 : Db prog_19_method_1_code 117 (.if_icmp .gt 23) 23 120 140 := ⟨by decide +kernel, rfl, rfl⟩
theorem d1_120 : Dc prog_19_method_1_code 120 (.aload_n 0) 1 121 := ⟨by decide +kernel, rfl⟩
theorem d1_121 : Dc prog_19_method_1_code 121 (.getfield 46) 3 124 := ⟨by decide +kernel, rfl⟩
theorem w_46 {a0 : Array Value} {Z : State} (H : Wd a0 Z) : (Jvm.Cond.fieldLink "com/example/plywright/plywright/games/ConnectFour" (46 : Nat) "com/example/plywright/plywright/games/ConnectFour" "onMiddleRow" "[Z").before a0 Z = true := H _ (List.mem_of_getElem? (i := 46) rfl)
theorem d1_124 : Dc prog_19_method_1_code 124 (.aload_n 0) 1 125 := ⟨by decide +kernel, rfl⟩
theorem d1_125 : Dc prog_19_method_1_code 125 (.iload 5) 2 127 := ⟨by decide +kernel, rfl⟩
theorem d1_127 : Dc prog_19_method_1_code 127 (.iload 6) 2 129 := ⟨by decide +kernel, rfl⟩
theorem d1_129 : Dc prog_19_method_1_code 129 (.invokevirtual 50) 3 132 := ⟨by decide +kernel, rfl⟩
theorem d1_132 : Dc prog_19_method_1_code 132 (.iconst 1) 1 133 := ⟨by decide +kernel, rfl⟩
theorem d1_133 : Dc prog_19_method_1_code 133 (.bastore) 1 134 := ⟨by decide +kernel, rfl⟩
theorem d1_134 : Dc prog_19_method_1_code 134 (.iinc 6 1) 3 137 := ⟨by decide +kernel, rfl⟩
theorem d1_137 : Db prog_19_method_1_code 137 (.goto (-24)) (-24) 140 113 := ⟨by decide +kernel, rfl, rfl⟩
set_option maxRecDepth 65536 in
set_option maxHeartbeats 40000000 in
theorem mid1 {κ : Cx} {l : Launch} {Z : State} {a0 : Array Value} {n0 : Nat} (H : Wd a0 Z) {km : Nat} (B : OkK km κ l Z a0 n0 ({ frames := 1, cells := 12, slots := 850, locals := 30 } : Room) "com/example/plywright/plywright/games/ConnectFour" "<init>" prog_19_method_1_code 9 none) {Q : Option Value → Heap → Prop} {nn W Hr ya yb : Nat} {g om : Addr} (hW : W ≤ 9) (hH : Hr ≤ 9) (hb : yb < Hr) (go : n0 ≤ om) (n_g : om ≠ g) {k xx : Nat} (hkc : k ≤ 12) (hnc : nn ≤ 850) (hx : xx < W) : ∀ (mm yy : Nat), yy + mm = yb + 1 → ∀ (h : Heap) (f : Nat → Int32) (hz0 : n0 ≤ h.size) (FS : Fld Z h g "com/example/plywright/plywright/games/ConnectFour" "stride" "I" (.int (Int32.ofNat (W + 4)))) (FO : Fld Z h g "com/example/plywright/plywright/games/ConnectFour" "onMiddleRow" "[Z" (.ref om)) (EG : Exa Z h g "com/example/plywright/plywright/games/ConnectFour") (AO : AV Z h om .boolean (bm ((W + 4) * (Hr + 4)) f)), (∀ h' f', Keep h h' [om] → AV Z h' om .boolean (bm ((W + 4) * (Hr + 4)) f') → Go κ Q h' k nn 140 #[.val (.ref g), .val (.int (Int32.ofNat W)), .val (.int (Int32.ofNat Hr)), .val (.int (Int32.ofNat ya)), .val (.int (Int32.ofNat yb)), .val (.int (Int32.ofNat xx)), .val (.int (Int32.ofNat (yb + 1))), .unset, .unset] []) → Go κ Q h k nn 113 #[.val (.ref g), .val (.int (Int32.ofNat W)), .val (.int (Int32.ofNat Hr)), .val (.int (Int32.ofNat ya)), .val (.int (Int32.ofNat yb)), .val (.int (Int32.ofNat xx)), .val (.int (Int32.ofNat yy)), .unset, .unset] [] := by
  intro mm
  induction mm with
  | zero =>
    intro yy him h f hz0 FS FO EG AO gg
    refine go_iload B d1_113 rfl ?_
    refine go_iload B d1_115 rfl ?_
    refine go_icmpgt B d1_117 (fun c117 => ?_) (fun c117 => ?_)
    rotate_left
    · exact absurd (i_lt (i_ofNat (by omega)) (i_ofNat (by omega)) (by omega)) c117
    obtain rfl : yy = yb + 1 := by omega
    exact gg h f (Keep.refl _ _) AO
  | succ mm ih =>
    intro yy him h f hz0 FS FO EG AO gg
    have hq := own_cell_lt hx (show yy < Hr by omega)
    have hNN : (W + 4) * (Hr + 4) ≤ 169 := Nat.mul_le_mul (show W + 4 ≤ 13 by omega) (show Hr + 4 ≤ 13 by omega)
    refine go_iload B d1_113 rfl ?_
    refine go_iload B d1_115 rfl ?_
    refine go_icmpgt B d1_117 (fun c117 => ?_) (fun c117 => ?_)
    · exact absurd c117 (i_nlt (i_ofNat (by omega)) (i_ofNat (by omega)) (by omega))
    refine go_aload_n B d1_120 rfl rfl ?_
    refine go_getfield B d1_121 (w_46 H) FO ?_
    refine go_aload_n B d1_124 rfl rfl ?_
    refine go_iload B d1_125 rfl ?_
    refine go_iload B d1_127 rfl ?_
    refine go_private B (W' := 1) (a := g) (argsL := [(.int (Int32.ofNat xx)), (.int (Int32.ofNat yy))]) (st := [(.ref om)]) d1_129 (w_48 H) (sp_square H) (w_50 H) (w_49 H) (w_4 H) (w_51 H) (by decide) EG (rmSq H g W xx yy (own_cell W xx yy) h hz0 rfl FS) pd_1 rfl rfl rfl rfl (by decide) (by decide) hkc hnc ?_
    rintro _ h338 ⟨rfl, rfl⟩
    show Go κ _ h _ _ 132 #[.val (.ref g), .val (.int (Int32.ofNat W)), .val (.int (Int32.ofNat Hr)), .val (.int (Int32.ofNat ya)), .val (.int (Int32.ofNat yb)), .val (.int (Int32.ofNat xx)), .val (.int (Int32.ofNat yy)), .unset, .unset] [(.int (Int32.ofNat (own_cell W xx yy))), (.ref om)]
    refine go_iconst B (x := (1 : Int32)) d1_132 rfl ?_
    refine go_zastore B (i := (own_cell W xx yy)) d1_133 AO (i_ofNat (by omega)) (by rw [bm_len]; exact hq) go ?_
    intro h339 W340 A341
    have A342 : AV Z h339 om .boolean (bm ((W + 4) * (Hr + 4)) (updf f (own_cell W xx yy) (1 : Int32))) := (by have z := A341; rw [show nar .boolean (1 : Int32) = (1 : Int32) from by decide, bm_set hq] at z; exact z)
    refine go_iinc B #[.val (.ref g), .val (.int (Int32.ofNat W)), .val (.int (Int32.ofNat Hr)), .val (.int (Int32.ofNat ya)), .val (.int (Int32.ofNat yb)), .val (.int (Int32.ofNat xx)), .val (.int ((Int32.ofNat yy) + (1 : Int32))), .unset, .unset] d1_134 (z := (1 : Int32)) rfl rfl rfl ?_
    refine go_goto B d1_137 ?_
    refine go_cast (ih (yy + 1) (by omega) h339 _ (Nat.le_trans hz0 (Nat.le_of_eq (Wr.size W340).symm)) (Fld.other W340 FS (Or.inl (Ne.symm n_g))) (Fld.other W340 FO (Or.inl (Ne.symm n_g))) (Exa.wr W340 EG) A342 (fun h' f' K' A' => gg h' f' ((Keep.of_wr W340).trans K' (allS (Or.inl (by simp)) all0)) A')) rfl rfl rfl rfl ?_ rfl
    first | rfl | (simp only [← n_add]; rfl)
theorem d1_104 : Dc prog_19_method_1_code 104 (.iload 5) 2 106 := ⟨by decide +kernel, rfl⟩
theorem d1_106 : Dc prog_19_method_1_code 106 (.iload_n 1) 1 107 := ⟨by decide +kernel, rfl⟩
theorem d1_107 : Db prog_19_method_1_code 107 (.if_icmp .ge 39) 39 110 146 := ⟨by decide +kernel, rfl, rfl⟩
theorem d1_110 : Dc prog_19_method_1_code 110 (.iload_n 3) 1 111 := ⟨by decide +kernel, rfl⟩
theorem d1_111 : Dc prog_19_method_1_code 111 (.istore 6) 2 113 := ⟨by decide +kernel, rfl⟩
theorem d1_140 : Dc prog_19_method_1_code 140 (.iinc 5 1) 3 143 := ⟨by decide +kernel, rfl⟩
theorem d1_143 : Db prog_19_method_1_code 143 (.goto (-39)) (-39) 146 104 := ⟨by decide +kernel, rfl, rfl⟩
set_option maxRecDepth 65536 in
set_option maxHeartbeats 40000000 in
theorem mid2 {κ : Cx} {l : Launch} {Z : State} {a0 : Array Value} {n0 : Nat} (H : Wd a0 Z) {km : Nat} (B : OkK km κ l Z a0 n0 ({ frames := 1, cells := 12, slots := 850, locals := 30 } : Room) "com/example/plywright/plywright/games/ConnectFour" "<init>" prog_19_method_1_code 9 none) {Q : Option Value → Heap → Prop} {nn W Hr ya yb : Nat} {g om : Addr} (hW : W ≤ 9) (hH : Hr ≤ 9) (hb : yb < Hr) (go : n0 ≤ om) (n_g : om ≠ g) {k : Nat} (hkc : k ≤ 12) (hnc : nn ≤ 850) (hya : ya ≤ yb + 1) : ∀ (mm xx : Nat), xx + mm = W → ∀ (z6 : Int32) (h : Heap) (f : Nat → Int32) (hz0 : n0 ≤ h.size) (FS : Fld Z h g "com/example/plywright/plywright/games/ConnectFour" "stride" "I" (.int (Int32.ofNat (W + 4)))) (FO : Fld Z h g "com/example/plywright/plywright/games/ConnectFour" "onMiddleRow" "[Z" (.ref om)) (EG : Exa Z h g "com/example/plywright/plywright/games/ConnectFour") (AO : AV Z h om .boolean (bm ((W + 4) * (Hr + 4)) f)), (∀ h' f' z6', Keep h h' [om] → AV Z h' om .boolean (bm ((W + 4) * (Hr + 4)) f') → Go κ Q h' k nn 146 #[.val (.ref g), .val (.int (Int32.ofNat W)), .val (.int (Int32.ofNat Hr)), .val (.int (Int32.ofNat ya)), .val (.int (Int32.ofNat yb)), .val (.int (Int32.ofNat W)), .val (.int z6'), .unset, .unset] []) → Go κ Q h k nn 104 #[.val (.ref g), .val (.int (Int32.ofNat W)), .val (.int (Int32.ofNat Hr)), .val (.int (Int32.ofNat ya)), .val (.int (Int32.ofNat yb)), .val (.int (Int32.ofNat xx)), .val (.int z6), .unset, .unset] [] := by
  intro mm
  induction mm with
  | zero =>
    intro xx him z6 h f hz0 FS FO EG AO gg
    refine go_iload B d1_104 rfl ?_
    refine go_iload_n B d1_106 rfl ?_
    refine go_icmpge B d1_107 (fun c107 => ?_) (fun c107 => ?_)
    rotate_left
    · exact absurd c107 (i_nlt (i_ofNat (by omega)) (i_ofNat (by omega)) (by omega))
    obtain rfl : xx = W := by omega
    exact gg h f z6 (Keep.refl _ _) AO
  | succ mm ih =>
    intro xx him z6 h f hz0 FS FO EG AO gg
    refine go_iload B d1_104 rfl ?_
    refine go_iload_n B d1_106 rfl ?_
    refine go_icmpge B d1_107 (fun c107 => ?_) (fun c107 => ?_)
    · exact absurd (i_lt (i_ofNat (by omega)) (i_ofNat (by omega)) (by omega)) c107
    refine go_iload_n B d1_110 rfl ?_
    refine go_istore B #[.val (.ref g), .val (.int (Int32.ofNat W)), .val (.int (Int32.ofNat Hr)), .val (.int (Int32.ofNat ya)), .val (.int (Int32.ofNat yb)), .val (.int (Int32.ofNat xx)), .val (.int (Int32.ofNat ya)), .unset, .unset] d1_111 rfl ?_
    refine mid1 H B hW hH hb go n_g hkc hnc (show xx < W by omega) (yb + 1 - ya) ya (by omega) h f hz0 FS FO EG AO ?_
    intro h1 f1 K1 A1
    refine go_iinc B #[.val (.ref g), .val (.int (Int32.ofNat W)), .val (.int (Int32.ofNat Hr)), .val (.int (Int32.ofNat ya)), .val (.int (Int32.ofNat yb)), .val (.int ((Int32.ofNat xx) + (1 : Int32))), .val (.int (Int32.ofNat (yb + 1))), .unset, .unset] d1_140 (z := (1 : Int32)) rfl rfl rfl ?_
    rw [show ((Int32.ofNat xx) + (1 : Int32)) = (Int32.ofNat (xx + 1)) from n_add]
    refine go_goto B d1_143 ?_
    exact ih (xx + 1) (by omega) _ h1 f1 (Nat.le_trans hz0 K1.1) (Fld.keep FS K1 (ninS (Ne.symm n_g) nin0)) (Fld.keep FO K1 (ninS (Ne.symm n_g) nin0)) (Exa.keep EG K1) A1 (fun h' f' z6' K' A' => gg h' f' z6' (K1.trans K' (allS (Or.inl (by simp)) all0)) A')
theorem d1_262 : Dc prog_19_method_1_code 262 (.iload 6) 2 264 := ⟨by decide +kernel, rfl⟩
theorem d1_264 : Dc prog_19_method_1_code 264 (.iload_n 1) 1 265 := ⟨by decide +kernel, rfl⟩
theorem d1_265 : Db prog_19_method_1_code 265 (.if_icmp .ge 60) 60 268 325 := ⟨by decide +kernel, rfl, rfl⟩
theorem d1_268 : Dc prog_19_method_1_code 268 (.iload_n 1) 1 269 := ⟨by decide +kernel, rfl⟩
theorem d1_269 : Dc prog_19_method_1_code 269 (.iconst 1) 1 270 := ⟨by decide +kernel, rfl⟩
theorem d1_270 : Dc prog_19_method_1_code 270 (.isub) 1 271 := ⟨by decide +kernel, rfl⟩
theorem d1_271 : Dc prog_19_method_1_code 271 (.iload 6) 2 273 := ⟨by decide +kernel, rfl⟩
theorem d1_273 : Dc prog_19_method_1_code 273 (.isub) 1 274 := ⟨by decide +kernel, rfl⟩
theorem d1_274 : Dc prog_19_method_1_code 274 (.iconst 2) 1 275 := ⟨by decide +kernel, rfl⟩
theorem d1_275 : Dc prog_19_method_1_code 275 (.idiv) 1 276 := ⟨by decide +kernel, rfl⟩
theorem d1_276 : Dc prog_19_method_1_code 276 (.istore 7) 2 278 := ⟨by decide +kernel, rfl⟩
theorem d1_278 : Dc prog_19_method_1_code 278 (.iload_n 1) 1 279 := ⟨by decide +kernel, rfl⟩
theorem d1_279 : Dc prog_19_method_1_code 279 (.iconst 1) 1 280 := ⟨by decide +kernel, rfl⟩
theorem d1_280 : Dc prog_19_method_1_code 280 (.isub) 1 281 := ⟨by decide +kernel, rfl⟩
theorem d1_281 : Dc prog_19_method_1_code 281 (.iload 6) 2 283 := ⟨by decide +kernel, rfl⟩
theorem d1_283 : Dc prog_19_method_1_code 283 (.iadd) 1 284 := ⟨by decide +kernel, rfl⟩
theorem d1_284 : Dc prog_19_method_1_code 284 (.iconst 2) 1 285 := ⟨by decide +kernel, rfl⟩
theorem d1_285 : Dc prog_19_method_1_code 285 (.idiv) 1 286 := ⟨by decide +kernel, rfl⟩
theorem d1_286 : Dc prog_19_method_1_code 286 (.istore 8) 2 288 := ⟨by decide +kernel, rfl⟩
theorem d1_288 : Dc prog_19_method_1_code 288 (.aload_n 0) 1 289 := ⟨by decide +kernel, rfl⟩
theorem d1_289 : Dc prog_19_method_1_code 289 (.getfield 60) 3 292 := ⟨by decide +kernel, rfl⟩
theorem d1_292 : Dc prog_19_method_1_code 292 (.iload 5) 2 294 := ⟨by decide +kernel, rfl⟩
theorem d1_294 : Dc prog_19_method_1_code 294 (.iinc 5 1) 3 297 := ⟨by decide +kernel, rfl⟩
theorem d1_297 : Dc prog_19_method_1_code 297 (.iload 7) 2 299 := ⟨by decide +kernel, rfl⟩
theorem d1_299 : Dc prog_19_method_1_code 299 (.iastore) 1 300 := ⟨by decide +kernel, rfl⟩
theorem d1_300 : Dc prog_19_method_1_code 300 (.iload 8) 2 302 := ⟨by decide +kernel, rfl⟩
theorem d1_302 : Dc prog_19_method_1_code 302 (.iload 7) 2 304 := ⟨by decide +kernel, rfl⟩
theorem d1_304 : Db prog_19_method_1_code 304 (.if_icmp .eq 15) 15 307 319 := ⟨by decide +kernel, rfl, rfl⟩
theorem d1_319 : Dc prog_19_method_1_code 319 (.iinc 6 2) 3 322 := ⟨by decide +kernel, rfl⟩
theorem d1_322 : Db prog_19_method_1_code 322 (.goto (-60)) (-60) 325 262 := ⟨by decide +kernel, rfl, rfl⟩
theorem d1_307 : Dc prog_19_method_1_code 307 (.aload_n 0) 1 308 := ⟨by decide +kernel, rfl⟩
theorem d1_308 : Dc prog_19_method_1_code 308 (.getfield 60) 3 311 := ⟨by decide +kernel, rfl⟩
theorem d1_311 : Dc prog_19_method_1_code 311 (.iload 5) 2 313 := ⟨by decide +kernel, rfl⟩
theorem d1_313 : Dc prog_19_method_1_code 313 (.iinc 5 1) 3 316 := ⟨by decide +kernel, rfl⟩
theorem d1_316 : Dc prog_19_method_1_code 316 (.iload 8) 2 318 := ⟨by decide +kernel, rfl⟩
theorem d1_318 : Dc prog_19_method_1_code 318 (.iastore) 1 319 := ⟨by decide +kernel, rfl⟩
set_option maxRecDepth 65536 in
set_option maxHeartbeats 40000000 in
theorem cfl {κ : Cx} {l : Launch} {Z : State} {a0 : Array Value} {n0 : Nat} (H : Wd a0 Z) {km : Nat} (B : OkK km κ l Z a0 n0 ({ frames := 1, cells := 12, slots := 850, locals := 30 } : Room) "com/example/plywright/plywright/games/ConnectFour" "<init>" prog_19_method_1_code 9 none) {Q : Option Value → Heap → Prop} {k nn W Hr ya yb : Nat} {g cf : Addr} (hW4 : 4 ≤ W) (hW : W ≤ 9) (gc : n0 ≤ cf) (n_g : cf ≠ g) : ∀ (mm t nx : Nat), t + 2 * mm = W + 1 → t % 2 = (W - 1) % 2 → nx = t - 1 → ∀ (s7 s8 : Slot), (∀ z : Int32, storeLocals #[.val (.ref g), .val (.int (Int32.ofNat W)), .val (.int (Int32.ofNat Hr)), .val (.int (Int32.ofNat ya)), .val (.int (Int32.ofNat yb)), .val (.int (Int32.ofNat nx)), .val (.int (Int32.ofNat t)), s7, s8] 7 (.int z) = some #[.val (.ref g), .val (.int (Int32.ofNat W)), .val (.int (Int32.ofNat Hr)), .val (.int (Int32.ofNat ya)), .val (.int (Int32.ofNat yb)), .val (.int (Int32.ofNat nx)), .val (.int (Int32.ofNat t)), .val (.int z), s8]) → (∀ y z : Int32, storeLocals #[.val (.ref g), .val (.int (Int32.ofNat W)), .val (.int (Int32.ofNat Hr)), .val (.int (Int32.ofNat ya)), .val (.int (Int32.ofNat yb)), .val (.int (Int32.ofNat nx)), .val (.int (Int32.ofNat t)), .val (.int y), s8] 8 (.int z) = some #[.val (.ref g), .val (.int (Int32.ofNat W)), .val (.int (Int32.ofNat Hr)), .val (.int (Int32.ofNat ya)), .val (.int (Int32.ofNat yb)), .val (.int (Int32.ofNat nx)), .val (.int (Int32.ofNat t)), .val (.int y), .val (.int z)]) → ∀ (h : Heap) (f : Nat → Int32) (FC : Fld Z h g "com/example/plywright/plywright/games/ConnectFour" "centreFirst" "[I" (.ref cf)) (AC : AV Z h cf .int (bm W f)) (inv : own_cf W f nx), (∀ h' f' s7' s8', Keep h h' [cf] → AV Z h' cf .int (bm W f') → own_cf W f' W → Go κ Q h' k nn 325 #[.val (.ref g), .val (.int (Int32.ofNat W)), .val (.int (Int32.ofNat Hr)), .val (.int (Int32.ofNat ya)), .val (.int (Int32.ofNat yb)), .val (.int (Int32.ofNat W)), .val (.int (Int32.ofNat (W + 1))), s7', s8'] []) → Go κ Q h k nn 262 #[.val (.ref g), .val (.int (Int32.ofNat W)), .val (.int (Int32.ofNat Hr)), .val (.int (Int32.ofNat ya)), .val (.int (Int32.ofNat yb)), .val (.int (Int32.ofNat nx)), .val (.int (Int32.ofNat t)), s7, s8] [] := by
  intro mm
  induction mm with
  | zero =>
    intro t nx him hpar hnx s7 s8 hs7 hs8 h f FC AC inv gg
    refine go_iload B d1_262 rfl ?_
    refine go_iload_n B d1_264 rfl ?_
    refine go_icmpge B d1_265 (fun c265 => ?_) (fun c265 => ?_)
    rotate_left
    · exact absurd c265 (i_nlt (i_ofNat (by omega)) (i_ofNat (by omega)) (by omega))
    obtain rfl : t = W + 1 := by omega
    obtain rfl : nx = W := by omega
    exact gg h f s7 s8 (Keep.refl _ _) AC inv
  | succ mm ih =>
    intro t nx him hpar hnx s7 s8 hs7 hs8 h f FC AC inv gg
    refine go_iload B d1_262 rfl ?_
    refine go_iload_n B d1_264 rfl ?_
    refine go_icmpge B d1_265 (fun c265 => ?_) (fun c265 => ?_)
    · exact absurd (i_lt (i_ofNat (by omega)) (i_ofNat (by omega)) (by omega)) c265
    refine go_iload_n B d1_268 rfl ?_
    refine go_iconst B (x := (1 : Int32)) d1_269 rfl ?_
    refine go_isub B d1_270 ?_
    rw [show ((Int32.ofNat W) - (1 : Int32)) = (Int32.ofNat (W - 1)) from (by rw [show (1 : Int32) = Int32.ofNat 1 from rfl, n_sub (by omega)])]
    refine go_iload B d1_271 rfl ?_
    refine go_isub B d1_273 ?_
    rw [show ((Int32.ofNat (W - 1)) - (Int32.ofNat t)) = (Int32.ofNat (W - 1 - t)) from (n_sub (by omega))]
    refine go_iconst B (x := (2 : Int32)) d1_274 rfl ?_
    refine go_idiv B d1_275 (by decide) ?_
    rw [show ((Int32.ofNat (W - 1 - t)) / (2 : Int32)) = (Int32.ofNat ((W - 1 - t) / 2)) from (n_div (n := 2) (by omega) (by omega))]
    refine go_istore B #[.val (.ref g), .val (.int (Int32.ofNat W)), .val (.int (Int32.ofNat Hr)), .val (.int (Int32.ofNat ya)), .val (.int (Int32.ofNat yb)), .val (.int (Int32.ofNat nx)), .val (.int (Int32.ofNat t)), .val (.int (Int32.ofNat ((W - 1 - t) / 2))), s8] d1_276 (hs7 _) ?_
    refine go_iload_n B d1_278 rfl ?_
    refine go_iconst B (x := (1 : Int32)) d1_279 rfl ?_
    refine go_isub B d1_280 ?_
    rw [show ((Int32.ofNat W) - (1 : Int32)) = (Int32.ofNat (W - 1)) from (by rw [show (1 : Int32) = Int32.ofNat 1 from rfl, n_sub (by omega)])]
    refine go_iload B d1_281 rfl ?_
    refine go_iadd B d1_283 ?_
    rw [show ((Int32.ofNat (W - 1)) + (Int32.ofNat t)) = (Int32.ofNat (W - 1 + t)) from n_add]
    refine go_iconst B (x := (2 : Int32)) d1_284 rfl ?_
    refine go_idiv B d1_285 (by decide) ?_
    rw [show ((Int32.ofNat (W - 1 + t)) / (2 : Int32)) = (Int32.ofNat ((W - 1 + t) / 2)) from (n_div (n := 2) (by omega) (by omega))]
    refine go_istore B #[.val (.ref g), .val (.int (Int32.ofNat W)), .val (.int (Int32.ofNat Hr)), .val (.int (Int32.ofNat ya)), .val (.int (Int32.ofNat yb)), .val (.int (Int32.ofNat nx)), .val (.int (Int32.ofNat t)), .val (.int (Int32.ofNat ((W - 1 - t) / 2))), .val (.int (Int32.ofNat ((W - 1 + t) / 2)))] d1_286 (hs8 _ _) ?_
    refine go_aload_n B d1_288 rfl rfl ?_
    refine go_getfield B d1_289 (w_56 H) FC ?_
    refine go_iload B d1_292 rfl ?_
    refine go_iinc B #[.val (.ref g), .val (.int (Int32.ofNat W)), .val (.int (Int32.ofNat Hr)), .val (.int (Int32.ofNat ya)), .val (.int (Int32.ofNat yb)), .val (.int ((Int32.ofNat nx) + (1 : Int32))), .val (.int (Int32.ofNat t)), .val (.int (Int32.ofNat ((W - 1 - t) / 2))), .val (.int (Int32.ofNat ((W - 1 + t) / 2)))] d1_294 (z := (1 : Int32)) rfl rfl rfl ?_
    rw [show ((Int32.ofNat nx) + (1 : Int32)) = (Int32.ofNat (nx + 1)) from n_add]
    refine go_iload B d1_297 rfl ?_
    refine go_iastore B (i := nx) d1_299 AC (i_ofNat (by omega)) (by rw [bm_len]; omega) gc ?_
    intro h343 W344 A345
    have A346 : AV Z h343 cf .int (bm W (updf f nx (Int32.ofNat ((W - 1 - t) / 2)))) := (bm_set (show nx < W by omega) ▸ A345)
    refine go_iload B d1_300 rfl ?_
    refine go_iload B d1_302 rfl ?_
    refine go_icmpeq B d1_304 (fun c304 => ?_) (fun c304 => ?_)
    · skip
      have ht0 : t = 0 := by
        have := n_inj (by omega) (by omega) c304
        omega
      refine go_iinc B #[.val (.ref g), .val (.int (Int32.ofNat W)), .val (.int (Int32.ofNat Hr)), .val (.int (Int32.ofNat ya)), .val (.int (Int32.ofNat yb)), .val (.int (Int32.ofNat (nx + 1))), .val (.int ((Int32.ofNat t) + (2 : Int32))), .val (.int (Int32.ofNat ((W - 1 - t) / 2))), .val (.int (Int32.ofNat ((W - 1 + t) / 2)))] d1_319 (z := (2 : Int32)) rfl rfl rfl ?_
      rw [show ((Int32.ofNat t) + (2 : Int32)) = (Int32.ofNat (t + 2)) from n_add]
      refine go_goto B d1_322 ?_
      exact ih (t + 2) (nx + 1) (by omega) (by omega) (by omega) _ _ (fun _ => rfl) (fun _ _ => rfl) h343 _ (Fld.other W344 FC (Or.inl (Ne.symm n_g))) A346 (own_cf_set inv (by rw [hnx]; exact own_cn_left (by omega) hpar)) (fun h' f' s7' s8' K' A' I' => gg h' f' s7' s8' ((Keep.of_wr W344).trans K' (allS (Or.inl (by simp)) all0)) A' I')
    · skip
      have ht0 : t ≠ 0 := fun q => c304 (by simp [q])
      refine go_aload_n B d1_307 rfl rfl ?_
      refine go_getfield B d1_308 (w_56 H) (Fld.other W344 FC (Or.inl (Ne.symm n_g))) ?_
      refine go_iload B d1_311 rfl ?_
      refine go_iinc B #[.val (.ref g), .val (.int (Int32.ofNat W)), .val (.int (Int32.ofNat Hr)), .val (.int (Int32.ofNat ya)), .val (.int (Int32.ofNat yb)), .val (.int ((Int32.ofNat (nx + 1)) + (1 : Int32))), .val (.int (Int32.ofNat t)), .val (.int (Int32.ofNat ((W - 1 - t) / 2))), .val (.int (Int32.ofNat ((W - 1 + t) / 2)))] d1_313 (z := (1 : Int32)) rfl rfl rfl ?_
      rw [show ((Int32.ofNat (nx + 1)) + (1 : Int32)) = (Int32.ofNat (nx + 1 + 1)) from n_add]
      refine go_iload B d1_316 rfl ?_
      refine go_iastore B (i := (nx + 1)) d1_318 A346 (i_ofNat (by omega)) (by rw [bm_len]; omega) gc ?_
      intro h347 W348 A349
      have A350 : AV Z h347 cf .int (bm W (updf (updf f nx (Int32.ofNat ((W - 1 - t) / 2))) (nx + 1) (Int32.ofNat ((W - 1 + t) / 2)))) := (bm_set (show nx + 1 < W by omega) ▸ A349)
      refine go_iinc B #[.val (.ref g), .val (.int (Int32.ofNat W)), .val (.int (Int32.ofNat Hr)), .val (.int (Int32.ofNat ya)), .val (.int (Int32.ofNat yb)), .val (.int (Int32.ofNat (nx + 1 + 1))), .val (.int ((Int32.ofNat t) + (2 : Int32))), .val (.int (Int32.ofNat ((W - 1 - t) / 2))), .val (.int (Int32.ofNat ((W - 1 + t) / 2)))] d1_319 (z := (2 : Int32)) rfl rfl rfl ?_
      rw [show ((Int32.ofNat t) + (2 : Int32)) = (Int32.ofNat (t + 2)) from n_add]
      refine go_goto B d1_322 ?_
      have f351 : Fld Z h347 g "com/example/plywright/plywright/games/ConnectFour" "centreFirst" "[I" (.ref cf) := (Fld.other W348 (Fld.other W344 FC (Or.inl (Ne.symm n_g))) (Or.inl (Ne.symm n_g)))
      exact ih (t + 2) (nx + 1 + 1) (by omega) (by omega) (by omega) _ _ (fun _ => rfl) (fun _ _ => rfl) h347 _ f351 A350 (own_cf_set (own_cf_set inv (by rw [hnx]; exact own_cn_left (by omega) hpar)) (by rw [show nx + 1 = t by omega]; exact own_cn_right (by omega) ht0 hpar)) (fun h' f' s7' s8' K' A' I' => gg h' f' s7' s8' (((Keep.of_wr W344).trans (Keep.of_wr W348) (allS (Or.inl (by simp)) all0)).trans K' (allS (Or.inl (by simp)) all0)) A' I')
def own_Gne (n0 : Nat) (g sq hs pl zb la cf : Addr) : Prop := sq ≠ hs ∧ sq ≠ pl ∧ sq ≠ zb ∧ sq ≠ la ∧ hs ≠ pl ∧ hs ≠ zb ∧ hs ≠ la ∧ pl ≠ zb ∧ pl ≠ la ∧ zb ≠ la ∧ sq ≠ g ∧ hs ≠ g ∧ pl ≠ g ∧ zb ≠ g ∧ la ≠ g ∧ cf ≠ g ∧ cf ≠ sq ∧ cf ≠ hs ∧ cf ≠ pl ∧ n0 ≤ g ∧ n0 ≤ sq ∧ n0 ≤ hs ∧ n0 ≤ pl
def own_Gst (Z : State) (h : Heap) (g sq hs pl zb la cf : Addr) (W Hr : Nat) (zf : Nat → Int64) (cq : Nat → Nat) (P : Nat) (won : Int32) : Prop := ∃ (u : Int64) (pf : Nat → Int32), Exa Z h g "com/example/plywright/plywright/games/ConnectFour" ∧ Fld Z h g "com/example/plywright/plywright/games/ConnectFour" "columns" "I" (.int (Int32.ofNat W)) ∧ Fld Z h g "com/example/plywright/plywright/games/ConnectFour" "rows" "I" (.int (Int32.ofNat Hr)) ∧ Fld Z h g "com/example/plywright/plywright/games/ConnectFour" "stride" "I" (.int (Int32.ofNat (W + 4))) ∧ Fld Z h g "com/example/plywright/plywright/games/ConnectFour" "squares" "[B" (.ref sq) ∧ Fld Z h g "com/example/plywright/plywright/games/ConnectFour" "heights" "[I" (.ref hs) ∧ Fld Z h g "com/example/plywright/plywright/games/ConnectFour" "played" "[I" (.ref pl) ∧ Fld Z h g "com/example/plywright/plywright/games/ConnectFour" "zobrist" "[J" (.ref zb) ∧ Fld Z h g "com/example/plywright/plywright/games/ConnectFour" "lineSteps" "[I" (.ref la) ∧ Fld Z h g "com/example/plywright/plywright/games/ConnectFour" "centreFirst" "[I" (.ref cf) ∧ Fld Z h g "com/example/plywright/plywright/games/ConnectFour" "plies" "I" (.int (Int32.ofNat P)) ∧ Fld Z h g "com/example/plywright/plywright/games/ConnectFour" "won" "Z" (.int won) ∧ Fld Z h g "com/example/plywright/plywright/games/ConnectFour" "key" "J" (.long u) ∧ AV Z h sq .byte (bm ((W + 4) * (Hr + 4)) (own_f W cq P)) ∧ AV Z h hs .int (bm W (fun c => Int32.ofNat (own_e cq P c))) ∧ AV Z h pl .int (bm (W * Hr) pf) ∧ AV Z h zb .long (lm (2 * ((W + 4) * (Hr + 4)) + 1) zf) ∧ AV Z h la .int [(.int (1 : Int32)), (.int (Int32.ofNat (W + 4))), (.int (Int32.ofNat (W + 5))), (.int (Int32.ofNat (W + 3)))] ∧ AV Z h cf .int (bm W (fun j => Int32.ofNat (own_cn W j)))
theorem own_Gst_exa {Z : State} {h : Heap} {g sq hs pl zb la cf : Addr} {W Hr : Nat} {zf : Nat → Int64} {cq : Nat → Nat} {P : Nat} {won : Int32} (G : own_Gst Z h g sq hs pl zb la cf W Hr zf cq P won) : Exa Z h g "com/example/plywright/plywright/games/ConnectFour" := by
  obtain ⟨_, _, q, -⟩ := G
  exact q
theorem d1_0 : Dc prog_19_method_1_code 0 (.aload_n 0) 1 1 := ⟨by decide +kernel, rfl⟩
theorem d1_1 : Dc prog_19_method_1_code 1 (.invokespecial 1) 3 4 := ⟨by decide +kernel, rfl⟩
theorem w_8 {a0 : Array Value} {Z : State} (H : Wd a0 Z) : (Jvm.Cond.methodLink "com/example/plywright/plywright/games/ConnectFour" (1 : Nat) ({ cls := "java/lang/Object", name := "<init>", desc := "()V" } : Jvm.MethodName)).before a0 Z = true := H _ (List.mem_of_getElem? (i := 8) rfl)
theorem w_9 {a0 : Array Value} {Z : State} (H : Wd a0 Z) : (Jvm.Cond.instanceMethod ({ cls := "java/lang/Object", name := "<init>", desc := "()V" } : Jvm.MethodName)).before a0 Z = true := H _ (List.mem_of_getElem? (i := 9) rfl)
theorem w_10 {a0 : Array Value} {Z : State} (H : Wd a0 Z) : (Jvm.Cond.code ({ cls := "java/lang/Object", name := "<init>", desc := "()V" } : Jvm.MethodName) object_method_1_code (1 : Nat) (Option.none : Option Jvm.ClassFile.FieldType)).before a0 Z = true := H _ (List.mem_of_getElem? (i := 10) rfl)
theorem d1_4 : Dc prog_19_method_1_code 4 (.ldc 7) 2 6 := ⟨by decide +kernel, rfl⟩
theorem w_11 {a0 : Array Value} {Z : State} (H : Wd a0 Z) : (Jvm.Cond.stringLink "com/example/plywright/plywright/games/ConnectFour" (7 : Nat) "columns").before a0 Z = true := H _ (List.mem_of_getElem? (i := 11) rfl)
theorem w_12 {a0 : Array Value} {Z : State} (H : Wd a0 Z) : (Jvm.Cond.initialized "java/lang/String").before a0 Z = true := H _ (List.mem_of_getElem? (i := 12) rfl)
theorem w_13 {a0 : Array Value} {Z : State} (H : Wd a0 Z) : (Jvm.Cond.instantiable "java/lang/String" (4 : Nat)).before a0 Z = true := H _ (List.mem_of_getElem? (i := 13) rfl)
theorem w_14 {a0 : Array Value} {Z : State} (H : Wd a0 Z) : (Jvm.Cond.arrayClass Jvm.ClassFile.FieldType.byte).before a0 Z = true := H _ (List.mem_of_getElem? (i := 14) rfl)
theorem w_15 {a0 : Array Value} {Z : State} (H : Wd a0 Z) : (Jvm.Cond.laysFinal "java/lang/String" "java/lang/String" "value" "[B").before a0 Z = true := H _ (List.mem_of_getElem? (i := 15) rfl)
theorem w_16 {a0 : Array Value} {Z : State} (H : Wd a0 Z) : (Jvm.Cond.laysFinal "java/lang/String" "java/lang/String" "coder" "B").before a0 Z = true := H _ (List.mem_of_getElem? (i := 16) rfl)
theorem w_17 {a0 : Array Value} {Z : State} (H : Wd a0 Z) : (Jvm.Cond.soleField "java/lang/String" "value").before a0 Z = true := H _ (List.mem_of_getElem? (i := 17) rfl)
theorem w_18 {a0 : Array Value} {Z : State} (H : Wd a0 Z) : (Jvm.Cond.soleField "java/lang/String" "coder").before a0 Z = true := H _ (List.mem_of_getElem? (i := 18) rfl)
theorem strings {a0 : Array Value} {Z : State} (H : Wd a0 Z) : ∀ a ∈ Bundle.stringAtoms, a.before a0 Z = true := by
  intro a ha
  simp only [Bundle.stringAtoms, List.mem_cons, List.not_mem_nil, or_false] at ha
  rcases ha with rfl | rfl | rfl | rfl | rfl | rfl | rfl
  · exact (w_12 H)
  · exact (w_13 H)
  · exact (w_14 H)
  · exact (w_15 H)
  · exact (w_16 H)
  · exact (w_17 H)
  · exact (w_18 H)
theorem d1_6 : Dc prog_19_method_1_code 6 (.iload_n 1) 1 7 := ⟨by decide +kernel, rfl⟩
theorem d1_7 : Dc prog_19_method_1_code 7 (.invokestatic 9) 3 10 := ⟨by decide +kernel, rfl⟩
theorem w_21 {a0 : Array Value} {Z : State} (H : Wd a0 Z) : (Jvm.Cond.code ({ cls := "com/example/plywright/plywright/games/ConnectFour", name := "checkSize", desc := "(Ljava/lang/String;I)V" } : Jvm.MethodName) prog_19_method_3_code (2 : Nat) (Option.none : Option Jvm.ClassFile.FieldType)).before a0 Z = true := H _ (List.mem_of_getElem? (i := 21) rfl)
theorem pd_6 : parseMethodDescriptor "(Ljava/lang/String;I)V" = some ⟨[(.object "java/lang/String"), .int], none⟩ := by decide +kernel
theorem w_19 {a0 : Array Value} {Z : State} (H : Wd a0 Z) : (Jvm.Cond.methodLink "com/example/plywright/plywright/games/ConnectFour" (9 : Nat) ({ cls := "com/example/plywright/plywright/games/ConnectFour", name := "checkSize", desc := "(Ljava/lang/String;I)V" } : Jvm.MethodName)).before a0 Z = true := H _ (List.mem_of_getElem? (i := 19) rfl)
theorem w_20 {a0 : Array Value} {Z : State} (H : Wd a0 Z) : (Jvm.Cond.static ({ cls := "com/example/plywright/plywright/games/ConnectFour", name := "checkSize", desc := "(Ljava/lang/String;I)V" } : Jvm.MethodName)).before a0 Z = true := H _ (List.mem_of_getElem? (i := 20) rfl)
theorem d1_10 : Dc prog_19_method_1_code 10 (.ldc 15) 2 12 := ⟨by decide +kernel, rfl⟩
theorem w_22 {a0 : Array Value} {Z : State} (H : Wd a0 Z) : (Jvm.Cond.stringLink "com/example/plywright/plywright/games/ConnectFour" (15 : Nat) "rows").before a0 Z = true := H _ (List.mem_of_getElem? (i := 22) rfl)
theorem d1_12 : Dc prog_19_method_1_code 12 (.iload_n 2) 1 13 := ⟨by decide +kernel, rfl⟩
theorem d1_13 : Dc prog_19_method_1_code 13 (.invokestatic 9) 3 16 := ⟨by decide +kernel, rfl⟩
theorem d1_16 : Dc prog_19_method_1_code 16 (.aload_n 0) 1 17 := ⟨by decide +kernel, rfl⟩
theorem d1_17 : Dc prog_19_method_1_code 17 (.iload_n 1) 1 18 := ⟨by decide +kernel, rfl⟩
theorem d1_18 : Dc prog_19_method_1_code 18 (.putfield 17) 3 21 := ⟨by decide +kernel, rfl⟩
theorem d1_21 : Dc prog_19_method_1_code 21 (.aload_n 0) 1 22 := ⟨by decide +kernel, rfl⟩
theorem d1_22 : Dc prog_19_method_1_code 22 (.iload_n 2) 1 23 := ⟨by decide +kernel, rfl⟩
theorem d1_23 : Dc prog_19_method_1_code 23 (.putfield 20) 3 26 := ⟨by decide +kernel, rfl⟩
theorem d1_26 : Dc prog_19_method_1_code 26 (.aload_n 0) 1 27 := ⟨by decide +kernel, rfl⟩
theorem d1_27 : Dc prog_19_method_1_code 27 (.iload_n 1) 1 28 := ⟨by decide +kernel, rfl⟩
theorem d1_28 : Dc prog_19_method_1_code 28 (.iconst 4) 1 29 := ⟨by decide +kernel, rfl⟩
theorem d1_29 : Dc prog_19_method_1_code 29 (.iadd) 1 30 := ⟨by decide +kernel, rfl⟩
theorem d1_30 : Dc prog_19_method_1_code 30 (.putfield 22) 3 33 := ⟨by decide +kernel, rfl⟩
theorem d1_33 : Dc prog_19_method_1_code 33 (.aload_n 0) 1 34 := ⟨by decide +kernel, rfl⟩
theorem d1_34 : Dc prog_19_method_1_code 34 (.aload_n 0) 1 35 := ⟨by decide +kernel, rfl⟩
theorem d1_35 : Dc prog_19_method_1_code 35 (.getfield 22) 3 38 := ⟨by decide +kernel, rfl⟩
theorem d1_38 : Dc prog_19_method_1_code 38 (.iload_n 2) 1 39 := ⟨by decide +kernel, rfl⟩
theorem d1_39 : Dc prog_19_method_1_code 39 (.iconst 4) 1 40 := ⟨by decide +kernel, rfl⟩
theorem d1_40 : Dc prog_19_method_1_code 40 (.iadd) 1 41 := ⟨by decide +kernel, rfl⟩
theorem d1_41 : Dc prog_19_method_1_code 41 (.imul) 1 42 := ⟨by decide +kernel, rfl⟩
theorem d1_42 : Dc prog_19_method_1_code 42 (.newarray .byte) 2 44 := ⟨by decide +kernel, rfl⟩
theorem d1_44 : Dc prog_19_method_1_code 44 (.putfield 25) 3 47 := ⟨by decide +kernel, rfl⟩
theorem d1_47 : Dc prog_19_method_1_code 47 (.aload_n 0) 1 48 := ⟨by decide +kernel, rfl⟩
theorem d1_48 : Dc prog_19_method_1_code 48 (.iload_n 1) 1 49 := ⟨by decide +kernel, rfl⟩
theorem d1_49 : Dc prog_19_method_1_code 49 (.newarray .int) 2 51 := ⟨by decide +kernel, rfl⟩
theorem d1_51 : Dc prog_19_method_1_code 51 (.putfield 29) 3 54 := ⟨by decide +kernel, rfl⟩
theorem d1_54 : Dc prog_19_method_1_code 54 (.aload_n 0) 1 55 := ⟨by decide +kernel, rfl⟩
theorem d1_55 : Dc prog_19_method_1_code 55 (.iload_n 1) 1 56 := ⟨by decide +kernel, rfl⟩
theorem d1_56 : Dc prog_19_method_1_code 56 (.iload_n 2) 1 57 := ⟨by decide +kernel, rfl⟩
theorem d1_57 : Dc prog_19_method_1_code 57 (.imul) 1 58 := ⟨by decide +kernel, rfl⟩
theorem d1_58 : Dc prog_19_method_1_code 58 (.newarray .int) 2 60 := ⟨by decide +kernel, rfl⟩
theorem d1_60 : Dc prog_19_method_1_code 60 (.putfield 33) 3 63 := ⟨by decide +kernel, rfl⟩
theorem d1_63 : Dc prog_19_method_1_code 63 (.aload_n 0) 1 64 := ⟨by decide +kernel, rfl⟩
theorem d1_64 : Dc prog_19_method_1_code 64 (.iconst 2) 1 65 := ⟨by decide +kernel, rfl⟩
theorem d1_65 : Dc prog_19_method_1_code 65 (.aload_n 0) 1 66 := ⟨by decide +kernel, rfl⟩
theorem d1_66 : Dc prog_19_method_1_code 66 (.getfield 25) 3 69 := ⟨by decide +kernel, rfl⟩
theorem d1_69 : Dc prog_19_method_1_code 69 (.arraylength) 1 70 := ⟨by decide +kernel, rfl⟩
theorem d1_70 : Dc prog_19_method_1_code 70 (.imul) 1 71 := ⟨by decide +kernel, rfl⟩
theorem d1_71 : Dc prog_19_method_1_code 71 (.iconst 1) 1 72 := ⟨by decide +kernel, rfl⟩
theorem d1_72 : Dc prog_19_method_1_code 72 (.iadd) 1 73 := ⟨by decide +kernel, rfl⟩
theorem d1_73 : Dc prog_19_method_1_code 73 (.invokestatic 36) 3 76 := ⟨by decide +kernel, rfl⟩
theorem w_38 {a0 : Array Value} {Z : State} (H : Wd a0 Z) : (Jvm.Cond.code ({ cls := "com/example/plywright/plywright/core/Zobrist", name := "numbers", desc := "(I)[J" } : Jvm.MethodName) prog_14_method_2_code (7 : Nat) (Option.some (Jvm.ClassFile.FieldType.array Jvm.ClassFile.FieldType.long))).before a0 Z = true := H _ (List.mem_of_getElem? (i := 38) rfl)
theorem w_37 {a0 : Array Value} {Z : State} (H : Wd a0 Z) : (Jvm.Cond.initialized "com/example/plywright/plywright/core/Zobrist").before a0 Z = true := H _ (List.mem_of_getElem? (i := 37) rfl)
theorem pd_7 : parseMethodDescriptor "(I)[J" = some ⟨[.int], some (.array .long)⟩ := by decide +kernel
theorem w_35 {a0 : Array Value} {Z : State} (H : Wd a0 Z) : (Jvm.Cond.methodLink "com/example/plywright/plywright/games/ConnectFour" (36 : Nat) ({ cls := "com/example/plywright/plywright/core/Zobrist", name := "numbers", desc := "(I)[J" } : Jvm.MethodName)).before a0 Z = true := H _ (List.mem_of_getElem? (i := 35) rfl)
theorem w_36 {a0 : Array Value} {Z : State} (H : Wd a0 Z) : (Jvm.Cond.static ({ cls := "com/example/plywright/plywright/core/Zobrist", name := "numbers", desc := "(I)[J" } : Jvm.MethodName)).before a0 Z = true := H _ (List.mem_of_getElem? (i := 36) rfl)
theorem d1_76 : Dc prog_19_method_1_code 76 (.putfield 42) 3 79 := ⟨by decide +kernel, rfl⟩
theorem d1_79 : Dc prog_19_method_1_code 79 (.aload_n 0) 1 80 := ⟨by decide +kernel, rfl⟩
theorem d1_80 : Dc prog_19_method_1_code 80 (.aload_n 0) 1 81 := ⟨by decide +kernel, rfl⟩
theorem d1_81 : Dc prog_19_method_1_code 81 (.getfield 25) 3 84 := ⟨by decide +kernel, rfl⟩
theorem d1_84 : Dc prog_19_method_1_code 84 (.arraylength) 1 85 := ⟨by decide +kernel, rfl⟩
theorem d1_85 : Dc prog_19_method_1_code 85 (.newarray .boolean) 2 87 := ⟨by decide +kernel, rfl⟩
theorem w_45 {a0 : Array Value} {Z : State} (H : Wd a0 Z) : (Jvm.Cond.arrayClass Jvm.ClassFile.FieldType.boolean).before a0 Z = true := H _ (List.mem_of_getElem? (i := 45) rfl)
theorem d1_87 : Dc prog_19_method_1_code 87 (.putfield 46) 3 90 := ⟨by decide +kernel, rfl⟩
theorem w_47 {a0 : Array Value} {Z : State} (H : Wd a0 Z) : (Jvm.Cond.laysFinal "com/example/plywright/plywright/games/ConnectFour" "com/example/plywright/plywright/games/ConnectFour" "onMiddleRow" "[Z").before a0 Z = true := H _ (List.mem_of_getElem? (i := 47) rfl)
theorem d1_90 : Dc prog_19_method_1_code 90 (.iload_n 2) 1 91 := ⟨by decide +kernel, rfl⟩
theorem d1_91 : Dc prog_19_method_1_code 91 (.iconst 1) 1 92 := ⟨by decide +kernel, rfl⟩
theorem d1_92 : Dc prog_19_method_1_code 92 (.isub) 1 93 := ⟨by decide +kernel, rfl⟩
theorem d1_93 : Dc prog_19_method_1_code 93 (.iconst 2) 1 94 := ⟨by decide +kernel, rfl⟩
theorem d1_94 : Dc prog_19_method_1_code 94 (.idiv) 1 95 := ⟨by decide +kernel, rfl⟩
theorem d1_95 : Dc prog_19_method_1_code 95 (.istore_n 3) 1 96 := ⟨by decide +kernel, rfl⟩
theorem d1_96 : Dc prog_19_method_1_code 96 (.iload_n 2) 1 97 := ⟨by decide +kernel, rfl⟩
theorem d1_97 : Dc prog_19_method_1_code 97 (.iconst 2) 1 98 := ⟨by decide +kernel, rfl⟩
theorem d1_98 : Dc prog_19_method_1_code 98 (.idiv) 1 99 := ⟨by decide +kernel, rfl⟩
theorem d1_99 : Dc prog_19_method_1_code 99 (.istore 4) 2 101 := ⟨by decide +kernel, rfl⟩
theorem d1_101 : Dc prog_19_method_1_code 101 (.iconst 0) 1 102 := ⟨by decide +kernel, rfl⟩
theorem d1_102 : Dc prog_19_method_1_code 102 (.istore 5) 2 104 := ⟨by decide +kernel, rfl⟩
theorem d1_146 : Dc prog_19_method_1_code 146 (.aload_n 0) 1 147 := ⟨by decide +kernel, rfl⟩
theorem d1_147 : Dc prog_19_method_1_code 147 (.bipush 7) 2 149 := ⟨by decide +kernel, rfl⟩
theorem d1_149 : Dc prog_19_method_1_code 149 (.newarray .int) 2 151 := ⟨by decide +kernel, rfl⟩
theorem d1_151 : Dc prog_19_method_1_code 151 (.dup) 1 152 := ⟨by decide +kernel, rfl⟩
theorem d1_152 : Dc prog_19_method_1_code 152 (.iconst 0) 1 153 := ⟨by decide +kernel, rfl⟩
theorem d1_153 : Dc prog_19_method_1_code 153 (.iconst (-1)) 1 154 := ⟨by decide +kernel, rfl⟩
theorem d1_154 : Dc prog_19_method_1_code 154 (.iastore) 1 155 := ⟨by decide +kernel, rfl⟩
theorem d1_155 : Dc prog_19_method_1_code 155 (.dup) 1 156 := ⟨by decide +kernel, rfl⟩
theorem d1_156 : Dc prog_19_method_1_code 156 (.iconst 1) 1 157 := ⟨by decide +kernel, rfl⟩
theorem d1_157 : Dc prog_19_method_1_code 157 (.iconst 1) 1 158 := ⟨by decide +kernel, rfl⟩
theorem d1_158 : Dc prog_19_method_1_code 158 (.iastore) 1 159 := ⟨by decide +kernel, rfl⟩
theorem d1_159 : Dc prog_19_method_1_code 159 (.dup) 1 160 := ⟨by decide +kernel, rfl⟩
theorem d1_160 : Dc prog_19_method_1_code 160 (.iconst 2) 1 161 := ⟨by decide +kernel, rfl⟩
theorem d1_161 : Dc prog_19_method_1_code 161 (.aload_n 0) 1 162 := ⟨by decide +kernel, rfl⟩
theorem d1_162 : Dc prog_19_method_1_code 162 (.getfield 22) 3 165 := ⟨by decide +kernel, rfl⟩
theorem d1_165 : Dc prog_19_method_1_code 165 (.ineg) 1 166 := ⟨by decide +kernel, rfl⟩
theorem d1_166 : Dc prog_19_method_1_code 166 (.iastore) 1 167 := ⟨by decide +kernel, rfl⟩
theorem d1_167 : Dc prog_19_method_1_code 167 (.dup) 1 168 := ⟨by decide +kernel, rfl⟩
theorem d1_168 : Dc prog_19_method_1_code 168 (.iconst 3) 1 169 := ⟨by decide +kernel, rfl⟩
theorem d1_169 : Dc prog_19_method_1_code 169 (.aload_n 0) 1 170 := ⟨by decide +kernel, rfl⟩
theorem d1_170 : Dc prog_19_method_1_code 170 (.getfield 22) 3 173 := ⟨by decide +kernel, rfl⟩
theorem d1_173 : Dc prog_19_method_1_code 173 (.ineg) 1 174 := ⟨by decide +kernel, rfl⟩
theorem d1_174 : Dc prog_19_method_1_code 174 (.iconst 1) 1 175 := ⟨by decide +kernel, rfl⟩
theorem d1_175 : Dc prog_19_method_1_code 175 (.isub) 1 176 := ⟨by decide +kernel, rfl⟩
theorem d1_176 : Dc prog_19_method_1_code 176 (.iastore) 1 177 := ⟨by decide +kernel, rfl⟩
theorem d1_177 : Dc prog_19_method_1_code 177 (.dup) 1 178 := ⟨by decide +kernel, rfl⟩
theorem d1_178 : Dc prog_19_method_1_code 178 (.iconst 4) 1 179 := ⟨by decide +kernel, rfl⟩
theorem d1_179 : Dc prog_19_method_1_code 179 (.aload_n 0) 1 180 := ⟨by decide +kernel, rfl⟩
theorem d1_180 : Dc prog_19_method_1_code 180 (.getfield 22) 3 183 := ⟨by decide +kernel, rfl⟩
theorem d1_183 : Dc prog_19_method_1_code 183 (.ineg) 1 184 := ⟨by decide +kernel, rfl⟩
theorem d1_184 : Dc prog_19_method_1_code 184 (.iconst 1) 1 185 := ⟨by decide +kernel, rfl⟩
theorem d1_185 : Dc prog_19_method_1_code 185 (.iadd) 1 186 := ⟨by decide +kernel, rfl⟩
theorem d1_186 : Dc prog_19_method_1_code 186 (.iastore) 1 187 := ⟨by decide +kernel, rfl⟩
theorem d1_187 : Dc prog_19_method_1_code 187 (.dup) 1 188 := ⟨by decide +kernel, rfl⟩
theorem d1_188 : Dc prog_19_method_1_code 188 (.iconst 5) 1 189 := ⟨by decide +kernel, rfl⟩
theorem d1_189 : Dc prog_19_method_1_code 189 (.aload_n 0) 1 190 := ⟨by decide +kernel, rfl⟩
theorem d1_190 : Dc prog_19_method_1_code 190 (.getfield 22) 3 193 := ⟨by decide +kernel, rfl⟩
theorem d1_193 : Dc prog_19_method_1_code 193 (.iconst 1) 1 194 := ⟨by decide +kernel, rfl⟩
theorem d1_194 : Dc prog_19_method_1_code 194 (.isub) 1 195 := ⟨by decide +kernel, rfl⟩
theorem d1_195 : Dc prog_19_method_1_code 195 (.iastore) 1 196 := ⟨by decide +kernel, rfl⟩
theorem d1_196 : Dc prog_19_method_1_code 196 (.dup) 1 197 := ⟨by decide +kernel, rfl⟩
theorem d1_197 : Dc prog_19_method_1_code 197 (.bipush 6) 2 199 := ⟨by decide +kernel, rfl⟩
theorem d1_199 : Dc prog_19_method_1_code 199 (.aload_n 0) 1 200 := ⟨by decide +kernel, rfl⟩
theorem d1_200 : Dc prog_19_method_1_code 200 (.getfield 22) 3 203 := ⟨by decide +kernel, rfl⟩
theorem d1_203 : Dc prog_19_method_1_code 203 (.iconst 1) 1 204 := ⟨by decide +kernel, rfl⟩
theorem d1_204 : Dc prog_19_method_1_code 204 (.iadd) 1 205 := ⟨by decide +kernel, rfl⟩
theorem d1_205 : Dc prog_19_method_1_code 205 (.iastore) 1 206 := ⟨by decide +kernel, rfl⟩
theorem d1_206 : Dc prog_19_method_1_code 206 (.putfield 54) 3 209 := ⟨by decide +kernel, rfl⟩
theorem w_53 {a0 : Array Value} {Z : State} (H : Wd a0 Z) : (Jvm.Cond.laysFinal "com/example/plywright/plywright/games/ConnectFour" "com/example/plywright/plywright/games/ConnectFour" "evaluatedSteps" "[I").before a0 Z = true := H _ (List.mem_of_getElem? (i := 53) rfl)
theorem w_52 {a0 : Array Value} {Z : State} (H : Wd a0 Z) : (Jvm.Cond.fieldLink "com/example/plywright/plywright/games/ConnectFour" (54 : Nat) "com/example/plywright/plywright/games/ConnectFour" "evaluatedSteps" "[I").before a0 Z = true := H _ (List.mem_of_getElem? (i := 52) rfl)
theorem d1_209 : Dc prog_19_method_1_code 209 (.aload_n 0) 1 210 := ⟨by decide +kernel, rfl⟩
theorem d1_210 : Dc prog_19_method_1_code 210 (.iconst 4) 1 211 := ⟨by decide +kernel, rfl⟩
theorem d1_211 : Dc prog_19_method_1_code 211 (.newarray .int) 2 213 := ⟨by decide +kernel, rfl⟩
theorem d1_213 : Dc prog_19_method_1_code 213 (.dup) 1 214 := ⟨by decide +kernel, rfl⟩
theorem d1_214 : Dc prog_19_method_1_code 214 (.iconst 0) 1 215 := ⟨by decide +kernel, rfl⟩
theorem d1_215 : Dc prog_19_method_1_code 215 (.iconst 1) 1 216 := ⟨by decide +kernel, rfl⟩
theorem d1_216 : Dc prog_19_method_1_code 216 (.iastore) 1 217 := ⟨by decide +kernel, rfl⟩
theorem d1_217 : Dc prog_19_method_1_code 217 (.dup) 1 218 := ⟨by decide +kernel, rfl⟩
theorem d1_218 : Dc prog_19_method_1_code 218 (.iconst 1) 1 219 := ⟨by decide +kernel, rfl⟩
theorem d1_219 : Dc prog_19_method_1_code 219 (.aload_n 0) 1 220 := ⟨by decide +kernel, rfl⟩
theorem d1_220 : Dc prog_19_method_1_code 220 (.getfield 22) 3 223 := ⟨by decide +kernel, rfl⟩
theorem d1_223 : Dc prog_19_method_1_code 223 (.iastore) 1 224 := ⟨by decide +kernel, rfl⟩
theorem d1_224 : Dc prog_19_method_1_code 224 (.dup) 1 225 := ⟨by decide +kernel, rfl⟩
theorem d1_225 : Dc prog_19_method_1_code 225 (.iconst 2) 1 226 := ⟨by decide +kernel, rfl⟩
theorem d1_226 : Dc prog_19_method_1_code 226 (.aload_n 0) 1 227 := ⟨by decide +kernel, rfl⟩
theorem d1_227 : Dc prog_19_method_1_code 227 (.getfield 22) 3 230 := ⟨by decide +kernel, rfl⟩
theorem d1_230 : Dc prog_19_method_1_code 230 (.iconst 1) 1 231 := ⟨by decide +kernel, rfl⟩
theorem d1_231 : Dc prog_19_method_1_code 231 (.iadd) 1 232 := ⟨by decide +kernel, rfl⟩
theorem d1_232 : Dc prog_19_method_1_code 232 (.iastore) 1 233 := ⟨by decide +kernel, rfl⟩
theorem d1_233 : Dc prog_19_method_1_code 233 (.dup) 1 234 := ⟨by decide +kernel, rfl⟩
theorem d1_234 : Dc prog_19_method_1_code 234 (.iconst 3) 1 235 := ⟨by decide +kernel, rfl⟩
theorem d1_235 : Dc prog_19_method_1_code 235 (.aload_n 0) 1 236 := ⟨by decide +kernel, rfl⟩
theorem d1_236 : Dc prog_19_method_1_code 236 (.getfield 22) 3 239 := ⟨by decide +kernel, rfl⟩
theorem d1_239 : Dc prog_19_method_1_code 239 (.iconst 1) 1 240 := ⟨by decide +kernel, rfl⟩
theorem d1_240 : Dc prog_19_method_1_code 240 (.isub) 1 241 := ⟨by decide +kernel, rfl⟩
theorem d1_241 : Dc prog_19_method_1_code 241 (.iastore) 1 242 := ⟨by decide +kernel, rfl⟩
theorem d1_242 : Dc prog_19_method_1_code 242 (.putfield 57) 3 245 := ⟨by decide +kernel, rfl⟩
theorem d1_245 : Dc prog_19_method_1_code 245 (.aload_n 0) 1 246 := ⟨by decide +kernel, rfl⟩
theorem d1_246 : Dc prog_19_method_1_code 246 (.iload_n 1) 1 247 := ⟨by decide +kernel, rfl⟩
theorem d1_247 : Dc prog_19_method_1_code 247 (.newarray .int) 2 249 := ⟨by decide +kernel, rfl⟩
theorem d1_249 : Dc prog_19_method_1_code 249 (.putfield 60) 3 252 := ⟨by decide +kernel, rfl⟩
theorem d1_252 : Dc prog_19_method_1_code 252 (.iconst 0) 1 253 := ⟨by decide +kernel, rfl⟩
theorem d1_253 : Dc prog_19_method_1_code 253 (.istore 5) 2 255 := ⟨by decide +kernel, rfl⟩
theorem d1_255 : Dc prog_19_method_1_code 255 (.iload_n 1) 1 256 := ⟨by decide +kernel, rfl⟩
theorem d1_256 : Dc prog_19_method_1_code 256 (.iconst 1) 1 257 := ⟨by decide +kernel, rfl⟩
theorem d1_257 : Dc prog_19_method_1_code 257 (.isub) 1 258 := ⟨by decide +kernel, rfl⟩
theorem d1_258 : Dc prog_19_method_1_code 258 (.iconst 2) 1 259 := ⟨by decide +kernel, rfl⟩
theorem d1_259 : Dc prog_19_method_1_code 259 (.irem) 1 260 := ⟨by decide +kernel, rfl⟩
theorem d1_260 : Dc prog_19_method_1_code 260 (.istore 6) 2 262 := ⟨by decide +kernel, rfl⟩
theorem d1_325 : Dc prog_19_method_1_code 325 (.return_) 1 326 := ⟨by decide +kernel, rfl⟩
set_option maxRecDepth 65536 in
set_option maxHeartbeats 40000000 in
theorem rmI {l : Launch} {Z : State} {a0 : Array Value} {n0 : Nat} (H : Wd a0 Z) (g : Addr) (W Hr : Nat) (h0 : Heap) (Z0 : n0 ≤ h0.size) (hW4 : 4 ≤ W) (hW9 : W ≤ 9) (hH4 : 4 ≤ Hr) (hH9 : Hr ≤ 9) (gg : n0 ≤ g) (E_g : Exa Z h0 g "com/example/plywright/plywright/games/ConnectFour") (F0_g : Fld Z h0 g "com/example/plywright/plywright/games/ConnectFour" "columns" "I" (.int (0 : Int32))) (F1_g : Fld Z h0 g "com/example/plywright/plywright/games/ConnectFour" "rows" "I" (.int (0 : Int32))) (F2_g : Fld Z h0 g "com/example/plywright/plywright/games/ConnectFour" "stride" "I" (.int (0 : Int32))) (F3_g : Fld Z h0 g "com/example/plywright/plywright/games/ConnectFour" "squares" "[B" .null) (F4_g : Fld Z h0 g "com/example/plywright/plywright/games/ConnectFour" "onMiddleRow" "[Z" .null) (F5_g : Fld Z h0 g "com/example/plywright/plywright/games/ConnectFour" "evaluatedSteps" "[I" .null) (F6_g : Fld Z h0 g "com/example/plywright/plywright/games/ConnectFour" "lineSteps" "[I" .null) (F7_g : Fld Z h0 g "com/example/plywright/plywright/games/ConnectFour" "centreFirst" "[I" .null) (F8_g : Fld Z h0 g "com/example/plywright/plywright/games/ConnectFour" "heights" "[I" .null) (F9_g : Fld Z h0 g "com/example/plywright/plywright/games/ConnectFour" "played" "[I" .null) (F10_g : Fld Z h0 g "com/example/plywright/plywright/games/ConnectFour" "zobrist" "[J" .null) (F11_g : Fld Z h0 g "com/example/plywright/plywright/games/ConnectFour" "plies" "I" (.int (0 : Int32))) (F12_g : Fld Z h0 g "com/example/plywright/plywright/games/ConnectFour" "won" "Z" (.int (0 : Int32))) (F13_g : Fld Z h0 g "com/example/plywright/plywright/games/ConnectFour" "key" "J" (.long (0 : Int64))) :
    CtW l Z n0 (⟨"com/example/plywright/plywright/games/ConnectFour", "<init>", "(II)V"⟩ : MethodName) prog_19_method_1_code 9 none [] ({ frames := 1, cells := 12, slots := 850, locals := 30 } : Room) #[(.ref g), (.int (Int32.ofNat W)), (.int (Int32.ofNat Hr))] h0 (fun v h => v = none ∧ Keep h0 h [g] ∧ ∃ (sq hs pl zb la cf : Addr) (zf : Nat → Int64), own_Gne n0 g sq hs pl zb la cf ∧ h0.size ≤ sq ∧ h0.size ≤ hs ∧ h0.size ≤ pl ∧ h0.size ≤ cf ∧ ∀ cq : Nat → Nat, own_Gst Z h g sq hs pl zb la cf W Hr zf cq 0 0) := by
  refine CtW.of (a0 := a0) (L0 := #[.val (.ref g), .val (.int (Int32.ofNat W)), .val (.int (Int32.ofNat Hr)), .unset, .unset, .unset, .unset, .unset, .unset]) (plainFor_of_name pn_com_example_plywright_plywright_games_ConnectFour) (fun m => by first | (simp [entryFrame, mkF, argsToLocals, Value.category]; done) | rfl) ?_
  intro κ Wk B0
  have B : Ok κ l Z a0 n0 ({ frames := 1, cells := 12, slots := 850, locals := 30 } : Room) "com/example/plywright/plywright/games/ConnectFour" "<init>" prog_19_method_1_code 9 none := B0
  have hNN : ((W + 4) * (Hr + 4)) ≤ 169 := Nat.mul_le_mul (show W + 4 ≤ 13 by omega) (show Hr + 4 ≤ 13 by omega)
  have hWH : W * Hr ≤ 81 := Nat.mul_le_mul hW9 hH9
  refine go_aload_n B d1_0 rfl rfl ?_
  refine go_initO B (W := 0) d1_1 (w_8 H) (w_9 H) (w_10 H) rfl rfl (by decide) (by decide) ?_
  refine go_ldcS B Wk (nn := 28) d1_4 (w_11 H) (strings H) (Nat.zero_le _) (by decide) (by decide) (by decide) (by decide) ?_
  intro κ km354 h352 a353 Wk B K355 E356
  show Go κ _ h352 _ _ 6 #[.val (.ref g), .val (.int (Int32.ofNat W)), .val (.int (Int32.ofNat Hr)), .unset, .unset, .unset, .unset, .unset, .unset] [(.ref a353)]
  refine go_iload_n B d1_6 rfl ?_
  refine go_static B (W := 0) (argsL := [(.ref a353), (.int (Int32.ofNat W))]) (st := []) d1_7 (w_19 H) (w_20 H) (w_4 H) (w_21 H) (by decide) (rmCk H a353 W h352 (Nat.le_trans Z0 E356.1) hW4 hW9) pd_6 rfl rfl rfl rfl (by decide) (by decide) (by decide) (by decide) ?_
  rintro _ h357 ⟨rfl, rfl⟩
  show Go κ _ h352 _ _ 10 #[.val (.ref g), .val (.int (Int32.ofNat W)), .val (.int (Int32.ofNat Hr)), .unset, .unset, .unset, .unset, .unset, .unset] []
  refine go_ldcS B Wk (nn := 16) d1_10 (w_22 H) (strings H) K355 (by decide) (by decide) (by decide) (by decide) ?_
  intro κ km360 h358 a359 Wk B K361 E362
  show Go κ _ h358 _ _ 12 #[.val (.ref g), .val (.int (Int32.ofNat W)), .val (.int (Int32.ofNat Hr)), .unset, .unset, .unset, .unset, .unset, .unset] [(.ref a359)]
  refine go_iload_n B d1_12 rfl ?_
  refine go_static B (W := 0) (argsL := [(.ref a359), (.int (Int32.ofNat Hr))]) (st := []) d1_13 (w_19 H) (w_20 H) (w_4 H) (w_21 H) (by decide) (rmCk H a359 Hr h358 (Nat.le_trans (Nat.le_trans Z0 E356.1) E362.1) hH4 hH9) pd_6 rfl rfl rfl rfl (by decide) (by decide) (by decide) (by decide) ?_
  rintro _ h363 ⟨rfl, rfl⟩
  show Go κ _ h358 _ _ 16 #[.val (.ref g), .val (.int (Int32.ofNat W)), .val (.int (Int32.ofNat Hr)), .unset, .unset, .unset, .unset, .unset, .unset] []
  refine go_aload_n B d1_16 rfl rfl ?_
  refine go_iload_n B d1_17 rfl ?_
  refine go_putfield B (ty := .int) d1_18 (w_23 H) (Fld.ext E362 (Fld.ext E356 F0_g)) (Exa.ext E362 (Exa.ext E356 E_g)) (Or.inr ⟨(w_24 H), rfl, rfl⟩) (w_3 H) (by decide) rfl rfl gg ?_
  intro h364 W365
  have f366 : Fld Z h364 g "com/example/plywright/plywright/games/ConnectFour" "columns" "I" (.int (Int32.ofNat W)) := Fld.same W365 (Fld.ext E362 (Fld.ext E356 F0_g))
  refine go_aload_n B d1_21 rfl rfl ?_
  refine go_iload_n B d1_22 rfl ?_
  have f367 : Fld Z h364 g "com/example/plywright/plywright/games/ConnectFour" "rows" "I" (.int (0 : Int32)) := (Fld.other W365 (Fld.ext E362 (Fld.ext E356 F1_g)) (Or.inr (slot_ne (t := .int) (t' := .int) (Or.inr (w_26 H)) (Or.inr (w_24 H)) (by decide) (by decide) (by decide))))
  refine go_putfield B (ty := .int) d1_23 (w_25 H) f367 (Exa.wr W365 (Exa.ext E362 (Exa.ext E356 E_g))) (Or.inr ⟨(w_26 H), rfl, rfl⟩) (w_3 H) (by decide) rfl rfl gg ?_
  intro h368 W369
  have f370 : Fld Z h368 g "com/example/plywright/plywright/games/ConnectFour" "rows" "I" (.int (Int32.ofNat Hr)) := Fld.same W369 f367
  refine go_aload_n B d1_26 rfl rfl ?_
  refine go_iload_n B d1_27 rfl ?_
  refine go_iconst B (x := (4 : Int32)) d1_28 rfl ?_
  refine go_iadd B d1_29 ?_
  rw [show ((Int32.ofNat W) + (4 : Int32)) = (Int32.ofNat (W + 4)) from n_add]
  have f371 : Fld Z h368 g "com/example/plywright/plywright/games/ConnectFour" "stride" "I" (.int (0 : Int32)) := (Fld.other W369 (Fld.other W365 (Fld.ext E362 (Fld.ext E356 F2_g)) (Or.inr (slot_ne (t := .int) (t' := .int) (Or.inr (w_28 H)) (Or.inr (w_24 H)) (by decide) (by decide) (by decide)))) (Or.inr (slot_ne (t := .int) (t' := .int) (Or.inr (w_28 H)) (Or.inr (w_26 H)) (by decide) (by decide) (by decide))))
  have f372 : Exa Z h368 g "com/example/plywright/plywright/games/ConnectFour" := (Exa.wr W369 (Exa.wr W365 (Exa.ext E362 (Exa.ext E356 E_g))))
  refine go_putfield B (ty := .int) d1_30 (w_27 H) f371 f372 (Or.inr ⟨(w_28 H), rfl, rfl⟩) (w_3 H) (by decide) rfl rfl gg ?_
  intro h373 W374
  have f375 : Fld Z h373 g "com/example/plywright/plywright/games/ConnectFour" "stride" "I" (.int (Int32.ofNat (W + 4))) := Fld.same W374 f371
  refine go_aload_n B d1_33 rfl rfl ?_
  refine go_aload_n B d1_34 rfl rfl ?_
  refine go_getfield B d1_35 (w_27 H) f375 ?_
  refine go_iload_n B d1_38 rfl ?_
  refine go_iconst B (x := (4 : Int32)) d1_39 rfl ?_
  refine go_iadd B d1_40 ?_
  rw [show ((Int32.ofNat Hr) + (4 : Int32)) = (Int32.ofNat (Hr + 4)) from n_add]
  refine go_imul B d1_41 ?_
  rw [show ((Int32.ofNat (W + 4)) * (Int32.ofNat (Hr + 4))) = (Int32.ofNat ((W + 4) * (Hr + 4))) from n_mul]
  refine go_newarray B (i := ((W + 4) * (Hr + 4))) (cap := 169) d1_42 (w_14 H) (i_ofNat (by omega)) hNN (by decide) (by decide) (by decide) ?_
  intro h376 a377 hba377 Ea377 Aa377 Ca377
  have ne_a377_g : a377 ≠ g := Nat.ne_of_gt (Nat.lt_of_lt_of_le ((Exa.wr W374 f372)).lt (by omega))
  have f378 : n0 ≤ h373.size := (Nat.le_trans (Nat.le_trans (Nat.le_trans (Nat.le_trans (Nat.le_trans Z0 E356.1) E362.1) (Nat.le_of_eq (Wr.size W365).symm)) (Nat.le_of_eq (Wr.size W369).symm)) (Nat.le_of_eq (Wr.size W374).symm))
  have ge_a377 : n0 ≤ a377 := by have q1 := f378; omega
  have f379 : Keep h0 h373 [g] := (Keep.wr (Keep.wr (Keep.wr (Keep.ext (Keep.ext (Keep.refl h0 _) E356) E362) W365 (Or.inl (by simp))) W369 (Or.inl (by simp))) W374 (Or.inl (by simp)))
  have fr_a377 : h0.size ≤ a377 := by have q1 := (show Keep h0 h373 [g] from f379).1; omega
  have f380 : Fld Z h376 g "com/example/plywright/plywright/games/ConnectFour" "squares" "[B" .null := (Fld.ext Ea377 (Fld.other W374 (Fld.other W369 (Fld.other W365 (Fld.ext E362 (Fld.ext E356 F3_g)) (Or.inr (slot_ne (t := (.array .byte)) (t' := .int) (Or.inr (w_30 H)) (Or.inr (w_24 H)) (by decide) (by decide) (by decide)))) (Or.inr (slot_ne (t := (.array .byte)) (t' := .int) (Or.inr (w_30 H)) (Or.inr (w_26 H)) (by decide) (by decide) (by decide)))) (Or.inr (slot_ne (t := (.array .byte)) (t' := .int) (Or.inr (w_30 H)) (Or.inr (w_28 H)) (by decide) (by decide) (by decide)))))
  refine go_putfield B (ty := (.array .byte)) d1_44 (w_29 H) f380 (Exa.ext Ea377 (Exa.wr W374 f372)) (Or.inr ⟨(w_30 H), rfl, rfl⟩) (w_3 H) (by decide) rfl rfl gg ?_
  intro h381 W382
  have f383 : Fld Z h381 g "com/example/plywright/plywright/games/ConnectFour" "squares" "[B" (.ref a377) := Fld.same W382 f380
  refine go_aload_n B d1_47 rfl rfl ?_
  refine go_iload_n B d1_48 rfl ?_
  refine go_newarray B (i := W) (cap := 9) d1_49 (w_1 H) (i_ofNat (by omega)) hW9 (by decide) (by decide) (by decide) ?_
  intro h384 a385 hba385 Ea385 Aa385 Ca385
  have ne_a385_g : a385 ≠ g := Nat.ne_of_gt (Nat.lt_of_lt_of_le ((Exa.wr W382 (Exa.ext Ea377 (Exa.wr W374 f372)))).lt (by omega))
  have ne_a385_a377 : a385 ≠ a377 := Nat.ne_of_gt (Nat.lt_of_lt_of_le ((Exa.wr W382 Ca377)).lt (by omega))
  have f386 : n0 ≤ h381.size := (Nat.le_trans (Nat.le_trans f378 Ea377.1) (Nat.le_of_eq (Wr.size W382).symm))
  have ge_a385 : n0 ≤ a385 := by have q1 := f386; omega
  have fr_a385 : h0.size ≤ a385 := by have q1 := (show Keep h0 h381 [g] from (Keep.wr (Keep.ext f379 Ea377) W382 (Or.inl (by simp)))).1; omega
  have f387 : Fld Z h384 g "com/example/plywright/plywright/games/ConnectFour" "heights" "[I" .null := (Fld.ext Ea385 (Fld.other W382 (Fld.ext Ea377 (Fld.other W374 (Fld.other W369 (Fld.other W365 (Fld.ext E362 (Fld.ext E356 F8_g)) (Or.inr (slot_ne (t := (.array .int)) (t' := .int) (Or.inr (w_32 H)) (Or.inr (w_24 H)) (by decide) (by decide) (by decide)))) (Or.inr (slot_ne (t := (.array .int)) (t' := .int) (Or.inr (w_32 H)) (Or.inr (w_26 H)) (by decide) (by decide) (by decide)))) (Or.inr (slot_ne (t := (.array .int)) (t' := .int) (Or.inr (w_32 H)) (Or.inr (w_28 H)) (by decide) (by decide) (by decide))))) (Or.inr (slot_ne (t := (.array .int)) (t' := (.array .byte)) (Or.inr (w_32 H)) (Or.inr (w_30 H)) (by decide) (by decide) (by decide)))))
  have f388 : Exa Z h384 g "com/example/plywright/plywright/games/ConnectFour" := (Exa.ext Ea385 (Exa.wr W382 (Exa.ext Ea377 (Exa.wr W374 f372))))
  refine go_putfield B (ty := (.array .int)) d1_51 (w_31 H) f387 f388 (Or.inr ⟨(w_32 H), rfl, rfl⟩) (w_3 H) (by decide) rfl rfl gg ?_
  intro h389 W390
  have f391 : Fld Z h389 g "com/example/plywright/plywright/games/ConnectFour" "heights" "[I" (.ref a385) := Fld.same W390 f387
  refine go_aload_n B d1_54 rfl rfl ?_
  refine go_iload_n B d1_55 rfl ?_
  refine go_iload_n B d1_56 rfl ?_
  refine go_imul B d1_57 ?_
  rw [show ((Int32.ofNat W) * (Int32.ofNat Hr)) = (Int32.ofNat (W * Hr)) from n_mul]
  refine go_newarray B (i := (W * Hr)) (cap := 81) d1_58 (w_1 H) (i_ofNat (by omega)) hWH (by decide) (by decide) (by decide) ?_
  intro h392 a393 hba393 Ea393 Aa393 Ca393
  have ne_a393_g : a393 ≠ g := Nat.ne_of_gt (Nat.lt_of_lt_of_le ((Exa.wr W390 f388)).lt (by omega))
  have ne_a393_a377 : a393 ≠ a377 := Nat.ne_of_gt (Nat.lt_of_lt_of_le ((Exa.wr W390 (Exa.ext Ea385 (Exa.wr W382 Ca377)))).lt (by omega))
  have ne_a393_a385 : a393 ≠ a385 := Nat.ne_of_gt (Nat.lt_of_lt_of_le ((Exa.wr W390 Ca385)).lt (by omega))
  have f394 : n0 ≤ h389.size := (Nat.le_trans (Nat.le_trans f386 Ea385.1) (Nat.le_of_eq (Wr.size W390).symm))
  have ge_a393 : n0 ≤ a393 := by have q1 := f394; omega
  have f395 : Keep h0 h389 [g] := (Keep.wr (Keep.ext (Keep.wr (Keep.ext f379 Ea377) W382 (Or.inl (by simp))) Ea385) W390 (Or.inl (by simp)))
  have fr_a393 : h0.size ≤ a393 := by have q1 := (show Keep h0 h389 [g] from f395).1; omega
  have f396 : Fld Z h392 g "com/example/plywright/plywright/games/ConnectFour" "played" "[I" .null := (Fld.ext Ea393 (Fld.other W390 (Fld.ext Ea385 (Fld.other W382 (Fld.ext Ea377 (Fld.other W374 (Fld.other W369 (Fld.other W365 (Fld.ext E362 (Fld.ext E356 F9_g)) (Or.inr (slot_ne (t := (.array .int)) (t' := .int) (Or.inr (w_34 H)) (Or.inr (w_24 H)) (by decide) (by decide) (by decide)))) (Or.inr (slot_ne (t := (.array .int)) (t' := .int) (Or.inr (w_34 H)) (Or.inr (w_26 H)) (by decide) (by decide) (by decide)))) (Or.inr (slot_ne (t := (.array .int)) (t' := .int) (Or.inr (w_34 H)) (Or.inr (w_28 H)) (by decide) (by decide) (by decide))))) (Or.inr (slot_ne (t := (.array .int)) (t' := (.array .byte)) (Or.inr (w_34 H)) (Or.inr (w_30 H)) (by decide) (by decide) (by decide))))) (Or.inr (slot_ne (t := (.array .int)) (t' := (.array .int)) (Or.inr (w_34 H)) (Or.inr (w_32 H)) (by decide) (by decide) (by decide)))))
  refine go_putfield B (ty := (.array .int)) d1_60 (w_33 H) f396 (Exa.ext Ea393 (Exa.wr W390 f388)) (Or.inr ⟨(w_34 H), rfl, rfl⟩) (w_3 H) (by decide) rfl rfl gg ?_
  intro h397 W398
  have f399 : Fld Z h397 g "com/example/plywright/plywright/games/ConnectFour" "played" "[I" (.ref a393) := Fld.same W398 f396
  refine go_aload_n B d1_63 rfl rfl ?_
  refine go_iconst B (x := (2 : Int32)) d1_64 rfl ?_
  refine go_aload_n B d1_65 rfl rfl ?_
  have f400 : Fld Z h397 g "com/example/plywright/plywright/games/ConnectFour" "squares" "[B" (.ref a377) := (Fld.other W398 (Fld.ext Ea393 (Fld.other W390 (Fld.ext Ea385 f383) (Or.inr (slot_ne (t := (.array .byte)) (t' := (.array .int)) (Or.inr (w_30 H)) (Or.inr (w_32 H)) (by decide) (by decide) (by decide))))) (Or.inr (slot_ne (t := (.array .byte)) (t' := (.array .int)) (Or.inr (w_30 H)) (Or.inr (w_34 H)) (by decide) (by decide) (by decide))))
  refine go_getfield B d1_66 (w_29 H) f400 ?_
  have f401 : AV Z h397 a377 .byte (List.replicate ((W + 4) * (Hr + 4)) (.int (0 : Int32))) := (AV.other (AV.ext (AV.other (AV.ext (AV.other Aa377 W382 ne_a377_g) Ea385) W390 ne_a377_g) Ea393) W398 ne_a377_g)
  refine go_arraylength B (x := (Int32.ofNat ((W + 4) * (Hr + 4)))) d1_69 f401 (by rw [List.length_replicate]) ?_
  refine go_imul B d1_70 ?_
  rw [show ((2 : Int32) * (Int32.ofNat ((W + 4) * (Hr + 4)))) = (Int32.ofNat (2 * ((W + 4) * (Hr + 4)))) from (by rw [show (2 : Int32) = Int32.ofNat 2 from rfl, n_mul])]
  refine go_iconst B (x := (1 : Int32)) d1_71 rfl ?_
  refine go_iadd B d1_72 ?_
  rw [show ((Int32.ofNat (2 * ((W + 4) * (Hr + 4)))) + (1 : Int32)) = (Int32.ofNat (2 * ((W + 4) * (Hr + 4)) + 1)) from n_add]
  have f406 : n0 ≤ h397.size := (Nat.le_trans (Nat.le_trans f394 Ea393.1) (Nat.le_of_eq (Wr.size W398).symm))
  refine go_static B (W := 1) (argsL := [(.int (Int32.ofNat (2 * ((W + 4) * (Hr + 4)) + 1)))]) (st := [(.ref g)]) d1_73 (w_35 H) (w_36 H) (w_37 H) (w_38 H) (by decide) (rmN H (Int32.ofNat (2 * ((W + 4) * (Hr + 4)) + 1)) (2 * ((W + 4) * (Hr + 4)) + 1) h397 f406 (by omega) (i_ofNat (by omega))) pd_7 rfl rfl rfl rfl (by decide) (by decide) (by decide) (by decide) ?_
  rintro _ h407 ⟨b402, rfl, g403, E404, A405⟩
  have ne_b402_g : b402 ≠ g := Nat.ne_of_gt (Nat.lt_of_lt_of_le ((Exa.wr W398 (Exa.ext Ea393 (Exa.wr W390 f388)))).lt (by omega))
  have f408 : Exa Z h397 a377 "[B" := (Exa.wr W398 (Exa.ext Ea393 (Exa.wr W390 (Exa.ext Ea385 (Exa.wr W382 Ca377)))))
  have ne_b402_a377 : b402 ≠ a377 := Nat.ne_of_gt (Nat.lt_of_lt_of_le (f408).lt (by omega))
  have ne_b402_a385 : b402 ≠ a385 := Nat.ne_of_gt (Nat.lt_of_lt_of_le ((Exa.wr W398 (Exa.ext Ea393 (Exa.wr W390 Ca385)))).lt (by omega))
  have ne_b402_a393 : b402 ≠ a393 := Nat.ne_of_gt (Nat.lt_of_lt_of_le ((Exa.wr W398 Ca393)).lt (by omega))
  have ge_b402 : n0 ≤ b402 := by have q1 := f406; omega
  have fr_b402 : h0.size ≤ b402 := by have q1 := (show Keep h0 h397 [g] from (Keep.wr (Keep.ext f395 Ea393) W398 (Or.inl (by simp)))).1; omega
  show Go κ _ h407 _ _ 76 #[.val (.ref g), .val (.int (Int32.ofNat W)), .val (.int (Int32.ofNat Hr)), .unset, .unset, .unset, .unset, .unset, .unset] [(.ref b402), (.ref g)]
  have f409 : Fld Z h407 g "com/example/plywright/plywright/games/ConnectFour" "zobrist" "[J" .null := (Fld.ext E404 (Fld.other W398 (Fld.ext Ea393 (Fld.other W390 (Fld.ext Ea385 (Fld.other W382 (Fld.ext Ea377 (Fld.other W374 (Fld.other W369 (Fld.other W365 (Fld.ext E362 (Fld.ext E356 F10_g)) (Or.inr (slot_ne (t := (.array .long)) (t' := .int) (Or.inr (w_44 H)) (Or.inr (w_24 H)) (by decide) (by decide) (by decide)))) (Or.inr (slot_ne (t := (.array .long)) (t' := .int) (Or.inr (w_44 H)) (Or.inr (w_26 H)) (by decide) (by decide) (by decide)))) (Or.inr (slot_ne (t := (.array .long)) (t' := .int) (Or.inr (w_44 H)) (Or.inr (w_28 H)) (by decide) (by decide) (by decide))))) (Or.inr (slot_ne (t := (.array .long)) (t' := (.array .byte)) (Or.inr (w_44 H)) (Or.inr (w_30 H)) (by decide) (by decide) (by decide))))) (Or.inr (slot_ne (t := (.array .long)) (t' := (.array .int)) (Or.inr (w_44 H)) (Or.inr (w_32 H)) (by decide) (by decide) (by decide))))) (Or.inr (slot_ne (t := (.array .long)) (t' := (.array .int)) (Or.inr (w_44 H)) (Or.inr (w_34 H)) (by decide) (by decide) (by decide)))))
  have f410 : Exa Z h407 g "com/example/plywright/plywright/games/ConnectFour" := (Exa.ext E404 (Exa.wr W398 (Exa.ext Ea393 (Exa.wr W390 f388))))
  refine go_putfield B (ty := (.array .long)) d1_76 (w_43 H) f409 f410 (Or.inr ⟨(w_44 H), rfl, rfl⟩) (w_3 H) (by decide) rfl rfl gg ?_
  intro h411 W412
  have f413 : Fld Z h411 g "com/example/plywright/plywright/games/ConnectFour" "zobrist" "[J" (.ref b402) := Fld.same W412 f409
  refine go_aload_n B d1_79 rfl rfl ?_
  refine go_aload_n B d1_80 rfl rfl ?_
  have f414 : Fld Z h411 g "com/example/plywright/plywright/games/ConnectFour" "squares" "[B" (.ref a377) := (Fld.other W412 (Fld.ext E404 f400) (Or.inr (slot_ne (t := (.array .byte)) (t' := (.array .long)) (Or.inr (w_30 H)) (Or.inr (w_44 H)) (by decide) (by decide) (by decide))))
  refine go_getfield B d1_81 (w_29 H) f414 ?_
  refine go_arraylength B (x := (Int32.ofNat ((W + 4) * (Hr + 4)))) d1_84 (AV.other (AV.ext f401 E404) W412 ne_a377_g) (by rw [List.length_replicate]) ?_
  refine go_newarray B (i := ((W + 4) * (Hr + 4))) (cap := 169) d1_85 (w_45 H) (i_ofNat (by omega)) hNN (by decide) (by decide) (by decide) ?_
  intro h415 a416 hba416 Ea416 Aa416 Ca416
  have ne_a416_g : a416 ≠ g := Nat.ne_of_gt (Nat.lt_of_lt_of_le ((Exa.wr W412 f410)).lt (by omega))
  have ne_a416_a377 : a416 ≠ a377 := Nat.ne_of_gt (Nat.lt_of_lt_of_le ((Exa.wr W412 (Exa.ext E404 f408))).lt (by omega))
  have f417 : Exa Z h411 a385 "[I" := (Exa.wr W412 (Exa.ext E404 (Exa.wr W398 (Exa.ext Ea393 (Exa.wr W390 Ca385)))))
  have ne_a416_a385 : a416 ≠ a385 := Nat.ne_of_gt (Nat.lt_of_lt_of_le (f417).lt (by omega))
  have ne_a416_a393 : a416 ≠ a393 := Nat.ne_of_gt (Nat.lt_of_lt_of_le ((Exa.wr W412 (Exa.ext E404 (Exa.wr W398 Ca393)))).lt (by omega))
  have ne_a416_b402 : a416 ≠ b402 := Nat.ne_of_gt (Nat.lt_of_lt_of_le ((AV.other A405 W412 ne_b402_g)).lt (by omega))
  have f418 : n0 ≤ h411.size := (Nat.le_trans (Nat.le_trans f406 E404.1) (Nat.le_of_eq (Wr.size W412).symm))
  have ge_a416 : n0 ≤ a416 := by have q1 := f418; omega
  have f419 : Keep h0 h411 [g] := (Keep.wr (Keep.ext (Keep.wr (Keep.ext f395 Ea393) W398 (Or.inl (by simp))) E404) W412 (Or.inl (by simp)))
  have fr_a416 : h0.size ≤ a416 := by have q1 := (show Keep h0 h411 [g] from f419).1; omega
  have f420 : Fld Z h415 g "com/example/plywright/plywright/games/ConnectFour" "onMiddleRow" "[Z" .null := (Fld.ext Ea416 (Fld.other W412 (Fld.ext E404 (Fld.other W398 (Fld.ext Ea393 (Fld.other W390 (Fld.ext Ea385 (Fld.other W382 (Fld.ext Ea377 (Fld.other W374 (Fld.other W369 (Fld.other W365 (Fld.ext E362 (Fld.ext E356 F4_g)) (Or.inr (slot_ne (t := (.array .boolean)) (t' := .int) (Or.inr (w_47 H)) (Or.inr (w_24 H)) (by decide) (by decide) (by decide)))) (Or.inr (slot_ne (t := (.array .boolean)) (t' := .int) (Or.inr (w_47 H)) (Or.inr (w_26 H)) (by decide) (by decide) (by decide)))) (Or.inr (slot_ne (t := (.array .boolean)) (t' := .int) (Or.inr (w_47 H)) (Or.inr (w_28 H)) (by decide) (by decide) (by decide))))) (Or.inr (slot_ne (t := (.array .boolean)) (t' := (.array .byte)) (Or.inr (w_47 H)) (Or.inr (w_30 H)) (by decide) (by decide) (by decide))))) (Or.inr (slot_ne (t := (.array .boolean)) (t' := (.array .int)) (Or.inr (w_47 H)) (Or.inr (w_32 H)) (by decide) (by decide) (by decide))))) (Or.inr (slot_ne (t := (.array .boolean)) (t' := (.array .int)) (Or.inr (w_47 H)) (Or.inr (w_34 H)) (by decide) (by decide) (by decide))))) (Or.inr (slot_ne (t := (.array .boolean)) (t' := (.array .long)) (Or.inr (w_47 H)) (Or.inr (w_44 H)) (by decide) (by decide) (by decide)))))
  refine go_putfield B (ty := (.array .boolean)) d1_87 (w_46 H) f420 (Exa.ext Ea416 (Exa.wr W412 f410)) (Or.inr ⟨(w_47 H), rfl, rfl⟩) (w_3 H) (by decide) rfl rfl gg ?_
  intro h421 W422
  have f423 : Fld Z h421 g "com/example/plywright/plywright/games/ConnectFour" "onMiddleRow" "[Z" (.ref a416) := Fld.same W422 f420
  refine go_iload_n B d1_90 rfl ?_
  refine go_iconst B (x := (1 : Int32)) d1_91 rfl ?_
  refine go_isub B d1_92 ?_
  rw [show ((Int32.ofNat Hr) - (1 : Int32)) = (Int32.ofNat (Hr - 1)) from (by rw [show (1 : Int32) = Int32.ofNat 1 from rfl, n_sub (by omega)])]
  refine go_iconst B (x := (2 : Int32)) d1_93 rfl ?_
  refine go_idiv B d1_94 (by decide) ?_
  rw [show ((Int32.ofNat (Hr - 1)) / (2 : Int32)) = (Int32.ofNat ((Hr - 1) / 2)) from (n_div (n := 2) (by omega) (by omega))]
  refine go_istore_n B #[.val (.ref g), .val (.int (Int32.ofNat W)), .val (.int (Int32.ofNat Hr)), .val (.int (Int32.ofNat ((Hr - 1) / 2))), .unset, .unset, .unset, .unset, .unset] d1_95 rfl ?_
  refine go_iload_n B d1_96 rfl ?_
  refine go_iconst B (x := (2 : Int32)) d1_97 rfl ?_
  refine go_idiv B d1_98 (by decide) ?_
  rw [show ((Int32.ofNat Hr) / (2 : Int32)) = (Int32.ofNat (Hr / 2)) from (n_div (n := 2) (by omega) (by omega))]
  refine go_istore B #[.val (.ref g), .val (.int (Int32.ofNat W)), .val (.int (Int32.ofNat Hr)), .val (.int (Int32.ofNat ((Hr - 1) / 2))), .val (.int (Int32.ofNat (Hr / 2))), .unset, .unset, .unset, .unset] d1_99 rfl ?_
  refine go_iconst B (x := (0 : Int32)) d1_101 rfl ?_
  refine go_istore B #[.val (.ref g), .val (.int (Int32.ofNat W)), .val (.int (Int32.ofNat Hr)), .val (.int (Int32.ofNat ((Hr - 1) / 2))), .val (.int (Int32.ofNat (Hr / 2))), .val (.int (0 : Int32)), .unset, .unset, .unset] d1_102 rfl ?_
  show Go κ _ h421 _ _ 104 #[.val (.ref g), .val (.int (Int32.ofNat W)), .val (.int (Int32.ofNat Hr)), .val (.int (Int32.ofNat ((Hr - 1) / 2))), .val (.int (Int32.ofNat (Hr / 2))), .val (.int (Int32.ofNat 0)), .unset, .unset, .unset] []
  refine go_iload B d1_104 rfl ?_
  refine go_iload_n B d1_106 rfl ?_
  refine go_icmpge B d1_107 (fun c107 => ?_) (fun c107 => ?_)
  · exact absurd (i_lt (i_ofNat (by omega)) (i_ofNat (by omega)) (by omega)) c107
  refine go_iload_n B d1_110 rfl ?_
  refine go_istore B #[.val (.ref g), .val (.int (Int32.ofNat W)), .val (.int (Int32.ofNat Hr)), .val (.int (Int32.ofNat ((Hr - 1) / 2))), .val (.int (Int32.ofNat (Hr / 2))), .val (.int (Int32.ofNat 0)), .val (.int (Int32.ofNat ((Hr - 1) / 2))), .unset, .unset] d1_111 rfl ?_
  have f424 : n0 ≤ h421.size := (Nat.le_trans (Nat.le_trans f418 Ea416.1) (Nat.le_of_eq (Wr.size W422).symm))
  have f425 : Fld Z h421 g "com/example/plywright/plywright/games/ConnectFour" "stride" "I" (.int (Int32.ofNat (W + 4))) := (Fld.other W422 (Fld.ext Ea416 (Fld.other W412 (Fld.ext E404 (Fld.other W398 (Fld.ext Ea393 (Fld.other W390 (Fld.ext Ea385 (Fld.other W382 (Fld.ext Ea377 f375) (Or.inr (slot_ne (t := .int) (t' := (.array .byte)) (Or.inr (w_28 H)) (Or.inr (w_30 H)) (by decide) (by decide) (by decide))))) (Or.inr (slot_ne (t := .int) (t' := (.array .int)) (Or.inr (w_28 H)) (Or.inr (w_32 H)) (by decide) (by decide) (by decide))))) (Or.inr (slot_ne (t := .int) (t' := (.array .int)) (Or.inr (w_28 H)) (Or.inr (w_34 H)) (by decide) (by decide) (by decide))))) (Or.inr (slot_ne (t := .int) (t' := (.array .long)) (Or.inr (w_28 H)) (Or.inr (w_44 H)) (by decide) (by decide) (by decide))))) (Or.inr (slot_ne (t := .int) (t' := (.array .boolean)) (Or.inr (w_28 H)) (Or.inr (w_47 H)) (by decide) (by decide) (by decide))))
  refine mid1 H B hW9 hH9 (show Hr / 2 < Hr by omega) ge_a416 ne_a416_g (by decide) (by decide) (show 0 < W by omega) (Hr / 2 + 1 - (Hr - 1) / 2) ((Hr - 1) / 2) (by omega) h421 (fun _ => 0) f424 f425 f423 (Exa.wr W422 (Exa.ext Ea416 (Exa.wr W412 f410))) (bm_zero _ ▸ (AV.other Aa416 W422 ne_a416_g)) ?_
  intro h1 f1 K1 A1
  refine go_iinc B #[.val (.ref g), .val (.int (Int32.ofNat W)), .val (.int (Int32.ofNat Hr)), .val (.int (Int32.ofNat ((Hr - 1) / 2))), .val (.int (Int32.ofNat (Hr / 2))), .val (.int ((Int32.ofNat 0) + (1 : Int32))), .val (.int (Int32.ofNat (Hr / 2 + 1))), .unset, .unset] d1_140 (z := (1 : Int32)) rfl rfl rfl ?_
  rw [show ((Int32.ofNat 0) + (1 : Int32)) = (Int32.ofNat 1) from n_add]
  refine go_goto B d1_143 ?_
  have f426 : Exa Z h1 g "com/example/plywright/plywright/games/ConnectFour" := (Exa.keep (Exa.wr W422 (Exa.ext Ea416 (Exa.wr W412 f410))) K1)
  refine mid2 H B hW9 hH9 (show Hr / 2 < Hr by omega) ge_a416 ne_a416_g (by decide) (by decide) (by omega) (W - 1) 1 (by omega) _ h1 _ (Nat.le_trans f424 K1.1) (Fld.keep f425 K1 (ninS (Ne.symm ne_a416_g) nin0)) (Fld.keep f423 K1 (ninS (Ne.symm ne_a416_g) nin0)) f426 A1 ?_
  intro h2 f2 z2 K2 A2
  refine go_aload_n B d1_146 rfl rfl ?_
  refine go_bipush B (x := (7 : Int32)) d1_147 (by decide) ?_
  refine go_newarray B (i := 7) (cap := 7) d1_149 (w_1 H) rfl (Nat.le_refl _) (by decide) (by decide) (by decide) ?_
  intro h427 a428 hba428 Ea428 Aa428 Ca428
  have ne_a428_g : a428 ≠ g := Nat.ne_of_gt (Nat.lt_of_lt_of_le ((Exa.keep f426 K2)).lt (by omega))
  have f429 : Exa Z h2 a377 "[B" := (Exa.keep (Exa.keep (Exa.wr W422 (Exa.ext Ea416 (Exa.wr W412 (Exa.ext E404 f408)))) K1) K2)
  have ne_a428_a377 : a428 ≠ a377 := Nat.ne_of_gt (Nat.lt_of_lt_of_le (f429).lt (by omega))
  have f430 : Exa Z h2 a385 "[I" := (Exa.keep (Exa.keep (Exa.wr W422 (Exa.ext Ea416 f417)) K1) K2)
  have ne_a428_a385 : a428 ≠ a385 := Nat.ne_of_gt (Nat.lt_of_lt_of_le (f430).lt (by omega))
  have f431 : Exa Z h2 a393 "[I" := (Exa.keep (Exa.keep (Exa.wr W422 (Exa.ext Ea416 (Exa.wr W412 (Exa.ext E404 (Exa.wr W398 Ca393))))) K1) K2)
  have ne_a428_a393 : a428 ≠ a393 := Nat.ne_of_gt (Nat.lt_of_lt_of_le (f431).lt (by omega))
  have f432 : AV Z h2 b402 .long (lm (2 * ((W + 4) * (Hr + 4)) + 1) (fun j => if j < (2 * ((W + 4) * (Hr + 4)) + 1) then own_num j else 0)) := (AV.keep (AV.keep (AV.other (AV.ext (AV.other A405 W412 ne_b402_g) Ea416) W422 ne_b402_g) K1 (ninS (Ne.symm ne_a416_b402) nin0)) K2 (ninS (Ne.symm ne_a416_b402) nin0))
  have ne_a428_b402 : a428 ≠ b402 := Nat.ne_of_gt (Nat.lt_of_lt_of_le (f432).lt (by omega))
  have ne_a428_a416 : a428 ≠ a416 := Nat.ne_of_gt (Nat.lt_of_lt_of_le ((Exa.keep (Exa.keep (Exa.wr W422 Ca416) K1) K2)).lt (by omega))
  have ge_a428 : n0 ≤ a428 := by have q1 := (Nat.le_trans (Nat.le_trans f424 K1.1) K2.1); omega
  have f433 : Keep h0 h2 [g] := (Keep.trans (Keep.trans (Keep.wr (Keep.ext f419 Ea416) W422 (Or.inl (by simp))) K1 (allS (Or.inr fr_a416) all0)) K2 (allS (Or.inr fr_a416) all0))
  have fr_a428 : h0.size ≤ a428 := by have q1 := (show Keep h0 h2 [g] from f433).1; omega
  have Ba428 : AV Z h427 a428 .int [(.int (0 : Int32)), (.int (0 : Int32)), (.int (0 : Int32)), (.int (0 : Int32)), (.int (0 : Int32)), (.int (0 : Int32)), (.int (0 : Int32))] := Aa428
  refine go_dup B d1_151 rfl ?_
  refine go_iconst B (x := (0 : Int32)) d1_152 rfl ?_
  refine go_iconst B (x := (-1 : Int32)) d1_153 rfl ?_
  refine go_iastore B (i := 0) d1_154 Ba428 rfl (show 0 < 7 from by decide) ge_a428 ?_
  intro h434 W435 A436
  have A437 : AV Z h434 a428 .int [(.int (-1 : Int32)), (.int (0 : Int32)), (.int (0 : Int32)), (.int (0 : Int32)), (.int (0 : Int32)), (.int (0 : Int32)), (.int (0 : Int32))] := A436
  refine go_dup B d1_155 rfl ?_
  refine go_iconst B (x := (1 : Int32)) d1_156 rfl ?_
  refine go_iconst B (x := (1 : Int32)) d1_157 rfl ?_
  refine go_iastore B (i := 1) d1_158 A437 rfl (show 1 < 7 from by decide) ge_a428 ?_
  intro h438 W439 A440
  have A441 : AV Z h438 a428 .int [(.int (-1 : Int32)), (.int (1 : Int32)), (.int (0 : Int32)), (.int (0 : Int32)), (.int (0 : Int32)), (.int (0 : Int32)), (.int (0 : Int32))] := A440
  refine go_dup B d1_159 rfl ?_
  refine go_iconst B (x := (2 : Int32)) d1_160 rfl ?_
  refine go_aload_n B d1_161 rfl rfl ?_
  have f442 : Fld Z h438 g "com/example/plywright/plywright/games/ConnectFour" "stride" "I" (.int (Int32.ofNat (W + 4))) := (Fld.other W439 (Fld.other W435 (Fld.ext Ea428 (Fld.keep (Fld.keep f425 K1 (ninS (Ne.symm ne_a416_g) nin0)) K2 (ninS (Ne.symm ne_a416_g) nin0))) (Or.inl (Ne.symm ne_a428_g))) (Or.inl (Ne.symm ne_a428_g)))
  refine go_getfield B d1_162 (w_27 H) f442 ?_
  refine go_ineg B d1_165 ?_
  refine go_iastore B (i := 2) d1_166 A441 rfl (show 2 < 7 from by decide) ge_a428 ?_
  intro h443 W444 A445
  have A446 : AV Z h443 a428 .int [(.int (-1 : Int32)), (.int (1 : Int32)), (.int (-(Int32.ofNat (W + 4)))), (.int (0 : Int32)), (.int (0 : Int32)), (.int (0 : Int32)), (.int (0 : Int32))] := A445
  refine go_dup B d1_167 rfl ?_
  refine go_iconst B (x := (3 : Int32)) d1_168 rfl ?_
  refine go_aload_n B d1_169 rfl rfl ?_
  refine go_getfield B d1_170 (w_27 H) (Fld.other W444 f442 (Or.inl (Ne.symm ne_a428_g))) ?_
  refine go_ineg B d1_173 ?_
  refine go_iconst B (x := (1 : Int32)) d1_174 rfl ?_
  refine go_isub B d1_175 ?_
  refine go_iastore B (i := 3) d1_176 A446 rfl (show 3 < 7 from by decide) ge_a428 ?_
  intro h447 W448 A449
  have A450 : AV Z h447 a428 .int [(.int (-1 : Int32)), (.int (1 : Int32)), (.int (-(Int32.ofNat (W + 4)))), (.int ((-(Int32.ofNat (W + 4))) - (1 : Int32))), (.int (0 : Int32)), (.int (0 : Int32)), (.int (0 : Int32))] := A449
  refine go_dup B d1_177 rfl ?_
  refine go_iconst B (x := (4 : Int32)) d1_178 rfl ?_
  refine go_aload_n B d1_179 rfl rfl ?_
  have f451 : Fld Z h447 g "com/example/plywright/plywright/games/ConnectFour" "stride" "I" (.int (Int32.ofNat (W + 4))) := (Fld.other W448 (Fld.other W444 f442 (Or.inl (Ne.symm ne_a428_g))) (Or.inl (Ne.symm ne_a428_g)))
  refine go_getfield B d1_180 (w_27 H) f451 ?_
  refine go_ineg B d1_183 ?_
  refine go_iconst B (x := (1 : Int32)) d1_184 rfl ?_
  refine go_iadd B d1_185 ?_
  refine go_iastore B (i := 4) d1_186 A450 rfl (show 4 < 7 from by decide) ge_a428 ?_
  intro h452 W453 A454
  have A455 : AV Z h452 a428 .int [(.int (-1 : Int32)), (.int (1 : Int32)), (.int (-(Int32.ofNat (W + 4)))), (.int ((-(Int32.ofNat (W + 4))) - (1 : Int32))), (.int ((-(Int32.ofNat (W + 4))) + (1 : Int32))), (.int (0 : Int32)), (.int (0 : Int32))] := A454
  refine go_dup B d1_187 rfl ?_
  refine go_iconst B (x := (5 : Int32)) d1_188 rfl ?_
  refine go_aload_n B d1_189 rfl rfl ?_
  refine go_getfield B d1_190 (w_27 H) (Fld.other W453 f451 (Or.inl (Ne.symm ne_a428_g))) ?_
  refine go_iconst B (x := (1 : Int32)) d1_193 rfl ?_
  refine go_isub B d1_194 ?_
  rw [show ((Int32.ofNat (W + 4)) - (1 : Int32)) = (Int32.ofNat (W + 3)) from (by rw [show (1 : Int32) = Int32.ofNat 1 from rfl, n_sub (by omega)]; first | done | rfl)]
  refine go_iastore B (i := 5) d1_195 A455 rfl (show 5 < 7 from by decide) ge_a428 ?_
  intro h456 W457 A458
  have A459 : AV Z h456 a428 .int [(.int (-1 : Int32)), (.int (1 : Int32)), (.int (-(Int32.ofNat (W + 4)))), (.int ((-(Int32.ofNat (W + 4))) - (1 : Int32))), (.int ((-(Int32.ofNat (W + 4))) + (1 : Int32))), (.int (Int32.ofNat (W + 3))), (.int (0 : Int32))] := A458
  refine go_dup B d1_196 rfl ?_
  refine go_bipush B (x := (6 : Int32)) d1_197 (by decide) ?_
  refine go_aload_n B d1_199 rfl rfl ?_
  have f460 : Fld Z h456 g "com/example/plywright/plywright/games/ConnectFour" "stride" "I" (.int (Int32.ofNat (W + 4))) := (Fld.other W457 (Fld.other W453 f451 (Or.inl (Ne.symm ne_a428_g))) (Or.inl (Ne.symm ne_a428_g)))
  refine go_getfield B d1_200 (w_27 H) f460 ?_
  refine go_iconst B (x := (1 : Int32)) d1_203 rfl ?_
  refine go_iadd B d1_204 ?_
  rw [show ((Int32.ofNat (W + 4)) + (1 : Int32)) = (Int32.ofNat (W + 5)) from n_add]
  refine go_iastore B (i := 6) d1_205 A459 rfl (show 6 < 7 from by decide) ge_a428 ?_
  intro h461 W462 A463
  have A464 : AV Z h461 a428 .int [(.int (-1 : Int32)), (.int (1 : Int32)), (.int (-(Int32.ofNat (W + 4)))), (.int ((-(Int32.ofNat (W + 4))) - (1 : Int32))), (.int ((-(Int32.ofNat (W + 4))) + (1 : Int32))), (.int (Int32.ofNat (W + 3))), (.int (Int32.ofNat (W + 5)))] := A463
  have f465 : Fld Z h461 g "com/example/plywright/plywright/games/ConnectFour" "evaluatedSteps" "[I" .null := (Fld.other W462 (Fld.other W457 (Fld.other W453 (Fld.other W448 (Fld.other W444 (Fld.other W439 (Fld.other W435 (Fld.ext Ea428 (Fld.keep (Fld.keep (Fld.other W422 (Fld.ext Ea416 (Fld.other W412 (Fld.ext E404 (Fld.other W398 (Fld.ext Ea393 (Fld.other W390 (Fld.ext Ea385 (Fld.other W382 (Fld.ext Ea377 (Fld.other W374 (Fld.other W369 (Fld.other W365 (Fld.ext E362 (Fld.ext E356 F5_g)) (Or.inr (slot_ne (t := (.array .int)) (t' := .int) (Or.inr (w_53 H)) (Or.inr (w_24 H)) (by decide) (by decide) (by decide)))) (Or.inr (slot_ne (t := (.array .int)) (t' := .int) (Or.inr (w_53 H)) (Or.inr (w_26 H)) (by decide) (by decide) (by decide)))) (Or.inr (slot_ne (t := (.array .int)) (t' := .int) (Or.inr (w_53 H)) (Or.inr (w_28 H)) (by decide) (by decide) (by decide))))) (Or.inr (slot_ne (t := (.array .int)) (t' := (.array .byte)) (Or.inr (w_53 H)) (Or.inr (w_30 H)) (by decide) (by decide) (by decide))))) (Or.inr (slot_ne (t := (.array .int)) (t' := (.array .int)) (Or.inr (w_53 H)) (Or.inr (w_32 H)) (by decide) (by decide) (by decide))))) (Or.inr (slot_ne (t := (.array .int)) (t' := (.array .int)) (Or.inr (w_53 H)) (Or.inr (w_34 H)) (by decide) (by decide) (by decide))))) (Or.inr (slot_ne (t := (.array .int)) (t' := (.array .long)) (Or.inr (w_53 H)) (Or.inr (w_44 H)) (by decide) (by decide) (by decide))))) (Or.inr (slot_ne (t := (.array .int)) (t' := (.array .boolean)) (Or.inr (w_53 H)) (Or.inr (w_47 H)) (by decide) (by decide) (by decide)))) K1 (ninS (Ne.symm ne_a416_g) nin0)) K2 (ninS (Ne.symm ne_a416_g) nin0))) (Or.inl (Ne.symm ne_a428_g))) (Or.inl (Ne.symm ne_a428_g))) (Or.inl (Ne.symm ne_a428_g))) (Or.inl (Ne.symm ne_a428_g))) (Or.inl (Ne.symm ne_a428_g))) (Or.inl (Ne.symm ne_a428_g))) (Or.inl (Ne.symm ne_a428_g)))
  have f466 : Exa Z h461 g "com/example/plywright/plywright/games/ConnectFour" := (Exa.wr W462 (Exa.wr W457 (Exa.wr W453 (Exa.wr W448 (Exa.wr W444 (Exa.wr W439 (Exa.wr W435 (Exa.ext Ea428 (Exa.keep f426 K2)))))))))
  refine go_putfield B (ty := (.array .int)) d1_206 (w_52 H) f465 f466 (Or.inr ⟨(w_53 H), rfl, rfl⟩) (w_3 H) (by decide) rfl rfl gg ?_
  intro h467 W468
  have f469 : Fld Z h467 g "com/example/plywright/plywright/games/ConnectFour" "evaluatedSteps" "[I" (.ref a428) := Fld.same W468 f465
  refine go_aload_n B d1_209 rfl rfl ?_
  refine go_iconst B (x := (4 : Int32)) d1_210 rfl ?_
  refine go_newarray B (i := 4) (cap := 4) d1_211 (w_1 H) rfl (Nat.le_refl _) (by decide) (by decide) (by decide) ?_
  intro h470 a471 hba471 Ea471 Aa471 Ca471
  have ne_a471_g : a471 ≠ g := Nat.ne_of_gt (Nat.lt_of_lt_of_le ((Exa.wr W468 f466)).lt (by omega))
  have f472 : Exa Z h467 a377 "[B" := (Exa.wr W468 (Exa.wr W462 (Exa.wr W457 (Exa.wr W453 (Exa.wr W448 (Exa.wr W444 (Exa.wr W439 (Exa.wr W435 (Exa.ext Ea428 f429)))))))))
  have ne_a471_a377 : a471 ≠ a377 := Nat.ne_of_gt (Nat.lt_of_lt_of_le (f472).lt (by omega))
  have f473 : Exa Z h467 a385 "[I" := (Exa.wr W468 (Exa.wr W462 (Exa.wr W457 (Exa.wr W453 (Exa.wr W448 (Exa.wr W444 (Exa.wr W439 (Exa.wr W435 (Exa.ext Ea428 f430)))))))))
  have ne_a471_a385 : a471 ≠ a385 := Nat.ne_of_gt (Nat.lt_of_lt_of_le (f473).lt (by omega))
  have f474 : Exa Z h467 a393 "[I" := (Exa.wr W468 (Exa.wr W462 (Exa.wr W457 (Exa.wr W453 (Exa.wr W448 (Exa.wr W444 (Exa.wr W439 (Exa.wr W435 (Exa.ext Ea428 f431)))))))))
  have ne_a471_a393 : a471 ≠ a393 := Nat.ne_of_gt (Nat.lt_of_lt_of_le (f474).lt (by omega))
  have f475 : AV Z h467 b402 .long (lm (2 * ((W + 4) * (Hr + 4)) + 1) (fun j => if j < (2 * ((W + 4) * (Hr + 4)) + 1) then own_num j else 0)) := (AV.other (AV.other (AV.other (AV.other (AV.other (AV.other (AV.other (AV.other (AV.ext f432 Ea428) W435 (Ne.symm ne_a428_b402)) W439 (Ne.symm ne_a428_b402)) W444 (Ne.symm ne_a428_b402)) W448 (Ne.symm ne_a428_b402)) W453 (Ne.symm ne_a428_b402)) W457 (Ne.symm ne_a428_b402)) W462 (Ne.symm ne_a428_b402)) W468 ne_b402_g)
  have ne_a471_b402 : a471 ≠ b402 := Nat.ne_of_gt (Nat.lt_of_lt_of_le (f475).lt (by omega))
  have f476 : Exa Z h467 a416 "[Z" := (Exa.wr W468 (Exa.wr W462 (Exa.wr W457 (Exa.wr W453 (Exa.wr W448 (Exa.wr W444 (Exa.wr W439 (Exa.wr W435 (Exa.ext Ea428 (Exa.keep (Exa.keep (Exa.wr W422 Ca416) K1) K2))))))))))
  have ne_a471_a416 : a471 ≠ a416 := Nat.ne_of_gt (Nat.lt_of_lt_of_le (f476).lt (by omega))
  have f477 : Exa Z h467 a428 "[I" := (Exa.wr W468 (Exa.wr W462 (Exa.wr W457 (Exa.wr W453 (Exa.wr W448 (Exa.wr W444 (Exa.wr W439 (Exa.wr W435 Ca428))))))))
  have ne_a471_a428 : a471 ≠ a428 := Nat.ne_of_gt (Nat.lt_of_lt_of_le (f477).lt (by omega))
  have f478 : n0 ≤ h467.size := (Nat.le_trans (Nat.le_trans (Nat.le_trans (Nat.le_trans (Nat.le_trans (Nat.le_trans (Nat.le_trans (Nat.le_trans (Nat.le_trans (Nat.le_trans (Nat.le_trans f424 K1.1) K2.1) Ea428.1) (Nat.le_of_eq (Wr.size W435).symm)) (Nat.le_of_eq (Wr.size W439).symm)) (Nat.le_of_eq (Wr.size W444).symm)) (Nat.le_of_eq (Wr.size W448).symm)) (Nat.le_of_eq (Wr.size W453).symm)) (Nat.le_of_eq (Wr.size W457).symm)) (Nat.le_of_eq (Wr.size W462).symm)) (Nat.le_of_eq (Wr.size W468).symm))
  have ge_a471 : n0 ≤ a471 := by have q1 := f478; omega
  have f479 : Keep h0 h467 [g] := (Keep.wr (Keep.wr (Keep.wr (Keep.wr (Keep.wr (Keep.wr (Keep.wr (Keep.wr (Keep.ext f433 Ea428) W435 (Or.inr fr_a428)) W439 (Or.inr fr_a428)) W444 (Or.inr fr_a428)) W448 (Or.inr fr_a428)) W453 (Or.inr fr_a428)) W457 (Or.inr fr_a428)) W462 (Or.inr fr_a428)) W468 (Or.inl (by simp)))
  have fr_a471 : h0.size ≤ a471 := by have q1 := (show Keep h0 h467 [g] from f479).1; omega
  have Ba471 : AV Z h470 a471 .int [(.int (0 : Int32)), (.int (0 : Int32)), (.int (0 : Int32)), (.int (0 : Int32))] := Aa471
  refine go_dup B d1_213 rfl ?_
  refine go_iconst B (x := (0 : Int32)) d1_214 rfl ?_
  refine go_iconst B (x := (1 : Int32)) d1_215 rfl ?_
  refine go_iastore B (i := 0) d1_216 Ba471 rfl (show 0 < 4 from by decide) ge_a471 ?_
  intro h480 W481 A482
  have A483 : AV Z h480 a471 .int [(.int (1 : Int32)), (.int (0 : Int32)), (.int (0 : Int32)), (.int (0 : Int32))] := A482
  refine go_dup B d1_217 rfl ?_
  refine go_iconst B (x := (1 : Int32)) d1_218 rfl ?_
  refine go_aload_n B d1_219 rfl rfl ?_
  have f484 : Fld Z h480 g "com/example/plywright/plywright/games/ConnectFour" "stride" "I" (.int (Int32.ofNat (W + 4))) := (Fld.other W481 (Fld.ext Ea471 (Fld.other W468 (Fld.other W462 f460 (Or.inl (Ne.symm ne_a428_g))) (Or.inr (slot_ne (t := .int) (t' := (.array .int)) (Or.inr (w_28 H)) (Or.inr (w_53 H)) (by decide) (by decide) (by decide))))) (Or.inl (Ne.symm ne_a471_g)))
  refine go_getfield B d1_220 (w_27 H) f484 ?_
  refine go_iastore B (i := 1) d1_223 A483 rfl (show 1 < 4 from by decide) ge_a471 ?_
  intro h485 W486 A487
  have A488 : AV Z h485 a471 .int [(.int (1 : Int32)), (.int (Int32.ofNat (W + 4))), (.int (0 : Int32)), (.int (0 : Int32))] := A487
  refine go_dup B d1_224 rfl ?_
  refine go_iconst B (x := (2 : Int32)) d1_225 rfl ?_
  refine go_aload_n B d1_226 rfl rfl ?_
  refine go_getfield B d1_227 (w_27 H) (Fld.other W486 f484 (Or.inl (Ne.symm ne_a471_g))) ?_
  refine go_iconst B (x := (1 : Int32)) d1_230 rfl ?_
  refine go_iadd B d1_231 ?_
  rw [show ((Int32.ofNat (W + 4)) + (1 : Int32)) = (Int32.ofNat (W + 5)) from n_add]
  refine go_iastore B (i := 2) d1_232 A488 rfl (show 2 < 4 from by decide) ge_a471 ?_
  intro h489 W490 A491
  have A492 : AV Z h489 a471 .int [(.int (1 : Int32)), (.int (Int32.ofNat (W + 4))), (.int (Int32.ofNat (W + 5))), (.int (0 : Int32))] := A491
  refine go_dup B d1_233 rfl ?_
  refine go_iconst B (x := (3 : Int32)) d1_234 rfl ?_
  refine go_aload_n B d1_235 rfl rfl ?_
  have f493 : Fld Z h489 g "com/example/plywright/plywright/games/ConnectFour" "stride" "I" (.int (Int32.ofNat (W + 4))) := (Fld.other W490 (Fld.other W486 f484 (Or.inl (Ne.symm ne_a471_g))) (Or.inl (Ne.symm ne_a471_g)))
  refine go_getfield B d1_236 (w_27 H) f493 ?_
  refine go_iconst B (x := (1 : Int32)) d1_239 rfl ?_
  refine go_isub B d1_240 ?_
  rw [show ((Int32.ofNat (W + 4)) - (1 : Int32)) = (Int32.ofNat (W + 3)) from (by rw [show (1 : Int32) = Int32.ofNat 1 from rfl, n_sub (by omega)]; first | done | rfl)]
  refine go_iastore B (i := 3) d1_241 A492 rfl (show 3 < 4 from by decide) ge_a471 ?_
  intro h494 W495 A496
  have A497 : AV Z h494 a471 .int [(.int (1 : Int32)), (.int (Int32.ofNat (W + 4))), (.int (Int32.ofNat (W + 5))), (.int (Int32.ofNat (W + 3)))] := A496
  have f498 : Fld Z h494 g "com/example/plywright/plywright/games/ConnectFour" "lineSteps" "[I" .null := (Fld.other W495 (Fld.other W490 (Fld.other W486 (Fld.other W481 (Fld.ext Ea471 (Fld.other W468 (Fld.other W462 (Fld.other W457 (Fld.other W453 (Fld.other W448 (Fld.other W444 (Fld.other W439 (Fld.other W435 (Fld.ext Ea428 (Fld.keep (Fld.keep (Fld.other W422 (Fld.ext Ea416 (Fld.other W412 (Fld.ext E404 (Fld.other W398 (Fld.ext Ea393 (Fld.other W390 (Fld.ext Ea385 (Fld.other W382 (Fld.ext Ea377 (Fld.other W374 (Fld.other W369 (Fld.other W365 (Fld.ext E362 (Fld.ext E356 F6_g)) (Or.inr (slot_ne (t := (.array .int)) (t' := .int) (Or.inr (w_55 H)) (Or.inr (w_24 H)) (by decide) (by decide) (by decide)))) (Or.inr (slot_ne (t := (.array .int)) (t' := .int) (Or.inr (w_55 H)) (Or.inr (w_26 H)) (by decide) (by decide) (by decide)))) (Or.inr (slot_ne (t := (.array .int)) (t' := .int) (Or.inr (w_55 H)) (Or.inr (w_28 H)) (by decide) (by decide) (by decide))))) (Or.inr (slot_ne (t := (.array .int)) (t' := (.array .byte)) (Or.inr (w_55 H)) (Or.inr (w_30 H)) (by decide) (by decide) (by decide))))) (Or.inr (slot_ne (t := (.array .int)) (t' := (.array .int)) (Or.inr (w_55 H)) (Or.inr (w_32 H)) (by decide) (by decide) (by decide))))) (Or.inr (slot_ne (t := (.array .int)) (t' := (.array .int)) (Or.inr (w_55 H)) (Or.inr (w_34 H)) (by decide) (by decide) (by decide))))) (Or.inr (slot_ne (t := (.array .int)) (t' := (.array .long)) (Or.inr (w_55 H)) (Or.inr (w_44 H)) (by decide) (by decide) (by decide))))) (Or.inr (slot_ne (t := (.array .int)) (t' := (.array .boolean)) (Or.inr (w_55 H)) (Or.inr (w_47 H)) (by decide) (by decide) (by decide)))) K1 (ninS (Ne.symm ne_a416_g) nin0)) K2 (ninS (Ne.symm ne_a416_g) nin0))) (Or.inl (Ne.symm ne_a428_g))) (Or.inl (Ne.symm ne_a428_g))) (Or.inl (Ne.symm ne_a428_g))) (Or.inl (Ne.symm ne_a428_g))) (Or.inl (Ne.symm ne_a428_g))) (Or.inl (Ne.symm ne_a428_g))) (Or.inl (Ne.symm ne_a428_g))) (Or.inr (slot_ne (t := (.array .int)) (t' := (.array .int)) (Or.inr (w_55 H)) (Or.inr (w_53 H)) (by decide) (by decide) (by decide))))) (Or.inl (Ne.symm ne_a471_g))) (Or.inl (Ne.symm ne_a471_g))) (Or.inl (Ne.symm ne_a471_g))) (Or.inl (Ne.symm ne_a471_g)))
  have f499 : Exa Z h494 g "com/example/plywright/plywright/games/ConnectFour" := (Exa.wr W495 (Exa.wr W490 (Exa.wr W486 (Exa.wr W481 (Exa.ext Ea471 (Exa.wr W468 f466))))))
  refine go_putfield B (ty := (.array .int)) d1_242 (w_54 H) f498 f499 (Or.inr ⟨(w_55 H), rfl, rfl⟩) (w_3 H) (by decide) rfl rfl gg ?_
  intro h500 W501
  have f502 : Fld Z h500 g "com/example/plywright/plywright/games/ConnectFour" "lineSteps" "[I" (.ref a471) := Fld.same W501 f498
  refine go_aload_n B d1_245 rfl rfl ?_
  refine go_iload_n B d1_246 rfl ?_
  refine go_newarray B (i := W) (cap := 9) d1_247 (w_1 H) (i_ofNat (by omega)) hW9 (by decide) (by decide) (by decide) ?_
  intro h503 a504 hba504 Ea504 Aa504 Ca504
  have ne_a504_g : a504 ≠ g := Nat.ne_of_gt (Nat.lt_of_lt_of_le ((Exa.wr W501 f499)).lt (by omega))
  have f505 : Exa Z h500 a377 "[B" := (Exa.wr W501 (Exa.wr W495 (Exa.wr W490 (Exa.wr W486 (Exa.wr W481 (Exa.ext Ea471 f472))))))
  have ne_a504_a377 : a504 ≠ a377 := Nat.ne_of_gt (Nat.lt_of_lt_of_le (f505).lt (by omega))
  have f506 : Exa Z h500 a385 "[I" := (Exa.wr W501 (Exa.wr W495 (Exa.wr W490 (Exa.wr W486 (Exa.wr W481 (Exa.ext Ea471 f473))))))
  have ne_a504_a385 : a504 ≠ a385 := Nat.ne_of_gt (Nat.lt_of_lt_of_le (f506).lt (by omega))
  have f507 : Exa Z h500 a393 "[I" := (Exa.wr W501 (Exa.wr W495 (Exa.wr W490 (Exa.wr W486 (Exa.wr W481 (Exa.ext Ea471 f474))))))
  have ne_a504_a393 : a504 ≠ a393 := Nat.ne_of_gt (Nat.lt_of_lt_of_le (f507).lt (by omega))
  have f508 : AV Z h500 b402 .long (lm (2 * ((W + 4) * (Hr + 4)) + 1) (fun j => if j < (2 * ((W + 4) * (Hr + 4)) + 1) then own_num j else 0)) := (AV.other (AV.other (AV.other (AV.other (AV.other (AV.ext f475 Ea471) W481 (Ne.symm ne_a471_b402)) W486 (Ne.symm ne_a471_b402)) W490 (Ne.symm ne_a471_b402)) W495 (Ne.symm ne_a471_b402)) W501 ne_b402_g)
  have ne_a504_b402 : a504 ≠ b402 := Nat.ne_of_gt (Nat.lt_of_lt_of_le (f508).lt (by omega))
  have f509 : Exa Z h500 a416 "[Z" := (Exa.wr W501 (Exa.wr W495 (Exa.wr W490 (Exa.wr W486 (Exa.wr W481 (Exa.ext Ea471 f476))))))
  have ne_a504_a416 : a504 ≠ a416 := Nat.ne_of_gt (Nat.lt_of_lt_of_le (f509).lt (by omega))
  have f510 : Exa Z h500 a428 "[I" := (Exa.wr W501 (Exa.wr W495 (Exa.wr W490 (Exa.wr W486 (Exa.wr W481 (Exa.ext Ea471 f477))))))
  have ne_a504_a428 : a504 ≠ a428 := Nat.ne_of_gt (Nat.lt_of_lt_of_le (f510).lt (by omega))
  have f511 : Exa Z h500 a471 "[I" := (Exa.wr W501 (Exa.wr W495 (Exa.wr W490 (Exa.wr W486 (Exa.wr W481 Ca471)))))
  have ne_a504_a471 : a504 ≠ a471 := Nat.ne_of_gt (Nat.lt_of_lt_of_le (f511).lt (by omega))
  have f512 : n0 ≤ h500.size := (Nat.le_trans (Nat.le_trans (Nat.le_trans (Nat.le_trans (Nat.le_trans (Nat.le_trans f478 Ea471.1) (Nat.le_of_eq (Wr.size W481).symm)) (Nat.le_of_eq (Wr.size W486).symm)) (Nat.le_of_eq (Wr.size W490).symm)) (Nat.le_of_eq (Wr.size W495).symm)) (Nat.le_of_eq (Wr.size W501).symm))
  have ge_a504 : n0 ≤ a504 := by have q1 := f512; omega
  have f513 : Keep h0 h500 [g] := (Keep.wr (Keep.wr (Keep.wr (Keep.wr (Keep.wr (Keep.ext f479 Ea471) W481 (Or.inr fr_a471)) W486 (Or.inr fr_a471)) W490 (Or.inr fr_a471)) W495 (Or.inr fr_a471)) W501 (Or.inl (by simp)))
  have fr_a504 : h0.size ≤ a504 := by have q1 := (show Keep h0 h500 [g] from f513).1; omega
  have f514 : Fld Z h503 g "com/example/plywright/plywright/games/ConnectFour" "centreFirst" "[I" .null := (Fld.ext Ea504 (Fld.other W501 (Fld.other W495 (Fld.other W490 (Fld.other W486 (Fld.other W481 (Fld.ext Ea471 (Fld.other W468 (Fld.other W462 (Fld.other W457 (Fld.other W453 (Fld.other W448 (Fld.other W444 (Fld.other W439 (Fld.other W435 (Fld.ext Ea428 (Fld.keep (Fld.keep (Fld.other W422 (Fld.ext Ea416 (Fld.other W412 (Fld.ext E404 (Fld.other W398 (Fld.ext Ea393 (Fld.other W390 (Fld.ext Ea385 (Fld.other W382 (Fld.ext Ea377 (Fld.other W374 (Fld.other W369 (Fld.other W365 (Fld.ext E362 (Fld.ext E356 F7_g)) (Or.inr (slot_ne (t := (.array .int)) (t' := .int) (Or.inr (w_57 H)) (Or.inr (w_24 H)) (by decide) (by decide) (by decide)))) (Or.inr (slot_ne (t := (.array .int)) (t' := .int) (Or.inr (w_57 H)) (Or.inr (w_26 H)) (by decide) (by decide) (by decide)))) (Or.inr (slot_ne (t := (.array .int)) (t' := .int) (Or.inr (w_57 H)) (Or.inr (w_28 H)) (by decide) (by decide) (by decide))))) (Or.inr (slot_ne (t := (.array .int)) (t' := (.array .byte)) (Or.inr (w_57 H)) (Or.inr (w_30 H)) (by decide) (by decide) (by decide))))) (Or.inr (slot_ne (t := (.array .int)) (t' := (.array .int)) (Or.inr (w_57 H)) (Or.inr (w_32 H)) (by decide) (by decide) (by decide))))) (Or.inr (slot_ne (t := (.array .int)) (t' := (.array .int)) (Or.inr (w_57 H)) (Or.inr (w_34 H)) (by decide) (by decide) (by decide))))) (Or.inr (slot_ne (t := (.array .int)) (t' := (.array .long)) (Or.inr (w_57 H)) (Or.inr (w_44 H)) (by decide) (by decide) (by decide))))) (Or.inr (slot_ne (t := (.array .int)) (t' := (.array .boolean)) (Or.inr (w_57 H)) (Or.inr (w_47 H)) (by decide) (by decide) (by decide)))) K1 (ninS (Ne.symm ne_a416_g) nin0)) K2 (ninS (Ne.symm ne_a416_g) nin0))) (Or.inl (Ne.symm ne_a428_g))) (Or.inl (Ne.symm ne_a428_g))) (Or.inl (Ne.symm ne_a428_g))) (Or.inl (Ne.symm ne_a428_g))) (Or.inl (Ne.symm ne_a428_g))) (Or.inl (Ne.symm ne_a428_g))) (Or.inl (Ne.symm ne_a428_g))) (Or.inr (slot_ne (t := (.array .int)) (t' := (.array .int)) (Or.inr (w_57 H)) (Or.inr (w_53 H)) (by decide) (by decide) (by decide))))) (Or.inl (Ne.symm ne_a471_g))) (Or.inl (Ne.symm ne_a471_g))) (Or.inl (Ne.symm ne_a471_g))) (Or.inl (Ne.symm ne_a471_g))) (Or.inr (slot_ne (t := (.array .int)) (t' := (.array .int)) (Or.inr (w_57 H)) (Or.inr (w_55 H)) (by decide) (by decide) (by decide)))))
  refine go_putfield B (ty := (.array .int)) d1_249 (w_56 H) f514 (Exa.ext Ea504 (Exa.wr W501 f499)) (Or.inr ⟨(w_57 H), rfl, rfl⟩) (w_3 H) (by decide) rfl rfl gg ?_
  intro h515 W516
  have f517 : Fld Z h515 g "com/example/plywright/plywright/games/ConnectFour" "centreFirst" "[I" (.ref a504) := Fld.same W516 f514
  refine go_iconst B (x := (0 : Int32)) d1_252 rfl ?_
  refine go_istore B #[.val (.ref g), .val (.int (Int32.ofNat W)), .val (.int (Int32.ofNat Hr)), .val (.int (Int32.ofNat ((Hr - 1) / 2))), .val (.int (Int32.ofNat (Hr / 2))), .val (.int (0 : Int32)), .val (.int z2), .unset, .unset] d1_253 rfl ?_
  refine go_iload_n B d1_255 rfl ?_
  refine go_iconst B (x := (1 : Int32)) d1_256 rfl ?_
  refine go_isub B d1_257 ?_
  rw [show ((Int32.ofNat W) - (1 : Int32)) = (Int32.ofNat (W - 1)) from (by rw [show (1 : Int32) = Int32.ofNat 1 from rfl, n_sub (by omega)])]
  refine go_iconst B (x := (2 : Int32)) d1_258 rfl ?_
  refine go_irem B d1_259 (by decide) ?_
  rw [show ((Int32.ofNat (W - 1)) % (2 : Int32)) = (Int32.ofNat ((W - 1) % 2)) from (n_mod (n := 2) (by omega) (by omega) (by omega))]
  refine go_istore B #[.val (.ref g), .val (.int (Int32.ofNat W)), .val (.int (Int32.ofNat Hr)), .val (.int (Int32.ofNat ((Hr - 1) / 2))), .val (.int (Int32.ofNat (Hr / 2))), .val (.int (0 : Int32)), .val (.int (Int32.ofNat ((W - 1) % 2))), .unset, .unset] d1_260 rfl ?_
  show Go κ _ h515 _ _ 262 #[.val (.ref g), .val (.int (Int32.ofNat W)), .val (.int (Int32.ofNat Hr)), .val (.int (Int32.ofNat ((Hr - 1) / 2))), .val (.int (Int32.ofNat (Hr / 2))), .val (.int (Int32.ofNat 0)), .val (.int (Int32.ofNat ((W - 1) % 2))), .unset, .unset] []
  refine cfl H B hW4 hW9 ge_a504 ne_a504_g ((W + 1 - (W - 1) % 2) / 2) ((W - 1) % 2) 0 (by omega) (by omega) (by omega) _ _ (fun _ => rfl) (fun _ _ => rfl) h515 (fun _ => 0) f517 (bm_zero _ ▸ (AV.other Aa504 W516 ne_a504_g)) (fun j hj => absurd hj (Nat.not_lt_zero _)) ?_
  intro h3 f3 s7 s8 K3 A3 I3
  have f518 : km360 ≤ h3.size := (Nat.le_trans (Nat.le_trans (Nat.le_trans (Nat.le_trans (Nat.le_trans (Nat.le_trans (Nat.le_trans (Nat.le_trans (Nat.le_trans (Nat.le_trans (Nat.le_trans (Nat.le_trans (Nat.le_trans (Nat.le_trans (Nat.le_trans (Nat.le_trans (Nat.le_trans (Nat.le_trans (Nat.le_trans (Nat.le_trans (Nat.le_trans (Nat.le_trans (Nat.le_trans (Nat.le_trans (Nat.le_trans (Nat.le_trans (Nat.le_trans (Nat.le_trans (Nat.le_trans (Nat.le_trans (Nat.le_trans (Nat.le_trans (Nat.le_trans K361 (Nat.le_of_eq (Wr.size W365).symm)) (Nat.le_of_eq (Wr.size W369).symm)) (Nat.le_of_eq (Wr.size W374).symm)) Ea377.1) (Nat.le_of_eq (Wr.size W382).symm)) Ea385.1) (Nat.le_of_eq (Wr.size W390).symm)) Ea393.1) (Nat.le_of_eq (Wr.size W398).symm)) E404.1) (Nat.le_of_eq (Wr.size W412).symm)) Ea416.1) (Nat.le_of_eq (Wr.size W422).symm)) K1.1) K2.1) Ea428.1) (Nat.le_of_eq (Wr.size W435).symm)) (Nat.le_of_eq (Wr.size W439).symm)) (Nat.le_of_eq (Wr.size W444).symm)) (Nat.le_of_eq (Wr.size W448).symm)) (Nat.le_of_eq (Wr.size W453).symm)) (Nat.le_of_eq (Wr.size W457).symm)) (Nat.le_of_eq (Wr.size W462).symm)) (Nat.le_of_eq (Wr.size W468).symm)) Ea471.1) (Nat.le_of_eq (Wr.size W481).symm)) (Nat.le_of_eq (Wr.size W486).symm)) (Nat.le_of_eq (Wr.size W490).symm)) (Nat.le_of_eq (Wr.size W495).symm)) (Nat.le_of_eq (Wr.size W501).symm)) Ea504.1) (Nat.le_of_eq (Wr.size W516).symm)) K3.1)
  refine go_return B d1_325 (by decide) (by decide) ?_ (hkm := f518)
  have f519 : Exa Z h3 g "com/example/plywright/plywright/games/ConnectFour" := (Exa.keep (Exa.wr W516 (Exa.ext Ea504 (Exa.wr W501 f499))) K3)
  have f520 : Fld Z h3 g "com/example/plywright/plywright/games/ConnectFour" "columns" "I" (.int (Int32.ofNat W)) := (Fld.keep (Fld.other W516 (Fld.ext Ea504 (Fld.other W501 (Fld.other W495 (Fld.other W490 (Fld.other W486 (Fld.other W481 (Fld.ext Ea471 (Fld.other W468 (Fld.other W462 (Fld.other W457 (Fld.other W453 (Fld.other W448 (Fld.other W444 (Fld.other W439 (Fld.other W435 (Fld.ext Ea428 (Fld.keep (Fld.keep (Fld.other W422 (Fld.ext Ea416 (Fld.other W412 (Fld.ext E404 (Fld.other W398 (Fld.ext Ea393 (Fld.other W390 (Fld.ext Ea385 (Fld.other W382 (Fld.ext Ea377 (Fld.other W374 (Fld.other W369 f366 (Or.inr (slot_ne (t := .int) (t' := .int) (Or.inr (w_24 H)) (Or.inr (w_26 H)) (by decide) (by decide) (by decide)))) (Or.inr (slot_ne (t := .int) (t' := .int) (Or.inr (w_24 H)) (Or.inr (w_28 H)) (by decide) (by decide) (by decide))))) (Or.inr (slot_ne (t := .int) (t' := (.array .byte)) (Or.inr (w_24 H)) (Or.inr (w_30 H)) (by decide) (by decide) (by decide))))) (Or.inr (slot_ne (t := .int) (t' := (.array .int)) (Or.inr (w_24 H)) (Or.inr (w_32 H)) (by decide) (by decide) (by decide))))) (Or.inr (slot_ne (t := .int) (t' := (.array .int)) (Or.inr (w_24 H)) (Or.inr (w_34 H)) (by decide) (by decide) (by decide))))) (Or.inr (slot_ne (t := .int) (t' := (.array .long)) (Or.inr (w_24 H)) (Or.inr (w_44 H)) (by decide) (by decide) (by decide))))) (Or.inr (slot_ne (t := .int) (t' := (.array .boolean)) (Or.inr (w_24 H)) (Or.inr (w_47 H)) (by decide) (by decide) (by decide)))) K1 (ninS (Ne.symm ne_a416_g) nin0)) K2 (ninS (Ne.symm ne_a416_g) nin0))) (Or.inl (Ne.symm ne_a428_g))) (Or.inl (Ne.symm ne_a428_g))) (Or.inl (Ne.symm ne_a428_g))) (Or.inl (Ne.symm ne_a428_g))) (Or.inl (Ne.symm ne_a428_g))) (Or.inl (Ne.symm ne_a428_g))) (Or.inl (Ne.symm ne_a428_g))) (Or.inr (slot_ne (t := .int) (t' := (.array .int)) (Or.inr (w_24 H)) (Or.inr (w_53 H)) (by decide) (by decide) (by decide))))) (Or.inl (Ne.symm ne_a471_g))) (Or.inl (Ne.symm ne_a471_g))) (Or.inl (Ne.symm ne_a471_g))) (Or.inl (Ne.symm ne_a471_g))) (Or.inr (slot_ne (t := .int) (t' := (.array .int)) (Or.inr (w_24 H)) (Or.inr (w_55 H)) (by decide) (by decide) (by decide))))) (Or.inr (slot_ne (t := .int) (t' := (.array .int)) (Or.inr (w_24 H)) (Or.inr (w_57 H)) (by decide) (by decide) (by decide)))) K3 (ninS (Ne.symm ne_a504_g) nin0))
  have f521 : Fld Z h3 g "com/example/plywright/plywright/games/ConnectFour" "rows" "I" (.int (Int32.ofNat Hr)) := (Fld.keep (Fld.other W516 (Fld.ext Ea504 (Fld.other W501 (Fld.other W495 (Fld.other W490 (Fld.other W486 (Fld.other W481 (Fld.ext Ea471 (Fld.other W468 (Fld.other W462 (Fld.other W457 (Fld.other W453 (Fld.other W448 (Fld.other W444 (Fld.other W439 (Fld.other W435 (Fld.ext Ea428 (Fld.keep (Fld.keep (Fld.other W422 (Fld.ext Ea416 (Fld.other W412 (Fld.ext E404 (Fld.other W398 (Fld.ext Ea393 (Fld.other W390 (Fld.ext Ea385 (Fld.other W382 (Fld.ext Ea377 (Fld.other W374 f370 (Or.inr (slot_ne (t := .int) (t' := .int) (Or.inr (w_26 H)) (Or.inr (w_28 H)) (by decide) (by decide) (by decide))))) (Or.inr (slot_ne (t := .int) (t' := (.array .byte)) (Or.inr (w_26 H)) (Or.inr (w_30 H)) (by decide) (by decide) (by decide))))) (Or.inr (slot_ne (t := .int) (t' := (.array .int)) (Or.inr (w_26 H)) (Or.inr (w_32 H)) (by decide) (by decide) (by decide))))) (Or.inr (slot_ne (t := .int) (t' := (.array .int)) (Or.inr (w_26 H)) (Or.inr (w_34 H)) (by decide) (by decide) (by decide))))) (Or.inr (slot_ne (t := .int) (t' := (.array .long)) (Or.inr (w_26 H)) (Or.inr (w_44 H)) (by decide) (by decide) (by decide))))) (Or.inr (slot_ne (t := .int) (t' := (.array .boolean)) (Or.inr (w_26 H)) (Or.inr (w_47 H)) (by decide) (by decide) (by decide)))) K1 (ninS (Ne.symm ne_a416_g) nin0)) K2 (ninS (Ne.symm ne_a416_g) nin0))) (Or.inl (Ne.symm ne_a428_g))) (Or.inl (Ne.symm ne_a428_g))) (Or.inl (Ne.symm ne_a428_g))) (Or.inl (Ne.symm ne_a428_g))) (Or.inl (Ne.symm ne_a428_g))) (Or.inl (Ne.symm ne_a428_g))) (Or.inl (Ne.symm ne_a428_g))) (Or.inr (slot_ne (t := .int) (t' := (.array .int)) (Or.inr (w_26 H)) (Or.inr (w_53 H)) (by decide) (by decide) (by decide))))) (Or.inl (Ne.symm ne_a471_g))) (Or.inl (Ne.symm ne_a471_g))) (Or.inl (Ne.symm ne_a471_g))) (Or.inl (Ne.symm ne_a471_g))) (Or.inr (slot_ne (t := .int) (t' := (.array .int)) (Or.inr (w_26 H)) (Or.inr (w_55 H)) (by decide) (by decide) (by decide))))) (Or.inr (slot_ne (t := .int) (t' := (.array .int)) (Or.inr (w_26 H)) (Or.inr (w_57 H)) (by decide) (by decide) (by decide)))) K3 (ninS (Ne.symm ne_a504_g) nin0))
  have f522 : Fld Z h3 g "com/example/plywright/plywright/games/ConnectFour" "stride" "I" (.int (Int32.ofNat (W + 4))) := (Fld.keep (Fld.other W516 (Fld.ext Ea504 (Fld.other W501 (Fld.other W495 f493 (Or.inl (Ne.symm ne_a471_g))) (Or.inr (slot_ne (t := .int) (t' := (.array .int)) (Or.inr (w_28 H)) (Or.inr (w_55 H)) (by decide) (by decide) (by decide))))) (Or.inr (slot_ne (t := .int) (t' := (.array .int)) (Or.inr (w_28 H)) (Or.inr (w_57 H)) (by decide) (by decide) (by decide)))) K3 (ninS (Ne.symm ne_a504_g) nin0))
  have f523 : Fld Z h3 g "com/example/plywright/plywright/games/ConnectFour" "squares" "[B" (.ref a377) := (Fld.keep (Fld.other W516 (Fld.ext Ea504 (Fld.other W501 (Fld.other W495 (Fld.other W490 (Fld.other W486 (Fld.other W481 (Fld.ext Ea471 (Fld.other W468 (Fld.other W462 (Fld.other W457 (Fld.other W453 (Fld.other W448 (Fld.other W444 (Fld.other W439 (Fld.other W435 (Fld.ext Ea428 (Fld.keep (Fld.keep (Fld.other W422 (Fld.ext Ea416 f414) (Or.inr (slot_ne (t := (.array .byte)) (t' := (.array .boolean)) (Or.inr (w_30 H)) (Or.inr (w_47 H)) (by decide) (by decide) (by decide)))) K1 (ninS (Ne.symm ne_a416_g) nin0)) K2 (ninS (Ne.symm ne_a416_g) nin0))) (Or.inl (Ne.symm ne_a428_g))) (Or.inl (Ne.symm ne_a428_g))) (Or.inl (Ne.symm ne_a428_g))) (Or.inl (Ne.symm ne_a428_g))) (Or.inl (Ne.symm ne_a428_g))) (Or.inl (Ne.symm ne_a428_g))) (Or.inl (Ne.symm ne_a428_g))) (Or.inr (slot_ne (t := (.array .byte)) (t' := (.array .int)) (Or.inr (w_30 H)) (Or.inr (w_53 H)) (by decide) (by decide) (by decide))))) (Or.inl (Ne.symm ne_a471_g))) (Or.inl (Ne.symm ne_a471_g))) (Or.inl (Ne.symm ne_a471_g))) (Or.inl (Ne.symm ne_a471_g))) (Or.inr (slot_ne (t := (.array .byte)) (t' := (.array .int)) (Or.inr (w_30 H)) (Or.inr (w_55 H)) (by decide) (by decide) (by decide))))) (Or.inr (slot_ne (t := (.array .byte)) (t' := (.array .int)) (Or.inr (w_30 H)) (Or.inr (w_57 H)) (by decide) (by decide) (by decide)))) K3 (ninS (Ne.symm ne_a504_g) nin0))
  have f524 : Fld Z h3 g "com/example/plywright/plywright/games/ConnectFour" "heights" "[I" (.ref a385) := (Fld.keep (Fld.other W516 (Fld.ext Ea504 (Fld.other W501 (Fld.other W495 (Fld.other W490 (Fld.other W486 (Fld.other W481 (Fld.ext Ea471 (Fld.other W468 (Fld.other W462 (Fld.other W457 (Fld.other W453 (Fld.other W448 (Fld.other W444 (Fld.other W439 (Fld.other W435 (Fld.ext Ea428 (Fld.keep (Fld.keep (Fld.other W422 (Fld.ext Ea416 (Fld.other W412 (Fld.ext E404 (Fld.other W398 (Fld.ext Ea393 f391) (Or.inr (slot_ne (t := (.array .int)) (t' := (.array .int)) (Or.inr (w_32 H)) (Or.inr (w_34 H)) (by decide) (by decide) (by decide))))) (Or.inr (slot_ne (t := (.array .int)) (t' := (.array .long)) (Or.inr (w_32 H)) (Or.inr (w_44 H)) (by decide) (by decide) (by decide))))) (Or.inr (slot_ne (t := (.array .int)) (t' := (.array .boolean)) (Or.inr (w_32 H)) (Or.inr (w_47 H)) (by decide) (by decide) (by decide)))) K1 (ninS (Ne.symm ne_a416_g) nin0)) K2 (ninS (Ne.symm ne_a416_g) nin0))) (Or.inl (Ne.symm ne_a428_g))) (Or.inl (Ne.symm ne_a428_g))) (Or.inl (Ne.symm ne_a428_g))) (Or.inl (Ne.symm ne_a428_g))) (Or.inl (Ne.symm ne_a428_g))) (Or.inl (Ne.symm ne_a428_g))) (Or.inl (Ne.symm ne_a428_g))) (Or.inr (slot_ne (t := (.array .int)) (t' := (.array .int)) (Or.inr (w_32 H)) (Or.inr (w_53 H)) (by decide) (by decide) (by decide))))) (Or.inl (Ne.symm ne_a471_g))) (Or.inl (Ne.symm ne_a471_g))) (Or.inl (Ne.symm ne_a471_g))) (Or.inl (Ne.symm ne_a471_g))) (Or.inr (slot_ne (t := (.array .int)) (t' := (.array .int)) (Or.inr (w_32 H)) (Or.inr (w_55 H)) (by decide) (by decide) (by decide))))) (Or.inr (slot_ne (t := (.array .int)) (t' := (.array .int)) (Or.inr (w_32 H)) (Or.inr (w_57 H)) (by decide) (by decide) (by decide)))) K3 (ninS (Ne.symm ne_a504_g) nin0))
  have f525 : Fld Z h3 g "com/example/plywright/plywright/games/ConnectFour" "played" "[I" (.ref a393) := (Fld.keep (Fld.other W516 (Fld.ext Ea504 (Fld.other W501 (Fld.other W495 (Fld.other W490 (Fld.other W486 (Fld.other W481 (Fld.ext Ea471 (Fld.other W468 (Fld.other W462 (Fld.other W457 (Fld.other W453 (Fld.other W448 (Fld.other W444 (Fld.other W439 (Fld.other W435 (Fld.ext Ea428 (Fld.keep (Fld.keep (Fld.other W422 (Fld.ext Ea416 (Fld.other W412 (Fld.ext E404 f399) (Or.inr (slot_ne (t := (.array .int)) (t' := (.array .long)) (Or.inr (w_34 H)) (Or.inr (w_44 H)) (by decide) (by decide) (by decide))))) (Or.inr (slot_ne (t := (.array .int)) (t' := (.array .boolean)) (Or.inr (w_34 H)) (Or.inr (w_47 H)) (by decide) (by decide) (by decide)))) K1 (ninS (Ne.symm ne_a416_g) nin0)) K2 (ninS (Ne.symm ne_a416_g) nin0))) (Or.inl (Ne.symm ne_a428_g))) (Or.inl (Ne.symm ne_a428_g))) (Or.inl (Ne.symm ne_a428_g))) (Or.inl (Ne.symm ne_a428_g))) (Or.inl (Ne.symm ne_a428_g))) (Or.inl (Ne.symm ne_a428_g))) (Or.inl (Ne.symm ne_a428_g))) (Or.inr (slot_ne (t := (.array .int)) (t' := (.array .int)) (Or.inr (w_34 H)) (Or.inr (w_53 H)) (by decide) (by decide) (by decide))))) (Or.inl (Ne.symm ne_a471_g))) (Or.inl (Ne.symm ne_a471_g))) (Or.inl (Ne.symm ne_a471_g))) (Or.inl (Ne.symm ne_a471_g))) (Or.inr (slot_ne (t := (.array .int)) (t' := (.array .int)) (Or.inr (w_34 H)) (Or.inr (w_55 H)) (by decide) (by decide) (by decide))))) (Or.inr (slot_ne (t := (.array .int)) (t' := (.array .int)) (Or.inr (w_34 H)) (Or.inr (w_57 H)) (by decide) (by decide) (by decide)))) K3 (ninS (Ne.symm ne_a504_g) nin0))
  have f526 : Fld Z h3 g "com/example/plywright/plywright/games/ConnectFour" "zobrist" "[J" (.ref b402) := (Fld.keep (Fld.other W516 (Fld.ext Ea504 (Fld.other W501 (Fld.other W495 (Fld.other W490 (Fld.other W486 (Fld.other W481 (Fld.ext Ea471 (Fld.other W468 (Fld.other W462 (Fld.other W457 (Fld.other W453 (Fld.other W448 (Fld.other W444 (Fld.other W439 (Fld.other W435 (Fld.ext Ea428 (Fld.keep (Fld.keep (Fld.other W422 (Fld.ext Ea416 f413) (Or.inr (slot_ne (t := (.array .long)) (t' := (.array .boolean)) (Or.inr (w_44 H)) (Or.inr (w_47 H)) (by decide) (by decide) (by decide)))) K1 (ninS (Ne.symm ne_a416_g) nin0)) K2 (ninS (Ne.symm ne_a416_g) nin0))) (Or.inl (Ne.symm ne_a428_g))) (Or.inl (Ne.symm ne_a428_g))) (Or.inl (Ne.symm ne_a428_g))) (Or.inl (Ne.symm ne_a428_g))) (Or.inl (Ne.symm ne_a428_g))) (Or.inl (Ne.symm ne_a428_g))) (Or.inl (Ne.symm ne_a428_g))) (Or.inr (slot_ne (t := (.array .long)) (t' := (.array .int)) (Or.inr (w_44 H)) (Or.inr (w_53 H)) (by decide) (by decide) (by decide))))) (Or.inl (Ne.symm ne_a471_g))) (Or.inl (Ne.symm ne_a471_g))) (Or.inl (Ne.symm ne_a471_g))) (Or.inl (Ne.symm ne_a471_g))) (Or.inr (slot_ne (t := (.array .long)) (t' := (.array .int)) (Or.inr (w_44 H)) (Or.inr (w_55 H)) (by decide) (by decide) (by decide))))) (Or.inr (slot_ne (t := (.array .long)) (t' := (.array .int)) (Or.inr (w_44 H)) (Or.inr (w_57 H)) (by decide) (by decide) (by decide)))) K3 (ninS (Ne.symm ne_a504_g) nin0))
  have f527 : Fld Z h3 g "com/example/plywright/plywright/games/ConnectFour" "lineSteps" "[I" (.ref a471) := (Fld.keep (Fld.other W516 (Fld.ext Ea504 f502) (Or.inr (slot_ne (t := (.array .int)) (t' := (.array .int)) (Or.inr (w_55 H)) (Or.inr (w_57 H)) (by decide) (by decide) (by decide)))) K3 (ninS (Ne.symm ne_a504_g) nin0))
  have f528 : Fld Z h3 g "com/example/plywright/plywright/games/ConnectFour" "plies" "I" (.int (0 : Int32)) := (Fld.keep (Fld.other W516 (Fld.ext Ea504 (Fld.other W501 (Fld.other W495 (Fld.other W490 (Fld.other W486 (Fld.other W481 (Fld.ext Ea471 (Fld.other W468 (Fld.other W462 (Fld.other W457 (Fld.other W453 (Fld.other W448 (Fld.other W444 (Fld.other W439 (Fld.other W435 (Fld.ext Ea428 (Fld.keep (Fld.keep (Fld.other W422 (Fld.ext Ea416 (Fld.other W412 (Fld.ext E404 (Fld.other W398 (Fld.ext Ea393 (Fld.other W390 (Fld.ext Ea385 (Fld.other W382 (Fld.ext Ea377 (Fld.other W374 (Fld.other W369 (Fld.other W365 (Fld.ext E362 (Fld.ext E356 F11_g)) (Or.inr (slot_ne (t := .int) (t' := .int) (Or.inl (w_70 H)) (Or.inr (w_24 H)) (by decide) (by decide) (by decide)))) (Or.inr (slot_ne (t := .int) (t' := .int) (Or.inl (w_70 H)) (Or.inr (w_26 H)) (by decide) (by decide) (by decide)))) (Or.inr (slot_ne (t := .int) (t' := .int) (Or.inl (w_70 H)) (Or.inr (w_28 H)) (by decide) (by decide) (by decide))))) (Or.inr (slot_ne (t := .int) (t' := (.array .byte)) (Or.inl (w_70 H)) (Or.inr (w_30 H)) (by decide) (by decide) (by decide))))) (Or.inr (slot_ne (t := .int) (t' := (.array .int)) (Or.inl (w_70 H)) (Or.inr (w_32 H)) (by decide) (by decide) (by decide))))) (Or.inr (slot_ne (t := .int) (t' := (.array .int)) (Or.inl (w_70 H)) (Or.inr (w_34 H)) (by decide) (by decide) (by decide))))) (Or.inr (slot_ne (t := .int) (t' := (.array .long)) (Or.inl (w_70 H)) (Or.inr (w_44 H)) (by decide) (by decide) (by decide))))) (Or.inr (slot_ne (t := .int) (t' := (.array .boolean)) (Or.inl (w_70 H)) (Or.inr (w_47 H)) (by decide) (by decide) (by decide)))) K1 (ninS (Ne.symm ne_a416_g) nin0)) K2 (ninS (Ne.symm ne_a416_g) nin0))) (Or.inl (Ne.symm ne_a428_g))) (Or.inl (Ne.symm ne_a428_g))) (Or.inl (Ne.symm ne_a428_g))) (Or.inl (Ne.symm ne_a428_g))) (Or.inl (Ne.symm ne_a428_g))) (Or.inl (Ne.symm ne_a428_g))) (Or.inl (Ne.symm ne_a428_g))) (Or.inr (slot_ne (t := .int) (t' := (.array .int)) (Or.inl (w_70 H)) (Or.inr (w_53 H)) (by decide) (by decide) (by decide))))) (Or.inl (Ne.symm ne_a471_g))) (Or.inl (Ne.symm ne_a471_g))) (Or.inl (Ne.symm ne_a471_g))) (Or.inl (Ne.symm ne_a471_g))) (Or.inr (slot_ne (t := .int) (t' := (.array .int)) (Or.inl (w_70 H)) (Or.inr (w_55 H)) (by decide) (by decide) (by decide))))) (Or.inr (slot_ne (t := .int) (t' := (.array .int)) (Or.inl (w_70 H)) (Or.inr (w_57 H)) (by decide) (by decide) (by decide)))) K3 (ninS (Ne.symm ne_a504_g) nin0))
  have f529 : Fld Z h3 g "com/example/plywright/plywright/games/ConnectFour" "won" "Z" (.int (0 : Int32)) := (Fld.keep (Fld.other W516 (Fld.ext Ea504 (Fld.other W501 (Fld.other W495 (Fld.other W490 (Fld.other W486 (Fld.other W481 (Fld.ext Ea471 (Fld.other W468 (Fld.other W462 (Fld.other W457 (Fld.other W453 (Fld.other W448 (Fld.other W444 (Fld.other W439 (Fld.other W435 (Fld.ext Ea428 (Fld.keep (Fld.keep (Fld.other W422 (Fld.ext Ea416 (Fld.other W412 (Fld.ext E404 (Fld.other W398 (Fld.ext Ea393 (Fld.other W390 (Fld.ext Ea385 (Fld.other W382 (Fld.ext Ea377 (Fld.other W374 (Fld.other W369 (Fld.other W365 (Fld.ext E362 (Fld.ext E356 F12_g)) (Or.inr (slot_ne (t := .boolean) (t' := .int) (Or.inl (w_64 H)) (Or.inr (w_24 H)) (by decide) (by decide) (by decide)))) (Or.inr (slot_ne (t := .boolean) (t' := .int) (Or.inl (w_64 H)) (Or.inr (w_26 H)) (by decide) (by decide) (by decide)))) (Or.inr (slot_ne (t := .boolean) (t' := .int) (Or.inl (w_64 H)) (Or.inr (w_28 H)) (by decide) (by decide) (by decide))))) (Or.inr (slot_ne (t := .boolean) (t' := (.array .byte)) (Or.inl (w_64 H)) (Or.inr (w_30 H)) (by decide) (by decide) (by decide))))) (Or.inr (slot_ne (t := .boolean) (t' := (.array .int)) (Or.inl (w_64 H)) (Or.inr (w_32 H)) (by decide) (by decide) (by decide))))) (Or.inr (slot_ne (t := .boolean) (t' := (.array .int)) (Or.inl (w_64 H)) (Or.inr (w_34 H)) (by decide) (by decide) (by decide))))) (Or.inr (slot_ne (t := .boolean) (t' := (.array .long)) (Or.inl (w_64 H)) (Or.inr (w_44 H)) (by decide) (by decide) (by decide))))) (Or.inr (slot_ne (t := .boolean) (t' := (.array .boolean)) (Or.inl (w_64 H)) (Or.inr (w_47 H)) (by decide) (by decide) (by decide)))) K1 (ninS (Ne.symm ne_a416_g) nin0)) K2 (ninS (Ne.symm ne_a416_g) nin0))) (Or.inl (Ne.symm ne_a428_g))) (Or.inl (Ne.symm ne_a428_g))) (Or.inl (Ne.symm ne_a428_g))) (Or.inl (Ne.symm ne_a428_g))) (Or.inl (Ne.symm ne_a428_g))) (Or.inl (Ne.symm ne_a428_g))) (Or.inl (Ne.symm ne_a428_g))) (Or.inr (slot_ne (t := .boolean) (t' := (.array .int)) (Or.inl (w_64 H)) (Or.inr (w_53 H)) (by decide) (by decide) (by decide))))) (Or.inl (Ne.symm ne_a471_g))) (Or.inl (Ne.symm ne_a471_g))) (Or.inl (Ne.symm ne_a471_g))) (Or.inl (Ne.symm ne_a471_g))) (Or.inr (slot_ne (t := .boolean) (t' := (.array .int)) (Or.inl (w_64 H)) (Or.inr (w_55 H)) (by decide) (by decide) (by decide))))) (Or.inr (slot_ne (t := .boolean) (t' := (.array .int)) (Or.inl (w_64 H)) (Or.inr (w_57 H)) (by decide) (by decide) (by decide)))) K3 (ninS (Ne.symm ne_a504_g) nin0))
  have f530 : Fld Z h3 g "com/example/plywright/plywright/games/ConnectFour" "key" "J" (.long (0 : Int64)) := (Fld.keep (Fld.other W516 (Fld.ext Ea504 (Fld.other W501 (Fld.other W495 (Fld.other W490 (Fld.other W486 (Fld.other W481 (Fld.ext Ea471 (Fld.other W468 (Fld.other W462 (Fld.other W457 (Fld.other W453 (Fld.other W448 (Fld.other W444 (Fld.other W439 (Fld.other W435 (Fld.ext Ea428 (Fld.keep (Fld.keep (Fld.other W422 (Fld.ext Ea416 (Fld.other W412 (Fld.ext E404 (Fld.other W398 (Fld.ext Ea393 (Fld.other W390 (Fld.ext Ea385 (Fld.other W382 (Fld.ext Ea377 (Fld.other W374 (Fld.other W369 (Fld.other W365 (Fld.ext E362 (Fld.ext E356 F13_g)) (Or.inr (slot_ne (t := .long) (t' := .int) (Or.inl (w_72 H)) (Or.inr (w_24 H)) (by decide) (by decide) (by decide)))) (Or.inr (slot_ne (t := .long) (t' := .int) (Or.inl (w_72 H)) (Or.inr (w_26 H)) (by decide) (by decide) (by decide)))) (Or.inr (slot_ne (t := .long) (t' := .int) (Or.inl (w_72 H)) (Or.inr (w_28 H)) (by decide) (by decide) (by decide))))) (Or.inr (slot_ne (t := .long) (t' := (.array .byte)) (Or.inl (w_72 H)) (Or.inr (w_30 H)) (by decide) (by decide) (by decide))))) (Or.inr (slot_ne (t := .long) (t' := (.array .int)) (Or.inl (w_72 H)) (Or.inr (w_32 H)) (by decide) (by decide) (by decide))))) (Or.inr (slot_ne (t := .long) (t' := (.array .int)) (Or.inl (w_72 H)) (Or.inr (w_34 H)) (by decide) (by decide) (by decide))))) (Or.inr (slot_ne (t := .long) (t' := (.array .long)) (Or.inl (w_72 H)) (Or.inr (w_44 H)) (by decide) (by decide) (by decide))))) (Or.inr (slot_ne (t := .long) (t' := (.array .boolean)) (Or.inl (w_72 H)) (Or.inr (w_47 H)) (by decide) (by decide) (by decide)))) K1 (ninS (Ne.symm ne_a416_g) nin0)) K2 (ninS (Ne.symm ne_a416_g) nin0))) (Or.inl (Ne.symm ne_a428_g))) (Or.inl (Ne.symm ne_a428_g))) (Or.inl (Ne.symm ne_a428_g))) (Or.inl (Ne.symm ne_a428_g))) (Or.inl (Ne.symm ne_a428_g))) (Or.inl (Ne.symm ne_a428_g))) (Or.inl (Ne.symm ne_a428_g))) (Or.inr (slot_ne (t := .long) (t' := (.array .int)) (Or.inl (w_72 H)) (Or.inr (w_53 H)) (by decide) (by decide) (by decide))))) (Or.inl (Ne.symm ne_a471_g))) (Or.inl (Ne.symm ne_a471_g))) (Or.inl (Ne.symm ne_a471_g))) (Or.inl (Ne.symm ne_a471_g))) (Or.inr (slot_ne (t := .long) (t' := (.array .int)) (Or.inl (w_72 H)) (Or.inr (w_55 H)) (by decide) (by decide) (by decide))))) (Or.inr (slot_ne (t := .long) (t' := (.array .int)) (Or.inl (w_72 H)) (Or.inr (w_57 H)) (by decide) (by decide) (by decide)))) K3 (ninS (Ne.symm ne_a504_g) nin0))
  have f531 : AV Z h3 a377 .byte (List.replicate ((W + 4) * (Hr + 4)) (.int (0 : Int32))) := (AV.keep (AV.other (AV.ext (AV.other (AV.other (AV.other (AV.other (AV.other (AV.ext (AV.other (AV.other (AV.other (AV.other (AV.other (AV.other (AV.other (AV.other (AV.ext (AV.keep (AV.keep (AV.other (AV.ext (AV.other (AV.ext f401 E404) W412 ne_a377_g) Ea416) W422 ne_a377_g) K1 (ninS (Ne.symm ne_a416_a377) nin0)) K2 (ninS (Ne.symm ne_a416_a377) nin0)) Ea428) W435 (Ne.symm ne_a428_a377)) W439 (Ne.symm ne_a428_a377)) W444 (Ne.symm ne_a428_a377)) W448 (Ne.symm ne_a428_a377)) W453 (Ne.symm ne_a428_a377)) W457 (Ne.symm ne_a428_a377)) W462 (Ne.symm ne_a428_a377)) W468 ne_a377_g) Ea471) W481 (Ne.symm ne_a471_a377)) W486 (Ne.symm ne_a471_a377)) W490 (Ne.symm ne_a471_a377)) W495 (Ne.symm ne_a471_a377)) W501 ne_a377_g) Ea504) W516 ne_a377_g) K3 (ninS (Ne.symm ne_a504_a377) nin0))
  have f532 : AV Z h3 a385 .int (List.replicate W (.int (0 : Int32))) := (AV.keep (AV.other (AV.ext (AV.other (AV.other (AV.other (AV.other (AV.other (AV.ext (AV.other (AV.other (AV.other (AV.other (AV.other (AV.other (AV.other (AV.other (AV.ext (AV.keep (AV.keep (AV.other (AV.ext (AV.other (AV.ext (AV.other (AV.ext (AV.other Aa385 W390 ne_a385_g) Ea393) W398 ne_a385_g) E404) W412 ne_a385_g) Ea416) W422 ne_a385_g) K1 (ninS (Ne.symm ne_a416_a385) nin0)) K2 (ninS (Ne.symm ne_a416_a385) nin0)) Ea428) W435 (Ne.symm ne_a428_a385)) W439 (Ne.symm ne_a428_a385)) W444 (Ne.symm ne_a428_a385)) W448 (Ne.symm ne_a428_a385)) W453 (Ne.symm ne_a428_a385)) W457 (Ne.symm ne_a428_a385)) W462 (Ne.symm ne_a428_a385)) W468 ne_a385_g) Ea471) W481 (Ne.symm ne_a471_a385)) W486 (Ne.symm ne_a471_a385)) W490 (Ne.symm ne_a471_a385)) W495 (Ne.symm ne_a471_a385)) W501 ne_a385_g) Ea504) W516 ne_a385_g) K3 (ninS (Ne.symm ne_a504_a385) nin0))
  have f533 : AV Z h3 a393 .int (List.replicate (W * Hr) (.int (0 : Int32))) := (AV.keep (AV.other (AV.ext (AV.other (AV.other (AV.other (AV.other (AV.other (AV.ext (AV.other (AV.other (AV.other (AV.other (AV.other (AV.other (AV.other (AV.other (AV.ext (AV.keep (AV.keep (AV.other (AV.ext (AV.other (AV.ext (AV.other Aa393 W398 ne_a393_g) E404) W412 ne_a393_g) Ea416) W422 ne_a393_g) K1 (ninS (Ne.symm ne_a416_a393) nin0)) K2 (ninS (Ne.symm ne_a416_a393) nin0)) Ea428) W435 (Ne.symm ne_a428_a393)) W439 (Ne.symm ne_a428_a393)) W444 (Ne.symm ne_a428_a393)) W448 (Ne.symm ne_a428_a393)) W453 (Ne.symm ne_a428_a393)) W457 (Ne.symm ne_a428_a393)) W462 (Ne.symm ne_a428_a393)) W468 ne_a393_g) Ea471) W481 (Ne.symm ne_a471_a393)) W486 (Ne.symm ne_a471_a393)) W490 (Ne.symm ne_a471_a393)) W495 (Ne.symm ne_a471_a393)) W501 ne_a393_g) Ea504) W516 ne_a393_g) K3 (ninS (Ne.symm ne_a504_a393) nin0))
  have f534 : AV Z h3 b402 .long (lm (2 * ((W + 4) * (Hr + 4)) + 1) (fun j => if j < (2 * ((W + 4) * (Hr + 4)) + 1) then own_num j else 0)) := (AV.keep (AV.other (AV.ext f508 Ea504) W516 ne_b402_g) K3 (ninS (Ne.symm ne_a504_b402) nin0))
  have f535 : AV Z h3 a471 .int [(.int (1 : Int32)), (.int (Int32.ofNat (W + 4))), (.int (Int32.ofNat (W + 5))), (.int (Int32.ofNat (W + 3)))] := (AV.keep (AV.other (AV.ext (AV.other A497 W501 ne_a471_g) Ea504) W516 ne_a471_g) K3 (ninS (Ne.symm ne_a504_a471) nin0))
  have AS : AV Z h3 a377 .byte (bm ((W + 4) * (Hr + 4)) (fun _ => 0)) := bm_zero _ ▸ f531
  have AH : AV Z h3 a385 .int (bm W (fun _ => 0)) := bm_zero _ ▸ f532
  have AP : AV Z h3 a393 .int (bm (W * Hr) (fun _ => 0)) := bm_zero _ ▸ f533
  have AC : AV Z h3 a504 .int (bm W (fun j => Int32.ofNat (own_cn W j))) := bm_congr I3 ▸ A3
  have f536 : Keep h0 h3 [g] := (Keep.trans (Keep.wr (Keep.ext f513 Ea504) W516 (Or.inl (by simp))) K3 (allS (Or.inr fr_a504) all0))
  exact ⟨rfl, f536, a377, a385, a393, b402, a471, a504, (fun j => if j < (2 * ((W + 4) * (Hr + 4)) + 1) then own_num j else 0), ⟨(Ne.symm ne_a385_a377), (Ne.symm ne_a393_a377), (Ne.symm ne_b402_a377), (Ne.symm ne_a471_a377), (Ne.symm ne_a393_a385), (Ne.symm ne_b402_a385), (Ne.symm ne_a471_a385), (Ne.symm ne_b402_a393), (Ne.symm ne_a471_a393), (Ne.symm ne_a471_b402), ne_a377_g, ne_a385_g, ne_a393_g, ne_b402_g, ne_a471_g, ne_a504_g, ne_a504_a377, ne_a504_a385, ne_a504_a393, gg, ge_a377, ge_a385, ge_a393⟩, fr_a377, fr_a385, fr_a393, fr_a504, fun cq => ⟨_, _, f519, f520, f521, f522, f523, f524, f525, f526, f527, (Fld.keep f517 K3 (ninS (Ne.symm ne_a504_g) nin0)), f528, f529, f530, AS, AH, AP, f534, f535, AC⟩⟩
theorem Ct.mono {l : Launch} {Z : State} {n0 : Nat} {y : MethodName} {bytes : ByteArray} {maxL : Nat} {ret : Option FieldType} {ws : List Jvm.Cond} {rm : Room} {as' : Array Value} {h0 : Heap} {Q Q' : Option Value → Heap → Prop} (C : Ct l Z n0 y bytes maxL ret ws rm as' h0 Q) (q : ∀ v h, Q v h → Q' v h) : Ct l Z n0 y bytes maxL ret ws rm as' h0 Q' :=
  MetFree.mono C (fun _ _ z => z) (fun _ _ _ _ _ z => z) (fun _ _ _ _ _ z => by
    obtain ⟨v, L, h1, ⟨h2, h3⟩, h4⟩ := z
    exact ⟨v, L, h1, ⟨q _ _ h2, h3⟩, h4⟩)
theorem own_sN (P : Nat) : ∃ sN : Nat, own_sd P = Int32.ofNat sN ∧ 1 ≤ sN ∧ sN ≤ 2 ∧ nar .byte (own_sd P) = own_sd P := by
  rcases own_sd_cases P with z | z <;> rw [z]
  · exact ⟨1, rfl, by omega, by omega, by decide⟩
  · exact ⟨2, rfl, by omega, by omega, by decide⟩
set_option maxRecDepth 65536 in
set_option maxHeartbeats 40000000 in
theorem own_pl0 {l : Launch} {Z : State} {a0 : Array Value} {n0 : Nat} (H : Wd a0 Z) (g sq hs pl zb la cf : Addr) (W Hr P a b c : Nat) (zf : Nat → Int64) (cq : Nat → Nat) (h0 : Heap) (Z0 : n0 ≤ h0.size) (hW : ∀ j, cq j < W) (hab : ∀ j, cq j = a ∨ cq j = b) (hcon : ∀ j, j < P → cq j = cq P → cq (P - 1) = cq P) (hc : cq P = c) (hrH : own_e cq P c < Hr) (hW9 : W ≤ 9) (hH9 : Hr ≤ 9) (hP : P < W * Hr) (D : own_Gne n0 g sq hs pl zb la cf) (G : own_Gst Z h0 g sq hs pl zb la cf W Hr zf cq P 0) :
    Ct l Z n0 (⟨"com/example/plywright/plywright/games/ConnectFour", "play", "(I)V"⟩ : MethodName) prog_19_method_12_code 4 none [] ({ frames := 2, cells := 0, slots := 0, locals := 39 } : Room) #[(.ref g), (.int (Int32.ofNat c))] h0 (fun v h => v = none ∧ Keep h0 h [g, sq, hs, pl] ∧ own_Gst Z h g sq hs pl zb la cf W Hr zf cq (P + 1) 0) := by
  skip
  subst hc
  obtain ⟨u, pf, E, F0, F1, F2, F3, F4, F5, F6, F7, F8, F9, F10, F11, AS, AH, AP, AZ, AL, AC⟩ := G
  obtain ⟨d0, d1, d2, d3, d4, d5, d6, d7, d8, d9, d10, d11, d12, d13, d14, d15, d16, d17, d18, d19, d20, d21, d22⟩ := D
  obtain ⟨sN, hsN, s1, s2, nb⟩ := own_sN P
  have hN : (W + 4) * (Hr + 4) ≤ 169 := Nat.mul_le_mul (show W + 4 ≤ 13 by omega) (show Hr + 4 ≤ 13 by omega)
  obtain ⟨q, hq⟩ : ∃ q, own_cell W (cq P) (own_e cq P (cq P)) = q := ⟨_, rfl⟩
  obtain ⟨l1, l2, l3, l4, l5, l6, l7, l8, l9⟩ := own_lines hW hab rfl rfl hrH hq
  have ef : own_f W cq (P + 1) = updf (own_f W cq P) q (own_sd P) := by rw [← hq]; rfl
  have m1 : (own_e cq P (cq P) + 1) * (W + 4) + (W + 4) = (own_e cq P (cq P) + 2) * (W + 4) := by rw [Nat.add_mul, Nat.add_mul]; omega
  have wb : 1 * (W + 4) ≤ q := by rw [← hq]; unfold own_cell; omega
  have wz : ¬ own_f W cq (P + 1) (q - 1 * (W + 4)) = own_sd P := own_down hW rfl rfl hcon (by rw [← hq]; unfold own_cell; omega)
  rw [ef] at l3 l4 l5 l6 l7 l8 l9 wz
  refine Ct.mono (rmPl0 H g sq hs pl zb la cf ((W + 4) * (Hr + 4)) W Hr (cq P) (own_e cq P (cq P)) q P sN (own_f W cq P) (fun c => Int32.ofNat (own_e cq P c)) pf zf (own_sd P) u h0 Z0 hq (hW P) hW9 hrH hH9 rfl hP (by omega) rfl hsN s1 s2 nb (by omega) l1 l2 l3 l4 l5 l6 l7 l8 l9 wz wb E F0 F1 F2 F3 F4 F5 F6 F7 F8 F9 F10 F11 AS AH AP AZ AL d0 d1 d2 d3 d4 d5 d6 d7 d8 d9 d10 d11 d12 d13 d14 d19 d20 d21 d22) ?_
  rintro v h ⟨u2, hv, K, E2, D0, D1, D2, D3, D4, D5, D6, D7, D8, D9, D10, D11, BS, BH, BP, BZ, BL⟩
  exact ⟨hv, K, u2, _, E2, D0, D1, D2, D3, D4, D5, D6, D7, D8, D9, D10, D11, (by rw [ef]; exact BS), (by rw [← own_e_upd cq P]; exact BH), BP, BZ, BL, AC.keep K (ninS d15 (ninS d16 (ninS d17 (ninS d18 nin0))))⟩
set_option maxRecDepth 65536 in
set_option maxHeartbeats 40000000 in
theorem own_pw0 {l : Launch} {Z : State} {a0 : Array Value} {n0 : Nat} (H : Wd a0 Z) (g sq hs pl zb la cf : Addr) (W Hr P a b c : Nat) (zf : Nat → Int64) (cq : Nat → Nat) (h0 : Heap) (Z0 : n0 ≤ h0.size) (hA : a < W) (hB : b < W) (hne : a ≠ b) (hcw : cq = own_cw a b) (hk : P / 2 = 0) (hc : cq P = c) (hrH : own_e cq P c < Hr) (hW9 : W ≤ 9) (hH9 : Hr ≤ 9) (hP : P < W * Hr) (D : own_Gne n0 g sq hs pl zb la cf) (G : own_Gst Z h0 g sq hs pl zb la cf W Hr zf cq P 0) :
    Ct l Z n0 (⟨"com/example/plywright/plywright/games/ConnectFour", "play", "(I)V"⟩ : MethodName) prog_19_method_12_code 4 none [] ({ frames := 2, cells := 0, slots := 0, locals := 39 } : Room) #[(.ref g), (.int (Int32.ofNat c))] h0 (fun v h => v = none ∧ Keep h0 h [g, sq, hs, pl] ∧ own_Gst Z h g sq hs pl zb la cf W Hr zf cq (P + 1) 0) := by
  have hW : ∀ j, cq j < W := by rw [hcw]; exact own_cw_lt hA hB
  have hab : ∀ j, cq j = a ∨ cq j = b := by rw [hcw]; exact own_cw_ab a b
  have hke : own_e cq P (cq P) = 0 := by rw [hcw, own_e_w hne, hk]
  subst hc
  obtain ⟨u, pf, E, F0, F1, F2, F3, F4, F5, F6, F7, F8, F9, F10, F11, AS, AH, AP, AZ, AL, AC⟩ := G
  obtain ⟨d0, d1, d2, d3, d4, d5, d6, d7, d8, d9, d10, d11, d12, d13, d14, d15, d16, d17, d18, d19, d20, d21, d22⟩ := D
  obtain ⟨sN, hsN, s1, s2, nb⟩ := own_sN P
  have hN : (W + 4) * (Hr + 4) ≤ 169 := Nat.mul_le_mul (show W + 4 ≤ 13 by omega) (show Hr + 4 ≤ 13 by omega)
  obtain ⟨q, hq⟩ : ∃ q, own_cell W (cq P) (own_e cq P (cq P)) = q := ⟨_, rfl⟩
  obtain ⟨l1, l2, l3, l4, l5, l6, l7, l8, l9⟩ := own_lines hW hab rfl rfl hrH hq
  have ef : own_f W cq (P + 1) = updf (own_f W cq P) q (own_sd P) := by rw [← hq]; rfl

  obtain ⟨wz, wb⟩ : ¬ own_f W cq (P + 1) (q - 1 * (W + 4)) = own_sd P ∧ 1 * (W + 4) ≤ q := by
    have z := own_wbase (P := P) (q := q) (k := 0) hA hB (by rw [← hcw, ← hke]; exact hq)
    rw [← hcw] at z; exact z
  rw [ef] at l3 l4 l5 l6 l7 l8 l9  wz
  refine Ct.mono (rmPl0 H g sq hs pl zb la cf ((W + 4) * (Hr + 4)) W Hr (cq P) (own_e cq P (cq P)) q P sN (own_f W cq P) (fun c => Int32.ofNat (own_e cq P c)) pf zf (own_sd P) u h0 Z0 hq (hW P) hW9 hrH hH9 rfl hP (by omega) rfl hsN s1 s2 nb (by omega) l1 l2 l3 l4 l5 l6 l7 l8 l9  wz wb E F0 F1 F2 F3 F4 F5 F6 F7 F8 F9 F10 F11 AS AH AP AZ AL d0 d1 d2 d3 d4 d5 d6 d7 d8 d9 d10 d11 d12 d13 d14 d19 d20 d21 d22) ?_
  rintro v h ⟨u2, hv, K, E2, D0, D1, D2, D3, D4, D5, D6, D7, D8, D9, D10, D11, BS, BH, BP, BZ, BL⟩
  exact ⟨hv, K, u2, _, E2, D0, D1, D2, D3, D4, D5, D6, D7, D8, D9, D10, D11, (by rw [ef]; exact BS), (by rw [← own_e_upd cq P]; exact BH), BP, BZ, BL, AC.keep K (ninS d15 (ninS d16 (ninS d17 (ninS d18 nin0))))⟩
set_option maxRecDepth 65536 in
set_option maxHeartbeats 40000000 in
theorem own_pw1 {l : Launch} {Z : State} {a0 : Array Value} {n0 : Nat} (H : Wd a0 Z) (g sq hs pl zb la cf : Addr) (W Hr P a b c : Nat) (zf : Nat → Int64) (cq : Nat → Nat) (h0 : Heap) (Z0 : n0 ≤ h0.size) (hA : a < W) (hB : b < W) (hne : a ≠ b) (hcw : cq = own_cw a b) (hk : P / 2 = 1) (hc : cq P = c) (hrH : own_e cq P c < Hr) (hW9 : W ≤ 9) (hH9 : Hr ≤ 9) (hP : P < W * Hr) (D : own_Gne n0 g sq hs pl zb la cf) (G : own_Gst Z h0 g sq hs pl zb la cf W Hr zf cq P 0) :
    Ct l Z n0 (⟨"com/example/plywright/plywright/games/ConnectFour", "play", "(I)V"⟩ : MethodName) prog_19_method_12_code 4 none [] ({ frames := 2, cells := 0, slots := 0, locals := 39 } : Room) #[(.ref g), (.int (Int32.ofNat c))] h0 (fun v h => v = none ∧ Keep h0 h [g, sq, hs, pl] ∧ own_Gst Z h g sq hs pl zb la cf W Hr zf cq (P + 1) 0) := by
  have hW : ∀ j, cq j < W := by rw [hcw]; exact own_cw_lt hA hB
  have hab : ∀ j, cq j = a ∨ cq j = b := by rw [hcw]; exact own_cw_ab a b
  have hke : own_e cq P (cq P) = 1 := by rw [hcw, own_e_w hne, hk]
  subst hc
  obtain ⟨u, pf, E, F0, F1, F2, F3, F4, F5, F6, F7, F8, F9, F10, F11, AS, AH, AP, AZ, AL, AC⟩ := G
  obtain ⟨d0, d1, d2, d3, d4, d5, d6, d7, d8, d9, d10, d11, d12, d13, d14, d15, d16, d17, d18, d19, d20, d21, d22⟩ := D
  obtain ⟨sN, hsN, s1, s2, nb⟩ := own_sN P
  have hN : (W + 4) * (Hr + 4) ≤ 169 := Nat.mul_le_mul (show W + 4 ≤ 13 by omega) (show Hr + 4 ≤ 13 by omega)
  obtain ⟨q, hq⟩ : ∃ q, own_cell W (cq P) (own_e cq P (cq P)) = q := ⟨_, rfl⟩
  obtain ⟨l1, l2, l3, l4, l5, l6, l7, l8, l9⟩ := own_lines hW hab rfl rfl hrH hq
  have ef : own_f W cq (P + 1) = updf (own_f W cq P) q (own_sd P) := by rw [← hq]; rfl
  have w1 : own_f W cq (P + 1) (q - 1 * (W + 4)) = own_sd P := by
    have z := own_wdown (q := q) (i := 1) hA hB hne hk (by omega) (by rw [← hcw, ← hke]; exact hq)
    rw [← hcw] at z; exact z
  obtain ⟨wz, wb⟩ : ¬ own_f W cq (P + 1) (q - 2 * (W + 4)) = own_sd P ∧ 2 * (W + 4) ≤ q := by
    have z := own_wbase (P := P) (q := q) (k := 1) hA hB (by rw [← hcw, ← hke]; exact hq)
    rw [← hcw] at z; exact z
  rw [ef] at l3 l4 l5 l6 l7 l8 l9 w1 wz
  refine Ct.mono (rmPl1 H g sq hs pl zb la cf ((W + 4) * (Hr + 4)) W Hr (cq P) (own_e cq P (cq P)) q P sN (own_f W cq P) (fun c => Int32.ofNat (own_e cq P c)) pf zf (own_sd P) u h0 Z0 hq (hW P) hW9 hrH hH9 rfl hP (by omega) rfl hsN s1 s2 nb (by omega) l1 l2 l3 l4 l5 l6 l7 l8 l9 w1 wz wb E F0 F1 F2 F3 F4 F5 F6 F7 F8 F9 F10 F11 AS AH AP AZ AL d0 d1 d2 d3 d4 d5 d6 d7 d8 d9 d10 d11 d12 d13 d14 d19 d20 d21 d22) ?_
  rintro v h ⟨u2, hv, K, E2, D0, D1, D2, D3, D4, D5, D6, D7, D8, D9, D10, D11, BS, BH, BP, BZ, BL⟩
  exact ⟨hv, K, u2, _, E2, D0, D1, D2, D3, D4, D5, D6, D7, D8, D9, D10, D11, (by rw [ef]; exact BS), (by rw [← own_e_upd cq P]; exact BH), BP, BZ, BL, AC.keep K (ninS d15 (ninS d16 (ninS d17 (ninS d18 nin0))))⟩
set_option maxRecDepth 65536 in
set_option maxHeartbeats 40000000 in
theorem own_pw2 {l : Launch} {Z : State} {a0 : Array Value} {n0 : Nat} (H : Wd a0 Z) (g sq hs pl zb la cf : Addr) (W Hr P a b c : Nat) (zf : Nat → Int64) (cq : Nat → Nat) (h0 : Heap) (Z0 : n0 ≤ h0.size) (hA : a < W) (hB : b < W) (hne : a ≠ b) (hcw : cq = own_cw a b) (hk : P / 2 = 2) (hc : cq P = c) (hrH : own_e cq P c < Hr) (hW9 : W ≤ 9) (hH9 : Hr ≤ 9) (hP : P < W * Hr) (D : own_Gne n0 g sq hs pl zb la cf) (G : own_Gst Z h0 g sq hs pl zb la cf W Hr zf cq P 0) :
    Ct l Z n0 (⟨"com/example/plywright/plywright/games/ConnectFour", "play", "(I)V"⟩ : MethodName) prog_19_method_12_code 4 none [] ({ frames := 2, cells := 0, slots := 0, locals := 39 } : Room) #[(.ref g), (.int (Int32.ofNat c))] h0 (fun v h => v = none ∧ Keep h0 h [g, sq, hs, pl] ∧ own_Gst Z h g sq hs pl zb la cf W Hr zf cq (P + 1) 0) := by
  have hW : ∀ j, cq j < W := by rw [hcw]; exact own_cw_lt hA hB
  have hab : ∀ j, cq j = a ∨ cq j = b := by rw [hcw]; exact own_cw_ab a b
  have hke : own_e cq P (cq P) = 2 := by rw [hcw, own_e_w hne, hk]
  subst hc
  obtain ⟨u, pf, E, F0, F1, F2, F3, F4, F5, F6, F7, F8, F9, F10, F11, AS, AH, AP, AZ, AL, AC⟩ := G
  obtain ⟨d0, d1, d2, d3, d4, d5, d6, d7, d8, d9, d10, d11, d12, d13, d14, d15, d16, d17, d18, d19, d20, d21, d22⟩ := D
  obtain ⟨sN, hsN, s1, s2, nb⟩ := own_sN P
  have hN : (W + 4) * (Hr + 4) ≤ 169 := Nat.mul_le_mul (show W + 4 ≤ 13 by omega) (show Hr + 4 ≤ 13 by omega)
  obtain ⟨q, hq⟩ : ∃ q, own_cell W (cq P) (own_e cq P (cq P)) = q := ⟨_, rfl⟩
  obtain ⟨l1, l2, l3, l4, l5, l6, l7, l8, l9⟩ := own_lines hW hab rfl rfl hrH hq
  have ef : own_f W cq (P + 1) = updf (own_f W cq P) q (own_sd P) := by rw [← hq]; rfl
  have w1 : own_f W cq (P + 1) (q - 1 * (W + 4)) = own_sd P := by
    have z := own_wdown (q := q) (i := 1) hA hB hne hk (by omega) (by rw [← hcw, ← hke]; exact hq)
    rw [← hcw] at z; exact z
  have w2 : own_f W cq (P + 1) (q - 2 * (W + 4)) = own_sd P := by
    have z := own_wdown (q := q) (i := 2) hA hB hne hk (by omega) (by rw [← hcw, ← hke]; exact hq)
    rw [← hcw] at z; exact z
  obtain ⟨wz, wb⟩ : ¬ own_f W cq (P + 1) (q - 3 * (W + 4)) = own_sd P ∧ 3 * (W + 4) ≤ q := by
    have z := own_wbase (P := P) (q := q) (k := 2) hA hB (by rw [← hcw, ← hke]; exact hq)
    rw [← hcw] at z; exact z
  rw [ef] at l3 l4 l5 l6 l7 l8 l9 w1 w2 wz
  refine Ct.mono (rmPl2 H g sq hs pl zb la cf ((W + 4) * (Hr + 4)) W Hr (cq P) (own_e cq P (cq P)) q P sN (own_f W cq P) (fun c => Int32.ofNat (own_e cq P c)) pf zf (own_sd P) u h0 Z0 hq (hW P) hW9 hrH hH9 rfl hP (by omega) rfl hsN s1 s2 nb (by omega) l1 l2 l3 l4 l5 l6 l7 l8 l9 w1 w2 wz wb E F0 F1 F2 F3 F4 F5 F6 F7 F8 F9 F10 F11 AS AH AP AZ AL d0 d1 d2 d3 d4 d5 d6 d7 d8 d9 d10 d11 d12 d13 d14 d19 d20 d21 d22) ?_
  rintro v h ⟨u2, hv, K, E2, D0, D1, D2, D3, D4, D5, D6, D7, D8, D9, D10, D11, BS, BH, BP, BZ, BL⟩
  exact ⟨hv, K, u2, _, E2, D0, D1, D2, D3, D4, D5, D6, D7, D8, D9, D10, D11, (by rw [ef]; exact BS), (by rw [← own_e_upd cq P]; exact BH), BP, BZ, BL, AC.keep K (ninS d15 (ninS d16 (ninS d17 (ninS d18 nin0))))⟩
set_option maxRecDepth 65536 in
set_option maxHeartbeats 40000000 in
theorem own_pw3 {l : Launch} {Z : State} {a0 : Array Value} {n0 : Nat} (H : Wd a0 Z) (g sq hs pl zb la cf : Addr) (W Hr P a b c : Nat) (zf : Nat → Int64) (cq : Nat → Nat) (h0 : Heap) (Z0 : n0 ≤ h0.size) (hA : a < W) (hB : b < W) (hne : a ≠ b) (hcw : cq = own_cw a b) (hk : P / 2 = 3) (hc : cq P = c) (hrH : own_e cq P c < Hr) (hW9 : W ≤ 9) (hH9 : Hr ≤ 9) (hP : P < W * Hr) (D : own_Gne n0 g sq hs pl zb la cf) (G : own_Gst Z h0 g sq hs pl zb la cf W Hr zf cq P 0) :
    Ct l Z n0 (⟨"com/example/plywright/plywright/games/ConnectFour", "play", "(I)V"⟩ : MethodName) prog_19_method_12_code 4 none [] ({ frames := 2, cells := 0, slots := 0, locals := 39 } : Room) #[(.ref g), (.int (Int32.ofNat c))] h0 (fun v h => v = none ∧ Keep h0 h [g, sq, hs, pl] ∧ own_Gst Z h g sq hs pl zb la cf W Hr zf cq (P + 1) 1) := by
  have hW : ∀ j, cq j < W := by rw [hcw]; exact own_cw_lt hA hB
  have hab : ∀ j, cq j = a ∨ cq j = b := by rw [hcw]; exact own_cw_ab a b
  have hke : own_e cq P (cq P) = 3 := by rw [hcw, own_e_w hne, hk]
  subst hc
  obtain ⟨u, pf, E, F0, F1, F2, F3, F4, F5, F6, F7, F8, F9, F10, F11, AS, AH, AP, AZ, AL, AC⟩ := G
  obtain ⟨d0, d1, d2, d3, d4, d5, d6, d7, d8, d9, d10, d11, d12, d13, d14, d15, d16, d17, d18, d19, d20, d21, d22⟩ := D
  obtain ⟨sN, hsN, s1, s2, nb⟩ := own_sN P
  have hN : (W + 4) * (Hr + 4) ≤ 169 := Nat.mul_le_mul (show W + 4 ≤ 13 by omega) (show Hr + 4 ≤ 13 by omega)
  obtain ⟨q, hq⟩ : ∃ q, own_cell W (cq P) (own_e cq P (cq P)) = q := ⟨_, rfl⟩
  obtain ⟨l1, l2, l3, l4, l5, l6, l7, l8, l9⟩ := own_lines hW hab rfl rfl hrH hq
  have ef : own_f W cq (P + 1) = updf (own_f W cq P) q (own_sd P) := by rw [← hq]; rfl
  have w1 : own_f W cq (P + 1) (q - 1 * (W + 4)) = own_sd P := by
    have z := own_wdown (q := q) (i := 1) hA hB hne hk (by omega) (by rw [← hcw, ← hke]; exact hq)
    rw [← hcw] at z; exact z
  have w2 : own_f W cq (P + 1) (q - 2 * (W + 4)) = own_sd P := by
    have z := own_wdown (q := q) (i := 2) hA hB hne hk (by omega) (by rw [← hcw, ← hke]; exact hq)
    rw [← hcw] at z; exact z
  have w3 : own_f W cq (P + 1) (q - 3 * (W + 4)) = own_sd P := by
    have z := own_wdown (q := q) (i := 3) hA hB hne hk (by omega) (by rw [← hcw, ← hke]; exact hq)
    rw [← hcw] at z; exact z
  obtain ⟨wz, wb⟩ : ¬ own_f W cq (P + 1) (q - 4 * (W + 4)) = own_sd P ∧ 4 * (W + 4) ≤ q := by
    have z := own_wbase (P := P) (q := q) (k := 3) hA hB (by rw [← hcw, ← hke]; exact hq)
    rw [← hcw] at z; exact z
  rw [ef] at l3 l4 l5 l6 l7 l8 l9 w1 w2 w3 wz
  refine Ct.mono (rmPl3 H g sq hs pl zb la cf ((W + 4) * (Hr + 4)) W Hr (cq P) (own_e cq P (cq P)) q P sN (own_f W cq P) (fun c => Int32.ofNat (own_e cq P c)) pf zf (own_sd P) u h0 Z0 hq (hW P) hW9 hrH hH9 rfl hP (by omega) rfl hsN s1 s2 nb (by omega) l1 l2 l3 l4 l5 l6 l7 l8 l9 w1 w2 w3 wz wb E F0 F1 F2 F3 F4 F5 F6 F7 F8 F9 F10 F11 AS AH AP AZ AL d0 d1 d2 d3 d4 d5 d6 d7 d8 d9 d10 d11 d12 d13 d14 d19 d20 d21 d22) ?_
  rintro v h ⟨u2, hv, K, E2, D0, D1, D2, D3, D4, D5, D6, D7, D8, D9, D10, D11, BS, BH, BP, BZ, BL⟩
  exact ⟨hv, K, u2, _, E2, D0, D1, D2, D3, D4, D5, D6, D7, D8, D9, D10, D11, (by rw [ef]; exact BS), (by rw [← own_e_upd cq P]; exact BH), BP, BZ, BL, AC.keep K (ninS d15 (ninS d16 (ninS d17 (ninS d18 nin0))))⟩
theorem d0_0 : Dc code 0 (.iconst 4) 1 1 := ⟨at_0, rfl⟩
theorem d0_1 : Dc code 1 (.iload_n 0) 1 2 := ⟨at_1, rfl⟩
theorem d0_2 : Dc code 2 (.ldc 7) 2 4 := ⟨at_2, rfl⟩
theorem w_0 {a0 : Array Value} {Z : State} (H : Wd a0 Z) : (Jvm.Cond.constant "com/example/plywright/plywright/games/ConnectFourMovesPinLaw" (7 : Nat) (2147483647 : Int32)).before a0 Z = true := H _ (List.mem_of_getElem? (i := 0) rfl)
theorem d0_4 : Dc code 4 (.iand) 1 5 := ⟨at_4, rfl⟩
theorem d0_5 : Dc code 5 (.bipush 6) 2 7 := ⟨at_5, rfl⟩
theorem d0_7 : Dc code 7 (.irem) 1 8 := ⟨at_7, rfl⟩
theorem d0_8 : Dc code 8 (.iadd) 1 9 := ⟨at_8, rfl⟩
theorem d0_9 : Dc code 9 (.istore 6) 2 11 := ⟨at_9, rfl⟩
theorem d0_11 : Dc code 11 (.iconst 4) 1 12 := ⟨at_11, rfl⟩
theorem d0_12 : Dc code 12 (.iload_n 1) 1 13 := ⟨at_12, rfl⟩
theorem d0_13 : Dc code 13 (.ldc 7) 2 15 := ⟨at_13, rfl⟩
theorem d0_15 : Dc code 15 (.iand) 1 16 := ⟨at_15, rfl⟩
theorem d0_16 : Dc code 16 (.bipush 6) 2 18 := ⟨at_16, rfl⟩
theorem d0_18 : Dc code 18 (.irem) 1 19 := ⟨at_18, rfl⟩
theorem d0_19 : Dc code 19 (.iadd) 1 20 := ⟨at_19, rfl⟩
theorem d0_20 : Dc code 20 (.istore 7) 2 22 := ⟨at_20, rfl⟩
theorem d0_22 : Dc code 22 (.iload_n 2) 1 23 := ⟨at_22, rfl⟩
theorem d0_23 : Dc code 23 (.ldc 7) 2 25 := ⟨at_23, rfl⟩
theorem d0_25 : Dc code 25 (.iand) 1 26 := ⟨at_25, rfl⟩
theorem d0_26 : Dc code 26 (.iload 6) 2 28 := ⟨at_26, rfl⟩
theorem d0_28 : Dc code 28 (.irem) 1 29 := ⟨at_28, rfl⟩
theorem d0_29 : Dc code 29 (.istore 8) 2 31 := ⟨at_29, rfl⟩
theorem d0_31 : Dc code 31 (.iload 5) 2 33 := ⟨at_31, rfl⟩
theorem d0_33 : Dc code 33 (.iconst 1) 1 34 := ⟨at_33, rfl⟩
theorem d0_34 : Dc code 34 (.iand) 1 35 := ⟨at_34, rfl⟩
theorem d0_35 : Db code 35 (.ifCond .eq 7) 7 38 42 := ⟨at_35, rfl, rfl⟩
theorem d0_42 : Dc code 42 (.iconst 0) 1 43 := ⟨at_42, rfl⟩
theorem d0_43 : Dc code 43 (.istore 9) 2 45 := ⟨at_43, rfl⟩
theorem d0_45 : Dc code 45 (.bipush 8) 2 47 := ⟨at_45, rfl⟩
theorem d0_47 : Dc code 47 (.newarray .int) 2 49 := ⟨at_47, rfl⟩
theorem d0_49 : Dc code 49 (.astore 14) 2 51 := ⟨at_49, rfl⟩
theorem d0_51 : Dc code 51 (.iload 9) 2 53 := ⟨at_51, rfl⟩
theorem d0_53 : Db code 53 (.ifCond .eq 85) 85 56 138 := ⟨at_53, rfl, rfl⟩
theorem d0_138 : Dc code 138 (.iload_n 3) 1 139 := ⟨at_138, rfl⟩
theorem d0_139 : Dc code 139 (.ldc 7) 2 141 := ⟨at_139, rfl⟩
theorem d0_141 : Dc code 141 (.iand) 1 142 := ⟨at_141, rfl⟩
theorem d0_142 : Dc code 142 (.iload 6) 2 144 := ⟨at_142, rfl⟩
theorem d0_144 : Dc code 144 (.irem) 1 145 := ⟨at_144, rfl⟩
theorem d0_145 : Dc code 145 (.istore 10) 2 147 := ⟨at_145, rfl⟩
theorem d0_147 : Dc code 147 (.iload 4) 2 149 := ⟨at_147, rfl⟩
theorem d0_149 : Dc code 149 (.ldc 7) 2 151 := ⟨at_149, rfl⟩
theorem d0_151 : Dc code 151 (.iand) 1 152 := ⟨at_151, rfl⟩
theorem d0_152 : Dc code 152 (.iconst 5) 1 153 := ⟨at_152, rfl⟩
theorem d0_153 : Dc code 153 (.irem) 1 154 := ⟨at_153, rfl⟩
theorem d0_154 : Dc code 154 (.istore 11) 2 156 := ⟨at_154, rfl⟩
theorem d0_156 : Dc code 156 (.iload 4) 2 158 := ⟨at_156, rfl⟩
theorem d0_158 : Dc code 158 (.bipush 8) 2 160 := ⟨at_158, rfl⟩
theorem d0_160 : Dc code 160 (.iushr) 1 161 := ⟨at_160, rfl⟩
theorem d0_161 : Dc code 161 (.ldc 7) 2 163 := ⟨at_161, rfl⟩
theorem d0_163 : Dc code 163 (.iand) 1 164 := ⟨at_163, rfl⟩
theorem d0_164 : Dc code 164 (.iconst 5) 1 165 := ⟨at_164, rfl⟩
theorem d0_165 : Dc code 165 (.irem) 1 166 := ⟨at_165, rfl⟩
theorem d0_166 : Dc code 166 (.istore 12) 2 168 := ⟨at_166, rfl⟩
theorem d0_168 : Dc code 168 (.iload 8) 2 170 := ⟨at_168, rfl⟩
theorem d0_170 : Dc code 170 (.iload 10) 2 172 := ⟨at_170, rfl⟩
theorem d0_172 : Db code 172 (.if_icmp .ne 15) 15 175 187 := ⟨at_172, rfl, rfl⟩
theorem d0_187 : Dc code 187 (.iload 11) 2 189 := ⟨at_187, rfl⟩
theorem d0_189 : Dc code 189 (.iload 12) 2 191 := ⟨at_189, rfl⟩
theorem d0_191 : Dc code 191 (.iadd) 1 192 := ⟨at_191, rfl⟩
theorem d0_192 : Dc code 192 (.istore 13) 2 194 := ⟨at_192, rfl⟩
theorem d0_194 : Dc code 194 (.aload 14) 2 196 := ⟨at_194, rfl⟩
theorem d0_196 : Dc code 196 (.iconst 0) 1 197 := ⟨at_196, rfl⟩
theorem d0_197 : Dc code 197 (.iconst 0) 1 198 := ⟨at_197, rfl⟩
theorem d0_198 : Dc code 198 (.iload 11) 2 200 := ⟨at_198, rfl⟩
theorem d0_200 : Db code 200 (.if_icmp .ge 8) 8 203 208 := ⟨at_200, rfl, rfl⟩
theorem d0_210 : Dc code 210 (.iastore) 1 211 := ⟨at_210, rfl⟩
theorem d0_211 : Dc code 211 (.aload 14) 2 213 := ⟨at_211, rfl⟩
theorem d0_213 : Dc code 213 (.iconst 1) 1 214 := ⟨at_213, rfl⟩
theorem d0_214 : Dc code 214 (.iconst 1) 1 215 := ⟨at_214, rfl⟩
theorem d0_215 : Dc code 215 (.iload 11) 2 217 := ⟨at_215, rfl⟩
theorem d0_217 : Db code 217 (.if_icmp .ge 8) 8 220 225 := ⟨at_217, rfl, rfl⟩
theorem d0_227 : Dc code 227 (.iastore) 1 228 := ⟨at_227, rfl⟩
theorem d0_228 : Dc code 228 (.aload 14) 2 230 := ⟨at_228, rfl⟩
theorem d0_230 : Dc code 230 (.iconst 2) 1 231 := ⟨at_230, rfl⟩
theorem d0_231 : Dc code 231 (.iconst 2) 1 232 := ⟨at_231, rfl⟩
theorem d0_232 : Dc code 232 (.iload 11) 2 234 := ⟨at_232, rfl⟩
theorem d0_234 : Db code 234 (.if_icmp .ge 8) 8 237 242 := ⟨at_234, rfl, rfl⟩
theorem d0_244 : Dc code 244 (.iastore) 1 245 := ⟨at_244, rfl⟩
theorem d0_245 : Dc code 245 (.aload 14) 2 247 := ⟨at_245, rfl⟩
theorem d0_247 : Dc code 247 (.iconst 3) 1 248 := ⟨at_247, rfl⟩
theorem d0_248 : Dc code 248 (.iconst 3) 1 249 := ⟨at_248, rfl⟩
theorem d0_249 : Dc code 249 (.iload 11) 2 251 := ⟨at_249, rfl⟩
theorem d0_251 : Db code 251 (.if_icmp .ge 8) 8 254 259 := ⟨at_251, rfl, rfl⟩
theorem d0_261 : Dc code 261 (.iastore) 1 262 := ⟨at_261, rfl⟩
theorem d0_262 : Dc code 262 (.aload 14) 2 264 := ⟨at_262, rfl⟩
theorem d0_264 : Dc code 264 (.iconst 4) 1 265 := ⟨at_264, rfl⟩
theorem d0_265 : Dc code 265 (.iconst 4) 1 266 := ⟨at_265, rfl⟩
theorem d0_266 : Dc code 266 (.iload 11) 2 268 := ⟨at_266, rfl⟩
theorem d0_268 : Db code 268 (.if_icmp .ge 8) 8 271 276 := ⟨at_268, rfl, rfl⟩
theorem d0_278 : Dc code 278 (.iastore) 1 279 := ⟨at_278, rfl⟩
theorem d0_279 : Dc code 279 (.aload 14) 2 281 := ⟨at_279, rfl⟩
theorem d0_281 : Dc code 281 (.iconst 5) 1 282 := ⟨at_281, rfl⟩
theorem d0_282 : Dc code 282 (.iconst 5) 1 283 := ⟨at_282, rfl⟩
theorem d0_283 : Dc code 283 (.iload 11) 2 285 := ⟨at_283, rfl⟩
theorem d0_285 : Db code 285 (.if_icmp .ge 8) 8 288 293 := ⟨at_285, rfl, rfl⟩
theorem d0_295 : Dc code 295 (.iastore) 1 296 := ⟨at_295, rfl⟩
theorem d0_296 : Dc code 296 (.aload 14) 2 298 := ⟨at_296, rfl⟩
theorem d0_298 : Dc code 298 (.bipush 6) 2 300 := ⟨at_298, rfl⟩
theorem d0_300 : Dc code 300 (.bipush 6) 2 302 := ⟨at_300, rfl⟩
theorem d0_302 : Dc code 302 (.iload 11) 2 304 := ⟨at_302, rfl⟩
theorem d0_304 : Db code 304 (.if_icmp .ge 8) 8 307 312 := ⟨at_304, rfl, rfl⟩
theorem d0_314 : Dc code 314 (.iastore) 1 315 := ⟨at_314, rfl⟩
theorem d0_315 : Dc code 315 (.aload 14) 2 317 := ⟨at_315, rfl⟩
theorem d0_317 : Dc code 317 (.bipush 7) 2 319 := ⟨at_317, rfl⟩
theorem d0_319 : Dc code 319 (.bipush 7) 2 321 := ⟨at_319, rfl⟩
theorem d0_321 : Dc code 321 (.iload 11) 2 323 := ⟨at_321, rfl⟩
theorem d0_323 : Db code 323 (.if_icmp .ge 8) 8 326 331 := ⟨at_323, rfl, rfl⟩
theorem d0_333 : Dc code 333 (.iastore) 1 334 := ⟨at_333, rfl⟩
theorem d0_334 : Dc code 334 (.new 14) 3 337 := ⟨at_334, rfl⟩
theorem w_2 {a0 : Array Value} {Z : State} (H : Wd a0 Z) : (Jvm.Cond.classLink "com/example/plywright/plywright/games/ConnectFourMovesPinLaw" (14 : Nat) "com/example/plywright/plywright/games/ConnectFour").before a0 Z = true := H _ (List.mem_of_getElem? (i := 2) rfl)
theorem d0_337 : Dc code 337 (.dup) 1 338 := ⟨at_337, rfl⟩
theorem d0_338 : Dc code 338 (.iload 6) 2 340 := ⟨at_338, rfl⟩
theorem d0_340 : Dc code 340 (.iload 7) 2 342 := ⟨at_340, rfl⟩
theorem d0_342 : Dc code 342 (.invokespecial 16) 3 345 := ⟨at_342, rfl⟩
theorem w_7 {a0 : Array Value} {Z : State} (H : Wd a0 Z) : (Jvm.Cond.code ({ cls := "com/example/plywright/plywright/games/ConnectFour", name := "<init>", desc := "(II)V" } : Jvm.MethodName) prog_19_method_1_code (9 : Nat) (Option.none : Option Jvm.ClassFile.FieldType)).before a0 Z = true := H _ (List.mem_of_getElem? (i := 7) rfl)
theorem pd_8 : parseMethodDescriptor "(II)V" = some ⟨[.int, .int], none⟩ := by decide +kernel
theorem w_5 {a0 : Array Value} {Z : State} (H : Wd a0 Z) : (Jvm.Cond.methodLink "com/example/plywright/plywright/games/ConnectFourMovesPinLaw" (16 : Nat) ({ cls := "com/example/plywright/plywright/games/ConnectFour", name := "<init>", desc := "(II)V" } : Jvm.MethodName)).before a0 Z = true := H _ (List.mem_of_getElem? (i := 5) rfl)
theorem w_6 {a0 : Array Value} {Z : State} (H : Wd a0 Z) : (Jvm.Cond.instanceMethod ({ cls := "com/example/plywright/plywright/games/ConnectFour", name := "<init>", desc := "(II)V" } : Jvm.MethodName)).before a0 Z = true := H _ (List.mem_of_getElem? (i := 6) rfl)
theorem d0_345 : Dc code 345 (.astore 15) 2 347 := ⟨at_345, rfl⟩
theorem d0_347 : Dc code 347 (.iload 13) 2 349 := ⟨at_347, rfl⟩
theorem d0_349 : Db code 349 (.ifCond .le 12) 12 352 361 := ⟨at_349, rfl, rfl⟩
theorem d0_361 : Dc code 361 (.iload 13) 2 363 := ⟨at_361, rfl⟩
theorem d0_363 : Dc code 363 (.iconst 1) 1 364 := ⟨at_363, rfl⟩
theorem d0_364 : Db code 364 (.if_icmp .le 12) 12 367 376 := ⟨at_364, rfl, rfl⟩
theorem d0_376 : Dc code 376 (.iload 13) 2 378 := ⟨at_376, rfl⟩
theorem d0_378 : Dc code 378 (.iconst 2) 1 379 := ⟨at_378, rfl⟩
theorem d0_379 : Db code 379 (.if_icmp .le 12) 12 382 391 := ⟨at_379, rfl, rfl⟩
theorem d0_391 : Dc code 391 (.iload 13) 2 393 := ⟨at_391, rfl⟩
theorem d0_393 : Dc code 393 (.iconst 3) 1 394 := ⟨at_393, rfl⟩
theorem d0_394 : Db code 394 (.if_icmp .le 12) 12 397 406 := ⟨at_394, rfl, rfl⟩
theorem d0_406 : Dc code 406 (.iload 13) 2 408 := ⟨at_406, rfl⟩
theorem d0_408 : Dc code 408 (.iconst 4) 1 409 := ⟨at_408, rfl⟩
theorem d0_409 : Db code 409 (.if_icmp .le 12) 12 412 421 := ⟨at_409, rfl, rfl⟩
theorem d0_421 : Dc code 421 (.iload 13) 2 423 := ⟨at_421, rfl⟩
theorem d0_423 : Dc code 423 (.iconst 5) 1 424 := ⟨at_423, rfl⟩
theorem d0_424 : Db code 424 (.if_icmp .le 12) 12 427 436 := ⟨at_424, rfl, rfl⟩
theorem d0_436 : Dc code 436 (.iload 13) 2 438 := ⟨at_436, rfl⟩
theorem d0_438 : Dc code 438 (.bipush 6) 2 440 := ⟨at_438, rfl⟩
theorem d0_440 : Db code 440 (.if_icmp .le 13) 13 443 453 := ⟨at_440, rfl, rfl⟩
theorem d0_453 : Dc code 453 (.iload 13) 2 455 := ⟨at_453, rfl⟩
theorem d0_455 : Dc code 455 (.bipush 7) 2 457 := ⟨at_455, rfl⟩
theorem d0_457 : Db code 457 (.if_icmp .le 13) 13 460 470 := ⟨at_457, rfl, rfl⟩
theorem d0_470 : Dc code 470 (.aload 15) 2 472 := ⟨at_470, rfl⟩
theorem d0_472 : Dc code 472 (.invokevirtual 23) 3 475 := ⟨at_472, rfl⟩
theorem w_89 {a0 : Array Value} {Z : State} (H : Wd a0 Z) : (Jvm.Cond.code ({ cls := "com/example/plywright/plywright/games/ConnectFour", name := "moves", desc := "()[I" } : Jvm.MethodName) prog_19_method_11_code (8 : Nat) (Option.some (Jvm.ClassFile.FieldType.array Jvm.ClassFile.FieldType.int))).before a0 Z = true := H _ (List.mem_of_getElem? (i := 89) rfl)
theorem pd_9 : parseMethodDescriptor "()[I" = some ⟨[], some (.array .int)⟩ := by decide +kernel
theorem w_85 {a0 : Array Value} {Z : State} (H : Wd a0 Z) : (Jvm.Cond.methodLink "com/example/plywright/plywright/games/ConnectFourMovesPinLaw" (23 : Nat) ({ cls := "com/example/plywright/plywright/games/ConnectFour", name := "moves", desc := "()[I" } : Jvm.MethodName)).before a0 Z = true := H _ (List.mem_of_getElem? (i := 85) rfl)
theorem w_86 {a0 : Array Value} {Z : State} (H : Wd a0 Z) : (Jvm.Cond.declares ({ cls := "com/example/plywright/plywright/games/ConnectFour", name := "moves", desc := "()[I" } : Jvm.MethodName)).before a0 Z = true := H _ (List.mem_of_getElem? (i := 86) rfl)
theorem w_88 {a0 : Array Value} {Z : State} (H : Wd a0 Z) : (Jvm.Cond.selects "com/example/plywright/plywright/games/ConnectFour" ({ cls := "com/example/plywright/plywright/games/ConnectFour", name := "moves", desc := "()[I" } : Jvm.MethodName) ({ cls := "com/example/plywright/plywright/games/ConnectFour", name := "moves", desc := "()[I" } : Jvm.MethodName)).before a0 Z = true := H _ (List.mem_of_getElem? (i := 88) rfl)
theorem w_87 {a0 : Array Value} {Z : State} (H : Wd a0 Z) : (Jvm.Cond.instanceMethod ({ cls := "com/example/plywright/plywright/games/ConnectFour", name := "moves", desc := "()[I" } : Jvm.MethodName)).before a0 Z = true := H _ (List.mem_of_getElem? (i := 87) rfl)
theorem d0_475 : Dc code 475 (.astore 16) 2 477 := ⟨at_475, rfl⟩
theorem d0_477 : Dc code 477 (.iload 9) 2 479 := ⟨at_477, rfl⟩
theorem d0_479 : Db code 479 (.ifCond .eq 15) 15 482 494 := ⟨at_479, rfl, rfl⟩
theorem d0_494 : Dc code 494 (.iload 8) 2 496 := ⟨at_494, rfl⟩
theorem d0_496 : Dc code 496 (.iload 10) 2 498 := ⟨at_496, rfl⟩
theorem d0_498 : Db code 498 (.if_icmp .ne 11) 11 501 509 := ⟨at_498, rfl, rfl⟩
theorem d0_590 : Dc code 590 (.aload 16) 2 592 := ⟨at_590, rfl⟩
theorem d0_592 : Dc code 592 (.arraylength) 1 593 := ⟨at_592, rfl⟩
theorem d0_593 : Dc code 593 (.iload 6) 2 595 := ⟨at_593, rfl⟩
theorem d0_595 : Dc code 595 (.iload 21) 2 597 := ⟨at_595, rfl⟩
theorem d0_597 : Dc code 597 (.isub) 1 598 := ⟨at_597, rfl⟩
theorem d0_598 : Db code 598 (.if_icmp .eq 5) 5 601 603 := ⟨at_598, rfl, rfl⟩
theorem d0_603 : Dc code 603 (.aload 16) 2 605 := ⟨at_603, rfl⟩
theorem d0_605 : Dc code 605 (.iconst 0) 1 606 := ⟨at_605, rfl⟩
theorem d0_606 : Dc code 606 (.iload 6) 2 608 := ⟨at_606, rfl⟩
theorem d0_608 : Dc code 608 (.iload 8) 2 610 := ⟨at_608, rfl⟩
theorem d0_610 : Dc code 610 (.iload 10) 2 612 := ⟨at_610, rfl⟩
theorem d0_612 : Dc code 612 (.iload 19) 2 614 := ⟨at_612, rfl⟩
theorem d0_614 : Dc code 614 (.iload 20) 2 616 := ⟨at_614, rfl⟩
theorem d0_616 : Dc code 616 (.invokestatic 27) 3 619 := ⟨at_616, rfl⟩
theorem w_97 {a0 : Array Value} {Z : State} (H : Wd a0 Z) : (Jvm.Cond.code ({ cls := "com/example/plywright/plywright/games/ConnectFourMovesPinLaw", name := "ok", desc := "([IIIIIZZ)Z" } : Jvm.MethodName) method_3_code (8 : Nat) (Option.some Jvm.ClassFile.FieldType.boolean)).before a0 Z = true := H _ (List.mem_of_getElem? (i := 97) rfl)
theorem pd_10 : parseMethodDescriptor "([IIIIIZZ)Z" = some ⟨[(.array .int), .int, .int, .int, .int, .boolean, .boolean], some .boolean⟩ := by decide +kernel
theorem w_94 {a0 : Array Value} {Z : State} (H : Wd a0 Z) : (Jvm.Cond.methodLink "com/example/plywright/plywright/games/ConnectFourMovesPinLaw" (27 : Nat) ({ cls := "com/example/plywright/plywright/games/ConnectFourMovesPinLaw", name := "ok", desc := "([IIIIIZZ)Z" } : Jvm.MethodName)).before a0 Z = true := H _ (List.mem_of_getElem? (i := 94) rfl)
theorem w_95 {a0 : Array Value} {Z : State} (H : Wd a0 Z) : (Jvm.Cond.static ({ cls := "com/example/plywright/plywright/games/ConnectFourMovesPinLaw", name := "ok", desc := "([IIIIIZZ)Z" } : Jvm.MethodName)).before a0 Z = true := H _ (List.mem_of_getElem? (i := 95) rfl)
theorem d0_619 : Db code 619 (.ifCond .eq 162) 162 622 781 := ⟨at_619, rfl, rfl⟩
theorem d0_622 : Dc code 622 (.aload 16) 2 624 := ⟨at_622, rfl⟩
theorem d0_624 : Dc code 624 (.iconst 1) 1 625 := ⟨at_624, rfl⟩
theorem d0_625 : Dc code 625 (.iload 6) 2 627 := ⟨at_625, rfl⟩
theorem d0_627 : Dc code 627 (.iload 8) 2 629 := ⟨at_627, rfl⟩
theorem d0_629 : Dc code 629 (.iload 10) 2 631 := ⟨at_629, rfl⟩
theorem d0_631 : Dc code 631 (.iload 19) 2 633 := ⟨at_631, rfl⟩
theorem d0_633 : Dc code 633 (.iload 20) 2 635 := ⟨at_633, rfl⟩
theorem d0_635 : Dc code 635 (.invokestatic 27) 3 638 := ⟨at_635, rfl⟩
theorem d0_638 : Db code 638 (.ifCond .eq 143) 143 641 781 := ⟨at_638, rfl, rfl⟩
theorem d0_641 : Dc code 641 (.aload 16) 2 643 := ⟨at_641, rfl⟩
theorem d0_643 : Dc code 643 (.iconst 2) 1 644 := ⟨at_643, rfl⟩
theorem d0_644 : Dc code 644 (.iload 6) 2 646 := ⟨at_644, rfl⟩
theorem d0_646 : Dc code 646 (.iload 8) 2 648 := ⟨at_646, rfl⟩
theorem d0_648 : Dc code 648 (.iload 10) 2 650 := ⟨at_648, rfl⟩
theorem d0_650 : Dc code 650 (.iload 19) 2 652 := ⟨at_650, rfl⟩
theorem d0_652 : Dc code 652 (.iload 20) 2 654 := ⟨at_652, rfl⟩
theorem d0_654 : Dc code 654 (.invokestatic 27) 3 657 := ⟨at_654, rfl⟩
theorem d0_657 : Db code 657 (.ifCond .eq 124) 124 660 781 := ⟨at_657, rfl, rfl⟩
theorem d0_660 : Dc code 660 (.aload 16) 2 662 := ⟨at_660, rfl⟩
theorem d0_662 : Dc code 662 (.iconst 3) 1 663 := ⟨at_662, rfl⟩
theorem d0_663 : Dc code 663 (.iload 6) 2 665 := ⟨at_663, rfl⟩
theorem d0_665 : Dc code 665 (.iload 8) 2 667 := ⟨at_665, rfl⟩
theorem d0_667 : Dc code 667 (.iload 10) 2 669 := ⟨at_667, rfl⟩
theorem d0_669 : Dc code 669 (.iload 19) 2 671 := ⟨at_669, rfl⟩
theorem d0_671 : Dc code 671 (.iload 20) 2 673 := ⟨at_671, rfl⟩
theorem d0_673 : Dc code 673 (.invokestatic 27) 3 676 := ⟨at_673, rfl⟩
theorem d0_676 : Db code 676 (.ifCond .eq 105) 105 679 781 := ⟨at_676, rfl, rfl⟩
theorem d0_679 : Dc code 679 (.aload 16) 2 681 := ⟨at_679, rfl⟩
theorem d0_681 : Dc code 681 (.iconst 4) 1 682 := ⟨at_681, rfl⟩
theorem d0_682 : Dc code 682 (.iload 6) 2 684 := ⟨at_682, rfl⟩
theorem d0_684 : Dc code 684 (.iload 8) 2 686 := ⟨at_684, rfl⟩
theorem d0_686 : Dc code 686 (.iload 10) 2 688 := ⟨at_686, rfl⟩
theorem d0_688 : Dc code 688 (.iload 19) 2 690 := ⟨at_688, rfl⟩
theorem d0_690 : Dc code 690 (.iload 20) 2 692 := ⟨at_690, rfl⟩
theorem d0_692 : Dc code 692 (.invokestatic 27) 3 695 := ⟨at_692, rfl⟩
theorem d0_695 : Db code 695 (.ifCond .eq 86) 86 698 781 := ⟨at_695, rfl, rfl⟩
theorem d0_698 : Dc code 698 (.aload 16) 2 700 := ⟨at_698, rfl⟩
theorem d0_700 : Dc code 700 (.iconst 5) 1 701 := ⟨at_700, rfl⟩
theorem d0_701 : Dc code 701 (.iload 6) 2 703 := ⟨at_701, rfl⟩
theorem d0_703 : Dc code 703 (.iload 8) 2 705 := ⟨at_703, rfl⟩
theorem d0_705 : Dc code 705 (.iload 10) 2 707 := ⟨at_705, rfl⟩
theorem d0_707 : Dc code 707 (.iload 19) 2 709 := ⟨at_707, rfl⟩
theorem d0_709 : Dc code 709 (.iload 20) 2 711 := ⟨at_709, rfl⟩
theorem d0_711 : Dc code 711 (.invokestatic 27) 3 714 := ⟨at_711, rfl⟩
theorem d0_714 : Db code 714 (.ifCond .eq 67) 67 717 781 := ⟨at_714, rfl, rfl⟩
theorem d0_717 : Dc code 717 (.aload 16) 2 719 := ⟨at_717, rfl⟩
theorem d0_719 : Dc code 719 (.bipush 6) 2 721 := ⟨at_719, rfl⟩
theorem d0_721 : Dc code 721 (.iload 6) 2 723 := ⟨at_721, rfl⟩
theorem d0_723 : Dc code 723 (.iload 8) 2 725 := ⟨at_723, rfl⟩
theorem d0_725 : Dc code 725 (.iload 10) 2 727 := ⟨at_725, rfl⟩
theorem d0_727 : Dc code 727 (.iload 19) 2 729 := ⟨at_727, rfl⟩
theorem d0_729 : Dc code 729 (.iload 20) 2 731 := ⟨at_729, rfl⟩
theorem d0_731 : Dc code 731 (.invokestatic 27) 3 734 := ⟨at_731, rfl⟩
theorem d0_734 : Db code 734 (.ifCond .eq 47) 47 737 781 := ⟨at_734, rfl, rfl⟩
theorem d0_737 : Dc code 737 (.aload 16) 2 739 := ⟨at_737, rfl⟩
theorem d0_739 : Dc code 739 (.bipush 7) 2 741 := ⟨at_739, rfl⟩
theorem d0_741 : Dc code 741 (.iload 6) 2 743 := ⟨at_741, rfl⟩
theorem d0_743 : Dc code 743 (.iload 8) 2 745 := ⟨at_743, rfl⟩
theorem d0_745 : Dc code 745 (.iload 10) 2 747 := ⟨at_745, rfl⟩
theorem d0_747 : Dc code 747 (.iload 19) 2 749 := ⟨at_747, rfl⟩
theorem d0_749 : Dc code 749 (.iload 20) 2 751 := ⟨at_749, rfl⟩
theorem d0_751 : Dc code 751 (.invokestatic 27) 3 754 := ⟨at_751, rfl⟩
theorem d0_754 : Db code 754 (.ifCond .eq 27) 27 757 781 := ⟨at_754, rfl, rfl⟩
theorem d0_757 : Dc code 757 (.aload 16) 2 759 := ⟨at_757, rfl⟩
theorem d0_759 : Dc code 759 (.bipush 8) 2 761 := ⟨at_759, rfl⟩
theorem d0_761 : Dc code 761 (.iload 6) 2 763 := ⟨at_761, rfl⟩
theorem d0_763 : Dc code 763 (.iload 8) 2 765 := ⟨at_763, rfl⟩
theorem d0_765 : Dc code 765 (.iload 10) 2 767 := ⟨at_765, rfl⟩
theorem d0_767 : Dc code 767 (.iload 19) 2 769 := ⟨at_767, rfl⟩
theorem d0_769 : Dc code 769 (.iload 20) 2 771 := ⟨at_769, rfl⟩
theorem d0_771 : Dc code 771 (.invokestatic 27) 3 774 := ⟨at_771, rfl⟩
theorem d0_774 : Db code 774 (.ifCond .eq 7) 7 777 781 := ⟨at_774, rfl, rfl⟩
theorem d0_777 : Dc code 777 (.iconst 1) 1 778 := ⟨at_777, rfl⟩
theorem d0_778 : Db code 778 (.goto 4) 4 781 782 := ⟨at_778, rfl, rfl⟩
theorem d0_782 : Dc code 782 (.ireturn) 1 783 := ⟨at_782, rfl⟩
theorem d0_509 : Dc code 509 (.iload 11) 2 511 := ⟨at_509, rfl⟩
theorem d0_511 : Dc code 511 (.istore 17) 2 513 := ⟨at_511, rfl⟩
theorem d0_513 : Dc code 513 (.iload 8) 2 515 := ⟨at_513, rfl⟩
theorem d0_515 : Dc code 515 (.iload 10) 2 517 := ⟨at_515, rfl⟩
theorem d0_517 : Db code 517 (.if_icmp .ne 11) 11 520 528 := ⟨at_517, rfl, rfl⟩
theorem d0_528 : Dc code 528 (.iload 12) 2 530 := ⟨at_528, rfl⟩
theorem d0_530 : Dc code 530 (.istore 18) 2 532 := ⟨at_530, rfl⟩
theorem d0_532 : Dc code 532 (.iload 17) 2 534 := ⟨at_532, rfl⟩
theorem d0_534 : Dc code 534 (.iload 7) 2 536 := ⟨at_534, rfl⟩
theorem d0_536 : Db code 536 (.if_icmp .ne 7) 7 539 543 := ⟨at_536, rfl, rfl⟩
theorem d0_543 : Dc code 543 (.iconst 0) 1 544 := ⟨at_543, rfl⟩
theorem d0_544 : Dc code 544 (.istore 19) 2 546 := ⟨at_544, rfl⟩
theorem d0_546 : Dc code 546 (.iload 18) 2 548 := ⟨at_546, rfl⟩
theorem d0_548 : Dc code 548 (.iload 7) 2 550 := ⟨at_548, rfl⟩
theorem d0_550 : Db code 550 (.if_icmp .ne 7) 7 553 557 := ⟨at_550, rfl, rfl⟩
theorem d0_557 : Dc code 557 (.iconst 0) 1 558 := ⟨at_557, rfl⟩
theorem d0_558 : Dc code 558 (.istore 20) 2 560 := ⟨at_558, rfl⟩
theorem d0_560 : Dc code 560 (.iload 19) 2 562 := ⟨at_560, rfl⟩
theorem d0_562 : Db code 562 (.ifCond .eq 7) 7 565 569 := ⟨at_562, rfl, rfl⟩
theorem d0_569 : Dc code 569 (.iconst 0) 1 570 := ⟨at_569, rfl⟩
theorem d0_570 : Dc code 570 (.iload 20) 2 572 := ⟨at_570, rfl⟩
theorem d0_572 : Db code 572 (.ifCond .eq 14) 14 575 586 := ⟨at_572, rfl, rfl⟩
theorem d0_586 : Dc code 586 (.iconst 0) 1 587 := ⟨at_586, rfl⟩
theorem d0_587 : Dc code 587 (.iadd) 1 588 := ⟨at_587, rfl⟩
theorem d0_588 : Dc code 588 (.istore 21) 2 590 := ⟨at_588, rfl⟩
theorem d0_553 : Dc code 553 (.iconst 1) 1 554 := ⟨at_553, rfl⟩
theorem d0_554 : Db code 554 (.goto 4) 4 557 558 := ⟨at_554, rfl, rfl⟩
theorem d0_575 : Dc code 575 (.iload 10) 2 577 := ⟨at_575, rfl⟩
theorem d0_577 : Dc code 577 (.iload 8) 2 579 := ⟨at_577, rfl⟩
theorem d0_579 : Db code 579 (.if_icmp .eq 7) 7 582 586 := ⟨at_579, rfl, rfl⟩
theorem d0_582 : Dc code 582 (.iconst 1) 1 583 := ⟨at_582, rfl⟩
theorem d0_583 : Db code 583 (.goto 4) 4 586 587 := ⟨at_583, rfl, rfl⟩
theorem d0_539 : Dc code 539 (.iconst 1) 1 540 := ⟨at_539, rfl⟩
theorem d0_540 : Db code 540 (.goto 4) 4 543 544 := ⟨at_540, rfl, rfl⟩
theorem d0_565 : Dc code 565 (.iconst 1) 1 566 := ⟨at_565, rfl⟩
theorem d0_566 : Db code 566 (.goto 4) 4 569 570 := ⟨at_566, rfl, rfl⟩
theorem d0_501 : Dc code 501 (.iload 11) 2 503 := ⟨at_501, rfl⟩
theorem d0_503 : Dc code 503 (.iload 12) 2 505 := ⟨at_503, rfl⟩
theorem d0_505 : Dc code 505 (.iadd) 1 506 := ⟨at_505, rfl⟩
theorem d0_506 : Db code 506 (.goto 5) 5 509 511 := ⟨at_506, rfl, rfl⟩
theorem d0_520 : Dc code 520 (.iload 11) 2 522 := ⟨at_520, rfl⟩
theorem d0_522 : Dc code 522 (.iload 12) 2 524 := ⟨at_522, rfl⟩
theorem d0_524 : Dc code 524 (.iadd) 1 525 := ⟨at_524, rfl⟩
theorem d0_525 : Db code 525 (.goto 5) 5 528 530 := ⟨at_525, rfl, rfl⟩
theorem d0_460 : Dc code 460 (.aload 15) 2 462 := ⟨at_460, rfl⟩
theorem d0_462 : Dc code 462 (.aload 14) 2 464 := ⟨at_462, rfl⟩
theorem d0_464 : Dc code 464 (.bipush 7) 2 466 := ⟨at_464, rfl⟩
theorem d0_466 : Dc code 466 (.iaload) 1 467 := ⟨at_466, rfl⟩
theorem d0_467 : Dc code 467 (.invokevirtual 19) 3 470 := ⟨at_467, rfl⟩
theorem w_62 {a0 : Array Value} {Z : State} (H : Wd a0 Z) : (Jvm.Cond.code ({ cls := "com/example/plywright/plywright/games/ConnectFour", name := "play", desc := "(I)V" } : Jvm.MethodName) prog_19_method_12_code (4 : Nat) (Option.none : Option Jvm.ClassFile.FieldType)).before a0 Z = true := H _ (List.mem_of_getElem? (i := 62) rfl)
theorem pd_11 : parseMethodDescriptor "(I)V" = some ⟨[.int], none⟩ := by decide +kernel
theorem w_58 {a0 : Array Value} {Z : State} (H : Wd a0 Z) : (Jvm.Cond.methodLink "com/example/plywright/plywright/games/ConnectFourMovesPinLaw" (19 : Nat) ({ cls := "com/example/plywright/plywright/games/ConnectFour", name := "play", desc := "(I)V" } : Jvm.MethodName)).before a0 Z = true := H _ (List.mem_of_getElem? (i := 58) rfl)
theorem w_59 {a0 : Array Value} {Z : State} (H : Wd a0 Z) : (Jvm.Cond.declares ({ cls := "com/example/plywright/plywright/games/ConnectFour", name := "play", desc := "(I)V" } : Jvm.MethodName)).before a0 Z = true := H _ (List.mem_of_getElem? (i := 59) rfl)
theorem w_60 {a0 : Array Value} {Z : State} (H : Wd a0 Z) : (Jvm.Cond.instanceMethod ({ cls := "com/example/plywright/plywright/games/ConnectFour", name := "play", desc := "(I)V" } : Jvm.MethodName)).before a0 Z = true := H _ (List.mem_of_getElem? (i := 60) rfl)
theorem d0_443 : Dc code 443 (.aload 15) 2 445 := ⟨at_443, rfl⟩
theorem d0_445 : Dc code 445 (.aload 14) 2 447 := ⟨at_445, rfl⟩
theorem d0_447 : Dc code 447 (.bipush 6) 2 449 := ⟨at_447, rfl⟩
theorem d0_449 : Dc code 449 (.iaload) 1 450 := ⟨at_449, rfl⟩
theorem d0_450 : Dc code 450 (.invokevirtual 19) 3 453 := ⟨at_450, rfl⟩
theorem d0_427 : Dc code 427 (.aload 15) 2 429 := ⟨at_427, rfl⟩
theorem d0_429 : Dc code 429 (.aload 14) 2 431 := ⟨at_429, rfl⟩
theorem d0_431 : Dc code 431 (.iconst 5) 1 432 := ⟨at_431, rfl⟩
theorem d0_432 : Dc code 432 (.iaload) 1 433 := ⟨at_432, rfl⟩
theorem d0_433 : Dc code 433 (.invokevirtual 19) 3 436 := ⟨at_433, rfl⟩
theorem d0_412 : Dc code 412 (.aload 15) 2 414 := ⟨at_412, rfl⟩
theorem d0_414 : Dc code 414 (.aload 14) 2 416 := ⟨at_414, rfl⟩
theorem d0_416 : Dc code 416 (.iconst 4) 1 417 := ⟨at_416, rfl⟩
theorem d0_417 : Dc code 417 (.iaload) 1 418 := ⟨at_417, rfl⟩
theorem d0_418 : Dc code 418 (.invokevirtual 19) 3 421 := ⟨at_418, rfl⟩
theorem d0_397 : Dc code 397 (.aload 15) 2 399 := ⟨at_397, rfl⟩
theorem d0_399 : Dc code 399 (.aload 14) 2 401 := ⟨at_399, rfl⟩
theorem d0_401 : Dc code 401 (.iconst 3) 1 402 := ⟨at_401, rfl⟩
theorem d0_402 : Dc code 402 (.iaload) 1 403 := ⟨at_402, rfl⟩
theorem d0_403 : Dc code 403 (.invokevirtual 19) 3 406 := ⟨at_403, rfl⟩
theorem d0_382 : Dc code 382 (.aload 15) 2 384 := ⟨at_382, rfl⟩
theorem d0_384 : Dc code 384 (.aload 14) 2 386 := ⟨at_384, rfl⟩
theorem d0_386 : Dc code 386 (.iconst 2) 1 387 := ⟨at_386, rfl⟩
theorem d0_387 : Dc code 387 (.iaload) 1 388 := ⟨at_387, rfl⟩
theorem d0_388 : Dc code 388 (.invokevirtual 19) 3 391 := ⟨at_388, rfl⟩
theorem d0_367 : Dc code 367 (.aload 15) 2 369 := ⟨at_367, rfl⟩
theorem d0_369 : Dc code 369 (.aload 14) 2 371 := ⟨at_369, rfl⟩
theorem d0_371 : Dc code 371 (.iconst 1) 1 372 := ⟨at_371, rfl⟩
theorem d0_372 : Dc code 372 (.iaload) 1 373 := ⟨at_372, rfl⟩
theorem d0_373 : Dc code 373 (.invokevirtual 19) 3 376 := ⟨at_373, rfl⟩
theorem d0_352 : Dc code 352 (.aload 15) 2 354 := ⟨at_352, rfl⟩
theorem d0_354 : Dc code 354 (.aload 14) 2 356 := ⟨at_354, rfl⟩
theorem d0_356 : Dc code 356 (.iconst 0) 1 357 := ⟨at_356, rfl⟩
theorem d0_357 : Dc code 357 (.iaload) 1 358 := ⟨at_357, rfl⟩
theorem d0_358 : Dc code 358 (.invokevirtual 19) 3 361 := ⟨at_358, rfl⟩
theorem d0_331 : Dc code 331 (.iload 10) 2 333 := ⟨at_331, rfl⟩
theorem d0_326 : Dc code 326 (.iload 8) 2 328 := ⟨at_326, rfl⟩
theorem d0_328 : Db code 328 (.goto 5) 5 331 333 := ⟨at_328, rfl, rfl⟩
theorem d0_312 : Dc code 312 (.iload 10) 2 314 := ⟨at_312, rfl⟩
theorem d0_307 : Dc code 307 (.iload 8) 2 309 := ⟨at_307, rfl⟩
theorem d0_309 : Db code 309 (.goto 5) 5 312 314 := ⟨at_309, rfl, rfl⟩
theorem d0_293 : Dc code 293 (.iload 10) 2 295 := ⟨at_293, rfl⟩
theorem d0_288 : Dc code 288 (.iload 8) 2 290 := ⟨at_288, rfl⟩
theorem d0_290 : Db code 290 (.goto 5) 5 293 295 := ⟨at_290, rfl, rfl⟩
theorem d0_276 : Dc code 276 (.iload 10) 2 278 := ⟨at_276, rfl⟩
theorem d0_271 : Dc code 271 (.iload 8) 2 273 := ⟨at_271, rfl⟩
theorem d0_273 : Db code 273 (.goto 5) 5 276 278 := ⟨at_273, rfl, rfl⟩
theorem d0_259 : Dc code 259 (.iload 10) 2 261 := ⟨at_259, rfl⟩
theorem d0_254 : Dc code 254 (.iload 8) 2 256 := ⟨at_254, rfl⟩
theorem d0_256 : Db code 256 (.goto 5) 5 259 261 := ⟨at_256, rfl, rfl⟩
theorem d0_242 : Dc code 242 (.iload 10) 2 244 := ⟨at_242, rfl⟩
theorem d0_237 : Dc code 237 (.iload 8) 2 239 := ⟨at_237, rfl⟩
theorem d0_239 : Db code 239 (.goto 5) 5 242 244 := ⟨at_239, rfl, rfl⟩
theorem d0_225 : Dc code 225 (.iload 10) 2 227 := ⟨at_225, rfl⟩
theorem d0_220 : Dc code 220 (.iload 8) 2 222 := ⟨at_220, rfl⟩
theorem d0_222 : Db code 222 (.goto 5) 5 225 227 := ⟨at_222, rfl, rfl⟩
theorem d0_208 : Dc code 208 (.iload 10) 2 210 := ⟨at_208, rfl⟩
theorem d0_203 : Dc code 203 (.iload 8) 2 205 := ⟨at_203, rfl⟩
theorem d0_205 : Db code 205 (.goto 5) 5 208 210 := ⟨at_205, rfl, rfl⟩
theorem d0_175 : Dc code 175 (.iload 12) 2 177 := ⟨at_175, rfl⟩
theorem d0_177 : Dc code 177 (.iload 7) 2 179 := ⟨at_177, rfl⟩
theorem d0_179 : Dc code 179 (.iload 11) 2 181 := ⟨at_179, rfl⟩
theorem d0_181 : Dc code 181 (.isub) 1 182 := ⟨at_181, rfl⟩
theorem d0_182 : Dc code 182 (.invokestatic 8) 3 185 := ⟨at_182, rfl⟩
theorem w_93 {a0 : Array Value} {Z : State} (H : Wd a0 Z) : (Jvm.Cond.code ({ cls := "java/lang/Math", name := "min", desc := "(II)I" } : Jvm.MethodName) jdk_29_method_69_code (2 : Nat) (Option.some Jvm.ClassFile.FieldType.int)).before a0 Z = true := H _ (List.mem_of_getElem? (i := 93) rfl)
theorem w_90 {a0 : Array Value} {Z : State} (H : Wd a0 Z) : (Jvm.Cond.methodLink "com/example/plywright/plywright/games/ConnectFourMovesPinLaw" (8 : Nat) ({ cls := "java/lang/Math", name := "min", desc := "(II)I" } : Jvm.MethodName)).before a0 Z = true := H _ (List.mem_of_getElem? (i := 90) rfl)
theorem w_91 {a0 : Array Value} {Z : State} (H : Wd a0 Z) : (Jvm.Cond.static ({ cls := "java/lang/Math", name := "min", desc := "(II)I" } : Jvm.MethodName)).before a0 Z = true := H _ (List.mem_of_getElem? (i := 91) rfl)
theorem d0_185 : Dc code 185 (.istore 12) 2 187 := ⟨at_185, rfl⟩
theorem d0_38 : Dc code 38 (.iconst 1) 1 39 := ⟨at_38, rfl⟩
theorem d0_39 : Db code 39 (.goto 4) 4 42 43 := ⟨at_39, rfl, rfl⟩
theorem d0_56 : Dc code 56 (.iload 8) 2 58 := ⟨at_56, rfl⟩
theorem d0_58 : Dc code 58 (.iconst 1) 1 59 := ⟨at_58, rfl⟩
theorem d0_59 : Dc code 59 (.iadd) 1 60 := ⟨at_59, rfl⟩
theorem d0_60 : Dc code 60 (.iload_n 3) 1 61 := ⟨at_60, rfl⟩
theorem d0_61 : Dc code 61 (.ldc 7) 2 63 := ⟨at_61, rfl⟩
theorem d0_63 : Dc code 63 (.iand) 1 64 := ⟨at_63, rfl⟩
theorem d0_64 : Dc code 64 (.iload 6) 2 66 := ⟨at_64, rfl⟩
theorem d0_66 : Dc code 66 (.iconst 1) 1 67 := ⟨at_66, rfl⟩
theorem d0_67 : Dc code 67 (.isub) 1 68 := ⟨at_67, rfl⟩
theorem d0_68 : Dc code 68 (.irem) 1 69 := ⟨at_68, rfl⟩
theorem d0_69 : Dc code 69 (.iadd) 1 70 := ⟨at_69, rfl⟩
theorem d0_70 : Dc code 70 (.iload 6) 2 72 := ⟨at_70, rfl⟩
theorem d0_72 : Dc code 72 (.irem) 1 73 := ⟨at_72, rfl⟩
theorem d0_73 : Dc code 73 (.istore 10) 2 75 := ⟨at_73, rfl⟩
theorem d0_75 : Dc code 75 (.iconst 0) 1 76 := ⟨at_75, rfl⟩
theorem d0_76 : Dc code 76 (.istore 11) 2 78 := ⟨at_76, rfl⟩
theorem d0_78 : Dc code 78 (.iconst 0) 1 79 := ⟨at_78, rfl⟩
theorem d0_79 : Dc code 79 (.istore 12) 2 81 := ⟨at_79, rfl⟩
theorem d0_81 : Dc code 81 (.bipush 7) 2 83 := ⟨at_81, rfl⟩
theorem d0_83 : Dc code 83 (.istore 13) 2 85 := ⟨at_83, rfl⟩
theorem d0_85 : Dc code 85 (.aload 14) 2 87 := ⟨at_85, rfl⟩
theorem d0_87 : Dc code 87 (.iconst 0) 1 88 := ⟨at_87, rfl⟩
theorem d0_88 : Dc code 88 (.iload 8) 2 90 := ⟨at_88, rfl⟩
theorem d0_90 : Dc code 90 (.iastore) 1 91 := ⟨at_90, rfl⟩
theorem d0_91 : Dc code 91 (.aload 14) 2 93 := ⟨at_91, rfl⟩
theorem d0_93 : Dc code 93 (.iconst 1) 1 94 := ⟨at_93, rfl⟩
theorem d0_94 : Dc code 94 (.iload 10) 2 96 := ⟨at_94, rfl⟩
theorem d0_96 : Dc code 96 (.iastore) 1 97 := ⟨at_96, rfl⟩
theorem d0_97 : Dc code 97 (.aload 14) 2 99 := ⟨at_97, rfl⟩
theorem d0_99 : Dc code 99 (.iconst 2) 1 100 := ⟨at_99, rfl⟩
theorem d0_100 : Dc code 100 (.iload 8) 2 102 := ⟨at_100, rfl⟩
theorem d0_102 : Dc code 102 (.iastore) 1 103 := ⟨at_102, rfl⟩
theorem d0_103 : Dc code 103 (.aload 14) 2 105 := ⟨at_103, rfl⟩
theorem d0_105 : Dc code 105 (.iconst 3) 1 106 := ⟨at_105, rfl⟩
theorem d0_106 : Dc code 106 (.iload 10) 2 108 := ⟨at_106, rfl⟩
theorem d0_108 : Dc code 108 (.iastore) 1 109 := ⟨at_108, rfl⟩
theorem d0_109 : Dc code 109 (.aload 14) 2 111 := ⟨at_109, rfl⟩
theorem d0_111 : Dc code 111 (.iconst 4) 1 112 := ⟨at_111, rfl⟩
theorem d0_112 : Dc code 112 (.iload 8) 2 114 := ⟨at_112, rfl⟩
theorem d0_114 : Dc code 114 (.iastore) 1 115 := ⟨at_114, rfl⟩
theorem d0_115 : Dc code 115 (.aload 14) 2 117 := ⟨at_115, rfl⟩
theorem d0_117 : Dc code 117 (.iconst 5) 1 118 := ⟨at_117, rfl⟩
theorem d0_118 : Dc code 118 (.iload 10) 2 120 := ⟨at_118, rfl⟩
theorem d0_120 : Dc code 120 (.iastore) 1 121 := ⟨at_120, rfl⟩
theorem d0_121 : Dc code 121 (.aload 14) 2 123 := ⟨at_121, rfl⟩
theorem d0_123 : Dc code 123 (.bipush 6) 2 125 := ⟨at_123, rfl⟩
theorem d0_125 : Dc code 125 (.iload 8) 2 127 := ⟨at_125, rfl⟩
theorem d0_127 : Dc code 127 (.iastore) 1 128 := ⟨at_127, rfl⟩
theorem d0_128 : Dc code 128 (.aload 14) 2 130 := ⟨at_128, rfl⟩
theorem d0_130 : Dc code 130 (.bipush 7) 2 132 := ⟨at_130, rfl⟩
theorem d0_132 : Dc code 132 (.iload 10) 2 134 := ⟨at_132, rfl⟩
theorem d0_134 : Dc code 134 (.iastore) 1 135 := ⟨at_134, rfl⟩
theorem d0_135 : Db code 135 (.goto 199) 199 138 334 := ⟨at_135, rfl, rfl⟩
theorem d0_482 : Dc code 482 (.aload 16) 2 484 := ⟨at_482, rfl⟩
theorem d0_484 : Dc code 484 (.arraylength) 1 485 := ⟨at_484, rfl⟩
theorem d0_485 : Db code 485 (.ifCond .ne 7) 7 488 492 := ⟨at_485, rfl, rfl⟩
theorem d0_488 : Dc code 488 (.iconst 1) 1 489 := ⟨at_488, rfl⟩
theorem d0_489 : Db code 489 (.goto 4) 4 492 493 := ⟨at_489, rfl, rfl⟩
theorem d0_493 : Dc code 493 (.ireturn) 1 494 := ⟨at_493, rfl⟩
set_option maxRecDepth 65536 in
set_option maxHeartbeats 40000000 in
theorem rm0 {l : Launch} {Z : State} {a0 : Array Value} {n0 : Nat} (H : Wd a0 Z) (p0 p1 p2 p3 p4 p5 : Int32) (h0 : Heap) (Z0 : n0 ≤ h0.size) :
    CtW l Z n0 x code maxLocals ret tables_1 room_1 #[(.int p0), (.int p1), (.int p2), (.int p3), (.int p4), (.int p5)] h0 (fun v h => v = some (.int 1)) := by
  refine CtW.of (a0 := a0) (L0 := #[.val (.int p0), .val (.int p1), .val (.int p2), .val (.int p3), .val (.int p4), .val (.int p5), .unset, .unset, .unset, .unset, .unset, .unset, .unset, .unset, .unset, .unset, .unset, .unset, .unset, .unset, .unset, .unset]) (plainFor_of_name pn_com_example_plywright_plywright_games_ConnectFourMovesPinLaw) (fun m => by first | (simp [entryFrame, mkF, argsToLocals, Value.category, maxLocals]; done) | rfl) ?_
  intro κ Wk B0
  have B : Ok κ l Z a0 n0 room_1 "com/example/plywright/plywright/games/ConnectFourMovesPinLaw" "law" code maxLocals ret := B0
  obtain ⟨W, hW4, hW9, eW⟩ := own_size p0
  obtain ⟨Hr, hH4, hH9, eH⟩ := own_size p1
  obtain ⟨A, hA, eA⟩ := own_msk p2 (n := W) (by omega) (by omega)
  obtain ⟨t, ht, et⟩ := own_msk p3 (n := W - 1) (by omega) (by omega)
  obtain ⟨Bw, hBw⟩ : ∃ z, z = (A + 1 + t) % W := ⟨_, rfl⟩
  obtain ⟨hBwW, hne⟩ : Bw < W ∧ A ≠ Bw := by rw [hBw]; exact own_other hA ht
  obtain ⟨Bn, hB, eB⟩ := own_msk p3 (n := W) (by omega) (by omega)
  obtain ⟨K1, k1, eK1⟩ := own_five p4
  obtain ⟨K0, k0, eK0⟩ := own_five (XT.ushr p4 (8 : Int32))
  have hWH : 16 ≤ W * Hr := Nat.mul_le_mul hW4 hH4
  refine go_iconst B (x := (4 : Int32)) d0_0 rfl ?_
  refine go_iload_n B d0_1 rfl ?_
  refine go_ldcI B d0_2 (w_0 H) ?_
  refine go_iand B d0_4 ?_
  refine go_bipush B (x := (6 : Int32)) d0_5 (by decide) ?_
  refine go_irem B d0_7 (by decide) ?_
  refine go_iadd B d0_8 ?_
  rw [show ((4 : Int32) + ((p0 &&& (2147483647 : Int32)) % (6 : Int32))) = (Int32.ofNat W) from eW]
  refine go_istore B #[.val (.int p0), .val (.int p1), .val (.int p2), .val (.int p3), .val (.int p4), .val (.int p5), .val (.int (Int32.ofNat W)), .unset, .unset, .unset, .unset, .unset, .unset, .unset, .unset, .unset, .unset, .unset, .unset, .unset, .unset, .unset] d0_9 rfl ?_
  refine go_iconst B (x := (4 : Int32)) d0_11 rfl ?_
  refine go_iload_n B d0_12 rfl ?_
  refine go_ldcI B d0_13 (w_0 H) ?_
  refine go_iand B d0_15 ?_
  refine go_bipush B (x := (6 : Int32)) d0_16 (by decide) ?_
  refine go_irem B d0_18 (by decide) ?_
  refine go_iadd B d0_19 ?_
  rw [show ((4 : Int32) + ((p1 &&& (2147483647 : Int32)) % (6 : Int32))) = (Int32.ofNat Hr) from eH]
  refine go_istore B #[.val (.int p0), .val (.int p1), .val (.int p2), .val (.int p3), .val (.int p4), .val (.int p5), .val (.int (Int32.ofNat W)), .val (.int (Int32.ofNat Hr)), .unset, .unset, .unset, .unset, .unset, .unset, .unset, .unset, .unset, .unset, .unset, .unset, .unset, .unset] d0_20 rfl ?_
  refine go_iload_n B d0_22 rfl ?_
  refine go_ldcI B d0_23 (w_0 H) ?_
  refine go_iand B d0_25 ?_
  refine go_iload B d0_26 rfl ?_
  refine go_irem B d0_28 (n_ne0 (by omega) (by omega)) ?_
  rw [show ((p2 &&& (2147483647 : Int32)) % (Int32.ofNat W)) = (Int32.ofNat A) from eA]
  refine go_istore B #[.val (.int p0), .val (.int p1), .val (.int p2), .val (.int p3), .val (.int p4), .val (.int p5), .val (.int (Int32.ofNat W)), .val (.int (Int32.ofNat Hr)), .val (.int (Int32.ofNat A)), .unset, .unset, .unset, .unset, .unset, .unset, .unset, .unset, .unset, .unset, .unset, .unset, .unset] d0_29 rfl ?_
  refine go_iload B d0_31 rfl ?_
  refine go_iconst B (x := (1 : Int32)) d0_33 rfl ?_
  refine go_iand B d0_34 ?_
  refine go_ifeq B d0_35 (fun c35 => ?_) (fun c35 => ?_)
  · skip
    refine go_iconst B (x := (0 : Int32)) d0_42 rfl ?_
    refine go_istore B #[.val (.int p0), .val (.int p1), .val (.int p2), .val (.int p3), .val (.int p4), .val (.int p5), .val (.int (Int32.ofNat W)), .val (.int (Int32.ofNat Hr)), .val (.int (Int32.ofNat A)), .val (.int (0 : Int32)), .unset, .unset, .unset, .unset, .unset, .unset, .unset, .unset, .unset, .unset, .unset, .unset] d0_43 rfl ?_
    refine go_bipush B (x := (8 : Int32)) d0_45 (by decide) ?_
    refine go_newarray B (i := 8) (cap := 8) d0_47 (w_1 H) rfl (Nat.le_refl _) (by decide) (by decide) (by decide) ?_
    intro h537 a538 hba538 Ea538 Aa538 Ca538
    have ge_a538 : n0 ≤ a538 := by have q1 := Z0; omega
    have Ba538 : AV Z h537 a538 .int [(.int (0 : Int32)), (.int (0 : Int32)), (.int (0 : Int32)), (.int (0 : Int32)), (.int (0 : Int32)), (.int (0 : Int32)), (.int (0 : Int32)), (.int (0 : Int32))] := Aa538
    refine go_astore B #[.val (.int p0), .val (.int p1), .val (.int p2), .val (.int p3), .val (.int p4), .val (.int p5), .val (.int (Int32.ofNat W)), .val (.int (Int32.ofNat Hr)), .val (.int (Int32.ofNat A)), .val (.int (0 : Int32)), .unset, .unset, .unset, .unset, .val (.ref a538), .unset, .unset, .unset, .unset, .unset, .unset, .unset] d0_49 rfl rfl ?_
    refine go_iload B d0_51 rfl ?_
    refine go_ifeq B d0_53 (fun c53 => ?_) (fun c53 => ?_)
    rotate_left
    · exact absurd c53 (by decide)
    refine go_iload_n B d0_138 rfl ?_
    refine go_ldcI B d0_139 (w_0 H) ?_
    refine go_iand B d0_141 ?_
    refine go_iload B d0_142 rfl ?_
    refine go_irem B d0_144 (n_ne0 (by omega) (by omega)) ?_
    rw [show ((p3 &&& (2147483647 : Int32)) % (Int32.ofNat W)) = (Int32.ofNat Bn) from eB]
    refine go_istore B #[.val (.int p0), .val (.int p1), .val (.int p2), .val (.int p3), .val (.int p4), .val (.int p5), .val (.int (Int32.ofNat W)), .val (.int (Int32.ofNat Hr)), .val (.int (Int32.ofNat A)), .val (.int (0 : Int32)), .val (.int (Int32.ofNat Bn)), .unset, .unset, .unset, .val (.ref a538), .unset, .unset, .unset, .unset, .unset, .unset, .unset] d0_145 rfl ?_
    refine go_iload B d0_147 rfl ?_
    refine go_ldcI B d0_149 (w_0 H) ?_
    refine go_iand B d0_151 ?_
    refine go_iconst B (x := (5 : Int32)) d0_152 rfl ?_
    refine go_irem B d0_153 (by decide) ?_
    rw [show ((p4 &&& (2147483647 : Int32)) % (5 : Int32)) = (Int32.ofNat K1) from eK1]
    refine go_istore B #[.val (.int p0), .val (.int p1), .val (.int p2), .val (.int p3), .val (.int p4), .val (.int p5), .val (.int (Int32.ofNat W)), .val (.int (Int32.ofNat Hr)), .val (.int (Int32.ofNat A)), .val (.int (0 : Int32)), .val (.int (Int32.ofNat Bn)), .val (.int (Int32.ofNat K1)), .unset, .unset, .val (.ref a538), .unset, .unset, .unset, .unset, .unset, .unset, .unset] d0_154 rfl ?_
    refine go_iload B d0_156 rfl ?_
    refine go_bipush B (x := (8 : Int32)) d0_158 (by decide) ?_
    refine go_iushr B d0_160 ?_
    refine go_ldcI B d0_161 (w_0 H) ?_
    refine go_iand B d0_163 ?_
    refine go_iconst B (x := (5 : Int32)) d0_164 rfl ?_
    refine go_irem B d0_165 (by decide) ?_
    rw [show (((XT.ushr p4 (8 : Int32)) &&& (2147483647 : Int32)) % (5 : Int32)) = (Int32.ofNat K0) from eK0]
    refine go_istore B #[.val (.int p0), .val (.int p1), .val (.int p2), .val (.int p3), .val (.int p4), .val (.int p5), .val (.int (Int32.ofNat W)), .val (.int (Int32.ofNat Hr)), .val (.int (Int32.ofNat A)), .val (.int (0 : Int32)), .val (.int (Int32.ofNat Bn)), .val (.int (Int32.ofNat K1)), .val (.int (Int32.ofNat K0)), .unset, .val (.ref a538), .unset, .unset, .unset, .unset, .unset, .unset, .unset] d0_166 rfl ?_
    refine go_iload B d0_168 rfl ?_
    refine go_iload B d0_170 rfl ?_
    have J540 : ∀ z539 : Int32, (∃ K2 : Nat, z539 = Int32.ofNat K2 ∧ K2 ≤ 4 ∧ (A = Bn → K1 + K2 ≤ Hr)) → Go κ (fun v h => v = some (.int 1)) h537 (0 + 1) (0 + 8) 187 #[.val (.int p0), .val (.int p1), .val (.int p2), .val (.int p3), .val (.int p4), .val (.int p5), .val (.int (Int32.ofNat W)), .val (.int (Int32.ofNat Hr)), .val (.int (Int32.ofNat A)), .val (.int (0 : Int32)), .val (.int (Int32.ofNat Bn)), .val (.int (Int32.ofNat K1)), .val (.int z539), .unset, .val (.ref a538), .unset, .unset, .unset, .unset, .unset, .unset, .unset] [] := by
      intro z539 hJ540
      obtain ⟨K2, rfl, k2, hs2⟩ := hJ540
      refine go_iload B d0_187 rfl ?_
      refine go_iload B d0_189 rfl ?_
      refine go_iadd B d0_191 ?_
      rw [show ((Int32.ofNat K1) + (Int32.ofNat K2)) = (Int32.ofNat (K1 + K2)) from n_add]
      refine go_istore B #[.val (.int p0), .val (.int p1), .val (.int p2), .val (.int p3), .val (.int p4), .val (.int p5), .val (.int (Int32.ofNat W)), .val (.int (Int32.ofNat Hr)), .val (.int (Int32.ofNat A)), .val (.int (0 : Int32)), .val (.int (Int32.ofNat Bn)), .val (.int (Int32.ofNat K1)), .val (.int (Int32.ofNat K2)), .val (.int (Int32.ofNat (K1 + K2))), .val (.ref a538), .unset, .unset, .unset, .unset, .unset, .unset, .unset] d0_192 rfl ?_
      refine go_aload B d0_194 rfl rfl ?_
      refine go_iconst B (x := (0 : Int32)) d0_196 rfl ?_
      refine go_iconst B (x := (0 : Int32)) d0_197 rfl ?_
      refine go_iload B d0_198 rfl ?_
      have J542 : ∀ z541 : Int32, (z541 = Int32.ofNat (own_cq K1 A Bn 0)) → Go κ (fun v h => v = some (.int 1)) h537 (0 + 1) (0 + 8) 210 #[.val (.int p0), .val (.int p1), .val (.int p2), .val (.int p3), .val (.int p4), .val (.int p5), .val (.int (Int32.ofNat W)), .val (.int (Int32.ofNat Hr)), .val (.int (Int32.ofNat A)), .val (.int (0 : Int32)), .val (.int (Int32.ofNat Bn)), .val (.int (Int32.ofNat K1)), .val (.int (Int32.ofNat K2)), .val (.int (Int32.ofNat (K1 + K2))), .val (.ref a538), .unset, .unset, .unset, .unset, .unset, .unset, .unset] [(.int z541), (.int (0 : Int32)), (.ref a538)] := by
        intro z541 hJ542
        subst hJ542
        refine go_iastore B (i := 0) d0_210 Ba538 rfl (show 0 < 8 from by decide) ge_a538 ?_
        intro h543 W544 A545
        have A546 : AV Z h543 a538 .int [(.int (Int32.ofNat (own_cq K1 A Bn 0))), (.int (0 : Int32)), (.int (0 : Int32)), (.int (0 : Int32)), (.int (0 : Int32)), (.int (0 : Int32)), (.int (0 : Int32)), (.int (0 : Int32))] := A545
        refine go_aload B d0_211 rfl rfl ?_
        refine go_iconst B (x := (1 : Int32)) d0_213 rfl ?_
        refine go_iconst B (x := (1 : Int32)) d0_214 rfl ?_
        refine go_iload B d0_215 rfl ?_
        have J548 : ∀ z547 : Int32, (z547 = Int32.ofNat (own_cq K1 A Bn 1)) → Go κ (fun v h => v = some (.int 1)) h543 (0 + 1) (0 + 8) 227 #[.val (.int p0), .val (.int p1), .val (.int p2), .val (.int p3), .val (.int p4), .val (.int p5), .val (.int (Int32.ofNat W)), .val (.int (Int32.ofNat Hr)), .val (.int (Int32.ofNat A)), .val (.int (0 : Int32)), .val (.int (Int32.ofNat Bn)), .val (.int (Int32.ofNat K1)), .val (.int (Int32.ofNat K2)), .val (.int (Int32.ofNat (K1 + K2))), .val (.ref a538), .unset, .unset, .unset, .unset, .unset, .unset, .unset] [(.int z547), (.int (1 : Int32)), (.ref a538)] := by
          intro z547 hJ548
          subst hJ548
          refine go_iastore B (i := 1) d0_227 A546 rfl (show 1 < 8 from by decide) ge_a538 ?_
          intro h549 W550 A551
          have A552 : AV Z h549 a538 .int [(.int (Int32.ofNat (own_cq K1 A Bn 0))), (.int (Int32.ofNat (own_cq K1 A Bn 1))), (.int (0 : Int32)), (.int (0 : Int32)), (.int (0 : Int32)), (.int (0 : Int32)), (.int (0 : Int32)), (.int (0 : Int32))] := A551
          refine go_aload B d0_228 rfl rfl ?_
          refine go_iconst B (x := (2 : Int32)) d0_230 rfl ?_
          refine go_iconst B (x := (2 : Int32)) d0_231 rfl ?_
          refine go_iload B d0_232 rfl ?_
          have J554 : ∀ z553 : Int32, (z553 = Int32.ofNat (own_cq K1 A Bn 2)) → Go κ (fun v h => v = some (.int 1)) h549 (0 + 1) (0 + 8) 244 #[.val (.int p0), .val (.int p1), .val (.int p2), .val (.int p3), .val (.int p4), .val (.int p5), .val (.int (Int32.ofNat W)), .val (.int (Int32.ofNat Hr)), .val (.int (Int32.ofNat A)), .val (.int (0 : Int32)), .val (.int (Int32.ofNat Bn)), .val (.int (Int32.ofNat K1)), .val (.int (Int32.ofNat K2)), .val (.int (Int32.ofNat (K1 + K2))), .val (.ref a538), .unset, .unset, .unset, .unset, .unset, .unset, .unset] [(.int z553), (.int (2 : Int32)), (.ref a538)] := by
            intro z553 hJ554
            subst hJ554
            refine go_iastore B (i := 2) d0_244 A552 rfl (show 2 < 8 from by decide) ge_a538 ?_
            intro h555 W556 A557
            have A558 : AV Z h555 a538 .int [(.int (Int32.ofNat (own_cq K1 A Bn 0))), (.int (Int32.ofNat (own_cq K1 A Bn 1))), (.int (Int32.ofNat (own_cq K1 A Bn 2))), (.int (0 : Int32)), (.int (0 : Int32)), (.int (0 : Int32)), (.int (0 : Int32)), (.int (0 : Int32))] := A557
            refine go_aload B d0_245 rfl rfl ?_
            refine go_iconst B (x := (3 : Int32)) d0_247 rfl ?_
            refine go_iconst B (x := (3 : Int32)) d0_248 rfl ?_
            refine go_iload B d0_249 rfl ?_
            have J560 : ∀ z559 : Int32, (z559 = Int32.ofNat (own_cq K1 A Bn 3)) → Go κ (fun v h => v = some (.int 1)) h555 (0 + 1) (0 + 8) 261 #[.val (.int p0), .val (.int p1), .val (.int p2), .val (.int p3), .val (.int p4), .val (.int p5), .val (.int (Int32.ofNat W)), .val (.int (Int32.ofNat Hr)), .val (.int (Int32.ofNat A)), .val (.int (0 : Int32)), .val (.int (Int32.ofNat Bn)), .val (.int (Int32.ofNat K1)), .val (.int (Int32.ofNat K2)), .val (.int (Int32.ofNat (K1 + K2))), .val (.ref a538), .unset, .unset, .unset, .unset, .unset, .unset, .unset] [(.int z559), (.int (3 : Int32)), (.ref a538)] := by
              intro z559 hJ560
              subst hJ560
              refine go_iastore B (i := 3) d0_261 A558 rfl (show 3 < 8 from by decide) ge_a538 ?_
              intro h561 W562 A563
              have A564 : AV Z h561 a538 .int [(.int (Int32.ofNat (own_cq K1 A Bn 0))), (.int (Int32.ofNat (own_cq K1 A Bn 1))), (.int (Int32.ofNat (own_cq K1 A Bn 2))), (.int (Int32.ofNat (own_cq K1 A Bn 3))), (.int (0 : Int32)), (.int (0 : Int32)), (.int (0 : Int32)), (.int (0 : Int32))] := A563
              refine go_aload B d0_262 rfl rfl ?_
              refine go_iconst B (x := (4 : Int32)) d0_264 rfl ?_
              refine go_iconst B (x := (4 : Int32)) d0_265 rfl ?_
              refine go_iload B d0_266 rfl ?_
              have J566 : ∀ z565 : Int32, (z565 = Int32.ofNat (own_cq K1 A Bn 4)) → Go κ (fun v h => v = some (.int 1)) h561 (0 + 1) (0 + 8) 278 #[.val (.int p0), .val (.int p1), .val (.int p2), .val (.int p3), .val (.int p4), .val (.int p5), .val (.int (Int32.ofNat W)), .val (.int (Int32.ofNat Hr)), .val (.int (Int32.ofNat A)), .val (.int (0 : Int32)), .val (.int (Int32.ofNat Bn)), .val (.int (Int32.ofNat K1)), .val (.int (Int32.ofNat K2)), .val (.int (Int32.ofNat (K1 + K2))), .val (.ref a538), .unset, .unset, .unset, .unset, .unset, .unset, .unset] [(.int z565), (.int (4 : Int32)), (.ref a538)] := by
                intro z565 hJ566
                subst hJ566
                refine go_iastore B (i := 4) d0_278 A564 rfl (show 4 < 8 from by decide) ge_a538 ?_
                intro h567 W568 A569
                have A570 : AV Z h567 a538 .int [(.int (Int32.ofNat (own_cq K1 A Bn 0))), (.int (Int32.ofNat (own_cq K1 A Bn 1))), (.int (Int32.ofNat (own_cq K1 A Bn 2))), (.int (Int32.ofNat (own_cq K1 A Bn 3))), (.int (Int32.ofNat (own_cq K1 A Bn 4))), (.int (0 : Int32)), (.int (0 : Int32)), (.int (0 : Int32))] := A569
                refine go_aload B d0_279 rfl rfl ?_
                refine go_iconst B (x := (5 : Int32)) d0_281 rfl ?_
                refine go_iconst B (x := (5 : Int32)) d0_282 rfl ?_
                refine go_iload B d0_283 rfl ?_
                have J572 : ∀ z571 : Int32, (z571 = Int32.ofNat (own_cq K1 A Bn 5)) → Go κ (fun v h => v = some (.int 1)) h567 (0 + 1) (0 + 8) 295 #[.val (.int p0), .val (.int p1), .val (.int p2), .val (.int p3), .val (.int p4), .val (.int p5), .val (.int (Int32.ofNat W)), .val (.int (Int32.ofNat Hr)), .val (.int (Int32.ofNat A)), .val (.int (0 : Int32)), .val (.int (Int32.ofNat Bn)), .val (.int (Int32.ofNat K1)), .val (.int (Int32.ofNat K2)), .val (.int (Int32.ofNat (K1 + K2))), .val (.ref a538), .unset, .unset, .unset, .unset, .unset, .unset, .unset] [(.int z571), (.int (5 : Int32)), (.ref a538)] := by
                  intro z571 hJ572
                  subst hJ572
                  refine go_iastore B (i := 5) d0_295 A570 rfl (show 5 < 8 from by decide) ge_a538 ?_
                  intro h573 W574 A575
                  have A576 : AV Z h573 a538 .int [(.int (Int32.ofNat (own_cq K1 A Bn 0))), (.int (Int32.ofNat (own_cq K1 A Bn 1))), (.int (Int32.ofNat (own_cq K1 A Bn 2))), (.int (Int32.ofNat (own_cq K1 A Bn 3))), (.int (Int32.ofNat (own_cq K1 A Bn 4))), (.int (Int32.ofNat (own_cq K1 A Bn 5))), (.int (0 : Int32)), (.int (0 : Int32))] := A575
                  refine go_aload B d0_296 rfl rfl ?_
                  refine go_bipush B (x := (6 : Int32)) d0_298 (by decide) ?_
                  refine go_bipush B (x := (6 : Int32)) d0_300 (by decide) ?_
                  refine go_iload B d0_302 rfl ?_
                  have J578 : ∀ z577 : Int32, (z577 = Int32.ofNat (own_cq K1 A Bn 6)) → Go κ (fun v h => v = some (.int 1)) h573 (0 + 1) (0 + 8) 314 #[.val (.int p0), .val (.int p1), .val (.int p2), .val (.int p3), .val (.int p4), .val (.int p5), .val (.int (Int32.ofNat W)), .val (.int (Int32.ofNat Hr)), .val (.int (Int32.ofNat A)), .val (.int (0 : Int32)), .val (.int (Int32.ofNat Bn)), .val (.int (Int32.ofNat K1)), .val (.int (Int32.ofNat K2)), .val (.int (Int32.ofNat (K1 + K2))), .val (.ref a538), .unset, .unset, .unset, .unset, .unset, .unset, .unset] [(.int z577), (.int (6 : Int32)), (.ref a538)] := by
                    intro z577 hJ578
                    subst hJ578
                    refine go_iastore B (i := 6) d0_314 A576 rfl (show 6 < 8 from by decide) ge_a538 ?_
                    intro h579 W580 A581
                    have A582 : AV Z h579 a538 .int [(.int (Int32.ofNat (own_cq K1 A Bn 0))), (.int (Int32.ofNat (own_cq K1 A Bn 1))), (.int (Int32.ofNat (own_cq K1 A Bn 2))), (.int (Int32.ofNat (own_cq K1 A Bn 3))), (.int (Int32.ofNat (own_cq K1 A Bn 4))), (.int (Int32.ofNat (own_cq K1 A Bn 5))), (.int (Int32.ofNat (own_cq K1 A Bn 6))), (.int (0 : Int32))] := A581
                    refine go_aload B d0_315 rfl rfl ?_
                    refine go_bipush B (x := (7 : Int32)) d0_317 (by decide) ?_
                    refine go_bipush B (x := (7 : Int32)) d0_319 (by decide) ?_
                    refine go_iload B d0_321 rfl ?_
                    have J584 : ∀ z583 : Int32, (z583 = Int32.ofNat (own_cq K1 A Bn 7)) → Go κ (fun v h => v = some (.int 1)) h579 (0 + 1) (0 + 8) 333 #[.val (.int p0), .val (.int p1), .val (.int p2), .val (.int p3), .val (.int p4), .val (.int p5), .val (.int (Int32.ofNat W)), .val (.int (Int32.ofNat Hr)), .val (.int (Int32.ofNat A)), .val (.int (0 : Int32)), .val (.int (Int32.ofNat Bn)), .val (.int (Int32.ofNat K1)), .val (.int (Int32.ofNat K2)), .val (.int (Int32.ofNat (K1 + K2))), .val (.ref a538), .unset, .unset, .unset, .unset, .unset, .unset, .unset] [(.int z583), (.int (7 : Int32)), (.ref a538)] := by
                      intro z583 hJ584
                      subst hJ584
                      refine go_iastore B (i := 7) d0_333 A582 rfl (show 7 < 8 from by decide) ge_a538 ?_
                      intro h585 W586 A587
                      have A588 : AV Z h585 a538 .int [(.int (Int32.ofNat (own_cq K1 A Bn 0))), (.int (Int32.ofNat (own_cq K1 A Bn 1))), (.int (Int32.ofNat (own_cq K1 A Bn 2))), (.int (Int32.ofNat (own_cq K1 A Bn 3))), (.int (Int32.ofNat (own_cq K1 A Bn 4))), (.int (Int32.ofNat (own_cq K1 A Bn 5))), (.int (Int32.ofNat (own_cq K1 A Bn 6))), (.int (Int32.ofNat (own_cq K1 A Bn 7)))] := A587
                      refine go_new B d0_334 (w_2 H) (w_3 H) (w_4 H) (by decide) (by decide) ?_
                      intro h589 a590 hba590 Ea590 Aa590 Da590
                      have f591 : Exa Z h585 a538 "[I" := (Exa.wr W586 (Exa.wr W580 (Exa.wr W574 (Exa.wr W568 (Exa.wr W562 (Exa.wr W556 (Exa.wr W550 (Exa.wr W544 Ca538))))))))
                      have ne_a590_a538 : a590 ≠ a538 := Nat.ne_of_gt (Nat.lt_of_lt_of_le (f591).lt (by omega))
                      have f592 : n0 ≤ h585.size := (Nat.le_trans (Nat.le_trans (Nat.le_trans (Nat.le_trans (Nat.le_trans (Nat.le_trans (Nat.le_trans (Nat.le_trans (Nat.le_trans Z0 Ea538.1) (Nat.le_of_eq (Wr.size W544).symm)) (Nat.le_of_eq (Wr.size W550).symm)) (Nat.le_of_eq (Wr.size W556).symm)) (Nat.le_of_eq (Wr.size W562).symm)) (Nat.le_of_eq (Wr.size W568).symm)) (Nat.le_of_eq (Wr.size W574).symm)) (Nat.le_of_eq (Wr.size W580).symm)) (Nat.le_of_eq (Wr.size W586).symm))
                      have ge_a590 : n0 ≤ a590 := by have q1 := f592; omega
                      refine go_dup B d0_337 rfl ?_
                      refine go_iload B d0_338 rfl ?_
                      refine go_iload B d0_340 rfl ?_
                      have f607 : Fld Z h589 a590 "com/example/plywright/plywright/games/ConnectFour" "onMiddleRow" "[Z" .null := (Da590 (Or.inr (w_47 H)) (ty := (.array .boolean)) (by decide))
                      have f608 : 0 ≤ h589.size := (Nat.le_trans (Nat.le_trans (Nat.le_trans (Nat.le_trans (Nat.le_trans (Nat.le_trans (Nat.le_trans (Nat.le_trans (Nat.le_trans (Nat.le_trans (Nat.zero_le _) Ea538.1) (Nat.le_of_eq (Wr.size W544).symm)) (Nat.le_of_eq (Wr.size W550).symm)) (Nat.le_of_eq (Wr.size W556).symm)) (Nat.le_of_eq (Wr.size W562).symm)) (Nat.le_of_eq (Wr.size W568).symm)) (Nat.le_of_eq (Wr.size W574).symm)) (Nat.le_of_eq (Wr.size W580).symm)) (Nat.le_of_eq (Wr.size W586).symm)) Ea590.1)
                      refine go_specialW B Wk f608 (W' := 1) (a := a590) (argsL := [(.int (Int32.ofNat W)), (.int (Int32.ofNat Hr))]) (st := [(.ref a590)]) d0_342 rfl (w_5 H) (w_6 H) (w_4 H) (w_7 H) (by decide) (rmI H a590 W Hr h589 (Nat.le_trans f592 Ea590.1) hW4 hW9 hH4 hH9 ge_a590 Aa590 (Da590 (Or.inr (w_24 H)) (ty := .int) (by decide)) (Da590 (Or.inr (w_26 H)) (ty := .int) (by decide)) (Da590 (Or.inr (w_28 H)) (ty := .int) (by decide)) (Da590 (Or.inr (w_30 H)) (ty := (.array .byte)) (by decide)) f607 (Da590 (Or.inr (w_53 H)) (ty := (.array .int)) (by decide)) (Da590 (Or.inr (w_55 H)) (ty := (.array .int)) (by decide)) (Da590 (Or.inr (w_57 H)) (ty := (.array .int)) (by decide)) (Da590 (Or.inr (w_32 H)) (ty := (.array .int)) (by decide)) (Da590 (Or.inr (w_34 H)) (ty := (.array .int)) (by decide)) (Da590 (Or.inr (w_44 H)) (ty := (.array .long)) (by decide)) (Da590 (Or.inl (w_70 H)) (ty := .int) (by decide)) (Da590 (Or.inl (w_64 H)) (ty := .boolean) (by decide)) (Da590 (Or.inl (w_72 H)) (ty := .long) (by decide))) pd_8 rfl rfl rfl rfl (by decide) (by decide) (by decide) (by decide) ?_
                      rintro κ km610 _ h609 Wk B K611 ⟨rfl, K599, sq593, hs594, pl595, zb596, la597, cf598, zf600, D601, z603, z604, z605, z606, G602⟩
                      have ne_a538_sq593 : a538 ≠ sq593 := Nat.ne_of_lt (Nat.lt_of_lt_of_le ((AV.ext A588 Ea590)).lt z603)
                      have ne_a538_hs594 : a538 ≠ hs594 := Nat.ne_of_lt (Nat.lt_of_lt_of_le ((AV.ext A588 Ea590)).lt z604)
                      have ne_a538_pl595 : a538 ≠ pl595 := Nat.ne_of_lt (Nat.lt_of_lt_of_le ((AV.ext A588 Ea590)).lt z605)
                      obtain ⟨P0, hP0⟩ : ∃ P : Nat, P = 0 := ⟨_, rfl⟩
                      have G00 : own_Gst Z h609 a590 sq593 hs594 pl595 zb596 la597 cf598 W Hr zf600 (own_cq K1 A Bn) P0 0 := by rw [hP0]; exact (G602 (own_cq K1 A Bn))
                      show Go κ _ h609 _ _ 345 #[.val (.int p0), .val (.int p1), .val (.int p2), .val (.int p3), .val (.int p4), .val (.int p5), .val (.int (Int32.ofNat W)), .val (.int (Int32.ofNat Hr)), .val (.int (Int32.ofNat A)), .val (.int (0 : Int32)), .val (.int (Int32.ofNat Bn)), .val (.int (Int32.ofNat K1)), .val (.int (Int32.ofNat K2)), .val (.int (Int32.ofNat (K1 + K2))), .val (.ref a538), .unset, .unset, .unset, .unset, .unset, .unset, .unset] [(.ref a590)]
                      refine go_astore B #[.val (.int p0), .val (.int p1), .val (.int p2), .val (.int p3), .val (.int p4), .val (.int p5), .val (.int (Int32.ofNat W)), .val (.int (Int32.ofNat Hr)), .val (.int (Int32.ofNat A)), .val (.int (0 : Int32)), .val (.int (Int32.ofNat Bn)), .val (.int (Int32.ofNat K1)), .val (.int (Int32.ofNat K2)), .val (.int (Int32.ofNat (K1 + K2))), .val (.ref a538), .val (.ref a590), .unset, .unset, .unset, .unset, .unset, .unset] d0_345 rfl rfl ?_
                      refine go_iload B d0_347 rfl ?_
                      have J613 : ∀ h612 : Heap, (Keep h609 h612 [a590, sq593, hs594, pl595] ∧ ∃ P : Nat, P = min 1 (K1 + K2) ∧ own_Gst Z h612 a590 sq593 hs594 pl595 zb596 la597 cf598 W Hr zf600 (own_cq K1 A Bn) P 0) → Go κ (fun v h => v = some (.int 1)) h612 (0 + 1 + 1 + 12) (0 + 8 + 14 + 850) 361 #[.val (.int p0), .val (.int p1), .val (.int p2), .val (.int p3), .val (.int p4), .val (.int p5), .val (.int (Int32.ofNat W)), .val (.int (Int32.ofNat Hr)), .val (.int (Int32.ofNat A)), .val (.int (0 : Int32)), .val (.int (Int32.ofNat Bn)), .val (.int (Int32.ofNat K1)), .val (.int (Int32.ofNat K2)), .val (.int (Int32.ofNat (K1 + K2))), .val (.ref a538), .val (.ref a590), .unset, .unset, .unset, .unset, .unset, .unset] [] := by
                        intro h612 hJ613
                        obtain ⟨K614, P615, hP616, G617⟩ := hJ613
                        refine go_iload B d0_361 rfl ?_
                        refine go_iconst B (x := (1 : Int32)) d0_363 rfl ?_
                        have J619 : ∀ h618 : Heap, (Keep h612 h618 [a590, sq593, hs594, pl595] ∧ ∃ P : Nat, P = min 2 (K1 + K2) ∧ own_Gst Z h618 a590 sq593 hs594 pl595 zb596 la597 cf598 W Hr zf600 (own_cq K1 A Bn) P 0) → Go κ (fun v h => v = some (.int 1)) h618 (0 + 1 + 1 + 12) (0 + 8 + 14 + 850) 376 #[.val (.int p0), .val (.int p1), .val (.int p2), .val (.int p3), .val (.int p4), .val (.int p5), .val (.int (Int32.ofNat W)), .val (.int (Int32.ofNat Hr)), .val (.int (Int32.ofNat A)), .val (.int (0 : Int32)), .val (.int (Int32.ofNat Bn)), .val (.int (Int32.ofNat K1)), .val (.int (Int32.ofNat K2)), .val (.int (Int32.ofNat (K1 + K2))), .val (.ref a538), .val (.ref a590), .unset, .unset, .unset, .unset, .unset, .unset] [] := by
                          intro h618 hJ619
                          obtain ⟨K620, P621, hP622, G623⟩ := hJ619
                          refine go_iload B d0_376 rfl ?_
                          refine go_iconst B (x := (2 : Int32)) d0_378 rfl ?_
                          have J625 : ∀ h624 : Heap, (Keep h618 h624 [a590, sq593, hs594, pl595] ∧ ∃ P : Nat, P = min 3 (K1 + K2) ∧ own_Gst Z h624 a590 sq593 hs594 pl595 zb596 la597 cf598 W Hr zf600 (own_cq K1 A Bn) P 0) → Go κ (fun v h => v = some (.int 1)) h624 (0 + 1 + 1 + 12) (0 + 8 + 14 + 850) 391 #[.val (.int p0), .val (.int p1), .val (.int p2), .val (.int p3), .val (.int p4), .val (.int p5), .val (.int (Int32.ofNat W)), .val (.int (Int32.ofNat Hr)), .val (.int (Int32.ofNat A)), .val (.int (0 : Int32)), .val (.int (Int32.ofNat Bn)), .val (.int (Int32.ofNat K1)), .val (.int (Int32.ofNat K2)), .val (.int (Int32.ofNat (K1 + K2))), .val (.ref a538), .val (.ref a590), .unset, .unset, .unset, .unset, .unset, .unset] [] := by
                            intro h624 hJ625
                            obtain ⟨K626, P627, hP628, G629⟩ := hJ625
                            refine go_iload B d0_391 rfl ?_
                            refine go_iconst B (x := (3 : Int32)) d0_393 rfl ?_
                            have J631 : ∀ h630 : Heap, (Keep h624 h630 [a590, sq593, hs594, pl595] ∧ ∃ P : Nat, P = min 4 (K1 + K2) ∧ own_Gst Z h630 a590 sq593 hs594 pl595 zb596 la597 cf598 W Hr zf600 (own_cq K1 A Bn) P 0) → Go κ (fun v h => v = some (.int 1)) h630 (0 + 1 + 1 + 12) (0 + 8 + 14 + 850) 406 #[.val (.int p0), .val (.int p1), .val (.int p2), .val (.int p3), .val (.int p4), .val (.int p5), .val (.int (Int32.ofNat W)), .val (.int (Int32.ofNat Hr)), .val (.int (Int32.ofNat A)), .val (.int (0 : Int32)), .val (.int (Int32.ofNat Bn)), .val (.int (Int32.ofNat K1)), .val (.int (Int32.ofNat K2)), .val (.int (Int32.ofNat (K1 + K2))), .val (.ref a538), .val (.ref a590), .unset, .unset, .unset, .unset, .unset, .unset] [] := by
                              intro h630 hJ631
                              obtain ⟨K632, P633, hP634, G635⟩ := hJ631
                              refine go_iload B d0_406 rfl ?_
                              refine go_iconst B (x := (4 : Int32)) d0_408 rfl ?_
                              have J637 : ∀ h636 : Heap, (Keep h630 h636 [a590, sq593, hs594, pl595] ∧ ∃ P : Nat, P = min 5 (K1 + K2) ∧ own_Gst Z h636 a590 sq593 hs594 pl595 zb596 la597 cf598 W Hr zf600 (own_cq K1 A Bn) P 0) → Go κ (fun v h => v = some (.int 1)) h636 (0 + 1 + 1 + 12) (0 + 8 + 14 + 850) 421 #[.val (.int p0), .val (.int p1), .val (.int p2), .val (.int p3), .val (.int p4), .val (.int p5), .val (.int (Int32.ofNat W)), .val (.int (Int32.ofNat Hr)), .val (.int (Int32.ofNat A)), .val (.int (0 : Int32)), .val (.int (Int32.ofNat Bn)), .val (.int (Int32.ofNat K1)), .val (.int (Int32.ofNat K2)), .val (.int (Int32.ofNat (K1 + K2))), .val (.ref a538), .val (.ref a590), .unset, .unset, .unset, .unset, .unset, .unset] [] := by
                                intro h636 hJ637
                                obtain ⟨K638, P639, hP640, G641⟩ := hJ637
                                refine go_iload B d0_421 rfl ?_
                                refine go_iconst B (x := (5 : Int32)) d0_423 rfl ?_
                                have J643 : ∀ h642 : Heap, (Keep h636 h642 [a590, sq593, hs594, pl595] ∧ ∃ P : Nat, P = min 6 (K1 + K2) ∧ own_Gst Z h642 a590 sq593 hs594 pl595 zb596 la597 cf598 W Hr zf600 (own_cq K1 A Bn) P 0) → Go κ (fun v h => v = some (.int 1)) h642 (0 + 1 + 1 + 12) (0 + 8 + 14 + 850) 436 #[.val (.int p0), .val (.int p1), .val (.int p2), .val (.int p3), .val (.int p4), .val (.int p5), .val (.int (Int32.ofNat W)), .val (.int (Int32.ofNat Hr)), .val (.int (Int32.ofNat A)), .val (.int (0 : Int32)), .val (.int (Int32.ofNat Bn)), .val (.int (Int32.ofNat K1)), .val (.int (Int32.ofNat K2)), .val (.int (Int32.ofNat (K1 + K2))), .val (.ref a538), .val (.ref a590), .unset, .unset, .unset, .unset, .unset, .unset] [] := by
                                  intro h642 hJ643
                                  obtain ⟨K644, P645, hP646, G647⟩ := hJ643
                                  refine go_iload B d0_436 rfl ?_
                                  refine go_bipush B (x := (6 : Int32)) d0_438 (by decide) ?_
                                  have J649 : ∀ h648 : Heap, (Keep h642 h648 [a590, sq593, hs594, pl595] ∧ ∃ P : Nat, P = min 7 (K1 + K2) ∧ own_Gst Z h648 a590 sq593 hs594 pl595 zb596 la597 cf598 W Hr zf600 (own_cq K1 A Bn) P 0) → Go κ (fun v h => v = some (.int 1)) h648 (0 + 1 + 1 + 12) (0 + 8 + 14 + 850) 453 #[.val (.int p0), .val (.int p1), .val (.int p2), .val (.int p3), .val (.int p4), .val (.int p5), .val (.int (Int32.ofNat W)), .val (.int (Int32.ofNat Hr)), .val (.int (Int32.ofNat A)), .val (.int (0 : Int32)), .val (.int (Int32.ofNat Bn)), .val (.int (Int32.ofNat K1)), .val (.int (Int32.ofNat K2)), .val (.int (Int32.ofNat (K1 + K2))), .val (.ref a538), .val (.ref a590), .unset, .unset, .unset, .unset, .unset, .unset] [] := by
                                    intro h648 hJ649
                                    obtain ⟨K650, P651, hP652, G653⟩ := hJ649
                                    refine go_iload B d0_453 rfl ?_
                                    refine go_bipush B (x := (7 : Int32)) d0_455 (by decide) ?_
                                    have J655 : ∀ h654 : Heap, (Keep h648 h654 [a590, sq593, hs594, pl595] ∧ ∃ P : Nat, P = min 8 (K1 + K2) ∧ own_Gst Z h654 a590 sq593 hs594 pl595 zb596 la597 cf598 W Hr zf600 (own_cq K1 A Bn) P 0) → Go κ (fun v h => v = some (.int 1)) h654 (0 + 1 + 1 + 12) (0 + 8 + 14 + 850) 470 #[.val (.int p0), .val (.int p1), .val (.int p2), .val (.int p3), .val (.int p4), .val (.int p5), .val (.int (Int32.ofNat W)), .val (.int (Int32.ofNat Hr)), .val (.int (Int32.ofNat A)), .val (.int (0 : Int32)), .val (.int (Int32.ofNat Bn)), .val (.int (Int32.ofNat K1)), .val (.int (Int32.ofNat K2)), .val (.int (Int32.ofNat (K1 + K2))), .val (.ref a538), .val (.ref a590), .unset, .unset, .unset, .unset, .unset, .unset] [] := by
                                      intro h654 hJ655
                                      obtain ⟨K656, P657, hP658, G659⟩ := hJ655
                                      refine go_aload B d0_470 rfl rfl ?_
                                      have f683 : n0 ≤ h654.size := (Nat.le_trans (Nat.le_trans (Nat.le_trans (Nat.le_trans (Nat.le_trans (Nat.le_trans (Nat.le_trans (Nat.le_trans (Nat.le_trans (Nat.le_trans f592 Ea590.1) K599.1) K614.1) K620.1) K626.1) K632.1) K638.1) K644.1) K650.1) K656.1)
                                      rw [show P657 = K1 + K2 by omega] at G659
                                      obtain ⟨_, _, _, f660, f661, f662, f663, f664, f665, f666, f667, f668, f669, f670, f671, A672, A673, A674, A675, A676, A677⟩ := G659
                                      have f684 : Exa Z h654 a590 "com/example/plywright/plywright/games/ConnectFour" := (Exa.keep (Exa.keep (Exa.keep (Exa.keep (Exa.keep (Exa.keep (Exa.keep (Exa.keep (Exa.keep Aa590 K599) K614) K620) K626) K632) K638) K644) K650) K656)
                                      refine go_virtual B (W := 0) (a := a590) (argsL := []) (st := []) d0_472 (w_85 H) (w_86 H) (w_88 H) (w_87 H) (w_4 H) (w_89 H) (by decide) f684 (rmMv H a590 hs594 cf598 W Hr (own_en K1 K2 A Bn) (own_cn W) h654 f683 hW9 (fun j hj => own_cn_lt hW4 hj) f670 f668 f664 f661 A673 A677) pd_9 rfl rfl rfl rfl (by decide) (by decide) (by decide) (by decide) ?_
                                      rintro _ h685 ⟨m678, mf679, rfl, A680, I681, K682⟩
                                      show Go κ _ h685 _ _ 475 #[.val (.int p0), .val (.int p1), .val (.int p2), .val (.int p3), .val (.int p4), .val (.int p5), .val (.int (Int32.ofNat W)), .val (.int (Int32.ofNat Hr)), .val (.int (Int32.ofNat A)), .val (.int (0 : Int32)), .val (.int (Int32.ofNat Bn)), .val (.int (Int32.ofNat K1)), .val (.int (Int32.ofNat K2)), .val (.int (Int32.ofNat (K1 + K2))), .val (.ref a538), .val (.ref a590), .unset, .unset, .unset, .unset, .unset, .unset] [(.ref m678)]
                                      refine go_astore B #[.val (.int p0), .val (.int p1), .val (.int p2), .val (.int p3), .val (.int p4), .val (.int p5), .val (.int (Int32.ofNat W)), .val (.int (Int32.ofNat Hr)), .val (.int (Int32.ofNat A)), .val (.int (0 : Int32)), .val (.int (Int32.ofNat Bn)), .val (.int (Int32.ofNat K1)), .val (.int (Int32.ofNat K2)), .val (.int (Int32.ofNat (K1 + K2))), .val (.ref a538), .val (.ref a590), .val (.ref m678), .unset, .unset, .unset, .unset, .unset] d0_475 rfl rfl ?_
                                      refine go_iload B d0_477 rfl ?_
                                      refine go_ifeq B d0_479 (fun c479 => ?_) (fun c479 => ?_)
                                      rotate_left
                                      · exact absurd c479 (by decide)
                                      refine go_iload B d0_494 rfl ?_
                                      refine go_iload B d0_496 rfl ?_
                                      have J691 : ∀ z686 : Int32, ∀ z687 : Int32, ∀ z688 : Int32, ∀ z689 : Int32, ∀ z690 : Int32, (own_J K1 K2 A Bn W Hr z688 z689 z690) → Go κ (fun v h => v = some (.int 1)) h685 (0 + 1 + 1 + 12 + 1) (0 + 8 + 14 + 850 + 9) 590 #[.val (.int p0), .val (.int p1), .val (.int p2), .val (.int p3), .val (.int p4), .val (.int p5), .val (.int (Int32.ofNat W)), .val (.int (Int32.ofNat Hr)), .val (.int (Int32.ofNat A)), .val (.int (0 : Int32)), .val (.int (Int32.ofNat Bn)), .val (.int (Int32.ofNat K1)), .val (.int (Int32.ofNat K2)), .val (.int (Int32.ofNat (K1 + K2))), .val (.ref a538), .val (.ref a590), .val (.ref m678), .val (.int z686), .val (.int z687), .val (.int z688), .val (.int z689), .val (.int z690)] [] := by
                                        intro z686 z687 z688 z689 z690 hJ691
                                        obtain ⟨ha, hb, hlen, hfa, hfb⟩ := hJ691
                                        have okc := own_ok hW4 hW9 hA hB ha hb I681
                                        have lew := own_cnt_le (own_pn K1 K2 A Bn W Hr) W
                                        refine go_aload B d0_590 rfl rfl ?_
                                        refine go_arraylength B (x := (Int32.ofNat (own_cnt (own_pn K1 K2 A Bn W Hr) W))) d0_592 A680 (by rw [bm_len]) ?_
                                        refine go_iload B d0_593 rfl ?_
                                        refine go_iload B d0_595 rfl ?_
                                        refine go_isub B d0_597 ?_
                                        refine go_icmpeq B d0_598 (fun c598 => ?_) (fun c598 => ?_)
                                        rotate_left
                                        · exact absurd hlen c598
                                        refine go_aload B d0_603 rfl rfl ?_
                                        refine go_iconst B (x := (0 : Int32)) d0_605 rfl ?_
                                        refine go_iload B d0_606 rfl ?_
                                        refine go_iload B d0_608 rfl ?_
                                        refine go_iload B d0_610 rfl ?_
                                        refine go_iload B d0_612 rfl ?_
                                        refine go_iload B d0_614 rfl ?_
                                        refine go_static B (W := 0) (argsL := [(.ref m678), (.int (0 : Int32)), (.int (Int32.ofNat W)), (.int (Int32.ofNat A)), (.int (Int32.ofNat Bn)), (.int z688), (.int z689)]) (st := []) d0_616 (w_94 H) (w_95 H) (w_96 H) (w_97 H) (by decide) (rmOk H m678 (own_cnt (own_pn K1 K2 A Bn W Hr) W) 0 mf679 (Int32.ofNat W) (Int32.ofNat A) (Int32.ofNat Bn) z688 z689 h685 (Nat.le_trans f683 K682.1) A680 (by omega) (by decide) okc.1 okc.2.1 okc.2.2.1 okc.2.2.2) pd_10 rfl rfl rfl rfl (by decide) (by decide) (by decide) (by decide) ?_
                                        rintro _ h692 ⟨rfl, rfl⟩
                                        show Go κ _ h685 _ _ 619 #[.val (.int p0), .val (.int p1), .val (.int p2), .val (.int p3), .val (.int p4), .val (.int p5), .val (.int (Int32.ofNat W)), .val (.int (Int32.ofNat Hr)), .val (.int (Int32.ofNat A)), .val (.int (0 : Int32)), .val (.int (Int32.ofNat Bn)), .val (.int (Int32.ofNat K1)), .val (.int (Int32.ofNat K2)), .val (.int (Int32.ofNat (K1 + K2))), .val (.ref a538), .val (.ref a590), .val (.ref m678), .val (.int z686), .val (.int z687), .val (.int z688), .val (.int z689), .val (.int z690)] [(.int (1 : Int32))]
                                        refine go_ifeq B d0_619 (fun c619 => ?_) (fun c619 => ?_)
                                        · exact absurd c619 (by decide)
                                        refine go_aload B d0_622 rfl rfl ?_
                                        refine go_iconst B (x := (1 : Int32)) d0_624 rfl ?_
                                        refine go_iload B d0_625 rfl ?_
                                        refine go_iload B d0_627 rfl ?_
                                        refine go_iload B d0_629 rfl ?_
                                        refine go_iload B d0_631 rfl ?_
                                        refine go_iload B d0_633 rfl ?_
                                        refine go_static B (W := 0) (argsL := [(.ref m678), (.int (1 : Int32)), (.int (Int32.ofNat W)), (.int (Int32.ofNat A)), (.int (Int32.ofNat Bn)), (.int z688), (.int z689)]) (st := []) d0_635 (w_94 H) (w_95 H) (w_96 H) (w_97 H) (by decide) (rmOk H m678 (own_cnt (own_pn K1 K2 A Bn W Hr) W) 1 mf679 (Int32.ofNat W) (Int32.ofNat A) (Int32.ofNat Bn) z688 z689 h685 (Nat.le_trans f683 K682.1) A680 (by omega) (by decide) okc.1 okc.2.1 okc.2.2.1 okc.2.2.2) pd_10 rfl rfl rfl rfl (by decide) (by decide) (by decide) (by decide) ?_
                                        rintro _ h693 ⟨rfl, rfl⟩
                                        show Go κ _ h685 _ _ 638 #[.val (.int p0), .val (.int p1), .val (.int p2), .val (.int p3), .val (.int p4), .val (.int p5), .val (.int (Int32.ofNat W)), .val (.int (Int32.ofNat Hr)), .val (.int (Int32.ofNat A)), .val (.int (0 : Int32)), .val (.int (Int32.ofNat Bn)), .val (.int (Int32.ofNat K1)), .val (.int (Int32.ofNat K2)), .val (.int (Int32.ofNat (K1 + K2))), .val (.ref a538), .val (.ref a590), .val (.ref m678), .val (.int z686), .val (.int z687), .val (.int z688), .val (.int z689), .val (.int z690)] [(.int (1 : Int32))]
                                        refine go_ifeq B d0_638 (fun c638 => ?_) (fun c638 => ?_)
                                        · exact absurd c638 (by decide)
                                        refine go_aload B d0_641 rfl rfl ?_
                                        refine go_iconst B (x := (2 : Int32)) d0_643 rfl ?_
                                        refine go_iload B d0_644 rfl ?_
                                        refine go_iload B d0_646 rfl ?_
                                        refine go_iload B d0_648 rfl ?_
                                        refine go_iload B d0_650 rfl ?_
                                        refine go_iload B d0_652 rfl ?_
                                        refine go_static B (W := 0) (argsL := [(.ref m678), (.int (2 : Int32)), (.int (Int32.ofNat W)), (.int (Int32.ofNat A)), (.int (Int32.ofNat Bn)), (.int z688), (.int z689)]) (st := []) d0_654 (w_94 H) (w_95 H) (w_96 H) (w_97 H) (by decide) (rmOk H m678 (own_cnt (own_pn K1 K2 A Bn W Hr) W) 2 mf679 (Int32.ofNat W) (Int32.ofNat A) (Int32.ofNat Bn) z688 z689 h685 (Nat.le_trans f683 K682.1) A680 (by omega) (by decide) okc.1 okc.2.1 okc.2.2.1 okc.2.2.2) pd_10 rfl rfl rfl rfl (by decide) (by decide) (by decide) (by decide) ?_
                                        rintro _ h694 ⟨rfl, rfl⟩
                                        show Go κ _ h685 _ _ 657 #[.val (.int p0), .val (.int p1), .val (.int p2), .val (.int p3), .val (.int p4), .val (.int p5), .val (.int (Int32.ofNat W)), .val (.int (Int32.ofNat Hr)), .val (.int (Int32.ofNat A)), .val (.int (0 : Int32)), .val (.int (Int32.ofNat Bn)), .val (.int (Int32.ofNat K1)), .val (.int (Int32.ofNat K2)), .val (.int (Int32.ofNat (K1 + K2))), .val (.ref a538), .val (.ref a590), .val (.ref m678), .val (.int z686), .val (.int z687), .val (.int z688), .val (.int z689), .val (.int z690)] [(.int (1 : Int32))]
                                        refine go_ifeq B d0_657 (fun c657 => ?_) (fun c657 => ?_)
                                        · exact absurd c657 (by decide)
                                        refine go_aload B d0_660 rfl rfl ?_
                                        refine go_iconst B (x := (3 : Int32)) d0_662 rfl ?_
                                        refine go_iload B d0_663 rfl ?_
                                        refine go_iload B d0_665 rfl ?_
                                        refine go_iload B d0_667 rfl ?_
                                        refine go_iload B d0_669 rfl ?_
                                        refine go_iload B d0_671 rfl ?_
                                        refine go_static B (W := 0) (argsL := [(.ref m678), (.int (3 : Int32)), (.int (Int32.ofNat W)), (.int (Int32.ofNat A)), (.int (Int32.ofNat Bn)), (.int z688), (.int z689)]) (st := []) d0_673 (w_94 H) (w_95 H) (w_96 H) (w_97 H) (by decide) (rmOk H m678 (own_cnt (own_pn K1 K2 A Bn W Hr) W) 3 mf679 (Int32.ofNat W) (Int32.ofNat A) (Int32.ofNat Bn) z688 z689 h685 (Nat.le_trans f683 K682.1) A680 (by omega) (by decide) okc.1 okc.2.1 okc.2.2.1 okc.2.2.2) pd_10 rfl rfl rfl rfl (by decide) (by decide) (by decide) (by decide) ?_
                                        rintro _ h695 ⟨rfl, rfl⟩
                                        show Go κ _ h685 _ _ 676 #[.val (.int p0), .val (.int p1), .val (.int p2), .val (.int p3), .val (.int p4), .val (.int p5), .val (.int (Int32.ofNat W)), .val (.int (Int32.ofNat Hr)), .val (.int (Int32.ofNat A)), .val (.int (0 : Int32)), .val (.int (Int32.ofNat Bn)), .val (.int (Int32.ofNat K1)), .val (.int (Int32.ofNat K2)), .val (.int (Int32.ofNat (K1 + K2))), .val (.ref a538), .val (.ref a590), .val (.ref m678), .val (.int z686), .val (.int z687), .val (.int z688), .val (.int z689), .val (.int z690)] [(.int (1 : Int32))]
                                        refine go_ifeq B d0_676 (fun c676 => ?_) (fun c676 => ?_)
                                        · exact absurd c676 (by decide)
                                        refine go_aload B d0_679 rfl rfl ?_
                                        refine go_iconst B (x := (4 : Int32)) d0_681 rfl ?_
                                        refine go_iload B d0_682 rfl ?_
                                        refine go_iload B d0_684 rfl ?_
                                        refine go_iload B d0_686 rfl ?_
                                        refine go_iload B d0_688 rfl ?_
                                        refine go_iload B d0_690 rfl ?_
                                        refine go_static B (W := 0) (argsL := [(.ref m678), (.int (4 : Int32)), (.int (Int32.ofNat W)), (.int (Int32.ofNat A)), (.int (Int32.ofNat Bn)), (.int z688), (.int z689)]) (st := []) d0_692 (w_94 H) (w_95 H) (w_96 H) (w_97 H) (by decide) (rmOk H m678 (own_cnt (own_pn K1 K2 A Bn W Hr) W) 4 mf679 (Int32.ofNat W) (Int32.ofNat A) (Int32.ofNat Bn) z688 z689 h685 (Nat.le_trans f683 K682.1) A680 (by omega) (by decide) okc.1 okc.2.1 okc.2.2.1 okc.2.2.2) pd_10 rfl rfl rfl rfl (by decide) (by decide) (by decide) (by decide) ?_
                                        rintro _ h696 ⟨rfl, rfl⟩
                                        show Go κ _ h685 _ _ 695 #[.val (.int p0), .val (.int p1), .val (.int p2), .val (.int p3), .val (.int p4), .val (.int p5), .val (.int (Int32.ofNat W)), .val (.int (Int32.ofNat Hr)), .val (.int (Int32.ofNat A)), .val (.int (0 : Int32)), .val (.int (Int32.ofNat Bn)), .val (.int (Int32.ofNat K1)), .val (.int (Int32.ofNat K2)), .val (.int (Int32.ofNat (K1 + K2))), .val (.ref a538), .val (.ref a590), .val (.ref m678), .val (.int z686), .val (.int z687), .val (.int z688), .val (.int z689), .val (.int z690)] [(.int (1 : Int32))]
                                        refine go_ifeq B d0_695 (fun c695 => ?_) (fun c695 => ?_)
                                        · exact absurd c695 (by decide)
                                        refine go_aload B d0_698 rfl rfl ?_
                                        refine go_iconst B (x := (5 : Int32)) d0_700 rfl ?_
                                        refine go_iload B d0_701 rfl ?_
                                        refine go_iload B d0_703 rfl ?_
                                        refine go_iload B d0_705 rfl ?_
                                        refine go_iload B d0_707 rfl ?_
                                        refine go_iload B d0_709 rfl ?_
                                        refine go_static B (W := 0) (argsL := [(.ref m678), (.int (5 : Int32)), (.int (Int32.ofNat W)), (.int (Int32.ofNat A)), (.int (Int32.ofNat Bn)), (.int z688), (.int z689)]) (st := []) d0_711 (w_94 H) (w_95 H) (w_96 H) (w_97 H) (by decide) (rmOk H m678 (own_cnt (own_pn K1 K2 A Bn W Hr) W) 5 mf679 (Int32.ofNat W) (Int32.ofNat A) (Int32.ofNat Bn) z688 z689 h685 (Nat.le_trans f683 K682.1) A680 (by omega) (by decide) okc.1 okc.2.1 okc.2.2.1 okc.2.2.2) pd_10 rfl rfl rfl rfl (by decide) (by decide) (by decide) (by decide) ?_
                                        rintro _ h697 ⟨rfl, rfl⟩
                                        show Go κ _ h685 _ _ 714 #[.val (.int p0), .val (.int p1), .val (.int p2), .val (.int p3), .val (.int p4), .val (.int p5), .val (.int (Int32.ofNat W)), .val (.int (Int32.ofNat Hr)), .val (.int (Int32.ofNat A)), .val (.int (0 : Int32)), .val (.int (Int32.ofNat Bn)), .val (.int (Int32.ofNat K1)), .val (.int (Int32.ofNat K2)), .val (.int (Int32.ofNat (K1 + K2))), .val (.ref a538), .val (.ref a590), .val (.ref m678), .val (.int z686), .val (.int z687), .val (.int z688), .val (.int z689), .val (.int z690)] [(.int (1 : Int32))]
                                        refine go_ifeq B d0_714 (fun c714 => ?_) (fun c714 => ?_)
                                        · exact absurd c714 (by decide)
                                        refine go_aload B d0_717 rfl rfl ?_
                                        refine go_bipush B (x := (6 : Int32)) d0_719 (by decide) ?_
                                        refine go_iload B d0_721 rfl ?_
                                        refine go_iload B d0_723 rfl ?_
                                        refine go_iload B d0_725 rfl ?_
                                        refine go_iload B d0_727 rfl ?_
                                        refine go_iload B d0_729 rfl ?_
                                        refine go_static B (W := 0) (argsL := [(.ref m678), (.int (6 : Int32)), (.int (Int32.ofNat W)), (.int (Int32.ofNat A)), (.int (Int32.ofNat Bn)), (.int z688), (.int z689)]) (st := []) d0_731 (w_94 H) (w_95 H) (w_96 H) (w_97 H) (by decide) (rmOk H m678 (own_cnt (own_pn K1 K2 A Bn W Hr) W) 6 mf679 (Int32.ofNat W) (Int32.ofNat A) (Int32.ofNat Bn) z688 z689 h685 (Nat.le_trans f683 K682.1) A680 (by omega) (by decide) okc.1 okc.2.1 okc.2.2.1 okc.2.2.2) pd_10 rfl rfl rfl rfl (by decide) (by decide) (by decide) (by decide) ?_
                                        rintro _ h698 ⟨rfl, rfl⟩
                                        show Go κ _ h685 _ _ 734 #[.val (.int p0), .val (.int p1), .val (.int p2), .val (.int p3), .val (.int p4), .val (.int p5), .val (.int (Int32.ofNat W)), .val (.int (Int32.ofNat Hr)), .val (.int (Int32.ofNat A)), .val (.int (0 : Int32)), .val (.int (Int32.ofNat Bn)), .val (.int (Int32.ofNat K1)), .val (.int (Int32.ofNat K2)), .val (.int (Int32.ofNat (K1 + K2))), .val (.ref a538), .val (.ref a590), .val (.ref m678), .val (.int z686), .val (.int z687), .val (.int z688), .val (.int z689), .val (.int z690)] [(.int (1 : Int32))]
                                        refine go_ifeq B d0_734 (fun c734 => ?_) (fun c734 => ?_)
                                        · exact absurd c734 (by decide)
                                        refine go_aload B d0_737 rfl rfl ?_
                                        refine go_bipush B (x := (7 : Int32)) d0_739 (by decide) ?_
                                        refine go_iload B d0_741 rfl ?_
                                        refine go_iload B d0_743 rfl ?_
                                        refine go_iload B d0_745 rfl ?_
                                        refine go_iload B d0_747 rfl ?_
                                        refine go_iload B d0_749 rfl ?_
                                        refine go_static B (W := 0) (argsL := [(.ref m678), (.int (7 : Int32)), (.int (Int32.ofNat W)), (.int (Int32.ofNat A)), (.int (Int32.ofNat Bn)), (.int z688), (.int z689)]) (st := []) d0_751 (w_94 H) (w_95 H) (w_96 H) (w_97 H) (by decide) (rmOk H m678 (own_cnt (own_pn K1 K2 A Bn W Hr) W) 7 mf679 (Int32.ofNat W) (Int32.ofNat A) (Int32.ofNat Bn) z688 z689 h685 (Nat.le_trans f683 K682.1) A680 (by omega) (by decide) okc.1 okc.2.1 okc.2.2.1 okc.2.2.2) pd_10 rfl rfl rfl rfl (by decide) (by decide) (by decide) (by decide) ?_
                                        rintro _ h699 ⟨rfl, rfl⟩
                                        show Go κ _ h685 _ _ 754 #[.val (.int p0), .val (.int p1), .val (.int p2), .val (.int p3), .val (.int p4), .val (.int p5), .val (.int (Int32.ofNat W)), .val (.int (Int32.ofNat Hr)), .val (.int (Int32.ofNat A)), .val (.int (0 : Int32)), .val (.int (Int32.ofNat Bn)), .val (.int (Int32.ofNat K1)), .val (.int (Int32.ofNat K2)), .val (.int (Int32.ofNat (K1 + K2))), .val (.ref a538), .val (.ref a590), .val (.ref m678), .val (.int z686), .val (.int z687), .val (.int z688), .val (.int z689), .val (.int z690)] [(.int (1 : Int32))]
                                        refine go_ifeq B d0_754 (fun c754 => ?_) (fun c754 => ?_)
                                        · exact absurd c754 (by decide)
                                        refine go_aload B d0_757 rfl rfl ?_
                                        refine go_bipush B (x := (8 : Int32)) d0_759 (by decide) ?_
                                        refine go_iload B d0_761 rfl ?_
                                        refine go_iload B d0_763 rfl ?_
                                        refine go_iload B d0_765 rfl ?_
                                        refine go_iload B d0_767 rfl ?_
                                        refine go_iload B d0_769 rfl ?_
                                        refine go_static B (W := 0) (argsL := [(.ref m678), (.int (8 : Int32)), (.int (Int32.ofNat W)), (.int (Int32.ofNat A)), (.int (Int32.ofNat Bn)), (.int z688), (.int z689)]) (st := []) d0_771 (w_94 H) (w_95 H) (w_96 H) (w_97 H) (by decide) (rmOk H m678 (own_cnt (own_pn K1 K2 A Bn W Hr) W) 8 mf679 (Int32.ofNat W) (Int32.ofNat A) (Int32.ofNat Bn) z688 z689 h685 (Nat.le_trans f683 K682.1) A680 (by omega) (by decide) okc.1 okc.2.1 okc.2.2.1 okc.2.2.2) pd_10 rfl rfl rfl rfl (by decide) (by decide) (by decide) (by decide) ?_
                                        rintro _ h700 ⟨rfl, rfl⟩
                                        show Go κ _ h685 _ _ 774 #[.val (.int p0), .val (.int p1), .val (.int p2), .val (.int p3), .val (.int p4), .val (.int p5), .val (.int (Int32.ofNat W)), .val (.int (Int32.ofNat Hr)), .val (.int (Int32.ofNat A)), .val (.int (0 : Int32)), .val (.int (Int32.ofNat Bn)), .val (.int (Int32.ofNat K1)), .val (.int (Int32.ofNat K2)), .val (.int (Int32.ofNat (K1 + K2))), .val (.ref a538), .val (.ref a590), .val (.ref m678), .val (.int z686), .val (.int z687), .val (.int z688), .val (.int z689), .val (.int z690)] [(.int (1 : Int32))]
                                        refine go_ifeq B d0_774 (fun c774 => ?_) (fun c774 => ?_)
                                        · exact absurd c774 (by decide)
                                        refine go_iconst B (x := (1 : Int32)) d0_777 rfl ?_
                                        refine go_goto B d0_778 ?_
                                        have f701 : km610 ≤ h685.size := (Nat.le_trans (Nat.le_trans (Nat.le_trans (Nat.le_trans (Nat.le_trans (Nat.le_trans (Nat.le_trans (Nat.le_trans (Nat.le_trans K611 K614.1) K620.1) K626.1) K632.1) K638.1) K644.1) K650.1) K656.1) K682.1)
                                        refine go_zreturn B (y := (1 : Int32)) d0_782 (by decide) (by decide) (by decide) ?_ (hkm := f701)
                                        exact rfl
                                      refine go_icmpne B d0_498 (fun c498 => ?_) (fun c498 => ?_)
                                      · skip
                                        refine go_iload B d0_509 rfl ?_
                                        refine go_istore B #[.val (.int p0), .val (.int p1), .val (.int p2), .val (.int p3), .val (.int p4), .val (.int p5), .val (.int (Int32.ofNat W)), .val (.int (Int32.ofNat Hr)), .val (.int (Int32.ofNat A)), .val (.int (0 : Int32)), .val (.int (Int32.ofNat Bn)), .val (.int (Int32.ofNat K1)), .val (.int (Int32.ofNat K2)), .val (.int (Int32.ofNat (K1 + K2))), .val (.ref a538), .val (.ref a590), .val (.ref m678), .val (.int (Int32.ofNat K1)), .unset, .unset, .unset, .unset] d0_511 rfl ?_
                                        refine go_iload B d0_513 rfl ?_
                                        refine go_iload B d0_515 rfl ?_
                                        refine go_icmpne B d0_517 (fun c517 => ?_) (fun c517 => ?_)
                                        rotate_left
                                        · exact absurd c517 c498
                                        refine go_iload B d0_528 rfl ?_
                                        refine go_istore B #[.val (.int p0), .val (.int p1), .val (.int p2), .val (.int p3), .val (.int p4), .val (.int p5), .val (.int (Int32.ofNat W)), .val (.int (Int32.ofNat Hr)), .val (.int (Int32.ofNat A)), .val (.int (0 : Int32)), .val (.int (Int32.ofNat Bn)), .val (.int (Int32.ofNat K1)), .val (.int (Int32.ofNat K2)), .val (.int (Int32.ofNat (K1 + K2))), .val (.ref a538), .val (.ref a590), .val (.ref m678), .val (.int (Int32.ofNat K1)), .val (.int (Int32.ofNat K2)), .unset, .unset, .unset] d0_530 rfl ?_
                                        refine go_iload B d0_532 rfl ?_
                                        refine go_iload B d0_534 rfl ?_
                                        refine go_icmpne B d0_536 (fun c536 => ?_) (fun c536 => ?_)
                                        · skip
                                          refine go_iconst B (x := (0 : Int32)) d0_543 rfl ?_
                                          refine go_istore B #[.val (.int p0), .val (.int p1), .val (.int p2), .val (.int p3), .val (.int p4), .val (.int p5), .val (.int (Int32.ofNat W)), .val (.int (Int32.ofNat Hr)), .val (.int (Int32.ofNat A)), .val (.int (0 : Int32)), .val (.int (Int32.ofNat Bn)), .val (.int (Int32.ofNat K1)), .val (.int (Int32.ofNat K2)), .val (.int (Int32.ofNat (K1 + K2))), .val (.ref a538), .val (.ref a590), .val (.ref m678), .val (.int (Int32.ofNat K1)), .val (.int (Int32.ofNat K2)), .val (.int (0 : Int32)), .unset, .unset] d0_544 rfl ?_
                                          refine go_iload B d0_546 rfl ?_
                                          refine go_iload B d0_548 rfl ?_
                                          refine go_icmpne B d0_550 (fun c550 => ?_) (fun c550 => ?_)
                                          · skip
                                            refine go_iconst B (x := (0 : Int32)) d0_557 rfl ?_
                                            refine go_istore B #[.val (.int p0), .val (.int p1), .val (.int p2), .val (.int p3), .val (.int p4), .val (.int p5), .val (.int (Int32.ofNat W)), .val (.int (Int32.ofNat Hr)), .val (.int (Int32.ofNat A)), .val (.int (0 : Int32)), .val (.int (Int32.ofNat Bn)), .val (.int (Int32.ofNat K1)), .val (.int (Int32.ofNat K2)), .val (.int (Int32.ofNat (K1 + K2))), .val (.ref a538), .val (.ref a590), .val (.ref m678), .val (.int (Int32.ofNat K1)), .val (.int (Int32.ofNat K2)), .val (.int (0 : Int32)), .val (.int (0 : Int32)), .unset] d0_558 rfl ?_
                                            refine go_iload B d0_560 rfl ?_
                                            refine go_ifeq B d0_562 (fun c562 => ?_) (fun c562 => ?_)
                                            rotate_left
                                            · exact absurd c562 (by decide)
                                            refine go_iconst B (x := (0 : Int32)) d0_569 rfl ?_
                                            refine go_iload B d0_570 rfl ?_
                                            refine go_ifeq B d0_572 (fun c572 => ?_) (fun c572 => ?_)
                                            rotate_left
                                            · exact absurd c572 (by decide)
                                            refine go_iconst B (x := (0 : Int32)) d0_586 rfl ?_
                                            refine go_iadd B d0_587 ?_
                                            rw [show ((0 : Int32) + (0 : Int32)) = (0 : Int32) from by decide]
                                            refine go_istore B #[.val (.int p0), .val (.int p1), .val (.int p2), .val (.int p3), .val (.int p4), .val (.int p5), .val (.int (Int32.ofNat W)), .val (.int (Int32.ofNat Hr)), .val (.int (Int32.ofNat A)), .val (.int (0 : Int32)), .val (.int (Int32.ofNat Bn)), .val (.int (Int32.ofNat K1)), .val (.int (Int32.ofNat K2)), .val (.int (Int32.ofNat (K1 + K2))), .val (.ref a538), .val (.ref a590), .val (.ref m678), .val (.int (Int32.ofNat K1)), .val (.int (Int32.ofNat K2)), .val (.int (0 : Int32)), .val (.int (0 : Int32)), .val (.int (0 : Int32))] d0_588 rfl ?_
                                            exact J691 _ _ _ _ _ (by have z := own_J_ne hW4 hW9 hA hB hH4 hH9 k1 k2 c498 false false ⟨fun q => (by cases q), fun q => absurd q c536⟩ ⟨fun q => (by cases q), fun q => absurd q c550⟩; first | exact z | simpa using z)
                                          · skip
                                            refine go_iconst B (x := (1 : Int32)) d0_553 rfl ?_
                                            refine go_goto B d0_554 ?_
                                            refine go_istore B #[.val (.int p0), .val (.int p1), .val (.int p2), .val (.int p3), .val (.int p4), .val (.int p5), .val (.int (Int32.ofNat W)), .val (.int (Int32.ofNat Hr)), .val (.int (Int32.ofNat A)), .val (.int (0 : Int32)), .val (.int (Int32.ofNat Bn)), .val (.int (Int32.ofNat K1)), .val (.int (Int32.ofNat K2)), .val (.int (Int32.ofNat (K1 + K2))), .val (.ref a538), .val (.ref a590), .val (.ref m678), .val (.int (Int32.ofNat K1)), .val (.int (Int32.ofNat K2)), .val (.int (0 : Int32)), .val (.int (1 : Int32)), .unset] d0_558 rfl ?_
                                            refine go_iload B d0_560 rfl ?_
                                            refine go_ifeq B d0_562 (fun c562 => ?_) (fun c562 => ?_)
                                            rotate_left
                                            · exact absurd c562 (by decide)
                                            refine go_iconst B (x := (0 : Int32)) d0_569 rfl ?_
                                            refine go_iload B d0_570 rfl ?_
                                            refine go_ifeq B d0_572 (fun c572 => ?_) (fun c572 => ?_)
                                            · exact absurd c572 (by decide)
                                            refine go_iload B d0_575 rfl ?_
                                            refine go_iload B d0_577 rfl ?_
                                            refine go_icmpeq B d0_579 (fun c579 => ?_) (fun c579 => ?_)
                                            · exact absurd c579.symm c498
                                            refine go_iconst B (x := (1 : Int32)) d0_582 rfl ?_
                                            refine go_goto B d0_583 ?_
                                            refine go_iadd B d0_587 ?_
                                            rw [show ((0 : Int32) + (1 : Int32)) = (1 : Int32) from by decide]
                                            refine go_istore B #[.val (.int p0), .val (.int p1), .val (.int p2), .val (.int p3), .val (.int p4), .val (.int p5), .val (.int (Int32.ofNat W)), .val (.int (Int32.ofNat Hr)), .val (.int (Int32.ofNat A)), .val (.int (0 : Int32)), .val (.int (Int32.ofNat Bn)), .val (.int (Int32.ofNat K1)), .val (.int (Int32.ofNat K2)), .val (.int (Int32.ofNat (K1 + K2))), .val (.ref a538), .val (.ref a590), .val (.ref m678), .val (.int (Int32.ofNat K1)), .val (.int (Int32.ofNat K2)), .val (.int (0 : Int32)), .val (.int (1 : Int32)), .val (.int (1 : Int32))] d0_588 rfl ?_
                                            exact J691 _ _ _ _ _ (by have z := own_J_ne hW4 hW9 hA hB hH4 hH9 k1 k2 c498 false true ⟨fun q => (by cases q), fun q => absurd q c536⟩ ⟨fun _ => c550, fun _ => rfl⟩; first | exact z | simpa using z)
                                        · skip
                                          refine go_iconst B (x := (1 : Int32)) d0_539 rfl ?_
                                          refine go_goto B d0_540 ?_
                                          refine go_istore B #[.val (.int p0), .val (.int p1), .val (.int p2), .val (.int p3), .val (.int p4), .val (.int p5), .val (.int (Int32.ofNat W)), .val (.int (Int32.ofNat Hr)), .val (.int (Int32.ofNat A)), .val (.int (0 : Int32)), .val (.int (Int32.ofNat Bn)), .val (.int (Int32.ofNat K1)), .val (.int (Int32.ofNat K2)), .val (.int (Int32.ofNat (K1 + K2))), .val (.ref a538), .val (.ref a590), .val (.ref m678), .val (.int (Int32.ofNat K1)), .val (.int (Int32.ofNat K2)), .val (.int (1 : Int32)), .unset, .unset] d0_544 rfl ?_
                                          refine go_iload B d0_546 rfl ?_
                                          refine go_iload B d0_548 rfl ?_
                                          refine go_icmpne B d0_550 (fun c550 => ?_) (fun c550 => ?_)
                                          · skip
                                            refine go_iconst B (x := (0 : Int32)) d0_557 rfl ?_
                                            refine go_istore B #[.val (.int p0), .val (.int p1), .val (.int p2), .val (.int p3), .val (.int p4), .val (.int p5), .val (.int (Int32.ofNat W)), .val (.int (Int32.ofNat Hr)), .val (.int (Int32.ofNat A)), .val (.int (0 : Int32)), .val (.int (Int32.ofNat Bn)), .val (.int (Int32.ofNat K1)), .val (.int (Int32.ofNat K2)), .val (.int (Int32.ofNat (K1 + K2))), .val (.ref a538), .val (.ref a590), .val (.ref m678), .val (.int (Int32.ofNat K1)), .val (.int (Int32.ofNat K2)), .val (.int (1 : Int32)), .val (.int (0 : Int32)), .unset] d0_558 rfl ?_
                                            refine go_iload B d0_560 rfl ?_
                                            refine go_ifeq B d0_562 (fun c562 => ?_) (fun c562 => ?_)
                                            · exact absurd c562 (by decide)
                                            refine go_iconst B (x := (1 : Int32)) d0_565 rfl ?_
                                            refine go_goto B d0_566 ?_
                                            refine go_iload B d0_570 rfl ?_
                                            refine go_ifeq B d0_572 (fun c572 => ?_) (fun c572 => ?_)
                                            rotate_left
                                            · exact absurd c572 (by decide)
                                            refine go_iconst B (x := (0 : Int32)) d0_586 rfl ?_
                                            refine go_iadd B d0_587 ?_
                                            rw [show ((1 : Int32) + (0 : Int32)) = (1 : Int32) from by decide]
                                            refine go_istore B #[.val (.int p0), .val (.int p1), .val (.int p2), .val (.int p3), .val (.int p4), .val (.int p5), .val (.int (Int32.ofNat W)), .val (.int (Int32.ofNat Hr)), .val (.int (Int32.ofNat A)), .val (.int (0 : Int32)), .val (.int (Int32.ofNat Bn)), .val (.int (Int32.ofNat K1)), .val (.int (Int32.ofNat K2)), .val (.int (Int32.ofNat (K1 + K2))), .val (.ref a538), .val (.ref a590), .val (.ref m678), .val (.int (Int32.ofNat K1)), .val (.int (Int32.ofNat K2)), .val (.int (1 : Int32)), .val (.int (0 : Int32)), .val (.int (1 : Int32))] d0_588 rfl ?_
                                            exact J691 _ _ _ _ _ (by have z := own_J_ne hW4 hW9 hA hB hH4 hH9 k1 k2 c498 true false ⟨fun _ => c536, fun _ => rfl⟩ ⟨fun q => (by cases q), fun q => absurd q c550⟩; first | exact z | simpa using z)
                                          · skip
                                            refine go_iconst B (x := (1 : Int32)) d0_553 rfl ?_
                                            refine go_goto B d0_554 ?_
                                            refine go_istore B #[.val (.int p0), .val (.int p1), .val (.int p2), .val (.int p3), .val (.int p4), .val (.int p5), .val (.int (Int32.ofNat W)), .val (.int (Int32.ofNat Hr)), .val (.int (Int32.ofNat A)), .val (.int (0 : Int32)), .val (.int (Int32.ofNat Bn)), .val (.int (Int32.ofNat K1)), .val (.int (Int32.ofNat K2)), .val (.int (Int32.ofNat (K1 + K2))), .val (.ref a538), .val (.ref a590), .val (.ref m678), .val (.int (Int32.ofNat K1)), .val (.int (Int32.ofNat K2)), .val (.int (1 : Int32)), .val (.int (1 : Int32)), .unset] d0_558 rfl ?_
                                            refine go_iload B d0_560 rfl ?_
                                            refine go_ifeq B d0_562 (fun c562 => ?_) (fun c562 => ?_)
                                            · exact absurd c562 (by decide)
                                            refine go_iconst B (x := (1 : Int32)) d0_565 rfl ?_
                                            refine go_goto B d0_566 ?_
                                            refine go_iload B d0_570 rfl ?_
                                            refine go_ifeq B d0_572 (fun c572 => ?_) (fun c572 => ?_)
                                            · exact absurd c572 (by decide)
                                            refine go_iload B d0_575 rfl ?_
                                            refine go_iload B d0_577 rfl ?_
                                            refine go_icmpeq B d0_579 (fun c579 => ?_) (fun c579 => ?_)
                                            · exact absurd c579.symm c498
                                            refine go_iconst B (x := (1 : Int32)) d0_582 rfl ?_
                                            refine go_goto B d0_583 ?_
                                            refine go_iadd B d0_587 ?_
                                            rw [show ((1 : Int32) + (1 : Int32)) = (2 : Int32) from by decide]
                                            refine go_istore B #[.val (.int p0), .val (.int p1), .val (.int p2), .val (.int p3), .val (.int p4), .val (.int p5), .val (.int (Int32.ofNat W)), .val (.int (Int32.ofNat Hr)), .val (.int (Int32.ofNat A)), .val (.int (0 : Int32)), .val (.int (Int32.ofNat Bn)), .val (.int (Int32.ofNat K1)), .val (.int (Int32.ofNat K2)), .val (.int (Int32.ofNat (K1 + K2))), .val (.ref a538), .val (.ref a590), .val (.ref m678), .val (.int (Int32.ofNat K1)), .val (.int (Int32.ofNat K2)), .val (.int (1 : Int32)), .val (.int (1 : Int32)), .val (.int (2 : Int32))] d0_588 rfl ?_
                                            exact J691 _ _ _ _ _ (by have z := own_J_ne hW4 hW9 hA hB hH4 hH9 k1 k2 c498 true true ⟨fun _ => c536, fun _ => rfl⟩ ⟨fun _ => c550, fun _ => rfl⟩; first | exact z | simpa using z)
                                      · skip
                                        refine go_iload B d0_501 rfl ?_
                                        refine go_iload B d0_503 rfl ?_
                                        refine go_iadd B d0_505 ?_
                                        rw [show ((Int32.ofNat K1) + (Int32.ofNat K2)) = (Int32.ofNat (K1 + K2)) from n_add]
                                        refine go_goto B d0_506 ?_
                                        refine go_istore B #[.val (.int p0), .val (.int p1), .val (.int p2), .val (.int p3), .val (.int p4), .val (.int p5), .val (.int (Int32.ofNat W)), .val (.int (Int32.ofNat Hr)), .val (.int (Int32.ofNat A)), .val (.int (0 : Int32)), .val (.int (Int32.ofNat Bn)), .val (.int (Int32.ofNat K1)), .val (.int (Int32.ofNat K2)), .val (.int (Int32.ofNat (K1 + K2))), .val (.ref a538), .val (.ref a590), .val (.ref m678), .val (.int (Int32.ofNat (K1 + K2))), .unset, .unset, .unset, .unset] d0_511 rfl ?_
                                        refine go_iload B d0_513 rfl ?_
                                        refine go_iload B d0_515 rfl ?_
                                        refine go_icmpne B d0_517 (fun c517 => ?_) (fun c517 => ?_)
                                        · exact absurd c498 c517
                                        refine go_iload B d0_520 rfl ?_
                                        refine go_iload B d0_522 rfl ?_
                                        refine go_iadd B d0_524 ?_
                                        rw [show ((Int32.ofNat K1) + (Int32.ofNat K2)) = (Int32.ofNat (K1 + K2)) from n_add]
                                        refine go_goto B d0_525 ?_
                                        refine go_istore B #[.val (.int p0), .val (.int p1), .val (.int p2), .val (.int p3), .val (.int p4), .val (.int p5), .val (.int (Int32.ofNat W)), .val (.int (Int32.ofNat Hr)), .val (.int (Int32.ofNat A)), .val (.int (0 : Int32)), .val (.int (Int32.ofNat Bn)), .val (.int (Int32.ofNat K1)), .val (.int (Int32.ofNat K2)), .val (.int (Int32.ofNat (K1 + K2))), .val (.ref a538), .val (.ref a590), .val (.ref m678), .val (.int (Int32.ofNat (K1 + K2))), .val (.int (Int32.ofNat (K1 + K2))), .unset, .unset, .unset] d0_530 rfl ?_
                                        refine go_iload B d0_532 rfl ?_
                                        refine go_iload B d0_534 rfl ?_
                                        refine go_icmpne B d0_536 (fun c536 => ?_) (fun c536 => ?_)
                                        · skip
                                          refine go_iconst B (x := (0 : Int32)) d0_543 rfl ?_
                                          refine go_istore B #[.val (.int p0), .val (.int p1), .val (.int p2), .val (.int p3), .val (.int p4), .val (.int p5), .val (.int (Int32.ofNat W)), .val (.int (Int32.ofNat Hr)), .val (.int (Int32.ofNat A)), .val (.int (0 : Int32)), .val (.int (Int32.ofNat Bn)), .val (.int (Int32.ofNat K1)), .val (.int (Int32.ofNat K2)), .val (.int (Int32.ofNat (K1 + K2))), .val (.ref a538), .val (.ref a590), .val (.ref m678), .val (.int (Int32.ofNat (K1 + K2))), .val (.int (Int32.ofNat (K1 + K2))), .val (.int (0 : Int32)), .unset, .unset] d0_544 rfl ?_
                                          refine go_iload B d0_546 rfl ?_
                                          refine go_iload B d0_548 rfl ?_
                                          refine go_icmpne B d0_550 (fun c550 => ?_) (fun c550 => ?_)
                                          rotate_left
                                          · exact absurd c550 c536
                                          refine go_iconst B (x := (0 : Int32)) d0_557 rfl ?_
                                          refine go_istore B #[.val (.int p0), .val (.int p1), .val (.int p2), .val (.int p3), .val (.int p4), .val (.int p5), .val (.int (Int32.ofNat W)), .val (.int (Int32.ofNat Hr)), .val (.int (Int32.ofNat A)), .val (.int (0 : Int32)), .val (.int (Int32.ofNat Bn)), .val (.int (Int32.ofNat K1)), .val (.int (Int32.ofNat K2)), .val (.int (Int32.ofNat (K1 + K2))), .val (.ref a538), .val (.ref a590), .val (.ref m678), .val (.int (Int32.ofNat (K1 + K2))), .val (.int (Int32.ofNat (K1 + K2))), .val (.int (0 : Int32)), .val (.int (0 : Int32)), .unset] d0_558 rfl ?_
                                          refine go_iload B d0_560 rfl ?_
                                          refine go_ifeq B d0_562 (fun c562 => ?_) (fun c562 => ?_)
                                          rotate_left
                                          · exact absurd c562 (by decide)
                                          refine go_iconst B (x := (0 : Int32)) d0_569 rfl ?_
                                          refine go_iload B d0_570 rfl ?_
                                          refine go_ifeq B d0_572 (fun c572 => ?_) (fun c572 => ?_)
                                          rotate_left
                                          · exact absurd c572 (by decide)
                                          refine go_iconst B (x := (0 : Int32)) d0_586 rfl ?_
                                          refine go_iadd B d0_587 ?_
                                          rw [show ((0 : Int32) + (0 : Int32)) = (0 : Int32) from by decide]
                                          refine go_istore B #[.val (.int p0), .val (.int p1), .val (.int p2), .val (.int p3), .val (.int p4), .val (.int p5), .val (.int (Int32.ofNat W)), .val (.int (Int32.ofNat Hr)), .val (.int (Int32.ofNat A)), .val (.int (0 : Int32)), .val (.int (Int32.ofNat Bn)), .val (.int (Int32.ofNat K1)), .val (.int (Int32.ofNat K2)), .val (.int (Int32.ofNat (K1 + K2))), .val (.ref a538), .val (.ref a590), .val (.ref m678), .val (.int (Int32.ofNat (K1 + K2))), .val (.int (Int32.ofNat (K1 + K2))), .val (.int (0 : Int32)), .val (.int (0 : Int32)), .val (.int (0 : Int32))] d0_588 rfl ?_
                                          exact J691 _ _ _ _ _ (by have z := own_J_eq hW4 hW9 hA hB hH4 hH9 k1 k2 hs2 c498 false ⟨fun q => (by cases q), fun q => absurd q c536⟩; first | exact z | simpa using z)
                                        · skip
                                          refine go_iconst B (x := (1 : Int32)) d0_539 rfl ?_
                                          refine go_goto B d0_540 ?_
                                          refine go_istore B #[.val (.int p0), .val (.int p1), .val (.int p2), .val (.int p3), .val (.int p4), .val (.int p5), .val (.int (Int32.ofNat W)), .val (.int (Int32.ofNat Hr)), .val (.int (Int32.ofNat A)), .val (.int (0 : Int32)), .val (.int (Int32.ofNat Bn)), .val (.int (Int32.ofNat K1)), .val (.int (Int32.ofNat K2)), .val (.int (Int32.ofNat (K1 + K2))), .val (.ref a538), .val (.ref a590), .val (.ref m678), .val (.int (Int32.ofNat (K1 + K2))), .val (.int (Int32.ofNat (K1 + K2))), .val (.int (1 : Int32)), .unset, .unset] d0_544 rfl ?_
                                          refine go_iload B d0_546 rfl ?_
                                          refine go_iload B d0_548 rfl ?_
                                          refine go_icmpne B d0_550 (fun c550 => ?_) (fun c550 => ?_)
                                          · exact absurd c536 c550
                                          refine go_iconst B (x := (1 : Int32)) d0_553 rfl ?_
                                          refine go_goto B d0_554 ?_
                                          refine go_istore B #[.val (.int p0), .val (.int p1), .val (.int p2), .val (.int p3), .val (.int p4), .val (.int p5), .val (.int (Int32.ofNat W)), .val (.int (Int32.ofNat Hr)), .val (.int (Int32.ofNat A)), .val (.int (0 : Int32)), .val (.int (Int32.ofNat Bn)), .val (.int (Int32.ofNat K1)), .val (.int (Int32.ofNat K2)), .val (.int (Int32.ofNat (K1 + K2))), .val (.ref a538), .val (.ref a590), .val (.ref m678), .val (.int (Int32.ofNat (K1 + K2))), .val (.int (Int32.ofNat (K1 + K2))), .val (.int (1 : Int32)), .val (.int (1 : Int32)), .unset] d0_558 rfl ?_
                                          refine go_iload B d0_560 rfl ?_
                                          refine go_ifeq B d0_562 (fun c562 => ?_) (fun c562 => ?_)
                                          · exact absurd c562 (by decide)
                                          refine go_iconst B (x := (1 : Int32)) d0_565 rfl ?_
                                          refine go_goto B d0_566 ?_
                                          refine go_iload B d0_570 rfl ?_
                                          refine go_ifeq B d0_572 (fun c572 => ?_) (fun c572 => ?_)
                                          · exact absurd c572 (by decide)
                                          refine go_iload B d0_575 rfl ?_
                                          refine go_iload B d0_577 rfl ?_
                                          refine go_icmpeq B d0_579 (fun c579 => ?_) (fun c579 => ?_)
                                          rotate_left
                                          · exact absurd c498.symm c579
                                          refine go_iconst B (x := (0 : Int32)) d0_586 rfl ?_
                                          refine go_iadd B d0_587 ?_
                                          rw [show ((1 : Int32) + (0 : Int32)) = (1 : Int32) from by decide]
                                          refine go_istore B #[.val (.int p0), .val (.int p1), .val (.int p2), .val (.int p3), .val (.int p4), .val (.int p5), .val (.int (Int32.ofNat W)), .val (.int (Int32.ofNat Hr)), .val (.int (Int32.ofNat A)), .val (.int (0 : Int32)), .val (.int (Int32.ofNat Bn)), .val (.int (Int32.ofNat K1)), .val (.int (Int32.ofNat K2)), .val (.int (Int32.ofNat (K1 + K2))), .val (.ref a538), .val (.ref a590), .val (.ref m678), .val (.int (Int32.ofNat (K1 + K2))), .val (.int (Int32.ofNat (K1 + K2))), .val (.int (1 : Int32)), .val (.int (1 : Int32)), .val (.int (1 : Int32))] d0_588 rfl ?_
                                          exact J691 _ _ _ _ _ (by have z := own_J_eq hW4 hW9 hA hB hH4 hH9 k1 k2 hs2 c498 true ⟨fun _ => c536, fun _ => rfl⟩; first | exact z | simpa using z)
                                    refine go_icmple B d0_457 (fun c457 => ?_) (fun c457 => ?_)
                                    · skip
                                      exact J655 h648  ⟨Keep.refl _ _, P651, (by have := i_of_nlt (show (7 : Int32).toInt = 7 from rfl) (i_ofNat (n := K1 + K2) (by omega)) c457; omega), G653⟩
                                    · skip
                                      refine go_aload B d0_460 rfl rfl ?_
                                      refine go_aload B d0_462 rfl rfl ?_
                                      refine go_bipush B (x := (7 : Int32)) d0_464 (by decide) ?_
                                      have f702 : AV Z h648 a538 .int [(.int (Int32.ofNat (own_cq K1 A Bn 0))), (.int (Int32.ofNat (own_cq K1 A Bn 1))), (.int (Int32.ofNat (own_cq K1 A Bn 2))), (.int (Int32.ofNat (own_cq K1 A Bn 3))), (.int (Int32.ofNat (own_cq K1 A Bn 4))), (.int (Int32.ofNat (own_cq K1 A Bn 5))), (.int (Int32.ofNat (own_cq K1 A Bn 6))), (.int (Int32.ofNat (own_cq K1 A Bn 7)))] := (AV.keep (AV.keep (AV.keep (AV.keep (AV.keep (AV.keep (AV.keep (AV.keep (AV.ext A588 Ea590) K599 (ninS (Ne.symm ne_a590_a538) nin0)) K614 (ninS (Ne.symm ne_a590_a538) (ninS ne_a538_sq593 (ninS ne_a538_hs594 (ninS ne_a538_pl595 nin0))))) K620 (ninS (Ne.symm ne_a590_a538) (ninS ne_a538_sq593 (ninS ne_a538_hs594 (ninS ne_a538_pl595 nin0))))) K626 (ninS (Ne.symm ne_a590_a538) (ninS ne_a538_sq593 (ninS ne_a538_hs594 (ninS ne_a538_pl595 nin0))))) K632 (ninS (Ne.symm ne_a590_a538) (ninS ne_a538_sq593 (ninS ne_a538_hs594 (ninS ne_a538_pl595 nin0))))) K638 (ninS (Ne.symm ne_a590_a538) (ninS ne_a538_sq593 (ninS ne_a538_hs594 (ninS ne_a538_pl595 nin0))))) K644 (ninS (Ne.symm ne_a590_a538) (ninS ne_a538_sq593 (ninS ne_a538_hs594 (ninS ne_a538_pl595 nin0))))) K650 (ninS (Ne.symm ne_a590_a538) (ninS ne_a538_sq593 (ninS ne_a538_hs594 (ninS ne_a538_pl595 nin0)))))
                                      refine go_iaload B (i := 7) (v := (.int (Int32.ofNat (own_cq K1 A Bn 7)))) d0_466 f702 rfl rfl ?_
                                      have f705 : n0 ≤ h648.size := (Nat.le_trans (Nat.le_trans (Nat.le_trans (Nat.le_trans (Nat.le_trans (Nat.le_trans (Nat.le_trans (Nat.le_trans (Nat.le_trans f592 Ea590.1) K599.1) K614.1) K620.1) K626.1) K632.1) K638.1) K644.1) K650.1)
                                      have lt706 : 7 < K1 + K2 := by have := i_of_lt (show (7 : Int32).toInt = 7 from rfl) (i_ofNat (n := K1 + K2) (by omega)) c457; omega
                                      have pi707 : P651 = 7 := by omega
                                      have f708 : Exa Z h648 a590 "com/example/plywright/plywright/games/ConnectFour" := (Exa.keep (Exa.keep (Exa.keep (Exa.keep (Exa.keep (Exa.keep (Exa.keep (Exa.keep Aa590 K599) K614) K620) K626) K632) K638) K644) K650)
                                      refine go_virtual B (W := 0) (a := a590) (argsL := [(.int (Int32.ofNat (own_cq K1 A Bn 7)))]) (st := []) d0_467 (w_58 H) (w_59 H) (w_61 H) (w_60 H) (w_4 H) (w_62 H) (by decide) f708 (own_pl0 H a590 sq593 hs594 pl595 zb596 la597 cf598 W Hr P651 A Bn (own_cq K1 A Bn 7) zf600 (own_cq K1 A Bn) h648 f705 (own_cq_lt hA hB) (own_cq_ab K1 A Bn) (own_cq_con K1 A Bn P651) (by rw [pi707]) (by rw [pi707]; exact own_row lt706 k1 k2 hH4 hs2) hW9 hH9 (by omega) D601 G653) pd_11 rfl rfl rfl rfl (by decide) (by decide) (by decide) (by decide) ?_
                                      rintro _ h709 ⟨rfl, K703, G704⟩
                                      show Go κ _ h709 _ _ 470 #[.val (.int p0), .val (.int p1), .val (.int p2), .val (.int p3), .val (.int p4), .val (.int p5), .val (.int (Int32.ofNat W)), .val (.int (Int32.ofNat Hr)), .val (.int (Int32.ofNat A)), .val (.int (0 : Int32)), .val (.int (Int32.ofNat Bn)), .val (.int (Int32.ofNat K1)), .val (.int (Int32.ofNat K2)), .val (.int (Int32.ofNat (K1 + K2))), .val (.ref a538), .val (.ref a590), .unset, .unset, .unset, .unset, .unset, .unset] []
                                      exact J655 h709  ⟨K703, P651 + 1, (by omega), G704⟩
                                  refine go_icmple B d0_440 (fun c440 => ?_) (fun c440 => ?_)
                                  · skip
                                    exact J649 h642  ⟨Keep.refl _ _, P645, (by have := i_of_nlt (show (6 : Int32).toInt = 6 from rfl) (i_ofNat (n := K1 + K2) (by omega)) c440; omega), G647⟩
                                  · skip
                                    refine go_aload B d0_443 rfl rfl ?_
                                    refine go_aload B d0_445 rfl rfl ?_
                                    refine go_bipush B (x := (6 : Int32)) d0_447 (by decide) ?_
                                    have f710 : AV Z h642 a538 .int [(.int (Int32.ofNat (own_cq K1 A Bn 0))), (.int (Int32.ofNat (own_cq K1 A Bn 1))), (.int (Int32.ofNat (own_cq K1 A Bn 2))), (.int (Int32.ofNat (own_cq K1 A Bn 3))), (.int (Int32.ofNat (own_cq K1 A Bn 4))), (.int (Int32.ofNat (own_cq K1 A Bn 5))), (.int (Int32.ofNat (own_cq K1 A Bn 6))), (.int (Int32.ofNat (own_cq K1 A Bn 7)))] := (AV.keep (AV.keep (AV.keep (AV.keep (AV.keep (AV.keep (AV.keep (AV.ext A588 Ea590) K599 (ninS (Ne.symm ne_a590_a538) nin0)) K614 (ninS (Ne.symm ne_a590_a538) (ninS ne_a538_sq593 (ninS ne_a538_hs594 (ninS ne_a538_pl595 nin0))))) K620 (ninS (Ne.symm ne_a590_a538) (ninS ne_a538_sq593 (ninS ne_a538_hs594 (ninS ne_a538_pl595 nin0))))) K626 (ninS (Ne.symm ne_a590_a538) (ninS ne_a538_sq593 (ninS ne_a538_hs594 (ninS ne_a538_pl595 nin0))))) K632 (ninS (Ne.symm ne_a590_a538) (ninS ne_a538_sq593 (ninS ne_a538_hs594 (ninS ne_a538_pl595 nin0))))) K638 (ninS (Ne.symm ne_a590_a538) (ninS ne_a538_sq593 (ninS ne_a538_hs594 (ninS ne_a538_pl595 nin0))))) K644 (ninS (Ne.symm ne_a590_a538) (ninS ne_a538_sq593 (ninS ne_a538_hs594 (ninS ne_a538_pl595 nin0)))))
                                    refine go_iaload B (i := 6) (v := (.int (Int32.ofNat (own_cq K1 A Bn 6)))) d0_449 f710 rfl rfl ?_
                                    have f713 : n0 ≤ h642.size := (Nat.le_trans (Nat.le_trans (Nat.le_trans (Nat.le_trans (Nat.le_trans (Nat.le_trans (Nat.le_trans (Nat.le_trans f592 Ea590.1) K599.1) K614.1) K620.1) K626.1) K632.1) K638.1) K644.1)
                                    have lt714 : 6 < K1 + K2 := by have := i_of_lt (show (6 : Int32).toInt = 6 from rfl) (i_ofNat (n := K1 + K2) (by omega)) c440; omega
                                    have pi715 : P645 = 6 := by omega
                                    have f716 : Exa Z h642 a590 "com/example/plywright/plywright/games/ConnectFour" := (Exa.keep (Exa.keep (Exa.keep (Exa.keep (Exa.keep (Exa.keep (Exa.keep Aa590 K599) K614) K620) K626) K632) K638) K644)
                                    refine go_virtual B (W := 0) (a := a590) (argsL := [(.int (Int32.ofNat (own_cq K1 A Bn 6)))]) (st := []) d0_450 (w_58 H) (w_59 H) (w_61 H) (w_60 H) (w_4 H) (w_62 H) (by decide) f716 (own_pl0 H a590 sq593 hs594 pl595 zb596 la597 cf598 W Hr P645 A Bn (own_cq K1 A Bn 6) zf600 (own_cq K1 A Bn) h642 f713 (own_cq_lt hA hB) (own_cq_ab K1 A Bn) (own_cq_con K1 A Bn P645) (by rw [pi715]) (by rw [pi715]; exact own_row lt714 k1 k2 hH4 hs2) hW9 hH9 (by omega) D601 G647) pd_11 rfl rfl rfl rfl (by decide) (by decide) (by decide) (by decide) ?_
                                    rintro _ h717 ⟨rfl, K711, G712⟩
                                    show Go κ _ h717 _ _ 453 #[.val (.int p0), .val (.int p1), .val (.int p2), .val (.int p3), .val (.int p4), .val (.int p5), .val (.int (Int32.ofNat W)), .val (.int (Int32.ofNat Hr)), .val (.int (Int32.ofNat A)), .val (.int (0 : Int32)), .val (.int (Int32.ofNat Bn)), .val (.int (Int32.ofNat K1)), .val (.int (Int32.ofNat K2)), .val (.int (Int32.ofNat (K1 + K2))), .val (.ref a538), .val (.ref a590), .unset, .unset, .unset, .unset, .unset, .unset] []
                                    exact J649 h717  ⟨K711, P645 + 1, (by omega), G712⟩
                                refine go_icmple B d0_424 (fun c424 => ?_) (fun c424 => ?_)
                                · skip
                                  exact J643 h636  ⟨Keep.refl _ _, P639, (by have := i_of_nlt (show (5 : Int32).toInt = 5 from rfl) (i_ofNat (n := K1 + K2) (by omega)) c424; omega), G641⟩
                                · skip
                                  refine go_aload B d0_427 rfl rfl ?_
                                  refine go_aload B d0_429 rfl rfl ?_
                                  refine go_iconst B (x := (5 : Int32)) d0_431 rfl ?_
                                  have f718 : AV Z h636 a538 .int [(.int (Int32.ofNat (own_cq K1 A Bn 0))), (.int (Int32.ofNat (own_cq K1 A Bn 1))), (.int (Int32.ofNat (own_cq K1 A Bn 2))), (.int (Int32.ofNat (own_cq K1 A Bn 3))), (.int (Int32.ofNat (own_cq K1 A Bn 4))), (.int (Int32.ofNat (own_cq K1 A Bn 5))), (.int (Int32.ofNat (own_cq K1 A Bn 6))), (.int (Int32.ofNat (own_cq K1 A Bn 7)))] := (AV.keep (AV.keep (AV.keep (AV.keep (AV.keep (AV.keep (AV.ext A588 Ea590) K599 (ninS (Ne.symm ne_a590_a538) nin0)) K614 (ninS (Ne.symm ne_a590_a538) (ninS ne_a538_sq593 (ninS ne_a538_hs594 (ninS ne_a538_pl595 nin0))))) K620 (ninS (Ne.symm ne_a590_a538) (ninS ne_a538_sq593 (ninS ne_a538_hs594 (ninS ne_a538_pl595 nin0))))) K626 (ninS (Ne.symm ne_a590_a538) (ninS ne_a538_sq593 (ninS ne_a538_hs594 (ninS ne_a538_pl595 nin0))))) K632 (ninS (Ne.symm ne_a590_a538) (ninS ne_a538_sq593 (ninS ne_a538_hs594 (ninS ne_a538_pl595 nin0))))) K638 (ninS (Ne.symm ne_a590_a538) (ninS ne_a538_sq593 (ninS ne_a538_hs594 (ninS ne_a538_pl595 nin0)))))
                                  refine go_iaload B (i := 5) (v := (.int (Int32.ofNat (own_cq K1 A Bn 5)))) d0_432 f718 rfl rfl ?_
                                  have f721 : n0 ≤ h636.size := (Nat.le_trans (Nat.le_trans (Nat.le_trans (Nat.le_trans (Nat.le_trans (Nat.le_trans (Nat.le_trans f592 Ea590.1) K599.1) K614.1) K620.1) K626.1) K632.1) K638.1)
                                  have lt722 : 5 < K1 + K2 := by have := i_of_lt (show (5 : Int32).toInt = 5 from rfl) (i_ofNat (n := K1 + K2) (by omega)) c424; omega
                                  have pi723 : P639 = 5 := by omega
                                  have f724 : Exa Z h636 a590 "com/example/plywright/plywright/games/ConnectFour" := (Exa.keep (Exa.keep (Exa.keep (Exa.keep (Exa.keep (Exa.keep Aa590 K599) K614) K620) K626) K632) K638)
                                  refine go_virtual B (W := 0) (a := a590) (argsL := [(.int (Int32.ofNat (own_cq K1 A Bn 5)))]) (st := []) d0_433 (w_58 H) (w_59 H) (w_61 H) (w_60 H) (w_4 H) (w_62 H) (by decide) f724 (own_pl0 H a590 sq593 hs594 pl595 zb596 la597 cf598 W Hr P639 A Bn (own_cq K1 A Bn 5) zf600 (own_cq K1 A Bn) h636 f721 (own_cq_lt hA hB) (own_cq_ab K1 A Bn) (own_cq_con K1 A Bn P639) (by rw [pi723]) (by rw [pi723]; exact own_row lt722 k1 k2 hH4 hs2) hW9 hH9 (by omega) D601 G641) pd_11 rfl rfl rfl rfl (by decide) (by decide) (by decide) (by decide) ?_
                                  rintro _ h725 ⟨rfl, K719, G720⟩
                                  show Go κ _ h725 _ _ 436 #[.val (.int p0), .val (.int p1), .val (.int p2), .val (.int p3), .val (.int p4), .val (.int p5), .val (.int (Int32.ofNat W)), .val (.int (Int32.ofNat Hr)), .val (.int (Int32.ofNat A)), .val (.int (0 : Int32)), .val (.int (Int32.ofNat Bn)), .val (.int (Int32.ofNat K1)), .val (.int (Int32.ofNat K2)), .val (.int (Int32.ofNat (K1 + K2))), .val (.ref a538), .val (.ref a590), .unset, .unset, .unset, .unset, .unset, .unset] []
                                  exact J643 h725  ⟨K719, P639 + 1, (by omega), G720⟩
                              refine go_icmple B d0_409 (fun c409 => ?_) (fun c409 => ?_)
                              · skip
                                exact J637 h630  ⟨Keep.refl _ _, P633, (by have := i_of_nlt (show (4 : Int32).toInt = 4 from rfl) (i_ofNat (n := K1 + K2) (by omega)) c409; omega), G635⟩
                              · skip
                                refine go_aload B d0_412 rfl rfl ?_
                                refine go_aload B d0_414 rfl rfl ?_
                                refine go_iconst B (x := (4 : Int32)) d0_416 rfl ?_
                                have f726 : AV Z h630 a538 .int [(.int (Int32.ofNat (own_cq K1 A Bn 0))), (.int (Int32.ofNat (own_cq K1 A Bn 1))), (.int (Int32.ofNat (own_cq K1 A Bn 2))), (.int (Int32.ofNat (own_cq K1 A Bn 3))), (.int (Int32.ofNat (own_cq K1 A Bn 4))), (.int (Int32.ofNat (own_cq K1 A Bn 5))), (.int (Int32.ofNat (own_cq K1 A Bn 6))), (.int (Int32.ofNat (own_cq K1 A Bn 7)))] := (AV.keep (AV.keep (AV.keep (AV.keep (AV.keep (AV.ext A588 Ea590) K599 (ninS (Ne.symm ne_a590_a538) nin0)) K614 (ninS (Ne.symm ne_a590_a538) (ninS ne_a538_sq593 (ninS ne_a538_hs594 (ninS ne_a538_pl595 nin0))))) K620 (ninS (Ne.symm ne_a590_a538) (ninS ne_a538_sq593 (ninS ne_a538_hs594 (ninS ne_a538_pl595 nin0))))) K626 (ninS (Ne.symm ne_a590_a538) (ninS ne_a538_sq593 (ninS ne_a538_hs594 (ninS ne_a538_pl595 nin0))))) K632 (ninS (Ne.symm ne_a590_a538) (ninS ne_a538_sq593 (ninS ne_a538_hs594 (ninS ne_a538_pl595 nin0)))))
                                refine go_iaload B (i := 4) (v := (.int (Int32.ofNat (own_cq K1 A Bn 4)))) d0_417 f726 rfl rfl ?_
                                have f729 : n0 ≤ h630.size := (Nat.le_trans (Nat.le_trans (Nat.le_trans (Nat.le_trans (Nat.le_trans (Nat.le_trans f592 Ea590.1) K599.1) K614.1) K620.1) K626.1) K632.1)
                                have lt730 : 4 < K1 + K2 := by have := i_of_lt (show (4 : Int32).toInt = 4 from rfl) (i_ofNat (n := K1 + K2) (by omega)) c409; omega
                                have pi731 : P633 = 4 := by omega
                                have f732 : Exa Z h630 a590 "com/example/plywright/plywright/games/ConnectFour" := (Exa.keep (Exa.keep (Exa.keep (Exa.keep (Exa.keep Aa590 K599) K614) K620) K626) K632)
                                refine go_virtual B (W := 0) (a := a590) (argsL := [(.int (Int32.ofNat (own_cq K1 A Bn 4)))]) (st := []) d0_418 (w_58 H) (w_59 H) (w_61 H) (w_60 H) (w_4 H) (w_62 H) (by decide) f732 (own_pl0 H a590 sq593 hs594 pl595 zb596 la597 cf598 W Hr P633 A Bn (own_cq K1 A Bn 4) zf600 (own_cq K1 A Bn) h630 f729 (own_cq_lt hA hB) (own_cq_ab K1 A Bn) (own_cq_con K1 A Bn P633) (by rw [pi731]) (by rw [pi731]; exact own_row lt730 k1 k2 hH4 hs2) hW9 hH9 (by omega) D601 G635) pd_11 rfl rfl rfl rfl (by decide) (by decide) (by decide) (by decide) ?_
                                rintro _ h733 ⟨rfl, K727, G728⟩
                                show Go κ _ h733 _ _ 421 #[.val (.int p0), .val (.int p1), .val (.int p2), .val (.int p3), .val (.int p4), .val (.int p5), .val (.int (Int32.ofNat W)), .val (.int (Int32.ofNat Hr)), .val (.int (Int32.ofNat A)), .val (.int (0 : Int32)), .val (.int (Int32.ofNat Bn)), .val (.int (Int32.ofNat K1)), .val (.int (Int32.ofNat K2)), .val (.int (Int32.ofNat (K1 + K2))), .val (.ref a538), .val (.ref a590), .unset, .unset, .unset, .unset, .unset, .unset] []
                                exact J637 h733  ⟨K727, P633 + 1, (by omega), G728⟩
                            refine go_icmple B d0_394 (fun c394 => ?_) (fun c394 => ?_)
                            · skip
                              exact J631 h624  ⟨Keep.refl _ _, P627, (by have := i_of_nlt (show (3 : Int32).toInt = 3 from rfl) (i_ofNat (n := K1 + K2) (by omega)) c394; omega), G629⟩
                            · skip
                              refine go_aload B d0_397 rfl rfl ?_
                              refine go_aload B d0_399 rfl rfl ?_
                              refine go_iconst B (x := (3 : Int32)) d0_401 rfl ?_
                              have f734 : AV Z h624 a538 .int [(.int (Int32.ofNat (own_cq K1 A Bn 0))), (.int (Int32.ofNat (own_cq K1 A Bn 1))), (.int (Int32.ofNat (own_cq K1 A Bn 2))), (.int (Int32.ofNat (own_cq K1 A Bn 3))), (.int (Int32.ofNat (own_cq K1 A Bn 4))), (.int (Int32.ofNat (own_cq K1 A Bn 5))), (.int (Int32.ofNat (own_cq K1 A Bn 6))), (.int (Int32.ofNat (own_cq K1 A Bn 7)))] := (AV.keep (AV.keep (AV.keep (AV.keep (AV.ext A588 Ea590) K599 (ninS (Ne.symm ne_a590_a538) nin0)) K614 (ninS (Ne.symm ne_a590_a538) (ninS ne_a538_sq593 (ninS ne_a538_hs594 (ninS ne_a538_pl595 nin0))))) K620 (ninS (Ne.symm ne_a590_a538) (ninS ne_a538_sq593 (ninS ne_a538_hs594 (ninS ne_a538_pl595 nin0))))) K626 (ninS (Ne.symm ne_a590_a538) (ninS ne_a538_sq593 (ninS ne_a538_hs594 (ninS ne_a538_pl595 nin0)))))
                              refine go_iaload B (i := 3) (v := (.int (Int32.ofNat (own_cq K1 A Bn 3)))) d0_402 f734 rfl rfl ?_
                              have f737 : n0 ≤ h624.size := (Nat.le_trans (Nat.le_trans (Nat.le_trans (Nat.le_trans (Nat.le_trans f592 Ea590.1) K599.1) K614.1) K620.1) K626.1)
                              have lt738 : 3 < K1 + K2 := by have := i_of_lt (show (3 : Int32).toInt = 3 from rfl) (i_ofNat (n := K1 + K2) (by omega)) c394; omega
                              have pi739 : P627 = 3 := by omega
                              have f740 : Exa Z h624 a590 "com/example/plywright/plywright/games/ConnectFour" := (Exa.keep (Exa.keep (Exa.keep (Exa.keep Aa590 K599) K614) K620) K626)
                              refine go_virtual B (W := 0) (a := a590) (argsL := [(.int (Int32.ofNat (own_cq K1 A Bn 3)))]) (st := []) d0_403 (w_58 H) (w_59 H) (w_61 H) (w_60 H) (w_4 H) (w_62 H) (by decide) f740 (own_pl0 H a590 sq593 hs594 pl595 zb596 la597 cf598 W Hr P627 A Bn (own_cq K1 A Bn 3) zf600 (own_cq K1 A Bn) h624 f737 (own_cq_lt hA hB) (own_cq_ab K1 A Bn) (own_cq_con K1 A Bn P627) (by rw [pi739]) (by rw [pi739]; exact own_row lt738 k1 k2 hH4 hs2) hW9 hH9 (by omega) D601 G629) pd_11 rfl rfl rfl rfl (by decide) (by decide) (by decide) (by decide) ?_
                              rintro _ h741 ⟨rfl, K735, G736⟩
                              show Go κ _ h741 _ _ 406 #[.val (.int p0), .val (.int p1), .val (.int p2), .val (.int p3), .val (.int p4), .val (.int p5), .val (.int (Int32.ofNat W)), .val (.int (Int32.ofNat Hr)), .val (.int (Int32.ofNat A)), .val (.int (0 : Int32)), .val (.int (Int32.ofNat Bn)), .val (.int (Int32.ofNat K1)), .val (.int (Int32.ofNat K2)), .val (.int (Int32.ofNat (K1 + K2))), .val (.ref a538), .val (.ref a590), .unset, .unset, .unset, .unset, .unset, .unset] []
                              exact J631 h741  ⟨K735, P627 + 1, (by omega), G736⟩
                          refine go_icmple B d0_379 (fun c379 => ?_) (fun c379 => ?_)
                          · skip
                            exact J625 h618  ⟨Keep.refl _ _, P621, (by have := i_of_nlt (show (2 : Int32).toInt = 2 from rfl) (i_ofNat (n := K1 + K2) (by omega)) c379; omega), G623⟩
                          · skip
                            refine go_aload B d0_382 rfl rfl ?_
                            refine go_aload B d0_384 rfl rfl ?_
                            refine go_iconst B (x := (2 : Int32)) d0_386 rfl ?_
                            have f742 : AV Z h618 a538 .int [(.int (Int32.ofNat (own_cq K1 A Bn 0))), (.int (Int32.ofNat (own_cq K1 A Bn 1))), (.int (Int32.ofNat (own_cq K1 A Bn 2))), (.int (Int32.ofNat (own_cq K1 A Bn 3))), (.int (Int32.ofNat (own_cq K1 A Bn 4))), (.int (Int32.ofNat (own_cq K1 A Bn 5))), (.int (Int32.ofNat (own_cq K1 A Bn 6))), (.int (Int32.ofNat (own_cq K1 A Bn 7)))] := (AV.keep (AV.keep (AV.keep (AV.ext A588 Ea590) K599 (ninS (Ne.symm ne_a590_a538) nin0)) K614 (ninS (Ne.symm ne_a590_a538) (ninS ne_a538_sq593 (ninS ne_a538_hs594 (ninS ne_a538_pl595 nin0))))) K620 (ninS (Ne.symm ne_a590_a538) (ninS ne_a538_sq593 (ninS ne_a538_hs594 (ninS ne_a538_pl595 nin0)))))
                            refine go_iaload B (i := 2) (v := (.int (Int32.ofNat (own_cq K1 A Bn 2)))) d0_387 f742 rfl rfl ?_
                            have f745 : n0 ≤ h618.size := (Nat.le_trans (Nat.le_trans (Nat.le_trans (Nat.le_trans f592 Ea590.1) K599.1) K614.1) K620.1)
                            have lt746 : 2 < K1 + K2 := by have := i_of_lt (show (2 : Int32).toInt = 2 from rfl) (i_ofNat (n := K1 + K2) (by omega)) c379; omega
                            have pi747 : P621 = 2 := by omega
                            refine go_virtual B (W := 0) (a := a590) (argsL := [(.int (Int32.ofNat (own_cq K1 A Bn 2)))]) (st := []) d0_388 (w_58 H) (w_59 H) (w_61 H) (w_60 H) (w_4 H) (w_62 H) (by decide) (Exa.keep (Exa.keep (Exa.keep Aa590 K599) K614) K620) (own_pl0 H a590 sq593 hs594 pl595 zb596 la597 cf598 W Hr P621 A Bn (own_cq K1 A Bn 2) zf600 (own_cq K1 A Bn) h618 f745 (own_cq_lt hA hB) (own_cq_ab K1 A Bn) (own_cq_con K1 A Bn P621) (by rw [pi747]) (by rw [pi747]; exact own_row lt746 k1 k2 hH4 hs2) hW9 hH9 (by omega) D601 G623) pd_11 rfl rfl rfl rfl (by decide) (by decide) (by decide) (by decide) ?_
                            rintro _ h748 ⟨rfl, K743, G744⟩
                            show Go κ _ h748 _ _ 391 #[.val (.int p0), .val (.int p1), .val (.int p2), .val (.int p3), .val (.int p4), .val (.int p5), .val (.int (Int32.ofNat W)), .val (.int (Int32.ofNat Hr)), .val (.int (Int32.ofNat A)), .val (.int (0 : Int32)), .val (.int (Int32.ofNat Bn)), .val (.int (Int32.ofNat K1)), .val (.int (Int32.ofNat K2)), .val (.int (Int32.ofNat (K1 + K2))), .val (.ref a538), .val (.ref a590), .unset, .unset, .unset, .unset, .unset, .unset] []
                            exact J625 h748  ⟨K743, P621 + 1, (by omega), G744⟩
                        refine go_icmple B d0_364 (fun c364 => ?_) (fun c364 => ?_)
                        · skip
                          exact J619 h612  ⟨Keep.refl _ _, P615, (by have := i_of_nlt (show (1 : Int32).toInt = 1 from rfl) (i_ofNat (n := K1 + K2) (by omega)) c364; omega), G617⟩
                        · skip
                          refine go_aload B d0_367 rfl rfl ?_
                          refine go_aload B d0_369 rfl rfl ?_
                          refine go_iconst B (x := (1 : Int32)) d0_371 rfl ?_
                          have f749 : AV Z h612 a538 .int [(.int (Int32.ofNat (own_cq K1 A Bn 0))), (.int (Int32.ofNat (own_cq K1 A Bn 1))), (.int (Int32.ofNat (own_cq K1 A Bn 2))), (.int (Int32.ofNat (own_cq K1 A Bn 3))), (.int (Int32.ofNat (own_cq K1 A Bn 4))), (.int (Int32.ofNat (own_cq K1 A Bn 5))), (.int (Int32.ofNat (own_cq K1 A Bn 6))), (.int (Int32.ofNat (own_cq K1 A Bn 7)))] := (AV.keep (AV.keep (AV.ext A588 Ea590) K599 (ninS (Ne.symm ne_a590_a538) nin0)) K614 (ninS (Ne.symm ne_a590_a538) (ninS ne_a538_sq593 (ninS ne_a538_hs594 (ninS ne_a538_pl595 nin0)))))
                          refine go_iaload B (i := 1) (v := (.int (Int32.ofNat (own_cq K1 A Bn 1)))) d0_372 f749 rfl rfl ?_
                          have f752 : n0 ≤ h612.size := (Nat.le_trans (Nat.le_trans (Nat.le_trans f592 Ea590.1) K599.1) K614.1)
                          have lt753 : 1 < K1 + K2 := by have := i_of_lt (show (1 : Int32).toInt = 1 from rfl) (i_ofNat (n := K1 + K2) (by omega)) c364; omega
                          have pi754 : P615 = 1 := by omega
                          refine go_virtual B (W := 0) (a := a590) (argsL := [(.int (Int32.ofNat (own_cq K1 A Bn 1)))]) (st := []) d0_373 (w_58 H) (w_59 H) (w_61 H) (w_60 H) (w_4 H) (w_62 H) (by decide) (Exa.keep (Exa.keep Aa590 K599) K614) (own_pl0 H a590 sq593 hs594 pl595 zb596 la597 cf598 W Hr P615 A Bn (own_cq K1 A Bn 1) zf600 (own_cq K1 A Bn) h612 f752 (own_cq_lt hA hB) (own_cq_ab K1 A Bn) (own_cq_con K1 A Bn P615) (by rw [pi754]) (by rw [pi754]; exact own_row lt753 k1 k2 hH4 hs2) hW9 hH9 (by omega) D601 G617) pd_11 rfl rfl rfl rfl (by decide) (by decide) (by decide) (by decide) ?_
                          rintro _ h755 ⟨rfl, K750, G751⟩
                          show Go κ _ h755 _ _ 376 #[.val (.int p0), .val (.int p1), .val (.int p2), .val (.int p3), .val (.int p4), .val (.int p5), .val (.int (Int32.ofNat W)), .val (.int (Int32.ofNat Hr)), .val (.int (Int32.ofNat A)), .val (.int (0 : Int32)), .val (.int (Int32.ofNat Bn)), .val (.int (Int32.ofNat K1)), .val (.int (Int32.ofNat K2)), .val (.int (Int32.ofNat (K1 + K2))), .val (.ref a538), .val (.ref a590), .unset, .unset, .unset, .unset, .unset, .unset] []
                          exact J619 h755  ⟨K750, P615 + 1, (by omega), G751⟩
                      refine go_ifle B d0_349 (fun c349 => ?_) (fun c349 => ?_)
                      · skip
                        exact J613 h609  ⟨Keep.refl _ _, P0, (by have := i_of_nlt (show (0 : Int32).toInt = 0 from rfl) (i_ofNat (n := K1 + K2) (by omega)) c349; omega), G00⟩
                      · skip
                        refine go_aload B d0_352 rfl rfl ?_
                        refine go_aload B d0_354 rfl rfl ?_
                        refine go_iconst B (x := (0 : Int32)) d0_356 rfl ?_
                        have f756 : AV Z h609 a538 .int [(.int (Int32.ofNat (own_cq K1 A Bn 0))), (.int (Int32.ofNat (own_cq K1 A Bn 1))), (.int (Int32.ofNat (own_cq K1 A Bn 2))), (.int (Int32.ofNat (own_cq K1 A Bn 3))), (.int (Int32.ofNat (own_cq K1 A Bn 4))), (.int (Int32.ofNat (own_cq K1 A Bn 5))), (.int (Int32.ofNat (own_cq K1 A Bn 6))), (.int (Int32.ofNat (own_cq K1 A Bn 7)))] := (AV.keep (AV.ext A588 Ea590) K599 (ninS (Ne.symm ne_a590_a538) nin0))
                        refine go_iaload B (i := 0) (v := (.int (Int32.ofNat (own_cq K1 A Bn 0)))) d0_357 f756 rfl rfl ?_
                        have lt759 : 0 < K1 + K2 := by have := i_of_lt (show (0 : Int32).toInt = 0 from rfl) (i_ofNat (n := K1 + K2) (by omega)) c349; omega
                        have pi760 : P0 = 0 := by omega
                        refine go_virtual B (W := 0) (a := a590) (argsL := [(.int (Int32.ofNat (own_cq K1 A Bn 0)))]) (st := []) d0_358 (w_58 H) (w_59 H) (w_61 H) (w_60 H) (w_4 H) (w_62 H) (by decide) (Exa.keep Aa590 K599) (own_pl0 H a590 sq593 hs594 pl595 zb596 la597 cf598 W Hr P0 A Bn (own_cq K1 A Bn 0) zf600 (own_cq K1 A Bn) h609 (Nat.le_trans (Nat.le_trans f592 Ea590.1) K599.1) (own_cq_lt hA hB) (own_cq_ab K1 A Bn) (own_cq_con K1 A Bn P0) (by rw [pi760]) (by rw [pi760]; exact own_row lt759 k1 k2 hH4 hs2) hW9 hH9 (by omega) D601 G00) pd_11 rfl rfl rfl rfl (by decide) (by decide) (by decide) (by decide) ?_
                        rintro _ h761 ⟨rfl, K757, G758⟩
                        show Go κ _ h761 _ _ 361 #[.val (.int p0), .val (.int p1), .val (.int p2), .val (.int p3), .val (.int p4), .val (.int p5), .val (.int (Int32.ofNat W)), .val (.int (Int32.ofNat Hr)), .val (.int (Int32.ofNat A)), .val (.int (0 : Int32)), .val (.int (Int32.ofNat Bn)), .val (.int (Int32.ofNat K1)), .val (.int (Int32.ofNat K2)), .val (.int (Int32.ofNat (K1 + K2))), .val (.ref a538), .val (.ref a590), .unset, .unset, .unset, .unset, .unset, .unset] []
                        exact J613 h761  ⟨K757, P0 + 1, (by omega), G758⟩
                    refine go_icmpge B d0_323 (fun c323 => ?_) (fun c323 => ?_)
                    · skip
                      refine go_iload B d0_331 rfl ?_
                      exact J584 _ (congrArg Int32.ofNat (own_cq_f (by have := i_of_nlt (show (7 : Int32).toInt = 7 from rfl) (i_ofNat (n := K1) (by omega)) c323; omega)))
                    · skip
                      refine go_iload B d0_326 rfl ?_
                      refine go_goto B d0_328 ?_
                      exact J584 _ (congrArg Int32.ofNat (own_cq_t (by have := i_of_lt (show (7 : Int32).toInt = 7 from rfl) (i_ofNat (n := K1) (by omega)) c323; omega)))
                  refine go_icmpge B d0_304 (fun c304 => ?_) (fun c304 => ?_)
                  · skip
                    refine go_iload B d0_312 rfl ?_
                    exact J578 _ (congrArg Int32.ofNat (own_cq_f (by have := i_of_nlt (show (6 : Int32).toInt = 6 from rfl) (i_ofNat (n := K1) (by omega)) c304; omega)))
                  · skip
                    refine go_iload B d0_307 rfl ?_
                    refine go_goto B d0_309 ?_
                    exact J578 _ (congrArg Int32.ofNat (own_cq_t (by have := i_of_lt (show (6 : Int32).toInt = 6 from rfl) (i_ofNat (n := K1) (by omega)) c304; omega)))
                refine go_icmpge B d0_285 (fun c285 => ?_) (fun c285 => ?_)
                · skip
                  refine go_iload B d0_293 rfl ?_
                  exact J572 _ (congrArg Int32.ofNat (own_cq_f (by have := i_of_nlt (show (5 : Int32).toInt = 5 from rfl) (i_ofNat (n := K1) (by omega)) c285; omega)))
                · skip
                  refine go_iload B d0_288 rfl ?_
                  refine go_goto B d0_290 ?_
                  exact J572 _ (congrArg Int32.ofNat (own_cq_t (by have := i_of_lt (show (5 : Int32).toInt = 5 from rfl) (i_ofNat (n := K1) (by omega)) c285; omega)))
              refine go_icmpge B d0_268 (fun c268 => ?_) (fun c268 => ?_)
              · skip
                refine go_iload B d0_276 rfl ?_
                exact J566 _ (congrArg Int32.ofNat (own_cq_f (by have := i_of_nlt (show (4 : Int32).toInt = 4 from rfl) (i_ofNat (n := K1) (by omega)) c268; omega)))
              · skip
                refine go_iload B d0_271 rfl ?_
                refine go_goto B d0_273 ?_
                exact J566 _ (congrArg Int32.ofNat (own_cq_t (by have := i_of_lt (show (4 : Int32).toInt = 4 from rfl) (i_ofNat (n := K1) (by omega)) c268; omega)))
            refine go_icmpge B d0_251 (fun c251 => ?_) (fun c251 => ?_)
            · skip
              refine go_iload B d0_259 rfl ?_
              exact J560 _ (congrArg Int32.ofNat (own_cq_f (by have := i_of_nlt (show (3 : Int32).toInt = 3 from rfl) (i_ofNat (n := K1) (by omega)) c251; omega)))
            · skip
              refine go_iload B d0_254 rfl ?_
              refine go_goto B d0_256 ?_
              exact J560 _ (congrArg Int32.ofNat (own_cq_t (by have := i_of_lt (show (3 : Int32).toInt = 3 from rfl) (i_ofNat (n := K1) (by omega)) c251; omega)))
          refine go_icmpge B d0_234 (fun c234 => ?_) (fun c234 => ?_)
          · skip
            refine go_iload B d0_242 rfl ?_
            exact J554 _ (congrArg Int32.ofNat (own_cq_f (by have := i_of_nlt (show (2 : Int32).toInt = 2 from rfl) (i_ofNat (n := K1) (by omega)) c234; omega)))
          · skip
            refine go_iload B d0_237 rfl ?_
            refine go_goto B d0_239 ?_
            exact J554 _ (congrArg Int32.ofNat (own_cq_t (by have := i_of_lt (show (2 : Int32).toInt = 2 from rfl) (i_ofNat (n := K1) (by omega)) c234; omega)))
        refine go_icmpge B d0_217 (fun c217 => ?_) (fun c217 => ?_)
        · skip
          refine go_iload B d0_225 rfl ?_
          exact J548 _ (congrArg Int32.ofNat (own_cq_f (by have := i_of_nlt (show (1 : Int32).toInt = 1 from rfl) (i_ofNat (n := K1) (by omega)) c217; omega)))
        · skip
          refine go_iload B d0_220 rfl ?_
          refine go_goto B d0_222 ?_
          exact J548 _ (congrArg Int32.ofNat (own_cq_t (by have := i_of_lt (show (1 : Int32).toInt = 1 from rfl) (i_ofNat (n := K1) (by omega)) c217; omega)))
      refine go_icmpge B d0_200 (fun c200 => ?_) (fun c200 => ?_)
      · skip
        refine go_iload B d0_208 rfl ?_
        exact J542 _ (congrArg Int32.ofNat (own_cq_f (by have := i_of_nlt (show (0 : Int32).toInt = 0 from rfl) (i_ofNat (n := K1) (by omega)) c200; omega)))
      · skip
        refine go_iload B d0_203 rfl ?_
        refine go_goto B d0_205 ?_
        exact J542 _ (congrArg Int32.ofNat (own_cq_t (by have := i_of_lt (show (0 : Int32).toInt = 0 from rfl) (i_ofNat (n := K1) (by omega)) c200; omega)))
    refine go_icmpne B d0_172 (fun c172 => ?_) (fun c172 => ?_)
    · skip
      exact J540 _ ⟨K0, rfl, k0, fun q => absurd (congrArg Int32.ofNat q) c172⟩
    · skip
      refine go_iload B d0_175 rfl ?_
      refine go_iload B d0_177 rfl ?_
      refine go_iload B d0_179 rfl ?_
      refine go_isub B d0_181 ?_
      rw [show ((Int32.ofNat Hr) - (Int32.ofNat K1)) = (Int32.ofNat (Hr - K1)) from (n_sub (by omega))]
      refine go_static B (W := 0) (argsL := [(.int (Int32.ofNat K0)), (.int (Int32.ofNat (Hr - K1)))]) (st := []) d0_182 (w_90 H) (w_91 H) (w_92 H) (w_93 H) (by decide) (rmMin H (Int32.ofNat K0) (Int32.ofNat (Hr - K1)) h537 (Nat.le_trans Z0 Ea538.1)) pd_1 rfl rfl rfl rfl (by decide) (by decide) (by decide) (by decide) ?_
      rintro _ h762 ⟨rfl, rfl⟩
      show Go κ _ h537 _ _ 185 #[.val (.int p0), .val (.int p1), .val (.int p2), .val (.int p3), .val (.int p4), .val (.int p5), .val (.int (Int32.ofNat W)), .val (.int (Int32.ofNat Hr)), .val (.int (Int32.ofNat A)), .val (.int (0 : Int32)), .val (.int (Int32.ofNat Bn)), .val (.int (Int32.ofNat K1)), .val (.int (Int32.ofNat K0)), .unset, .val (.ref a538), .unset, .unset, .unset, .unset, .unset, .unset, .unset] [(.int (own_min (Int32.ofNat K0) (Int32.ofNat (Hr - K1))))]
      refine go_istore B #[.val (.int p0), .val (.int p1), .val (.int p2), .val (.int p3), .val (.int p4), .val (.int p5), .val (.int (Int32.ofNat W)), .val (.int (Int32.ofNat Hr)), .val (.int (Int32.ofNat A)), .val (.int (0 : Int32)), .val (.int (Int32.ofNat Bn)), .val (.int (Int32.ofNat K1)), .val (.int (own_min (Int32.ofNat K0) (Int32.ofNat (Hr - K1)))), .unset, .val (.ref a538), .unset, .unset, .unset, .unset, .unset, .unset, .unset] d0_185 rfl ?_
      exact J540 _ ⟨min K0 (Hr - K1), own_minN (by omega) (by omega), by omega, fun _ => by omega⟩
  · skip
    refine go_iconst B (x := (1 : Int32)) d0_38 rfl ?_
    refine go_goto B d0_39 ?_
    refine go_istore B #[.val (.int p0), .val (.int p1), .val (.int p2), .val (.int p3), .val (.int p4), .val (.int p5), .val (.int (Int32.ofNat W)), .val (.int (Int32.ofNat Hr)), .val (.int (Int32.ofNat A)), .val (.int (1 : Int32)), .unset, .unset, .unset, .unset, .unset, .unset, .unset, .unset, .unset, .unset, .unset, .unset] d0_43 rfl ?_
    refine go_bipush B (x := (8 : Int32)) d0_45 (by decide) ?_
    refine go_newarray B (i := 8) (cap := 8) d0_47 (w_1 H) rfl (Nat.le_refl _) (by decide) (by decide) (by decide) ?_
    intro h763 a764 hba764 Ea764 Aa764 Ca764
    have ge_a764 : n0 ≤ a764 := by have q1 := Z0; omega
    have Ba764 : AV Z h763 a764 .int [(.int (0 : Int32)), (.int (0 : Int32)), (.int (0 : Int32)), (.int (0 : Int32)), (.int (0 : Int32)), (.int (0 : Int32)), (.int (0 : Int32)), (.int (0 : Int32))] := Aa764
    refine go_astore B #[.val (.int p0), .val (.int p1), .val (.int p2), .val (.int p3), .val (.int p4), .val (.int p5), .val (.int (Int32.ofNat W)), .val (.int (Int32.ofNat Hr)), .val (.int (Int32.ofNat A)), .val (.int (1 : Int32)), .unset, .unset, .unset, .unset, .val (.ref a764), .unset, .unset, .unset, .unset, .unset, .unset, .unset] d0_49 rfl rfl ?_
    refine go_iload B d0_51 rfl ?_
    refine go_ifeq B d0_53 (fun c53 => ?_) (fun c53 => ?_)
    · exact absurd c53 (by decide)
    refine go_iload B d0_56 rfl ?_
    refine go_iconst B (x := (1 : Int32)) d0_58 rfl ?_
    refine go_iadd B d0_59 ?_
    rw [show ((Int32.ofNat A) + (1 : Int32)) = (Int32.ofNat (A + 1)) from n_add]
    refine go_iload_n B d0_60 rfl ?_
    refine go_ldcI B d0_61 (w_0 H) ?_
    refine go_iand B d0_63 ?_
    refine go_iload B d0_64 rfl ?_
    refine go_iconst B (x := (1 : Int32)) d0_66 rfl ?_
    refine go_isub B d0_67 ?_
    rw [show ((Int32.ofNat W) - (1 : Int32)) = (Int32.ofNat (W - 1)) from (by rw [show (1 : Int32) = Int32.ofNat 1 from rfl, n_sub (by omega)])]
    refine go_irem B d0_68 (n_ne0 (by omega) (by omega)) ?_
    rw [show ((p3 &&& (2147483647 : Int32)) % (Int32.ofNat (W - 1))) = (Int32.ofNat t) from et]
    refine go_iadd B d0_69 ?_
    rw [show ((Int32.ofNat (A + 1)) + (Int32.ofNat t)) = (Int32.ofNat (A + 1 + t)) from n_add]
    refine go_iload B d0_70 rfl ?_
    refine go_irem B d0_72 (n_ne0 (by omega) (by omega)) ?_
    rw [show ((Int32.ofNat (A + 1 + t)) % (Int32.ofNat W)) = (Int32.ofNat Bw) from (by rw [n_mod (by omega) (by omega) (by omega), ← hBw])]
    refine go_istore B #[.val (.int p0), .val (.int p1), .val (.int p2), .val (.int p3), .val (.int p4), .val (.int p5), .val (.int (Int32.ofNat W)), .val (.int (Int32.ofNat Hr)), .val (.int (Int32.ofNat A)), .val (.int (1 : Int32)), .val (.int (Int32.ofNat Bw)), .unset, .unset, .unset, .val (.ref a764), .unset, .unset, .unset, .unset, .unset, .unset, .unset] d0_73 rfl ?_
    refine go_iconst B (x := (0 : Int32)) d0_75 rfl ?_
    refine go_istore B #[.val (.int p0), .val (.int p1), .val (.int p2), .val (.int p3), .val (.int p4), .val (.int p5), .val (.int (Int32.ofNat W)), .val (.int (Int32.ofNat Hr)), .val (.int (Int32.ofNat A)), .val (.int (1 : Int32)), .val (.int (Int32.ofNat Bw)), .val (.int (0 : Int32)), .unset, .unset, .val (.ref a764), .unset, .unset, .unset, .unset, .unset, .unset, .unset] d0_76 rfl ?_
    refine go_iconst B (x := (0 : Int32)) d0_78 rfl ?_
    refine go_istore B #[.val (.int p0), .val (.int p1), .val (.int p2), .val (.int p3), .val (.int p4), .val (.int p5), .val (.int (Int32.ofNat W)), .val (.int (Int32.ofNat Hr)), .val (.int (Int32.ofNat A)), .val (.int (1 : Int32)), .val (.int (Int32.ofNat Bw)), .val (.int (0 : Int32)), .val (.int (0 : Int32)), .unset, .val (.ref a764), .unset, .unset, .unset, .unset, .unset, .unset, .unset] d0_79 rfl ?_
    refine go_bipush B (x := (7 : Int32)) d0_81 (by decide) ?_
    refine go_istore B #[.val (.int p0), .val (.int p1), .val (.int p2), .val (.int p3), .val (.int p4), .val (.int p5), .val (.int (Int32.ofNat W)), .val (.int (Int32.ofNat Hr)), .val (.int (Int32.ofNat A)), .val (.int (1 : Int32)), .val (.int (Int32.ofNat Bw)), .val (.int (0 : Int32)), .val (.int (0 : Int32)), .val (.int (7 : Int32)), .val (.ref a764), .unset, .unset, .unset, .unset, .unset, .unset, .unset] d0_83 rfl ?_
    refine go_aload B d0_85 rfl rfl ?_
    refine go_iconst B (x := (0 : Int32)) d0_87 rfl ?_
    refine go_iload B d0_88 rfl ?_
    refine go_iastore B (i := 0) d0_90 Ba764 rfl (show 0 < 8 from by decide) ge_a764 ?_
    intro h765 W766 A767
    have A768 : AV Z h765 a764 .int [(.int (Int32.ofNat A)), (.int (0 : Int32)), (.int (0 : Int32)), (.int (0 : Int32)), (.int (0 : Int32)), (.int (0 : Int32)), (.int (0 : Int32)), (.int (0 : Int32))] := A767
    refine go_aload B d0_91 rfl rfl ?_
    refine go_iconst B (x := (1 : Int32)) d0_93 rfl ?_
    refine go_iload B d0_94 rfl ?_
    refine go_iastore B (i := 1) d0_96 A768 rfl (show 1 < 8 from by decide) ge_a764 ?_
    intro h769 W770 A771
    have A772 : AV Z h769 a764 .int [(.int (Int32.ofNat A)), (.int (Int32.ofNat Bw)), (.int (0 : Int32)), (.int (0 : Int32)), (.int (0 : Int32)), (.int (0 : Int32)), (.int (0 : Int32)), (.int (0 : Int32))] := A771
    refine go_aload B d0_97 rfl rfl ?_
    refine go_iconst B (x := (2 : Int32)) d0_99 rfl ?_
    refine go_iload B d0_100 rfl ?_
    refine go_iastore B (i := 2) d0_102 A772 rfl (show 2 < 8 from by decide) ge_a764 ?_
    intro h773 W774 A775
    have A776 : AV Z h773 a764 .int [(.int (Int32.ofNat A)), (.int (Int32.ofNat Bw)), (.int (Int32.ofNat A)), (.int (0 : Int32)), (.int (0 : Int32)), (.int (0 : Int32)), (.int (0 : Int32)), (.int (0 : Int32))] := A775
    refine go_aload B d0_103 rfl rfl ?_
    refine go_iconst B (x := (3 : Int32)) d0_105 rfl ?_
    refine go_iload B d0_106 rfl ?_
    refine go_iastore B (i := 3) d0_108 A776 rfl (show 3 < 8 from by decide) ge_a764 ?_
    intro h777 W778 A779
    have A780 : AV Z h777 a764 .int [(.int (Int32.ofNat A)), (.int (Int32.ofNat Bw)), (.int (Int32.ofNat A)), (.int (Int32.ofNat Bw)), (.int (0 : Int32)), (.int (0 : Int32)), (.int (0 : Int32)), (.int (0 : Int32))] := A779
    refine go_aload B d0_109 rfl rfl ?_
    refine go_iconst B (x := (4 : Int32)) d0_111 rfl ?_
    refine go_iload B d0_112 rfl ?_
    refine go_iastore B (i := 4) d0_114 A780 rfl (show 4 < 8 from by decide) ge_a764 ?_
    intro h781 W782 A783
    have A784 : AV Z h781 a764 .int [(.int (Int32.ofNat A)), (.int (Int32.ofNat Bw)), (.int (Int32.ofNat A)), (.int (Int32.ofNat Bw)), (.int (Int32.ofNat A)), (.int (0 : Int32)), (.int (0 : Int32)), (.int (0 : Int32))] := A783
    refine go_aload B d0_115 rfl rfl ?_
    refine go_iconst B (x := (5 : Int32)) d0_117 rfl ?_
    refine go_iload B d0_118 rfl ?_
    refine go_iastore B (i := 5) d0_120 A784 rfl (show 5 < 8 from by decide) ge_a764 ?_
    intro h785 W786 A787
    have A788 : AV Z h785 a764 .int [(.int (Int32.ofNat A)), (.int (Int32.ofNat Bw)), (.int (Int32.ofNat A)), (.int (Int32.ofNat Bw)), (.int (Int32.ofNat A)), (.int (Int32.ofNat Bw)), (.int (0 : Int32)), (.int (0 : Int32))] := A787
    refine go_aload B d0_121 rfl rfl ?_
    refine go_bipush B (x := (6 : Int32)) d0_123 (by decide) ?_
    refine go_iload B d0_125 rfl ?_
    refine go_iastore B (i := 6) d0_127 A788 rfl (show 6 < 8 from by decide) ge_a764 ?_
    intro h789 W790 A791
    have A792 : AV Z h789 a764 .int [(.int (Int32.ofNat A)), (.int (Int32.ofNat Bw)), (.int (Int32.ofNat A)), (.int (Int32.ofNat Bw)), (.int (Int32.ofNat A)), (.int (Int32.ofNat Bw)), (.int (Int32.ofNat A)), (.int (0 : Int32))] := A791
    refine go_aload B d0_128 rfl rfl ?_
    refine go_bipush B (x := (7 : Int32)) d0_130 (by decide) ?_
    refine go_iload B d0_132 rfl ?_
    refine go_iastore B (i := 7) d0_134 A792 rfl (show 7 < 8 from by decide) ge_a764 ?_
    intro h793 W794 A795
    have A796 : AV Z h793 a764 .int [(.int (Int32.ofNat A)), (.int (Int32.ofNat Bw)), (.int (Int32.ofNat A)), (.int (Int32.ofNat Bw)), (.int (Int32.ofNat A)), (.int (Int32.ofNat Bw)), (.int (Int32.ofNat A)), (.int (Int32.ofNat Bw))] := A795
    refine go_goto B d0_135 ?_
    refine go_new B d0_334 (w_2 H) (w_3 H) (w_4 H) (by decide) (by decide) ?_
    intro h797 a798 hba798 Ea798 Aa798 Da798
    have f799 : Exa Z h793 a764 "[I" := (Exa.wr W794 (Exa.wr W790 (Exa.wr W786 (Exa.wr W782 (Exa.wr W778 (Exa.wr W774 (Exa.wr W770 (Exa.wr W766 Ca764))))))))
    have ne_a798_a764 : a798 ≠ a764 := Nat.ne_of_gt (Nat.lt_of_lt_of_le (f799).lt (by omega))
    have f800 : n0 ≤ h793.size := (Nat.le_trans (Nat.le_trans (Nat.le_trans (Nat.le_trans (Nat.le_trans (Nat.le_trans (Nat.le_trans (Nat.le_trans (Nat.le_trans Z0 Ea764.1) (Nat.le_of_eq (Wr.size W766).symm)) (Nat.le_of_eq (Wr.size W770).symm)) (Nat.le_of_eq (Wr.size W774).symm)) (Nat.le_of_eq (Wr.size W778).symm)) (Nat.le_of_eq (Wr.size W782).symm)) (Nat.le_of_eq (Wr.size W786).symm)) (Nat.le_of_eq (Wr.size W790).symm)) (Nat.le_of_eq (Wr.size W794).symm))
    have ge_a798 : n0 ≤ a798 := by have q1 := f800; omega
    refine go_dup B d0_337 rfl ?_
    refine go_iload B d0_338 rfl ?_
    refine go_iload B d0_340 rfl ?_
    have f815 : Fld Z h797 a798 "com/example/plywright/plywright/games/ConnectFour" "onMiddleRow" "[Z" .null := (Da798 (Or.inr (w_47 H)) (ty := (.array .boolean)) (by decide))
    have f816 : 0 ≤ h797.size := (Nat.le_trans (Nat.le_trans (Nat.le_trans (Nat.le_trans (Nat.le_trans (Nat.le_trans (Nat.le_trans (Nat.le_trans (Nat.le_trans (Nat.le_trans (Nat.zero_le _) Ea764.1) (Nat.le_of_eq (Wr.size W766).symm)) (Nat.le_of_eq (Wr.size W770).symm)) (Nat.le_of_eq (Wr.size W774).symm)) (Nat.le_of_eq (Wr.size W778).symm)) (Nat.le_of_eq (Wr.size W782).symm)) (Nat.le_of_eq (Wr.size W786).symm)) (Nat.le_of_eq (Wr.size W790).symm)) (Nat.le_of_eq (Wr.size W794).symm)) Ea798.1)
    refine go_specialW B Wk f816 (W' := 1) (a := a798) (argsL := [(.int (Int32.ofNat W)), (.int (Int32.ofNat Hr))]) (st := [(.ref a798)]) d0_342 rfl (w_5 H) (w_6 H) (w_4 H) (w_7 H) (by decide) (rmI H a798 W Hr h797 (Nat.le_trans f800 Ea798.1) hW4 hW9 hH4 hH9 ge_a798 Aa798 (Da798 (Or.inr (w_24 H)) (ty := .int) (by decide)) (Da798 (Or.inr (w_26 H)) (ty := .int) (by decide)) (Da798 (Or.inr (w_28 H)) (ty := .int) (by decide)) (Da798 (Or.inr (w_30 H)) (ty := (.array .byte)) (by decide)) f815 (Da798 (Or.inr (w_53 H)) (ty := (.array .int)) (by decide)) (Da798 (Or.inr (w_55 H)) (ty := (.array .int)) (by decide)) (Da798 (Or.inr (w_57 H)) (ty := (.array .int)) (by decide)) (Da798 (Or.inr (w_32 H)) (ty := (.array .int)) (by decide)) (Da798 (Or.inr (w_34 H)) (ty := (.array .int)) (by decide)) (Da798 (Or.inr (w_44 H)) (ty := (.array .long)) (by decide)) (Da798 (Or.inl (w_70 H)) (ty := .int) (by decide)) (Da798 (Or.inl (w_64 H)) (ty := .boolean) (by decide)) (Da798 (Or.inl (w_72 H)) (ty := .long) (by decide))) pd_8 rfl rfl rfl rfl (by decide) (by decide) (by decide) (by decide) ?_
    rintro κ km818 _ h817 Wk B K819 ⟨rfl, K807, sq801, hs802, pl803, zb804, la805, cf806, zf808, D809, z811, z812, z813, z814, G810⟩
    have ne_a764_sq801 : a764 ≠ sq801 := Nat.ne_of_lt (Nat.lt_of_lt_of_le ((AV.ext A796 Ea798)).lt z811)
    have ne_a764_hs802 : a764 ≠ hs802 := Nat.ne_of_lt (Nat.lt_of_lt_of_le ((AV.ext A796 Ea798)).lt z812)
    have ne_a764_pl803 : a764 ≠ pl803 := Nat.ne_of_lt (Nat.lt_of_lt_of_le ((AV.ext A796 Ea798)).lt z813)
    show Go κ _ h817 _ _ 345 #[.val (.int p0), .val (.int p1), .val (.int p2), .val (.int p3), .val (.int p4), .val (.int p5), .val (.int (Int32.ofNat W)), .val (.int (Int32.ofNat Hr)), .val (.int (Int32.ofNat A)), .val (.int (1 : Int32)), .val (.int (Int32.ofNat Bw)), .val (.int (0 : Int32)), .val (.int (0 : Int32)), .val (.int (7 : Int32)), .val (.ref a764), .unset, .unset, .unset, .unset, .unset, .unset, .unset] [(.ref a798)]
    refine go_astore B #[.val (.int p0), .val (.int p1), .val (.int p2), .val (.int p3), .val (.int p4), .val (.int p5), .val (.int (Int32.ofNat W)), .val (.int (Int32.ofNat Hr)), .val (.int (Int32.ofNat A)), .val (.int (1 : Int32)), .val (.int (Int32.ofNat Bw)), .val (.int (0 : Int32)), .val (.int (0 : Int32)), .val (.int (7 : Int32)), .val (.ref a764), .val (.ref a798), .unset, .unset, .unset, .unset, .unset, .unset] d0_345 rfl rfl ?_
    refine go_iload B d0_347 rfl ?_
    refine go_ifle B d0_349 (fun c349 => ?_) (fun c349 => ?_)
    · exact absurd c349 (by decide)
    refine go_aload B d0_352 rfl rfl ?_
    refine go_aload B d0_354 rfl rfl ?_
    refine go_iconst B (x := (0 : Int32)) d0_356 rfl ?_
    have f820 : AV Z h817 a764 .int [(.int (Int32.ofNat A)), (.int (Int32.ofNat Bw)), (.int (Int32.ofNat A)), (.int (Int32.ofNat Bw)), (.int (Int32.ofNat A)), (.int (Int32.ofNat Bw)), (.int (Int32.ofNat A)), (.int (Int32.ofNat Bw))] := (AV.keep (AV.ext A796 Ea798) K807 (ninS (Ne.symm ne_a798_a764) nin0))
    refine go_iaload B (i := 0) (v := (.int (Int32.ofNat A))) d0_357 f820 rfl rfl ?_
    refine go_virtual B (W := 0) (a := a798) (argsL := [(.int (Int32.ofNat A))]) (st := []) d0_358 (w_58 H) (w_59 H) (w_61 H) (w_60 H) (w_4 H) (w_62 H) (by decide) (Exa.keep Aa798 K807) (own_pw0 H a798 sq801 hs802 pl803 zb804 la805 cf806 W Hr 0 A Bw A zf808 (own_cw A Bw) h817 (Nat.le_trans (Nat.le_trans f800 Ea798.1) K807.1) hA hBwW hne rfl (by decide) (by rfl) (by have z : own_e (own_cw A Bw) 0 A = 0 / 2 := own_e_w hne 0; omega) hW9 hH9 (by omega) D809 (G810 (own_cw A Bw))) pd_11 rfl rfl rfl rfl (by decide) (by decide) (by decide) (by decide) ?_
    rintro _ h823 ⟨rfl, K821, G822⟩
    show Go κ _ h823 _ _ 361 #[.val (.int p0), .val (.int p1), .val (.int p2), .val (.int p3), .val (.int p4), .val (.int p5), .val (.int (Int32.ofNat W)), .val (.int (Int32.ofNat Hr)), .val (.int (Int32.ofNat A)), .val (.int (1 : Int32)), .val (.int (Int32.ofNat Bw)), .val (.int (0 : Int32)), .val (.int (0 : Int32)), .val (.int (7 : Int32)), .val (.ref a764), .val (.ref a798), .unset, .unset, .unset, .unset, .unset, .unset] []
    refine go_iload B d0_361 rfl ?_
    refine go_iconst B (x := (1 : Int32)) d0_363 rfl ?_
    refine go_icmple B d0_364 (fun c364 => ?_) (fun c364 => ?_)
    · exact absurd c364 (by decide)
    refine go_aload B d0_367 rfl rfl ?_
    refine go_aload B d0_369 rfl rfl ?_
    refine go_iconst B (x := (1 : Int32)) d0_371 rfl ?_
    have f824 : AV Z h823 a764 .int [(.int (Int32.ofNat A)), (.int (Int32.ofNat Bw)), (.int (Int32.ofNat A)), (.int (Int32.ofNat Bw)), (.int (Int32.ofNat A)), (.int (Int32.ofNat Bw)), (.int (Int32.ofNat A)), (.int (Int32.ofNat Bw))] := (AV.keep f820 K821 (ninS (Ne.symm ne_a798_a764) (ninS ne_a764_sq801 (ninS ne_a764_hs802 (ninS ne_a764_pl803 nin0)))))
    refine go_iaload B (i := 1) (v := (.int (Int32.ofNat Bw))) d0_372 f824 rfl rfl ?_
    have f827 : n0 ≤ h823.size := (Nat.le_trans (Nat.le_trans (Nat.le_trans f800 Ea798.1) K807.1) K821.1)
    refine go_virtual B (W := 0) (a := a798) (argsL := [(.int (Int32.ofNat Bw))]) (st := []) d0_373 (w_58 H) (w_59 H) (w_61 H) (w_60 H) (w_4 H) (w_62 H) (by decide) (Exa.keep (Exa.keep Aa798 K807) K821) (own_pw0 H a798 sq801 hs802 pl803 zb804 la805 cf806 W Hr 1 A Bw Bw zf808 (own_cw A Bw) h823 f827 hA hBwW hne rfl (by decide) (by rfl) (by have z : own_e (own_cw A Bw) 1 Bw = 1 / 2 := own_e_w hne 1; omega) hW9 hH9 (by omega) D809 G822) pd_11 rfl rfl rfl rfl (by decide) (by decide) (by decide) (by decide) ?_
    rintro _ h828 ⟨rfl, K825, G826⟩
    show Go κ _ h828 _ _ 376 #[.val (.int p0), .val (.int p1), .val (.int p2), .val (.int p3), .val (.int p4), .val (.int p5), .val (.int (Int32.ofNat W)), .val (.int (Int32.ofNat Hr)), .val (.int (Int32.ofNat A)), .val (.int (1 : Int32)), .val (.int (Int32.ofNat Bw)), .val (.int (0 : Int32)), .val (.int (0 : Int32)), .val (.int (7 : Int32)), .val (.ref a764), .val (.ref a798), .unset, .unset, .unset, .unset, .unset, .unset] []
    refine go_iload B d0_376 rfl ?_
    refine go_iconst B (x := (2 : Int32)) d0_378 rfl ?_
    refine go_icmple B d0_379 (fun c379 => ?_) (fun c379 => ?_)
    · exact absurd c379 (by decide)
    refine go_aload B d0_382 rfl rfl ?_
    refine go_aload B d0_384 rfl rfl ?_
    refine go_iconst B (x := (2 : Int32)) d0_386 rfl ?_
    have f829 : AV Z h828 a764 .int [(.int (Int32.ofNat A)), (.int (Int32.ofNat Bw)), (.int (Int32.ofNat A)), (.int (Int32.ofNat Bw)), (.int (Int32.ofNat A)), (.int (Int32.ofNat Bw)), (.int (Int32.ofNat A)), (.int (Int32.ofNat Bw))] := (AV.keep f824 K825 (ninS (Ne.symm ne_a798_a764) (ninS ne_a764_sq801 (ninS ne_a764_hs802 (ninS ne_a764_pl803 nin0)))))
    refine go_iaload B (i := 2) (v := (.int (Int32.ofNat A))) d0_387 f829 rfl rfl ?_
    refine go_virtual B (W := 0) (a := a798) (argsL := [(.int (Int32.ofNat A))]) (st := []) d0_388 (w_58 H) (w_59 H) (w_61 H) (w_60 H) (w_4 H) (w_62 H) (by decide) (Exa.keep (Exa.keep (Exa.keep Aa798 K807) K821) K825) (own_pw1 H a798 sq801 hs802 pl803 zb804 la805 cf806 W Hr 2 A Bw A zf808 (own_cw A Bw) h828 (Nat.le_trans f827 K825.1) hA hBwW hne rfl (by decide) (by rfl) (by have z : own_e (own_cw A Bw) 2 A = 2 / 2 := own_e_w hne 2; omega) hW9 hH9 (by omega) D809 G826) pd_11 rfl rfl rfl rfl (by decide) (by decide) (by decide) (by decide) ?_
    rintro _ h832 ⟨rfl, K830, G831⟩
    show Go κ _ h832 _ _ 391 #[.val (.int p0), .val (.int p1), .val (.int p2), .val (.int p3), .val (.int p4), .val (.int p5), .val (.int (Int32.ofNat W)), .val (.int (Int32.ofNat Hr)), .val (.int (Int32.ofNat A)), .val (.int (1 : Int32)), .val (.int (Int32.ofNat Bw)), .val (.int (0 : Int32)), .val (.int (0 : Int32)), .val (.int (7 : Int32)), .val (.ref a764), .val (.ref a798), .unset, .unset, .unset, .unset, .unset, .unset] []
    refine go_iload B d0_391 rfl ?_
    refine go_iconst B (x := (3 : Int32)) d0_393 rfl ?_
    refine go_icmple B d0_394 (fun c394 => ?_) (fun c394 => ?_)
    · exact absurd c394 (by decide)
    refine go_aload B d0_397 rfl rfl ?_
    refine go_aload B d0_399 rfl rfl ?_
    refine go_iconst B (x := (3 : Int32)) d0_401 rfl ?_
    have f833 : AV Z h832 a764 .int [(.int (Int32.ofNat A)), (.int (Int32.ofNat Bw)), (.int (Int32.ofNat A)), (.int (Int32.ofNat Bw)), (.int (Int32.ofNat A)), (.int (Int32.ofNat Bw)), (.int (Int32.ofNat A)), (.int (Int32.ofNat Bw))] := (AV.keep f829 K830 (ninS (Ne.symm ne_a798_a764) (ninS ne_a764_sq801 (ninS ne_a764_hs802 (ninS ne_a764_pl803 nin0)))))
    refine go_iaload B (i := 3) (v := (.int (Int32.ofNat Bw))) d0_402 f833 rfl rfl ?_
    have f836 : Exa Z h832 a798 "com/example/plywright/plywright/games/ConnectFour" := (Exa.keep (Exa.keep (Exa.keep (Exa.keep Aa798 K807) K821) K825) K830)
    refine go_virtual B (W := 0) (a := a798) (argsL := [(.int (Int32.ofNat Bw))]) (st := []) d0_403 (w_58 H) (w_59 H) (w_61 H) (w_60 H) (w_4 H) (w_62 H) (by decide) f836 (own_pw1 H a798 sq801 hs802 pl803 zb804 la805 cf806 W Hr 3 A Bw Bw zf808 (own_cw A Bw) h832 (Nat.le_trans (Nat.le_trans f827 K825.1) K830.1) hA hBwW hne rfl (by decide) (by rfl) (by have z : own_e (own_cw A Bw) 3 Bw = 3 / 2 := own_e_w hne 3; omega) hW9 hH9 (by omega) D809 G831) pd_11 rfl rfl rfl rfl (by decide) (by decide) (by decide) (by decide) ?_
    rintro _ h837 ⟨rfl, K834, G835⟩
    show Go κ _ h837 _ _ 406 #[.val (.int p0), .val (.int p1), .val (.int p2), .val (.int p3), .val (.int p4), .val (.int p5), .val (.int (Int32.ofNat W)), .val (.int (Int32.ofNat Hr)), .val (.int (Int32.ofNat A)), .val (.int (1 : Int32)), .val (.int (Int32.ofNat Bw)), .val (.int (0 : Int32)), .val (.int (0 : Int32)), .val (.int (7 : Int32)), .val (.ref a764), .val (.ref a798), .unset, .unset, .unset, .unset, .unset, .unset] []
    refine go_iload B d0_406 rfl ?_
    refine go_iconst B (x := (4 : Int32)) d0_408 rfl ?_
    refine go_icmple B d0_409 (fun c409 => ?_) (fun c409 => ?_)
    · exact absurd c409 (by decide)
    refine go_aload B d0_412 rfl rfl ?_
    refine go_aload B d0_414 rfl rfl ?_
    refine go_iconst B (x := (4 : Int32)) d0_416 rfl ?_
    have f838 : AV Z h837 a764 .int [(.int (Int32.ofNat A)), (.int (Int32.ofNat Bw)), (.int (Int32.ofNat A)), (.int (Int32.ofNat Bw)), (.int (Int32.ofNat A)), (.int (Int32.ofNat Bw)), (.int (Int32.ofNat A)), (.int (Int32.ofNat Bw))] := (AV.keep f833 K834 (ninS (Ne.symm ne_a798_a764) (ninS ne_a764_sq801 (ninS ne_a764_hs802 (ninS ne_a764_pl803 nin0)))))
    refine go_iaload B (i := 4) (v := (.int (Int32.ofNat A))) d0_417 f838 rfl rfl ?_
    have f841 : n0 ≤ h837.size := (Nat.le_trans (Nat.le_trans (Nat.le_trans f827 K825.1) K830.1) K834.1)
    refine go_virtual B (W := 0) (a := a798) (argsL := [(.int (Int32.ofNat A))]) (st := []) d0_418 (w_58 H) (w_59 H) (w_61 H) (w_60 H) (w_4 H) (w_62 H) (by decide) (Exa.keep f836 K834) (own_pw2 H a798 sq801 hs802 pl803 zb804 la805 cf806 W Hr 4 A Bw A zf808 (own_cw A Bw) h837 f841 hA hBwW hne rfl (by decide) (by rfl) (by have z : own_e (own_cw A Bw) 4 A = 4 / 2 := own_e_w hne 4; omega) hW9 hH9 (by omega) D809 G835) pd_11 rfl rfl rfl rfl (by decide) (by decide) (by decide) (by decide) ?_
    rintro _ h842 ⟨rfl, K839, G840⟩
    show Go κ _ h842 _ _ 421 #[.val (.int p0), .val (.int p1), .val (.int p2), .val (.int p3), .val (.int p4), .val (.int p5), .val (.int (Int32.ofNat W)), .val (.int (Int32.ofNat Hr)), .val (.int (Int32.ofNat A)), .val (.int (1 : Int32)), .val (.int (Int32.ofNat Bw)), .val (.int (0 : Int32)), .val (.int (0 : Int32)), .val (.int (7 : Int32)), .val (.ref a764), .val (.ref a798), .unset, .unset, .unset, .unset, .unset, .unset] []
    refine go_iload B d0_421 rfl ?_
    refine go_iconst B (x := (5 : Int32)) d0_423 rfl ?_
    refine go_icmple B d0_424 (fun c424 => ?_) (fun c424 => ?_)
    · exact absurd c424 (by decide)
    refine go_aload B d0_427 rfl rfl ?_
    refine go_aload B d0_429 rfl rfl ?_
    refine go_iconst B (x := (5 : Int32)) d0_431 rfl ?_
    have f843 : AV Z h842 a764 .int [(.int (Int32.ofNat A)), (.int (Int32.ofNat Bw)), (.int (Int32.ofNat A)), (.int (Int32.ofNat Bw)), (.int (Int32.ofNat A)), (.int (Int32.ofNat Bw)), (.int (Int32.ofNat A)), (.int (Int32.ofNat Bw))] := (AV.keep f838 K839 (ninS (Ne.symm ne_a798_a764) (ninS ne_a764_sq801 (ninS ne_a764_hs802 (ninS ne_a764_pl803 nin0)))))
    refine go_iaload B (i := 5) (v := (.int (Int32.ofNat Bw))) d0_432 f843 rfl rfl ?_
    refine go_virtual B (W := 0) (a := a798) (argsL := [(.int (Int32.ofNat Bw))]) (st := []) d0_433 (w_58 H) (w_59 H) (w_61 H) (w_60 H) (w_4 H) (w_62 H) (by decide) (Exa.keep (Exa.keep f836 K834) K839) (own_pw2 H a798 sq801 hs802 pl803 zb804 la805 cf806 W Hr 5 A Bw Bw zf808 (own_cw A Bw) h842 (Nat.le_trans f841 K839.1) hA hBwW hne rfl (by decide) (by rfl) (by have z : own_e (own_cw A Bw) 5 Bw = 5 / 2 := own_e_w hne 5; omega) hW9 hH9 (by omega) D809 G840) pd_11 rfl rfl rfl rfl (by decide) (by decide) (by decide) (by decide) ?_
    rintro _ h846 ⟨rfl, K844, G845⟩
    show Go κ _ h846 _ _ 436 #[.val (.int p0), .val (.int p1), .val (.int p2), .val (.int p3), .val (.int p4), .val (.int p5), .val (.int (Int32.ofNat W)), .val (.int (Int32.ofNat Hr)), .val (.int (Int32.ofNat A)), .val (.int (1 : Int32)), .val (.int (Int32.ofNat Bw)), .val (.int (0 : Int32)), .val (.int (0 : Int32)), .val (.int (7 : Int32)), .val (.ref a764), .val (.ref a798), .unset, .unset, .unset, .unset, .unset, .unset] []
    refine go_iload B d0_436 rfl ?_
    refine go_bipush B (x := (6 : Int32)) d0_438 (by decide) ?_
    refine go_icmple B d0_440 (fun c440 => ?_) (fun c440 => ?_)
    · exact absurd c440 (by decide)
    refine go_aload B d0_443 rfl rfl ?_
    refine go_aload B d0_445 rfl rfl ?_
    refine go_bipush B (x := (6 : Int32)) d0_447 (by decide) ?_
    have f847 : AV Z h846 a764 .int [(.int (Int32.ofNat A)), (.int (Int32.ofNat Bw)), (.int (Int32.ofNat A)), (.int (Int32.ofNat Bw)), (.int (Int32.ofNat A)), (.int (Int32.ofNat Bw)), (.int (Int32.ofNat A)), (.int (Int32.ofNat Bw))] := (AV.keep f843 K844 (ninS (Ne.symm ne_a798_a764) (ninS ne_a764_sq801 (ninS ne_a764_hs802 (ninS ne_a764_pl803 nin0)))))
    refine go_iaload B (i := 6) (v := (.int (Int32.ofNat A))) d0_449 f847 rfl rfl ?_
    refine go_virtual B (W := 0) (a := a798) (argsL := [(.int (Int32.ofNat A))]) (st := []) d0_450 (w_58 H) (w_59 H) (w_61 H) (w_60 H) (w_4 H) (w_62 H) (by decide) (Exa.keep (Exa.keep (Exa.keep f836 K834) K839) K844) (own_pw3 H a798 sq801 hs802 pl803 zb804 la805 cf806 W Hr 6 A Bw A zf808 (own_cw A Bw) h846 (Nat.le_trans (Nat.le_trans f841 K839.1) K844.1) hA hBwW hne rfl (by decide) (by rfl) (by have z : own_e (own_cw A Bw) 6 A = 6 / 2 := own_e_w hne 6; omega) hW9 hH9 (by omega) D809 G845) pd_11 rfl rfl rfl rfl (by decide) (by decide) (by decide) (by decide) ?_
    rintro _ h850 ⟨rfl, K848, G849⟩
    show Go κ _ h850 _ _ 453 #[.val (.int p0), .val (.int p1), .val (.int p2), .val (.int p3), .val (.int p4), .val (.int p5), .val (.int (Int32.ofNat W)), .val (.int (Int32.ofNat Hr)), .val (.int (Int32.ofNat A)), .val (.int (1 : Int32)), .val (.int (Int32.ofNat Bw)), .val (.int (0 : Int32)), .val (.int (0 : Int32)), .val (.int (7 : Int32)), .val (.ref a764), .val (.ref a798), .unset, .unset, .unset, .unset, .unset, .unset] []
    refine go_iload B d0_453 rfl ?_
    refine go_bipush B (x := (7 : Int32)) d0_455 (by decide) ?_
    refine go_icmple B d0_457 (fun c457 => ?_) (fun c457 => ?_)
    rotate_left
    · exact absurd c457 (by decide)
    refine go_aload B d0_470 rfl rfl ?_
    have f874 : n0 ≤ h850.size := (Nat.le_trans (Nat.le_trans (Nat.le_trans f841 K839.1) K844.1) K848.1)
    obtain ⟨_, _, _, f851, f852, f853, f854, f855, f856, f857, f858, f859, f860, f861, f862, A863, A864, A865, A866, A867, A868⟩ := G849
    have f875 : Exa Z h850 a798 "com/example/plywright/plywright/games/ConnectFour" := (Exa.keep (Exa.keep (Exa.keep (Exa.keep f836 K834) K839) K844) K848)
    refine go_virtual B (W := 0) (a := a798) (argsL := []) (st := []) d0_472 (w_85 H) (w_86 H) (w_88 H) (w_87 H) (w_4 H) (w_89 H) (by decide) f875 (rmMw H a798 h850 f874 f861) pd_9 rfl rfl rfl rfl (by decide) (by decide) (by decide) (by decide) ?_
    rintro _ h876 ⟨m869, rfl, A871, K873⟩
    show Go κ _ h876 _ _ 475 #[.val (.int p0), .val (.int p1), .val (.int p2), .val (.int p3), .val (.int p4), .val (.int p5), .val (.int (Int32.ofNat W)), .val (.int (Int32.ofNat Hr)), .val (.int (Int32.ofNat A)), .val (.int (1 : Int32)), .val (.int (Int32.ofNat Bw)), .val (.int (0 : Int32)), .val (.int (0 : Int32)), .val (.int (7 : Int32)), .val (.ref a764), .val (.ref a798), .unset, .unset, .unset, .unset, .unset, .unset] [(.ref m869)]
    refine go_astore B #[.val (.int p0), .val (.int p1), .val (.int p2), .val (.int p3), .val (.int p4), .val (.int p5), .val (.int (Int32.ofNat W)), .val (.int (Int32.ofNat Hr)), .val (.int (Int32.ofNat A)), .val (.int (1 : Int32)), .val (.int (Int32.ofNat Bw)), .val (.int (0 : Int32)), .val (.int (0 : Int32)), .val (.int (7 : Int32)), .val (.ref a764), .val (.ref a798), .val (.ref m869), .unset, .unset, .unset, .unset, .unset] d0_475 rfl rfl ?_
    refine go_iload B d0_477 rfl ?_
    refine go_ifeq B d0_479 (fun c479 => ?_) (fun c479 => ?_)
    · exact absurd c479 (by decide)
    refine go_aload B d0_482 rfl rfl ?_
    refine go_arraylength B (x := (0 : Int32)) d0_484 A871 rfl ?_
    refine go_ifne B d0_485 (fun c485 => ?_) (fun c485 => ?_)
    · exact absurd c485 (by decide)
    refine go_iconst B (x := (1 : Int32)) d0_488 rfl ?_
    refine go_goto B d0_489 ?_
    have f877 : km818 ≤ h876.size := (Nat.le_trans (Nat.le_trans (Nat.le_trans (Nat.le_trans (Nat.le_trans (Nat.le_trans (Nat.le_trans (Nat.le_trans K819 K821.1) K825.1) K830.1) K834.1) K839.1) K844.1) K848.1) K873.1)
    refine go_zreturn B (y := (1 : Int32)) d0_493 (by decide) (by decide) (by decide) ?_ (hkm := f877)
    exact rfl
set_option maxRecDepth 65536 in
set_option maxHeartbeats 40000000 in
theorem comes_1 {Post : Tables → Env → Array Value → State → Outcome → State → Prop} (hpost : ∀ tb e args s v u, (limb_1_1.after args s (.returned v) u = true ∧ limb_1_2.after args s (.returned v) u = true ∧ True) → FramedW s (.returned v) u (Jvm.fieldLocs frame_1_writes args s ++ Jvm.arrayLocs frame_1_arrays args s ++ Jvm.staticLocs frame_1_statics s) 40 3776 → Post tb e args s (.returned v) u) :
    ArmFor flags0 classFile x code maxLocals ret World_1 tables_1 room_1 Calls_1 rest_1 Pre_1 Post := by
  intro l hfl _ _ p e ha hc hk s m args below hf hA hF happ hP
  obtain ⟨hcalls, hrest, hpre⟩ := hP
  obtain ⟨-, -, -, hnamed, -, -, -, hat⟩ := (Spec.applies_iff hf).mp happ
  obtain ⟨hg, hn⟩ := and_e (Cond.before_iff.mp (show (Jvm.Cond.and given_1 narrow_1).before args s = true from hpre))
  obtain ⟨hg0, hg1⟩ := and_e hg
  obtain ⟨hk0, hg2⟩ := and_e hg1
  obtain ⟨hk1, hg3⟩ := and_e hg2
  obtain ⟨hk2, hg4⟩ := and_e hg3
  obtain ⟨hk3, hg5⟩ := and_e hg4
  obtain ⟨hk4, hg6⟩ := and_e hg5
  have hk5 := hg6
  obtain ⟨w0, w1, w2, w3, w4, w5, rfl⟩ : ∃ w0 w1 w2 w3 w4 w5 : Value, args = #[w0, w1, w2, w3, w4, w5] := by
    have hs : args.size = 6 := by simpa [Cond.value, given_1] using hg0
    obtain ⟨L⟩ := args
    match L, hs with
    | [w0, w1, w2, w3, w4, w5], _ => exact ⟨w0, w1, w2, w3, w4, w5, rfl⟩
  have hw : Wd _ s := fun d (hd : d ∈ tables_1) => atoms_spec (ws := Jvm.Cond.code x code maxLocals ret :: tables_1) hat d (List.mem_cons_of_mem _ hd)
  obtain ⟨i0, e0⟩ := is_v hk0
  obtain rfl : w0 = (.int i0) := Option.some.inj e0
  obtain ⟨i1, e1⟩ := is_v hk1
  obtain rfl : w1 = (.int i1) := Option.some.inj e1
  obtain ⟨i2, e2⟩ := is_v hk2
  obtain rfl : w2 = (.int i2) := Option.some.inj e2
  obtain ⟨i3, e3⟩ := is_v hk3
  obtain rfl : w3 = (.int i3) := Option.some.inj e3
  obtain ⟨i4, e4⟩ := is_v hk4
  obtain rfl : w4 = (.int i4) := Option.some.inj e4
  obtain ⟨i5, e5⟩ := is_v hk5
  obtain rfl : w5 = (.int i5) := Option.some.inj e5
  obtain ⟨n, o, h1, h2, h3, _, L, rfl, ⟨rfl, N⟩, hq⟩ := rm0 (l := l) hw i0 i1 i2 i3 i4 i5 s.heap (Nat.le_refl _)  p e ha hc hk s m _ below hf ((Spec.applies_iff_loose hf).mp happ).1 ⟨rfl, State.Warmed39.refl s, rfl⟩ trivial
  refine ⟨n, _, h1, h2, h3, hpost _ _ _ _ _ _ ⟨Cond.after_iff.mpr rfl, Cond.after_iff.mpr (eq_i res_at (Term.int_eval (1)) rfl), trivial⟩ ⟨hq.1, hq.2.1, hq.2.2.1, (hq.2.2.2.sift fun y hy => Or.inr (N y hy)).mono (by decide) (by decide)⟩⟩
theorem main_1_1 : Claimed_1_1 := comes_1 fun _ _ _ _ _ _ h hF => ⟨h.1, hF⟩
theorem main_1_2 : Claimed_1_2 := comes_1 fun _ _ _ _ _ _ h hF => ⟨h.2.1, hF⟩
end Jvm.Pilot.@@N@@
namespace Jvm.Pilot.@@N@@
open Jvm Jvm.ClassFile Sem Op Lib Jvm.Free Jvm.Stand Jvm.Pilot.@@N@@.Jvm.D
/-! MADE BY PROGRAM (witnessworld.py) out of the Statement's table words and the real class files: 21 classes; the members and pool entries that the words name. The judged class is class 1, her method 1. -/
namespace start1
open Jvm.ClassFile
def u (s : String) : CpInfo := .utf8 (stringToUtf16 s)
/-- a pool by its gaps: so many unusable entries, then the entry; so many at the end -/
def gap : Nat → List CpInfo → List CpInfo
  | 0, r => r
  | n + 1, r => .unusable :: gap n r
def poolList (es : List (Nat × CpInfo)) (last : Nat) : List CpInfo := es.foldr (fun e r => gap e.1 (e.2 :: r)) (gap last [])
def pool (es : List (Nat × CpInfo)) (last : Nat) : Array CpInfo := ⟨poolList es last⟩
def fileOf (pool : Array CpInfo) (this : Nat) (attrs : Array Attribute := #[]) (ms : Array MethodInfo := #[]) (fl : Nat := 33) (sup : Nat := 0) (ifs : Array Nat := #[]) (fds : Array FieldInfo := #[]) : ClassFile where
  minorVersion := 0
  majorVersion := 65
  constantPool := pool
  accessFlags := fl
  thisClass := this
  superClass := sup
  interfaces := ifs
  fields := fds
  methods := ms
  attributes := attrs
def plain (name : String) (sup : Option ClassId) : Class where
  name := name
  kind := .ordinary
  loader := none
  accessFlags := 33
  super := sup
  interfaces := #[]
  cf := none
  fields := #[]
  methods := #[]
  instanceTypes := #[]
  staticTypes := #[]
  resolved := #[]
  callSites := []
  init := .initialized
  statics := none
  mirror := none

def pool0 : Array CpInfo := pool [(5, u "<init>"), (0, u "()V"), (1, .class_ 10), (1, u "java/lang/Object")] 113

def k0c0 : Code := { maxStack := 0, maxLocals := 1, code := object_method_1_code, exceptionTable := #[], attributes := #[] }
def k0m0 : Method := { name := "<init>", desc := "()V", sig := { parameters := [], returnType := none }, accessFlags := 1, code := some k0c0 }
/-- java/lang/Object -/
def k0 : Class := { plain "java/lang/Object" none with
  accessFlags := 33
  interfaces := #[]
  cf := some (fileOf pool0 8 #[] #[{ accessFlags := 1, nameIndex := 5, descriptorIndex := 6, attributes := #[] }] 33 0 #[] #[])
  fields := #[]
  methods := #[k0m0]
  instanceTypes := #[]
  staticTypes := #[]
  resolved := Array.replicate 124 none
  statics := none }

def pool1 : Array CpInfo := pool [(2, .class_ 4), (1, u "java/lang/Object"), (0, u "<init>"), (0, u "()V"), (0, .integer 2147483647), (0, .methodref 9 10), (0, .class_ 11), (0, .nameAndType 12 13), (0, u "java/lang/Math"), (0, u "min"), (0, u "(II)I"), (0, .class_ 15), (0, u "com/example/plywright/plywright/games/ConnectFour"), (0, .methodref 14 17), (0, .nameAndType 5 18), (0, u "(II)V"), (0, .methodref 14 20), (0, .nameAndType 21 22), (0, u "play"), (0, u "(I)V"), (0, .methodref 14 24), (0, .nameAndType 25 26), (0, u "moves"), (0, u "()[I"), (0, .methodref 28 29), (0, .class_ 30), (0, .nameAndType 31 32), (0, u "com/example/plywright/plywright/games/ConnectFourMovesPinLaw"), (0, u "ok"), (0, u "([IIIIIZZ)Z"), (0, .methodref 28 34), (0, .nameAndType 35 13), (0, u "rank"), (0, .methodref 9 37), (0, .nameAndType 38 39), (0, u "abs"), (0, u "(I)I"), (0, .methodref 9 41), (0, .nameAndType 42 13), (0, u "max"), (2, u "law"), (0, u "(IIIIII)Z")] 5

def k1m0 : Method := { name := "<init>", desc := "()V", sig := { parameters := [], returnType := none }, accessFlags := 1, code := none }
def k1c1 : Code := { maxStack := 7, maxLocals := 22, code := code, exceptionTable := #[], attributes := #[] }
def k1m1 : Method := { name := "law", desc := "(IIIIII)Z", sig := { parameters := [.int, .int, .int, .int, .int, .int], returnType := some .boolean }, accessFlags := 9, code := some k1c1 }
def k1c2 : Code := { maxStack := 3, maxLocals := 8, code := method_3_code, exceptionTable := #[], attributes := #[] }
def k1m2 : Method := { name := "ok", desc := "([IIIIIZZ)Z", sig := { parameters := [(.array .int), .int, .int, .int, .int, .boolean, .boolean], returnType := some .boolean }, accessFlags := 10, code := some k1c2 }
def k1c3 : Code := { maxStack := 3, maxLocals := 3, code := method_4_code, exceptionTable := #[], attributes := #[] }
def k1m3 : Method := { name := "rank", desc := "(II)I", sig := { parameters := [.int, .int], returnType := some .int }, accessFlags := 10, code := some k1c3 }
/-- com/example/plywright/plywright/games/ConnectFourMovesPinLaw -/
def k1 : Class := { plain "com/example/plywright/plywright/games/ConnectFourMovesPinLaw" (some 0) with
  accessFlags := 49
  interfaces := #[]
  cf := some (fileOf pool1 28 #[] #[{ accessFlags := 1, nameIndex := 5, descriptorIndex := 6, attributes := #[] }, { accessFlags := 9, nameIndex := 45, descriptorIndex := 46, attributes := #[] }, { accessFlags := 10, nameIndex := 31, descriptorIndex := 32, attributes := #[] }, { accessFlags := 10, nameIndex := 35, descriptorIndex := 13, attributes := #[] }] 49 2 #[] #[])
  fields := #[]
  methods := #[k1m0, k1m1, k1m2, k1m3]
  instanceTypes := #[]
  staticTypes := #[]
  resolved := Array.replicate 52 none
  statics := none }

def pool2 : Array CpInfo := pool [(12, .class_ 14), (1, u "com/example/plywright/plywright/core/Game"), (9, .class_ 25), (0, u "java/lang/Object"), (0, u "MAX_EVALUATION"), (0, u "I")] 20

/-- com/example/plywright/plywright/core/Game -/
def k2 : Class := { plain "com/example/plywright/plywright/core/Game" (some 0) with
  accessFlags := 1537
  interfaces := #[]
  cf := some (fileOf pool2 12 #[] #[] 1537 24 #[] #[{ accessFlags := 25, nameIndex := 26, descriptorIndex := 27, attributes := #[] }])
  fields := #[{ name := "MAX_EVALUATION", type := .int, accessFlags := 25, slot := 0, constantValue := 0 }]
  methods := #[]
  instanceTypes := #[]
  staticTypes := #[.int]
  resolved := Array.replicate 48 none
  statics := none }

def pool3 : Array CpInfo := pool [(1, .methodref 2 3), (0, .class_ 4), (0, .nameAndType 5 6), (0, u "java/lang/Object"), (0, u "<init>"), (0, u "()V"), (0, .string 8), (0, u "columns"), (0, .methodref 10 11), (0, .class_ 12), (0, .nameAndType 13 14), (0, u "com/example/plywright/plywright/games/ConnectFour"), (0, u "checkSize"), (0, u "(Ljava/lang/String;I)V"), (0, .string 16), (0, u "rows"), (0, .fieldref 10 18), (0, .nameAndType 8 19), (0, u "I"), (0, .fieldref 10 21), (0, .nameAndType 16 19), (0, .fieldref 10 23), (0, .nameAndType 24 19), (0, u "stride"), (0, .fieldref 10 26), (0, .nameAndType 27 28), (0, u "squares"), (0, u "[B"), (0, .fieldref 10 30), (0, .nameAndType 31 32), (0, u "heights"), (0, u "[I"), (0, .fieldref 10 34), (0, .nameAndType 35 32), (0, u "played"), (0, .methodref 37 38), (0, .class_ 39), (0, .nameAndType 40 41), (0, u "com/example/plywright/plywright/core/Zobrist"), (0, u "numbers"), (0, u "(I)[J"), (0, .fieldref 10 43), (0, .nameAndType 44 45), (0, u "zobrist"), (0, u "[J"), (0, .fieldref 10 47), (0, .nameAndType 48 49), (0, u "onMiddleRow"), (0, u "[Z"), (0, .methodref 10 51), (0, .nameAndType 52 53), (0, u "square"), (0, u "(II)I"), (0, .fieldref 10 55), (0, .nameAndType 56 32), (0, u "evaluatedSteps"), (0, .fieldref 10 58), (0, .nameAndType 59 32), (0, u "lineSteps"), (0, .fieldref 10 61), (0, .nameAndType 62 32), (0, u "centreFirst"), (2, u "(II)V"), (8, u "play"), (0, u "(I)V"), (19, .fieldref 10 96), (0, .nameAndType 97 19), (0, u "plies"), (4, .fieldref 10 103), (0, .nameAndType 104 105), (0, u "won"), (0, u "Z"), (8, .methodref 10 115), (0, .nameAndType 116 117), (0, u "sideToMove"), (0, u "()B"), (0, .fieldref 10 119), (0, .nameAndType 120 121), (0, u "key"), (0, u "J"), (0, .methodref 10 123), (0, .nameAndType 124 125), (0, u "keyChange"), (0, u "(IB)J"), (0, .methodref 10 127), (0, .nameAndType 128 129), (0, u "makesFour"), (0, u "(IB)Z"), (0, .methodref 10 131), (0, .nameAndType 132 133), (0, u "run"), (0, u "(IIB)I"), (38, .class_ 173), (0, u "com/example/plywright/plywright/core/Game"), (0, u "MIN_SIZE"), (2, u "MAX_SIZE"), (1, u "STANDARD_COLUMNS"), (1, u "STANDARD_ROWS"), (1, u "MIDDLE_ROW_SCORE"), (0, u "NEIGHBOUR_SCORE"), (1, u "PAIR_SCORE"), (1, u "FOUR"), (0, u "BORDER"), (0, u "EMPTY"), (0, u "B"), (1, u "FIRST"), (1, u "SECOND"), (9, u "moves"), (0, u "()[I")] 30

def k3c0 : Code := { maxStack := 6, maxLocals := 9, code := prog_19_method_1_code, exceptionTable := #[], attributes := #[] }
def k3m0 : Method := { name := "<init>", desc := "(II)V", sig := { parameters := [.int, .int], returnType := none }, accessFlags := 1, code := some k3c0 }
def k3c1 : Code := { maxStack := 4, maxLocals := 2, code := prog_19_method_3_code, exceptionTable := #[], attributes := #[] }
def k3m1 : Method := { name := "checkSize", desc := "(Ljava/lang/String;I)V", sig := { parameters := [(.object "java/lang/String"), .int], returnType := none }, accessFlags := 10, code := some k3c1 }
def k3c2 : Code := { maxStack := 2, maxLocals := 1, code := prog_19_method_4_code, exceptionTable := #[], attributes := #[] }
def k3m2 : Method := { name := "sideToMove", desc := "()B", sig := { parameters := [], returnType := some .byte }, accessFlags := 2, code := some k3c2 }
def k3c3 : Code := { maxStack := 2, maxLocals := 3, code := prog_19_method_5_code, exceptionTable := #[], attributes := #[] }
def k3m3 : Method := { name := "square", desc := "(II)I", sig := { parameters := [.int, .int], returnType := some .int }, accessFlags := 2, code := some k3c3 }
def k3c4 : Code := { maxStack := 3, maxLocals := 8, code := prog_19_method_11_code, exceptionTable := #[], attributes := #[] }
def k3m4 : Method := { name := "moves", desc := "()[I", sig := { parameters := [], returnType := some (.array .int) }, accessFlags := 1, code := some k3c4 }
def k3c5 : Code := { maxStack := 6, maxLocals := 4, code := prog_19_method_12_code, exceptionTable := #[], attributes := #[] }
def k3m5 : Method := { name := "play", desc := "(I)V", sig := { parameters := [.int], returnType := none }, accessFlags := 1, code := some k3c5 }
def k3c6 : Code := { maxStack := 5, maxLocals := 3, code := prog_19_method_13_code, exceptionTable := #[], attributes := #[] }
def k3m6 : Method := { name := "keyChange", desc := "(IB)J", sig := { parameters := [.int, .byte], returnType := some .long }, accessFlags := 2, code := some k3c6 }
def k3c7 : Code := { maxStack := 5, maxLocals := 8, code := prog_19_method_14_code, exceptionTable := #[], attributes := #[] }
def k3m7 : Method := { name := "makesFour", desc := "(IB)Z", sig := { parameters := [.int, .byte], returnType := some .boolean }, accessFlags := 2, code := some k3c7 }
def k3c8 : Code := { maxStack := 2, maxLocals := 6, code := prog_19_method_15_code, exceptionTable := #[], attributes := #[] }
def k3m8 : Method := { name := "run", desc := "(IIB)I", sig := { parameters := [.int, .int, .byte], returnType := some .int }, accessFlags := 2, code := some k3c8 }
/-- com/example/plywright/plywright/games/ConnectFour -/
def k3 : Class := { plain "com/example/plywright/plywright/games/ConnectFour" (some 0) with
  accessFlags := 33
  interfaces := #[2]
  cf := some (fileOf pool3 10 #[] #[{ accessFlags := 1, nameIndex := 5, descriptorIndex := 65, attributes := #[] }, { accessFlags := 10, nameIndex := 13, descriptorIndex := 14, attributes := #[] }, { accessFlags := 2, nameIndex := 116, descriptorIndex := 117, attributes := #[] }, { accessFlags := 2, nameIndex := 52, descriptorIndex := 53, attributes := #[] }, { accessFlags := 1, nameIndex := 205, descriptorIndex := 206, attributes := #[] }, { accessFlags := 1, nameIndex := 74, descriptorIndex := 75, attributes := #[] }, { accessFlags := 2, nameIndex := 124, descriptorIndex := 125, attributes := #[] }, { accessFlags := 2, nameIndex := 128, descriptorIndex := 129, attributes := #[] }, { accessFlags := 2, nameIndex := 132, descriptorIndex := 133, attributes := #[] }] 33 2 #[172] #[{ accessFlags := 25, nameIndex := 174, descriptorIndex := 19, attributes := #[] }, { accessFlags := 25, nameIndex := 177, descriptorIndex := 19, attributes := #[] }, { accessFlags := 25, nameIndex := 179, descriptorIndex := 19, attributes := #[] }, { accessFlags := 25, nameIndex := 181, descriptorIndex := 19, attributes := #[] }, { accessFlags := 26, nameIndex := 183, descriptorIndex := 19, attributes := #[] }, { accessFlags := 26, nameIndex := 184, descriptorIndex := 19, attributes := #[] }, { accessFlags := 26, nameIndex := 186, descriptorIndex := 19, attributes := #[] }, { accessFlags := 26, nameIndex := 188, descriptorIndex := 19, attributes := #[] }, { accessFlags := 26, nameIndex := 189, descriptorIndex := 19, attributes := #[] }, { accessFlags := 26, nameIndex := 190, descriptorIndex := 191, attributes := #[] }, { accessFlags := 26, nameIndex := 193, descriptorIndex := 191, attributes := #[] }, { accessFlags := 26, nameIndex := 195, descriptorIndex := 191, attributes := #[] }, { accessFlags := 18, nameIndex := 8, descriptorIndex := 19, attributes := #[] }, { accessFlags := 18, nameIndex := 16, descriptorIndex := 19, attributes := #[] }, { accessFlags := 18, nameIndex := 24, descriptorIndex := 19, attributes := #[] }, { accessFlags := 18, nameIndex := 27, descriptorIndex := 28, attributes := #[] }, { accessFlags := 18, nameIndex := 48, descriptorIndex := 49, attributes := #[] }, { accessFlags := 18, nameIndex := 56, descriptorIndex := 32, attributes := #[] }, { accessFlags := 18, nameIndex := 59, descriptorIndex := 32, attributes := #[] }, { accessFlags := 18, nameIndex := 62, descriptorIndex := 32, attributes := #[] }, { accessFlags := 18, nameIndex := 31, descriptorIndex := 32, attributes := #[] }, { accessFlags := 18, nameIndex := 35, descriptorIndex := 32, attributes := #[] }, { accessFlags := 18, nameIndex := 44, descriptorIndex := 45, attributes := #[] }, { accessFlags := 2, nameIndex := 97, descriptorIndex := 19, attributes := #[] }, { accessFlags := 2, nameIndex := 104, descriptorIndex := 105, attributes := #[] }, { accessFlags := 2, nameIndex := 120, descriptorIndex := 121, attributes := #[] }])
  fields := #[{ name := "MIN_SIZE", type := .int, accessFlags := 25, slot := 0, constantValue := 0 }, { name := "MAX_SIZE", type := .int, accessFlags := 25, slot := 1, constantValue := 0 }, { name := "STANDARD_COLUMNS", type := .int, accessFlags := 25, slot := 2, constantValue := 0 }, { name := "STANDARD_ROWS", type := .int, accessFlags := 25, slot := 3, constantValue := 0 }, { name := "MIDDLE_ROW_SCORE", type := .int, accessFlags := 26, slot := 4, constantValue := 0 }, { name := "NEIGHBOUR_SCORE", type := .int, accessFlags := 26, slot := 5, constantValue := 0 }, { name := "PAIR_SCORE", type := .int, accessFlags := 26, slot := 6, constantValue := 0 }, { name := "FOUR", type := .int, accessFlags := 26, slot := 7, constantValue := 0 }, { name := "BORDER", type := .int, accessFlags := 26, slot := 8, constantValue := 0 }, { name := "EMPTY", type := .byte, accessFlags := 26, slot := 9, constantValue := 0 }, { name := "FIRST", type := .byte, accessFlags := 26, slot := 10, constantValue := 0 }, { name := "SECOND", type := .byte, accessFlags := 26, slot := 11, constantValue := 0 }, { name := "columns", type := .int, accessFlags := 18, slot := 0, constantValue := 0 }, { name := "rows", type := .int, accessFlags := 18, slot := 1, constantValue := 0 }, { name := "stride", type := .int, accessFlags := 18, slot := 2, constantValue := 0 }, { name := "squares", type := (.array .byte), accessFlags := 18, slot := 3, constantValue := 0 }, { name := "onMiddleRow", type := (.array .boolean), accessFlags := 18, slot := 4, constantValue := 0 }, { name := "evaluatedSteps", type := (.array .int), accessFlags := 18, slot := 5, constantValue := 0 }, { name := "lineSteps", type := (.array .int), accessFlags := 18, slot := 6, constantValue := 0 }, { name := "centreFirst", type := (.array .int), accessFlags := 18, slot := 7, constantValue := 0 }, { name := "heights", type := (.array .int), accessFlags := 18, slot := 8, constantValue := 0 }, { name := "played", type := (.array .int), accessFlags := 18, slot := 9, constantValue := 0 }, { name := "zobrist", type := (.array .long), accessFlags := 18, slot := 10, constantValue := 0 }, { name := "plies", type := .int, accessFlags := 2, slot := 11, constantValue := 0 }, { name := "won", type := .boolean, accessFlags := 2, slot := 12, constantValue := 0 }, { name := "key", type := .long, accessFlags := 2, slot := 13, constantValue := 0 }]
  methods := #[k3m0, k3m1, k3m2, k3m3, k3m4, k3m5, k3m6, k3m7, k3m8]
  instanceTypes := #[.int, .int, .int, (.array .byte), (.array .boolean), (.array .int), (.array .int), (.array .int), (.array .int), (.array .int), (.array .long), .int, .boolean, .long]
  staticTypes := #[.int, .int, .int, .int, .int, .int, .int, .int, .int, .byte, .byte, .byte]
  resolved := Array.replicate 237 none
  statics := none }

def pool4 : Array CpInfo := pool [(1, .class_ 2), (0, u "java/io/Serializable"), (0, .class_ 4), (0, u "java/lang/Object")] 2

/-- java/io/Serializable -/
def k4 : Class := { plain "java/io/Serializable" (some 0) with
  accessFlags := 1537
  interfaces := #[]
  cf := some (fileOf pool4 1 #[] #[] 1537 3 #[] #[])
  fields := #[]
  methods := #[]
  instanceTypes := #[]
  staticTypes := #[]
  resolved := Array.replicate 7 none
  statics := none }

def pool5 : Array CpInfo := pool [(1, .class_ 2), (0, u "java/lang/Comparable"), (0, .class_ 4), (0, u "java/lang/Object")] 7

/-- java/lang/Comparable -/
def k5 : Class := { plain "java/lang/Comparable" (some 0) with
  accessFlags := 1537
  interfaces := #[]
  cf := some (fileOf pool5 1 #[] #[] 1537 3 #[] #[])
  fields := #[]
  methods := #[]
  instanceTypes := #[]
  staticTypes := #[]
  resolved := Array.replicate 12 none
  statics := none }

def pool6 : Array CpInfo := pool [(2, .class_ 4), (1, u "java/lang/CharSequence"), (42, .class_ 48), (0, u "java/lang/CharSequence$1CodePointIterator"), (10, .class_ 60), (0, u "java/lang/CharSequence$1CharIterator"), (5, .class_ 67), (0, u "java/lang/Object")] 63

/-- java/lang/CharSequence -/
def k6 : Class := { plain "java/lang/CharSequence" (some 0) with
  accessFlags := 1537
  interfaces := #[]
  cf := some (fileOf pool6 2 #[.nestMembers #[47, 59]] #[] 1537 66 #[] #[])
  fields := #[]
  methods := #[]
  instanceTypes := #[]
  staticTypes := #[]
  resolved := Array.replicate 131 none
  statics := none }

def pool7 : Array CpInfo := pool [(1, .class_ 2), (0, u "java/lang/constant/Constable"), (0, .class_ 4), (0, u "java/lang/Object")] 6

/-- java/lang/constant/Constable -/
def k7 : Class := { plain "java/lang/constant/Constable" (some 0) with
  accessFlags := 1537
  interfaces := #[]
  cf := some (fileOf pool7 1 #[] #[] 1537 3 #[] #[])
  fields := #[]
  methods := #[]
  instanceTypes := #[]
  staticTypes := #[]
  resolved := Array.replicate 11 none
  statics := none }

def pool8 : Array CpInfo := pool [(1, .class_ 2), (0, u "java/lang/constant/ConstantDesc"), (0, .class_ 4), (0, u "java/lang/Object")] 32

/-- java/lang/constant/ConstantDesc -/
def k8 : Class := { plain "java/lang/constant/ConstantDesc" (some 0) with
  accessFlags := 1537
  interfaces := #[]
  cf := some (fileOf pool8 1 #[] #[] 1537 3 #[] #[])
  fields := #[]
  methods := #[]
  instanceTypes := #[]
  staticTypes := #[]
  resolved := Array.replicate 37 none
  statics := none }

def pool9 : Array CpInfo := pool [(2, .class_ 4), (1, u "java/lang/Object"), (0, u "<init>"), (0, u "()V"), (3, .class_ 12), (1, u "java/lang/String"), (0, u "value"), (0, u "[B"), (2, u "coder"), (0, u "B"), (2, u "hash"), (0, u "I"), (2, u "hashIsZero"), (0, u "Z"), (13, u "COMPACT_STRINGS"), (534, .class_ 576), (0, u "java/lang/CharSequence"), (22, u "CASE_INSENSITIVE_ORDER"), (0, u "Ljava/util/Comparator;"), (500, u "serialPersistentFields"), (0, u "[Ljava/io/ObjectStreamField;"), (0, .class_ 1104), (0, u "java/lang/String$CaseInsensitiveComparator"), (1, .class_ 1107), (0, u "java/io/Serializable"), (0, .class_ 1109), (0, u "java/lang/Comparable"), (0, .class_ 1111), (0, u "java/lang/constant/Constable"), (0, .class_ 1113), (0, u "java/lang/constant/ConstantDesc"), (2, u "serialVersionUID"), (0, u "J"), (3, u "REPL"), (0, u "C"), (2, u "LATIN1"), (1, u "UTF16")] 323

def k9m0 : Method := { name := "<init>", desc := "()V", sig := { parameters := [], returnType := none }, accessFlags := 1, code := none }
/-- java/lang/String -/
def k9 : Class := { plain "java/lang/String" (some 0) with
  accessFlags := 49
  interfaces := #[4, 5, 6, 7, 8]
  cf := some (fileOf pool9 10 #[.nestMembers #[1103]] #[{ accessFlags := 1, nameIndex := 5, descriptorIndex := 6, attributes := #[] }] 49 2 #[1106, 1108, 575, 1110, 1112] #[{ accessFlags := 18, nameIndex := 13, descriptorIndex := 14, attributes := #[] }, { accessFlags := 18, nameIndex := 17, descriptorIndex := 18, attributes := #[] }, { accessFlags := 2, nameIndex := 21, descriptorIndex := 22, attributes := #[] }, { accessFlags := 2, nameIndex := 25, descriptorIndex := 26, attributes := #[] }, { accessFlags := 26, nameIndex := 1116, descriptorIndex := 1117, attributes := #[] }, { accessFlags := 24, nameIndex := 40, descriptorIndex := 26, attributes := #[] }, { accessFlags := 26, nameIndex := 1101, descriptorIndex := 1102, attributes := #[] }, { accessFlags := 26, nameIndex := 1121, descriptorIndex := 1122, attributes := #[] }, { accessFlags := 25, nameIndex := 599, descriptorIndex := 600, attributes := #[] }, { accessFlags := 24, nameIndex := 1125, descriptorIndex := 18, attributes := #[] }, { accessFlags := 24, nameIndex := 1127, descriptorIndex := 18, attributes := #[] }])
  fields := #[{ name := "value", type := (.array .byte), accessFlags := 18, slot := 0, constantValue := 0 }, { name := "coder", type := .byte, accessFlags := 18, slot := 1, constantValue := 0 }, { name := "hash", type := .int, accessFlags := 2, slot := 2, constantValue := 0 }, { name := "hashIsZero", type := .boolean, accessFlags := 2, slot := 3, constantValue := 0 }, { name := "serialVersionUID", type := .long, accessFlags := 26, slot := 0, constantValue := 0 }, { name := "COMPACT_STRINGS", type := .boolean, accessFlags := 24, slot := 1, constantValue := 0 }, { name := "serialPersistentFields", type := (.array (.object "java/io/ObjectStreamField")), accessFlags := 26, slot := 2, constantValue := 0 }, { name := "REPL", type := .char, accessFlags := 26, slot := 3, constantValue := 0 }, { name := "CASE_INSENSITIVE_ORDER", type := (.object "java/util/Comparator"), accessFlags := 25, slot := 4, constantValue := 0 }, { name := "LATIN1", type := .byte, accessFlags := 24, slot := 5, constantValue := 0 }, { name := "UTF16", type := .byte, accessFlags := 24, slot := 6, constantValue := 0 }]
  methods := #[k9m0]
  instanceTypes := #[(.array .byte), .byte, .int, .boolean]
  staticTypes := #[.long, .boolean, (.array (.object "java/io/ObjectStreamField")), .char, (.object "java/util/Comparator"), .byte, .byte]
  resolved := Array.replicate 1451 none
  statics := none }

def pool10 : Array CpInfo := pool [(2, .class_ 4), (1, u "java/lang/Object"), (0, u "<init>"), (0, u "()V"), (0, .class_ 8), (0, u "com/example/plywright/plywright/core/Zobrist"), (0, .long 11400714819323198485), (1, .long 13787848793156543929), (1, .long 10723151780598845931), (1, u "SEED"), (0, u "J"), (3, u "STEP"), (0, u "FIRST_MULTIPLIER"), (0, u "SECOND_MULTIPLIER"), (2, u "numbers"), (0, u "(I)[J")] 5

def k10m0 : Method := { name := "<init>", desc := "()V", sig := { parameters := [], returnType := none }, accessFlags := 2, code := none }
def k10c1 : Code := { maxStack := 7, maxLocals := 7, code := prog_14_method_2_code, exceptionTable := #[], attributes := #[] }
def k10m1 : Method := { name := "numbers", desc := "(I)[J", sig := { parameters := [.int], returnType := some (.array .long) }, accessFlags := 9, code := some k10c1 }
/-- com/example/plywright/plywright/core/Zobrist -/
def k10 : Class := { plain "com/example/plywright/plywright/core/Zobrist" (some 0) with
  accessFlags := 33
  interfaces := #[]
  cf := some (fileOf pool10 7 #[] #[{ accessFlags := 2, nameIndex := 5, descriptorIndex := 6, attributes := #[] }, { accessFlags := 9, nameIndex := 25, descriptorIndex := 26, attributes := #[] }] 33 2 #[] #[{ accessFlags := 26, nameIndex := 15, descriptorIndex := 16, attributes := #[] }, { accessFlags := 26, nameIndex := 20, descriptorIndex := 16, attributes := #[] }, { accessFlags := 26, nameIndex := 21, descriptorIndex := 16, attributes := #[] }, { accessFlags := 26, nameIndex := 22, descriptorIndex := 16, attributes := #[] }])
  fields := #[{ name := "SEED", type := .long, accessFlags := 26, slot := 0, constantValue := 0 }, { name := "STEP", type := .long, accessFlags := 26, slot := 1, constantValue := 0 }, { name := "FIRST_MULTIPLIER", type := .long, accessFlags := 26, slot := 2, constantValue := 0 }, { name := "SECOND_MULTIPLIER", type := .long, accessFlags := 26, slot := 3, constantValue := 0 }]
  methods := #[k10m0, k10m1]
  instanceTypes := #[]
  staticTypes := #[.long, .long, .long, .long]
  resolved := Array.replicate 32 none
  statics := none }

def pool11 : Array CpInfo := pool [(1, .class_ 2), (0, u "java/lang/Math"), (1, .class_ 6), (1, u "java/lang/Object"), (0, u "<init>"), (0, u "()V"), (89, .class_ 100), (1, u "java/lang/Math$RandomNumberGeneratorHolder"), (23, u "abs"), (34, u "(I)I"), (12, u "negativeZeroFloatBits"), (0, u "J"), (2, u "negativeZeroDoubleBits"), (21, u "max"), (2, u "min"), (43, u "$assertionsDisabled"), (0, u "Z"), (88, u "(II)I"), (2, u "twoToTheDoubleScaleDown"), (0, u "D"), (4, u "twoToTheDoubleScaleUp"), (9, u "E"), (3, u "PI"), (2, u "TAU"), (2, u "DEGREES_TO_RADIANS"), (0, u "RADIANS_TO_DEGREES")] 94

def k11m0 : Method := { name := "<init>", desc := "()V", sig := { parameters := [], returnType := none }, accessFlags := 2, code := none }
def k11c1 : Code := { maxStack := 1, maxLocals := 1, code := jdk_29_method_59_code, exceptionTable := #[], attributes := #[] }
def k11m1 : Method := { name := "abs", desc := "(I)I", sig := { parameters := [.int], returnType := some .int }, accessFlags := 9, code := some k11c1 }
def k11c2 : Code := { maxStack := 2, maxLocals := 2, code := jdk_29_method_65_code, exceptionTable := #[], attributes := #[] }
def k11m2 : Method := { name := "max", desc := "(II)I", sig := { parameters := [.int, .int], returnType := some .int }, accessFlags := 9, code := some k11c2 }
def k11c3 : Code := { maxStack := 2, maxLocals := 2, code := jdk_29_method_69_code, exceptionTable := #[], attributes := #[] }
def k11m3 : Method := { name := "min", desc := "(II)I", sig := { parameters := [.int, .int], returnType := some .int }, accessFlags := 9, code := some k11c3 }
/-- java/lang/Math -/
def k11 : Class := { plain "java/lang/Math" (some 0) with
  accessFlags := 49
  interfaces := #[]
  cf := some (fileOf pool11 1 #[.nestMembers #[98]] #[{ accessFlags := 2, nameIndex := 7, descriptorIndex := 8, attributes := #[] }, { accessFlags := 9, nameIndex := 124, descriptorIndex := 159, attributes := #[] }, { accessFlags := 9, nameIndex := 198, descriptorIndex := 335, attributes := #[] }, { accessFlags := 9, nameIndex := 201, descriptorIndex := 335, attributes := #[] }] 49 4 #[] #[{ accessFlags := 25, nameIndex := 354, descriptorIndex := 339, attributes := #[] }, { accessFlags := 25, nameIndex := 358, descriptorIndex := 339, attributes := #[] }, { accessFlags := 25, nameIndex := 361, descriptorIndex := 339, attributes := #[] }, { accessFlags := 26, nameIndex := 364, descriptorIndex := 339, attributes := #[] }, { accessFlags := 26, nameIndex := 365, descriptorIndex := 339, attributes := #[] }, { accessFlags := 26, nameIndex := 172, descriptorIndex := 173, attributes := #[] }, { accessFlags := 26, nameIndex := 176, descriptorIndex := 173, attributes := #[] }, { accessFlags := 8, nameIndex := 344, descriptorIndex := 339, attributes := #[] }, { accessFlags := 8, nameIndex := 338, descriptorIndex := 339, attributes := #[] }, { accessFlags := 4120, nameIndex := 245, descriptorIndex := 246, attributes := #[] }])
  fields := #[{ name := "E", type := .double, accessFlags := 25, slot := 0, constantValue := 0 }, { name := "PI", type := .double, accessFlags := 25, slot := 1, constantValue := 0 }, { name := "TAU", type := .double, accessFlags := 25, slot := 2, constantValue := 0 }, { name := "DEGREES_TO_RADIANS", type := .double, accessFlags := 26, slot := 3, constantValue := 0 }, { name := "RADIANS_TO_DEGREES", type := .double, accessFlags := 26, slot := 4, constantValue := 0 }, { name := "negativeZeroFloatBits", type := .long, accessFlags := 26, slot := 5, constantValue := 0 }, { name := "negativeZeroDoubleBits", type := .long, accessFlags := 26, slot := 6, constantValue := 0 }, { name := "twoToTheDoubleScaleUp", type := .double, accessFlags := 8, slot := 7, constantValue := 0 }, { name := "twoToTheDoubleScaleDown", type := .double, accessFlags := 8, slot := 8, constantValue := 0 }, { name := "$assertionsDisabled", type := .boolean, accessFlags := 4120, slot := 9, constantValue := 0 }]
  methods := #[k11m0, k11m1, k11m2, k11m3]
  instanceTypes := #[]
  staticTypes := #[.double, .double, .double, .double, .double, .long, .long, .double, .double, .boolean]
  resolved := Array.replicate 460 none
  statics := none }

def pool12 : Array CpInfo := pool [(1, u "java/lang/Cloneable"), (0, .class_ 1), (0, u "java/lang/Object"), (0, .class_ 3)] 3

/-- java/lang/Cloneable -/
def k12 : Class := { plain "java/lang/Cloneable" (some 0) with
  accessFlags := 1537
  interfaces := #[]
  cf := some (fileOf pool12 2 #[] #[] 1537 4 #[] #[])
  fields := #[]
  methods := #[]
  instanceTypes := #[]
  staticTypes := #[]
  resolved := Array.replicate 8 none
  statics := none }

/-- the primitive boolean -/
def k13 : Class := { plain "boolean" none with kind := .primitive 'Z', accessFlags := 0x411 }
/-- [Z -/
def k14 : Class := { plain "[Z" (some 0) with kind := .array 13 .boolean, interfaces := #[12, 4], accessFlags := 1041 }

/-- the primitive byte -/
def k15 : Class := { plain "byte" none with kind := .primitive 'B', accessFlags := 0x411 }
/-- [B -/
def k16 : Class := { plain "[B" (some 0) with kind := .array 15 .byte, interfaces := #[12, 4], accessFlags := 1041 }

/-- the primitive int -/
def k17 : Class := { plain "int" none with kind := .primitive 'I', accessFlags := 0x411 }
/-- [I -/
def k18 : Class := { plain "[I" (some 0) with kind := .array 17 .int, interfaces := #[12, 4], accessFlags := 1041 }

/-- the primitive long -/
def k19 : Class := { plain "long" none with kind := .primitive 'J', accessFlags := 0x411 }
/-- [J -/
def k20 : Class := { plain "[J" (some 0) with kind := .array 19 .long, interfaces := #[12, 4], accessFlags := 1041 }

def heap : Heap := #[]
def classes : Array Class := #[k0, k1, k2, k3, k4, k5, k6, k7, k8, k9, k10, k11, k12, k13, k14, k15, k16, k17, k18, k19, k20]
def interned : List (Array UInt16 × Addr) := []
def slotsUsed : Nat := 0
def theMethod : MethodId := ⟨1, 1⟩
def args0 : Array Value := #[.int 3, .int 2, .int 1, .int 2, .int 515, .int 0]
def aboutOver (below : List Frame) : State where
  vm := { classes := classes, interned := interned.toArray }
  heap := heap
  slotsUsed := slotsUsed
  threads := #[{ frames := .invoking theMethod args0 :: below }]
def below0 : List Frame := [.native { method := ⟨0, 0⟩, args := #[] }]
def about1 : State := aboutOver below0
def p0 : Program := .bare "" "" ""
def e0 : Env := launch0.env 0 0 0
theorem w_frames : about1.frames = Frame.invoking theMethod args0 :: below0 := rfl
set_option maxRecDepth 65536 in
theorem w_args : argsFit about1.vm theMethod args0 = true := by decide +kernel
set_option maxRecDepth 65536 in
theorem w_heap : heapFits about1 = true := by decide +kernel
set_option maxRecDepth 65536 in
theorem w_runnable : about1.curStatus? = some .runnable := by decide +kernel
set_option maxRecDepth 65536 in
theorem w_alone : about1.alone = true := by decide +kernel
set_option maxRecDepth 65536 in
theorem w_named : about1.methodNamed? x = some theMethod := by decide +kernel
set_option maxRecDepth 65536 in
theorem w_hears : about1.hears theMethod below0 = true := by decide +kernel
set_option maxRecDepth 65536 in
theorem w_ripe : about1.ripe theMethod args0 below0 = true := by decide +kernel
theorem w_running : about1.status = .running := rfl
set_option maxRecDepth 65536 in
theorem w_room : about1.hasRoom e0.platform room_1 = true :=
  launch0.hasRoom_least _ room_1 (by decide +kernel) (by decide +kernel) (by decide +kernel) (by decide +kernel) (by decide +kernel) (by decide +kernel)
theorem allAtoms_all (ts : List Jvm.Cond) (a : Array Jvm.Value) (st : Jvm.State) : (allAtoms ts).before a st = ts.all (fun c => c.before a st) := by
  induction ts with
  | nil => rfl
  | cons c t ih =>
    show (Jvm.Cond.and c (allAtoms t)).before a st = _
    rw [Jvm.Cond.before_and, ih, List.all_cons]
def words1 : List Jvm.Cond := Jvm.Cond.code x code maxLocals ret :: tables_1
/-- a 'code' word, met by the world's own term for the bytes: nothing is compared byte by byte -/
theorem code_word {y : MethodName} {bytes : ByteArray} {mx : Nat} {rt : Option FieldType} {a : Array Value} {s : State} {m : MethodId} {meth : Method} {c : Code} (h1 : s.methodNamed? y = some m) (h2 : s.vm.method? m = some meth) (h3 : meth.code = some c) (h4 : c.code = bytes)
    (h5 : (c.maxLocals == mx && c.exceptionTable.isEmpty && decide (c.maxStack ≤ mostOperands) && decide (meth.sig.returnType = rt) && !meth.locks && decide (parseMethodDescriptor y.desc = some meth.sig)) = true) : (Jvm.Cond.code y bytes mx rt).before a s = true := by
  simp only [Bool.and_eq_true, beq_iff_eq, Bool.not_eq_true', decide_eq_true_eq] at h5
  obtain ⟨⟨⟨⟨⟨g1, g2⟩, g3⟩, g4⟩, g5⟩, g6⟩ := h5
  simp [Cond.before, Cond.holds, Cond.value, h1, h2, h3, h4, g1, g2, g3, g4, g5, g6]
def isCode : Jvm.Cond → Bool
  | .code _ _ _ _ => true
  | _ => false
theorem all_split {L : List Jvm.Cond} {P : Jvm.Cond → Bool} (h1 : L.all (fun c => isCode c || P c) = true) (h2 : ∀ c ∈ L.filter isCode, P c = true) : L.all P = true := by
  refine List.all_eq_true.mpr fun c hc => ?_
  have h := List.all_eq_true.mp h1 c hc
  rcases Bool.eq_false_or_eq_true (isCode c) with hi | hi
  · exact h2 c (List.mem_filter.mpr ⟨hc, hi⟩)
  · simpa [hi] using h
set_option maxRecDepth 65536 in
theorem w_c0 : (Jvm.Cond.code x code maxLocals ret).before args0 about1 = true := code_word (m := ⟨1, 1⟩) (meth := k1m1) (c := k1c1) (by decide +kernel) rfl rfl rfl (by decide +kernel)
set_option maxRecDepth 65536 in
theorem w_c1 : (Jvm.Cond.code ({ cls := "com/example/plywright/plywright/games/ConnectFour", name := "<init>", desc := "(II)V" } : Jvm.MethodName) prog_19_method_1_code (9 : Nat) (Option.none : Option Jvm.ClassFile.FieldType)).before args0 about1 = true := code_word (m := ⟨3, 0⟩) (meth := k3m0) (c := k3c0) (by decide +kernel) rfl rfl rfl (by decide +kernel)
set_option maxRecDepth 65536 in
theorem w_c2 : (Jvm.Cond.code ({ cls := "java/lang/Object", name := "<init>", desc := "()V" } : Jvm.MethodName) object_method_1_code (1 : Nat) (Option.none : Option Jvm.ClassFile.FieldType)).before args0 about1 = true := code_word (m := ⟨0, 0⟩) (meth := k0m0) (c := k0c0) (by decide +kernel) rfl rfl rfl (by decide +kernel)
set_option maxRecDepth 65536 in
theorem w_c3 : (Jvm.Cond.code ({ cls := "com/example/plywright/plywright/games/ConnectFour", name := "checkSize", desc := "(Ljava/lang/String;I)V" } : Jvm.MethodName) prog_19_method_3_code (2 : Nat) (Option.none : Option Jvm.ClassFile.FieldType)).before args0 about1 = true := code_word (m := ⟨3, 1⟩) (meth := k3m1) (c := k3c1) (by decide +kernel) rfl rfl rfl (by decide +kernel)
set_option maxRecDepth 65536 in
theorem w_c4 : (Jvm.Cond.code ({ cls := "com/example/plywright/plywright/core/Zobrist", name := "numbers", desc := "(I)[J" } : Jvm.MethodName) prog_14_method_2_code (7 : Nat) (Option.some (Jvm.ClassFile.FieldType.array Jvm.ClassFile.FieldType.long))).before args0 about1 = true := code_word (m := ⟨10, 1⟩) (meth := k10m1) (c := k10c1) (by decide +kernel) rfl rfl rfl (by decide +kernel)
set_option maxRecDepth 65536 in
theorem w_c5 : (Jvm.Cond.code ({ cls := "com/example/plywright/plywright/games/ConnectFour", name := "square", desc := "(II)I" } : Jvm.MethodName) prog_19_method_5_code (3 : Nat) (Option.some Jvm.ClassFile.FieldType.int)).before args0 about1 = true := code_word (m := ⟨3, 3⟩) (meth := k3m3) (c := k3c3) (by decide +kernel) rfl rfl rfl (by decide +kernel)
set_option maxRecDepth 65536 in
theorem w_c6 : (Jvm.Cond.code ({ cls := "com/example/plywright/plywright/games/ConnectFour", name := "play", desc := "(I)V" } : Jvm.MethodName) prog_19_method_12_code (4 : Nat) (Option.none : Option Jvm.ClassFile.FieldType)).before args0 about1 = true := code_word (m := ⟨3, 5⟩) (meth := k3m5) (c := k3c5) (by decide +kernel) rfl rfl rfl (by decide +kernel)
set_option maxRecDepth 65536 in
theorem w_c7 : (Jvm.Cond.code ({ cls := "com/example/plywright/plywright/games/ConnectFour", name := "sideToMove", desc := "()B" } : Jvm.MethodName) prog_19_method_4_code (1 : Nat) (Option.some Jvm.ClassFile.FieldType.byte)).before args0 about1 = true := code_word (m := ⟨3, 2⟩) (meth := k3m2) (c := k3c2) (by decide +kernel) rfl rfl rfl (by decide +kernel)
set_option maxRecDepth 65536 in
theorem w_c8 : (Jvm.Cond.code ({ cls := "com/example/plywright/plywright/games/ConnectFour", name := "keyChange", desc := "(IB)J" } : Jvm.MethodName) prog_19_method_13_code (3 : Nat) (Option.some Jvm.ClassFile.FieldType.long)).before args0 about1 = true := code_word (m := ⟨3, 6⟩) (meth := k3m6) (c := k3c6) (by decide +kernel) rfl rfl rfl (by decide +kernel)
set_option maxRecDepth 65536 in
theorem w_c9 : (Jvm.Cond.code ({ cls := "com/example/plywright/plywright/games/ConnectFour", name := "makesFour", desc := "(IB)Z" } : Jvm.MethodName) prog_19_method_14_code (8 : Nat) (Option.some Jvm.ClassFile.FieldType.boolean)).before args0 about1 = true := code_word (m := ⟨3, 7⟩) (meth := k3m7) (c := k3c7) (by decide +kernel) rfl rfl rfl (by decide +kernel)
set_option maxRecDepth 65536 in
theorem w_c10 : (Jvm.Cond.code ({ cls := "com/example/plywright/plywright/games/ConnectFour", name := "run", desc := "(IIB)I" } : Jvm.MethodName) prog_19_method_15_code (6 : Nat) (Option.some Jvm.ClassFile.FieldType.int)).before args0 about1 = true := code_word (m := ⟨3, 8⟩) (meth := k3m8) (c := k3c8) (by decide +kernel) rfl rfl rfl (by decide +kernel)
set_option maxRecDepth 65536 in
theorem w_c11 : (Jvm.Cond.code ({ cls := "com/example/plywright/plywright/games/ConnectFour", name := "moves", desc := "()[I" } : Jvm.MethodName) prog_19_method_11_code (8 : Nat) (Option.some (Jvm.ClassFile.FieldType.array Jvm.ClassFile.FieldType.int))).before args0 about1 = true := code_word (m := ⟨3, 4⟩) (meth := k3m4) (c := k3c4) (by decide +kernel) rfl rfl rfl (by decide +kernel)
set_option maxRecDepth 65536 in
theorem w_c12 : (Jvm.Cond.code ({ cls := "java/lang/Math", name := "min", desc := "(II)I" } : Jvm.MethodName) jdk_29_method_69_code (2 : Nat) (Option.some Jvm.ClassFile.FieldType.int)).before args0 about1 = true := code_word (m := ⟨11, 3⟩) (meth := k11m3) (c := k11c3) (by decide +kernel) rfl rfl rfl (by decide +kernel)
set_option maxRecDepth 65536 in
theorem w_c13 : (Jvm.Cond.code ({ cls := "com/example/plywright/plywright/games/ConnectFourMovesPinLaw", name := "ok", desc := "([IIIIIZZ)Z" } : Jvm.MethodName) method_3_code (8 : Nat) (Option.some Jvm.ClassFile.FieldType.boolean)).before args0 about1 = true := code_word (m := ⟨1, 2⟩) (meth := k1m2) (c := k1c2) (by decide +kernel) rfl rfl rfl (by decide +kernel)
set_option maxRecDepth 65536 in
theorem w_c14 : (Jvm.Cond.code ({ cls := "com/example/plywright/plywright/games/ConnectFourMovesPinLaw", name := "rank", desc := "(II)I" } : Jvm.MethodName) method_4_code (3 : Nat) (Option.some Jvm.ClassFile.FieldType.int)).before args0 about1 = true := code_word (m := ⟨1, 3⟩) (meth := k1m3) (c := k1c3) (by decide +kernel) rfl rfl rfl (by decide +kernel)
set_option maxRecDepth 65536 in
theorem w_c15 : (Jvm.Cond.code ({ cls := "java/lang/Math", name := "abs", desc := "(I)I" } : Jvm.MethodName) jdk_29_method_59_code (1 : Nat) (Option.some Jvm.ClassFile.FieldType.int)).before args0 about1 = true := code_word (m := ⟨11, 1⟩) (meth := k11m1) (c := k11c1) (by decide +kernel) rfl rfl rfl (by decide +kernel)
set_option maxRecDepth 65536 in
theorem w_c16 : (Jvm.Cond.code ({ cls := "java/lang/Math", name := "max", desc := "(II)I" } : Jvm.MethodName) jdk_29_method_65_code (2 : Nat) (Option.some Jvm.ClassFile.FieldType.int)).before args0 about1 = true := code_word (m := ⟨11, 2⟩) (meth := k11m2) (c := k11c2) (by decide +kernel) rfl rfl rfl (by decide +kernel)
def codes1 : List Jvm.Cond := [Jvm.Cond.code x code maxLocals ret, Jvm.Cond.code ({ cls := "com/example/plywright/plywright/games/ConnectFour", name := "<init>", desc := "(II)V" } : Jvm.MethodName) prog_19_method_1_code (9 : Nat) (Option.none : Option Jvm.ClassFile.FieldType), Jvm.Cond.code ({ cls := "java/lang/Object", name := "<init>", desc := "()V" } : Jvm.MethodName) object_method_1_code (1 : Nat) (Option.none : Option Jvm.ClassFile.FieldType), Jvm.Cond.code ({ cls := "com/example/plywright/plywright/games/ConnectFour", name := "checkSize", desc := "(Ljava/lang/String;I)V" } : Jvm.MethodName) prog_19_method_3_code (2 : Nat) (Option.none : Option Jvm.ClassFile.FieldType), Jvm.Cond.code ({ cls := "com/example/plywright/plywright/core/Zobrist", name := "numbers", desc := "(I)[J" } : Jvm.MethodName) prog_14_method_2_code (7 : Nat) (Option.some (Jvm.ClassFile.FieldType.array Jvm.ClassFile.FieldType.long)), Jvm.Cond.code ({ cls := "com/example/plywright/plywright/games/ConnectFour", name := "square", desc := "(II)I" } : Jvm.MethodName) prog_19_method_5_code (3 : Nat) (Option.some Jvm.ClassFile.FieldType.int), Jvm.Cond.code ({ cls := "com/example/plywright/plywright/games/ConnectFour", name := "play", desc := "(I)V" } : Jvm.MethodName) prog_19_method_12_code (4 : Nat) (Option.none : Option Jvm.ClassFile.FieldType), Jvm.Cond.code ({ cls := "com/example/plywright/plywright/games/ConnectFour", name := "sideToMove", desc := "()B" } : Jvm.MethodName) prog_19_method_4_code (1 : Nat) (Option.some Jvm.ClassFile.FieldType.byte), Jvm.Cond.code ({ cls := "com/example/plywright/plywright/games/ConnectFour", name := "keyChange", desc := "(IB)J" } : Jvm.MethodName) prog_19_method_13_code (3 : Nat) (Option.some Jvm.ClassFile.FieldType.long), Jvm.Cond.code ({ cls := "com/example/plywright/plywright/games/ConnectFour", name := "makesFour", desc := "(IB)Z" } : Jvm.MethodName) prog_19_method_14_code (8 : Nat) (Option.some Jvm.ClassFile.FieldType.boolean), Jvm.Cond.code ({ cls := "com/example/plywright/plywright/games/ConnectFour", name := "run", desc := "(IIB)I" } : Jvm.MethodName) prog_19_method_15_code (6 : Nat) (Option.some Jvm.ClassFile.FieldType.int), Jvm.Cond.code ({ cls := "com/example/plywright/plywright/games/ConnectFour", name := "moves", desc := "()[I" } : Jvm.MethodName) prog_19_method_11_code (8 : Nat) (Option.some (Jvm.ClassFile.FieldType.array Jvm.ClassFile.FieldType.int)), Jvm.Cond.code ({ cls := "java/lang/Math", name := "min", desc := "(II)I" } : Jvm.MethodName) jdk_29_method_69_code (2 : Nat) (Option.some Jvm.ClassFile.FieldType.int), Jvm.Cond.code ({ cls := "com/example/plywright/plywright/games/ConnectFourMovesPinLaw", name := "ok", desc := "([IIIIIZZ)Z" } : Jvm.MethodName) method_3_code (8 : Nat) (Option.some Jvm.ClassFile.FieldType.boolean), Jvm.Cond.code ({ cls := "com/example/plywright/plywright/games/ConnectFourMovesPinLaw", name := "rank", desc := "(II)I" } : Jvm.MethodName) method_4_code (3 : Nat) (Option.some Jvm.ClassFile.FieldType.int), Jvm.Cond.code ({ cls := "java/lang/Math", name := "abs", desc := "(I)I" } : Jvm.MethodName) jdk_29_method_59_code (1 : Nat) (Option.some Jvm.ClassFile.FieldType.int), Jvm.Cond.code ({ cls := "java/lang/Math", name := "max", desc := "(II)I" } : Jvm.MethodName) jdk_29_method_65_code (2 : Nat) (Option.some Jvm.ClassFile.FieldType.int)]
set_option maxRecDepth 65536 in
theorem codes_eq : words1.filter isCode = codes1 := rfl
theorem w_codes : ∀ c ∈ words1.filter isCode, c.before args0 about1 = true := by
  rw [codes_eq]
  intro c hc
  simp only [codes1, List.mem_cons, List.not_mem_nil, or_false] at hc
  rcases hc with rfl | rfl | rfl | rfl | rfl | rfl | rfl | rfl | rfl | rfl | rfl | rfl | rfl | rfl | rfl | rfl | rfl
  · exact w_c0
  · exact w_c1
  · exact w_c2
  · exact w_c3
  · exact w_c4
  · exact w_c5
  · exact w_c6
  · exact w_c7
  · exact w_c8
  · exact w_c9
  · exact w_c10
  · exact w_c11
  · exact w_c12
  · exact w_c13
  · exact w_c14
  · exact w_c15
  · exact w_c16
set_option maxRecDepth 65536 in
theorem w_t1 : (words1.take 24).all (fun c => isCode c || c.before args0 about1) = true := by decide +kernel
set_option maxRecDepth 65536 in
theorem w_t2 : ((words1.drop 24).take 24).all (fun c => isCode c || c.before args0 about1) = true := by decide +kernel
set_option maxRecDepth 65536 in
theorem w_t3 : (((words1.drop 24).drop 24).take 24).all (fun c => isCode c || c.before args0 about1) = true := by decide +kernel
set_option maxRecDepth 65536 in
theorem w_t4 : ((((words1.drop 24).drop 24).drop 24).take 24).all (fun c => isCode c || c.before args0 about1) = true := by decide +kernel
set_option maxRecDepth 65536 in
theorem w_t5 : ((((words1.drop 24).drop 24).drop 24).drop 24).all (fun c => isCode c || c.before args0 about1) = true := by decide +kernel
theorem w_tables : (allAtoms (Jvm.Cond.code x code maxLocals ret :: tables_1)).before args0 about1 = true := by
  rw [allAtoms_all]
  show words1.all (fun c => c.before args0 about1) = true
  refine all_split ?_ w_codes
  rw [← List.take_append_drop 24 words1, List.all_append, w_t1, ← List.take_append_drop 24 (words1.drop 24), List.all_append, w_t2, ← List.take_append_drop 24 ((words1.drop 24).drop 24), List.all_append, w_t3, ← List.take_append_drop 24 (((words1.drop 24).drop 24).drop 24), List.all_append, w_t4, w_t5]
  rfl
set_option maxRecDepth 65536 in
theorem w_case : (Jvm.Cond.and given_1 narrow_1).before args0 about1 = true := by decide +kernel
theorem w_applies : (headSpec (Jvm.Cond.code x code maxLocals ret :: tables_1) room_1).applies x e0.platform about1 = true :=
  (Spec.applies_iff w_frames).mpr ⟨w_running, w_runnable, w_alone, w_named, w_hears, w_ripe, w_room, w_tables⟩
theorem atStart : AtStart classFile x code maxLocals ret World_1 tables_1 room_1 Calls_1 rest_1 Pre_1 launch0 p0 e0 about1 theMethod args0 below0 :=
  ⟨lists_1, trivial, launch0.admits_env _ _ _, launch0.least_env, fairChoices_fair.cas, fairChoices_fair.clock, w_frames, w_args, w_heap, w_applies, trivial, trivial, w_case⟩
end start1
theorem witness_1 : WitnessClaimed_1 := ⟨start1.p0, start1.e0, start1.about1, start1.theMethod, start1.args0, start1.below0, start1.atStart⟩
end Jvm.Pilot.@@N@@
